import JvmDerived
import JvmDerived.Pilot.@@N@@Statement
import JvmDerived.Pilot.@@N@@Code
set_option linter.unusedVariables false
set_option linter.unusedSimpArgs false

namespace Jvm.Pilot.@@N@@
open Jvm Jvm.ClassFile Sem Op Lib Jvm.Free Jvm.Stand Jvm.LawKit Jvm.RoadKit Bundle Jvm.Pilot.@@N@@.Jvm.D

section OwnKit
variable {p : Program} {l : Launch} {e : Env} {R : Room} {s : State} {m : MethodId} {args : Array Value} {below : List Frame} {meth : Method} {c : Code} {T : State} {locs : List Loc} {cells slots : Nat} {G : Outcome → State → Prop} {Q : Option Value → Heap → List Loc → Prop} {C S : Nat} {Z : State} {h h' : Heap}
/-- from the state t the invocation comes to an end of which G holds -/
def own_Fin (p : Program) (e : Env) (below : List Frame) (G : Outcome → State → Prop) (t : State) : Prop := ∃ s₂ o, Steps p.tables e below t s₂ ∧ s₂.status = .running ∧ Ended s₂ below o ∧ G o s₂
def own_G (s : State) (Q : Option Value → Heap → List Loc → Prop) (C S : Nat) (o : Outcome) (U' : State) : Prop := ∃ v L, o = .returned v ∧ Q v U'.heap L ∧ FrameEnd s o U' L C S
theorem own_to {t u : State} (h : ∀ z, Steps p.tables e below u z → Steps p.tables e below t z) (k : own_Fin p e below G u) : own_Fin p e below G t := by
  obtain ⟨a, b, c, d⟩ := k; exact ⟨a, b, h _ c, d⟩
theorem own_via {t u : State} (h : Steps p.tables e below t u) (k : own_Fin p e below G u) : own_Fin p e below G t := own_to (fun _ kz => h.trans kz) k
theorem own_retW (X : Stand p l e R s m args below meth c T locs cells slots) (hx : p.tables.exec = Jvm.exec) (hlk : meth.locks = false) (hG : G = own_G s Q C S) {f : JFrame} {w : Option Value} (hv : meth.sig.returnType = none → w = none)
    (st : ∀ fs, (∀ (f : JFrame) (acts : List Action), f.method = m → f.locked = none → f.entered = [] → (doReturn e (T.setTop f) acts w).1 = T.setFrames fs) → Steps p.tables e below (T.setTop f) (T.setFrames fs))
    (hc : cells ≤ C) (hs : slots ≤ S) (hQ : Q w T.heap locs) : own_Fin p e below G (T.setTop f) := by
  subst hG
  obtain ⟨fs, hr, hrun, hended, hW, hsame⟩ := X.leave (v := w) hv hlk
  exact ⟨_, _, st fs hr, hrun, hended, _, _, rfl, hQ, ⟨_, rfl⟩, hW, hsame.mono hc hs⟩
theorem own_retI (X : Stand p l e R s m args below meth c T locs cells slots) (hx : p.tables.exec = Jvm.exec) (hlk : meth.locks = false) (hG : G = own_G s Q C S) {pc : Nat} {Ls : Array Slot} {z : Int32} {rest : List Value} (hret : meth.sig.returnType = some .int) (hd : decode c.code pc = .ok (.ireturn, 1))
    (hc : cells ≤ C) (hs : slots ≤ S) (hQ : Q (some (.int z)) T.heap locs) : own_Fin p e below G (T.setTop (mkF m pc Ls (.int z :: rest))) :=
  own_retW X hx hlk hG (w := some (.int z)) (fun h => by rw [hret] at h; cases h) (fun fs hr => retOut X hx hret rfl (Or.inl ⟨rfl, Or.inl rfl, z, rfl⟩) hd hr) hc hs hQ
theorem own_retJ (X : Stand p l e R s m args below meth c T locs cells slots) (hx : p.tables.exec = Jvm.exec) (hlk : meth.locks = false) (hG : G = own_G s Q C S) {pc : Nat} {Ls : Array Slot} {z : Int64} {rest : List Value} (hret : meth.sig.returnType = some .long) (hd : decode c.code pc = .ok (.lreturn, 1))
    (hc : cells ≤ C) (hs : slots ≤ S) (hQ : Q (some (.long z)) T.heap locs) : own_Fin p e below G (T.setTop (mkF m pc Ls (.long z :: rest))) :=
  own_retW X hx hlk hG (w := some (.long z)) (fun h => by rw [hret] at h; cases h) (fun fs hr => retOut X hx hret rfl (Or.inr (Or.inl ⟨rfl, rfl, z, rfl⟩)) hd hr) hc hs hQ
theorem own_retA (X : Stand p l e R s m args below meth c T locs cells slots) (hx : p.tables.exec = Jvm.exec) (hlk : meth.locks = false) (hG : G = own_G s Q C S) {pc : Nat} {Ls : Array Slot} {w : Value} {rest : List Value} {t : FieldType} (hret : meth.sig.returnType = some t) (ht : t.isReference = true) (hw : w.isRef = true) (hd : decode c.code pc = .ok (.areturn, 1))
    (hc : cells ≤ C) (hs : slots ≤ S) (hQ : Q (some w) T.heap locs) : own_Fin p e below G (T.setTop (mkF m pc Ls (w :: rest))) :=
  own_retW X hx hlk hG (w := some w) (fun h => by rw [hret] at h; cases h) (fun fs hr => retOut X hx hret (by rcases ref_cases hw with rfl | ⟨a, rfl⟩ <;> cases t <;> first | rfl | (simp [FieldType.isReference] at ht)) (Or.inr (Or.inr (Or.inr (Or.inr ⟨rfl, ht, hw⟩)))) hd hr) hc hs hQ
theorem own_retN (X : Stand p l e R s m args below meth c T locs cells slots) (hx : p.tables.exec = Jvm.exec) (hlk : meth.locks = false) (hG : G = own_G s Q C S) {pc : Nat} {Ls : Array Slot} {z : Int32} {rest : List Value} {t : FieldType} (hret : meth.sig.returnType = some t) (ht : t = .boolean ∨ t = .byte ∨ t = .char ∨ t = .short) (hd : decode c.code pc = .ok (.ireturn, 1))
    (hc : cells ≤ C) (hs : slots ≤ S) (hQ : Q (some (.int (nar t z))) T.heap locs) : own_Fin p e below G (T.setTop (mkF m pc Ls (.int z :: rest))) :=
  own_retW X hx hlk hG (w := some (.int (nar t z))) (fun h => by rw [hret] at h; cases h) (fun fs hr => retN X hx hret ht hd hr) hc hs hQ
theorem own_retV (X : Stand p l e R s m args below meth c T locs cells slots) (hx : p.tables.exec = Jvm.exec) (hlk : meth.locks = false) (hG : G = own_G s Q C S) {pc : Nat} {Ls : Array Slot} (hret : meth.sig.returnType = none) (hd : decode c.code pc = .ok (.return_, 1))
    (hc : cells ≤ C) (hs : slots ≤ S) (hQ : Q none T.heap locs) : own_Fin p e below G (T.setTop (mkF m pc Ls [])) :=
  own_retW X hx hlk hG (w := none) (fun _ => rfl) (fun fs hr => X.returnOut hx hret hd hr) hc hs hQ
theorem own_lrem {g : JFrame} {target : State} (X : Stand p l e R s m args below meth c T locs cells slots) (hx : p.tables.exec = Jvm.exec) (hg : g.method = m) {x y : Int64} {rest : List Value} (hd : decode c.code g.pc = .ok (.lrem, 1)) (hs : g.stack = .long y :: .long x :: rest) (hy : y ≠ 0)
    (hr : Steps p.tables e below (T.setTop { g with pc := g.pc + 1, stack := .long (x % y) :: rest }) target) : Steps p.tables e below (T.setTop g) target := by
  have q : x - x / y * y = x % y := lrem_mod x y
  exact XS.lrem X.here hx hg hd hs hy (by rw [q]; exact hr)
def own_Pair (a b : Slot) : Prop := (a = .unset ∧ b = .unset) ∨ ∃ x, a = .val (.long x) ∧ b = .second
/-- the array at a has n places; place i holds mk (f i) -/
def own_AV {α : Type} (mk : α → Value) (Z : State) (h : Heap) (a : Addr) (ty : FieldType) (n : Nat) (f : Nat → α) : Prop := n < 2 ^ 31 ∧ ∃ c : Cell, Arr Z h a c ty ∧ c.slots.size = n ∧ ∀ i, i < n → c.slots[i]? = some (mk (f i))
def own_upd {α : Type} (f : Nat → α) (k : Nat) (v : α) : Nat → α := fun i => if i = k then v else f i
section
variable {α : Type} {mk : α → Value} {a b : Addr} {ty : FieldType} {n : Nat} {f f' : Nat → α} {ws : List Addr} {sl : Nat} {v : Value}
theorem own_AV.lt (F : own_AV mk Z h a ty n f) : a < h.size := by obtain ⟨_, c, A, -⟩ := F; exact A.lt
theorem own_AV.ext (F : own_AV mk Z h a ty n f) (E : Ext h h') : own_AV mk Z h' a ty n f := by obtain ⟨q, c, A, r⟩ := F; exact ⟨q, c, A.ext E, r⟩
theorem own_AV.other (F : own_AV mk Z h b ty n f) (W : Wr h h' a sl v) (q : b ≠ a) : own_AV mk Z h' b ty n f := by obtain ⟨q', c, A, r⟩ := F; exact ⟨q', c, A.other W q, r⟩
theorem own_AV.keep (F : own_AV mk Z h a ty n f) (K : Keep h h' ws) (q : a ∉ ws) : own_AV mk Z h' a ty n f := by obtain ⟨q', c, A, r⟩ := F; exact ⟨q', c, ⟨K.2.1 a c A.1 q, A.2⟩, r⟩
theorem own_AV.congr (F : own_AV mk Z h a ty n f) (q : ∀ i, i < n → f i = f' i) : own_AV mk Z h a ty n f' := by obtain ⟨q', c, A, r, s⟩ := F; exact ⟨q', c, A, r, fun i hi => by rw [s i hi, q i hi]⟩
theorem own_AV.new {k : ClassId} {z : Int32} (A : Arr Z h a (newA k ty z) ty) (q : ¬ z < 0) (hn : z.toNatClampNeg = n) (hf : ∀ i : Nat, defaultValue ty = mk (f i)) : own_AV mk Z h a ty n f := by
  refine ⟨hn ▸ (back32 q).2, _, A, (sz_new _ _ _).trans hn, fun i hi => ?_⟩
  rw [← hf i]; simp [newA, hn, hi]
theorem own_updr {P : α → Prop} {k : Nat} {w : α} (hv : P w) (hf : ∀ i, P (f i)) : ∀ i, P (own_upd f k w i) := fun i => by
  unfold own_upd; split
  · exact hv
  · exact hf i
theorem own_in {c : Cell} {j : Int32} {k : Nat} (S : c.slots.size = n) (hj : ¬ j < 0) (hk : j.toNatClampNeg = k) (hlt : k < n) : ¬ (j < 0 ∨ c.slots.size ≤ j.toNatClampNeg) := fun q => q.elim hj fun r => by omega
theorem own_AV.set {c : Cell} {j : Int32} {k : Nat} {w : α} (nn : n < 2 ^ 31) (A : Arr Z h a c ty) (S : c.slots.size = n) (H : ∀ i, i < n → c.slots[i]? = some (mk (f i))) (W : Wr h h' a j.toNatClampNeg (mk w)) (hk : j.toNatClampNeg = k) : own_AV mk Z h' a ty n (own_upd f k w) := by
  subst hk
  refine ⟨nn, _, A.same W, by rw [sz_set]; exact S, fun i hi => ?_⟩
  show (c.setSlot j.toNatClampNeg (mk w)).slots[i]? = some (mk (if i = j.toNatClampNeg then w else f i))
  simp only [Cell.setSlot]
  by_cases q : i = j.toNatClampNeg
  · subst q; rw [if_pos rfl]; simp [S, hi]
  · rw [if_neg q, Array.getElem?_setIfInBounds_ne (fun r => q r.symm)]; exact H i hi
theorem own_iaload (X : Stand p l e R s m args below meth c T locs cells slots) (hx : p.tables.exec = Jvm.exec) (hZ : Z.Warmed39 s.vm) (eT : T.heap = h) {f : Nat → Int32} (F : own_AV Value.int Z h a .int n f) {j : Int32} {k : Nat} (hj : ¬ j < 0) (hk : j.toNatClampNeg = k) (hlt : k < n)
    {g : JFrame} (hg : g.method = m) {rest : List Value} (hs : g.stack = .int j :: .ref a :: rest) (hd : decode c.code g.pc = .ok (.iaload, 1)) {target : State} (hr : Steps p.tables e below (T.setTop { g with pc := g.pc + 1, stack := .int (f k) :: rest }) target) : Steps p.tables e below (T.setTop g) target := by
  obtain ⟨_, cl, A, S, H⟩ := F
  exact X.iaload hx (j := j) (v := .int (f k)) (by rw [eT]; exact A.1) (State.isArrayOf_alike hZ.alike A.2.1) A.2.2 (own_in S hj hk hlt) (by rw [hk]; exact H k hlt) hg hs hd _ hr
theorem own_laload (X : Stand p l e R s m args below meth c T locs cells slots) (hx : p.tables.exec = Jvm.exec) (hZ : Z.Warmed39 s.vm) (eT : T.heap = h) {f : Nat → Int64} (F : own_AV Value.long Z h a .long n f) {j : Int32} {k : Nat} (hj : ¬ j < 0) (hk : j.toNatClampNeg = k) (hlt : k < n)
    {g : JFrame} (hg : g.method = m) {rest : List Value} (hs : g.stack = .int j :: .ref a :: rest) (hd : decode c.code g.pc = .ok (.laload, 1)) {target : State} (hr : Steps p.tables e below (T.setTop { g with pc := g.pc + 1, stack := .long (f k) :: rest }) target) : Steps p.tables e below (T.setTop g) target := by
  obtain ⟨_, cl, A, S, H⟩ := F
  exact X.laload hx (j := j) (v := .long (f k)) (by rw [eT]; exact A.1) (State.isArrayOf_alike hZ.alike A.2.1) A.2.2 (own_in S hj hk hlt) (by rw [hk]; exact H k hlt) hg hs hd _ hr
theorem own_baload (X : Stand p l e R s m args below meth c T locs cells slots) (hx : p.tables.exec = Jvm.exec) (hZ : Z.Warmed39 s.vm) (eT : T.heap = h) {f : Nat → Int32} (F : own_AV Value.int Z h a .byte n f) {j : Int32} {k : Nat} (hj : ¬ j < 0) (hk : j.toNatClampNeg = k) (hlt : k < n)
    {g : JFrame} (hg : g.method = m) {rest : List Value} (hs : g.stack = .int j :: .ref a :: rest) (hd : decode c.code g.pc = .ok (.baload, 1)) {target : State} (hr : Steps p.tables e below (T.setTop { g with pc := g.pc + 1, stack := .int (f k) :: rest }) target) : Steps p.tables e below (T.setTop g) target := by
  obtain ⟨_, cl, A, S, H⟩ := F
  exact X.baloadBytes hx (j := j) (v := .int (f k)) (by rw [eT]; exact A.1) (State.isArrayOf_alike hZ.alike A.2.1) A.2.2 (own_in S hj hk hlt) (by rw [hk]; exact H k hlt) hg hs hd _ hr
theorem own_cloneI (X : Stand p l e R s m args below meth c T locs cells slots) (hx : p.tables.exec = Jvm.exec) (hZ : Z.Warmed39 s.vm) {a0 : Array Value} {own ad : String} {index : Nat} (hown : s.vm.findClass own = some m.cls)
    (w1 : (Cond.methodLink own index ⟨ad, "clone", "()Ljava/lang/Object;"⟩).before a0 Z = true) (w2 : (Cond.sameMethod ad "java/lang/Object" "clone" "()Ljava/lang/Object;").before a0 Z = true) (w3 : (Cond.native ⟨"java/lang/Object", "clone", "()Ljava/lang/Object;"⟩).before a0 Z = true)
    (w4 : (Cond.instanceMethod ⟨"java/lang/Object", "clone", "()Ljava/lang/Object;"⟩).before a0 Z = true) (w5 : (Cond.selects ad ⟨ad, "clone", "()Ljava/lang/Object;"⟩ ⟨"java/lang/Object", "clone", "()Ljava/lang/Object;"⟩).before a0 Z = true) (w6 : (Cond.castable ad "java/lang/Cloneable").before a0 Z = true)
    (eT : T.heap = h) {f : Nat → Int32} (F : own_AV Value.int Z h a .int n f) (E : Exa Z h a ad) {g : JFrame} (hg : g.method = m) (hsize : g.locals.size = c.maxLocals) {rest : List Value} (hs : g.stack = .ref a :: rest) (hd : decode c.code g.pc = .ok (.invokevirtual index, 3))
    (hf : 1 ≤ R.frames) {W cap : Nat} (hW : 2 * g.monitorRoom + (rest.map fun v => v.category).sum ≤ W) (hl : W + 14 ≤ R.locals) (hcap : n ≤ cap) (hc : cells + 1 ≤ R.cells) (hsl : slots + cap ≤ R.slots) :
    ∃ T' h', Stand p l e R s m args below meth c T' locs (cells + 1) (slots + cap) ∧ T'.heap = h' ∧ Ext h h' ∧ own_AV Value.int Z h' h.size .int n f ∧ Exa Z h' h.size ad ∧
      ∀ target, Steps p.tables e below (T'.setTop { g with pc := g.pc + 3, stack := .ref h.size :: rest }) target → Steps p.tables e below (T.setTop g) target := by
  obtain ⟨nn, cl, A, S, H⟩ := F
  have FC : FitC Z cl := fitC_of A fun i hi v hv => by rw [H i (S ▸ hi)] at hv; cases hv; rfl
  obtain ⟨T', h', X', e', ex, A', E', st⟩ := cloneA X hx hZ hown w1 w2 w3 w4 w5 w6 eT A E FC hg hsize hs hd hf hW hl (by rw [S]; exact hcap) hc hsl
  exact ⟨T', h', X', e', ex, ⟨nn, cloneOf cl, A', S, H⟩, E', st⟩
theorem own_alen (X : Stand p l e R s m args below meth c T locs cells slots) (hx : p.tables.exec = Jvm.exec) (hZ : Z.Warmed39 s.vm) (eT : T.heap = h) (F : own_AV mk Z h a ty n f) {z : Int32} (hz : n.toInt32 = z)
    {g : JFrame} (hg : g.method = m) {rest : List Value} (hs : g.stack = .ref a :: rest) (hd : decode c.code g.pc = .ok (.arraylength, 1)) {target : State} (hr : Steps p.tables e below (T.setTop { g with pc := g.pc + 1, stack := .int z :: rest }) target) : Steps p.tables e below (T.setTop g) target := by
  obtain ⟨_, cl, A, S, H⟩ := F
  exact X.arraylength hx (by rw [eT]; exact A.1) (State.isArrayOf_alike hZ.alike A.2.1) hg hs hd _ (by rw [S, hz]; exact hr)
end
end OwnKit
def own_sum (f : Nat → Int64) : Nat → Int64
  | 0 => 0
  | k + 1 => own_sum f k + f k
theorem own_z32 : (0 : Int32).toInt = 0 := by decide
theorem own_nneg {i : Int32} (h : 0 ≤ i.toInt) : ¬ i < 0 := by rw [Int32.lt_iff_toInt_lt, own_z32]; omega
theorem own_natc {i : Int32} (h : 0 ≤ i.toInt) : (i.toNatClampNeg : Int) = i.toInt := (nat_of (own_nneg h)).symm
theorem own_ofNat {n : Nat} (h : n < 2 ^ 31) : (Int32.ofNat n).toInt = n := Int32.toInt_ofNat_of_lt h
theorem own_inc {i : Int32} {n : Nat} (hn : n < 2 ^ 31) (h : 0 ≤ i.toInt) (h2 : i.toInt < n) : (i + (1 : Int32)).toInt = i.toInt + 1 := by
  have e := c_iadd i 1; have r := rng32 (i + 1); have o : (1 : Int32).toInt = 1 := by decide
  omega
/-- a turn more: i + 1, the place i -/
theorem own_up {i : Int32} {n : Nat} (hn : n < 2 ^ 31) (hi : 0 ≤ i.toInt ∧ i.toInt ≤ n) (hc : i < Int32.ofNat n) :
    (0 ≤ (i + (1 : Int32)).toInt ∧ (i + (1 : Int32)).toInt ≤ n) ∧ (¬ i < 0 ∧ i.toNatClampNeg < n) ∧ (i + (1 : Int32)).toNatClampNeg = i.toNatClampNeg + 1 := by
  rw [Int32.lt_iff_toInt_lt, own_ofNat hn] at hc
  have e := own_inc hn hi.1 hc
  have a := own_natc hi.1
  have b := own_natc (i := i + 1) (by omega)
  exact ⟨by omega, ⟨own_nneg hi.1, by omega⟩, by omega⟩
theorem own_dec {i : Int32} {n k : Nat} (hn : n < 2 ^ 31) (hi : 0 ≤ i.toInt ∧ i.toInt ≤ n) (hc : i < Int32.ofNat n) (hm : n - i.toNatClampNeg = k) : n - (i + (1 : Int32)).toNatClampNeg < k := by
  have h := own_up hn hi hc
  omega
theorem own_last {i : Int32} {n : Nat} (hn : n < 2 ^ 31) (hi : 0 ≤ i.toInt ∧ i.toInt ≤ n) (hc : ¬ i < Int32.ofNat n) : i.toNatClampNeg = n := by
  rw [Int32.lt_iff_toInt_lt, own_ofNat hn] at hc
  have a := own_natc hi.1
  omega

def own_one {α : Type} (f : Nat → α) (p h : Int32) (x : α) : Nat → α := if h = 0 then f else own_upd f p.toNatClampNeg x
def own_ret (p h : Int32) : Int32 := if h = 0 then p else p + (1 : Int32)
def own_put {α : Type} (f : Nat → α) (p hX : Int32) (x : α) (hY : Int32) (y : α) (s : Int32) : Nat → α := if s = 0 then own_one (own_one f p hX x) (own_ret p hX) hY y else own_one (own_one f p hY y) (own_ret p hY) hX x
def own_pr (p hX hY s : Int32) : Int32 := if s = 0 then own_ret (own_ret p hX) hY else own_ret (own_ret p hY) hX
def own_okp (p h : Int32) : Prop := h = 0 ∨ (¬ p < 0 ∧ p.toNatClampNeg < 6)
theorem own_retb {p h : Int32} (hp : 0 ≤ p.toInt ∧ p.toInt ≤ 5) : p.toInt ≤ (own_ret p h).toInt ∧ (own_ret p h).toInt ≤ p.toInt + 1 := by
  unfold own_ret; split
  · omega
  · have e := c_iadd p 1; have r := rng32 (p + 1); have o : (1 : Int32).toInt = 1 := by decide
    omega
theorem own_ok5 {p h : Int32} (hp : 0 ≤ p.toInt ∧ p.toInt ≤ 5) : own_okp p h := Or.inr ⟨own_nneg hp.1, by have := own_natc hp.1; omega⟩
theorem own_ok4 {p h h' : Int32} (hp : 0 ≤ p.toInt ∧ p.toInt ≤ 4) : own_okp (own_ret p h) h' := by
  have := own_retb (p := p) (h := h) ⟨hp.1, by omega⟩
  exact own_ok5 ⟨by omega, by omega⟩
theorem own_prb {p hX hY s : Int32} (hp : 0 ≤ p.toInt ∧ p.toInt ≤ 4) : p.toInt ≤ (own_pr p hX hY s).toInt ∧ (own_pr p hX hY s).toInt ≤ p.toInt + 2 := by
  unfold own_pr; split
  · have a := own_retb (p := p) (h := hX) ⟨hp.1, by omega⟩
    have b := own_retb (p := own_ret p hX) (h := hY) ⟨by omega, by omega⟩
    omega
  · have a := own_retb (p := p) (h := hY) ⟨hp.1, by omega⟩
    have b := own_retb (p := own_ret p hY) (h := hX) ⟨by omega, by omega⟩
    omega
def own_find (xs ys : Nat → Int32) (v : Int32) : Nat → Nat → Int32
  | 0, _ => -1
  | k + 1, i => if xs i = v then ys i else own_find xs ys v k (i + 1)
def own_got (ss xs ys : Nat → Int32) (u v : Int32) : Int32 := own_find xs ys v ((ss (u + (1 : Int32)).toNatClampNeg).toInt - (ss u.toNatClampNeg).toInt).toNat (ss u.toNatClampNeg).toNatClampNeg
def own_span (ss : Nat → Int32) (u : Int32) : Prop := (0 ≤ u.toInt ∧ u.toInt ≤ 2) ∧ 0 ≤ (ss u.toNatClampNeg).toInt ∧ (ss u.toNatClampNeg).toInt ≤ (ss (u + (1 : Int32)).toNatClampNeg).toInt ∧ (ss (u + (1 : Int32)).toNatClampNeg).toInt ≤ 6
theorem own_u {ss : Nat → Int32} {u : Int32} (h : own_span ss u) : (¬ u < 0 ∧ u.toNatClampNeg < 4) ∧ (¬ (u + (1 : Int32)) < 0 ∧ (u + (1 : Int32)).toNatClampNeg < 4) := by
  obtain ⟨⟨h1, h2⟩, -⟩ := h
  have e := c_iadd u 1; have r := rng32 (u + 1); have o : (1 : Int32).toInt = 1 := by decide
  have a := own_natc h1; have b := own_natc (i := u + 1) (by omega)
  exact ⟨⟨own_nneg h1, by omega⟩, own_nneg (by omega), by omega⟩
theorem own_i {ss : Nat → Int32} {u i : Int32} (h : own_span ss u) (hi : (ss u.toNatClampNeg).toInt ≤ i.toInt ∧ i.toInt ≤ (ss (u + (1 : Int32)).toNatClampNeg).toInt) (hc : i < ss (u + (1 : Int32)).toNatClampNeg) : ¬ i < 0 ∧ i.toNatClampNeg < 6 ∧ (i + (1 : Int32)).toInt = i.toInt + 1 ∧ (i + (1 : Int32)).toNatClampNeg = i.toNatClampNeg + 1 := by
  obtain ⟨-, h1, h2, h3⟩ := h
  rw [Int32.lt_iff_toInt_lt] at hc
  have e := c_iadd i 1; have r := rng32 (i + 1); have o : (1 : Int32).toInt = 1 := by decide
  have a := own_natc (i := i) (by omega); have b := own_natc (i := i + 1) (by omega)
  exact ⟨own_nneg (by omega), by omega, by omega, by omega⟩
theorem own_f1 {ss xs ys : Nat → Int32} {u v i : Int32} (h : own_span ss u) (hi : (ss u.toNatClampNeg).toInt ≤ i.toInt ∧ i.toInt ≤ (ss (u + (1 : Int32)).toNatClampNeg).toInt) (hc : i < ss (u + (1 : Int32)).toNatClampNeg) : own_find xs ys v ((ss (u + (1 : Int32)).toNatClampNeg).toInt - i.toInt).toNat i.toNatClampNeg = if xs i.toNatClampNeg = v then ys i.toNatClampNeg else own_find xs ys v ((ss (u + (1 : Int32)).toNatClampNeg).toInt - (i + (1 : Int32)).toInt).toNat (i + (1 : Int32)).toNatClampNeg := by
  have q := own_i h hi hc
  rw [Int32.lt_iff_toInt_lt] at hc
  have e : ((ss (u + (1 : Int32)).toNatClampNeg).toInt - i.toInt).toNat = ((ss (u + (1 : Int32)).toNatClampNeg).toInt - (i + (1 : Int32)).toInt).toNat + 1 := by omega
  rw [e, own_find, q.2.2.2]
theorem own_f0 {ss xs ys : Nat → Int32} {u v i : Int32} (hc : ¬ i < ss (u + (1 : Int32)).toNatClampNeg) : own_find xs ys v ((ss (u + (1 : Int32)).toNatClampNeg).toInt - i.toInt).toNat i.toNatClampNeg = -1 := by
  rw [Int32.lt_iff_toInt_lt] at hc
  have e : ((ss (u + (1 : Int32)).toNatClampNeg).toInt - i.toInt).toNat = 0 := by omega
  rw [e, own_find]
theorem d6_0 : decode jdk_29_method_69_code 0 = .ok (.iload_n 0, 1) := by decide +kernel
theorem d6_1 : decode jdk_29_method_69_code 1 = .ok (.iload_n 1, 1) := by decide +kernel
theorem d6_2 : decode jdk_29_method_69_code 2 = .ok (.if_icmp .gt 7, 3) := by decide +kernel
theorem d6_5 : decode jdk_29_method_69_code 5 = .ok (.iload_n 0, 1) := by decide +kernel
theorem d6_6 : decode jdk_29_method_69_code 6 = .ok (.goto 4, 3) := by decide +kernel
theorem d6_9 : decode jdk_29_method_69_code 9 = .ok (.iload_n 1, 1) := by decide +kernel
theorem d6_10 : decode jdk_29_method_69_code 10 = .ok (.ireturn, 1) := by decide +kernel
theorem ef6 (m : MethodId) (p0 : Int32) (p1 : Int32) : entryFrame m #[(.int p0), (.int p1)] 2 = mkF m 0 #[.val (.int p0), .val (.int p1)] [] := by first | (simp [entryFrame, mkF, argsToLocals, Value.category]; done) | rfl
def f6 (p0 : Int32) (p1 : Int32) : Int32 := if p1 < p0 then p1 else p0
def Q6 (Z : State) (p0 : Int32) (p1 : Int32) (h0 : Heap) (n0 : Nat) (v : Option Value) (h : Heap) (L : List Loc) : Prop := v = some (.int (f6 p0 p1)) ∧ Fr n0 L ∧ h = h0
set_option maxRecDepth 65536 in
set_option maxHeartbeats 40000000 in
theorem rm6 (l : Launch) (Z : State) (a0 : Array Value) (hw : ∀ d ∈ tables_1, d.before a0 Z = true) (ws : List Jvm.Cond) (p0 : Int32) (p1 : Int32) (h0 : Heap) (n0 : Nat) (Z0 : n0 ≤ h0.size) :
    MetFree l (⟨"java/lang/Math", "min", "(II)I"⟩ : MethodName) (head1 (Jvm.Cond.code (⟨"java/lang/Math", "min", "(II)I"⟩ : MethodName) jdk_29_method_69_code 2 (some .int) :: ws) ({ frames := 0, cells := 0, slots := 0, locals := 0 } : Room)) (fun a U => a = #[(.int p0), (.int p1)] ∧ Z.Warmed39 U.vm ∧ U.heap = h0) (fun _ _ _ _ _ => True) (fun _ U o U' => ∃ v L, o = .returned v ∧ Q6 Z p0 p1 h0 n0 v U'.heap L ∧ FrameEnd U o U' L ({ frames := 0, cells := 0, slots := 0, locals := 0 } : Room).cells ({ frames := 0, cells := 0, slots := 0, locals := 0 } : Room).slots) := by
  refine MetFree.of_bodySF (Jvm.Free.JP.mathPlain rfl (by decide +kernel)) hisR ?_
  intro p e s m args below meth c s₁ Bd hml0 hP hK
  obtain ⟨rfl, hZ, hh⟩ := hP
  have hx := Bd.exec
  have hby := Bd.bytes
  have hml : c.maxLocals = 2 := hml0
  have hown : s.vm.findClass "java/lang/Math" = some m.cls := findClass_of_methodNamed Bd.named
  have hnm := (name_of_methodNamed Bd.named Bd.method).1
  have hlk : meth.locks = false := BodyLoose.notSynchronized Bd
  have X0 : Stand p l e ({ frames := 0, cells := 0, slots := 0, locals := 0 } : Room) s m #[(.int p0), (.int p1)] below meth c s₁ [] 0 0 := Stand.of_body Bd
  have e0 : s₁.heap = h0 := by rw [← hh, Bd.state]; rfl
  have N0 := Fr.nil n0
  obtain ⟨G, hG⟩ : ∃ G, G = own_G s (Q6 Z p0 p1 h0 n0) ({ frames := 0, cells := 0, slots := 0, locals := 0 } : Room).cells ({ frames := 0, cells := 0, slots := 0, locals := 0 } : Room).slots := ⟨_, rfl⟩
  show own_Fin p e below (own_G s (Q6 Z p0 p1 h0 n0) ({ frames := 0, cells := 0, slots := 0, locals := 0 } : Room).cells ({ frames := 0, cells := 0, slots := 0, locals := 0 } : Room).slots) (s₁.setTop (entryFrame m #[(.int p0), (.int p1)] 2))
  rw [← hG]
  refine own_to (fun _ kz => castTop (ef6 m p0 p1) kz) ?_
  have q0 : (f6 p0 p1) = (f6 p0 p1) := rfl
  show own_Fin p e below G (s₁.setTop (mkF m 0 #[.val (.int p0), .val (.int p1)] []))
  refine own_to (fun _ kz => XS.iloadN X0.here hx rfl (hb hby d6_0) rfl  kz) ?_
  show own_Fin p e below G (s₁.setTop (mkF m 1 #[.val (.int p0), .val (.int p1)] [(.int p0)]))
  refine own_to (fun _ kz => XS.iloadN X0.here hx rfl (hb hby d6_1) rfl  kz) ?_
  show own_Fin p e below G (s₁.setTop (mkF m 2 #[.val (.int p0), .val (.int p1)] [(.int p1), (.int p0)]))
  by_cases hc2 : p1 < p0
  · refine own_to (fun _ kz => XS.icmpYes X0.here hx rfl (pc0 := 2) (pc' := 9) rfl (hb hby d6_2) rfl (tlt hc2).2.2.1 (by decide) (by decide) kz) ?_
    have q2t := q0.trans (if_pos hc2)
    show own_Fin p e below G (s₁.setTop (mkF m 9 #[.val (.int p0), .val (.int p1)] []))
    refine own_to (fun _ kz => XS.iloadN X0.here hx rfl (hb hby d6_9) rfl  kz) ?_
    show own_Fin p e below G (s₁.setTop (mkF m 10 #[.val (.int p0), .val (.int p1)] [(.int p1)]))
    exact own_retI X0 hx hlk hG Bd.returns (hb hby d6_10) (by decide) (by decide) ⟨(congrArg (fun z => some (Value.int z)) q2t).symm, N0, e0⟩
  · refine own_to (fun _ kz => XS.icmpNo X0.here hx rfl (hb hby d6_2) rfl (flt hc2).2.2.1 kz) ?_
    have q2f := q0.trans (if_neg hc2)
    show own_Fin p e below G (s₁.setTop (mkF m 5 #[.val (.int p0), .val (.int p1)] []))
    refine own_to (fun _ kz => XS.iloadN X0.here hx rfl (hb hby d6_5) rfl  kz) ?_
    show own_Fin p e below G (s₁.setTop (mkF m 6 #[.val (.int p0), .val (.int p1)] [(.int p0)]))
    refine own_to (fun _ kz => XS.goto X0.here hx rfl (pc0 := 6) (pc' := 10) rfl (hb hby d6_6) (by decide) (by decide) kz) ?_
    show own_Fin p e below G (s₁.setTop (mkF m 10 #[.val (.int p0), .val (.int p1)] [(.int p0)]))
    exact own_retI X0 hx hlk hG Bd.returns (hb hby d6_10) (by decide) (by decide) ⟨(congrArg (fun z => some (Value.int z)) q2f).symm, N0, e0⟩
theorem d7_0 : decode jdk_29_method_65_code 0 = .ok (.iload_n 0, 1) := by decide +kernel
theorem d7_1 : decode jdk_29_method_65_code 1 = .ok (.iload_n 1, 1) := by decide +kernel
theorem d7_2 : decode jdk_29_method_65_code 2 = .ok (.if_icmp .lt 7, 3) := by decide +kernel
theorem d7_5 : decode jdk_29_method_65_code 5 = .ok (.iload_n 0, 1) := by decide +kernel
theorem d7_6 : decode jdk_29_method_65_code 6 = .ok (.goto 4, 3) := by decide +kernel
theorem d7_9 : decode jdk_29_method_65_code 9 = .ok (.iload_n 1, 1) := by decide +kernel
theorem d7_10 : decode jdk_29_method_65_code 10 = .ok (.ireturn, 1) := by decide +kernel
theorem ef7 (m : MethodId) (p0 : Int32) (p1 : Int32) : entryFrame m #[(.int p0), (.int p1)] 2 = mkF m 0 #[.val (.int p0), .val (.int p1)] [] := by first | (simp [entryFrame, mkF, argsToLocals, Value.category]; done) | rfl
def f7 (p0 : Int32) (p1 : Int32) : Int32 := if p0 < p1 then p1 else p0
def Q7 (Z : State) (p0 : Int32) (p1 : Int32) (h0 : Heap) (n0 : Nat) (v : Option Value) (h : Heap) (L : List Loc) : Prop := v = some (.int (f7 p0 p1)) ∧ Fr n0 L ∧ h = h0
set_option maxRecDepth 65536 in
set_option maxHeartbeats 40000000 in
theorem rm7 (l : Launch) (Z : State) (a0 : Array Value) (hw : ∀ d ∈ tables_1, d.before a0 Z = true) (ws : List Jvm.Cond) (p0 : Int32) (p1 : Int32) (h0 : Heap) (n0 : Nat) (Z0 : n0 ≤ h0.size) :
    MetFree l (⟨"java/lang/Math", "max", "(II)I"⟩ : MethodName) (head1 (Jvm.Cond.code (⟨"java/lang/Math", "max", "(II)I"⟩ : MethodName) jdk_29_method_65_code 2 (some .int) :: ws) ({ frames := 0, cells := 0, slots := 0, locals := 0 } : Room)) (fun a U => a = #[(.int p0), (.int p1)] ∧ Z.Warmed39 U.vm ∧ U.heap = h0) (fun _ _ _ _ _ => True) (fun _ U o U' => ∃ v L, o = .returned v ∧ Q7 Z p0 p1 h0 n0 v U'.heap L ∧ FrameEnd U o U' L ({ frames := 0, cells := 0, slots := 0, locals := 0 } : Room).cells ({ frames := 0, cells := 0, slots := 0, locals := 0 } : Room).slots) := by
  refine MetFree.of_bodySF (Jvm.Free.JP.mathPlain rfl (by decide +kernel)) hisR ?_
  intro p e s m args below meth c s₁ Bd hml0 hP hK
  obtain ⟨rfl, hZ, hh⟩ := hP
  have hx := Bd.exec
  have hby := Bd.bytes
  have hml : c.maxLocals = 2 := hml0
  have hown : s.vm.findClass "java/lang/Math" = some m.cls := findClass_of_methodNamed Bd.named
  have hnm := (name_of_methodNamed Bd.named Bd.method).1
  have hlk : meth.locks = false := BodyLoose.notSynchronized Bd
  have X0 : Stand p l e ({ frames := 0, cells := 0, slots := 0, locals := 0 } : Room) s m #[(.int p0), (.int p1)] below meth c s₁ [] 0 0 := Stand.of_body Bd
  have e0 : s₁.heap = h0 := by rw [← hh, Bd.state]; rfl
  have N0 := Fr.nil n0
  obtain ⟨G, hG⟩ : ∃ G, G = own_G s (Q7 Z p0 p1 h0 n0) ({ frames := 0, cells := 0, slots := 0, locals := 0 } : Room).cells ({ frames := 0, cells := 0, slots := 0, locals := 0 } : Room).slots := ⟨_, rfl⟩
  show own_Fin p e below (own_G s (Q7 Z p0 p1 h0 n0) ({ frames := 0, cells := 0, slots := 0, locals := 0 } : Room).cells ({ frames := 0, cells := 0, slots := 0, locals := 0 } : Room).slots) (s₁.setTop (entryFrame m #[(.int p0), (.int p1)] 2))
  rw [← hG]
  refine own_to (fun _ kz => castTop (ef7 m p0 p1) kz) ?_
  have q0 : (f7 p0 p1) = (f7 p0 p1) := rfl
  show own_Fin p e below G (s₁.setTop (mkF m 0 #[.val (.int p0), .val (.int p1)] []))
  refine own_to (fun _ kz => XS.iloadN X0.here hx rfl (hb hby d7_0) rfl  kz) ?_
  show own_Fin p e below G (s₁.setTop (mkF m 1 #[.val (.int p0), .val (.int p1)] [(.int p0)]))
  refine own_to (fun _ kz => XS.iloadN X0.here hx rfl (hb hby d7_1) rfl  kz) ?_
  show own_Fin p e below G (s₁.setTop (mkF m 2 #[.val (.int p0), .val (.int p1)] [(.int p1), (.int p0)]))
  by_cases hc2 : p0 < p1
  · refine own_to (fun _ kz => XS.icmpYes X0.here hx rfl (pc0 := 2) (pc' := 9) rfl (hb hby d7_2) rfl (tlt hc2).1 (by decide) (by decide) kz) ?_
    have q2t := q0.trans (if_pos hc2)
    show own_Fin p e below G (s₁.setTop (mkF m 9 #[.val (.int p0), .val (.int p1)] []))
    refine own_to (fun _ kz => XS.iloadN X0.here hx rfl (hb hby d7_9) rfl  kz) ?_
    show own_Fin p e below G (s₁.setTop (mkF m 10 #[.val (.int p0), .val (.int p1)] [(.int p1)]))
    exact own_retI X0 hx hlk hG Bd.returns (hb hby d7_10) (by decide) (by decide) ⟨(congrArg (fun z => some (Value.int z)) q2t).symm, N0, e0⟩
  · refine own_to (fun _ kz => XS.icmpNo X0.here hx rfl (hb hby d7_2) rfl (flt hc2).1 kz) ?_
    have q2f := q0.trans (if_neg hc2)
    show own_Fin p e below G (s₁.setTop (mkF m 5 #[.val (.int p0), .val (.int p1)] []))
    refine own_to (fun _ kz => XS.iloadN X0.here hx rfl (hb hby d7_5) rfl  kz) ?_
    show own_Fin p e below G (s₁.setTop (mkF m 6 #[.val (.int p0), .val (.int p1)] [(.int p0)]))
    refine own_to (fun _ kz => XS.goto X0.here hx rfl (pc0 := 6) (pc' := 10) rfl (hb hby d7_6) (by decide) (by decide) kz) ?_
    show own_Fin p e below G (s₁.setTop (mkF m 10 #[.val (.int p0), .val (.int p1)] [(.int p0)]))
    exact own_retI X0 hx hlk hG Bd.returns (hb hby d7_10) (by decide) (by decide) ⟨(congrArg (fun z => some (Value.int z)) q2f).symm, N0, e0⟩
theorem own_pn0 : plainName "com/example/lanterns/lanterns/solvers/Graph" = true := by first | (simp [plainName, overriddenIn]; done) | decide +kernel
theorem d3_0 : decode prog_24_method_1_code 0 = .ok (.aload_n 0, 1) := by decide +kernel
theorem d3_1 : decode prog_24_method_1_code 1 = .ok (.invokespecial 1, 3) := by decide +kernel
theorem d3_4 : decode prog_24_method_1_code 4 = .ok (.aload_n 0, 1) := by decide +kernel
theorem d3_5 : decode prog_24_method_1_code 5 = .ok (.aload_n 1, 1) := by decide +kernel
theorem d3_6 : decode prog_24_method_1_code 6 = .ok (.putfield 7, 3) := by decide +kernel
theorem d3_9 : decode prog_24_method_1_code 9 = .ok (.aload_n 0, 1) := by decide +kernel
theorem d3_10 : decode prog_24_method_1_code 10 = .ok (.aload_n 2, 1) := by decide +kernel
theorem d3_11 : decode prog_24_method_1_code 11 = .ok (.putfield 13, 3) := by decide +kernel
theorem d3_14 : decode prog_24_method_1_code 14 = .ok (.aload_n 0, 1) := by decide +kernel
theorem d3_15 : decode prog_24_method_1_code 15 = .ok (.aload_n 3, 1) := by decide +kernel
theorem d3_16 : decode prog_24_method_1_code 16 = .ok (.putfield 16, 3) := by decide +kernel
theorem d3_19 : decode prog_24_method_1_code 19 = .ok (.return_, 1) := by decide +kernel
theorem ef3 (m : MethodId) (ad0 : Addr) (ad1 : Addr) (ad2 : Addr) (ad3 : Addr) : entryFrame m #[(.ref ad0), (.ref ad1), (.ref ad2), (.ref ad3)] 4 = mkF m 0 #[.val (.ref ad0), .val (.ref ad1), .val (.ref ad2), .val (.ref ad3)] [] := by first | (simp [entryFrame, mkF, argsToLocals, Value.category]; done) | rfl
def Q3 (Z : State) (ad0 : Addr) (ad1 : Addr) (ad2 : Addr) (ad3 : Addr) (h0 : Heap) (n0 : Nat) (v : Option Value) (h : Heap) (L : List Loc) : Prop := v = none ∧ Fr n0 L ∧ Keep h0 h [ad0] ∧ Exa Z h ad0 "com/example/lanterns/lanterns/solvers/Graph" ∧ Fld Z h ad0 "com/example/lanterns/lanterns/solvers/Graph" "start" "[I" (.ref ad1) ∧ Fld Z h ad0 "com/example/lanterns/lanterns/solvers/Graph" "neighbours" "[I" (.ref ad2) ∧ Fld Z h ad0 "com/example/lanterns/lanterns/solvers/Graph" "edges" "[I" (.ref ad3)
set_option maxRecDepth 65536 in
set_option maxHeartbeats 40000000 in
theorem rm3 (l : Launch) (Z : State) (a0 : Array Value) (hw : ∀ d ∈ tables_1, d.before a0 Z = true) (ws : List Jvm.Cond) (ad0 : Addr) (ad1 : Addr) (ad2 : Addr) (ad3 : Addr) (h0 : Heap) (n0 : Nat) (Z0 : n0 ≤ h0.size) (E_ad0 : Exa Z h0 ad0 "com/example/lanterns/lanterns/solvers/Graph") (F_start_ad0 : Fld Z h0 ad0 "com/example/lanterns/lanterns/solvers/Graph" "start" "[I" .null) (F_neighbours_ad0 : Fld Z h0 ad0 "com/example/lanterns/lanterns/solvers/Graph" "neighbours" "[I" .null) (F_edges_ad0 : Fld Z h0 ad0 "com/example/lanterns/lanterns/solvers/Graph" "edges" "[I" .null) (g_ad0 : n0 ≤ ad0) :
    MetFree l (⟨"com/example/lanterns/lanterns/solvers/Graph", "<init>", "([I[I[I)V"⟩ : MethodName) (head1 (Jvm.Cond.code (⟨"com/example/lanterns/lanterns/solvers/Graph", "<init>", "([I[I[I)V"⟩ : MethodName) prog_24_method_1_code 4 none :: ws) ({ frames := 1, cells := 0, slots := 0, locals := 12 } : Room)) (fun a U => a = #[(.ref ad0), (.ref ad1), (.ref ad2), (.ref ad3)] ∧ Z.Warmed39 U.vm ∧ U.heap = h0) (fun _ _ _ _ _ => True) (fun _ U o U' => ∃ v L, o = .returned v ∧ Q3 Z ad0 ad1 ad2 ad3 h0 n0 v U'.heap L ∧ FrameEnd U o U' L ({ frames := 1, cells := 0, slots := 0, locals := 12 } : Room).cells ({ frames := 1, cells := 0, slots := 0, locals := 12 } : Room).slots) := by
  refine MetFree.of_bodySF (plainFor_of_name own_pn0) hisR ?_
  intro p e s m args below meth c s₁ Bd hml0 hP hK
  obtain ⟨rfl, hZ, hh⟩ := hP
  have hx := Bd.exec
  have hby := Bd.bytes
  have hml : c.maxLocals = 4 := hml0
  have hown : s.vm.findClass "com/example/lanterns/lanterns/solvers/Graph" = some m.cls := findClass_of_methodNamed Bd.named
  have hnm := (name_of_methodNamed Bd.named Bd.method).1
  have hlk : meth.locks = false := BodyLoose.notSynchronized Bd
  have X0 : Stand p l e ({ frames := 1, cells := 0, slots := 0, locals := 12 } : Room) s m #[(.ref ad0), (.ref ad1), (.ref ad2), (.ref ad3)] below meth c s₁ [] 0 0 := Stand.of_body Bd
  have e0 : s₁.heap = h0 := by rw [← hh, Bd.state]; rfl
  have N0 := Fr.nil n0
  obtain ⟨G, hG⟩ : ∃ G, G = own_G s (Q3 Z ad0 ad1 ad2 ad3 h0 n0) ({ frames := 1, cells := 0, slots := 0, locals := 12 } : Room).cells ({ frames := 1, cells := 0, slots := 0, locals := 12 } : Room).slots := ⟨_, rfl⟩
  show own_Fin p e below (own_G s (Q3 Z ad0 ad1 ad2 ad3 h0 n0) ({ frames := 1, cells := 0, slots := 0, locals := 12 } : Room).cells ({ frames := 1, cells := 0, slots := 0, locals := 12 } : Room).slots) (s₁.setTop (entryFrame m #[(.ref ad0), (.ref ad1), (.ref ad2), (.ref ad3)] 4))
  rw [← hG]
  refine own_to (fun _ kz => castTop (ef3 m ad0 ad1 ad2 ad3) kz) ?_
  show own_Fin p e below G (s₁.setTop (mkF m 0 #[.val (.ref ad0), .val (.ref ad1), .val (.ref ad2), .val (.ref ad3)] []))
  refine own_to (fun _ kz => XS.aloadN X0.here hx rfl (hb hby d3_0) rfl (rfl)  kz) ?_
  show own_Fin p e below G (s₁.setTop (mkF m 1 #[.val (.ref ad0), .val (.ref ad1), .val (.ref ad2), .val (.ref ad3)] [(.ref ad0)]))
  obtain ⟨T1, X1, e1, st1⟩ := initO X0 hx hZ hown (hw _ (List.mem_of_getElem? (i := 14) rfl)) (hw _ (List.mem_of_getElem? (i := 15) rfl)) (hw _ (List.mem_of_getElem? (i := 16) rfl)) e0 (g := (mkF m 1 #[.val (.ref ad0), .val (.ref ad1), .val (.ref ad2), .val (.ref ad3)] [(.ref ad0)])) rfl (by rw [hml]; rfl) rfl (hb hby d3_1) (by decide) (W := 0) (by show 2 * 0 + _ ≤ _; exact Nat.le_of_eq rfl) (by decide)
  refine own_to st1 ?_
  show own_Fin p e below G (T1.setTop (mkF m 4 #[.val (.ref ad0), .val (.ref ad1), .val (.ref ad2), .val (.ref ad3)] []))
  refine own_to (fun _ kz => XS.aloadN X1.here hx rfl (hb hby d3_4) rfl (rfl)  kz) ?_
  show own_Fin p e below G (T1.setTop (mkF m 5 #[.val (.ref ad0), .val (.ref ad1), .val (.ref ad2), .val (.ref ad3)] [(.ref ad0)]))
  refine own_to (fun _ kz => XS.aloadN X1.here hx rfl (hb hby d3_5) rfl (rfl)  kz) ?_
  show own_Fin p e below G (T1.setTop (mkF m 6 #[.val (.ref ad0), .val (.ref ad1), .val (.ref ad2), .val (.ref ad3)] [(.ref ad1), (.ref ad0)]))
  obtain ⟨T6, h6, X6, e6, W6, st6⟩ := putF X1 hx hZ hown (host := "") (Or.inl (hw _ (List.mem_of_getElem? (i := 17) rfl))) Via.refl e1 F_start_ad0 E_ad0 (Or.inr ⟨(hw _ (List.mem_of_getElem? (i := 18) rfl)), rfl, hnm⟩) (hw _ (List.mem_of_getElem? (i := 9) rfl)) (ty := (.array .int)) (by decide) rfl rfl (g := (mkF m 6 #[.val (.ref ad0), .val (.ref ad1), .val (.ref ad2), .val (.ref ad3)] [(.ref ad1), (.ref ad0)])) rfl rfl (hb hby d3_6)
  refine own_to st6 ?_
  have Fw6 : Fld Z h6 ad0 "com/example/lanterns/lanterns/solvers/Graph" "start" "[I" (.ref ad1) := Fld.same W6 F_start_ad0
  obtain ⟨lo6, X6, N6⟩ : ∃ lo, Stand p l e _ s m _ below meth c T6 lo _ _ ∧ Fr n0 lo := ⟨_, X6, Fr.snoc X6 N0 g_ad0⟩
  show own_Fin p e below G (T6.setTop (mkF m 9 #[.val (.ref ad0), .val (.ref ad1), .val (.ref ad2), .val (.ref ad3)] []))
  refine own_to (fun _ kz => XS.aloadN X6.here hx rfl (hb hby d3_9) rfl (rfl)  kz) ?_
  show own_Fin p e below G (T6.setTop (mkF m 10 #[.val (.ref ad0), .val (.ref ad1), .val (.ref ad2), .val (.ref ad3)] [(.ref ad0)]))
  refine own_to (fun _ kz => XS.aloadN X6.here hx rfl (hb hby d3_10) rfl (rfl)  kz) ?_
  show own_Fin p e below G (T6.setTop (mkF m 11 #[.val (.ref ad0), .val (.ref ad1), .val (.ref ad2), .val (.ref ad3)] [(.ref ad2), (.ref ad0)]))
  have E_ad0_at_11 : Exa Z h6 ad0 "com/example/lanterns/lanterns/solvers/Graph" := (E_ad0.wr W6)
  have F_neighbours_ad0_at_11 : Fld Z h6 ad0 "com/example/lanterns/lanterns/solvers/Graph" "neighbours" "[I" .null := (F_neighbours_ad0.other W6 (Or.inr (slot_ne (Or.inr (hw _ (List.mem_of_getElem? (i := 20) rfl))) (Or.inr (hw _ (List.mem_of_getElem? (i := 18) rfl))) (by decide) (t := (.array .int)) (t' := (.array .int)) (by decide) (by decide))))
  obtain ⟨T11, h11, X11, e11, W11, st11⟩ := putF X6 hx hZ hown (host := "") (Or.inl (hw _ (List.mem_of_getElem? (i := 19) rfl))) Via.refl e6 F_neighbours_ad0_at_11 E_ad0_at_11 (Or.inr ⟨(hw _ (List.mem_of_getElem? (i := 20) rfl)), rfl, hnm⟩) (hw _ (List.mem_of_getElem? (i := 9) rfl)) (ty := (.array .int)) (by decide) rfl rfl (g := (mkF m 11 #[.val (.ref ad0), .val (.ref ad1), .val (.ref ad2), .val (.ref ad3)] [(.ref ad2), (.ref ad0)])) rfl rfl (hb hby d3_11)
  refine own_to st11 ?_
  have Fw11 : Fld Z h11 ad0 "com/example/lanterns/lanterns/solvers/Graph" "neighbours" "[I" (.ref ad2) := Fld.same W11 F_neighbours_ad0_at_11
  obtain ⟨lo11, X11, N11⟩ : ∃ lo, Stand p l e _ s m _ below meth c T11 lo _ _ ∧ Fr n0 lo := ⟨_, X11, Fr.snoc X11 N6 g_ad0⟩
  show own_Fin p e below G (T11.setTop (mkF m 14 #[.val (.ref ad0), .val (.ref ad1), .val (.ref ad2), .val (.ref ad3)] []))
  refine own_to (fun _ kz => XS.aloadN X11.here hx rfl (hb hby d3_14) rfl (rfl)  kz) ?_
  show own_Fin p e below G (T11.setTop (mkF m 15 #[.val (.ref ad0), .val (.ref ad1), .val (.ref ad2), .val (.ref ad3)] [(.ref ad0)]))
  refine own_to (fun _ kz => XS.aloadN X11.here hx rfl (hb hby d3_15) rfl (rfl)  kz) ?_
  show own_Fin p e below G (T11.setTop (mkF m 16 #[.val (.ref ad0), .val (.ref ad1), .val (.ref ad2), .val (.ref ad3)] [(.ref ad3), (.ref ad0)]))
  have E_ad0_at_16 : Exa Z h11 ad0 "com/example/lanterns/lanterns/solvers/Graph" := (E_ad0_at_11.wr W11)
  have F_edges_ad0_at_16 : Fld Z h11 ad0 "com/example/lanterns/lanterns/solvers/Graph" "edges" "[I" .null := ((F_edges_ad0.other W6 (Or.inr (slot_ne (Or.inr (hw _ (List.mem_of_getElem? (i := 22) rfl))) (Or.inr (hw _ (List.mem_of_getElem? (i := 18) rfl))) (by decide) (t := (.array .int)) (t' := (.array .int)) (by decide) (by decide)))).other W11 (Or.inr (slot_ne (Or.inr (hw _ (List.mem_of_getElem? (i := 22) rfl))) (Or.inr (hw _ (List.mem_of_getElem? (i := 20) rfl))) (by decide) (t := (.array .int)) (t' := (.array .int)) (by decide) (by decide))))
  obtain ⟨T16, h16, X16, e16, W16, st16⟩ := putF X11 hx hZ hown (host := "") (Or.inl (hw _ (List.mem_of_getElem? (i := 21) rfl))) Via.refl e11 F_edges_ad0_at_16 E_ad0_at_16 (Or.inr ⟨(hw _ (List.mem_of_getElem? (i := 22) rfl)), rfl, hnm⟩) (hw _ (List.mem_of_getElem? (i := 9) rfl)) (ty := (.array .int)) (by decide) rfl rfl (g := (mkF m 16 #[.val (.ref ad0), .val (.ref ad1), .val (.ref ad2), .val (.ref ad3)] [(.ref ad3), (.ref ad0)])) rfl rfl (hb hby d3_16)
  refine own_to st16 ?_
  have Fw16 : Fld Z h16 ad0 "com/example/lanterns/lanterns/solvers/Graph" "edges" "[I" (.ref ad3) := Fld.same W16 F_edges_ad0_at_16
  obtain ⟨lo16, X16, N16⟩ : ∃ lo, Stand p l e _ s m _ below meth c T16 lo _ _ ∧ Fr n0 lo := ⟨_, X16, Fr.snoc X16 N11 g_ad0⟩
  show own_Fin p e below G (T16.setTop (mkF m 19 #[.val (.ref ad0), .val (.ref ad1), .val (.ref ad2), .val (.ref ad3)] []))
  have KP_19 : Keep h0 h16 [ad0] := ((((Keep.refl h0 [ad0]).wr W6 (Or.inl (List.mem_of_getElem? (i := 0) rfl))).wr W11 (Or.inl (List.mem_of_getElem? (i := 0) rfl))).wr W16 (Or.inl (List.mem_of_getElem? (i := 0) rfl)))
  have E_ad0_at_19 : Exa Z h16 ad0 "com/example/lanterns/lanterns/solvers/Graph" := (E_ad0_at_16.wr W16)
  have Fw6_at_19 : Fld Z h16 ad0 "com/example/lanterns/lanterns/solvers/Graph" "start" "[I" (.ref ad1) := ((Fw6.other W11 (Or.inr (slot_ne (Or.inr (hw _ (List.mem_of_getElem? (i := 18) rfl))) (Or.inr (hw _ (List.mem_of_getElem? (i := 20) rfl))) (by decide) (t := (.array .int)) (t' := (.array .int)) (by decide) (by decide)))).other W16 (Or.inr (slot_ne (Or.inr (hw _ (List.mem_of_getElem? (i := 18) rfl))) (Or.inr (hw _ (List.mem_of_getElem? (i := 22) rfl))) (by decide) (t := (.array .int)) (t' := (.array .int)) (by decide) (by decide))))
  have Fw11_at_19 : Fld Z h16 ad0 "com/example/lanterns/lanterns/solvers/Graph" "neighbours" "[I" (.ref ad2) := (Fw11.other W16 (Or.inr (slot_ne (Or.inr (hw _ (List.mem_of_getElem? (i := 20) rfl))) (Or.inr (hw _ (List.mem_of_getElem? (i := 22) rfl))) (by decide) (t := (.array .int)) (t' := (.array .int)) (by decide) (by decide))))
  exact own_retV X16 hx hlk hG Bd.returns (hb hby d3_19) (by decide) (by decide) (by rw [e16]; exact ⟨rfl, N16, KP_19, E_ad0_at_19, Fw6_at_19, Fw11_at_19, Fw16⟩)
theorem own_pn1 : plainName "com/example/lanterns/lanterns/solvers/GraphEdgeBetweenPinLaw" = true := by first | (simp [plainName, overriddenIn]; done) | decide +kernel
theorem d2_0 : decode method_2_code 0 = .ok (.iload_n 3, 1) := by decide +kernel
theorem d2_1 : decode method_2_code 1 = .ok (.ifCond .eq 17, 3) := by decide +kernel
theorem d2_4 : decode method_2_code 4 = .ok (.aload_n 0, 1) := by decide +kernel
theorem d2_5 : decode method_2_code 5 = .ok (.iload_n 2, 1) := by decide +kernel
theorem d2_6 : decode method_2_code 6 = .ok (.iload 4, 2) := by decide +kernel
theorem d2_8 : decode method_2_code 8 = .ok (.iastore, 1) := by decide +kernel
theorem d2_9 : decode method_2_code 9 = .ok (.aload_n 1, 1) := by decide +kernel
theorem d2_10 : decode method_2_code 10 = .ok (.iload_n 2, 1) := by decide +kernel
theorem d2_11 : decode method_2_code 11 = .ok (.iload 5, 2) := by decide +kernel
theorem d2_13 : decode method_2_code 13 = .ok (.iastore, 1) := by decide +kernel
theorem d2_14 : decode method_2_code 14 = .ok (.iload_n 2, 1) := by decide +kernel
theorem d2_15 : decode method_2_code 15 = .ok (.iconst 1, 1) := by decide +kernel
theorem d2_16 : decode method_2_code 16 = .ok (.iadd, 1) := by decide +kernel
theorem d2_17 : decode method_2_code 17 = .ok (.ireturn, 1) := by decide +kernel
theorem d2_18 : decode method_2_code 18 = .ok (.iload_n 2, 1) := by decide +kernel
theorem d2_19 : decode method_2_code 19 = .ok (.ireturn, 1) := by decide +kernel
theorem ef2 (m : MethodId) (ad0 : Addr) (ad1 : Addr) (p2 : Int32) (p3 : Int32) (p4 : Int32) (p5 : Int32) : entryFrame m #[(.ref ad0), (.ref ad1), (.int p2), (.int p3), (.int p4), (.int p5)] 6 = mkF m 0 #[.val (.ref ad0), .val (.ref ad1), .val (.int p2), .val (.int p3), .val (.int p4), .val (.int p5)] [] := by first | (simp [entryFrame, mkF, argsToLocals, Value.category]; done) | rfl
def Q2 (Z : State) (ad0 : Addr) (ad1 : Addr) (p2 : Int32) (p3 : Int32) (p4 : Int32) (p5 : Int32) (xs : Nat → Int32) (ys : Nat → Int32) (h0 : Heap) (n0 : Nat) (v : Option Value) (h : Heap) (L : List Loc) : Prop := v = some (.int (own_ret p2 p3)) ∧ Fr n0 L ∧ Keep h0 h [ad0, ad1] ∧ own_AV Value.int Z h ad0 .int 6 (own_one xs p2 p3 p4) ∧ own_AV Value.int Z h ad1 .int 6 (own_one ys p2 p3 p5)
set_option maxRecDepth 65536 in
set_option maxHeartbeats 40000000 in
theorem rm2 (l : Launch) (Z : State) (a0 : Array Value) (hw : ∀ d ∈ tables_1, d.before a0 Z = true) (ws : List Jvm.Cond) (ad0 : Addr) (ad1 : Addr) (p2 : Int32) (p3 : Int32) (p4 : Int32) (p5 : Int32) (xs : Nat → Int32) (ys : Nat → Int32) (h0 : Heap) (n0 : Nat) (Z0 : n0 ≤ h0.size) (V_ad0 : own_AV Value.int Z h0 ad0 .int 6 xs) (V_ad1 : own_AV Value.int Z h0 ad1 .int 6 ys) (g_ad0 : n0 ≤ ad0) (g_ad1 : n0 ≤ ad1) (ne_ad0_ad1 : ad0 ≠ ad1) (hix : own_okp p2 p3) :
    MetFree l (⟨"com/example/lanterns/lanterns/solvers/GraphEdgeBetweenPinLaw", "one", "([I[IIZII)I"⟩ : MethodName) (head1 (Jvm.Cond.code (⟨"com/example/lanterns/lanterns/solvers/GraphEdgeBetweenPinLaw", "one", "([I[IIZII)I"⟩ : MethodName) method_2_code 6 (some .int) :: ws) ({ frames := 0, cells := 0, slots := 0, locals := 0 } : Room)) (fun a U => a = #[(.ref ad0), (.ref ad1), (.int p2), (.int p3), (.int p4), (.int p5)] ∧ Z.Warmed39 U.vm ∧ U.heap = h0) (fun _ _ _ _ _ => True) (fun _ U o U' => ∃ v L, o = .returned v ∧ Q2 Z ad0 ad1 p2 p3 p4 p5 xs ys h0 n0 v U'.heap L ∧ FrameEnd U o U' L ({ frames := 0, cells := 0, slots := 0, locals := 0 } : Room).cells ({ frames := 0, cells := 0, slots := 0, locals := 0 } : Room).slots) := by
  refine MetFree.of_bodySF (plainFor_of_name own_pn1) hisR ?_
  intro p e s m args below meth c s₁ Bd hml0 hP hK
  obtain ⟨rfl, hZ, hh⟩ := hP
  have hx := Bd.exec
  have hby := Bd.bytes
  have hml : c.maxLocals = 6 := hml0
  have hown : s.vm.findClass "com/example/lanterns/lanterns/solvers/GraphEdgeBetweenPinLaw" = some m.cls := findClass_of_methodNamed Bd.named
  have hnm := (name_of_methodNamed Bd.named Bd.method).1
  have hlk : meth.locks = false := BodyLoose.notSynchronized Bd
  have X0 : Stand p l e ({ frames := 0, cells := 0, slots := 0, locals := 0 } : Room) s m #[(.ref ad0), (.ref ad1), (.int p2), (.int p3), (.int p4), (.int p5)] below meth c s₁ [] 0 0 := Stand.of_body Bd
  have e0 : s₁.heap = h0 := by rw [← hh, Bd.state]; rfl
  have N0 := Fr.nil n0
  obtain ⟨G, hG⟩ : ∃ G, G = own_G s (Q2 Z ad0 ad1 p2 p3 p4 p5 xs ys h0 n0) ({ frames := 0, cells := 0, slots := 0, locals := 0 } : Room).cells ({ frames := 0, cells := 0, slots := 0, locals := 0 } : Room).slots := ⟨_, rfl⟩
  show own_Fin p e below (own_G s (Q2 Z ad0 ad1 p2 p3 p4 p5 xs ys h0 n0) ({ frames := 0, cells := 0, slots := 0, locals := 0 } : Room).cells ({ frames := 0, cells := 0, slots := 0, locals := 0 } : Room).slots) (s₁.setTop (entryFrame m #[(.ref ad0), (.ref ad1), (.int p2), (.int p3), (.int p4), (.int p5)] 6))
  rw [← hG]
  refine own_to (fun _ kz => castTop (ef2 m ad0 ad1 p2 p3 p4 p5) kz) ?_
  show own_Fin p e below G (s₁.setTop (mkF m 0 #[.val (.ref ad0), .val (.ref ad1), .val (.int p2), .val (.int p3), .val (.int p4), .val (.int p5)] []))
  refine own_to (fun _ kz => XS.iloadN X0.here hx rfl (hb hby d2_0) rfl  kz) ?_
  show own_Fin p e below G (s₁.setTop (mkF m 1 #[.val (.ref ad0), .val (.ref ad1), .val (.int p2), .val (.int p3), .val (.int p4), .val (.int p5)] [(.int p3)]))
  by_cases hc1 : p3 = (0 : Int32)
  · refine own_to (fun _ kz => XS.ifYes X0.here hx rfl (pc0 := 1) (pc' := 18) rfl (hb hby d2_1) rfl ((if0 _ _).trans (teq hc1).1) (by decide) (by decide) kz) ?_
    show own_Fin p e below G (s₁.setTop (mkF m 18 #[.val (.ref ad0), .val (.ref ad1), .val (.int p2), .val (.int p3), .val (.int p4), .val (.int p5)] []))
    refine own_to (fun _ kz => XS.iloadN X0.here hx rfl (hb hby d2_18) rfl  kz) ?_
    show own_Fin p e below G (s₁.setTop (mkF m 19 #[.val (.ref ad0), .val (.ref ad1), .val (.int p2), .val (.int p3), .val (.int p4), .val (.int p5)] [(.int p2)]))
    exact own_retI X0 hx hlk hG Bd.returns (hb hby d2_19) (by decide) (by decide) (by rw [e0]; exact ⟨by rw [own_ret, if_pos hc1], N0, (Keep.refl h0 [ad0, ad1]), by rw [own_one, if_pos hc1]; exact V_ad0, by rw [own_one, if_pos hc1]; exact V_ad1⟩)
  · refine own_to (fun _ kz => XS.ifNo X0.here hx rfl (hb hby d2_1) rfl ((if0 _ _).trans (feq hc1).1) kz) ?_
    show own_Fin p e below G (s₁.setTop (mkF m 4 #[.val (.ref ad0), .val (.ref ad1), .val (.int p2), .val (.int p3), .val (.int p4), .val (.int p5)] []))
    refine own_to (fun _ kz => XS.aloadN X0.here hx rfl (hb hby d2_4) rfl (rfl)  kz) ?_
    show own_Fin p e below G (s₁.setTop (mkF m 5 #[.val (.ref ad0), .val (.ref ad1), .val (.int p2), .val (.int p3), .val (.int p4), .val (.int p5)] [(.ref ad0)]))
    refine own_to (fun _ kz => XS.iloadN X0.here hx rfl (hb hby d2_5) rfl  kz) ?_
    show own_Fin p e below G (s₁.setTop (mkF m 6 #[.val (.ref ad0), .val (.ref ad1), .val (.int p2), .val (.int p3), .val (.int p4), .val (.int p5)] [(.int p2), (.ref ad0)]))
    refine own_to (fun _ kz => XS.iload X0.here hx rfl (hb hby d2_6) rfl  kz) ?_
    show own_Fin p e below G (s₁.setTop (mkF m 8 #[.val (.ref ad0), .val (.ref ad1), .val (.int p2), .val (.int p3), .val (.int p4), .val (.int p5)] [(.int p4), (.int p2), (.ref ad0)]))
    obtain ⟨nn8, cl8, Ar8, Sz8, Hs8⟩ := V_ad0
    obtain ⟨T8, h8, X8, e8, W8, st8⟩ := stI X0 hx hZ e0 Ar8 (j := p2) (own_in Sz8 (hix.resolve_left hc1).1 rfl (hix.resolve_left hc1).2) (g := (mkF m 8 #[.val (.ref ad0), .val (.ref ad1), .val (.int p2), .val (.int p3), .val (.int p4), .val (.int p5)] [(.int p4), (.int p2), (.ref ad0)])) rfl rfl (hb hby d2_8)
    refine own_to st8 ?_
    have V8 : own_AV Value.int Z h8 ad0 .int 6 (own_upd xs p2.toNatClampNeg p4) := own_AV.set nn8 Ar8 Sz8 Hs8 W8 rfl
    obtain ⟨lo8, X8, N8⟩ : ∃ lo, Stand p l e _ s m _ below meth c T8 lo _ _ ∧ Fr n0 lo := ⟨_, X8, Fr.snoc X8 N0 g_ad0⟩
    show own_Fin p e below G (T8.setTop (mkF m 9 #[.val (.ref ad0), .val (.ref ad1), .val (.int p2), .val (.int p3), .val (.int p4), .val (.int p5)] []))
    refine own_to (fun _ kz => XS.aloadN X8.here hx rfl (hb hby d2_9) rfl (rfl)  kz) ?_
    show own_Fin p e below G (T8.setTop (mkF m 10 #[.val (.ref ad0), .val (.ref ad1), .val (.int p2), .val (.int p3), .val (.int p4), .val (.int p5)] [(.ref ad1)]))
    refine own_to (fun _ kz => XS.iloadN X8.here hx rfl (hb hby d2_10) rfl  kz) ?_
    show own_Fin p e below G (T8.setTop (mkF m 11 #[.val (.ref ad0), .val (.ref ad1), .val (.int p2), .val (.int p3), .val (.int p4), .val (.int p5)] [(.int p2), (.ref ad1)]))
    refine own_to (fun _ kz => XS.iload X8.here hx rfl (hb hby d2_11) rfl  kz) ?_
    show own_Fin p e below G (T8.setTop (mkF m 13 #[.val (.ref ad0), .val (.ref ad1), .val (.int p2), .val (.int p3), .val (.int p4), .val (.int p5)] [(.int p5), (.int p2), (.ref ad1)]))
    have V_ad1_at_13 : own_AV Value.int Z h8 ad1 .int 6 ys := (V_ad1.other W8 (Ne.symm ne_ad0_ad1))
    obtain ⟨nn13, cl13, Ar13, Sz13, Hs13⟩ := V_ad1_at_13
    obtain ⟨T13, h13, X13, e13, W13, st13⟩ := stI X8 hx hZ e8 Ar13 (j := p2) (own_in Sz13 (hix.resolve_left hc1).1 rfl (hix.resolve_left hc1).2) (g := (mkF m 13 #[.val (.ref ad0), .val (.ref ad1), .val (.int p2), .val (.int p3), .val (.int p4), .val (.int p5)] [(.int p5), (.int p2), (.ref ad1)])) rfl rfl (hb hby d2_13)
    refine own_to st13 ?_
    have V13 : own_AV Value.int Z h13 ad1 .int 6 (own_upd ys p2.toNatClampNeg p5) := own_AV.set nn13 Ar13 Sz13 Hs13 W13 rfl
    obtain ⟨lo13, X13, N13⟩ : ∃ lo, Stand p l e _ s m _ below meth c T13 lo _ _ ∧ Fr n0 lo := ⟨_, X13, Fr.snoc X13 N8 g_ad1⟩
    show own_Fin p e below G (T13.setTop (mkF m 14 #[.val (.ref ad0), .val (.ref ad1), .val (.int p2), .val (.int p3), .val (.int p4), .val (.int p5)] []))
    refine own_to (fun _ kz => XS.iloadN X13.here hx rfl (hb hby d2_14) rfl  kz) ?_
    show own_Fin p e below G (T13.setTop (mkF m 15 #[.val (.ref ad0), .val (.ref ad1), .val (.int p2), .val (.int p3), .val (.int p4), .val (.int p5)] [(.int p2)]))
    refine own_to (fun _ kz => XS.iconst X13.here hx rfl (hb hby d2_15) kz) ?_
    show own_Fin p e below G (T13.setTop (mkF m 16 #[.val (.ref ad0), .val (.ref ad1), .val (.int p2), .val (.int p3), .val (.int p4), .val (.int p5)] [(.int (1 : Int32)), (.int p2)]))
    refine own_to (fun _ kz => XS.iadd X13.here hx rfl (hb hby d2_16) rfl kz) ?_
    show own_Fin p e below G (T13.setTop (mkF m 17 #[.val (.ref ad0), .val (.ref ad1), .val (.int p2), .val (.int p3), .val (.int p4), .val (.int p5)] [(.int (p2 + (1 : Int32)))]))
    have KP_17 : Keep h0 h13 [ad0, ad1] := (((Keep.refl h0 [ad0, ad1]).wr W8 (Or.inl (List.mem_of_getElem? (i := 0) rfl))).wr W13 (Or.inl (List.mem_of_getElem? (i := 1) rfl)))
    have V8_at_17 : own_AV Value.int Z h13 ad0 .int 6 (own_upd xs p2.toNatClampNeg p4) := (V8.other W13 ne_ad0_ad1)
    exact own_retI X13 hx hlk hG Bd.returns (hb hby d2_17) (by decide) (by decide) (by rw [e13]; exact ⟨by rw [own_ret, if_neg hc1], N13, KP_17, by rw [own_one, if_neg hc1]; exact V8_at_17, by rw [own_one, if_neg hc1]; exact V13⟩)
theorem own_pd0 : parseMethodDescriptor "([I[IIZII)I" = some ⟨[(.array .int), (.array .int), .int, .boolean, .int, .int], some .int⟩ := by decide +kernel
theorem d1_0 : decode method_3_code 0 = .ok (.iload 9, 2) := by decide +kernel
theorem d1_2 : decode method_3_code 2 = .ok (.ifCond .eq 30, 3) := by decide +kernel
theorem d1_5 : decode method_3_code 5 = .ok (.aload_n 0, 1) := by decide +kernel
theorem d1_6 : decode method_3_code 6 = .ok (.aload_n 1, 1) := by decide +kernel
theorem d1_7 : decode method_3_code 7 = .ok (.iload_n 2, 1) := by decide +kernel
theorem d1_8 : decode method_3_code 8 = .ok (.iload 6, 2) := by decide +kernel
theorem d1_10 : decode method_3_code 10 = .ok (.iload 7, 2) := by decide +kernel
theorem d1_12 : decode method_3_code 12 = .ok (.iload 8, 2) := by decide +kernel
theorem d1_14 : decode method_3_code 14 = .ok (.invokestatic 7, 3) := by decide +kernel
theorem d1_17 : decode method_3_code 17 = .ok (.istore 10, 2) := by decide +kernel
theorem d1_19 : decode method_3_code 19 = .ok (.aload_n 0, 1) := by decide +kernel
theorem d1_20 : decode method_3_code 20 = .ok (.aload_n 1, 1) := by decide +kernel
theorem d1_21 : decode method_3_code 21 = .ok (.iload 10, 2) := by decide +kernel
theorem d1_23 : decode method_3_code 23 = .ok (.iload_n 3, 1) := by decide +kernel
theorem d1_24 : decode method_3_code 24 = .ok (.iload 4, 2) := by decide +kernel
theorem d1_26 : decode method_3_code 26 = .ok (.iload 5, 2) := by decide +kernel
theorem d1_28 : decode method_3_code 28 = .ok (.invokestatic 7, 3) := by decide +kernel
theorem d1_31 : decode method_3_code 31 = .ok (.ireturn, 1) := by decide +kernel
theorem d1_32 : decode method_3_code 32 = .ok (.aload_n 0, 1) := by decide +kernel
theorem d1_33 : decode method_3_code 33 = .ok (.aload_n 1, 1) := by decide +kernel
theorem d1_34 : decode method_3_code 34 = .ok (.iload_n 2, 1) := by decide +kernel
theorem d1_35 : decode method_3_code 35 = .ok (.iload_n 3, 1) := by decide +kernel
theorem d1_36 : decode method_3_code 36 = .ok (.iload 4, 2) := by decide +kernel
theorem d1_38 : decode method_3_code 38 = .ok (.iload 5, 2) := by decide +kernel
theorem d1_40 : decode method_3_code 40 = .ok (.invokestatic 7, 3) := by decide +kernel
theorem d1_43 : decode method_3_code 43 = .ok (.istore 10, 2) := by decide +kernel
theorem d1_45 : decode method_3_code 45 = .ok (.aload_n 0, 1) := by decide +kernel
theorem d1_46 : decode method_3_code 46 = .ok (.aload_n 1, 1) := by decide +kernel
theorem d1_47 : decode method_3_code 47 = .ok (.iload 10, 2) := by decide +kernel
theorem d1_49 : decode method_3_code 49 = .ok (.iload 6, 2) := by decide +kernel
theorem d1_51 : decode method_3_code 51 = .ok (.iload 7, 2) := by decide +kernel
theorem d1_53 : decode method_3_code 53 = .ok (.iload 8, 2) := by decide +kernel
theorem d1_55 : decode method_3_code 55 = .ok (.invokestatic 7, 3) := by decide +kernel
theorem d1_58 : decode method_3_code 58 = .ok (.ireturn, 1) := by decide +kernel
theorem ef1 (m : MethodId) (ad0 : Addr) (ad1 : Addr) (p2 : Int32) (p3 : Int32) (p4 : Int32) (p5 : Int32) (p6 : Int32) (p7 : Int32) (p8 : Int32) (p9 : Int32) : entryFrame m #[(.ref ad0), (.ref ad1), (.int p2), (.int p3), (.int p4), (.int p5), (.int p6), (.int p7), (.int p8), (.int p9)] 11 = mkF m 0 #[.val (.ref ad0), .val (.ref ad1), .val (.int p2), .val (.int p3), .val (.int p4), .val (.int p5), .val (.int p6), .val (.int p7), .val (.int p8), .val (.int p9), .unset] [] := by first | (simp [entryFrame, mkF, argsToLocals, Value.category]; done) | rfl
def Q1 (Z : State) (ad0 : Addr) (ad1 : Addr) (p2 : Int32) (p3 : Int32) (p4 : Int32) (p5 : Int32) (p6 : Int32) (p7 : Int32) (p8 : Int32) (p9 : Int32) (xs : Nat → Int32) (ys : Nat → Int32) (h0 : Heap) (n0 : Nat) (v : Option Value) (h : Heap) (L : List Loc) : Prop := v = some (.int (own_pr p2 p3 p6 p9)) ∧ Fr n0 L ∧ Keep h0 h [ad0, ad1] ∧ own_AV Value.int Z h ad0 .int 6 (own_put xs p2 p3 p4 p6 p7 p9) ∧ own_AV Value.int Z h ad1 .int 6 (own_put ys p2 p3 p5 p6 p8 p9)
set_option maxRecDepth 65536 in
set_option maxHeartbeats 40000000 in
theorem rm1 (l : Launch) (Z : State) (a0 : Array Value) (hw : ∀ d ∈ tables_1, d.before a0 Z = true) (ws : List Jvm.Cond) (ad0 : Addr) (ad1 : Addr) (p2 : Int32) (p3 : Int32) (p4 : Int32) (p5 : Int32) (p6 : Int32) (p7 : Int32) (p8 : Int32) (p9 : Int32) (xs : Nat → Int32) (ys : Nat → Int32) (h0 : Heap) (n0 : Nat) (Z0 : n0 ≤ h0.size) (V_ad0 : own_AV Value.int Z h0 ad0 .int 6 xs) (V_ad1 : own_AV Value.int Z h0 ad1 .int 6 ys) (g_ad0 : n0 ≤ ad0) (g_ad1 : n0 ≤ ad1) (ne_ad0_ad1 : ad0 ≠ ad1) (hp : 0 ≤ p2.toInt ∧ p2.toInt ≤ 4) :
    MetFree l (⟨"com/example/lanterns/lanterns/solvers/GraphEdgeBetweenPinLaw", "put", "([I[IIZIIZIIZ)I"⟩ : MethodName) (head1 (Jvm.Cond.code (⟨"com/example/lanterns/lanterns/solvers/GraphEdgeBetweenPinLaw", "put", "([I[IIZIIZIIZ)I"⟩ : MethodName) method_3_code 11 (some .int) :: ws) ({ frames := 1, cells := 0, slots := 0, locals := 17 } : Room)) (fun a U => a = #[(.ref ad0), (.ref ad1), (.int p2), (.int p3), (.int p4), (.int p5), (.int p6), (.int p7), (.int p8), (.int p9)] ∧ Z.Warmed39 U.vm ∧ U.heap = h0) (fun _ _ _ _ _ => True) (fun _ U o U' => ∃ v L, o = .returned v ∧ Q1 Z ad0 ad1 p2 p3 p4 p5 p6 p7 p8 p9 xs ys h0 n0 v U'.heap L ∧ FrameEnd U o U' L ({ frames := 1, cells := 0, slots := 0, locals := 17 } : Room).cells ({ frames := 1, cells := 0, slots := 0, locals := 17 } : Room).slots) := by
  refine MetFree.of_bodySF (plainFor_of_name own_pn1) hisR ?_
  intro p e s m args below meth c s₁ Bd hml0 hP hK
  obtain ⟨rfl, hZ, hh⟩ := hP
  have hx := Bd.exec
  have hby := Bd.bytes
  have hml : c.maxLocals = 11 := hml0
  have hown : s.vm.findClass "com/example/lanterns/lanterns/solvers/GraphEdgeBetweenPinLaw" = some m.cls := findClass_of_methodNamed Bd.named
  have hnm := (name_of_methodNamed Bd.named Bd.method).1
  have hlk : meth.locks = false := BodyLoose.notSynchronized Bd
  have X0 : Stand p l e ({ frames := 1, cells := 0, slots := 0, locals := 17 } : Room) s m #[(.ref ad0), (.ref ad1), (.int p2), (.int p3), (.int p4), (.int p5), (.int p6), (.int p7), (.int p8), (.int p9)] below meth c s₁ [] 0 0 := Stand.of_body Bd
  have e0 : s₁.heap = h0 := by rw [← hh, Bd.state]; rfl
  have N0 := Fr.nil n0
  obtain ⟨G, hG⟩ : ∃ G, G = own_G s (Q1 Z ad0 ad1 p2 p3 p4 p5 p6 p7 p8 p9 xs ys h0 n0) ({ frames := 1, cells := 0, slots := 0, locals := 17 } : Room).cells ({ frames := 1, cells := 0, slots := 0, locals := 17 } : Room).slots := ⟨_, rfl⟩
  show own_Fin p e below (own_G s (Q1 Z ad0 ad1 p2 p3 p4 p5 p6 p7 p8 p9 xs ys h0 n0) ({ frames := 1, cells := 0, slots := 0, locals := 17 } : Room).cells ({ frames := 1, cells := 0, slots := 0, locals := 17 } : Room).slots) (s₁.setTop (entryFrame m #[(.ref ad0), (.ref ad1), (.int p2), (.int p3), (.int p4), (.int p5), (.int p6), (.int p7), (.int p8), (.int p9)] 11))
  rw [← hG]
  refine own_to (fun _ kz => castTop (ef1 m ad0 ad1 p2 p3 p4 p5 p6 p7 p8 p9) kz) ?_
  show own_Fin p e below G (s₁.setTop (mkF m 0 #[.val (.ref ad0), .val (.ref ad1), .val (.int p2), .val (.int p3), .val (.int p4), .val (.int p5), .val (.int p6), .val (.int p7), .val (.int p8), .val (.int p9), .unset] []))
  refine own_to (fun _ kz => XS.iload X0.here hx rfl (hb hby d1_0) rfl  kz) ?_
  show own_Fin p e below G (s₁.setTop (mkF m 2 #[.val (.ref ad0), .val (.ref ad1), .val (.int p2), .val (.int p3), .val (.int p4), .val (.int p5), .val (.int p6), .val (.int p7), .val (.int p8), .val (.int p9), .unset] [(.int p9)]))
  by_cases hc2 : p9 = (0 : Int32)
  · refine own_to (fun _ kz => XS.ifYes X0.here hx rfl (pc0 := 2) (pc' := 32) rfl (hb hby d1_2) rfl ((if0 _ _).trans (teq hc2).1) (by decide) (by decide) kz) ?_
    show own_Fin p e below G (s₁.setTop (mkF m 32 #[.val (.ref ad0), .val (.ref ad1), .val (.int p2), .val (.int p3), .val (.int p4), .val (.int p5), .val (.int p6), .val (.int p7), .val (.int p8), .val (.int p9), .unset] []))
    refine own_to (fun _ kz => XS.aloadN X0.here hx rfl (hb hby d1_32) rfl (rfl)  kz) ?_
    show own_Fin p e below G (s₁.setTop (mkF m 33 #[.val (.ref ad0), .val (.ref ad1), .val (.int p2), .val (.int p3), .val (.int p4), .val (.int p5), .val (.int p6), .val (.int p7), .val (.int p8), .val (.int p9), .unset] [(.ref ad0)]))
    refine own_to (fun _ kz => XS.aloadN X0.here hx rfl (hb hby d1_33) rfl (rfl)  kz) ?_
    show own_Fin p e below G (s₁.setTop (mkF m 34 #[.val (.ref ad0), .val (.ref ad1), .val (.int p2), .val (.int p3), .val (.int p4), .val (.int p5), .val (.int p6), .val (.int p7), .val (.int p8), .val (.int p9), .unset] [(.ref ad1), (.ref ad0)]))
    refine own_to (fun _ kz => XS.iloadN X0.here hx rfl (hb hby d1_34) rfl  kz) ?_
    show own_Fin p e below G (s₁.setTop (mkF m 35 #[.val (.ref ad0), .val (.ref ad1), .val (.int p2), .val (.int p3), .val (.int p4), .val (.int p5), .val (.int p6), .val (.int p7), .val (.int p8), .val (.int p9), .unset] [(.int p2), (.ref ad1), (.ref ad0)]))
    refine own_to (fun _ kz => XS.iloadN X0.here hx rfl (hb hby d1_35) rfl  kz) ?_
    show own_Fin p e below G (s₁.setTop (mkF m 36 #[.val (.ref ad0), .val (.ref ad1), .val (.int p2), .val (.int p3), .val (.int p4), .val (.int p5), .val (.int p6), .val (.int p7), .val (.int p8), .val (.int p9), .unset] [(.int p3), (.int p2), (.ref ad1), (.ref ad0)]))
    refine own_to (fun _ kz => XS.iload X0.here hx rfl (hb hby d1_36) rfl  kz) ?_
    show own_Fin p e below G (s₁.setTop (mkF m 38 #[.val (.ref ad0), .val (.ref ad1), .val (.int p2), .val (.int p3), .val (.int p4), .val (.int p5), .val (.int p6), .val (.int p7), .val (.int p8), .val (.int p9), .unset] [(.int p4), (.int p3), (.int p2), (.ref ad1), (.ref ad0)]))
    refine own_to (fun _ kz => XS.iload X0.here hx rfl (hb hby d1_38) rfl  kz) ?_
    show own_Fin p e below G (s₁.setTop (mkF m 40 #[.val (.ref ad0), .val (.ref ad1), .val (.int p2), .val (.int p3), .val (.int p4), .val (.int p5), .val (.int p6), .val (.int p7), .val (.int p8), .val (.int p9), .unset] [(.int p5), (.int p4), (.int p3), (.int p2), (.ref ad1), (.ref ad0)]))
    obtain ⟨_, _, ⟨T40, L40, k40, n40⟩, -, X40, ⟨Lc40, hQ40, l40, y40, z40⟩, st40⟩ := Jvm.LawKit.callS X0 hx (y := (⟨"com/example/lanterns/lanterns/solvers/GraphEdgeBetweenPinLaw", "one", "([I[IIZII)I"⟩ : MethodName)) hown (mvT hZ (hw _ (List.mem_of_getElem? (i := 5) rfl))) (mvT hZ (hw _ (List.mem_of_getElem? (i := 6) rfl))) (mvT hZ (hw _ (List.mem_of_getElem? (i := 3) rfl))) (mvT hZ (hw _ (List.mem_of_getElem? (i := 7) rfl))) (by decide) (backOf (W := 0) (rm2 l Z a0 hw [] ad0 ad1 p2 p3 p4 p5 xs ys h0 n0 Z0 V_ad0 V_ad1 g_ad0 g_ad1 ne_ad0_ad1 (own_ok5 ⟨hp.1, by omega⟩)) hZ (hw _ (List.mem_of_getElem? (i := 7) rfl)) (hw _ (List.mem_of_getElem? (i := 3) rfl)) (by decide) (by decide)) (g := (mkF m 40 #[.val (.ref ad0), .val (.ref ad1), .val (.int p2), .val (.int p3), .val (.int p4), .val (.int p5), .val (.int p6), .val (.int p7), .val (.int p8), .val (.int p9), .unset] [(.int p5), (.int p4), (.int p3), (.int p2), (.ref ad1), (.ref ad0)])) rfl (by rw [hml]; rfl) (argsL := [(.ref ad0), (.ref ad1), (.int p2), (.int p3), (.int p4), (.int p5)]) (rest := []) (lenOf own_pd0 rfl) rfl (by show 2 * 0 + _ ≤ _; exact Nat.le_of_eq rfl) (hb hby d1_40) (fun _ _ => ⟨rfl, e0, (by decide : 0 + 0 ≤ _), (by decide : 0 + 0 ≤ _)⟩)
    dsimp only [Pt.U, Pt.locs, Pt.cells, Pt.slots] at X40 l40 y40 z40 st40 hQ40
    subst l40 y40 z40
    obtain ⟨rfl, N40q, Kp40, P40_0, P40_1⟩ := hQ40
    obtain ⟨lo40, X40, N40⟩ : ∃ lo, Stand p l e _ s m _ below meth c T40 lo _ _ ∧ Fr n0 lo := ⟨_, X40, Fr.app N0 N40q⟩
    refine own_to st40 ?_
    show own_Fin p e below G (T40.setTop (mkF m 43 #[.val (.ref ad0), .val (.ref ad1), .val (.int p2), .val (.int p3), .val (.int p4), .val (.int p5), .val (.int p6), .val (.int p7), .val (.int p8), .val (.int p9), .unset] [(.int (own_ret p2 p3))]))
    refine own_to (fun _ kz => XS.istore X40.here hx rfl (hb hby d1_43) rfl (l' := #[.val (.ref ad0), .val (.ref ad1), .val (.int p2), .val (.int p3), .val (.int p4), .val (.int p5), .val (.int p6), .val (.int p7), .val (.int p8), .val (.int p9), .val (.int (own_ret p2 p3))]) rfl kz) ?_
    show own_Fin p e below G (T40.setTop (mkF m 45 #[.val (.ref ad0), .val (.ref ad1), .val (.int p2), .val (.int p3), .val (.int p4), .val (.int p5), .val (.int p6), .val (.int p7), .val (.int p8), .val (.int p9), .val (.int (own_ret p2 p3))] []))
    refine own_to (fun _ kz => XS.aloadN X40.here hx rfl (hb hby d1_45) rfl (rfl)  kz) ?_
    show own_Fin p e below G (T40.setTop (mkF m 46 #[.val (.ref ad0), .val (.ref ad1), .val (.int p2), .val (.int p3), .val (.int p4), .val (.int p5), .val (.int p6), .val (.int p7), .val (.int p8), .val (.int p9), .val (.int (own_ret p2 p3))] [(.ref ad0)]))
    refine own_to (fun _ kz => XS.aloadN X40.here hx rfl (hb hby d1_46) rfl (rfl)  kz) ?_
    show own_Fin p e below G (T40.setTop (mkF m 47 #[.val (.ref ad0), .val (.ref ad1), .val (.int p2), .val (.int p3), .val (.int p4), .val (.int p5), .val (.int p6), .val (.int p7), .val (.int p8), .val (.int p9), .val (.int (own_ret p2 p3))] [(.ref ad1), (.ref ad0)]))
    refine own_to (fun _ kz => XS.iload X40.here hx rfl (hb hby d1_47) rfl  kz) ?_
    show own_Fin p e below G (T40.setTop (mkF m 49 #[.val (.ref ad0), .val (.ref ad1), .val (.int p2), .val (.int p3), .val (.int p4), .val (.int p5), .val (.int p6), .val (.int p7), .val (.int p8), .val (.int p9), .val (.int (own_ret p2 p3))] [(.int (own_ret p2 p3)), (.ref ad1), (.ref ad0)]))
    refine own_to (fun _ kz => XS.iload X40.here hx rfl (hb hby d1_49) rfl  kz) ?_
    show own_Fin p e below G (T40.setTop (mkF m 51 #[.val (.ref ad0), .val (.ref ad1), .val (.int p2), .val (.int p3), .val (.int p4), .val (.int p5), .val (.int p6), .val (.int p7), .val (.int p8), .val (.int p9), .val (.int (own_ret p2 p3))] [(.int p6), (.int (own_ret p2 p3)), (.ref ad1), (.ref ad0)]))
    refine own_to (fun _ kz => XS.iload X40.here hx rfl (hb hby d1_51) rfl  kz) ?_
    show own_Fin p e below G (T40.setTop (mkF m 53 #[.val (.ref ad0), .val (.ref ad1), .val (.int p2), .val (.int p3), .val (.int p4), .val (.int p5), .val (.int p6), .val (.int p7), .val (.int p8), .val (.int p9), .val (.int (own_ret p2 p3))] [(.int p7), (.int p6), (.int (own_ret p2 p3)), (.ref ad1), (.ref ad0)]))
    refine own_to (fun _ kz => XS.iload X40.here hx rfl (hb hby d1_53) rfl  kz) ?_
    show own_Fin p e below G (T40.setTop (mkF m 55 #[.val (.ref ad0), .val (.ref ad1), .val (.int p2), .val (.int p3), .val (.int p4), .val (.int p5), .val (.int p6), .val (.int p7), .val (.int p8), .val (.int p9), .val (.int (own_ret p2 p3))] [(.int p8), (.int p7), (.int p6), (.int (own_ret p2 p3)), (.ref ad1), (.ref ad0)]))
    have Zz_55_Kp40 := Nat.le_trans Z0 Kp40.1
    have Z_55 : n0 ≤ T40.heap.size := Zz_55_Kp40
    obtain ⟨_, _, ⟨T55, L55, k55, n55⟩, -, X55, ⟨Lc55, hQ55, l55, y55, z55⟩, st55⟩ := Jvm.LawKit.callS X40 hx (y := (⟨"com/example/lanterns/lanterns/solvers/GraphEdgeBetweenPinLaw", "one", "([I[IIZII)I"⟩ : MethodName)) hown (mvT hZ (hw _ (List.mem_of_getElem? (i := 5) rfl))) (mvT hZ (hw _ (List.mem_of_getElem? (i := 6) rfl))) (mvT hZ (hw _ (List.mem_of_getElem? (i := 3) rfl))) (mvT hZ (hw _ (List.mem_of_getElem? (i := 7) rfl))) (by decide) (backOf (W := 0) (rm2 l Z a0 hw [] ad0 ad1 (own_ret p2 p3) p6 p7 p8 (own_one xs p2 p3 p4) (own_one ys p2 p3 p5) T40.heap n0 Z_55 P40_0 P40_1 g_ad0 g_ad1 ne_ad0_ad1 (own_ok4 hp)) hZ (hw _ (List.mem_of_getElem? (i := 7) rfl)) (hw _ (List.mem_of_getElem? (i := 3) rfl)) (by decide) (by decide)) (g := (mkF m 55 #[.val (.ref ad0), .val (.ref ad1), .val (.int p2), .val (.int p3), .val (.int p4), .val (.int p5), .val (.int p6), .val (.int p7), .val (.int p8), .val (.int p9), .val (.int (own_ret p2 p3))] [(.int p8), (.int p7), (.int p6), (.int (own_ret p2 p3)), (.ref ad1), (.ref ad0)])) rfl (by rw [hml]; rfl) (argsL := [(.ref ad0), (.ref ad1), (.int (own_ret p2 p3)), (.int p6), (.int p7), (.int p8)]) (rest := []) (lenOf own_pd0 rfl) rfl (by show 2 * 0 + _ ≤ _; exact Nat.le_of_eq rfl) (hb hby d1_55) (fun _ _ => ⟨rfl, rfl, (by decide : 0 + 0 ≤ _), (by decide : 0 + 0 ≤ _)⟩)
    dsimp only [Pt.U, Pt.locs, Pt.cells, Pt.slots] at X55 l55 y55 z55 st55 hQ55
    subst l55 y55 z55
    obtain ⟨rfl, N55q, Kp55, P55_0, P55_1⟩ := hQ55
    obtain ⟨lo55, X55, N55⟩ : ∃ lo, Stand p l e _ s m _ below meth c T55 lo _ _ ∧ Fr n0 lo := ⟨_, X55, Fr.app N40 N55q⟩
    refine own_to st55 ?_
    show own_Fin p e below G (T55.setTop (mkF m 58 #[.val (.ref ad0), .val (.ref ad1), .val (.int p2), .val (.int p3), .val (.int p4), .val (.int p5), .val (.int p6), .val (.int p7), .val (.int p8), .val (.int p9), .val (.int (own_ret p2 p3))] [(.int (own_ret (own_ret p2 p3) p6))]))
    have KP_58 : Keep h0 T55.heap [ad0, ad1] := (((Keep.refl h0 [ad0, ad1]).trans Kp40 (allS (Or.inl (List.mem_of_getElem? (i := 0) rfl)) (allS (Or.inl (List.mem_of_getElem? (i := 1) rfl)) all0))).trans Kp55 (allS (Or.inl (List.mem_of_getElem? (i := 0) rfl)) (allS (Or.inl (List.mem_of_getElem? (i := 1) rfl)) all0)))
    exact own_retI X55 hx hlk hG Bd.returns (hb hby d1_58) (by decide) (by decide) ⟨by rw [own_pr, if_pos hc2], N55, KP_58, by rw [own_put, if_pos hc2]; exact P55_0, by rw [own_put, if_pos hc2]; exact P55_1⟩
  · refine own_to (fun _ kz => XS.ifNo X0.here hx rfl (hb hby d1_2) rfl ((if0 _ _).trans (feq hc2).1) kz) ?_
    show own_Fin p e below G (s₁.setTop (mkF m 5 #[.val (.ref ad0), .val (.ref ad1), .val (.int p2), .val (.int p3), .val (.int p4), .val (.int p5), .val (.int p6), .val (.int p7), .val (.int p8), .val (.int p9), .unset] []))
    refine own_to (fun _ kz => XS.aloadN X0.here hx rfl (hb hby d1_5) rfl (rfl)  kz) ?_
    show own_Fin p e below G (s₁.setTop (mkF m 6 #[.val (.ref ad0), .val (.ref ad1), .val (.int p2), .val (.int p3), .val (.int p4), .val (.int p5), .val (.int p6), .val (.int p7), .val (.int p8), .val (.int p9), .unset] [(.ref ad0)]))
    refine own_to (fun _ kz => XS.aloadN X0.here hx rfl (hb hby d1_6) rfl (rfl)  kz) ?_
    show own_Fin p e below G (s₁.setTop (mkF m 7 #[.val (.ref ad0), .val (.ref ad1), .val (.int p2), .val (.int p3), .val (.int p4), .val (.int p5), .val (.int p6), .val (.int p7), .val (.int p8), .val (.int p9), .unset] [(.ref ad1), (.ref ad0)]))
    refine own_to (fun _ kz => XS.iloadN X0.here hx rfl (hb hby d1_7) rfl  kz) ?_
    show own_Fin p e below G (s₁.setTop (mkF m 8 #[.val (.ref ad0), .val (.ref ad1), .val (.int p2), .val (.int p3), .val (.int p4), .val (.int p5), .val (.int p6), .val (.int p7), .val (.int p8), .val (.int p9), .unset] [(.int p2), (.ref ad1), (.ref ad0)]))
    refine own_to (fun _ kz => XS.iload X0.here hx rfl (hb hby d1_8) rfl  kz) ?_
    show own_Fin p e below G (s₁.setTop (mkF m 10 #[.val (.ref ad0), .val (.ref ad1), .val (.int p2), .val (.int p3), .val (.int p4), .val (.int p5), .val (.int p6), .val (.int p7), .val (.int p8), .val (.int p9), .unset] [(.int p6), (.int p2), (.ref ad1), (.ref ad0)]))
    refine own_to (fun _ kz => XS.iload X0.here hx rfl (hb hby d1_10) rfl  kz) ?_
    show own_Fin p e below G (s₁.setTop (mkF m 12 #[.val (.ref ad0), .val (.ref ad1), .val (.int p2), .val (.int p3), .val (.int p4), .val (.int p5), .val (.int p6), .val (.int p7), .val (.int p8), .val (.int p9), .unset] [(.int p7), (.int p6), (.int p2), (.ref ad1), (.ref ad0)]))
    refine own_to (fun _ kz => XS.iload X0.here hx rfl (hb hby d1_12) rfl  kz) ?_
    show own_Fin p e below G (s₁.setTop (mkF m 14 #[.val (.ref ad0), .val (.ref ad1), .val (.int p2), .val (.int p3), .val (.int p4), .val (.int p5), .val (.int p6), .val (.int p7), .val (.int p8), .val (.int p9), .unset] [(.int p8), (.int p7), (.int p6), (.int p2), (.ref ad1), (.ref ad0)]))
    obtain ⟨_, _, ⟨T14, L14, k14, n14⟩, -, X14, ⟨Lc14, hQ14, l14, y14, z14⟩, st14⟩ := Jvm.LawKit.callS X0 hx (y := (⟨"com/example/lanterns/lanterns/solvers/GraphEdgeBetweenPinLaw", "one", "([I[IIZII)I"⟩ : MethodName)) hown (mvT hZ (hw _ (List.mem_of_getElem? (i := 5) rfl))) (mvT hZ (hw _ (List.mem_of_getElem? (i := 6) rfl))) (mvT hZ (hw _ (List.mem_of_getElem? (i := 3) rfl))) (mvT hZ (hw _ (List.mem_of_getElem? (i := 7) rfl))) (by decide) (backOf (W := 0) (rm2 l Z a0 hw [] ad0 ad1 p2 p6 p7 p8 xs ys h0 n0 Z0 V_ad0 V_ad1 g_ad0 g_ad1 ne_ad0_ad1 (own_ok5 ⟨hp.1, by omega⟩)) hZ (hw _ (List.mem_of_getElem? (i := 7) rfl)) (hw _ (List.mem_of_getElem? (i := 3) rfl)) (by decide) (by decide)) (g := (mkF m 14 #[.val (.ref ad0), .val (.ref ad1), .val (.int p2), .val (.int p3), .val (.int p4), .val (.int p5), .val (.int p6), .val (.int p7), .val (.int p8), .val (.int p9), .unset] [(.int p8), (.int p7), (.int p6), (.int p2), (.ref ad1), (.ref ad0)])) rfl (by rw [hml]; rfl) (argsL := [(.ref ad0), (.ref ad1), (.int p2), (.int p6), (.int p7), (.int p8)]) (rest := []) (lenOf own_pd0 rfl) rfl (by show 2 * 0 + _ ≤ _; exact Nat.le_of_eq rfl) (hb hby d1_14) (fun _ _ => ⟨rfl, e0, (by decide : 0 + 0 ≤ _), (by decide : 0 + 0 ≤ _)⟩)
    dsimp only [Pt.U, Pt.locs, Pt.cells, Pt.slots] at X14 l14 y14 z14 st14 hQ14
    subst l14 y14 z14
    obtain ⟨rfl, N14q, Kp14, P14_0, P14_1⟩ := hQ14
    obtain ⟨lo14, X14, N14⟩ : ∃ lo, Stand p l e _ s m _ below meth c T14 lo _ _ ∧ Fr n0 lo := ⟨_, X14, Fr.app N0 N14q⟩
    refine own_to st14 ?_
    show own_Fin p e below G (T14.setTop (mkF m 17 #[.val (.ref ad0), .val (.ref ad1), .val (.int p2), .val (.int p3), .val (.int p4), .val (.int p5), .val (.int p6), .val (.int p7), .val (.int p8), .val (.int p9), .unset] [(.int (own_ret p2 p6))]))
    refine own_to (fun _ kz => XS.istore X14.here hx rfl (hb hby d1_17) rfl (l' := #[.val (.ref ad0), .val (.ref ad1), .val (.int p2), .val (.int p3), .val (.int p4), .val (.int p5), .val (.int p6), .val (.int p7), .val (.int p8), .val (.int p9), .val (.int (own_ret p2 p6))]) rfl kz) ?_
    show own_Fin p e below G (T14.setTop (mkF m 19 #[.val (.ref ad0), .val (.ref ad1), .val (.int p2), .val (.int p3), .val (.int p4), .val (.int p5), .val (.int p6), .val (.int p7), .val (.int p8), .val (.int p9), .val (.int (own_ret p2 p6))] []))
    refine own_to (fun _ kz => XS.aloadN X14.here hx rfl (hb hby d1_19) rfl (rfl)  kz) ?_
    show own_Fin p e below G (T14.setTop (mkF m 20 #[.val (.ref ad0), .val (.ref ad1), .val (.int p2), .val (.int p3), .val (.int p4), .val (.int p5), .val (.int p6), .val (.int p7), .val (.int p8), .val (.int p9), .val (.int (own_ret p2 p6))] [(.ref ad0)]))
    refine own_to (fun _ kz => XS.aloadN X14.here hx rfl (hb hby d1_20) rfl (rfl)  kz) ?_
    show own_Fin p e below G (T14.setTop (mkF m 21 #[.val (.ref ad0), .val (.ref ad1), .val (.int p2), .val (.int p3), .val (.int p4), .val (.int p5), .val (.int p6), .val (.int p7), .val (.int p8), .val (.int p9), .val (.int (own_ret p2 p6))] [(.ref ad1), (.ref ad0)]))
    refine own_to (fun _ kz => XS.iload X14.here hx rfl (hb hby d1_21) rfl  kz) ?_
    show own_Fin p e below G (T14.setTop (mkF m 23 #[.val (.ref ad0), .val (.ref ad1), .val (.int p2), .val (.int p3), .val (.int p4), .val (.int p5), .val (.int p6), .val (.int p7), .val (.int p8), .val (.int p9), .val (.int (own_ret p2 p6))] [(.int (own_ret p2 p6)), (.ref ad1), (.ref ad0)]))
    refine own_to (fun _ kz => XS.iloadN X14.here hx rfl (hb hby d1_23) rfl  kz) ?_
    show own_Fin p e below G (T14.setTop (mkF m 24 #[.val (.ref ad0), .val (.ref ad1), .val (.int p2), .val (.int p3), .val (.int p4), .val (.int p5), .val (.int p6), .val (.int p7), .val (.int p8), .val (.int p9), .val (.int (own_ret p2 p6))] [(.int p3), (.int (own_ret p2 p6)), (.ref ad1), (.ref ad0)]))
    refine own_to (fun _ kz => XS.iload X14.here hx rfl (hb hby d1_24) rfl  kz) ?_
    show own_Fin p e below G (T14.setTop (mkF m 26 #[.val (.ref ad0), .val (.ref ad1), .val (.int p2), .val (.int p3), .val (.int p4), .val (.int p5), .val (.int p6), .val (.int p7), .val (.int p8), .val (.int p9), .val (.int (own_ret p2 p6))] [(.int p4), (.int p3), (.int (own_ret p2 p6)), (.ref ad1), (.ref ad0)]))
    refine own_to (fun _ kz => XS.iload X14.here hx rfl (hb hby d1_26) rfl  kz) ?_
    show own_Fin p e below G (T14.setTop (mkF m 28 #[.val (.ref ad0), .val (.ref ad1), .val (.int p2), .val (.int p3), .val (.int p4), .val (.int p5), .val (.int p6), .val (.int p7), .val (.int p8), .val (.int p9), .val (.int (own_ret p2 p6))] [(.int p5), (.int p4), (.int p3), (.int (own_ret p2 p6)), (.ref ad1), (.ref ad0)]))
    have Zz_28_Kp14 := Nat.le_trans Z0 Kp14.1
    have Z_28 : n0 ≤ T14.heap.size := Zz_28_Kp14
    obtain ⟨_, _, ⟨T28, L28, k28, n28⟩, -, X28, ⟨Lc28, hQ28, l28, y28, z28⟩, st28⟩ := Jvm.LawKit.callS X14 hx (y := (⟨"com/example/lanterns/lanterns/solvers/GraphEdgeBetweenPinLaw", "one", "([I[IIZII)I"⟩ : MethodName)) hown (mvT hZ (hw _ (List.mem_of_getElem? (i := 5) rfl))) (mvT hZ (hw _ (List.mem_of_getElem? (i := 6) rfl))) (mvT hZ (hw _ (List.mem_of_getElem? (i := 3) rfl))) (mvT hZ (hw _ (List.mem_of_getElem? (i := 7) rfl))) (by decide) (backOf (W := 0) (rm2 l Z a0 hw [] ad0 ad1 (own_ret p2 p6) p3 p4 p5 (own_one xs p2 p6 p7) (own_one ys p2 p6 p8) T14.heap n0 Z_28 P14_0 P14_1 g_ad0 g_ad1 ne_ad0_ad1 (own_ok4 hp)) hZ (hw _ (List.mem_of_getElem? (i := 7) rfl)) (hw _ (List.mem_of_getElem? (i := 3) rfl)) (by decide) (by decide)) (g := (mkF m 28 #[.val (.ref ad0), .val (.ref ad1), .val (.int p2), .val (.int p3), .val (.int p4), .val (.int p5), .val (.int p6), .val (.int p7), .val (.int p8), .val (.int p9), .val (.int (own_ret p2 p6))] [(.int p5), (.int p4), (.int p3), (.int (own_ret p2 p6)), (.ref ad1), (.ref ad0)])) rfl (by rw [hml]; rfl) (argsL := [(.ref ad0), (.ref ad1), (.int (own_ret p2 p6)), (.int p3), (.int p4), (.int p5)]) (rest := []) (lenOf own_pd0 rfl) rfl (by show 2 * 0 + _ ≤ _; exact Nat.le_of_eq rfl) (hb hby d1_28) (fun _ _ => ⟨rfl, rfl, (by decide : 0 + 0 ≤ _), (by decide : 0 + 0 ≤ _)⟩)
    dsimp only [Pt.U, Pt.locs, Pt.cells, Pt.slots] at X28 l28 y28 z28 st28 hQ28
    subst l28 y28 z28
    obtain ⟨rfl, N28q, Kp28, P28_0, P28_1⟩ := hQ28
    obtain ⟨lo28, X28, N28⟩ : ∃ lo, Stand p l e _ s m _ below meth c T28 lo _ _ ∧ Fr n0 lo := ⟨_, X28, Fr.app N14 N28q⟩
    refine own_to st28 ?_
    show own_Fin p e below G (T28.setTop (mkF m 31 #[.val (.ref ad0), .val (.ref ad1), .val (.int p2), .val (.int p3), .val (.int p4), .val (.int p5), .val (.int p6), .val (.int p7), .val (.int p8), .val (.int p9), .val (.int (own_ret p2 p6))] [(.int (own_ret (own_ret p2 p6) p3))]))
    have KP_31 : Keep h0 T28.heap [ad0, ad1] := (((Keep.refl h0 [ad0, ad1]).trans Kp14 (allS (Or.inl (List.mem_of_getElem? (i := 0) rfl)) (allS (Or.inl (List.mem_of_getElem? (i := 1) rfl)) all0))).trans Kp28 (allS (Or.inl (List.mem_of_getElem? (i := 0) rfl)) (allS (Or.inl (List.mem_of_getElem? (i := 1) rfl)) all0)))
    exact own_retI X28 hx hlk hG Bd.returns (hb hby d1_31) (by decide) (by decide) ⟨by rw [own_pr, if_neg hc2], N28, KP_31, by rw [own_put, if_neg hc2]; exact P28_0, by rw [own_put, if_neg hc2]; exact P28_1⟩
theorem own_bk {ss : Nat → Int32} {u i : Int32} (h : own_span ss u) (hi : (ss u.toNatClampNeg).toInt ≤ i.toInt ∧ i.toInt ≤ (ss (u + (1 : Int32)).toNatClampNeg).toInt) (hc : i < ss (u + (1 : Int32)).toNatClampNeg) : (ss u.toNatClampNeg).toInt ≤ (i + (1 : Int32)).toInt ∧ (i + (1 : Int32)).toInt ≤ (ss (u + (1 : Int32)).toNatClampNeg).toInt := by
  have q := own_i h hi hc
  rw [Int32.lt_iff_toInt_lt] at hc; omega
theorem own_dc {ss : Nat → Int32} {u i : Int32} {k : Nat} (h : own_span ss u) (hi : (ss u.toNatClampNeg).toInt ≤ i.toInt ∧ i.toInt ≤ (ss (u + (1 : Int32)).toNatClampNeg).toInt) (hc : i < ss (u + (1 : Int32)).toNatClampNeg) (hm : ((ss (u + (1 : Int32)).toNatClampNeg).toInt - i.toInt).toNat = k) : ((ss (u + (1 : Int32)).toNatClampNeg).toInt - (i + (1 : Int32)).toInt).toNat < k := by
  have q := own_i h hi hc
  rw [Int32.lt_iff_toInt_lt] at hc; omega
theorem d5_0 : decode prog_24_method_12_code 0 = .ok (.aload_n 0, 1) := by decide +kernel
theorem d5_1 : decode prog_24_method_12_code 1 = .ok (.getfield 7, 3) := by decide +kernel
theorem d5_4 : decode prog_24_method_12_code 4 = .ok (.iload_n 1, 1) := by decide +kernel
theorem d5_5 : decode prog_24_method_12_code 5 = .ok (.iaload, 1) := by decide +kernel
theorem d5_6 : decode prog_24_method_12_code 6 = .ok (.istore_n 3, 1) := by decide +kernel
theorem d5_7 : decode prog_24_method_12_code 7 = .ok (.iload_n 3, 1) := by decide +kernel
theorem d5_8 : decode prog_24_method_12_code 8 = .ok (.aload_n 0, 1) := by decide +kernel
theorem d5_9 : decode prog_24_method_12_code 9 = .ok (.getfield 7, 3) := by decide +kernel
theorem d5_12 : decode prog_24_method_12_code 12 = .ok (.iload_n 1, 1) := by decide +kernel
theorem d5_13 : decode prog_24_method_12_code 13 = .ok (.iconst 1, 1) := by decide +kernel
theorem d5_14 : decode prog_24_method_12_code 14 = .ok (.iadd, 1) := by decide +kernel
theorem d5_15 : decode prog_24_method_12_code 15 = .ok (.iaload, 1) := by decide +kernel
theorem d5_16 : decode prog_24_method_12_code 16 = .ok (.if_icmp .ge 26, 3) := by decide +kernel
theorem d5_19 : decode prog_24_method_12_code 19 = .ok (.aload_n 0, 1) := by decide +kernel
theorem d5_20 : decode prog_24_method_12_code 20 = .ok (.getfield 13, 3) := by decide +kernel
theorem d5_23 : decode prog_24_method_12_code 23 = .ok (.iload_n 3, 1) := by decide +kernel
theorem d5_24 : decode prog_24_method_12_code 24 = .ok (.iaload, 1) := by decide +kernel
theorem d5_25 : decode prog_24_method_12_code 25 = .ok (.iload_n 2, 1) := by decide +kernel
theorem d5_26 : decode prog_24_method_12_code 26 = .ok (.if_icmp .ne 10, 3) := by decide +kernel
theorem d5_29 : decode prog_24_method_12_code 29 = .ok (.aload_n 0, 1) := by decide +kernel
theorem d5_30 : decode prog_24_method_12_code 30 = .ok (.getfield 16, 3) := by decide +kernel
theorem d5_33 : decode prog_24_method_12_code 33 = .ok (.iload_n 3, 1) := by decide +kernel
theorem d5_34 : decode prog_24_method_12_code 34 = .ok (.iaload, 1) := by decide +kernel
theorem d5_35 : decode prog_24_method_12_code 35 = .ok (.ireturn, 1) := by decide +kernel
theorem d5_36 : decode prog_24_method_12_code 36 = .ok (.iinc 3 1, 3) := by decide +kernel
theorem d5_39 : decode prog_24_method_12_code 39 = .ok (.goto (-32), 3) := by decide +kernel
theorem d5_42 : decode prog_24_method_12_code 42 = .ok (.iconst (-1), 1) := by decide +kernel
theorem d5_43 : decode prog_24_method_12_code 43 = .ok (.ireturn, 1) := by decide +kernel
theorem ef5 (m : MethodId) (ad0 : Addr) (p1 : Int32) (p2 : Int32) : entryFrame m #[(.ref ad0), (.int p1), (.int p2)] 4 = mkF m 0 #[.val (.ref ad0), .val (.int p1), .val (.int p2), .unset] [] := by first | (simp [entryFrame, mkF, argsToLocals, Value.category]; done) | rfl
def Q5 (Z : State) (ad0 : Addr) (p1 : Int32) (p2 : Int32) (ss : Nat → Int32) (xs : Nat → Int32) (ys : Nat → Int32) (sr : Addr) (nr : Addr) (er : Addr) (h0 : Heap) (n0 : Nat) (v : Option Value) (h : Heap) (L : List Loc) : Prop := v = some (.int (own_got ss xs ys p1 p2)) ∧ Fr n0 L ∧ h = h0
set_option maxRecDepth 65536 in
set_option maxHeartbeats 40000000 in
theorem rm5 (l : Launch) (Z : State) (a0 : Array Value) (hw : ∀ d ∈ tables_1, d.before a0 Z = true) (ws : List Jvm.Cond) (ad0 : Addr) (p1 : Int32) (p2 : Int32) (ss : Nat → Int32) (xs : Nat → Int32) (ys : Nat → Int32) (sr : Addr) (nr : Addr) (er : Addr) (h0 : Heap) (n0 : Nat) (Z0 : n0 ≤ h0.size) (F_start_ad0 : Fld Z h0 ad0 "com/example/lanterns/lanterns/solvers/Graph" "start" "[I" (.ref sr)) (V_sr : own_AV Value.int Z h0 sr .int 4 ss) (F_neighbours_ad0 : Fld Z h0 ad0 "com/example/lanterns/lanterns/solvers/Graph" "neighbours" "[I" (.ref nr)) (V_nr : own_AV Value.int Z h0 nr .int 6 xs) (F_edges_ad0 : Fld Z h0 ad0 "com/example/lanterns/lanterns/solvers/Graph" "edges" "[I" (.ref er)) (V_er : own_AV Value.int Z h0 er .int 6 ys) (hs : own_span ss p1) :
    MetFree l (⟨"com/example/lanterns/lanterns/solvers/Graph", "edgeBetween", "(II)I"⟩ : MethodName) (head1 (Jvm.Cond.code (⟨"com/example/lanterns/lanterns/solvers/Graph", "edgeBetween", "(II)I"⟩ : MethodName) prog_24_method_12_code 4 (some .int) :: ws) ({ frames := 0, cells := 0, slots := 0, locals := 0 } : Room)) (fun a U => a = #[(.ref ad0), (.int p1), (.int p2)] ∧ Z.Warmed39 U.vm ∧ U.heap = h0) (fun _ _ _ _ _ => True) (fun _ U o U' => ∃ v L, o = .returned v ∧ Q5 Z ad0 p1 p2 ss xs ys sr nr er h0 n0 v U'.heap L ∧ FrameEnd U o U' L ({ frames := 0, cells := 0, slots := 0, locals := 0 } : Room).cells ({ frames := 0, cells := 0, slots := 0, locals := 0 } : Room).slots) := by
  refine MetFree.of_bodySF (plainFor_of_name own_pn0) hisR ?_
  intro p e s m args below meth c s₁ Bd hml0 hP hK
  obtain ⟨rfl, hZ, hh⟩ := hP
  have hx := Bd.exec
  have hby := Bd.bytes
  have hml : c.maxLocals = 4 := hml0
  have hown : s.vm.findClass "com/example/lanterns/lanterns/solvers/Graph" = some m.cls := findClass_of_methodNamed Bd.named
  have hnm := (name_of_methodNamed Bd.named Bd.method).1
  have hlk : meth.locks = false := BodyLoose.notSynchronized Bd
  have X0 : Stand p l e ({ frames := 0, cells := 0, slots := 0, locals := 0 } : Room) s m #[(.ref ad0), (.int p1), (.int p2)] below meth c s₁ [] 0 0 := Stand.of_body Bd
  have e0 : s₁.heap = h0 := by rw [← hh, Bd.state]; rfl
  have N0 := Fr.nil n0
  obtain ⟨G, hG⟩ : ∃ G, G = own_G s (Q5 Z ad0 p1 p2 ss xs ys sr nr er h0 n0) ({ frames := 0, cells := 0, slots := 0, locals := 0 } : Room).cells ({ frames := 0, cells := 0, slots := 0, locals := 0 } : Room).slots := ⟨_, rfl⟩
  show own_Fin p e below (own_G s (Q5 Z ad0 p1 p2 ss xs ys sr nr er h0 n0) ({ frames := 0, cells := 0, slots := 0, locals := 0 } : Room).cells ({ frames := 0, cells := 0, slots := 0, locals := 0 } : Room).slots) (s₁.setTop (entryFrame m #[(.ref ad0), (.int p1), (.int p2)] 4))
  rw [← hG]
  refine own_to (fun _ kz => castTop (ef5 m ad0 p1 p2) kz) ?_
  show own_Fin p e below G (s₁.setTop (mkF m 0 #[.val (.ref ad0), .val (.int p1), .val (.int p2), .unset] []))
  refine own_to (fun _ kz => XS.aloadN X0.here hx rfl (hb hby d5_0) rfl (rfl)  kz) ?_
  show own_Fin p e below G (s₁.setTop (mkF m 1 #[.val (.ref ad0), .val (.int p1), .val (.int p2), .unset] [(.ref ad0)]))
  obtain ⟨T1, X1, e1, st1⟩ := getF X0 hx hZ hown (host := "") (Or.inl (hw _ (List.mem_of_getElem? (i := 17) rfl))) Via.refl e0 F_start_ad0 (g := (mkF m 1 #[.val (.ref ad0), .val (.int p1), .val (.int p2), .unset] [(.ref ad0)])) rfl rfl (hb hby d5_1)
  refine own_to st1 ?_
  show own_Fin p e below G (T1.setTop (mkF m 4 #[.val (.ref ad0), .val (.int p1), .val (.int p2), .unset] [(.ref sr)]))
  refine own_to (fun _ kz => XS.iloadN X1.here hx rfl (hb hby d5_4) rfl  kz) ?_
  show own_Fin p e below G (T1.setTop (mkF m 5 #[.val (.ref ad0), .val (.int p1), .val (.int p2), .unset] [(.int p1), (.ref sr)]))
  refine own_to (fun _ kz => own_iaload X1 hx hZ e1 V_sr (j := p1) (own_u hs).1.1 rfl (own_u hs).1.2 (g := (mkF m 5 #[.val (.ref ad0), .val (.int p1), .val (.int p2), .unset] [(.int p1), (.ref sr)])) rfl rfl (hb hby d5_5) kz) ?_
  show own_Fin p e below G (T1.setTop (mkF m 6 #[.val (.ref ad0), .val (.int p1), .val (.int p2), .unset] [(.int (ss p1.toNatClampNeg))]))
  refine own_to (fun _ kz => XS.istoreN X1.here hx rfl (hb hby d5_6) rfl (l' := #[.val (.ref ad0), .val (.int p1), .val (.int p2), .val (.int (ss p1.toNatClampNeg))]) rfl kz) ?_
  show own_Fin p e below G (T1.setTop (mkF m 7 #[.val (.ref ad0), .val (.int p1), .val (.int p2), .val (.int (ss p1.toNatClampNeg))] []))
  have K7 : ∀ (k_7 : Nat) (i : Int32) (T_j7 : State) (locs_j7 : List Loc) (N_j7 : Fr n0 locs_j7) (X_j7 : Stand p l e ({ frames := 0, cells := 0, slots := 0, locals := 0 } : Room) s m #[(.ref ad0), (.int p1), (.int p2)] below meth c T_j7 locs_j7 0 0) (e_j7 : T_j7.heap = h0) (hm_7 : ((ss (p1 + (1 : Int32)).toNatClampNeg).toInt - i.toInt).toNat = k_7) (hi : (ss p1.toNatClampNeg).toInt ≤ i.toInt ∧ i.toInt ≤ (ss (p1 + (1 : Int32)).toNatClampNeg).toInt) (hg : own_got ss xs ys p1 p2 = own_find xs ys p2 ((ss (p1 + (1 : Int32)).toNatClampNeg).toInt - (i).toInt).toNat (i).toNatClampNeg), own_Fin p e below G (T_j7.setTop (mkF m 7 #[.val (.ref ad0), .val (.int p1), .val (.int p2), .val (.int i)] [])) := by
    intro k_7
    induction k_7 using Nat.strongRecOn with
    | _ k_7 ih_7 =>
      intro i T_j7 locs_j7 N_j7 X_j7 e_j7 hm_7 hi hg
      refine own_to (fun _ kz => XS.iloadN X_j7.here hx rfl (hb hby d5_7) rfl  kz) ?_
      show own_Fin p e below G (T_j7.setTop (mkF m 8 #[.val (.ref ad0), .val (.int p1), .val (.int p2), .val (.int i)] [(.int i)]))
      refine own_to (fun _ kz => XS.aloadN X_j7.here hx rfl (hb hby d5_8) rfl (rfl)  kz) ?_
      show own_Fin p e below G (T_j7.setTop (mkF m 9 #[.val (.ref ad0), .val (.int p1), .val (.int p2), .val (.int i)] [(.ref ad0), (.int i)]))
      obtain ⟨T9, X9, e9, st9⟩ := getF X_j7 hx hZ hown (host := "") (Or.inl (hw _ (List.mem_of_getElem? (i := 17) rfl))) Via.refl e_j7 F_start_ad0 (g := (mkF m 9 #[.val (.ref ad0), .val (.int p1), .val (.int p2), .val (.int i)] [(.ref ad0), (.int i)])) rfl rfl (hb hby d5_9)
      refine own_to st9 ?_
      show own_Fin p e below G (T9.setTop (mkF m 12 #[.val (.ref ad0), .val (.int p1), .val (.int p2), .val (.int i)] [(.ref sr), (.int i)]))
      refine own_to (fun _ kz => XS.iloadN X9.here hx rfl (hb hby d5_12) rfl  kz) ?_
      show own_Fin p e below G (T9.setTop (mkF m 13 #[.val (.ref ad0), .val (.int p1), .val (.int p2), .val (.int i)] [(.int p1), (.ref sr), (.int i)]))
      refine own_to (fun _ kz => XS.iconst X9.here hx rfl (hb hby d5_13) kz) ?_
      show own_Fin p e below G (T9.setTop (mkF m 14 #[.val (.ref ad0), .val (.int p1), .val (.int p2), .val (.int i)] [(.int (1 : Int32)), (.int p1), (.ref sr), (.int i)]))
      refine own_to (fun _ kz => XS.iadd X9.here hx rfl (hb hby d5_14) rfl kz) ?_
      show own_Fin p e below G (T9.setTop (mkF m 15 #[.val (.ref ad0), .val (.int p1), .val (.int p2), .val (.int i)] [(.int (p1 + (1 : Int32))), (.ref sr), (.int i)]))
      refine own_to (fun _ kz => own_iaload X9 hx hZ e9 V_sr (j := (p1 + (1 : Int32))) (own_u hs).2.1 rfl (own_u hs).2.2 (g := (mkF m 15 #[.val (.ref ad0), .val (.int p1), .val (.int p2), .val (.int i)] [(.int (p1 + (1 : Int32))), (.ref sr), (.int i)])) rfl rfl (hb hby d5_15) kz) ?_
      show own_Fin p e below G (T9.setTop (mkF m 16 #[.val (.ref ad0), .val (.int p1), .val (.int p2), .val (.int i)] [(.int (ss (p1 + (1 : Int32)).toNatClampNeg)), (.int i)]))
      by_cases hc16 : i < (ss (p1 + (1 : Int32)).toNatClampNeg)
      · refine own_to (fun _ kz => XS.icmpNo X9.here hx rfl (hb hby d5_16) rfl (tlt hc16).2.1 kz) ?_
        show own_Fin p e below G (T9.setTop (mkF m 19 #[.val (.ref ad0), .val (.int p1), .val (.int p2), .val (.int i)] []))
        refine own_to (fun _ kz => XS.aloadN X9.here hx rfl (hb hby d5_19) rfl (rfl)  kz) ?_
        show own_Fin p e below G (T9.setTop (mkF m 20 #[.val (.ref ad0), .val (.int p1), .val (.int p2), .val (.int i)] [(.ref ad0)]))
        obtain ⟨T20, X20, e20, st20⟩ := getF X9 hx hZ hown (host := "") (Or.inl (hw _ (List.mem_of_getElem? (i := 19) rfl))) Via.refl e9 F_neighbours_ad0 (g := (mkF m 20 #[.val (.ref ad0), .val (.int p1), .val (.int p2), .val (.int i)] [(.ref ad0)])) rfl rfl (hb hby d5_20)
        refine own_to st20 ?_
        show own_Fin p e below G (T20.setTop (mkF m 23 #[.val (.ref ad0), .val (.int p1), .val (.int p2), .val (.int i)] [(.ref nr)]))
        refine own_to (fun _ kz => XS.iloadN X20.here hx rfl (hb hby d5_23) rfl  kz) ?_
        show own_Fin p e below G (T20.setTop (mkF m 24 #[.val (.ref ad0), .val (.int p1), .val (.int p2), .val (.int i)] [(.int i), (.ref nr)]))
        refine own_to (fun _ kz => own_iaload X20 hx hZ e20 V_nr (j := i) (own_i hs hi hc16).1 rfl (own_i hs hi hc16).2.1 (g := (mkF m 24 #[.val (.ref ad0), .val (.int p1), .val (.int p2), .val (.int i)] [(.int i), (.ref nr)])) rfl rfl (hb hby d5_24) kz) ?_
        show own_Fin p e below G (T20.setTop (mkF m 25 #[.val (.ref ad0), .val (.int p1), .val (.int p2), .val (.int i)] [(.int (xs i.toNatClampNeg))]))
        refine own_to (fun _ kz => XS.iloadN X20.here hx rfl (hb hby d5_25) rfl  kz) ?_
        show own_Fin p e below G (T20.setTop (mkF m 26 #[.val (.ref ad0), .val (.int p1), .val (.int p2), .val (.int i)] [(.int p2), (.int (xs i.toNatClampNeg))]))
        by_cases hc26 : (xs i.toNatClampNeg) = p2
        · refine own_to (fun _ kz => XS.icmpNo X20.here hx rfl (hb hby d5_26) rfl (teq hc26).2 kz) ?_
          show own_Fin p e below G (T20.setTop (mkF m 29 #[.val (.ref ad0), .val (.int p1), .val (.int p2), .val (.int i)] []))
          refine own_to (fun _ kz => XS.aloadN X20.here hx rfl (hb hby d5_29) rfl (rfl)  kz) ?_
          show own_Fin p e below G (T20.setTop (mkF m 30 #[.val (.ref ad0), .val (.int p1), .val (.int p2), .val (.int i)] [(.ref ad0)]))
          obtain ⟨T30, X30, e30, st30⟩ := getF X20 hx hZ hown (host := "") (Or.inl (hw _ (List.mem_of_getElem? (i := 21) rfl))) Via.refl e20 F_edges_ad0 (g := (mkF m 30 #[.val (.ref ad0), .val (.int p1), .val (.int p2), .val (.int i)] [(.ref ad0)])) rfl rfl (hb hby d5_30)
          refine own_to st30 ?_
          show own_Fin p e below G (T30.setTop (mkF m 33 #[.val (.ref ad0), .val (.int p1), .val (.int p2), .val (.int i)] [(.ref er)]))
          refine own_to (fun _ kz => XS.iloadN X30.here hx rfl (hb hby d5_33) rfl  kz) ?_
          show own_Fin p e below G (T30.setTop (mkF m 34 #[.val (.ref ad0), .val (.int p1), .val (.int p2), .val (.int i)] [(.int i), (.ref er)]))
          refine own_to (fun _ kz => own_iaload X30 hx hZ e30 V_er (j := i) (own_i hs hi hc16).1 rfl (own_i hs hi hc16).2.1 (g := (mkF m 34 #[.val (.ref ad0), .val (.int p1), .val (.int p2), .val (.int i)] [(.int i), (.ref er)])) rfl rfl (hb hby d5_34) kz) ?_
          show own_Fin p e below G (T30.setTop (mkF m 35 #[.val (.ref ad0), .val (.int p1), .val (.int p2), .val (.int i)] [(.int (ys i.toNatClampNeg))]))
          exact own_retI X30 hx hlk hG Bd.returns (hb hby d5_35) (by decide) (by decide) ⟨(by rw [hg, own_f1 hs hi hc16, if_pos hc26]), N_j7, e30⟩
        · refine own_to (fun _ kz => XS.icmpYes X20.here hx rfl (pc0 := 26) (pc' := 36) rfl (hb hby d5_26) rfl (feq hc26).2 (by decide) (by decide) kz) ?_
          show own_Fin p e below G (T20.setTop (mkF m 36 #[.val (.ref ad0), .val (.int p1), .val (.int p2), .val (.int i)] []))
          refine own_to (fun _ kz => XS.iinc X20.here hx rfl (hb hby d5_36) rfl (l' := #[.val (.ref ad0), .val (.int p1), .val (.int p2), .val (.int (i + (1 : Int32)))]) rfl kz) ?_
          show own_Fin p e below G (T20.setTop (mkF m 39 #[.val (.ref ad0), .val (.int p1), .val (.int p2), .val (.int (i + (1 : Int32)))] []))
          refine own_to (fun _ kz => XS.goto X20.here hx rfl (pc0 := 39) (pc' := 7) rfl (hb hby d5_39) (by decide) (by decide) kz) ?_
          show own_Fin p e below G (T20.setTop (mkF m 7 #[.val (.ref ad0), .val (.int p1), .val (.int p2), .val (.int (i + (1 : Int32)))] []))
          exact ih_7 _ (own_dc hs hi hc16 hm_7) (i + (1 : Int32)) _ _ N_j7 X20 e20 rfl (own_bk hs hi hc16) (hg.trans ((own_f1 hs hi hc16).trans (if_neg hc26)))
      · refine own_to (fun _ kz => XS.icmpYes X9.here hx rfl (pc0 := 16) (pc' := 42) rfl (hb hby d5_16) rfl (flt hc16).2.1 (by decide) (by decide) kz) ?_
        show own_Fin p e below G (T9.setTop (mkF m 42 #[.val (.ref ad0), .val (.int p1), .val (.int p2), .val (.int i)] []))
        refine own_to (fun _ kz => XS.iconst X9.here hx rfl (hb hby d5_42) kz) ?_
        show own_Fin p e below G (T9.setTop (mkF m 43 #[.val (.ref ad0), .val (.int p1), .val (.int p2), .val (.int i)] [(.int (-1 : Int32))]))
        exact own_retI X9 hx hlk hG Bd.returns (hb hby d5_43) (by decide) (by decide) ⟨(by rw [hg, own_f0 hc16]), N_j7, e9⟩
  exact K7 _ (ss p1.toNatClampNeg) _ _ N0 X1 e1 rfl ⟨Int.le_refl _, hs.2.2.1⟩ rfl
theorem own_rem3 (a : Int32) : 0 ≤ ((a &&& (2147483647 : Int32)) % (3 : Int32)).toInt ∧ ((a &&& (2147483647 : Int32)) % (3 : Int32)).toInt ≤ 2 := by
  have h := c_and a 2147483647 (by decide)
  have g := (c_irem (a &&& (2147483647 : Int32)) 3 3 (by decide)).1 h.1
  omega
theorem own_3 {s : Int32} (h : 0 ≤ s.toInt ∧ s.toInt ≤ 2) : s = 0 ∨ s = 1 ∨ s = 2 := by
  have e : ∀ k : Int32, s.toInt = k.toInt → s = k := fun k h => Int32.toInt_inj.mp h
  have : s.toInt = 0 ∨ s.toInt = 1 ∨ s.toInt = 2 := by omega
  rcases this with h | h | h
  · exact Or.inl (e 0 h)
  · exact Or.inr (Or.inl (e 1 h))
  · exact Or.inr (Or.inr (e 2 h))
def own_ss (a b c : Int32) : Nat → Int32 := own_upd (own_upd (own_upd (own_upd (fun _ => (0 : Int32)) 0 (0 : Int32)) 1 a) 2 b) 3 c
theorem own_hs {A B C u : Int32} (h : 0 ≤ A.toInt ∧ A.toInt ≤ B.toInt ∧ B.toInt ≤ C.toInt ∧ C.toInt ≤ 6) (hu : 0 ≤ u.toInt ∧ u.toInt ≤ 2) : own_span (own_ss A B C) u := by
  refine ⟨hu, ?_⟩
  have z : (0 : Int32).toInt = 0 := by decide
  have i0 : (0 : Int32).toNatClampNeg = 0 := by decide
  have i1 : (1 : Int32).toNatClampNeg = 1 := by decide
  have i2 : (2 : Int32).toNatClampNeg = 2 := by decide
  have j1 : ((0 : Int32) + (1 : Int32)).toNatClampNeg = 1 := by decide
  have j2 : ((1 : Int32) + (1 : Int32)).toNatClampNeg = 2 := by decide
  have j3 : ((2 : Int32) + (1 : Int32)).toNatClampNeg = 3 := by decide
  rcases own_3 hu with rfl | rfl | rfl
  · rw [i0, j1]; simp [own_ss, own_upd, z]; omega
  · rw [i1, j2]; simp [own_ss, own_upd]; omega
  · rw [i2, j3]; simp [own_ss, own_upd]; omega
theorem own_abc (a b c s0 s1 s2 : Int32) : 0 ≤ (own_pr (0 : Int32) a b s0).toInt ∧ (own_pr (0 : Int32) a b s0).toInt ≤ (own_pr (own_pr (0 : Int32) a b s0) a c s1).toInt ∧ (own_pr (own_pr (0 : Int32) a b s0) a c s1).toInt ≤ (own_pr (own_pr (own_pr (0 : Int32) a b s0) a c s1) b c s2).toInt ∧ (own_pr (own_pr (own_pr (0 : Int32) a b s0) a c s1) b c s2).toInt ≤ 6 := by
  have z : (0 : Int32).toInt = 0 := by decide
  have h1 := own_prb (p := 0) (hX := a) (hY := b) (s := s0) (by decide)
  have h2 := own_prb (p := own_pr (0 : Int32) a b s0) (hX := a) (hY := c) (s := s1) (by omega)
  have h3 := own_prb (p := own_pr (own_pr (0 : Int32) a b s0) a c s1) (hX := b) (hY := c) (s := s2) (by omega)
  omega
theorem own_p1 (a b s0 : Int32) : 0 ≤ (own_pr (0 : Int32) a b s0).toInt ∧ (own_pr (0 : Int32) a b s0).toInt ≤ 4 := by
  have z : (0 : Int32).toInt = 0 := by decide
  have h1 := own_prb (p := 0) (hX := a) (hY := b) (s := s0) (by decide)
  omega
theorem own_p2 (a b c s0 s1 : Int32) : 0 ≤ (own_pr (own_pr (0 : Int32) a b s0) a c s1).toInt ∧ (own_pr (own_pr (0 : Int32) a b s0) a c s1).toInt ≤ 4 := by
  have z : (0 : Int32).toInt = 0 := by decide
  have h1 := own_prb (p := 0) (hX := a) (hY := b) (s := s0) (by decide)
  have h2 := own_prb (p := own_pr (0 : Int32) a b s0) (hX := a) (hY := c) (s := s1) (by omega)
  omega
theorem own_pd1 : parseMethodDescriptor "([I[IIZIIZIIZ)I" = some ⟨[(.array .int), (.array .int), .int, .boolean, .int, .int, .boolean, .int, .int, .boolean], some .int⟩ := by decide +kernel
theorem own_pd2 : parseMethodDescriptor "([I[I[I)V" = some ⟨[(.array .int), (.array .int), (.array .int)], none⟩ := by decide +kernel
theorem own_pd3 : parseMethodDescriptor "(II)I" = some ⟨[.int, .int], some .int⟩ := by decide +kernel
theorem ef0 (m : MethodId) (p0 : Int32) (p1 : Int32) (p2 : Int32) (p3 : Int32) (p4 : Int32) : entryFrame m #[(.int p0), (.int p1), (.int p2), (.int p3), (.int p4)] maxLocals = mkF m 0 #[.val (.int p0), .val (.int p1), .val (.int p2), .val (.int p3), .val (.int p4), .unset, .unset, .unset, .unset, .unset, .unset, .unset, .unset, .unset, .unset, .unset, .unset, .unset, .unset] [] := by first | (simp [entryFrame, mkF, argsToLocals, Value.category, maxLocals]; done) | rfl
def f0_313 (p0 : Int32) (p1 : Int32) (p2 : Int32) (p3 : Int32) (p4 : Int32) (t0_11 : Int32) (t0_24 : Int32) (t0_37 : Int32) (t0_86 : Int32) (t0_123 : Int32) (t0_160 : Int32) (v13_207 : Int32) (v14_207 : Int32) (v15_218 : Int32) (v16_313 : Int32) : Int32 := if v15_218 = v16_313 then (1 : Int32) else (0 : Int32)
def f0_311 (p0 : Int32) (p1 : Int32) (p2 : Int32) (p3 : Int32) (p4 : Int32) (t0_11 : Int32) (t0_24 : Int32) (t0_37 : Int32) (t0_86 : Int32) (t0_123 : Int32) (t0_160 : Int32) (v13_207 : Int32) (v14_207 : Int32) (v15_218 : Int32) (t0_311 : Int32) : Int32 := (f0_313 p0 p1 p2 p3 p4 t0_11 t0_24 t0_37 t0_86 t0_123 t0_160 v13_207 v14_207 v15_218 t0_311)
def f0_301 (p0 : Int32) (p1 : Int32) (p2 : Int32) (p3 : Int32) (p4 : Int32) (t0_11 : Int32) (t0_24 : Int32) (t0_37 : Int32) (t0_86 : Int32) (t0_123 : Int32) (t0_160 : Int32) (v13_207 : Int32) (v14_207 : Int32) (v15_218 : Int32) : Int32 := if t0_37 = (0 : Int32) then (f0_311 p0 p1 p2 p3 p4 t0_11 t0_24 t0_37 t0_86 t0_123 t0_160 v13_207 v14_207 v15_218 (-1 : Int32)) else (f0_311 p0 p1 p2 p3 p4 t0_11 t0_24 t0_37 t0_86 t0_123 t0_160 v13_207 v14_207 v15_218 p2)
def f0_296 (p0 : Int32) (p1 : Int32) (p2 : Int32) (p3 : Int32) (p4 : Int32) (t0_11 : Int32) (t0_24 : Int32) (t0_37 : Int32) (t0_86 : Int32) (t0_123 : Int32) (t0_160 : Int32) (v13_207 : Int32) (v14_207 : Int32) (v15_218 : Int32) (t0_296 : Int32) : Int32 := (f0_313 p0 p1 p2 p3 p4 t0_11 t0_24 t0_37 t0_86 t0_123 t0_160 v13_207 v14_207 v15_218 t0_296)
def f0_275 (p0 : Int32) (p1 : Int32) (p2 : Int32) (p3 : Int32) (p4 : Int32) (t0_11 : Int32) (t0_24 : Int32) (t0_37 : Int32) (t0_86 : Int32) (t0_123 : Int32) (t0_160 : Int32) (v13_207 : Int32) (v14_207 : Int32) (v15_218 : Int32) : Int32 := if (f6 v13_207 v14_207) = (0 : Int32) then (if (f7 v13_207 v14_207) = (2 : Int32) then (if t0_24 = (0 : Int32) then (f0_296 p0 p1 p2 p3 p4 t0_11 t0_24 t0_37 t0_86 t0_123 t0_160 v13_207 v14_207 v15_218 (-1 : Int32)) else (f0_296 p0 p1 p2 p3 p4 t0_11 t0_24 t0_37 t0_86 t0_123 t0_160 v13_207 v14_207 v15_218 p1)) else (f0_301 p0 p1 p2 p3 p4 t0_11 t0_24 t0_37 t0_86 t0_123 t0_160 v13_207 v14_207 v15_218)) else (f0_301 p0 p1 p2 p3 p4 t0_11 t0_24 t0_37 t0_86 t0_123 t0_160 v13_207 v14_207 v15_218)
def f0_270 (p0 : Int32) (p1 : Int32) (p2 : Int32) (p3 : Int32) (p4 : Int32) (t0_11 : Int32) (t0_24 : Int32) (t0_37 : Int32) (t0_86 : Int32) (t0_123 : Int32) (t0_160 : Int32) (v13_207 : Int32) (v14_207 : Int32) (v15_218 : Int32) (t0_270 : Int32) : Int32 := (f0_313 p0 p1 p2 p3 p4 t0_11 t0_24 t0_37 t0_86 t0_123 t0_160 v13_207 v14_207 v15_218 t0_270)
def f0_218 (p0 : Int32) (p1 : Int32) (p2 : Int32) (p3 : Int32) (p4 : Int32) (t0_11 : Int32) (t0_24 : Int32) (t0_37 : Int32) (t0_86 : Int32) (t0_123 : Int32) (t0_160 : Int32) (v13_207 : Int32) (v14_207 : Int32) (v15_218 : Int32) : Int32 := if v13_207 = v14_207 then (f0_313 p0 p1 p2 p3 p4 t0_11 t0_24 t0_37 t0_86 t0_123 t0_160 v13_207 v14_207 v15_218 (-1 : Int32)) else if (f6 v13_207 v14_207) = (0 : Int32) then (if (f7 v13_207 v14_207) = (1 : Int32) then (if t0_11 = (0 : Int32) then (f0_270 p0 p1 p2 p3 p4 t0_11 t0_24 t0_37 t0_86 t0_123 t0_160 v13_207 v14_207 v15_218 (-1 : Int32)) else (f0_270 p0 p1 p2 p3 p4 t0_11 t0_24 t0_37 t0_86 t0_123 t0_160 v13_207 v14_207 v15_218 p0)) else (f0_275 p0 p1 p2 p3 p4 t0_11 t0_24 t0_37 t0_86 t0_123 t0_160 v13_207 v14_207 v15_218)) else (f0_275 p0 p1 p2 p3 p4 t0_11 t0_24 t0_37 t0_86 t0_123 t0_160 v13_207 v14_207 v15_218)
def f0_207 (p0 : Int32) (p1 : Int32) (p2 : Int32) (p3 : Int32) (p4 : Int32) (t0_11 : Int32) (t0_24 : Int32) (t0_37 : Int32) (t0_86 : Int32) (t0_123 : Int32) (t0_160 : Int32) (v13_207 : Int32) (v14_207 : Int32) : Int32 := (f0_218 p0 p1 p2 p3 p4 t0_11 t0_24 t0_37 t0_86 t0_123 t0_160 v13_207 v14_207 (own_got (own_ss (own_pr (0 : Int32) t0_11 t0_24 t0_86) (own_pr (own_pr (0 : Int32) t0_11 t0_24 t0_86) t0_11 t0_37 t0_123) (own_pr (own_pr (own_pr (0 : Int32) t0_11 t0_24 t0_86) t0_11 t0_37 t0_123) t0_24 t0_37 t0_160)) (own_put (own_put (own_put (fun _ => (0 : Int32)) (0 : Int32) t0_11 (1 : Int32) t0_24 (2 : Int32) t0_86) (own_pr (0 : Int32) t0_11 t0_24 t0_86) t0_11 (0 : Int32) t0_37 (2 : Int32) t0_123) (own_pr (own_pr (0 : Int32) t0_11 t0_24 t0_86) t0_11 t0_37 t0_123) t0_24 (0 : Int32) t0_37 (1 : Int32) t0_160) (own_put (own_put (own_put (fun _ => (0 : Int32)) (0 : Int32) t0_11 p0 t0_24 p1 t0_86) (own_pr (0 : Int32) t0_11 t0_24 t0_86) t0_11 p0 t0_37 p2 t0_123) (own_pr (own_pr (0 : Int32) t0_11 t0_24 t0_86) t0_11 t0_37 t0_123) t0_24 p1 t0_37 p2 t0_160) v13_207 v14_207))
def f0_160 (p0 : Int32) (p1 : Int32) (p2 : Int32) (p3 : Int32) (p4 : Int32) (t0_11 : Int32) (t0_24 : Int32) (t0_37 : Int32) (t0_86 : Int32) (t0_123 : Int32) (t0_160 : Int32) : Int32 := (f0_207 p0 p1 p2 p3 p4 t0_11 t0_24 t0_37 t0_86 t0_123 t0_160 ((p4 &&& (2147483647 : Int32)) % (3 : Int32)) ((((p4.toUInt32 >>> ((8 : Int32) &&& 31).toUInt32).toInt32) &&& (2147483647 : Int32)) % (3 : Int32)))
def f0_123 (p0 : Int32) (p1 : Int32) (p2 : Int32) (p3 : Int32) (p4 : Int32) (t0_11 : Int32) (t0_24 : Int32) (t0_37 : Int32) (t0_86 : Int32) (t0_123 : Int32) : Int32 := if (p3 &&& (32 : Int32)) = (0 : Int32) then (f0_160 p0 p1 p2 p3 p4 t0_11 t0_24 t0_37 t0_86 t0_123 (0 : Int32)) else (f0_160 p0 p1 p2 p3 p4 t0_11 t0_24 t0_37 t0_86 t0_123 (1 : Int32))
def f0_86 (p0 : Int32) (p1 : Int32) (p2 : Int32) (p3 : Int32) (p4 : Int32) (t0_11 : Int32) (t0_24 : Int32) (t0_37 : Int32) (t0_86 : Int32) : Int32 := if (p3 &&& (16 : Int32)) = (0 : Int32) then (f0_123 p0 p1 p2 p3 p4 t0_11 t0_24 t0_37 t0_86 (0 : Int32)) else (f0_123 p0 p1 p2 p3 p4 t0_11 t0_24 t0_37 t0_86 (1 : Int32))
def f0_37 (p0 : Int32) (p1 : Int32) (p2 : Int32) (p3 : Int32) (p4 : Int32) (t0_11 : Int32) (t0_24 : Int32) (t0_37 : Int32) : Int32 := if (p3 &&& (8 : Int32)) = (0 : Int32) then (f0_86 p0 p1 p2 p3 p4 t0_11 t0_24 t0_37 (0 : Int32)) else (f0_86 p0 p1 p2 p3 p4 t0_11 t0_24 t0_37 (1 : Int32))
def f0_24 (p0 : Int32) (p1 : Int32) (p2 : Int32) (p3 : Int32) (p4 : Int32) (t0_11 : Int32) (t0_24 : Int32) : Int32 := if (p3 &&& (4 : Int32)) = (0 : Int32) then (f0_37 p0 p1 p2 p3 p4 t0_11 t0_24 (0 : Int32)) else (f0_37 p0 p1 p2 p3 p4 t0_11 t0_24 (1 : Int32))
def f0_11 (p0 : Int32) (p1 : Int32) (p2 : Int32) (p3 : Int32) (p4 : Int32) (t0_11 : Int32) : Int32 := if (p3 &&& (2 : Int32)) = (0 : Int32) then (f0_24 p0 p1 p2 p3 p4 t0_11 (0 : Int32)) else (f0_24 p0 p1 p2 p3 p4 t0_11 (1 : Int32))
def f0 (p0 : Int32) (p1 : Int32) (p2 : Int32) (p3 : Int32) (p4 : Int32) : Int32 := if (p3 &&& (1 : Int32)) = (0 : Int32) then (f0_11 p0 p1 p2 p3 p4 (0 : Int32)) else (f0_11 p0 p1 p2 p3 p4 (1 : Int32))
def Q0 (Z : State) (p0 : Int32) (p1 : Int32) (p2 : Int32) (p3 : Int32) (p4 : Int32) (h0 : Heap) (n0 : Nat) (v : Option Value) (h : Heap) (L : List Loc) : Prop := v = some (.int (f0 p0 p1 p2 p3 p4)) ∧ Fr n0 L ∧ True
set_option maxRecDepth 65536 in
set_option maxHeartbeats 40000000 in
theorem rm0 (l : Launch) (Z : State) (a0 : Array Value) (hw : ∀ d ∈ tables_1, d.before a0 Z = true) (ws : List Jvm.Cond) (p0 : Int32) (p1 : Int32) (p2 : Int32) (p3 : Int32) (p4 : Int32) (h0 : Heap) (n0 : Nat) (Z0 : n0 ≤ h0.size) :
    MetFree l x (head1 (Jvm.Cond.code x code maxLocals ret :: ws) room_1) (fun a U => a = #[(.int p0), (.int p1), (.int p2), (.int p3), (.int p4)] ∧ Z.Warmed39 U.vm ∧ U.heap = h0) (fun _ _ _ _ _ => True) (fun _ U o U' => ∃ v L, o = .returned v ∧ Q0 Z p0 p1 p2 p3 p4 h0 n0 v U'.heap L ∧ FrameEnd U o U' L room_1.cells room_1.slots) := by
  refine MetFree.of_bodySF (plainFor_of_name own_pn1) hisR ?_
  intro p e s m args below meth c s₁ Bd hml0 hP hK
  obtain ⟨rfl, hZ, hh⟩ := hP
  have hx := Bd.exec
  have hby := Bd.bytes
  have hml : c.maxLocals = 19 := hml0
  have hown : s.vm.findClass "com/example/lanterns/lanterns/solvers/GraphEdgeBetweenPinLaw" = some m.cls := findClass_of_methodNamed Bd.named
  have hnm := (name_of_methodNamed Bd.named Bd.method).1
  have hlk : meth.locks = false := BodyLoose.notSynchronized Bd
  have X0 : Stand p l e room_1 s m #[(.int p0), (.int p1), (.int p2), (.int p3), (.int p4)] below meth c s₁ [] 0 0 := Stand.of_body Bd
  have e0 : s₁.heap = h0 := by rw [← hh, Bd.state]; rfl
  have N0 := Fr.nil n0
  obtain ⟨G, hG⟩ : ∃ G, G = own_G s (Q0 Z p0 p1 p2 p3 p4 h0 n0) room_1.cells room_1.slots := ⟨_, rfl⟩
  show own_Fin p e below (own_G s (Q0 Z p0 p1 p2 p3 p4 h0 n0) room_1.cells room_1.slots) (s₁.setTop (entryFrame m #[(.int p0), (.int p1), (.int p2), (.int p3), (.int p4)] maxLocals))
  rw [← hG]
  refine own_to (fun _ kz => castTop (ef0 m p0 p1 p2 p3 p4) kz) ?_
  have q0 : (f0 p0 p1 p2 p3 p4) = (f0 p0 p1 p2 p3 p4) := rfl
  show own_Fin p e below G (s₁.setTop (mkF m 0 #[.val (.int p0), .val (.int p1), .val (.int p2), .val (.int p3), .val (.int p4), .unset, .unset, .unset, .unset, .unset, .unset, .unset, .unset, .unset, .unset, .unset, .unset, .unset, .unset] []))
  refine own_to (fun _ kz => XS.iloadN X0.here hx rfl (hb hby at_0) rfl  kz) ?_
  show own_Fin p e below G (s₁.setTop (mkF m 1 #[.val (.int p0), .val (.int p1), .val (.int p2), .val (.int p3), .val (.int p4), .unset, .unset, .unset, .unset, .unset, .unset, .unset, .unset, .unset, .unset, .unset, .unset, .unset, .unset] [(.int p3)]))
  refine own_to (fun _ kz => XS.iconst X0.here hx rfl (hb hby at_1) kz) ?_
  show own_Fin p e below G (s₁.setTop (mkF m 2 #[.val (.int p0), .val (.int p1), .val (.int p2), .val (.int p3), .val (.int p4), .unset, .unset, .unset, .unset, .unset, .unset, .unset, .unset, .unset, .unset, .unset, .unset, .unset, .unset] [(.int (1 : Int32)), (.int p3)]))
  refine own_to (fun _ kz => XS.iand X0.here hx rfl (hb hby at_2) rfl kz) ?_
  show own_Fin p e below G (s₁.setTop (mkF m 3 #[.val (.int p0), .val (.int p1), .val (.int p2), .val (.int p3), .val (.int p4), .unset, .unset, .unset, .unset, .unset, .unset, .unset, .unset, .unset, .unset, .unset, .unset, .unset, .unset] [(.int (p3 &&& (1 : Int32)))]))
  have K11 : ∀ (t0_11 : Int32) (q_j11 : (f0 p0 p1 p2 p3 p4) = (f0_11 p0 p1 p2 p3 p4 t0_11)), own_Fin p e below G (s₁.setTop (mkF m 11 #[.val (.int p0), .val (.int p1), .val (.int p2), .val (.int p3), .val (.int p4), .unset, .unset, .unset, .unset, .unset, .unset, .unset, .unset, .unset, .unset, .unset, .unset, .unset, .unset] [(.int t0_11)])) := by
    intro t0_11 q_j11
    refine own_to (fun _ kz => XS.istore X0.here hx rfl (hb hby at_11) rfl (l' := #[.val (.int p0), .val (.int p1), .val (.int p2), .val (.int p3), .val (.int p4), .val (.int t0_11), .unset, .unset, .unset, .unset, .unset, .unset, .unset, .unset, .unset, .unset, .unset, .unset, .unset]) rfl kz) ?_
    show own_Fin p e below G (s₁.setTop (mkF m 13 #[.val (.int p0), .val (.int p1), .val (.int p2), .val (.int p3), .val (.int p4), .val (.int t0_11), .unset, .unset, .unset, .unset, .unset, .unset, .unset, .unset, .unset, .unset, .unset, .unset, .unset] []))
    refine own_to (fun _ kz => XS.iloadN X0.here hx rfl (hb hby at_13) rfl  kz) ?_
    show own_Fin p e below G (s₁.setTop (mkF m 14 #[.val (.int p0), .val (.int p1), .val (.int p2), .val (.int p3), .val (.int p4), .val (.int t0_11), .unset, .unset, .unset, .unset, .unset, .unset, .unset, .unset, .unset, .unset, .unset, .unset, .unset] [(.int p3)]))
    refine own_to (fun _ kz => XS.iconst X0.here hx rfl (hb hby at_14) kz) ?_
    show own_Fin p e below G (s₁.setTop (mkF m 15 #[.val (.int p0), .val (.int p1), .val (.int p2), .val (.int p3), .val (.int p4), .val (.int t0_11), .unset, .unset, .unset, .unset, .unset, .unset, .unset, .unset, .unset, .unset, .unset, .unset, .unset] [(.int (2 : Int32)), (.int p3)]))
    refine own_to (fun _ kz => XS.iand X0.here hx rfl (hb hby at_15) rfl kz) ?_
    show own_Fin p e below G (s₁.setTop (mkF m 16 #[.val (.int p0), .val (.int p1), .val (.int p2), .val (.int p3), .val (.int p4), .val (.int t0_11), .unset, .unset, .unset, .unset, .unset, .unset, .unset, .unset, .unset, .unset, .unset, .unset, .unset] [(.int (p3 &&& (2 : Int32)))]))
    have K24 : ∀ (t0_24 : Int32) (q_j24 : (f0 p0 p1 p2 p3 p4) = (f0_24 p0 p1 p2 p3 p4 t0_11 t0_24)), own_Fin p e below G (s₁.setTop (mkF m 24 #[.val (.int p0), .val (.int p1), .val (.int p2), .val (.int p3), .val (.int p4), .val (.int t0_11), .unset, .unset, .unset, .unset, .unset, .unset, .unset, .unset, .unset, .unset, .unset, .unset, .unset] [(.int t0_24)])) := by
      intro t0_24 q_j24
      refine own_to (fun _ kz => XS.istore X0.here hx rfl (hb hby at_24) rfl (l' := #[.val (.int p0), .val (.int p1), .val (.int p2), .val (.int p3), .val (.int p4), .val (.int t0_11), .val (.int t0_24), .unset, .unset, .unset, .unset, .unset, .unset, .unset, .unset, .unset, .unset, .unset, .unset]) rfl kz) ?_
      show own_Fin p e below G (s₁.setTop (mkF m 26 #[.val (.int p0), .val (.int p1), .val (.int p2), .val (.int p3), .val (.int p4), .val (.int t0_11), .val (.int t0_24), .unset, .unset, .unset, .unset, .unset, .unset, .unset, .unset, .unset, .unset, .unset, .unset] []))
      refine own_to (fun _ kz => XS.iloadN X0.here hx rfl (hb hby at_26) rfl  kz) ?_
      show own_Fin p e below G (s₁.setTop (mkF m 27 #[.val (.int p0), .val (.int p1), .val (.int p2), .val (.int p3), .val (.int p4), .val (.int t0_11), .val (.int t0_24), .unset, .unset, .unset, .unset, .unset, .unset, .unset, .unset, .unset, .unset, .unset, .unset] [(.int p3)]))
      refine own_to (fun _ kz => XS.iconst X0.here hx rfl (hb hby at_27) kz) ?_
      show own_Fin p e below G (s₁.setTop (mkF m 28 #[.val (.int p0), .val (.int p1), .val (.int p2), .val (.int p3), .val (.int p4), .val (.int t0_11), .val (.int t0_24), .unset, .unset, .unset, .unset, .unset, .unset, .unset, .unset, .unset, .unset, .unset, .unset] [(.int (4 : Int32)), (.int p3)]))
      refine own_to (fun _ kz => XS.iand X0.here hx rfl (hb hby at_28) rfl kz) ?_
      show own_Fin p e below G (s₁.setTop (mkF m 29 #[.val (.int p0), .val (.int p1), .val (.int p2), .val (.int p3), .val (.int p4), .val (.int t0_11), .val (.int t0_24), .unset, .unset, .unset, .unset, .unset, .unset, .unset, .unset, .unset, .unset, .unset, .unset] [(.int (p3 &&& (4 : Int32)))]))
      have K37 : ∀ (t0_37 : Int32) (q_j37 : (f0 p0 p1 p2 p3 p4) = (f0_37 p0 p1 p2 p3 p4 t0_11 t0_24 t0_37)), own_Fin p e below G (s₁.setTop (mkF m 37 #[.val (.int p0), .val (.int p1), .val (.int p2), .val (.int p3), .val (.int p4), .val (.int t0_11), .val (.int t0_24), .unset, .unset, .unset, .unset, .unset, .unset, .unset, .unset, .unset, .unset, .unset, .unset] [(.int t0_37)])) := by
        intro t0_37 q_j37
        refine own_to (fun _ kz => XS.istore X0.here hx rfl (hb hby at_37) rfl (l' := #[.val (.int p0), .val (.int p1), .val (.int p2), .val (.int p3), .val (.int p4), .val (.int t0_11), .val (.int t0_24), .val (.int t0_37), .unset, .unset, .unset, .unset, .unset, .unset, .unset, .unset, .unset, .unset, .unset]) rfl kz) ?_
        show own_Fin p e below G (s₁.setTop (mkF m 39 #[.val (.int p0), .val (.int p1), .val (.int p2), .val (.int p3), .val (.int p4), .val (.int t0_11), .val (.int t0_24), .val (.int t0_37), .unset, .unset, .unset, .unset, .unset, .unset, .unset, .unset, .unset, .unset, .unset] []))
        refine own_to (fun _ kz => XS.bipush X0.here hx rfl (hb hby at_39) kz) ?_
        show own_Fin p e below G (s₁.setTop (mkF m 41 #[.val (.int p0), .val (.int p1), .val (.int p2), .val (.int p3), .val (.int p4), .val (.int t0_11), .val (.int t0_24), .val (.int t0_37), .unset, .unset, .unset, .unset, .unset, .unset, .unset, .unset, .unset, .unset, .unset] [(.int (6 : Int32))]))
        obtain ⟨T41, h41, k41, X41, e41, E41, A41, st41⟩ := newP X0 hx hZ (hw _ (List.mem_of_getElem? (i := 0) rfl)) e0 (g := (mkF m 41 #[.val (.int p0), .val (.int p1), .val (.int p2), .val (.int p3), .val (.int p4), .val (.int t0_11), .val (.int t0_24), .val (.int t0_37), .unset, .unset, .unset, .unset, .unset, .unset, .unset, .unset, .unset, .unset, .unset] [(.int (6 : Int32))])) rfl (hb hby at_41) rfl (by decide) (cap := 6) (by decide) (by decide) (by decide) (by decide)
        obtain ⟨b41, g41⟩ : ∃ z, z = h0.size := ⟨_, rfl⟩
        rw [← g41] at A41 st41
        refine own_to st41 ?_
        have g_b41 : n0 ≤ b41 := Nat.le_trans Z0 (Nat.le_of_eq g41.symm)
        have V41 : own_AV Value.int Z h41 b41 .int 6 (fun _ => (0 : Int32)) := own_AV.new A41 (by decide) (by decide) (fun _ => rfl)
        show own_Fin p e below G (T41.setTop (mkF m 43 #[.val (.int p0), .val (.int p1), .val (.int p2), .val (.int p3), .val (.int p4), .val (.int t0_11), .val (.int t0_24), .val (.int t0_37), .unset, .unset, .unset, .unset, .unset, .unset, .unset, .unset, .unset, .unset, .unset] [(.ref b41)]))
        refine own_to (fun _ kz => XS.astore X41.here hx rfl (hb hby at_43) rfl (rfl) (l' := #[.val (.int p0), .val (.int p1), .val (.int p2), .val (.int p3), .val (.int p4), .val (.int t0_11), .val (.int t0_24), .val (.int t0_37), .val (.ref b41), .unset, .unset, .unset, .unset, .unset, .unset, .unset, .unset, .unset, .unset]) rfl kz) ?_
        show own_Fin p e below G (T41.setTop (mkF m 45 #[.val (.int p0), .val (.int p1), .val (.int p2), .val (.int p3), .val (.int p4), .val (.int t0_11), .val (.int t0_24), .val (.int t0_37), .val (.ref b41), .unset, .unset, .unset, .unset, .unset, .unset, .unset, .unset, .unset, .unset] []))
        refine own_to (fun _ kz => XS.bipush X41.here hx rfl (hb hby at_45) kz) ?_
        show own_Fin p e below G (T41.setTop (mkF m 47 #[.val (.int p0), .val (.int p1), .val (.int p2), .val (.int p3), .val (.int p4), .val (.int t0_11), .val (.int t0_24), .val (.int t0_37), .val (.ref b41), .unset, .unset, .unset, .unset, .unset, .unset, .unset, .unset, .unset, .unset] [(.int (6 : Int32))]))
        have Zz_47_E41 := Nat.le_trans Z0 E41.1
        have Z_47 : n0 ≤ h41.size := Zz_47_E41
        obtain ⟨T47, h47, k47, X47, e47, E47, A47, st47⟩ := newP X41 hx hZ (hw _ (List.mem_of_getElem? (i := 0) rfl)) e41 (g := (mkF m 47 #[.val (.int p0), .val (.int p1), .val (.int p2), .val (.int p3), .val (.int p4), .val (.int t0_11), .val (.int t0_24), .val (.int t0_37), .val (.ref b41), .unset, .unset, .unset, .unset, .unset, .unset, .unset, .unset, .unset, .unset] [(.int (6 : Int32))])) rfl (hb hby at_47) rfl (by decide) (cap := 6) (by decide) (by decide) (by decide) (by decide)
        obtain ⟨b47, g47⟩ : ∃ z, z = h41.size := ⟨_, rfl⟩
        rw [← g47] at A47 st47
        refine own_to st47 ?_
        have ne_b41_b47 : b41 ≠ b47 := Nat.ne_of_lt (Nat.lt_of_lt_of_le V41.lt (Nat.le_of_eq g47.symm))
        have g_b47 : n0 ≤ b47 := Nat.le_trans Z_47 (Nat.le_of_eq g47.symm)
        have V47 : own_AV Value.int Z h47 b47 .int 6 (fun _ => (0 : Int32)) := own_AV.new A47 (by decide) (by decide) (fun _ => rfl)
        show own_Fin p e below G (T47.setTop (mkF m 49 #[.val (.int p0), .val (.int p1), .val (.int p2), .val (.int p3), .val (.int p4), .val (.int t0_11), .val (.int t0_24), .val (.int t0_37), .val (.ref b41), .unset, .unset, .unset, .unset, .unset, .unset, .unset, .unset, .unset, .unset] [(.ref b47)]))
        refine own_to (fun _ kz => XS.astore X47.here hx rfl (hb hby at_49) rfl (rfl) (l' := #[.val (.int p0), .val (.int p1), .val (.int p2), .val (.int p3), .val (.int p4), .val (.int t0_11), .val (.int t0_24), .val (.int t0_37), .val (.ref b41), .val (.ref b47), .unset, .unset, .unset, .unset, .unset, .unset, .unset, .unset, .unset]) rfl kz) ?_
        show own_Fin p e below G (T47.setTop (mkF m 51 #[.val (.int p0), .val (.int p1), .val (.int p2), .val (.int p3), .val (.int p4), .val (.int t0_11), .val (.int t0_24), .val (.int t0_37), .val (.ref b41), .val (.ref b47), .unset, .unset, .unset, .unset, .unset, .unset, .unset, .unset, .unset] []))
        refine own_to (fun _ kz => XS.iconst X47.here hx rfl (hb hby at_51) kz) ?_
        show own_Fin p e below G (T47.setTop (mkF m 52 #[.val (.int p0), .val (.int p1), .val (.int p2), .val (.int p3), .val (.int p4), .val (.int t0_11), .val (.int t0_24), .val (.int t0_37), .val (.ref b41), .val (.ref b47), .unset, .unset, .unset, .unset, .unset, .unset, .unset, .unset, .unset] [(.int (4 : Int32))]))
        have Zz_52_E47 := Nat.le_trans Z_47 E47.1
        have Z_52 : n0 ≤ h47.size := Zz_52_E47
        obtain ⟨T52, h52, k52, X52, e52, E52, A52, st52⟩ := newP X47 hx hZ (hw _ (List.mem_of_getElem? (i := 0) rfl)) e47 (g := (mkF m 52 #[.val (.int p0), .val (.int p1), .val (.int p2), .val (.int p3), .val (.int p4), .val (.int t0_11), .val (.int t0_24), .val (.int t0_37), .val (.ref b41), .val (.ref b47), .unset, .unset, .unset, .unset, .unset, .unset, .unset, .unset, .unset] [(.int (4 : Int32))])) rfl (hb hby at_52) rfl (by decide) (cap := 4) (by decide) (by decide) (by decide) (by decide)
        obtain ⟨b52, g52⟩ : ∃ z, z = h47.size := ⟨_, rfl⟩
        rw [← g52] at A52 st52
        refine own_to st52 ?_
        have ne_b41_b52 : b41 ≠ b52 := Nat.ne_of_lt (Nat.lt_of_lt_of_le (V41.ext E47).lt (Nat.le_of_eq g52.symm))
        have ne_b47_b52 : b47 ≠ b52 := Nat.ne_of_lt (Nat.lt_of_lt_of_le V47.lt (Nat.le_of_eq g52.symm))
        have g_b52 : n0 ≤ b52 := Nat.le_trans Z_52 (Nat.le_of_eq g52.symm)
        have V52 : own_AV Value.int Z h52 b52 .int 4 (fun _ => (0 : Int32)) := own_AV.new A52 (by decide) (by decide) (fun _ => rfl)
        show own_Fin p e below G (T52.setTop (mkF m 54 #[.val (.int p0), .val (.int p1), .val (.int p2), .val (.int p3), .val (.int p4), .val (.int t0_11), .val (.int t0_24), .val (.int t0_37), .val (.ref b41), .val (.ref b47), .unset, .unset, .unset, .unset, .unset, .unset, .unset, .unset, .unset] [(.ref b52)]))
        refine own_to (fun _ kz => XS.astore X52.here hx rfl (hb hby at_54) rfl (rfl) (l' := #[.val (.int p0), .val (.int p1), .val (.int p2), .val (.int p3), .val (.int p4), .val (.int t0_11), .val (.int t0_24), .val (.int t0_37), .val (.ref b41), .val (.ref b47), .val (.ref b52), .unset, .unset, .unset, .unset, .unset, .unset, .unset, .unset]) rfl kz) ?_
        show own_Fin p e below G (T52.setTop (mkF m 56 #[.val (.int p0), .val (.int p1), .val (.int p2), .val (.int p3), .val (.int p4), .val (.int t0_11), .val (.int t0_24), .val (.int t0_37), .val (.ref b41), .val (.ref b47), .val (.ref b52), .unset, .unset, .unset, .unset, .unset, .unset, .unset, .unset] []))
        refine own_to (fun _ kz => XS.aload X52.here hx rfl (hb hby at_56) rfl (rfl)  kz) ?_
        show own_Fin p e below G (T52.setTop (mkF m 58 #[.val (.int p0), .val (.int p1), .val (.int p2), .val (.int p3), .val (.int p4), .val (.int t0_11), .val (.int t0_24), .val (.int t0_37), .val (.ref b41), .val (.ref b47), .val (.ref b52), .unset, .unset, .unset, .unset, .unset, .unset, .unset, .unset] [(.ref b52)]))
        refine own_to (fun _ kz => XS.iconst X52.here hx rfl (hb hby at_58) kz) ?_
        show own_Fin p e below G (T52.setTop (mkF m 59 #[.val (.int p0), .val (.int p1), .val (.int p2), .val (.int p3), .val (.int p4), .val (.int t0_11), .val (.int t0_24), .val (.int t0_37), .val (.ref b41), .val (.ref b47), .val (.ref b52), .unset, .unset, .unset, .unset, .unset, .unset, .unset, .unset] [(.int (0 : Int32)), (.ref b52)]))
        refine own_to (fun _ kz => XS.iconst X52.here hx rfl (hb hby at_59) kz) ?_
        show own_Fin p e below G (T52.setTop (mkF m 60 #[.val (.int p0), .val (.int p1), .val (.int p2), .val (.int p3), .val (.int p4), .val (.int t0_11), .val (.int t0_24), .val (.int t0_37), .val (.ref b41), .val (.ref b47), .val (.ref b52), .unset, .unset, .unset, .unset, .unset, .unset, .unset, .unset] [(.int (0 : Int32)), (.int (0 : Int32)), (.ref b52)]))
        obtain ⟨nn60, cl60, Ar60, Sz60, Hs60⟩ := V52
        obtain ⟨T60, h60, X60, e60, W60, st60⟩ := stI X52 hx hZ e52 Ar60 (j := (0 : Int32)) (own_in Sz60 (by decide) rfl (by decide)) (g := (mkF m 60 #[.val (.int p0), .val (.int p1), .val (.int p2), .val (.int p3), .val (.int p4), .val (.int t0_11), .val (.int t0_24), .val (.int t0_37), .val (.ref b41), .val (.ref b47), .val (.ref b52), .unset, .unset, .unset, .unset, .unset, .unset, .unset, .unset] [(.int (0 : Int32)), (.int (0 : Int32)), (.ref b52)])) rfl rfl (hb hby at_60)
        refine own_to st60 ?_
        have V60 : own_AV Value.int Z h60 b52 .int 4 (own_upd (fun _ => (0 : Int32)) 0 (0 : Int32)) := own_AV.set nn60 Ar60 Sz60 Hs60 W60 rfl
        obtain ⟨lo60, X60, N60⟩ : ∃ lo, Stand p l e _ s m _ below meth c T60 lo _ _ ∧ Fr n0 lo := ⟨_, X60, Fr.snoc X60 N0 g_b52⟩
        show own_Fin p e below G (T60.setTop (mkF m 61 #[.val (.int p0), .val (.int p1), .val (.int p2), .val (.int p3), .val (.int p4), .val (.int t0_11), .val (.int t0_24), .val (.int t0_37), .val (.ref b41), .val (.ref b47), .val (.ref b52), .unset, .unset, .unset, .unset, .unset, .unset, .unset, .unset] []))
        refine own_to (fun _ kz => XS.aload X60.here hx rfl (hb hby at_61) rfl (rfl)  kz) ?_
        show own_Fin p e below G (T60.setTop (mkF m 63 #[.val (.int p0), .val (.int p1), .val (.int p2), .val (.int p3), .val (.int p4), .val (.int t0_11), .val (.int t0_24), .val (.int t0_37), .val (.ref b41), .val (.ref b47), .val (.ref b52), .unset, .unset, .unset, .unset, .unset, .unset, .unset, .unset] [(.ref b41)]))
        refine own_to (fun _ kz => XS.aload X60.here hx rfl (hb hby at_63) rfl (rfl)  kz) ?_
        show own_Fin p e below G (T60.setTop (mkF m 65 #[.val (.int p0), .val (.int p1), .val (.int p2), .val (.int p3), .val (.int p4), .val (.int t0_11), .val (.int t0_24), .val (.int t0_37), .val (.ref b41), .val (.ref b47), .val (.ref b52), .unset, .unset, .unset, .unset, .unset, .unset, .unset, .unset] [(.ref b47), (.ref b41)]))
        refine own_to (fun _ kz => XS.iconst X60.here hx rfl (hb hby at_65) kz) ?_
        show own_Fin p e below G (T60.setTop (mkF m 66 #[.val (.int p0), .val (.int p1), .val (.int p2), .val (.int p3), .val (.int p4), .val (.int t0_11), .val (.int t0_24), .val (.int t0_37), .val (.ref b41), .val (.ref b47), .val (.ref b52), .unset, .unset, .unset, .unset, .unset, .unset, .unset, .unset] [(.int (0 : Int32)), (.ref b47), (.ref b41)]))
        refine own_to (fun _ kz => XS.iload X60.here hx rfl (hb hby at_66) rfl  kz) ?_
        show own_Fin p e below G (T60.setTop (mkF m 68 #[.val (.int p0), .val (.int p1), .val (.int p2), .val (.int p3), .val (.int p4), .val (.int t0_11), .val (.int t0_24), .val (.int t0_37), .val (.ref b41), .val (.ref b47), .val (.ref b52), .unset, .unset, .unset, .unset, .unset, .unset, .unset, .unset] [(.int t0_11), (.int (0 : Int32)), (.ref b47), (.ref b41)]))
        refine own_to (fun _ kz => XS.iconst X60.here hx rfl (hb hby at_68) kz) ?_
        show own_Fin p e below G (T60.setTop (mkF m 69 #[.val (.int p0), .val (.int p1), .val (.int p2), .val (.int p3), .val (.int p4), .val (.int t0_11), .val (.int t0_24), .val (.int t0_37), .val (.ref b41), .val (.ref b47), .val (.ref b52), .unset, .unset, .unset, .unset, .unset, .unset, .unset, .unset] [(.int (1 : Int32)), (.int t0_11), (.int (0 : Int32)), (.ref b47), (.ref b41)]))
        refine own_to (fun _ kz => XS.iloadN X60.here hx rfl (hb hby at_69) rfl  kz) ?_
        show own_Fin p e below G (T60.setTop (mkF m 70 #[.val (.int p0), .val (.int p1), .val (.int p2), .val (.int p3), .val (.int p4), .val (.int t0_11), .val (.int t0_24), .val (.int t0_37), .val (.ref b41), .val (.ref b47), .val (.ref b52), .unset, .unset, .unset, .unset, .unset, .unset, .unset, .unset] [(.int p0), (.int (1 : Int32)), (.int t0_11), (.int (0 : Int32)), (.ref b47), (.ref b41)]))
        refine own_to (fun _ kz => XS.iload X60.here hx rfl (hb hby at_70) rfl  kz) ?_
        show own_Fin p e below G (T60.setTop (mkF m 72 #[.val (.int p0), .val (.int p1), .val (.int p2), .val (.int p3), .val (.int p4), .val (.int t0_11), .val (.int t0_24), .val (.int t0_37), .val (.ref b41), .val (.ref b47), .val (.ref b52), .unset, .unset, .unset, .unset, .unset, .unset, .unset, .unset] [(.int t0_24), (.int p0), (.int (1 : Int32)), (.int t0_11), (.int (0 : Int32)), (.ref b47), (.ref b41)]))
        refine own_to (fun _ kz => XS.iconst X60.here hx rfl (hb hby at_72) kz) ?_
        show own_Fin p e below G (T60.setTop (mkF m 73 #[.val (.int p0), .val (.int p1), .val (.int p2), .val (.int p3), .val (.int p4), .val (.int t0_11), .val (.int t0_24), .val (.int t0_37), .val (.ref b41), .val (.ref b47), .val (.ref b52), .unset, .unset, .unset, .unset, .unset, .unset, .unset, .unset] [(.int (2 : Int32)), (.int t0_24), (.int p0), (.int (1 : Int32)), (.int t0_11), (.int (0 : Int32)), (.ref b47), (.ref b41)]))
        refine own_to (fun _ kz => XS.iloadN X60.here hx rfl (hb hby at_73) rfl  kz) ?_
        show own_Fin p e below G (T60.setTop (mkF m 74 #[.val (.int p0), .val (.int p1), .val (.int p2), .val (.int p3), .val (.int p4), .val (.int t0_11), .val (.int t0_24), .val (.int t0_37), .val (.ref b41), .val (.ref b47), .val (.ref b52), .unset, .unset, .unset, .unset, .unset, .unset, .unset, .unset] [(.int p1), (.int (2 : Int32)), (.int t0_24), (.int p0), (.int (1 : Int32)), (.int t0_11), (.int (0 : Int32)), (.ref b47), (.ref b41)]))
        refine own_to (fun _ kz => XS.iloadN X60.here hx rfl (hb hby at_74) rfl  kz) ?_
        show own_Fin p e below G (T60.setTop (mkF m 75 #[.val (.int p0), .val (.int p1), .val (.int p2), .val (.int p3), .val (.int p4), .val (.int t0_11), .val (.int t0_24), .val (.int t0_37), .val (.ref b41), .val (.ref b47), .val (.ref b52), .unset, .unset, .unset, .unset, .unset, .unset, .unset, .unset] [(.int p3), (.int p1), (.int (2 : Int32)), (.int t0_24), (.int p0), (.int (1 : Int32)), (.int t0_11), (.int (0 : Int32)), (.ref b47), (.ref b41)]))
        refine own_to (fun _ kz => XS.bipush X60.here hx rfl (hb hby at_75) kz) ?_
        show own_Fin p e below G (T60.setTop (mkF m 77 #[.val (.int p0), .val (.int p1), .val (.int p2), .val (.int p3), .val (.int p4), .val (.int t0_11), .val (.int t0_24), .val (.int t0_37), .val (.ref b41), .val (.ref b47), .val (.ref b52), .unset, .unset, .unset, .unset, .unset, .unset, .unset, .unset] [(.int (8 : Int32)), (.int p3), (.int p1), (.int (2 : Int32)), (.int t0_24), (.int p0), (.int (1 : Int32)), (.int t0_11), (.int (0 : Int32)), (.ref b47), (.ref b41)]))
        refine own_to (fun _ kz => XS.iand X60.here hx rfl (hb hby at_77) rfl kz) ?_
        show own_Fin p e below G (T60.setTop (mkF m 78 #[.val (.int p0), .val (.int p1), .val (.int p2), .val (.int p3), .val (.int p4), .val (.int t0_11), .val (.int t0_24), .val (.int t0_37), .val (.ref b41), .val (.ref b47), .val (.ref b52), .unset, .unset, .unset, .unset, .unset, .unset, .unset, .unset] [(.int (p3 &&& (8 : Int32))), (.int p1), (.int (2 : Int32)), (.int t0_24), (.int p0), (.int (1 : Int32)), (.int t0_11), (.int (0 : Int32)), (.ref b47), (.ref b41)]))
        have K86 : ∀ (t0_86 : Int32) (q_j86 : (f0 p0 p1 p2 p3 p4) = (f0_86 p0 p1 p2 p3 p4 t0_11 t0_24 t0_37 t0_86)), own_Fin p e below G (T60.setTop (mkF m 86 #[.val (.int p0), .val (.int p1), .val (.int p2), .val (.int p3), .val (.int p4), .val (.int t0_11), .val (.int t0_24), .val (.int t0_37), .val (.ref b41), .val (.ref b47), .val (.ref b52), .unset, .unset, .unset, .unset, .unset, .unset, .unset, .unset] [(.int t0_86), (.int p1), (.int (2 : Int32)), (.int t0_24), (.int p0), (.int (1 : Int32)), (.int t0_11), (.int (0 : Int32)), (.ref b47), (.ref b41)])) := by
          intro t0_86 q_j86
          have V41_at_86 : own_AV Value.int Z h60 b41 .int 6 (fun _ => (0 : Int32)) := (((V41.ext E47).ext E52).other W60 ne_b41_b52)
          have V47_at_86 : own_AV Value.int Z h60 b47 .int 6 (fun _ => (0 : Int32)) := ((V47.ext E52).other W60 ne_b47_b52)
          have Zz_86_E52 := Nat.le_trans Z_52 E52.1
          have Zz_86_W60 := Nat.le_trans Zz_86_E52 (Nat.le_of_eq (Wr.size W60).symm)
          have Z_86 : n0 ≤ h60.size := Zz_86_W60
          obtain ⟨_, _, ⟨T86, L86, k86, n86⟩, -, X86, ⟨Lc86, hQ86, l86, y86, z86⟩, st86⟩ := Jvm.LawKit.callS X60 hx (y := (⟨"com/example/lanterns/lanterns/solvers/GraphEdgeBetweenPinLaw", "put", "([I[IIZIIZIIZ)I"⟩ : MethodName)) hown (mvT hZ (hw _ (List.mem_of_getElem? (i := 1) rfl))) (mvT hZ (hw _ (List.mem_of_getElem? (i := 2) rfl))) (mvT hZ (hw _ (List.mem_of_getElem? (i := 3) rfl))) (mvT hZ (hw _ (List.mem_of_getElem? (i := 4) rfl))) (by decide) (backOf (W := 0) (rm1 l Z a0 hw [] b41 b47 (0 : Int32) t0_11 (1 : Int32) p0 t0_24 (2 : Int32) p1 t0_86 (fun _ => (0 : Int32)) (fun _ => (0 : Int32)) h60 n0 Z_86 V41_at_86 V47_at_86 g_b41 g_b47 ne_b41_b47 (by decide)) hZ (hw _ (List.mem_of_getElem? (i := 4) rfl)) (hw _ (List.mem_of_getElem? (i := 3) rfl)) (by decide) (by decide)) (g := (mkF m 86 #[.val (.int p0), .val (.int p1), .val (.int p2), .val (.int p3), .val (.int p4), .val (.int t0_11), .val (.int t0_24), .val (.int t0_37), .val (.ref b41), .val (.ref b47), .val (.ref b52), .unset, .unset, .unset, .unset, .unset, .unset, .unset, .unset] [(.int t0_86), (.int p1), (.int (2 : Int32)), (.int t0_24), (.int p0), (.int (1 : Int32)), (.int t0_11), (.int (0 : Int32)), (.ref b47), (.ref b41)])) rfl (by rw [hml]; rfl) (argsL := [(.ref b41), (.ref b47), (.int (0 : Int32)), (.int t0_11), (.int (1 : Int32)), (.int p0), (.int t0_24), (.int (2 : Int32)), (.int p1), (.int t0_86)]) (rest := []) (lenOf own_pd1 rfl) rfl (by show 2 * 0 + _ ≤ _; exact Nat.le_of_eq rfl) (hb hby at_86) (fun _ _ => ⟨rfl, e60, (by decide : 3 + 0 ≤ _), (by decide : 16 + 0 ≤ _)⟩)
          dsimp only [Pt.U, Pt.locs, Pt.cells, Pt.slots] at X86 l86 y86 z86 st86 hQ86
          subst l86 y86 z86
          obtain ⟨rfl, N86q, Kp86, P86_0, P86_1⟩ := hQ86
          obtain ⟨lo86, X86, N86⟩ : ∃ lo, Stand p l e _ s m _ below meth c T86 lo _ _ ∧ Fr n0 lo := ⟨_, X86, Fr.app N60 N86q⟩
          refine own_to st86 ?_
          show own_Fin p e below G (T86.setTop (mkF m 89 #[.val (.int p0), .val (.int p1), .val (.int p2), .val (.int p3), .val (.int p4), .val (.int t0_11), .val (.int t0_24), .val (.int t0_37), .val (.ref b41), .val (.ref b47), .val (.ref b52), .unset, .unset, .unset, .unset, .unset, .unset, .unset, .unset] [(.int (own_pr (0 : Int32) t0_11 t0_24 t0_86))]))
          refine own_to (fun _ kz => XS.istore X86.here hx rfl (hb hby at_89) rfl (l' := #[.val (.int p0), .val (.int p1), .val (.int p2), .val (.int p3), .val (.int p4), .val (.int t0_11), .val (.int t0_24), .val (.int t0_37), .val (.ref b41), .val (.ref b47), .val (.ref b52), .val (.int (own_pr (0 : Int32) t0_11 t0_24 t0_86)), .unset, .unset, .unset, .unset, .unset, .unset, .unset]) rfl kz) ?_
          show own_Fin p e below G (T86.setTop (mkF m 91 #[.val (.int p0), .val (.int p1), .val (.int p2), .val (.int p3), .val (.int p4), .val (.int t0_11), .val (.int t0_24), .val (.int t0_37), .val (.ref b41), .val (.ref b47), .val (.ref b52), .val (.int (own_pr (0 : Int32) t0_11 t0_24 t0_86)), .unset, .unset, .unset, .unset, .unset, .unset, .unset] []))
          refine own_to (fun _ kz => XS.aload X86.here hx rfl (hb hby at_91) rfl (rfl)  kz) ?_
          show own_Fin p e below G (T86.setTop (mkF m 93 #[.val (.int p0), .val (.int p1), .val (.int p2), .val (.int p3), .val (.int p4), .val (.int t0_11), .val (.int t0_24), .val (.int t0_37), .val (.ref b41), .val (.ref b47), .val (.ref b52), .val (.int (own_pr (0 : Int32) t0_11 t0_24 t0_86)), .unset, .unset, .unset, .unset, .unset, .unset, .unset] [(.ref b52)]))
          refine own_to (fun _ kz => XS.iconst X86.here hx rfl (hb hby at_93) kz) ?_
          show own_Fin p e below G (T86.setTop (mkF m 94 #[.val (.int p0), .val (.int p1), .val (.int p2), .val (.int p3), .val (.int p4), .val (.int t0_11), .val (.int t0_24), .val (.int t0_37), .val (.ref b41), .val (.ref b47), .val (.ref b52), .val (.int (own_pr (0 : Int32) t0_11 t0_24 t0_86)), .unset, .unset, .unset, .unset, .unset, .unset, .unset] [(.int (1 : Int32)), (.ref b52)]))
          refine own_to (fun _ kz => XS.iload X86.here hx rfl (hb hby at_94) rfl  kz) ?_
          show own_Fin p e below G (T86.setTop (mkF m 96 #[.val (.int p0), .val (.int p1), .val (.int p2), .val (.int p3), .val (.int p4), .val (.int t0_11), .val (.int t0_24), .val (.int t0_37), .val (.ref b41), .val (.ref b47), .val (.ref b52), .val (.int (own_pr (0 : Int32) t0_11 t0_24 t0_86)), .unset, .unset, .unset, .unset, .unset, .unset, .unset] [(.int (own_pr (0 : Int32) t0_11 t0_24 t0_86)), (.int (1 : Int32)), (.ref b52)]))
          have V60_at_96 : own_AV Value.int Z T86.heap b52 .int 4 (own_upd (fun _ => (0 : Int32)) 0 (0 : Int32)) := (V60.keep Kp86 (ninS (Ne.symm ne_b41_b52) (ninS (Ne.symm ne_b47_b52) nin0)))
          obtain ⟨nn96, cl96, Ar96, Sz96, Hs96⟩ := V60_at_96
          obtain ⟨T96, h96, X96, e96, W96, st96⟩ := stI X86 hx hZ rfl Ar96 (j := (1 : Int32)) (own_in Sz96 (by decide) rfl (by decide)) (g := (mkF m 96 #[.val (.int p0), .val (.int p1), .val (.int p2), .val (.int p3), .val (.int p4), .val (.int t0_11), .val (.int t0_24), .val (.int t0_37), .val (.ref b41), .val (.ref b47), .val (.ref b52), .val (.int (own_pr (0 : Int32) t0_11 t0_24 t0_86)), .unset, .unset, .unset, .unset, .unset, .unset, .unset] [(.int (own_pr (0 : Int32) t0_11 t0_24 t0_86)), (.int (1 : Int32)), (.ref b52)])) rfl rfl (hb hby at_96)
          refine own_to st96 ?_
          have V96 : own_AV Value.int Z h96 b52 .int 4 (own_upd (own_upd (fun _ => (0 : Int32)) 0 (0 : Int32)) 1 (own_pr (0 : Int32) t0_11 t0_24 t0_86)) := own_AV.set nn96 Ar96 Sz96 Hs96 W96 rfl
          obtain ⟨lo96, X96, N96⟩ : ∃ lo, Stand p l e _ s m _ below meth c T96 lo _ _ ∧ Fr n0 lo := ⟨_, X96, Fr.snoc X96 N86 g_b52⟩
          show own_Fin p e below G (T96.setTop (mkF m 97 #[.val (.int p0), .val (.int p1), .val (.int p2), .val (.int p3), .val (.int p4), .val (.int t0_11), .val (.int t0_24), .val (.int t0_37), .val (.ref b41), .val (.ref b47), .val (.ref b52), .val (.int (own_pr (0 : Int32) t0_11 t0_24 t0_86)), .unset, .unset, .unset, .unset, .unset, .unset, .unset] []))
          refine own_to (fun _ kz => XS.aload X96.here hx rfl (hb hby at_97) rfl (rfl)  kz) ?_
          show own_Fin p e below G (T96.setTop (mkF m 99 #[.val (.int p0), .val (.int p1), .val (.int p2), .val (.int p3), .val (.int p4), .val (.int t0_11), .val (.int t0_24), .val (.int t0_37), .val (.ref b41), .val (.ref b47), .val (.ref b52), .val (.int (own_pr (0 : Int32) t0_11 t0_24 t0_86)), .unset, .unset, .unset, .unset, .unset, .unset, .unset] [(.ref b41)]))
          refine own_to (fun _ kz => XS.aload X96.here hx rfl (hb hby at_99) rfl (rfl)  kz) ?_
          show own_Fin p e below G (T96.setTop (mkF m 101 #[.val (.int p0), .val (.int p1), .val (.int p2), .val (.int p3), .val (.int p4), .val (.int t0_11), .val (.int t0_24), .val (.int t0_37), .val (.ref b41), .val (.ref b47), .val (.ref b52), .val (.int (own_pr (0 : Int32) t0_11 t0_24 t0_86)), .unset, .unset, .unset, .unset, .unset, .unset, .unset] [(.ref b47), (.ref b41)]))
          refine own_to (fun _ kz => XS.iload X96.here hx rfl (hb hby at_101) rfl  kz) ?_
          show own_Fin p e below G (T96.setTop (mkF m 103 #[.val (.int p0), .val (.int p1), .val (.int p2), .val (.int p3), .val (.int p4), .val (.int t0_11), .val (.int t0_24), .val (.int t0_37), .val (.ref b41), .val (.ref b47), .val (.ref b52), .val (.int (own_pr (0 : Int32) t0_11 t0_24 t0_86)), .unset, .unset, .unset, .unset, .unset, .unset, .unset] [(.int (own_pr (0 : Int32) t0_11 t0_24 t0_86)), (.ref b47), (.ref b41)]))
          refine own_to (fun _ kz => XS.iload X96.here hx rfl (hb hby at_103) rfl  kz) ?_
          show own_Fin p e below G (T96.setTop (mkF m 105 #[.val (.int p0), .val (.int p1), .val (.int p2), .val (.int p3), .val (.int p4), .val (.int t0_11), .val (.int t0_24), .val (.int t0_37), .val (.ref b41), .val (.ref b47), .val (.ref b52), .val (.int (own_pr (0 : Int32) t0_11 t0_24 t0_86)), .unset, .unset, .unset, .unset, .unset, .unset, .unset] [(.int t0_11), (.int (own_pr (0 : Int32) t0_11 t0_24 t0_86)), (.ref b47), (.ref b41)]))
          refine own_to (fun _ kz => XS.iconst X96.here hx rfl (hb hby at_105) kz) ?_
          show own_Fin p e below G (T96.setTop (mkF m 106 #[.val (.int p0), .val (.int p1), .val (.int p2), .val (.int p3), .val (.int p4), .val (.int t0_11), .val (.int t0_24), .val (.int t0_37), .val (.ref b41), .val (.ref b47), .val (.ref b52), .val (.int (own_pr (0 : Int32) t0_11 t0_24 t0_86)), .unset, .unset, .unset, .unset, .unset, .unset, .unset] [(.int (0 : Int32)), (.int t0_11), (.int (own_pr (0 : Int32) t0_11 t0_24 t0_86)), (.ref b47), (.ref b41)]))
          refine own_to (fun _ kz => XS.iloadN X96.here hx rfl (hb hby at_106) rfl  kz) ?_
          show own_Fin p e below G (T96.setTop (mkF m 107 #[.val (.int p0), .val (.int p1), .val (.int p2), .val (.int p3), .val (.int p4), .val (.int t0_11), .val (.int t0_24), .val (.int t0_37), .val (.ref b41), .val (.ref b47), .val (.ref b52), .val (.int (own_pr (0 : Int32) t0_11 t0_24 t0_86)), .unset, .unset, .unset, .unset, .unset, .unset, .unset] [(.int p0), (.int (0 : Int32)), (.int t0_11), (.int (own_pr (0 : Int32) t0_11 t0_24 t0_86)), (.ref b47), (.ref b41)]))
          refine own_to (fun _ kz => XS.iload X96.here hx rfl (hb hby at_107) rfl  kz) ?_
          show own_Fin p e below G (T96.setTop (mkF m 109 #[.val (.int p0), .val (.int p1), .val (.int p2), .val (.int p3), .val (.int p4), .val (.int t0_11), .val (.int t0_24), .val (.int t0_37), .val (.ref b41), .val (.ref b47), .val (.ref b52), .val (.int (own_pr (0 : Int32) t0_11 t0_24 t0_86)), .unset, .unset, .unset, .unset, .unset, .unset, .unset] [(.int t0_37), (.int p0), (.int (0 : Int32)), (.int t0_11), (.int (own_pr (0 : Int32) t0_11 t0_24 t0_86)), (.ref b47), (.ref b41)]))
          refine own_to (fun _ kz => XS.iconst X96.here hx rfl (hb hby at_109) kz) ?_
          show own_Fin p e below G (T96.setTop (mkF m 110 #[.val (.int p0), .val (.int p1), .val (.int p2), .val (.int p3), .val (.int p4), .val (.int t0_11), .val (.int t0_24), .val (.int t0_37), .val (.ref b41), .val (.ref b47), .val (.ref b52), .val (.int (own_pr (0 : Int32) t0_11 t0_24 t0_86)), .unset, .unset, .unset, .unset, .unset, .unset, .unset] [(.int (2 : Int32)), (.int t0_37), (.int p0), (.int (0 : Int32)), (.int t0_11), (.int (own_pr (0 : Int32) t0_11 t0_24 t0_86)), (.ref b47), (.ref b41)]))
          refine own_to (fun _ kz => XS.iloadN X96.here hx rfl (hb hby at_110) rfl  kz) ?_
          show own_Fin p e below G (T96.setTop (mkF m 111 #[.val (.int p0), .val (.int p1), .val (.int p2), .val (.int p3), .val (.int p4), .val (.int t0_11), .val (.int t0_24), .val (.int t0_37), .val (.ref b41), .val (.ref b47), .val (.ref b52), .val (.int (own_pr (0 : Int32) t0_11 t0_24 t0_86)), .unset, .unset, .unset, .unset, .unset, .unset, .unset] [(.int p2), (.int (2 : Int32)), (.int t0_37), (.int p0), (.int (0 : Int32)), (.int t0_11), (.int (own_pr (0 : Int32) t0_11 t0_24 t0_86)), (.ref b47), (.ref b41)]))
          refine own_to (fun _ kz => XS.iloadN X96.here hx rfl (hb hby at_111) rfl  kz) ?_
          show own_Fin p e below G (T96.setTop (mkF m 112 #[.val (.int p0), .val (.int p1), .val (.int p2), .val (.int p3), .val (.int p4), .val (.int t0_11), .val (.int t0_24), .val (.int t0_37), .val (.ref b41), .val (.ref b47), .val (.ref b52), .val (.int (own_pr (0 : Int32) t0_11 t0_24 t0_86)), .unset, .unset, .unset, .unset, .unset, .unset, .unset] [(.int p3), (.int p2), (.int (2 : Int32)), (.int t0_37), (.int p0), (.int (0 : Int32)), (.int t0_11), (.int (own_pr (0 : Int32) t0_11 t0_24 t0_86)), (.ref b47), (.ref b41)]))
          refine own_to (fun _ kz => XS.bipush X96.here hx rfl (hb hby at_112) kz) ?_
          show own_Fin p e below G (T96.setTop (mkF m 114 #[.val (.int p0), .val (.int p1), .val (.int p2), .val (.int p3), .val (.int p4), .val (.int t0_11), .val (.int t0_24), .val (.int t0_37), .val (.ref b41), .val (.ref b47), .val (.ref b52), .val (.int (own_pr (0 : Int32) t0_11 t0_24 t0_86)), .unset, .unset, .unset, .unset, .unset, .unset, .unset] [(.int (16 : Int32)), (.int p3), (.int p2), (.int (2 : Int32)), (.int t0_37), (.int p0), (.int (0 : Int32)), (.int t0_11), (.int (own_pr (0 : Int32) t0_11 t0_24 t0_86)), (.ref b47), (.ref b41)]))
          refine own_to (fun _ kz => XS.iand X96.here hx rfl (hb hby at_114) rfl kz) ?_
          show own_Fin p e below G (T96.setTop (mkF m 115 #[.val (.int p0), .val (.int p1), .val (.int p2), .val (.int p3), .val (.int p4), .val (.int t0_11), .val (.int t0_24), .val (.int t0_37), .val (.ref b41), .val (.ref b47), .val (.ref b52), .val (.int (own_pr (0 : Int32) t0_11 t0_24 t0_86)), .unset, .unset, .unset, .unset, .unset, .unset, .unset] [(.int (p3 &&& (16 : Int32))), (.int p2), (.int (2 : Int32)), (.int t0_37), (.int p0), (.int (0 : Int32)), (.int t0_11), (.int (own_pr (0 : Int32) t0_11 t0_24 t0_86)), (.ref b47), (.ref b41)]))
          have K123 : ∀ (t0_123 : Int32) (q_j123 : (f0 p0 p1 p2 p3 p4) = (f0_123 p0 p1 p2 p3 p4 t0_11 t0_24 t0_37 t0_86 t0_123)), own_Fin p e below G (T96.setTop (mkF m 123 #[.val (.int p0), .val (.int p1), .val (.int p2), .val (.int p3), .val (.int p4), .val (.int t0_11), .val (.int t0_24), .val (.int t0_37), .val (.ref b41), .val (.ref b47), .val (.ref b52), .val (.int (own_pr (0 : Int32) t0_11 t0_24 t0_86)), .unset, .unset, .unset, .unset, .unset, .unset, .unset] [(.int t0_123), (.int p2), (.int (2 : Int32)), (.int t0_37), (.int p0), (.int (0 : Int32)), (.int t0_11), (.int (own_pr (0 : Int32) t0_11 t0_24 t0_86)), (.ref b47), (.ref b41)])) := by
            intro t0_123 q_j123
            have P86_0_at_123 : own_AV Value.int Z h96 b41 .int 6 (own_put (fun _ => (0 : Int32)) (0 : Int32) t0_11 (1 : Int32) t0_24 (2 : Int32) t0_86) := (P86_0.other W96 ne_b41_b52)
            have P86_1_at_123 : own_AV Value.int Z h96 b47 .int 6 (own_put (fun _ => (0 : Int32)) (0 : Int32) t0_11 p0 t0_24 p1 t0_86) := (P86_1.other W96 ne_b47_b52)
            have Zz_123_Kp86 := Nat.le_trans Z_86 Kp86.1
            have Zz_123_W96 := Nat.le_trans Zz_123_Kp86 (Nat.le_of_eq (Wr.size W96).symm)
            have Z_123 : n0 ≤ h96.size := Zz_123_W96
            obtain ⟨_, _, ⟨T123, L123, k123, n123⟩, -, X123, ⟨Lc123, hQ123, l123, y123, z123⟩, st123⟩ := Jvm.LawKit.callS X96 hx (y := (⟨"com/example/lanterns/lanterns/solvers/GraphEdgeBetweenPinLaw", "put", "([I[IIZIIZIIZ)I"⟩ : MethodName)) hown (mvT hZ (hw _ (List.mem_of_getElem? (i := 1) rfl))) (mvT hZ (hw _ (List.mem_of_getElem? (i := 2) rfl))) (mvT hZ (hw _ (List.mem_of_getElem? (i := 3) rfl))) (mvT hZ (hw _ (List.mem_of_getElem? (i := 4) rfl))) (by decide) (backOf (W := 0) (rm1 l Z a0 hw [] b41 b47 (own_pr (0 : Int32) t0_11 t0_24 t0_86) t0_11 (0 : Int32) p0 t0_37 (2 : Int32) p2 t0_123 (own_put (fun _ => (0 : Int32)) (0 : Int32) t0_11 (1 : Int32) t0_24 (2 : Int32) t0_86) (own_put (fun _ => (0 : Int32)) (0 : Int32) t0_11 p0 t0_24 p1 t0_86) h96 n0 Z_123 P86_0_at_123 P86_1_at_123 g_b41 g_b47 ne_b41_b47 (own_p1 _ _ _)) hZ (hw _ (List.mem_of_getElem? (i := 4) rfl)) (hw _ (List.mem_of_getElem? (i := 3) rfl)) (by decide) (by decide)) (g := (mkF m 123 #[.val (.int p0), .val (.int p1), .val (.int p2), .val (.int p3), .val (.int p4), .val (.int t0_11), .val (.int t0_24), .val (.int t0_37), .val (.ref b41), .val (.ref b47), .val (.ref b52), .val (.int (own_pr (0 : Int32) t0_11 t0_24 t0_86)), .unset, .unset, .unset, .unset, .unset, .unset, .unset] [(.int t0_123), (.int p2), (.int (2 : Int32)), (.int t0_37), (.int p0), (.int (0 : Int32)), (.int t0_11), (.int (own_pr (0 : Int32) t0_11 t0_24 t0_86)), (.ref b47), (.ref b41)])) rfl (by rw [hml]; rfl) (argsL := [(.ref b41), (.ref b47), (.int (own_pr (0 : Int32) t0_11 t0_24 t0_86)), (.int t0_11), (.int (0 : Int32)), (.int p0), (.int t0_37), (.int (2 : Int32)), (.int p2), (.int t0_123)]) (rest := []) (lenOf own_pd1 rfl) rfl (by show 2 * 0 + _ ≤ _; exact Nat.le_of_eq rfl) (hb hby at_123) (fun _ _ => ⟨rfl, e96, (by decide : 3 + 0 ≤ _), (by decide : 16 + 0 ≤ _)⟩)
            dsimp only [Pt.U, Pt.locs, Pt.cells, Pt.slots] at X123 l123 y123 z123 st123 hQ123
            subst l123 y123 z123
            obtain ⟨rfl, N123q, Kp123, P123_0, P123_1⟩ := hQ123
            obtain ⟨lo123, X123, N123⟩ : ∃ lo, Stand p l e _ s m _ below meth c T123 lo _ _ ∧ Fr n0 lo := ⟨_, X123, Fr.app N96 N123q⟩
            refine own_to st123 ?_
            show own_Fin p e below G (T123.setTop (mkF m 126 #[.val (.int p0), .val (.int p1), .val (.int p2), .val (.int p3), .val (.int p4), .val (.int t0_11), .val (.int t0_24), .val (.int t0_37), .val (.ref b41), .val (.ref b47), .val (.ref b52), .val (.int (own_pr (0 : Int32) t0_11 t0_24 t0_86)), .unset, .unset, .unset, .unset, .unset, .unset, .unset] [(.int (own_pr (own_pr (0 : Int32) t0_11 t0_24 t0_86) t0_11 t0_37 t0_123))]))
            refine own_to (fun _ kz => XS.istore X123.here hx rfl (hb hby at_126) rfl (l' := #[.val (.int p0), .val (.int p1), .val (.int p2), .val (.int p3), .val (.int p4), .val (.int t0_11), .val (.int t0_24), .val (.int t0_37), .val (.ref b41), .val (.ref b47), .val (.ref b52), .val (.int (own_pr (own_pr (0 : Int32) t0_11 t0_24 t0_86) t0_11 t0_37 t0_123)), .unset, .unset, .unset, .unset, .unset, .unset, .unset]) rfl kz) ?_
            show own_Fin p e below G (T123.setTop (mkF m 128 #[.val (.int p0), .val (.int p1), .val (.int p2), .val (.int p3), .val (.int p4), .val (.int t0_11), .val (.int t0_24), .val (.int t0_37), .val (.ref b41), .val (.ref b47), .val (.ref b52), .val (.int (own_pr (own_pr (0 : Int32) t0_11 t0_24 t0_86) t0_11 t0_37 t0_123)), .unset, .unset, .unset, .unset, .unset, .unset, .unset] []))
            refine own_to (fun _ kz => XS.aload X123.here hx rfl (hb hby at_128) rfl (rfl)  kz) ?_
            show own_Fin p e below G (T123.setTop (mkF m 130 #[.val (.int p0), .val (.int p1), .val (.int p2), .val (.int p3), .val (.int p4), .val (.int t0_11), .val (.int t0_24), .val (.int t0_37), .val (.ref b41), .val (.ref b47), .val (.ref b52), .val (.int (own_pr (own_pr (0 : Int32) t0_11 t0_24 t0_86) t0_11 t0_37 t0_123)), .unset, .unset, .unset, .unset, .unset, .unset, .unset] [(.ref b52)]))
            refine own_to (fun _ kz => XS.iconst X123.here hx rfl (hb hby at_130) kz) ?_
            show own_Fin p e below G (T123.setTop (mkF m 131 #[.val (.int p0), .val (.int p1), .val (.int p2), .val (.int p3), .val (.int p4), .val (.int t0_11), .val (.int t0_24), .val (.int t0_37), .val (.ref b41), .val (.ref b47), .val (.ref b52), .val (.int (own_pr (own_pr (0 : Int32) t0_11 t0_24 t0_86) t0_11 t0_37 t0_123)), .unset, .unset, .unset, .unset, .unset, .unset, .unset] [(.int (2 : Int32)), (.ref b52)]))
            refine own_to (fun _ kz => XS.iload X123.here hx rfl (hb hby at_131) rfl  kz) ?_
            show own_Fin p e below G (T123.setTop (mkF m 133 #[.val (.int p0), .val (.int p1), .val (.int p2), .val (.int p3), .val (.int p4), .val (.int t0_11), .val (.int t0_24), .val (.int t0_37), .val (.ref b41), .val (.ref b47), .val (.ref b52), .val (.int (own_pr (own_pr (0 : Int32) t0_11 t0_24 t0_86) t0_11 t0_37 t0_123)), .unset, .unset, .unset, .unset, .unset, .unset, .unset] [(.int (own_pr (own_pr (0 : Int32) t0_11 t0_24 t0_86) t0_11 t0_37 t0_123)), (.int (2 : Int32)), (.ref b52)]))
            have V96_at_133 : own_AV Value.int Z T123.heap b52 .int 4 (own_upd (own_upd (fun _ => (0 : Int32)) 0 (0 : Int32)) 1 (own_pr (0 : Int32) t0_11 t0_24 t0_86)) := (V96.keep Kp123 (ninS (Ne.symm ne_b41_b52) (ninS (Ne.symm ne_b47_b52) nin0)))
            obtain ⟨nn133, cl133, Ar133, Sz133, Hs133⟩ := V96_at_133
            obtain ⟨T133, h133, X133, e133, W133, st133⟩ := stI X123 hx hZ rfl Ar133 (j := (2 : Int32)) (own_in Sz133 (by decide) rfl (by decide)) (g := (mkF m 133 #[.val (.int p0), .val (.int p1), .val (.int p2), .val (.int p3), .val (.int p4), .val (.int t0_11), .val (.int t0_24), .val (.int t0_37), .val (.ref b41), .val (.ref b47), .val (.ref b52), .val (.int (own_pr (own_pr (0 : Int32) t0_11 t0_24 t0_86) t0_11 t0_37 t0_123)), .unset, .unset, .unset, .unset, .unset, .unset, .unset] [(.int (own_pr (own_pr (0 : Int32) t0_11 t0_24 t0_86) t0_11 t0_37 t0_123)), (.int (2 : Int32)), (.ref b52)])) rfl rfl (hb hby at_133)
            refine own_to st133 ?_
            have V133 : own_AV Value.int Z h133 b52 .int 4 (own_upd (own_upd (own_upd (fun _ => (0 : Int32)) 0 (0 : Int32)) 1 (own_pr (0 : Int32) t0_11 t0_24 t0_86)) 2 (own_pr (own_pr (0 : Int32) t0_11 t0_24 t0_86) t0_11 t0_37 t0_123)) := own_AV.set nn133 Ar133 Sz133 Hs133 W133 rfl
            obtain ⟨lo133, X133, N133⟩ : ∃ lo, Stand p l e _ s m _ below meth c T133 lo _ _ ∧ Fr n0 lo := ⟨_, X133, Fr.snoc X133 N123 g_b52⟩
            show own_Fin p e below G (T133.setTop (mkF m 134 #[.val (.int p0), .val (.int p1), .val (.int p2), .val (.int p3), .val (.int p4), .val (.int t0_11), .val (.int t0_24), .val (.int t0_37), .val (.ref b41), .val (.ref b47), .val (.ref b52), .val (.int (own_pr (own_pr (0 : Int32) t0_11 t0_24 t0_86) t0_11 t0_37 t0_123)), .unset, .unset, .unset, .unset, .unset, .unset, .unset] []))
            refine own_to (fun _ kz => XS.aload X133.here hx rfl (hb hby at_134) rfl (rfl)  kz) ?_
            show own_Fin p e below G (T133.setTop (mkF m 136 #[.val (.int p0), .val (.int p1), .val (.int p2), .val (.int p3), .val (.int p4), .val (.int t0_11), .val (.int t0_24), .val (.int t0_37), .val (.ref b41), .val (.ref b47), .val (.ref b52), .val (.int (own_pr (own_pr (0 : Int32) t0_11 t0_24 t0_86) t0_11 t0_37 t0_123)), .unset, .unset, .unset, .unset, .unset, .unset, .unset] [(.ref b41)]))
            refine own_to (fun _ kz => XS.aload X133.here hx rfl (hb hby at_136) rfl (rfl)  kz) ?_
            show own_Fin p e below G (T133.setTop (mkF m 138 #[.val (.int p0), .val (.int p1), .val (.int p2), .val (.int p3), .val (.int p4), .val (.int t0_11), .val (.int t0_24), .val (.int t0_37), .val (.ref b41), .val (.ref b47), .val (.ref b52), .val (.int (own_pr (own_pr (0 : Int32) t0_11 t0_24 t0_86) t0_11 t0_37 t0_123)), .unset, .unset, .unset, .unset, .unset, .unset, .unset] [(.ref b47), (.ref b41)]))
            refine own_to (fun _ kz => XS.iload X133.here hx rfl (hb hby at_138) rfl  kz) ?_
            show own_Fin p e below G (T133.setTop (mkF m 140 #[.val (.int p0), .val (.int p1), .val (.int p2), .val (.int p3), .val (.int p4), .val (.int t0_11), .val (.int t0_24), .val (.int t0_37), .val (.ref b41), .val (.ref b47), .val (.ref b52), .val (.int (own_pr (own_pr (0 : Int32) t0_11 t0_24 t0_86) t0_11 t0_37 t0_123)), .unset, .unset, .unset, .unset, .unset, .unset, .unset] [(.int (own_pr (own_pr (0 : Int32) t0_11 t0_24 t0_86) t0_11 t0_37 t0_123)), (.ref b47), (.ref b41)]))
            refine own_to (fun _ kz => XS.iload X133.here hx rfl (hb hby at_140) rfl  kz) ?_
            show own_Fin p e below G (T133.setTop (mkF m 142 #[.val (.int p0), .val (.int p1), .val (.int p2), .val (.int p3), .val (.int p4), .val (.int t0_11), .val (.int t0_24), .val (.int t0_37), .val (.ref b41), .val (.ref b47), .val (.ref b52), .val (.int (own_pr (own_pr (0 : Int32) t0_11 t0_24 t0_86) t0_11 t0_37 t0_123)), .unset, .unset, .unset, .unset, .unset, .unset, .unset] [(.int t0_24), (.int (own_pr (own_pr (0 : Int32) t0_11 t0_24 t0_86) t0_11 t0_37 t0_123)), (.ref b47), (.ref b41)]))
            refine own_to (fun _ kz => XS.iconst X133.here hx rfl (hb hby at_142) kz) ?_
            show own_Fin p e below G (T133.setTop (mkF m 143 #[.val (.int p0), .val (.int p1), .val (.int p2), .val (.int p3), .val (.int p4), .val (.int t0_11), .val (.int t0_24), .val (.int t0_37), .val (.ref b41), .val (.ref b47), .val (.ref b52), .val (.int (own_pr (own_pr (0 : Int32) t0_11 t0_24 t0_86) t0_11 t0_37 t0_123)), .unset, .unset, .unset, .unset, .unset, .unset, .unset] [(.int (0 : Int32)), (.int t0_24), (.int (own_pr (own_pr (0 : Int32) t0_11 t0_24 t0_86) t0_11 t0_37 t0_123)), (.ref b47), (.ref b41)]))
            refine own_to (fun _ kz => XS.iloadN X133.here hx rfl (hb hby at_143) rfl  kz) ?_
            show own_Fin p e below G (T133.setTop (mkF m 144 #[.val (.int p0), .val (.int p1), .val (.int p2), .val (.int p3), .val (.int p4), .val (.int t0_11), .val (.int t0_24), .val (.int t0_37), .val (.ref b41), .val (.ref b47), .val (.ref b52), .val (.int (own_pr (own_pr (0 : Int32) t0_11 t0_24 t0_86) t0_11 t0_37 t0_123)), .unset, .unset, .unset, .unset, .unset, .unset, .unset] [(.int p1), (.int (0 : Int32)), (.int t0_24), (.int (own_pr (own_pr (0 : Int32) t0_11 t0_24 t0_86) t0_11 t0_37 t0_123)), (.ref b47), (.ref b41)]))
            refine own_to (fun _ kz => XS.iload X133.here hx rfl (hb hby at_144) rfl  kz) ?_
            show own_Fin p e below G (T133.setTop (mkF m 146 #[.val (.int p0), .val (.int p1), .val (.int p2), .val (.int p3), .val (.int p4), .val (.int t0_11), .val (.int t0_24), .val (.int t0_37), .val (.ref b41), .val (.ref b47), .val (.ref b52), .val (.int (own_pr (own_pr (0 : Int32) t0_11 t0_24 t0_86) t0_11 t0_37 t0_123)), .unset, .unset, .unset, .unset, .unset, .unset, .unset] [(.int t0_37), (.int p1), (.int (0 : Int32)), (.int t0_24), (.int (own_pr (own_pr (0 : Int32) t0_11 t0_24 t0_86) t0_11 t0_37 t0_123)), (.ref b47), (.ref b41)]))
            refine own_to (fun _ kz => XS.iconst X133.here hx rfl (hb hby at_146) kz) ?_
            show own_Fin p e below G (T133.setTop (mkF m 147 #[.val (.int p0), .val (.int p1), .val (.int p2), .val (.int p3), .val (.int p4), .val (.int t0_11), .val (.int t0_24), .val (.int t0_37), .val (.ref b41), .val (.ref b47), .val (.ref b52), .val (.int (own_pr (own_pr (0 : Int32) t0_11 t0_24 t0_86) t0_11 t0_37 t0_123)), .unset, .unset, .unset, .unset, .unset, .unset, .unset] [(.int (1 : Int32)), (.int t0_37), (.int p1), (.int (0 : Int32)), (.int t0_24), (.int (own_pr (own_pr (0 : Int32) t0_11 t0_24 t0_86) t0_11 t0_37 t0_123)), (.ref b47), (.ref b41)]))
            refine own_to (fun _ kz => XS.iloadN X133.here hx rfl (hb hby at_147) rfl  kz) ?_
            show own_Fin p e below G (T133.setTop (mkF m 148 #[.val (.int p0), .val (.int p1), .val (.int p2), .val (.int p3), .val (.int p4), .val (.int t0_11), .val (.int t0_24), .val (.int t0_37), .val (.ref b41), .val (.ref b47), .val (.ref b52), .val (.int (own_pr (own_pr (0 : Int32) t0_11 t0_24 t0_86) t0_11 t0_37 t0_123)), .unset, .unset, .unset, .unset, .unset, .unset, .unset] [(.int p2), (.int (1 : Int32)), (.int t0_37), (.int p1), (.int (0 : Int32)), (.int t0_24), (.int (own_pr (own_pr (0 : Int32) t0_11 t0_24 t0_86) t0_11 t0_37 t0_123)), (.ref b47), (.ref b41)]))
            refine own_to (fun _ kz => XS.iloadN X133.here hx rfl (hb hby at_148) rfl  kz) ?_
            show own_Fin p e below G (T133.setTop (mkF m 149 #[.val (.int p0), .val (.int p1), .val (.int p2), .val (.int p3), .val (.int p4), .val (.int t0_11), .val (.int t0_24), .val (.int t0_37), .val (.ref b41), .val (.ref b47), .val (.ref b52), .val (.int (own_pr (own_pr (0 : Int32) t0_11 t0_24 t0_86) t0_11 t0_37 t0_123)), .unset, .unset, .unset, .unset, .unset, .unset, .unset] [(.int p3), (.int p2), (.int (1 : Int32)), (.int t0_37), (.int p1), (.int (0 : Int32)), (.int t0_24), (.int (own_pr (own_pr (0 : Int32) t0_11 t0_24 t0_86) t0_11 t0_37 t0_123)), (.ref b47), (.ref b41)]))
            refine own_to (fun _ kz => XS.bipush X133.here hx rfl (hb hby at_149) kz) ?_
            show own_Fin p e below G (T133.setTop (mkF m 151 #[.val (.int p0), .val (.int p1), .val (.int p2), .val (.int p3), .val (.int p4), .val (.int t0_11), .val (.int t0_24), .val (.int t0_37), .val (.ref b41), .val (.ref b47), .val (.ref b52), .val (.int (own_pr (own_pr (0 : Int32) t0_11 t0_24 t0_86) t0_11 t0_37 t0_123)), .unset, .unset, .unset, .unset, .unset, .unset, .unset] [(.int (32 : Int32)), (.int p3), (.int p2), (.int (1 : Int32)), (.int t0_37), (.int p1), (.int (0 : Int32)), (.int t0_24), (.int (own_pr (own_pr (0 : Int32) t0_11 t0_24 t0_86) t0_11 t0_37 t0_123)), (.ref b47), (.ref b41)]))
            refine own_to (fun _ kz => XS.iand X133.here hx rfl (hb hby at_151) rfl kz) ?_
            show own_Fin p e below G (T133.setTop (mkF m 152 #[.val (.int p0), .val (.int p1), .val (.int p2), .val (.int p3), .val (.int p4), .val (.int t0_11), .val (.int t0_24), .val (.int t0_37), .val (.ref b41), .val (.ref b47), .val (.ref b52), .val (.int (own_pr (own_pr (0 : Int32) t0_11 t0_24 t0_86) t0_11 t0_37 t0_123)), .unset, .unset, .unset, .unset, .unset, .unset, .unset] [(.int (p3 &&& (32 : Int32))), (.int p2), (.int (1 : Int32)), (.int t0_37), (.int p1), (.int (0 : Int32)), (.int t0_24), (.int (own_pr (own_pr (0 : Int32) t0_11 t0_24 t0_86) t0_11 t0_37 t0_123)), (.ref b47), (.ref b41)]))
            have K160 : ∀ (t0_160 : Int32) (q_j160 : (f0 p0 p1 p2 p3 p4) = (f0_160 p0 p1 p2 p3 p4 t0_11 t0_24 t0_37 t0_86 t0_123 t0_160)), own_Fin p e below G (T133.setTop (mkF m 160 #[.val (.int p0), .val (.int p1), .val (.int p2), .val (.int p3), .val (.int p4), .val (.int t0_11), .val (.int t0_24), .val (.int t0_37), .val (.ref b41), .val (.ref b47), .val (.ref b52), .val (.int (own_pr (own_pr (0 : Int32) t0_11 t0_24 t0_86) t0_11 t0_37 t0_123)), .unset, .unset, .unset, .unset, .unset, .unset, .unset] [(.int t0_160), (.int p2), (.int (1 : Int32)), (.int t0_37), (.int p1), (.int (0 : Int32)), (.int t0_24), (.int (own_pr (own_pr (0 : Int32) t0_11 t0_24 t0_86) t0_11 t0_37 t0_123)), (.ref b47), (.ref b41)])) := by
              intro t0_160 q_j160
              have P123_0_at_160 : own_AV Value.int Z h133 b41 .int 6 (own_put (own_put (fun _ => (0 : Int32)) (0 : Int32) t0_11 (1 : Int32) t0_24 (2 : Int32) t0_86) (own_pr (0 : Int32) t0_11 t0_24 t0_86) t0_11 (0 : Int32) t0_37 (2 : Int32) t0_123) := (P123_0.other W133 ne_b41_b52)
              have P123_1_at_160 : own_AV Value.int Z h133 b47 .int 6 (own_put (own_put (fun _ => (0 : Int32)) (0 : Int32) t0_11 p0 t0_24 p1 t0_86) (own_pr (0 : Int32) t0_11 t0_24 t0_86) t0_11 p0 t0_37 p2 t0_123) := (P123_1.other W133 ne_b47_b52)
              have Zz_160_Kp123 := Nat.le_trans Z_123 Kp123.1
              have Zz_160_W133 := Nat.le_trans Zz_160_Kp123 (Nat.le_of_eq (Wr.size W133).symm)
              have Z_160 : n0 ≤ h133.size := Zz_160_W133
              obtain ⟨_, _, ⟨T160, L160, k160, n160⟩, -, X160, ⟨Lc160, hQ160, l160, y160, z160⟩, st160⟩ := Jvm.LawKit.callS X133 hx (y := (⟨"com/example/lanterns/lanterns/solvers/GraphEdgeBetweenPinLaw", "put", "([I[IIZIIZIIZ)I"⟩ : MethodName)) hown (mvT hZ (hw _ (List.mem_of_getElem? (i := 1) rfl))) (mvT hZ (hw _ (List.mem_of_getElem? (i := 2) rfl))) (mvT hZ (hw _ (List.mem_of_getElem? (i := 3) rfl))) (mvT hZ (hw _ (List.mem_of_getElem? (i := 4) rfl))) (by decide) (backOf (W := 0) (rm1 l Z a0 hw [] b41 b47 (own_pr (own_pr (0 : Int32) t0_11 t0_24 t0_86) t0_11 t0_37 t0_123) t0_24 (0 : Int32) p1 t0_37 (1 : Int32) p2 t0_160 (own_put (own_put (fun _ => (0 : Int32)) (0 : Int32) t0_11 (1 : Int32) t0_24 (2 : Int32) t0_86) (own_pr (0 : Int32) t0_11 t0_24 t0_86) t0_11 (0 : Int32) t0_37 (2 : Int32) t0_123) (own_put (own_put (fun _ => (0 : Int32)) (0 : Int32) t0_11 p0 t0_24 p1 t0_86) (own_pr (0 : Int32) t0_11 t0_24 t0_86) t0_11 p0 t0_37 p2 t0_123) h133 n0 Z_160 P123_0_at_160 P123_1_at_160 g_b41 g_b47 ne_b41_b47 (own_p2 _ _ _ _ _)) hZ (hw _ (List.mem_of_getElem? (i := 4) rfl)) (hw _ (List.mem_of_getElem? (i := 3) rfl)) (by decide) (by decide)) (g := (mkF m 160 #[.val (.int p0), .val (.int p1), .val (.int p2), .val (.int p3), .val (.int p4), .val (.int t0_11), .val (.int t0_24), .val (.int t0_37), .val (.ref b41), .val (.ref b47), .val (.ref b52), .val (.int (own_pr (own_pr (0 : Int32) t0_11 t0_24 t0_86) t0_11 t0_37 t0_123)), .unset, .unset, .unset, .unset, .unset, .unset, .unset] [(.int t0_160), (.int p2), (.int (1 : Int32)), (.int t0_37), (.int p1), (.int (0 : Int32)), (.int t0_24), (.int (own_pr (own_pr (0 : Int32) t0_11 t0_24 t0_86) t0_11 t0_37 t0_123)), (.ref b47), (.ref b41)])) rfl (by rw [hml]; rfl) (argsL := [(.ref b41), (.ref b47), (.int (own_pr (own_pr (0 : Int32) t0_11 t0_24 t0_86) t0_11 t0_37 t0_123)), (.int t0_24), (.int (0 : Int32)), (.int p1), (.int t0_37), (.int (1 : Int32)), (.int p2), (.int t0_160)]) (rest := []) (lenOf own_pd1 rfl) rfl (by show 2 * 0 + _ ≤ _; exact Nat.le_of_eq rfl) (hb hby at_160) (fun _ _ => ⟨rfl, e133, (by decide : 3 + 0 ≤ _), (by decide : 16 + 0 ≤ _)⟩)
              dsimp only [Pt.U, Pt.locs, Pt.cells, Pt.slots] at X160 l160 y160 z160 st160 hQ160
              subst l160 y160 z160
              obtain ⟨rfl, N160q, Kp160, P160_0, P160_1⟩ := hQ160
              obtain ⟨lo160, X160, N160⟩ : ∃ lo, Stand p l e _ s m _ below meth c T160 lo _ _ ∧ Fr n0 lo := ⟨_, X160, Fr.app N133 N160q⟩
              refine own_to st160 ?_
              show own_Fin p e below G (T160.setTop (mkF m 163 #[.val (.int p0), .val (.int p1), .val (.int p2), .val (.int p3), .val (.int p4), .val (.int t0_11), .val (.int t0_24), .val (.int t0_37), .val (.ref b41), .val (.ref b47), .val (.ref b52), .val (.int (own_pr (own_pr (0 : Int32) t0_11 t0_24 t0_86) t0_11 t0_37 t0_123)), .unset, .unset, .unset, .unset, .unset, .unset, .unset] [(.int (own_pr (own_pr (own_pr (0 : Int32) t0_11 t0_24 t0_86) t0_11 t0_37 t0_123) t0_24 t0_37 t0_160))]))
              refine own_to (fun _ kz => XS.istore X160.here hx rfl (hb hby at_163) rfl (l' := #[.val (.int p0), .val (.int p1), .val (.int p2), .val (.int p3), .val (.int p4), .val (.int t0_11), .val (.int t0_24), .val (.int t0_37), .val (.ref b41), .val (.ref b47), .val (.ref b52), .val (.int (own_pr (own_pr (own_pr (0 : Int32) t0_11 t0_24 t0_86) t0_11 t0_37 t0_123) t0_24 t0_37 t0_160)), .unset, .unset, .unset, .unset, .unset, .unset, .unset]) rfl kz) ?_
              show own_Fin p e below G (T160.setTop (mkF m 165 #[.val (.int p0), .val (.int p1), .val (.int p2), .val (.int p3), .val (.int p4), .val (.int t0_11), .val (.int t0_24), .val (.int t0_37), .val (.ref b41), .val (.ref b47), .val (.ref b52), .val (.int (own_pr (own_pr (own_pr (0 : Int32) t0_11 t0_24 t0_86) t0_11 t0_37 t0_123) t0_24 t0_37 t0_160)), .unset, .unset, .unset, .unset, .unset, .unset, .unset] []))
              refine own_to (fun _ kz => XS.aload X160.here hx rfl (hb hby at_165) rfl (rfl)  kz) ?_
              show own_Fin p e below G (T160.setTop (mkF m 167 #[.val (.int p0), .val (.int p1), .val (.int p2), .val (.int p3), .val (.int p4), .val (.int t0_11), .val (.int t0_24), .val (.int t0_37), .val (.ref b41), .val (.ref b47), .val (.ref b52), .val (.int (own_pr (own_pr (own_pr (0 : Int32) t0_11 t0_24 t0_86) t0_11 t0_37 t0_123) t0_24 t0_37 t0_160)), .unset, .unset, .unset, .unset, .unset, .unset, .unset] [(.ref b52)]))
              refine own_to (fun _ kz => XS.iconst X160.here hx rfl (hb hby at_167) kz) ?_
              show own_Fin p e below G (T160.setTop (mkF m 168 #[.val (.int p0), .val (.int p1), .val (.int p2), .val (.int p3), .val (.int p4), .val (.int t0_11), .val (.int t0_24), .val (.int t0_37), .val (.ref b41), .val (.ref b47), .val (.ref b52), .val (.int (own_pr (own_pr (own_pr (0 : Int32) t0_11 t0_24 t0_86) t0_11 t0_37 t0_123) t0_24 t0_37 t0_160)), .unset, .unset, .unset, .unset, .unset, .unset, .unset] [(.int (3 : Int32)), (.ref b52)]))
              refine own_to (fun _ kz => XS.iload X160.here hx rfl (hb hby at_168) rfl  kz) ?_
              show own_Fin p e below G (T160.setTop (mkF m 170 #[.val (.int p0), .val (.int p1), .val (.int p2), .val (.int p3), .val (.int p4), .val (.int t0_11), .val (.int t0_24), .val (.int t0_37), .val (.ref b41), .val (.ref b47), .val (.ref b52), .val (.int (own_pr (own_pr (own_pr (0 : Int32) t0_11 t0_24 t0_86) t0_11 t0_37 t0_123) t0_24 t0_37 t0_160)), .unset, .unset, .unset, .unset, .unset, .unset, .unset] [(.int (own_pr (own_pr (own_pr (0 : Int32) t0_11 t0_24 t0_86) t0_11 t0_37 t0_123) t0_24 t0_37 t0_160)), (.int (3 : Int32)), (.ref b52)]))
              have V133_at_170 : own_AV Value.int Z T160.heap b52 .int 4 (own_upd (own_upd (own_upd (fun _ => (0 : Int32)) 0 (0 : Int32)) 1 (own_pr (0 : Int32) t0_11 t0_24 t0_86)) 2 (own_pr (own_pr (0 : Int32) t0_11 t0_24 t0_86) t0_11 t0_37 t0_123)) := (V133.keep Kp160 (ninS (Ne.symm ne_b41_b52) (ninS (Ne.symm ne_b47_b52) nin0)))
              obtain ⟨nn170, cl170, Ar170, Sz170, Hs170⟩ := V133_at_170
              obtain ⟨T170, h170, X170, e170, W170, st170⟩ := stI X160 hx hZ rfl Ar170 (j := (3 : Int32)) (own_in Sz170 (by decide) rfl (by decide)) (g := (mkF m 170 #[.val (.int p0), .val (.int p1), .val (.int p2), .val (.int p3), .val (.int p4), .val (.int t0_11), .val (.int t0_24), .val (.int t0_37), .val (.ref b41), .val (.ref b47), .val (.ref b52), .val (.int (own_pr (own_pr (own_pr (0 : Int32) t0_11 t0_24 t0_86) t0_11 t0_37 t0_123) t0_24 t0_37 t0_160)), .unset, .unset, .unset, .unset, .unset, .unset, .unset] [(.int (own_pr (own_pr (own_pr (0 : Int32) t0_11 t0_24 t0_86) t0_11 t0_37 t0_123) t0_24 t0_37 t0_160)), (.int (3 : Int32)), (.ref b52)])) rfl rfl (hb hby at_170)
              refine own_to st170 ?_
              have V170 : own_AV Value.int Z h170 b52 .int 4 (own_upd (own_upd (own_upd (own_upd (fun _ => (0 : Int32)) 0 (0 : Int32)) 1 (own_pr (0 : Int32) t0_11 t0_24 t0_86)) 2 (own_pr (own_pr (0 : Int32) t0_11 t0_24 t0_86) t0_11 t0_37 t0_123)) 3 (own_pr (own_pr (own_pr (0 : Int32) t0_11 t0_24 t0_86) t0_11 t0_37 t0_123) t0_24 t0_37 t0_160)) := own_AV.set nn170 Ar170 Sz170 Hs170 W170 rfl
              obtain ⟨lo170, X170, N170⟩ : ∃ lo, Stand p l e _ s m _ below meth c T170 lo _ _ ∧ Fr n0 lo := ⟨_, X170, Fr.snoc X170 N160 g_b52⟩
              have Vs170 : own_AV Value.int Z h170 b52 .int 4 (own_ss (own_pr (0 : Int32) t0_11 t0_24 t0_86) (own_pr (own_pr (0 : Int32) t0_11 t0_24 t0_86) t0_11 t0_37 t0_123) (own_pr (own_pr (own_pr (0 : Int32) t0_11 t0_24 t0_86) t0_11 t0_37 t0_123) t0_24 t0_37 t0_160)) := V170
              show own_Fin p e below G (T170.setTop (mkF m 171 #[.val (.int p0), .val (.int p1), .val (.int p2), .val (.int p3), .val (.int p4), .val (.int t0_11), .val (.int t0_24), .val (.int t0_37), .val (.ref b41), .val (.ref b47), .val (.ref b52), .val (.int (own_pr (own_pr (own_pr (0 : Int32) t0_11 t0_24 t0_86) t0_11 t0_37 t0_123) t0_24 t0_37 t0_160)), .unset, .unset, .unset, .unset, .unset, .unset, .unset] []))
              have Zz_171_Kp160 := Nat.le_trans Z_160 Kp160.1
              have Zz_171_W170 := Nat.le_trans Zz_171_Kp160 (Nat.le_of_eq (Wr.size W170).symm)
              have Z_171 : n0 ≤ h170.size := Zz_171_W170
              obtain ⟨T171, h171, X171, e171, E171, A171, D171, -, st171⟩ := newO X170 hx hZ hown (hw _ (List.mem_of_getElem? (i := 8) rfl)) (hw _ (List.mem_of_getElem? (i := 9) rfl)) (hw _ (List.mem_of_getElem? (i := 10) rfl)) e170 (g := (mkF m 171 #[.val (.int p0), .val (.int p1), .val (.int p2), .val (.int p3), .val (.int p4), .val (.int t0_11), .val (.int t0_24), .val (.int t0_37), .val (.ref b41), .val (.ref b47), .val (.ref b52), .val (.int (own_pr (own_pr (own_pr (0 : Int32) t0_11 t0_24 t0_86) t0_11 t0_37 t0_123) t0_24 t0_37 t0_160)), .unset, .unset, .unset, .unset, .unset, .unset, .unset] [])) rfl (hb hby at_171) (by decide) (by decide)
              obtain ⟨b171, g171⟩ : ∃ z, z = h170.size := ⟨_, rfl⟩
              rw [← g171] at A171 D171 st171
              refine own_to st171 ?_
              have ne_b41_b171 : b41 ≠ b171 := Nat.ne_of_lt (Nat.lt_of_lt_of_le (P160_0.other W170 ne_b41_b52).lt (Nat.le_of_eq g171.symm))
              have ne_b47_b171 : b47 ≠ b171 := Nat.ne_of_lt (Nat.lt_of_lt_of_le (P160_1.other W170 ne_b47_b52).lt (Nat.le_of_eq g171.symm))
              have ne_b52_b171 : b52 ≠ b171 := Nat.ne_of_lt (Nat.lt_of_lt_of_le Vs170.lt (Nat.le_of_eq g171.symm))
              have g_b171 : n0 ≤ b171 := Nat.le_trans Z_171 (Nat.le_of_eq g171.symm)
              have F_start_b171 : Fld Z h171 b171 "com/example/lanterns/lanterns/solvers/Graph" "start" "[I" .null := D171 (Or.inr (hw _ (List.mem_of_getElem? (i := 18) rfl))) (ty := (.array .int)) (by decide)
              have F_neighbours_b171 : Fld Z h171 b171 "com/example/lanterns/lanterns/solvers/Graph" "neighbours" "[I" .null := D171 (Or.inr (hw _ (List.mem_of_getElem? (i := 20) rfl))) (ty := (.array .int)) (by decide)
              have F_edges_b171 : Fld Z h171 b171 "com/example/lanterns/lanterns/solvers/Graph" "edges" "[I" .null := D171 (Or.inr (hw _ (List.mem_of_getElem? (i := 22) rfl))) (ty := (.array .int)) (by decide)
              show own_Fin p e below G (T171.setTop (mkF m 174 #[.val (.int p0), .val (.int p1), .val (.int p2), .val (.int p3), .val (.int p4), .val (.int t0_11), .val (.int t0_24), .val (.int t0_37), .val (.ref b41), .val (.ref b47), .val (.ref b52), .val (.int (own_pr (own_pr (own_pr (0 : Int32) t0_11 t0_24 t0_86) t0_11 t0_37 t0_123) t0_24 t0_37 t0_160)), .unset, .unset, .unset, .unset, .unset, .unset, .unset] [(.ref b171)]))
              refine own_to (fun _ kz => XS.dup X171.here hx rfl (hb hby at_174) rfl rfl kz) ?_
              show own_Fin p e below G (T171.setTop (mkF m 175 #[.val (.int p0), .val (.int p1), .val (.int p2), .val (.int p3), .val (.int p4), .val (.int t0_11), .val (.int t0_24), .val (.int t0_37), .val (.ref b41), .val (.ref b47), .val (.ref b52), .val (.int (own_pr (own_pr (own_pr (0 : Int32) t0_11 t0_24 t0_86) t0_11 t0_37 t0_123) t0_24 t0_37 t0_160)), .unset, .unset, .unset, .unset, .unset, .unset, .unset] [(.ref b171), (.ref b171)]))
              refine own_to (fun _ kz => XS.aload X171.here hx rfl (hb hby at_175) rfl (rfl)  kz) ?_
              show own_Fin p e below G (T171.setTop (mkF m 177 #[.val (.int p0), .val (.int p1), .val (.int p2), .val (.int p3), .val (.int p4), .val (.int t0_11), .val (.int t0_24), .val (.int t0_37), .val (.ref b41), .val (.ref b47), .val (.ref b52), .val (.int (own_pr (own_pr (own_pr (0 : Int32) t0_11 t0_24 t0_86) t0_11 t0_37 t0_123) t0_24 t0_37 t0_160)), .unset, .unset, .unset, .unset, .unset, .unset, .unset] [(.ref b52), (.ref b171), (.ref b171)]))
              refine own_to (fun _ kz => XS.aload X171.here hx rfl (hb hby at_177) rfl (rfl)  kz) ?_
              show own_Fin p e below G (T171.setTop (mkF m 179 #[.val (.int p0), .val (.int p1), .val (.int p2), .val (.int p3), .val (.int p4), .val (.int t0_11), .val (.int t0_24), .val (.int t0_37), .val (.ref b41), .val (.ref b47), .val (.ref b52), .val (.int (own_pr (own_pr (own_pr (0 : Int32) t0_11 t0_24 t0_86) t0_11 t0_37 t0_123) t0_24 t0_37 t0_160)), .unset, .unset, .unset, .unset, .unset, .unset, .unset] [(.ref b41), (.ref b52), (.ref b171), (.ref b171)]))
              refine own_to (fun _ kz => XS.aload X171.here hx rfl (hb hby at_179) rfl (rfl)  kz) ?_
              show own_Fin p e below G (T171.setTop (mkF m 181 #[.val (.int p0), .val (.int p1), .val (.int p2), .val (.int p3), .val (.int p4), .val (.int t0_11), .val (.int t0_24), .val (.int t0_37), .val (.ref b41), .val (.ref b47), .val (.ref b52), .val (.int (own_pr (own_pr (own_pr (0 : Int32) t0_11 t0_24 t0_86) t0_11 t0_37 t0_123) t0_24 t0_37 t0_160)), .unset, .unset, .unset, .unset, .unset, .unset, .unset] [(.ref b47), (.ref b41), (.ref b52), (.ref b171), (.ref b171)]))
              have Zz_181_E171 := Nat.le_trans Z_171 E171.1
              have Z_181 : n0 ≤ h171.size := Zz_181_E171
              obtain ⟨_, _, ⟨T181, L181, k181, n181⟩, -, X181, ⟨Lc181, hQ181, l181, y181, z181⟩, st181⟩ := X171.specialBack hx (y := (⟨"com/example/lanterns/lanterns/solvers/Graph", "<init>", "([I[I[I)V"⟩ : MethodName)) rfl hown (mvT hZ (hw _ (List.mem_of_getElem? (i := 11) rfl))) (mvT hZ (hw _ (List.mem_of_getElem? (i := 12) rfl))) (mvT hZ (hw _ (List.mem_of_getElem? (i := 13) rfl))) (by decide) (backOf (W := 1) (rm3 l Z a0 hw [] b171 b52 b41 b47 h171 n0 Z_181 A171 F_start_b171 F_neighbours_b171 F_edges_b171 g_b171) hZ (hw _ (List.mem_of_getElem? (i := 13) rfl)) (hw _ (List.mem_of_getElem? (i := 10) rfl)) (by decide) (by decide)) (g := (mkF m 181 #[.val (.int p0), .val (.int p1), .val (.int p2), .val (.int p3), .val (.int p4), .val (.int t0_11), .val (.int t0_24), .val (.int t0_37), .val (.ref b41), .val (.ref b47), .val (.ref b52), .val (.int (own_pr (own_pr (own_pr (0 : Int32) t0_11 t0_24 t0_86) t0_11 t0_37 t0_123) t0_24 t0_37 t0_160)), .unset, .unset, .unset, .unset, .unset, .unset, .unset] [(.ref b47), (.ref b41), (.ref b52), (.ref b171), (.ref b171)])) rfl (by rw [hml]; rfl) (Steps.refl _) (a := b171) (argsL := [(.ref b52), (.ref b41), (.ref b47)]) (rest := [(.ref b171)]) (lenOf own_pd2 rfl) rfl (by show 2 * 0 + _ ≤ _; exact Nat.le_of_eq rfl) (hb hby at_181) (fun _ _ => ⟨rfl, e171, (by decide : 4 + 0 ≤ _), (by decide : 19 + 0 ≤ _)⟩)
              dsimp only [Pt.U, Pt.locs, Pt.cells, Pt.slots] at X181 l181 y181 z181 st181 hQ181
              subst l181 y181 z181
              obtain ⟨rfl, N181q, Kp181, P181_0, P181_1, P181_2, P181_3⟩ := hQ181
              obtain ⟨lo181, X181, N181⟩ : ∃ lo, Stand p l e _ s m _ below meth c T181 lo _ _ ∧ Fr n0 lo := ⟨_, X181, Fr.app N170 N181q⟩
              refine own_via st181 ?_
              show own_Fin p e below G (T181.setTop (mkF m 184 #[.val (.int p0), .val (.int p1), .val (.int p2), .val (.int p3), .val (.int p4), .val (.int t0_11), .val (.int t0_24), .val (.int t0_37), .val (.ref b41), .val (.ref b47), .val (.ref b52), .val (.int (own_pr (own_pr (own_pr (0 : Int32) t0_11 t0_24 t0_86) t0_11 t0_37 t0_123) t0_24 t0_37 t0_160)), .unset, .unset, .unset, .unset, .unset, .unset, .unset] [(.ref b171)]))
              refine own_to (fun _ kz => XS.astore X181.here hx rfl (hb hby at_184) rfl (rfl) (l' := #[.val (.int p0), .val (.int p1), .val (.int p2), .val (.int p3), .val (.int p4), .val (.int t0_11), .val (.int t0_24), .val (.int t0_37), .val (.ref b41), .val (.ref b47), .val (.ref b52), .val (.int (own_pr (own_pr (own_pr (0 : Int32) t0_11 t0_24 t0_86) t0_11 t0_37 t0_123) t0_24 t0_37 t0_160)), .val (.ref b171), .unset, .unset, .unset, .unset, .unset, .unset]) rfl kz) ?_
              show own_Fin p e below G (T181.setTop (mkF m 186 #[.val (.int p0), .val (.int p1), .val (.int p2), .val (.int p3), .val (.int p4), .val (.int t0_11), .val (.int t0_24), .val (.int t0_37), .val (.ref b41), .val (.ref b47), .val (.ref b52), .val (.int (own_pr (own_pr (own_pr (0 : Int32) t0_11 t0_24 t0_86) t0_11 t0_37 t0_123) t0_24 t0_37 t0_160)), .val (.ref b171), .unset, .unset, .unset, .unset, .unset, .unset] []))
              refine own_to (fun _ kz => XS.iload X181.here hx rfl (hb hby at_186) rfl  kz) ?_
              show own_Fin p e below G (T181.setTop (mkF m 188 #[.val (.int p0), .val (.int p1), .val (.int p2), .val (.int p3), .val (.int p4), .val (.int t0_11), .val (.int t0_24), .val (.int t0_37), .val (.ref b41), .val (.ref b47), .val (.ref b52), .val (.int (own_pr (own_pr (own_pr (0 : Int32) t0_11 t0_24 t0_86) t0_11 t0_37 t0_123) t0_24 t0_37 t0_160)), .val (.ref b171), .unset, .unset, .unset, .unset, .unset, .unset] [(.int p4)]))
              refine own_to (fun _ kz => X181.ldcInt hx hown (mvT hZ (hw _ (List.mem_of_getElem? (i := 23) rfl))) (g := (mkF m 188 #[.val (.int p0), .val (.int p1), .val (.int p2), .val (.int p3), .val (.int p4), .val (.int t0_11), .val (.int t0_24), .val (.int t0_37), .val (.ref b41), .val (.ref b47), .val (.ref b52), .val (.int (own_pr (own_pr (own_pr (0 : Int32) t0_11 t0_24 t0_86) t0_11 t0_37 t0_123) t0_24 t0_37 t0_160)), .val (.ref b171), .unset, .unset, .unset, .unset, .unset, .unset] [(.int p4)])) rfl (hb hby at_188) _ kz) ?_
              show own_Fin p e below G (T181.setTop (mkF m 190 #[.val (.int p0), .val (.int p1), .val (.int p2), .val (.int p3), .val (.int p4), .val (.int t0_11), .val (.int t0_24), .val (.int t0_37), .val (.ref b41), .val (.ref b47), .val (.ref b52), .val (.int (own_pr (own_pr (own_pr (0 : Int32) t0_11 t0_24 t0_86) t0_11 t0_37 t0_123) t0_24 t0_37 t0_160)), .val (.ref b171), .unset, .unset, .unset, .unset, .unset, .unset] [(.int (2147483647 : Int32)), (.int p4)]))
              refine own_to (fun _ kz => XS.iand X181.here hx rfl (hb hby at_190) rfl kz) ?_
              show own_Fin p e below G (T181.setTop (mkF m 191 #[.val (.int p0), .val (.int p1), .val (.int p2), .val (.int p3), .val (.int p4), .val (.int t0_11), .val (.int t0_24), .val (.int t0_37), .val (.ref b41), .val (.ref b47), .val (.ref b52), .val (.int (own_pr (own_pr (own_pr (0 : Int32) t0_11 t0_24 t0_86) t0_11 t0_37 t0_123) t0_24 t0_37 t0_160)), .val (.ref b171), .unset, .unset, .unset, .unset, .unset, .unset] [(.int (p4 &&& (2147483647 : Int32)))]))
              refine own_to (fun _ kz => XS.iconst X181.here hx rfl (hb hby at_191) kz) ?_
              show own_Fin p e below G (T181.setTop (mkF m 192 #[.val (.int p0), .val (.int p1), .val (.int p2), .val (.int p3), .val (.int p4), .val (.int t0_11), .val (.int t0_24), .val (.int t0_37), .val (.ref b41), .val (.ref b47), .val (.ref b52), .val (.int (own_pr (own_pr (own_pr (0 : Int32) t0_11 t0_24 t0_86) t0_11 t0_37 t0_123) t0_24 t0_37 t0_160)), .val (.ref b171), .unset, .unset, .unset, .unset, .unset, .unset] [(.int (3 : Int32)), (.int (p4 &&& (2147483647 : Int32)))]))
              refine own_to (fun _ kz => iremM X181 hx rfl (hb hby at_192) rfl (by decide) kz) ?_
              show own_Fin p e below G (T181.setTop (mkF m 193 #[.val (.int p0), .val (.int p1), .val (.int p2), .val (.int p3), .val (.int p4), .val (.int t0_11), .val (.int t0_24), .val (.int t0_37), .val (.ref b41), .val (.ref b47), .val (.ref b52), .val (.int (own_pr (own_pr (own_pr (0 : Int32) t0_11 t0_24 t0_86) t0_11 t0_37 t0_123) t0_24 t0_37 t0_160)), .val (.ref b171), .unset, .unset, .unset, .unset, .unset, .unset] [(.int ((p4 &&& (2147483647 : Int32)) % (3 : Int32)))]))
              refine own_to (fun _ kz => XS.istore X181.here hx rfl (hb hby at_193) rfl (l' := #[.val (.int p0), .val (.int p1), .val (.int p2), .val (.int p3), .val (.int p4), .val (.int t0_11), .val (.int t0_24), .val (.int t0_37), .val (.ref b41), .val (.ref b47), .val (.ref b52), .val (.int (own_pr (own_pr (own_pr (0 : Int32) t0_11 t0_24 t0_86) t0_11 t0_37 t0_123) t0_24 t0_37 t0_160)), .val (.ref b171), .val (.int ((p4 &&& (2147483647 : Int32)) % (3 : Int32))), .unset, .unset, .unset, .unset, .unset]) rfl kz) ?_
              show own_Fin p e below G (T181.setTop (mkF m 195 #[.val (.int p0), .val (.int p1), .val (.int p2), .val (.int p3), .val (.int p4), .val (.int t0_11), .val (.int t0_24), .val (.int t0_37), .val (.ref b41), .val (.ref b47), .val (.ref b52), .val (.int (own_pr (own_pr (own_pr (0 : Int32) t0_11 t0_24 t0_86) t0_11 t0_37 t0_123) t0_24 t0_37 t0_160)), .val (.ref b171), .val (.int ((p4 &&& (2147483647 : Int32)) % (3 : Int32))), .unset, .unset, .unset, .unset, .unset] []))
              refine own_to (fun _ kz => XS.iload X181.here hx rfl (hb hby at_195) rfl  kz) ?_
              show own_Fin p e below G (T181.setTop (mkF m 197 #[.val (.int p0), .val (.int p1), .val (.int p2), .val (.int p3), .val (.int p4), .val (.int t0_11), .val (.int t0_24), .val (.int t0_37), .val (.ref b41), .val (.ref b47), .val (.ref b52), .val (.int (own_pr (own_pr (own_pr (0 : Int32) t0_11 t0_24 t0_86) t0_11 t0_37 t0_123) t0_24 t0_37 t0_160)), .val (.ref b171), .val (.int ((p4 &&& (2147483647 : Int32)) % (3 : Int32))), .unset, .unset, .unset, .unset, .unset] [(.int p4)]))
              refine own_to (fun _ kz => XS.bipush X181.here hx rfl (hb hby at_197) kz) ?_
              show own_Fin p e below G (T181.setTop (mkF m 199 #[.val (.int p0), .val (.int p1), .val (.int p2), .val (.int p3), .val (.int p4), .val (.int t0_11), .val (.int t0_24), .val (.int t0_37), .val (.ref b41), .val (.ref b47), .val (.ref b52), .val (.int (own_pr (own_pr (own_pr (0 : Int32) t0_11 t0_24 t0_86) t0_11 t0_37 t0_123) t0_24 t0_37 t0_160)), .val (.ref b171), .val (.int ((p4 &&& (2147483647 : Int32)) % (3 : Int32))), .unset, .unset, .unset, .unset, .unset] [(.int (8 : Int32)), (.int p4)]))
              refine own_to (fun _ kz => XS.iushr X181.here hx rfl (hb hby at_199) rfl kz) ?_
              show own_Fin p e below G (T181.setTop (mkF m 200 #[.val (.int p0), .val (.int p1), .val (.int p2), .val (.int p3), .val (.int p4), .val (.int t0_11), .val (.int t0_24), .val (.int t0_37), .val (.ref b41), .val (.ref b47), .val (.ref b52), .val (.int (own_pr (own_pr (own_pr (0 : Int32) t0_11 t0_24 t0_86) t0_11 t0_37 t0_123) t0_24 t0_37 t0_160)), .val (.ref b171), .val (.int ((p4 &&& (2147483647 : Int32)) % (3 : Int32))), .unset, .unset, .unset, .unset, .unset] [(.int ((p4.toUInt32 >>> ((8 : Int32) &&& 31).toUInt32).toInt32))]))
              refine own_to (fun _ kz => X181.ldcInt hx hown (mvT hZ (hw _ (List.mem_of_getElem? (i := 23) rfl))) (g := (mkF m 200 #[.val (.int p0), .val (.int p1), .val (.int p2), .val (.int p3), .val (.int p4), .val (.int t0_11), .val (.int t0_24), .val (.int t0_37), .val (.ref b41), .val (.ref b47), .val (.ref b52), .val (.int (own_pr (own_pr (own_pr (0 : Int32) t0_11 t0_24 t0_86) t0_11 t0_37 t0_123) t0_24 t0_37 t0_160)), .val (.ref b171), .val (.int ((p4 &&& (2147483647 : Int32)) % (3 : Int32))), .unset, .unset, .unset, .unset, .unset] [(.int ((p4.toUInt32 >>> ((8 : Int32) &&& 31).toUInt32).toInt32))])) rfl (hb hby at_200) _ kz) ?_
              show own_Fin p e below G (T181.setTop (mkF m 202 #[.val (.int p0), .val (.int p1), .val (.int p2), .val (.int p3), .val (.int p4), .val (.int t0_11), .val (.int t0_24), .val (.int t0_37), .val (.ref b41), .val (.ref b47), .val (.ref b52), .val (.int (own_pr (own_pr (own_pr (0 : Int32) t0_11 t0_24 t0_86) t0_11 t0_37 t0_123) t0_24 t0_37 t0_160)), .val (.ref b171), .val (.int ((p4 &&& (2147483647 : Int32)) % (3 : Int32))), .unset, .unset, .unset, .unset, .unset] [(.int (2147483647 : Int32)), (.int ((p4.toUInt32 >>> ((8 : Int32) &&& 31).toUInt32).toInt32))]))
              refine own_to (fun _ kz => XS.iand X181.here hx rfl (hb hby at_202) rfl kz) ?_
              show own_Fin p e below G (T181.setTop (mkF m 203 #[.val (.int p0), .val (.int p1), .val (.int p2), .val (.int p3), .val (.int p4), .val (.int t0_11), .val (.int t0_24), .val (.int t0_37), .val (.ref b41), .val (.ref b47), .val (.ref b52), .val (.int (own_pr (own_pr (own_pr (0 : Int32) t0_11 t0_24 t0_86) t0_11 t0_37 t0_123) t0_24 t0_37 t0_160)), .val (.ref b171), .val (.int ((p4 &&& (2147483647 : Int32)) % (3 : Int32))), .unset, .unset, .unset, .unset, .unset] [(.int (((p4.toUInt32 >>> ((8 : Int32) &&& 31).toUInt32).toInt32) &&& (2147483647 : Int32)))]))
              refine own_to (fun _ kz => XS.iconst X181.here hx rfl (hb hby at_203) kz) ?_
              show own_Fin p e below G (T181.setTop (mkF m 204 #[.val (.int p0), .val (.int p1), .val (.int p2), .val (.int p3), .val (.int p4), .val (.int t0_11), .val (.int t0_24), .val (.int t0_37), .val (.ref b41), .val (.ref b47), .val (.ref b52), .val (.int (own_pr (own_pr (own_pr (0 : Int32) t0_11 t0_24 t0_86) t0_11 t0_37 t0_123) t0_24 t0_37 t0_160)), .val (.ref b171), .val (.int ((p4 &&& (2147483647 : Int32)) % (3 : Int32))), .unset, .unset, .unset, .unset, .unset] [(.int (3 : Int32)), (.int (((p4.toUInt32 >>> ((8 : Int32) &&& 31).toUInt32).toInt32) &&& (2147483647 : Int32)))]))
              refine own_to (fun _ kz => iremM X181 hx rfl (hb hby at_204) rfl (by decide) kz) ?_
              show own_Fin p e below G (T181.setTop (mkF m 205 #[.val (.int p0), .val (.int p1), .val (.int p2), .val (.int p3), .val (.int p4), .val (.int t0_11), .val (.int t0_24), .val (.int t0_37), .val (.ref b41), .val (.ref b47), .val (.ref b52), .val (.int (own_pr (own_pr (own_pr (0 : Int32) t0_11 t0_24 t0_86) t0_11 t0_37 t0_123) t0_24 t0_37 t0_160)), .val (.ref b171), .val (.int ((p4 &&& (2147483647 : Int32)) % (3 : Int32))), .unset, .unset, .unset, .unset, .unset] [(.int ((((p4.toUInt32 >>> ((8 : Int32) &&& 31).toUInt32).toInt32) &&& (2147483647 : Int32)) % (3 : Int32)))]))
              refine own_to (fun _ kz => XS.istore X181.here hx rfl (hb hby at_205) rfl (l' := #[.val (.int p0), .val (.int p1), .val (.int p2), .val (.int p3), .val (.int p4), .val (.int t0_11), .val (.int t0_24), .val (.int t0_37), .val (.ref b41), .val (.ref b47), .val (.ref b52), .val (.int (own_pr (own_pr (own_pr (0 : Int32) t0_11 t0_24 t0_86) t0_11 t0_37 t0_123) t0_24 t0_37 t0_160)), .val (.ref b171), .val (.int ((p4 &&& (2147483647 : Int32)) % (3 : Int32))), .val (.int ((((p4.toUInt32 >>> ((8 : Int32) &&& 31).toUInt32).toInt32) &&& (2147483647 : Int32)) % (3 : Int32))), .unset, .unset, .unset, .unset]) rfl kz) ?_
              show own_Fin p e below G (T181.setTop (mkF m 207 #[.val (.int p0), .val (.int p1), .val (.int p2), .val (.int p3), .val (.int p4), .val (.int t0_11), .val (.int t0_24), .val (.int t0_37), .val (.ref b41), .val (.ref b47), .val (.ref b52), .val (.int (own_pr (own_pr (own_pr (0 : Int32) t0_11 t0_24 t0_86) t0_11 t0_37 t0_123) t0_24 t0_37 t0_160)), .val (.ref b171), .val (.int ((p4 &&& (2147483647 : Int32)) % (3 : Int32))), .val (.int ((((p4.toUInt32 >>> ((8 : Int32) &&& 31).toUInt32).toInt32) &&& (2147483647 : Int32)) % (3 : Int32))), .unset, .unset, .unset, .unset] []))
              have K207 : ∀ (v13_207 : Int32) (v14_207 : Int32) (jh0_207 : 0 ≤ (own_pr (0 : Int32) t0_11 t0_24 t0_86).toInt ∧ (own_pr (0 : Int32) t0_11 t0_24 t0_86).toInt ≤ (own_pr (own_pr (0 : Int32) t0_11 t0_24 t0_86) t0_11 t0_37 t0_123).toInt ∧ (own_pr (own_pr (0 : Int32) t0_11 t0_24 t0_86) t0_11 t0_37 t0_123).toInt ≤ (own_pr (own_pr (own_pr (0 : Int32) t0_11 t0_24 t0_86) t0_11 t0_37 t0_123) t0_24 t0_37 t0_160).toInt ∧ (own_pr (own_pr (own_pr (0 : Int32) t0_11 t0_24 t0_86) t0_11 t0_37 t0_123) t0_24 t0_37 t0_160).toInt ≤ 6) (jh1_207 : 0 ≤ v13_207.toInt ∧ v13_207.toInt ≤ 2) (q_j207 : (f0 p0 p1 p2 p3 p4) = (f0_207 p0 p1 p2 p3 p4 t0_11 t0_24 t0_37 t0_86 t0_123 t0_160 v13_207 v14_207)), own_Fin p e below G (T181.setTop (mkF m 207 #[.val (.int p0), .val (.int p1), .val (.int p2), .val (.int p3), .val (.int p4), .val (.int t0_11), .val (.int t0_24), .val (.int t0_37), .val (.ref b41), .val (.ref b47), .val (.ref b52), .val (.int (own_pr (own_pr (own_pr (0 : Int32) t0_11 t0_24 t0_86) t0_11 t0_37 t0_123) t0_24 t0_37 t0_160)), .val (.ref b171), .val (.int v13_207), .val (.int v14_207), .unset, .unset, .unset, .unset] [])) := by
                intro v13_207 v14_207 jh0_207 jh1_207 q_j207
                refine own_to (fun _ kz => XS.aload X181.here hx rfl (hb hby at_207) rfl (rfl)  kz) ?_
                show own_Fin p e below G (T181.setTop (mkF m 209 #[.val (.int p0), .val (.int p1), .val (.int p2), .val (.int p3), .val (.int p4), .val (.int t0_11), .val (.int t0_24), .val (.int t0_37), .val (.ref b41), .val (.ref b47), .val (.ref b52), .val (.int (own_pr (own_pr (own_pr (0 : Int32) t0_11 t0_24 t0_86) t0_11 t0_37 t0_123) t0_24 t0_37 t0_160)), .val (.ref b171), .val (.int v13_207), .val (.int v14_207), .unset, .unset, .unset, .unset] [(.ref b171)]))
                refine own_to (fun _ kz => XS.iload X181.here hx rfl (hb hby at_209) rfl  kz) ?_
                show own_Fin p e below G (T181.setTop (mkF m 211 #[.val (.int p0), .val (.int p1), .val (.int p2), .val (.int p3), .val (.int p4), .val (.int t0_11), .val (.int t0_24), .val (.int t0_37), .val (.ref b41), .val (.ref b47), .val (.ref b52), .val (.int (own_pr (own_pr (own_pr (0 : Int32) t0_11 t0_24 t0_86) t0_11 t0_37 t0_123) t0_24 t0_37 t0_160)), .val (.ref b171), .val (.int v13_207), .val (.int v14_207), .unset, .unset, .unset, .unset] [(.int v13_207), (.ref b171)]))
                refine own_to (fun _ kz => XS.iload X181.here hx rfl (hb hby at_211) rfl  kz) ?_
                show own_Fin p e below G (T181.setTop (mkF m 213 #[.val (.int p0), .val (.int p1), .val (.int p2), .val (.int p3), .val (.int p4), .val (.int t0_11), .val (.int t0_24), .val (.int t0_37), .val (.ref b41), .val (.ref b47), .val (.ref b52), .val (.int (own_pr (own_pr (own_pr (0 : Int32) t0_11 t0_24 t0_86) t0_11 t0_37 t0_123) t0_24 t0_37 t0_160)), .val (.ref b171), .val (.int v13_207), .val (.int v14_207), .unset, .unset, .unset, .unset] [(.int v14_207), (.int v13_207), (.ref b171)]))
                have Vs170_at_213 : own_AV Value.int Z T181.heap b52 .int 4 (own_ss (own_pr (0 : Int32) t0_11 t0_24 t0_86) (own_pr (own_pr (0 : Int32) t0_11 t0_24 t0_86) t0_11 t0_37 t0_123) (own_pr (own_pr (own_pr (0 : Int32) t0_11 t0_24 t0_86) t0_11 t0_37 t0_123) t0_24 t0_37 t0_160)) := ((Vs170.ext E171).keep Kp181 (ninS ne_b52_b171 nin0))
                have P160_0_at_213 : own_AV Value.int Z T181.heap b41 .int 6 (own_put (own_put (own_put (fun _ => (0 : Int32)) (0 : Int32) t0_11 (1 : Int32) t0_24 (2 : Int32) t0_86) (own_pr (0 : Int32) t0_11 t0_24 t0_86) t0_11 (0 : Int32) t0_37 (2 : Int32) t0_123) (own_pr (own_pr (0 : Int32) t0_11 t0_24 t0_86) t0_11 t0_37 t0_123) t0_24 (0 : Int32) t0_37 (1 : Int32) t0_160) := (((P160_0.other W170 ne_b41_b52).ext E171).keep Kp181 (ninS ne_b41_b171 nin0))
                have P160_1_at_213 : own_AV Value.int Z T181.heap b47 .int 6 (own_put (own_put (own_put (fun _ => (0 : Int32)) (0 : Int32) t0_11 p0 t0_24 p1 t0_86) (own_pr (0 : Int32) t0_11 t0_24 t0_86) t0_11 p0 t0_37 p2 t0_123) (own_pr (own_pr (0 : Int32) t0_11 t0_24 t0_86) t0_11 t0_37 t0_123) t0_24 p1 t0_37 p2 t0_160) := (((P160_1.other W170 ne_b47_b52).ext E171).keep Kp181 (ninS ne_b47_b171 nin0))
                have Zz_213_Kp181 := Nat.le_trans Z_181 Kp181.1
                have Z_213 : n0 ≤ T181.heap.size := Zz_213_Kp181
                obtain ⟨cq213, kq213, qa213, qb213, qc213⟩ := isOf hZ rfl P181_0
                obtain ⟨_, _, ⟨T213, L213, k213, n213⟩, -, X213, ⟨Lc213, hQ213, l213, y213, z213⟩, st213⟩ := X181.virtualBack hx (y := (⟨"com/example/lanterns/lanterns/solvers/Graph", "edgeBetween", "(II)I"⟩ : MethodName)) (z := (⟨"com/example/lanterns/lanterns/solvers/Graph", "edgeBetween", "(II)I"⟩ : MethodName)) hown (mvT hZ (hw _ (List.mem_of_getElem? (i := 24) rfl))) (mvT hZ (hw _ (List.mem_of_getElem? (i := 25) rfl))) (notFace_of_selects (args := #[]) (mvT hZ (hw _ (List.mem_of_getElem? (i := 27) rfl)))) (mvT hZ (hw _ (List.mem_of_getElem? (i := 27) rfl))) (mvT hZ (hw _ (List.mem_of_getElem? (i := 26) rfl))) (by decide) (backOf (W := 0) (rm5 l Z a0 hw [] b171 v13_207 v14_207 (own_ss (own_pr (0 : Int32) t0_11 t0_24 t0_86) (own_pr (own_pr (0 : Int32) t0_11 t0_24 t0_86) t0_11 t0_37 t0_123) (own_pr (own_pr (own_pr (0 : Int32) t0_11 t0_24 t0_86) t0_11 t0_37 t0_123) t0_24 t0_37 t0_160)) (own_put (own_put (own_put (fun _ => (0 : Int32)) (0 : Int32) t0_11 (1 : Int32) t0_24 (2 : Int32) t0_86) (own_pr (0 : Int32) t0_11 t0_24 t0_86) t0_11 (0 : Int32) t0_37 (2 : Int32) t0_123) (own_pr (own_pr (0 : Int32) t0_11 t0_24 t0_86) t0_11 t0_37 t0_123) t0_24 (0 : Int32) t0_37 (1 : Int32) t0_160) (own_put (own_put (own_put (fun _ => (0 : Int32)) (0 : Int32) t0_11 p0 t0_24 p1 t0_86) (own_pr (0 : Int32) t0_11 t0_24 t0_86) t0_11 p0 t0_37 p2 t0_123) (own_pr (own_pr (0 : Int32) t0_11 t0_24 t0_86) t0_11 t0_37 t0_123) t0_24 p1 t0_37 p2 t0_160) b52 b41 b47 T181.heap n0 Z_213 P181_1 Vs170_at_213 P181_2 P160_0_at_213 P181_3 P160_1_at_213 (own_hs jh0_207 jh1_207)) hZ (hw _ (List.mem_of_getElem? (i := 28) rfl)) (hw _ (List.mem_of_getElem? (i := 10) rfl)) (by decide) (by decide)) qa213 qc213 (g := (mkF m 213 #[.val (.int p0), .val (.int p1), .val (.int p2), .val (.int p3), .val (.int p4), .val (.int t0_11), .val (.int t0_24), .val (.int t0_37), .val (.ref b41), .val (.ref b47), .val (.ref b52), .val (.int (own_pr (own_pr (own_pr (0 : Int32) t0_11 t0_24 t0_86) t0_11 t0_37 t0_123) t0_24 t0_37 t0_160)), .val (.ref b171), .val (.int v13_207), .val (.int v14_207), .unset, .unset, .unset, .unset] [(.int v14_207), (.int v13_207), (.ref b171)])) rfl (by rw [hml]; rfl) (Steps.refl _) (argsL := [(.int v13_207), (.int v14_207)]) (rest := []) (lenOf own_pd3 rfl) rfl (by show 2 * 0 + _ ≤ _; exact Nat.le_of_eq rfl) (hb hby at_213) (fun _ _ => ⟨rfl, rfl, (by decide : 4 + 0 ≤ _), (by decide : 19 + 0 ≤ _)⟩)
                dsimp only [Pt.U, Pt.locs, Pt.cells, Pt.slots] at X213 l213 y213 z213 st213 hQ213
                subst l213 y213 z213
                obtain ⟨rfl, N213q, e213⟩ := hQ213
                obtain ⟨lo213, X213, N213⟩ : ∃ lo, Stand p l e _ s m _ below meth c T213 lo _ _ ∧ Fr n0 lo := ⟨_, X213, Fr.app N181 N213q⟩
                refine own_via st213 ?_
                show own_Fin p e below G (T213.setTop (mkF m 216 #[.val (.int p0), .val (.int p1), .val (.int p2), .val (.int p3), .val (.int p4), .val (.int t0_11), .val (.int t0_24), .val (.int t0_37), .val (.ref b41), .val (.ref b47), .val (.ref b52), .val (.int (own_pr (own_pr (own_pr (0 : Int32) t0_11 t0_24 t0_86) t0_11 t0_37 t0_123) t0_24 t0_37 t0_160)), .val (.ref b171), .val (.int v13_207), .val (.int v14_207), .unset, .unset, .unset, .unset] [(.int (own_got (own_ss (own_pr (0 : Int32) t0_11 t0_24 t0_86) (own_pr (own_pr (0 : Int32) t0_11 t0_24 t0_86) t0_11 t0_37 t0_123) (own_pr (own_pr (own_pr (0 : Int32) t0_11 t0_24 t0_86) t0_11 t0_37 t0_123) t0_24 t0_37 t0_160)) (own_put (own_put (own_put (fun _ => (0 : Int32)) (0 : Int32) t0_11 (1 : Int32) t0_24 (2 : Int32) t0_86) (own_pr (0 : Int32) t0_11 t0_24 t0_86) t0_11 (0 : Int32) t0_37 (2 : Int32) t0_123) (own_pr (own_pr (0 : Int32) t0_11 t0_24 t0_86) t0_11 t0_37 t0_123) t0_24 (0 : Int32) t0_37 (1 : Int32) t0_160) (own_put (own_put (own_put (fun _ => (0 : Int32)) (0 : Int32) t0_11 p0 t0_24 p1 t0_86) (own_pr (0 : Int32) t0_11 t0_24 t0_86) t0_11 p0 t0_37 p2 t0_123) (own_pr (own_pr (0 : Int32) t0_11 t0_24 t0_86) t0_11 t0_37 t0_123) t0_24 p1 t0_37 p2 t0_160) v13_207 v14_207))]))
                refine own_to (fun _ kz => XS.istore X213.here hx rfl (hb hby at_216) rfl (l' := #[.val (.int p0), .val (.int p1), .val (.int p2), .val (.int p3), .val (.int p4), .val (.int t0_11), .val (.int t0_24), .val (.int t0_37), .val (.ref b41), .val (.ref b47), .val (.ref b52), .val (.int (own_pr (own_pr (own_pr (0 : Int32) t0_11 t0_24 t0_86) t0_11 t0_37 t0_123) t0_24 t0_37 t0_160)), .val (.ref b171), .val (.int v13_207), .val (.int v14_207), .val (.int (own_got (own_ss (own_pr (0 : Int32) t0_11 t0_24 t0_86) (own_pr (own_pr (0 : Int32) t0_11 t0_24 t0_86) t0_11 t0_37 t0_123) (own_pr (own_pr (own_pr (0 : Int32) t0_11 t0_24 t0_86) t0_11 t0_37 t0_123) t0_24 t0_37 t0_160)) (own_put (own_put (own_put (fun _ => (0 : Int32)) (0 : Int32) t0_11 (1 : Int32) t0_24 (2 : Int32) t0_86) (own_pr (0 : Int32) t0_11 t0_24 t0_86) t0_11 (0 : Int32) t0_37 (2 : Int32) t0_123) (own_pr (own_pr (0 : Int32) t0_11 t0_24 t0_86) t0_11 t0_37 t0_123) t0_24 (0 : Int32) t0_37 (1 : Int32) t0_160) (own_put (own_put (own_put (fun _ => (0 : Int32)) (0 : Int32) t0_11 p0 t0_24 p1 t0_86) (own_pr (0 : Int32) t0_11 t0_24 t0_86) t0_11 p0 t0_37 p2 t0_123) (own_pr (own_pr (0 : Int32) t0_11 t0_24 t0_86) t0_11 t0_37 t0_123) t0_24 p1 t0_37 p2 t0_160) v13_207 v14_207)), .unset, .unset, .unset]) rfl kz) ?_
                show own_Fin p e below G (T213.setTop (mkF m 218 #[.val (.int p0), .val (.int p1), .val (.int p2), .val (.int p3), .val (.int p4), .val (.int t0_11), .val (.int t0_24), .val (.int t0_37), .val (.ref b41), .val (.ref b47), .val (.ref b52), .val (.int (own_pr (own_pr (own_pr (0 : Int32) t0_11 t0_24 t0_86) t0_11 t0_37 t0_123) t0_24 t0_37 t0_160)), .val (.ref b171), .val (.int v13_207), .val (.int v14_207), .val (.int (own_got (own_ss (own_pr (0 : Int32) t0_11 t0_24 t0_86) (own_pr (own_pr (0 : Int32) t0_11 t0_24 t0_86) t0_11 t0_37 t0_123) (own_pr (own_pr (own_pr (0 : Int32) t0_11 t0_24 t0_86) t0_11 t0_37 t0_123) t0_24 t0_37 t0_160)) (own_put (own_put (own_put (fun _ => (0 : Int32)) (0 : Int32) t0_11 (1 : Int32) t0_24 (2 : Int32) t0_86) (own_pr (0 : Int32) t0_11 t0_24 t0_86) t0_11 (0 : Int32) t0_37 (2 : Int32) t0_123) (own_pr (own_pr (0 : Int32) t0_11 t0_24 t0_86) t0_11 t0_37 t0_123) t0_24 (0 : Int32) t0_37 (1 : Int32) t0_160) (own_put (own_put (own_put (fun _ => (0 : Int32)) (0 : Int32) t0_11 p0 t0_24 p1 t0_86) (own_pr (0 : Int32) t0_11 t0_24 t0_86) t0_11 p0 t0_37 p2 t0_123) (own_pr (own_pr (0 : Int32) t0_11 t0_24 t0_86) t0_11 t0_37 t0_123) t0_24 p1 t0_37 p2 t0_160) v13_207 v14_207)), .unset, .unset, .unset] []))
                have K218 : ∀ (v15_218 : Int32) (q_j218 : (f0 p0 p1 p2 p3 p4) = (f0_218 p0 p1 p2 p3 p4 t0_11 t0_24 t0_37 t0_86 t0_123 t0_160 v13_207 v14_207 v15_218)), own_Fin p e below G (T213.setTop (mkF m 218 #[.val (.int p0), .val (.int p1), .val (.int p2), .val (.int p3), .val (.int p4), .val (.int t0_11), .val (.int t0_24), .val (.int t0_37), .val (.ref b41), .val (.ref b47), .val (.ref b52), .val (.int (own_pr (own_pr (own_pr (0 : Int32) t0_11 t0_24 t0_86) t0_11 t0_37 t0_123) t0_24 t0_37 t0_160)), .val (.ref b171), .val (.int v13_207), .val (.int v14_207), .val (.int v15_218), .unset, .unset, .unset] [])) := by
                  intro v15_218 q_j218
                  refine own_to (fun _ kz => XS.iload X213.here hx rfl (hb hby at_218) rfl  kz) ?_
                  show own_Fin p e below G (T213.setTop (mkF m 220 #[.val (.int p0), .val (.int p1), .val (.int p2), .val (.int p3), .val (.int p4), .val (.int t0_11), .val (.int t0_24), .val (.int t0_37), .val (.ref b41), .val (.ref b47), .val (.ref b52), .val (.int (own_pr (own_pr (own_pr (0 : Int32) t0_11 t0_24 t0_86) t0_11 t0_37 t0_123) t0_24 t0_37 t0_160)), .val (.ref b171), .val (.int v13_207), .val (.int v14_207), .val (.int v15_218), .unset, .unset, .unset] [(.int v13_207)]))
                  refine own_to (fun _ kz => XS.iload X213.here hx rfl (hb hby at_220) rfl  kz) ?_
                  show own_Fin p e below G (T213.setTop (mkF m 222 #[.val (.int p0), .val (.int p1), .val (.int p2), .val (.int p3), .val (.int p4), .val (.int t0_11), .val (.int t0_24), .val (.int t0_37), .val (.ref b41), .val (.ref b47), .val (.ref b52), .val (.int (own_pr (own_pr (own_pr (0 : Int32) t0_11 t0_24 t0_86) t0_11 t0_37 t0_123) t0_24 t0_37 t0_160)), .val (.ref b171), .val (.int v13_207), .val (.int v14_207), .val (.int v15_218), .unset, .unset, .unset] [(.int v14_207), (.int v13_207)]))
                  have K313 : ∀ (v16_313 : Int32) (s17_313 : Slot) (s18_313 : Slot) (T_j313 : State) (locs_j313 : List Loc) (N_j313 : Fr n0 locs_j313) (X_j313 : Stand p l e room_1 s m #[(.int p0), (.int p1), (.int p2), (.int p3), (.int p4)] below meth c T_j313 locs_j313 4 19) (e_j313 : T_j313.heap = T181.heap) (hs17_313 : One s17_313) (hs18_313 : One s18_313) (q_j313 : (f0 p0 p1 p2 p3 p4) = (f0_313 p0 p1 p2 p3 p4 t0_11 t0_24 t0_37 t0_86 t0_123 t0_160 v13_207 v14_207 v15_218 v16_313)), own_Fin p e below G (T_j313.setTop (mkF m 313 #[.val (.int p0), .val (.int p1), .val (.int p2), .val (.int p3), .val (.int p4), .val (.int t0_11), .val (.int t0_24), .val (.int t0_37), .val (.ref b41), .val (.ref b47), .val (.ref b52), .val (.int (own_pr (own_pr (own_pr (0 : Int32) t0_11 t0_24 t0_86) t0_11 t0_37 t0_123) t0_24 t0_37 t0_160)), .val (.ref b171), .val (.int v13_207), .val (.int v14_207), .val (.int v15_218), .val (.int v16_313), s17_313, s18_313] [])) := by
                    intro v16_313 s17_313 s18_313 T_j313 locs_j313 N_j313 X_j313 e_j313 hs17_313 hs18_313 q_j313
                    refine own_to (fun _ kz => XS.iload X_j313.here hx rfl (hb hby at_313) rfl  kz) ?_
                    show own_Fin p e below G (T_j313.setTop (mkF m 315 #[.val (.int p0), .val (.int p1), .val (.int p2), .val (.int p3), .val (.int p4), .val (.int t0_11), .val (.int t0_24), .val (.int t0_37), .val (.ref b41), .val (.ref b47), .val (.ref b52), .val (.int (own_pr (own_pr (own_pr (0 : Int32) t0_11 t0_24 t0_86) t0_11 t0_37 t0_123) t0_24 t0_37 t0_160)), .val (.ref b171), .val (.int v13_207), .val (.int v14_207), .val (.int v15_218), .val (.int v16_313), s17_313, s18_313] [(.int v15_218)]))
                    refine own_to (fun _ kz => XS.iload X_j313.here hx rfl (hb hby at_315) rfl  kz) ?_
                    show own_Fin p e below G (T_j313.setTop (mkF m 317 #[.val (.int p0), .val (.int p1), .val (.int p2), .val (.int p3), .val (.int p4), .val (.int t0_11), .val (.int t0_24), .val (.int t0_37), .val (.ref b41), .val (.ref b47), .val (.ref b52), .val (.int (own_pr (own_pr (own_pr (0 : Int32) t0_11 t0_24 t0_86) t0_11 t0_37 t0_123) t0_24 t0_37 t0_160)), .val (.ref b171), .val (.int v13_207), .val (.int v14_207), .val (.int v15_218), .val (.int v16_313), s17_313, s18_313] [(.int v16_313), (.int v15_218)]))
                    by_cases hc317 : v15_218 = v16_313
                    · refine own_to (fun _ kz => XS.icmpNo X_j313.here hx rfl (hb hby at_317) rfl (teq hc317).2 kz) ?_
                      have q317t := q_j313.trans (if_pos hc317)
                      show own_Fin p e below G (T_j313.setTop (mkF m 320 #[.val (.int p0), .val (.int p1), .val (.int p2), .val (.int p3), .val (.int p4), .val (.int t0_11), .val (.int t0_24), .val (.int t0_37), .val (.ref b41), .val (.ref b47), .val (.ref b52), .val (.int (own_pr (own_pr (own_pr (0 : Int32) t0_11 t0_24 t0_86) t0_11 t0_37 t0_123) t0_24 t0_37 t0_160)), .val (.ref b171), .val (.int v13_207), .val (.int v14_207), .val (.int v15_218), .val (.int v16_313), s17_313, s18_313] []))
                      refine own_to (fun _ kz => XS.iconst X_j313.here hx rfl (hb hby at_320) kz) ?_
                      show own_Fin p e below G (T_j313.setTop (mkF m 321 #[.val (.int p0), .val (.int p1), .val (.int p2), .val (.int p3), .val (.int p4), .val (.int t0_11), .val (.int t0_24), .val (.int t0_37), .val (.ref b41), .val (.ref b47), .val (.ref b52), .val (.int (own_pr (own_pr (own_pr (0 : Int32) t0_11 t0_24 t0_86) t0_11 t0_37 t0_123) t0_24 t0_37 t0_160)), .val (.ref b171), .val (.int v13_207), .val (.int v14_207), .val (.int v15_218), .val (.int v16_313), s17_313, s18_313] [(.int (1 : Int32))]))
                      refine own_to (fun _ kz => XS.goto X_j313.here hx rfl (pc0 := 321) (pc' := 325) rfl (hb hby at_321) (by decide) (by decide) kz) ?_
                      show own_Fin p e below G (T_j313.setTop (mkF m 325 #[.val (.int p0), .val (.int p1), .val (.int p2), .val (.int p3), .val (.int p4), .val (.int t0_11), .val (.int t0_24), .val (.int t0_37), .val (.ref b41), .val (.ref b47), .val (.ref b52), .val (.int (own_pr (own_pr (own_pr (0 : Int32) t0_11 t0_24 t0_86) t0_11 t0_37 t0_123) t0_24 t0_37 t0_160)), .val (.ref b171), .val (.int v13_207), .val (.int v14_207), .val (.int v15_218), .val (.int v16_313), s17_313, s18_313] [(.int (1 : Int32))]))
                      exact own_retN X_j313 hx hlk hG (t := .boolean) Bd.returns (by simp) (hb hby at_325) (by decide) (by decide) (by rw [e_j313]; exact ⟨(congrArg (fun z => some (Value.int z)) q317t).symm, N_j313, trivial⟩)
                    · refine own_to (fun _ kz => XS.icmpYes X_j313.here hx rfl (pc0 := 317) (pc' := 324) rfl (hb hby at_317) rfl (feq hc317).2 (by decide) (by decide) kz) ?_
                      have q317f := q_j313.trans (if_neg hc317)
                      show own_Fin p e below G (T_j313.setTop (mkF m 324 #[.val (.int p0), .val (.int p1), .val (.int p2), .val (.int p3), .val (.int p4), .val (.int t0_11), .val (.int t0_24), .val (.int t0_37), .val (.ref b41), .val (.ref b47), .val (.ref b52), .val (.int (own_pr (own_pr (own_pr (0 : Int32) t0_11 t0_24 t0_86) t0_11 t0_37 t0_123) t0_24 t0_37 t0_160)), .val (.ref b171), .val (.int v13_207), .val (.int v14_207), .val (.int v15_218), .val (.int v16_313), s17_313, s18_313] []))
                      refine own_to (fun _ kz => XS.iconst X_j313.here hx rfl (hb hby at_324) kz) ?_
                      show own_Fin p e below G (T_j313.setTop (mkF m 325 #[.val (.int p0), .val (.int p1), .val (.int p2), .val (.int p3), .val (.int p4), .val (.int t0_11), .val (.int t0_24), .val (.int t0_37), .val (.ref b41), .val (.ref b47), .val (.ref b52), .val (.int (own_pr (own_pr (own_pr (0 : Int32) t0_11 t0_24 t0_86) t0_11 t0_37 t0_123) t0_24 t0_37 t0_160)), .val (.ref b171), .val (.int v13_207), .val (.int v14_207), .val (.int v15_218), .val (.int v16_313), s17_313, s18_313] [(.int (0 : Int32))]))
                      exact own_retN X_j313 hx hlk hG (t := .boolean) Bd.returns (by simp) (hb hby at_325) (by decide) (by decide) (by rw [e_j313]; exact ⟨(congrArg (fun z => some (Value.int z)) q317f).symm, N_j313, trivial⟩)
                  by_cases hc222 : v13_207 = v14_207
                  · refine own_to (fun _ kz => XS.icmpNo X213.here hx rfl (hb hby at_222) rfl (teq hc222).2 kz) ?_
                    have q222t := q_j218.trans (if_pos hc222)
                    show own_Fin p e below G (T213.setTop (mkF m 225 #[.val (.int p0), .val (.int p1), .val (.int p2), .val (.int p3), .val (.int p4), .val (.int t0_11), .val (.int t0_24), .val (.int t0_37), .val (.ref b41), .val (.ref b47), .val (.ref b52), .val (.int (own_pr (own_pr (own_pr (0 : Int32) t0_11 t0_24 t0_86) t0_11 t0_37 t0_123) t0_24 t0_37 t0_160)), .val (.ref b171), .val (.int v13_207), .val (.int v14_207), .val (.int v15_218), .unset, .unset, .unset] []))
                    refine own_to (fun _ kz => XS.iconst X213.here hx rfl (hb hby at_225) kz) ?_
                    show own_Fin p e below G (T213.setTop (mkF m 226 #[.val (.int p0), .val (.int p1), .val (.int p2), .val (.int p3), .val (.int p4), .val (.int t0_11), .val (.int t0_24), .val (.int t0_37), .val (.ref b41), .val (.ref b47), .val (.ref b52), .val (.int (own_pr (own_pr (own_pr (0 : Int32) t0_11 t0_24 t0_86) t0_11 t0_37 t0_123) t0_24 t0_37 t0_160)), .val (.ref b171), .val (.int v13_207), .val (.int v14_207), .val (.int v15_218), .unset, .unset, .unset] [(.int (-1 : Int32))]))
                    refine own_to (fun _ kz => XS.istore X213.here hx rfl (hb hby at_226) rfl (l' := #[.val (.int p0), .val (.int p1), .val (.int p2), .val (.int p3), .val (.int p4), .val (.int t0_11), .val (.int t0_24), .val (.int t0_37), .val (.ref b41), .val (.ref b47), .val (.ref b52), .val (.int (own_pr (own_pr (own_pr (0 : Int32) t0_11 t0_24 t0_86) t0_11 t0_37 t0_123) t0_24 t0_37 t0_160)), .val (.ref b171), .val (.int v13_207), .val (.int v14_207), .val (.int v15_218), .val (.int (-1 : Int32)), .unset, .unset]) rfl kz) ?_
                    show own_Fin p e below G (T213.setTop (mkF m 228 #[.val (.int p0), .val (.int p1), .val (.int p2), .val (.int p3), .val (.int p4), .val (.int t0_11), .val (.int t0_24), .val (.int t0_37), .val (.ref b41), .val (.ref b47), .val (.ref b52), .val (.int (own_pr (own_pr (own_pr (0 : Int32) t0_11 t0_24 t0_86) t0_11 t0_37 t0_123) t0_24 t0_37 t0_160)), .val (.ref b171), .val (.int v13_207), .val (.int v14_207), .val (.int v15_218), .val (.int (-1 : Int32)), .unset, .unset] []))
                    refine own_to (fun _ kz => XS.goto X213.here hx rfl (pc0 := 228) (pc' := 313) rfl (hb hby at_228) (by decide) (by decide) kz) ?_
                    show own_Fin p e below G (T213.setTop (mkF m 313 #[.val (.int p0), .val (.int p1), .val (.int p2), .val (.int p3), .val (.int p4), .val (.int t0_11), .val (.int t0_24), .val (.int t0_37), .val (.ref b41), .val (.ref b47), .val (.ref b52), .val (.int (own_pr (own_pr (own_pr (0 : Int32) t0_11 t0_24 t0_86) t0_11 t0_37 t0_123) t0_24 t0_37 t0_160)), .val (.ref b171), .val (.int v13_207), .val (.int v14_207), .val (.int v15_218), .val (.int (-1 : Int32)), .unset, .unset] []))
                    exact K313 (-1 : Int32) (.unset) (.unset) _ _ N213 X213 e213 One.u One.u q222t
                  · refine own_to (fun _ kz => XS.icmpYes X213.here hx rfl (pc0 := 222) (pc' := 231) rfl (hb hby at_222) rfl (feq hc222).2 (by decide) (by decide) kz) ?_
                    have q222f := q_j218.trans (if_neg hc222)
                    show own_Fin p e below G (T213.setTop (mkF m 231 #[.val (.int p0), .val (.int p1), .val (.int p2), .val (.int p3), .val (.int p4), .val (.int t0_11), .val (.int t0_24), .val (.int t0_37), .val (.ref b41), .val (.ref b47), .val (.ref b52), .val (.int (own_pr (own_pr (own_pr (0 : Int32) t0_11 t0_24 t0_86) t0_11 t0_37 t0_123) t0_24 t0_37 t0_160)), .val (.ref b171), .val (.int v13_207), .val (.int v14_207), .val (.int v15_218), .unset, .unset, .unset] []))
                    refine own_to (fun _ kz => XS.iload X213.here hx rfl (hb hby at_231) rfl  kz) ?_
                    show own_Fin p e below G (T213.setTop (mkF m 233 #[.val (.int p0), .val (.int p1), .val (.int p2), .val (.int p3), .val (.int p4), .val (.int t0_11), .val (.int t0_24), .val (.int t0_37), .val (.ref b41), .val (.ref b47), .val (.ref b52), .val (.int (own_pr (own_pr (own_pr (0 : Int32) t0_11 t0_24 t0_86) t0_11 t0_37 t0_123) t0_24 t0_37 t0_160)), .val (.ref b171), .val (.int v13_207), .val (.int v14_207), .val (.int v15_218), .unset, .unset, .unset] [(.int v13_207)]))
                    refine own_to (fun _ kz => XS.iload X213.here hx rfl (hb hby at_233) rfl  kz) ?_
                    show own_Fin p e below G (T213.setTop (mkF m 235 #[.val (.int p0), .val (.int p1), .val (.int p2), .val (.int p3), .val (.int p4), .val (.int t0_11), .val (.int t0_24), .val (.int t0_37), .val (.ref b41), .val (.ref b47), .val (.ref b52), .val (.int (own_pr (own_pr (own_pr (0 : Int32) t0_11 t0_24 t0_86) t0_11 t0_37 t0_123) t0_24 t0_37 t0_160)), .val (.ref b171), .val (.int v13_207), .val (.int v14_207), .val (.int v15_218), .unset, .unset, .unset] [(.int v14_207), (.int v13_207)]))
                    obtain ⟨_, _, ⟨T235, L235, k235, n235⟩, -, X235, ⟨Lc235, hQ235, l235, y235, z235⟩, st235⟩ := Jvm.LawKit.callS X213 hx (y := (⟨"java/lang/Math", "min", "(II)I"⟩ : MethodName)) hown (mvT hZ (hw _ (List.mem_of_getElem? (i := 29) rfl))) (mvT hZ (hw _ (List.mem_of_getElem? (i := 30) rfl))) (mvT hZ (hw _ (List.mem_of_getElem? (i := 31) rfl))) (mvT hZ (hw _ (List.mem_of_getElem? (i := 32) rfl))) (by decide) (backOf (W := 0) (rm6 l Z a0 hw [] v13_207 v14_207 T181.heap n0 Z_213) hZ (hw _ (List.mem_of_getElem? (i := 32) rfl)) (hw _ (List.mem_of_getElem? (i := 31) rfl)) (by decide) (by decide)) (g := (mkF m 235 #[.val (.int p0), .val (.int p1), .val (.int p2), .val (.int p3), .val (.int p4), .val (.int t0_11), .val (.int t0_24), .val (.int t0_37), .val (.ref b41), .val (.ref b47), .val (.ref b52), .val (.int (own_pr (own_pr (own_pr (0 : Int32) t0_11 t0_24 t0_86) t0_11 t0_37 t0_123) t0_24 t0_37 t0_160)), .val (.ref b171), .val (.int v13_207), .val (.int v14_207), .val (.int v15_218), .unset, .unset, .unset] [(.int v14_207), (.int v13_207)])) rfl (by rw [hml]; rfl) (argsL := [(.int v13_207), (.int v14_207)]) (rest := []) (lenOf own_pd3 rfl) rfl (by show 2 * 0 + _ ≤ _; exact Nat.le_of_eq rfl) (hb hby at_235) (fun _ _ => ⟨rfl, e213, (by decide : 4 + 0 ≤ _), (by decide : 19 + 0 ≤ _)⟩)
                    dsimp only [Pt.U, Pt.locs, Pt.cells, Pt.slots] at X235 l235 y235 z235 st235 hQ235
                    subst l235 y235 z235
                    obtain ⟨rfl, N235q, e235⟩ := hQ235
                    obtain ⟨lo235, X235, N235⟩ : ∃ lo, Stand p l e _ s m _ below meth c T235 lo _ _ ∧ Fr n0 lo := ⟨_, X235, Fr.app N213 N235q⟩
                    refine own_to st235 ?_
                    show own_Fin p e below G (T235.setTop (mkF m 238 #[.val (.int p0), .val (.int p1), .val (.int p2), .val (.int p3), .val (.int p4), .val (.int t0_11), .val (.int t0_24), .val (.int t0_37), .val (.ref b41), .val (.ref b47), .val (.ref b52), .val (.int (own_pr (own_pr (own_pr (0 : Int32) t0_11 t0_24 t0_86) t0_11 t0_37 t0_123) t0_24 t0_37 t0_160)), .val (.ref b171), .val (.int v13_207), .val (.int v14_207), .val (.int v15_218), .unset, .unset, .unset] [(.int (f6 v13_207 v14_207))]))
                    refine own_to (fun _ kz => XS.istore X235.here hx rfl (hb hby at_238) rfl (l' := #[.val (.int p0), .val (.int p1), .val (.int p2), .val (.int p3), .val (.int p4), .val (.int t0_11), .val (.int t0_24), .val (.int t0_37), .val (.ref b41), .val (.ref b47), .val (.ref b52), .val (.int (own_pr (own_pr (own_pr (0 : Int32) t0_11 t0_24 t0_86) t0_11 t0_37 t0_123) t0_24 t0_37 t0_160)), .val (.ref b171), .val (.int v13_207), .val (.int v14_207), .val (.int v15_218), .unset, .val (.int (f6 v13_207 v14_207)), .unset]) rfl kz) ?_
                    show own_Fin p e below G (T235.setTop (mkF m 240 #[.val (.int p0), .val (.int p1), .val (.int p2), .val (.int p3), .val (.int p4), .val (.int t0_11), .val (.int t0_24), .val (.int t0_37), .val (.ref b41), .val (.ref b47), .val (.ref b52), .val (.int (own_pr (own_pr (own_pr (0 : Int32) t0_11 t0_24 t0_86) t0_11 t0_37 t0_123) t0_24 t0_37 t0_160)), .val (.ref b171), .val (.int v13_207), .val (.int v14_207), .val (.int v15_218), .unset, .val (.int (f6 v13_207 v14_207)), .unset] []))
                    refine own_to (fun _ kz => XS.iload X235.here hx rfl (hb hby at_240) rfl  kz) ?_
                    show own_Fin p e below G (T235.setTop (mkF m 242 #[.val (.int p0), .val (.int p1), .val (.int p2), .val (.int p3), .val (.int p4), .val (.int t0_11), .val (.int t0_24), .val (.int t0_37), .val (.ref b41), .val (.ref b47), .val (.ref b52), .val (.int (own_pr (own_pr (own_pr (0 : Int32) t0_11 t0_24 t0_86) t0_11 t0_37 t0_123) t0_24 t0_37 t0_160)), .val (.ref b171), .val (.int v13_207), .val (.int v14_207), .val (.int v15_218), .unset, .val (.int (f6 v13_207 v14_207)), .unset] [(.int v13_207)]))
                    refine own_to (fun _ kz => XS.iload X235.here hx rfl (hb hby at_242) rfl  kz) ?_
                    show own_Fin p e below G (T235.setTop (mkF m 244 #[.val (.int p0), .val (.int p1), .val (.int p2), .val (.int p3), .val (.int p4), .val (.int t0_11), .val (.int t0_24), .val (.int t0_37), .val (.ref b41), .val (.ref b47), .val (.ref b52), .val (.int (own_pr (own_pr (own_pr (0 : Int32) t0_11 t0_24 t0_86) t0_11 t0_37 t0_123) t0_24 t0_37 t0_160)), .val (.ref b171), .val (.int v13_207), .val (.int v14_207), .val (.int v15_218), .unset, .val (.int (f6 v13_207 v14_207)), .unset] [(.int v14_207), (.int v13_207)]))
                    obtain ⟨_, _, ⟨T244, L244, k244, n244⟩, -, X244, ⟨Lc244, hQ244, l244, y244, z244⟩, st244⟩ := Jvm.LawKit.callS X235 hx (y := (⟨"java/lang/Math", "max", "(II)I"⟩ : MethodName)) hown (mvT hZ (hw _ (List.mem_of_getElem? (i := 33) rfl))) (mvT hZ (hw _ (List.mem_of_getElem? (i := 34) rfl))) (mvT hZ (hw _ (List.mem_of_getElem? (i := 31) rfl))) (mvT hZ (hw _ (List.mem_of_getElem? (i := 35) rfl))) (by decide) (backOf (W := 0) (rm7 l Z a0 hw [] v13_207 v14_207 T181.heap n0 Z_213) hZ (hw _ (List.mem_of_getElem? (i := 35) rfl)) (hw _ (List.mem_of_getElem? (i := 31) rfl)) (by decide) (by decide)) (g := (mkF m 244 #[.val (.int p0), .val (.int p1), .val (.int p2), .val (.int p3), .val (.int p4), .val (.int t0_11), .val (.int t0_24), .val (.int t0_37), .val (.ref b41), .val (.ref b47), .val (.ref b52), .val (.int (own_pr (own_pr (own_pr (0 : Int32) t0_11 t0_24 t0_86) t0_11 t0_37 t0_123) t0_24 t0_37 t0_160)), .val (.ref b171), .val (.int v13_207), .val (.int v14_207), .val (.int v15_218), .unset, .val (.int (f6 v13_207 v14_207)), .unset] [(.int v14_207), (.int v13_207)])) rfl (by rw [hml]; rfl) (argsL := [(.int v13_207), (.int v14_207)]) (rest := []) (lenOf own_pd3 rfl) rfl (by show 2 * 0 + _ ≤ _; exact Nat.le_of_eq rfl) (hb hby at_244) (fun _ _ => ⟨rfl, e235, (by decide : 4 + 0 ≤ _), (by decide : 19 + 0 ≤ _)⟩)
                    dsimp only [Pt.U, Pt.locs, Pt.cells, Pt.slots] at X244 l244 y244 z244 st244 hQ244
                    subst l244 y244 z244
                    obtain ⟨rfl, N244q, e244⟩ := hQ244
                    obtain ⟨lo244, X244, N244⟩ : ∃ lo, Stand p l e _ s m _ below meth c T244 lo _ _ ∧ Fr n0 lo := ⟨_, X244, Fr.app N235 N244q⟩
                    refine own_to st244 ?_
                    show own_Fin p e below G (T244.setTop (mkF m 247 #[.val (.int p0), .val (.int p1), .val (.int p2), .val (.int p3), .val (.int p4), .val (.int t0_11), .val (.int t0_24), .val (.int t0_37), .val (.ref b41), .val (.ref b47), .val (.ref b52), .val (.int (own_pr (own_pr (own_pr (0 : Int32) t0_11 t0_24 t0_86) t0_11 t0_37 t0_123) t0_24 t0_37 t0_160)), .val (.ref b171), .val (.int v13_207), .val (.int v14_207), .val (.int v15_218), .unset, .val (.int (f6 v13_207 v14_207)), .unset] [(.int (f7 v13_207 v14_207))]))
                    refine own_to (fun _ kz => XS.istore X244.here hx rfl (hb hby at_247) rfl (l' := #[.val (.int p0), .val (.int p1), .val (.int p2), .val (.int p3), .val (.int p4), .val (.int t0_11), .val (.int t0_24), .val (.int t0_37), .val (.ref b41), .val (.ref b47), .val (.ref b52), .val (.int (own_pr (own_pr (own_pr (0 : Int32) t0_11 t0_24 t0_86) t0_11 t0_37 t0_123) t0_24 t0_37 t0_160)), .val (.ref b171), .val (.int v13_207), .val (.int v14_207), .val (.int v15_218), .unset, .val (.int (f6 v13_207 v14_207)), .val (.int (f7 v13_207 v14_207))]) rfl kz) ?_
                    show own_Fin p e below G (T244.setTop (mkF m 249 #[.val (.int p0), .val (.int p1), .val (.int p2), .val (.int p3), .val (.int p4), .val (.int t0_11), .val (.int t0_24), .val (.int t0_37), .val (.ref b41), .val (.ref b47), .val (.ref b52), .val (.int (own_pr (own_pr (own_pr (0 : Int32) t0_11 t0_24 t0_86) t0_11 t0_37 t0_123) t0_24 t0_37 t0_160)), .val (.ref b171), .val (.int v13_207), .val (.int v14_207), .val (.int v15_218), .unset, .val (.int (f6 v13_207 v14_207)), .val (.int (f7 v13_207 v14_207))] []))
                    refine own_to (fun _ kz => XS.iload X244.here hx rfl (hb hby at_249) rfl  kz) ?_
                    show own_Fin p e below G (T244.setTop (mkF m 251 #[.val (.int p0), .val (.int p1), .val (.int p2), .val (.int p3), .val (.int p4), .val (.int t0_11), .val (.int t0_24), .val (.int t0_37), .val (.ref b41), .val (.ref b47), .val (.ref b52), .val (.int (own_pr (own_pr (own_pr (0 : Int32) t0_11 t0_24 t0_86) t0_11 t0_37 t0_123) t0_24 t0_37 t0_160)), .val (.ref b171), .val (.int v13_207), .val (.int v14_207), .val (.int v15_218), .unset, .val (.int (f6 v13_207 v14_207)), .val (.int (f7 v13_207 v14_207))] [(.int (f6 v13_207 v14_207))]))
                    have K275 : ∀ (q_j275 : (f0 p0 p1 p2 p3 p4) = (f0_275 p0 p1 p2 p3 p4 t0_11 t0_24 t0_37 t0_86 t0_123 t0_160 v13_207 v14_207 v15_218)), own_Fin p e below G (T244.setTop (mkF m 275 #[.val (.int p0), .val (.int p1), .val (.int p2), .val (.int p3), .val (.int p4), .val (.int t0_11), .val (.int t0_24), .val (.int t0_37), .val (.ref b41), .val (.ref b47), .val (.ref b52), .val (.int (own_pr (own_pr (own_pr (0 : Int32) t0_11 t0_24 t0_86) t0_11 t0_37 t0_123) t0_24 t0_37 t0_160)), .val (.ref b171), .val (.int v13_207), .val (.int v14_207), .val (.int v15_218), .unset, .val (.int (f6 v13_207 v14_207)), .val (.int (f7 v13_207 v14_207))] [])) := by
                      intro q_j275
                      refine own_to (fun _ kz => XS.iload X244.here hx rfl (hb hby at_275) rfl  kz) ?_
                      show own_Fin p e below G (T244.setTop (mkF m 277 #[.val (.int p0), .val (.int p1), .val (.int p2), .val (.int p3), .val (.int p4), .val (.int t0_11), .val (.int t0_24), .val (.int t0_37), .val (.ref b41), .val (.ref b47), .val (.ref b52), .val (.int (own_pr (own_pr (own_pr (0 : Int32) t0_11 t0_24 t0_86) t0_11 t0_37 t0_123) t0_24 t0_37 t0_160)), .val (.ref b171), .val (.int v13_207), .val (.int v14_207), .val (.int v15_218), .unset, .val (.int (f6 v13_207 v14_207)), .val (.int (f7 v13_207 v14_207))] [(.int (f6 v13_207 v14_207))]))
                      have K301 : ∀ (q_j301 : (f0 p0 p1 p2 p3 p4) = (f0_301 p0 p1 p2 p3 p4 t0_11 t0_24 t0_37 t0_86 t0_123 t0_160 v13_207 v14_207 v15_218)), own_Fin p e below G (T244.setTop (mkF m 301 #[.val (.int p0), .val (.int p1), .val (.int p2), .val (.int p3), .val (.int p4), .val (.int t0_11), .val (.int t0_24), .val (.int t0_37), .val (.ref b41), .val (.ref b47), .val (.ref b52), .val (.int (own_pr (own_pr (own_pr (0 : Int32) t0_11 t0_24 t0_86) t0_11 t0_37 t0_123) t0_24 t0_37 t0_160)), .val (.ref b171), .val (.int v13_207), .val (.int v14_207), .val (.int v15_218), .unset, .val (.int (f6 v13_207 v14_207)), .val (.int (f7 v13_207 v14_207))] [])) := by
                        intro q_j301
                        refine own_to (fun _ kz => XS.iload X244.here hx rfl (hb hby at_301) rfl  kz) ?_
                        show own_Fin p e below G (T244.setTop (mkF m 303 #[.val (.int p0), .val (.int p1), .val (.int p2), .val (.int p3), .val (.int p4), .val (.int t0_11), .val (.int t0_24), .val (.int t0_37), .val (.ref b41), .val (.ref b47), .val (.ref b52), .val (.int (own_pr (own_pr (own_pr (0 : Int32) t0_11 t0_24 t0_86) t0_11 t0_37 t0_123) t0_24 t0_37 t0_160)), .val (.ref b171), .val (.int v13_207), .val (.int v14_207), .val (.int v15_218), .unset, .val (.int (f6 v13_207 v14_207)), .val (.int (f7 v13_207 v14_207))] [(.int t0_37)]))
                        have K311 : ∀ (t0_311 : Int32) (q_j311 : (f0 p0 p1 p2 p3 p4) = (f0_311 p0 p1 p2 p3 p4 t0_11 t0_24 t0_37 t0_86 t0_123 t0_160 v13_207 v14_207 v15_218 t0_311)), own_Fin p e below G (T244.setTop (mkF m 311 #[.val (.int p0), .val (.int p1), .val (.int p2), .val (.int p3), .val (.int p4), .val (.int t0_11), .val (.int t0_24), .val (.int t0_37), .val (.ref b41), .val (.ref b47), .val (.ref b52), .val (.int (own_pr (own_pr (own_pr (0 : Int32) t0_11 t0_24 t0_86) t0_11 t0_37 t0_123) t0_24 t0_37 t0_160)), .val (.ref b171), .val (.int v13_207), .val (.int v14_207), .val (.int v15_218), .unset, .val (.int (f6 v13_207 v14_207)), .val (.int (f7 v13_207 v14_207))] [(.int t0_311)])) := by
                          intro t0_311 q_j311
                          refine own_to (fun _ kz => XS.istore X244.here hx rfl (hb hby at_311) rfl (l' := #[.val (.int p0), .val (.int p1), .val (.int p2), .val (.int p3), .val (.int p4), .val (.int t0_11), .val (.int t0_24), .val (.int t0_37), .val (.ref b41), .val (.ref b47), .val (.ref b52), .val (.int (own_pr (own_pr (own_pr (0 : Int32) t0_11 t0_24 t0_86) t0_11 t0_37 t0_123) t0_24 t0_37 t0_160)), .val (.ref b171), .val (.int v13_207), .val (.int v14_207), .val (.int v15_218), .val (.int t0_311), .val (.int (f6 v13_207 v14_207)), .val (.int (f7 v13_207 v14_207))]) rfl kz) ?_
                          show own_Fin p e below G (T244.setTop (mkF m 313 #[.val (.int p0), .val (.int p1), .val (.int p2), .val (.int p3), .val (.int p4), .val (.int t0_11), .val (.int t0_24), .val (.int t0_37), .val (.ref b41), .val (.ref b47), .val (.ref b52), .val (.int (own_pr (own_pr (own_pr (0 : Int32) t0_11 t0_24 t0_86) t0_11 t0_37 t0_123) t0_24 t0_37 t0_160)), .val (.ref b171), .val (.int v13_207), .val (.int v14_207), .val (.int v15_218), .val (.int t0_311), .val (.int (f6 v13_207 v14_207)), .val (.int (f7 v13_207 v14_207))] []))
                          exact K313 t0_311 (.val (.int (f6 v13_207 v14_207))) (.val (.int (f7 v13_207 v14_207))) _ _ N244 X244 e244 (One.val rfl) (One.val rfl) q_j311
                        by_cases hc303 : t0_37 = (0 : Int32)
                        · refine own_to (fun _ kz => XS.ifYes X244.here hx rfl (pc0 := 303) (pc' := 310) rfl (hb hby at_303) rfl ((if0 _ _).trans (teq hc303).1) (by decide) (by decide) kz) ?_
                          have q303t := q_j301.trans (if_pos hc303)
                          show own_Fin p e below G (T244.setTop (mkF m 310 #[.val (.int p0), .val (.int p1), .val (.int p2), .val (.int p3), .val (.int p4), .val (.int t0_11), .val (.int t0_24), .val (.int t0_37), .val (.ref b41), .val (.ref b47), .val (.ref b52), .val (.int (own_pr (own_pr (own_pr (0 : Int32) t0_11 t0_24 t0_86) t0_11 t0_37 t0_123) t0_24 t0_37 t0_160)), .val (.ref b171), .val (.int v13_207), .val (.int v14_207), .val (.int v15_218), .unset, .val (.int (f6 v13_207 v14_207)), .val (.int (f7 v13_207 v14_207))] []))
                          refine own_to (fun _ kz => XS.iconst X244.here hx rfl (hb hby at_310) kz) ?_
                          show own_Fin p e below G (T244.setTop (mkF m 311 #[.val (.int p0), .val (.int p1), .val (.int p2), .val (.int p3), .val (.int p4), .val (.int t0_11), .val (.int t0_24), .val (.int t0_37), .val (.ref b41), .val (.ref b47), .val (.ref b52), .val (.int (own_pr (own_pr (own_pr (0 : Int32) t0_11 t0_24 t0_86) t0_11 t0_37 t0_123) t0_24 t0_37 t0_160)), .val (.ref b171), .val (.int v13_207), .val (.int v14_207), .val (.int v15_218), .unset, .val (.int (f6 v13_207 v14_207)), .val (.int (f7 v13_207 v14_207))] [(.int (-1 : Int32))]))
                          exact K311 (-1 : Int32) q303t
                        · refine own_to (fun _ kz => XS.ifNo X244.here hx rfl (hb hby at_303) rfl ((if0 _ _).trans (feq hc303).1) kz) ?_
                          have q303f := q_j301.trans (if_neg hc303)
                          show own_Fin p e below G (T244.setTop (mkF m 306 #[.val (.int p0), .val (.int p1), .val (.int p2), .val (.int p3), .val (.int p4), .val (.int t0_11), .val (.int t0_24), .val (.int t0_37), .val (.ref b41), .val (.ref b47), .val (.ref b52), .val (.int (own_pr (own_pr (own_pr (0 : Int32) t0_11 t0_24 t0_86) t0_11 t0_37 t0_123) t0_24 t0_37 t0_160)), .val (.ref b171), .val (.int v13_207), .val (.int v14_207), .val (.int v15_218), .unset, .val (.int (f6 v13_207 v14_207)), .val (.int (f7 v13_207 v14_207))] []))
                          refine own_to (fun _ kz => XS.iloadN X244.here hx rfl (hb hby at_306) rfl  kz) ?_
                          show own_Fin p e below G (T244.setTop (mkF m 307 #[.val (.int p0), .val (.int p1), .val (.int p2), .val (.int p3), .val (.int p4), .val (.int t0_11), .val (.int t0_24), .val (.int t0_37), .val (.ref b41), .val (.ref b47), .val (.ref b52), .val (.int (own_pr (own_pr (own_pr (0 : Int32) t0_11 t0_24 t0_86) t0_11 t0_37 t0_123) t0_24 t0_37 t0_160)), .val (.ref b171), .val (.int v13_207), .val (.int v14_207), .val (.int v15_218), .unset, .val (.int (f6 v13_207 v14_207)), .val (.int (f7 v13_207 v14_207))] [(.int p2)]))
                          refine own_to (fun _ kz => XS.goto X244.here hx rfl (pc0 := 307) (pc' := 311) rfl (hb hby at_307) (by decide) (by decide) kz) ?_
                          show own_Fin p e below G (T244.setTop (mkF m 311 #[.val (.int p0), .val (.int p1), .val (.int p2), .val (.int p3), .val (.int p4), .val (.int t0_11), .val (.int t0_24), .val (.int t0_37), .val (.ref b41), .val (.ref b47), .val (.ref b52), .val (.int (own_pr (own_pr (own_pr (0 : Int32) t0_11 t0_24 t0_86) t0_11 t0_37 t0_123) t0_24 t0_37 t0_160)), .val (.ref b171), .val (.int v13_207), .val (.int v14_207), .val (.int v15_218), .unset, .val (.int (f6 v13_207 v14_207)), .val (.int (f7 v13_207 v14_207))] [(.int p2)]))
                          exact K311 p2 q303f
                      by_cases hc277 : (f6 v13_207 v14_207) = (0 : Int32)
                      · refine own_to (fun _ kz => XS.ifNo X244.here hx rfl (hb hby at_277) rfl ((if0 _ _).trans (teq hc277).2) kz) ?_
                        have q277t := q_j275.trans (if_pos hc277)
                        show own_Fin p e below G (T244.setTop (mkF m 280 #[.val (.int p0), .val (.int p1), .val (.int p2), .val (.int p3), .val (.int p4), .val (.int t0_11), .val (.int t0_24), .val (.int t0_37), .val (.ref b41), .val (.ref b47), .val (.ref b52), .val (.int (own_pr (own_pr (own_pr (0 : Int32) t0_11 t0_24 t0_86) t0_11 t0_37 t0_123) t0_24 t0_37 t0_160)), .val (.ref b171), .val (.int v13_207), .val (.int v14_207), .val (.int v15_218), .unset, .val (.int (f6 v13_207 v14_207)), .val (.int (f7 v13_207 v14_207))] []))
                        refine own_to (fun _ kz => XS.iload X244.here hx rfl (hb hby at_280) rfl  kz) ?_
                        show own_Fin p e below G (T244.setTop (mkF m 282 #[.val (.int p0), .val (.int p1), .val (.int p2), .val (.int p3), .val (.int p4), .val (.int t0_11), .val (.int t0_24), .val (.int t0_37), .val (.ref b41), .val (.ref b47), .val (.ref b52), .val (.int (own_pr (own_pr (own_pr (0 : Int32) t0_11 t0_24 t0_86) t0_11 t0_37 t0_123) t0_24 t0_37 t0_160)), .val (.ref b171), .val (.int v13_207), .val (.int v14_207), .val (.int v15_218), .unset, .val (.int (f6 v13_207 v14_207)), .val (.int (f7 v13_207 v14_207))] [(.int (f7 v13_207 v14_207))]))
                        refine own_to (fun _ kz => XS.iconst X244.here hx rfl (hb hby at_282) kz) ?_
                        show own_Fin p e below G (T244.setTop (mkF m 283 #[.val (.int p0), .val (.int p1), .val (.int p2), .val (.int p3), .val (.int p4), .val (.int t0_11), .val (.int t0_24), .val (.int t0_37), .val (.ref b41), .val (.ref b47), .val (.ref b52), .val (.int (own_pr (own_pr (own_pr (0 : Int32) t0_11 t0_24 t0_86) t0_11 t0_37 t0_123) t0_24 t0_37 t0_160)), .val (.ref b171), .val (.int v13_207), .val (.int v14_207), .val (.int v15_218), .unset, .val (.int (f6 v13_207 v14_207)), .val (.int (f7 v13_207 v14_207))] [(.int (2 : Int32)), (.int (f7 v13_207 v14_207))]))
                        by_cases hc283 : (f7 v13_207 v14_207) = (2 : Int32)
                        · refine own_to (fun _ kz => XS.icmpNo X244.here hx rfl (hb hby at_283) rfl (teq hc283).2 kz) ?_
                          have q283t := q277t.trans (if_pos hc283)
                          show own_Fin p e below G (T244.setTop (mkF m 286 #[.val (.int p0), .val (.int p1), .val (.int p2), .val (.int p3), .val (.int p4), .val (.int t0_11), .val (.int t0_24), .val (.int t0_37), .val (.ref b41), .val (.ref b47), .val (.ref b52), .val (.int (own_pr (own_pr (own_pr (0 : Int32) t0_11 t0_24 t0_86) t0_11 t0_37 t0_123) t0_24 t0_37 t0_160)), .val (.ref b171), .val (.int v13_207), .val (.int v14_207), .val (.int v15_218), .unset, .val (.int (f6 v13_207 v14_207)), .val (.int (f7 v13_207 v14_207))] []))
                          refine own_to (fun _ kz => XS.iload X244.here hx rfl (hb hby at_286) rfl  kz) ?_
                          show own_Fin p e below G (T244.setTop (mkF m 288 #[.val (.int p0), .val (.int p1), .val (.int p2), .val (.int p3), .val (.int p4), .val (.int t0_11), .val (.int t0_24), .val (.int t0_37), .val (.ref b41), .val (.ref b47), .val (.ref b52), .val (.int (own_pr (own_pr (own_pr (0 : Int32) t0_11 t0_24 t0_86) t0_11 t0_37 t0_123) t0_24 t0_37 t0_160)), .val (.ref b171), .val (.int v13_207), .val (.int v14_207), .val (.int v15_218), .unset, .val (.int (f6 v13_207 v14_207)), .val (.int (f7 v13_207 v14_207))] [(.int t0_24)]))
                          have K296 : ∀ (t0_296 : Int32) (q_j296 : (f0 p0 p1 p2 p3 p4) = (f0_296 p0 p1 p2 p3 p4 t0_11 t0_24 t0_37 t0_86 t0_123 t0_160 v13_207 v14_207 v15_218 t0_296)), own_Fin p e below G (T244.setTop (mkF m 296 #[.val (.int p0), .val (.int p1), .val (.int p2), .val (.int p3), .val (.int p4), .val (.int t0_11), .val (.int t0_24), .val (.int t0_37), .val (.ref b41), .val (.ref b47), .val (.ref b52), .val (.int (own_pr (own_pr (own_pr (0 : Int32) t0_11 t0_24 t0_86) t0_11 t0_37 t0_123) t0_24 t0_37 t0_160)), .val (.ref b171), .val (.int v13_207), .val (.int v14_207), .val (.int v15_218), .unset, .val (.int (f6 v13_207 v14_207)), .val (.int (f7 v13_207 v14_207))] [(.int t0_296)])) := by
                            intro t0_296 q_j296
                            refine own_to (fun _ kz => XS.istore X244.here hx rfl (hb hby at_296) rfl (l' := #[.val (.int p0), .val (.int p1), .val (.int p2), .val (.int p3), .val (.int p4), .val (.int t0_11), .val (.int t0_24), .val (.int t0_37), .val (.ref b41), .val (.ref b47), .val (.ref b52), .val (.int (own_pr (own_pr (own_pr (0 : Int32) t0_11 t0_24 t0_86) t0_11 t0_37 t0_123) t0_24 t0_37 t0_160)), .val (.ref b171), .val (.int v13_207), .val (.int v14_207), .val (.int v15_218), .val (.int t0_296), .val (.int (f6 v13_207 v14_207)), .val (.int (f7 v13_207 v14_207))]) rfl kz) ?_
                            show own_Fin p e below G (T244.setTop (mkF m 298 #[.val (.int p0), .val (.int p1), .val (.int p2), .val (.int p3), .val (.int p4), .val (.int t0_11), .val (.int t0_24), .val (.int t0_37), .val (.ref b41), .val (.ref b47), .val (.ref b52), .val (.int (own_pr (own_pr (own_pr (0 : Int32) t0_11 t0_24 t0_86) t0_11 t0_37 t0_123) t0_24 t0_37 t0_160)), .val (.ref b171), .val (.int v13_207), .val (.int v14_207), .val (.int v15_218), .val (.int t0_296), .val (.int (f6 v13_207 v14_207)), .val (.int (f7 v13_207 v14_207))] []))
                            refine own_to (fun _ kz => XS.goto X244.here hx rfl (pc0 := 298) (pc' := 313) rfl (hb hby at_298) (by decide) (by decide) kz) ?_
                            show own_Fin p e below G (T244.setTop (mkF m 313 #[.val (.int p0), .val (.int p1), .val (.int p2), .val (.int p3), .val (.int p4), .val (.int t0_11), .val (.int t0_24), .val (.int t0_37), .val (.ref b41), .val (.ref b47), .val (.ref b52), .val (.int (own_pr (own_pr (own_pr (0 : Int32) t0_11 t0_24 t0_86) t0_11 t0_37 t0_123) t0_24 t0_37 t0_160)), .val (.ref b171), .val (.int v13_207), .val (.int v14_207), .val (.int v15_218), .val (.int t0_296), .val (.int (f6 v13_207 v14_207)), .val (.int (f7 v13_207 v14_207))] []))
                            exact K313 t0_296 (.val (.int (f6 v13_207 v14_207))) (.val (.int (f7 v13_207 v14_207))) _ _ N244 X244 e244 (One.val rfl) (One.val rfl) q_j296
                          by_cases hc288 : t0_24 = (0 : Int32)
                          · refine own_to (fun _ kz => XS.ifYes X244.here hx rfl (pc0 := 288) (pc' := 295) rfl (hb hby at_288) rfl ((if0 _ _).trans (teq hc288).1) (by decide) (by decide) kz) ?_
                            have q288t := q283t.trans (if_pos hc288)
                            show own_Fin p e below G (T244.setTop (mkF m 295 #[.val (.int p0), .val (.int p1), .val (.int p2), .val (.int p3), .val (.int p4), .val (.int t0_11), .val (.int t0_24), .val (.int t0_37), .val (.ref b41), .val (.ref b47), .val (.ref b52), .val (.int (own_pr (own_pr (own_pr (0 : Int32) t0_11 t0_24 t0_86) t0_11 t0_37 t0_123) t0_24 t0_37 t0_160)), .val (.ref b171), .val (.int v13_207), .val (.int v14_207), .val (.int v15_218), .unset, .val (.int (f6 v13_207 v14_207)), .val (.int (f7 v13_207 v14_207))] []))
                            refine own_to (fun _ kz => XS.iconst X244.here hx rfl (hb hby at_295) kz) ?_
                            show own_Fin p e below G (T244.setTop (mkF m 296 #[.val (.int p0), .val (.int p1), .val (.int p2), .val (.int p3), .val (.int p4), .val (.int t0_11), .val (.int t0_24), .val (.int t0_37), .val (.ref b41), .val (.ref b47), .val (.ref b52), .val (.int (own_pr (own_pr (own_pr (0 : Int32) t0_11 t0_24 t0_86) t0_11 t0_37 t0_123) t0_24 t0_37 t0_160)), .val (.ref b171), .val (.int v13_207), .val (.int v14_207), .val (.int v15_218), .unset, .val (.int (f6 v13_207 v14_207)), .val (.int (f7 v13_207 v14_207))] [(.int (-1 : Int32))]))
                            exact K296 (-1 : Int32) q288t
                          · refine own_to (fun _ kz => XS.ifNo X244.here hx rfl (hb hby at_288) rfl ((if0 _ _).trans (feq hc288).1) kz) ?_
                            have q288f := q283t.trans (if_neg hc288)
                            show own_Fin p e below G (T244.setTop (mkF m 291 #[.val (.int p0), .val (.int p1), .val (.int p2), .val (.int p3), .val (.int p4), .val (.int t0_11), .val (.int t0_24), .val (.int t0_37), .val (.ref b41), .val (.ref b47), .val (.ref b52), .val (.int (own_pr (own_pr (own_pr (0 : Int32) t0_11 t0_24 t0_86) t0_11 t0_37 t0_123) t0_24 t0_37 t0_160)), .val (.ref b171), .val (.int v13_207), .val (.int v14_207), .val (.int v15_218), .unset, .val (.int (f6 v13_207 v14_207)), .val (.int (f7 v13_207 v14_207))] []))
                            refine own_to (fun _ kz => XS.iloadN X244.here hx rfl (hb hby at_291) rfl  kz) ?_
                            show own_Fin p e below G (T244.setTop (mkF m 292 #[.val (.int p0), .val (.int p1), .val (.int p2), .val (.int p3), .val (.int p4), .val (.int t0_11), .val (.int t0_24), .val (.int t0_37), .val (.ref b41), .val (.ref b47), .val (.ref b52), .val (.int (own_pr (own_pr (own_pr (0 : Int32) t0_11 t0_24 t0_86) t0_11 t0_37 t0_123) t0_24 t0_37 t0_160)), .val (.ref b171), .val (.int v13_207), .val (.int v14_207), .val (.int v15_218), .unset, .val (.int (f6 v13_207 v14_207)), .val (.int (f7 v13_207 v14_207))] [(.int p1)]))
                            refine own_to (fun _ kz => XS.goto X244.here hx rfl (pc0 := 292) (pc' := 296) rfl (hb hby at_292) (by decide) (by decide) kz) ?_
                            show own_Fin p e below G (T244.setTop (mkF m 296 #[.val (.int p0), .val (.int p1), .val (.int p2), .val (.int p3), .val (.int p4), .val (.int t0_11), .val (.int t0_24), .val (.int t0_37), .val (.ref b41), .val (.ref b47), .val (.ref b52), .val (.int (own_pr (own_pr (own_pr (0 : Int32) t0_11 t0_24 t0_86) t0_11 t0_37 t0_123) t0_24 t0_37 t0_160)), .val (.ref b171), .val (.int v13_207), .val (.int v14_207), .val (.int v15_218), .unset, .val (.int (f6 v13_207 v14_207)), .val (.int (f7 v13_207 v14_207))] [(.int p1)]))
                            exact K296 p1 q288f
                        · refine own_to (fun _ kz => XS.icmpYes X244.here hx rfl (pc0 := 283) (pc' := 301) rfl (hb hby at_283) rfl (feq hc283).2 (by decide) (by decide) kz) ?_
                          have q283f := q277t.trans (if_neg hc283)
                          show own_Fin p e below G (T244.setTop (mkF m 301 #[.val (.int p0), .val (.int p1), .val (.int p2), .val (.int p3), .val (.int p4), .val (.int t0_11), .val (.int t0_24), .val (.int t0_37), .val (.ref b41), .val (.ref b47), .val (.ref b52), .val (.int (own_pr (own_pr (own_pr (0 : Int32) t0_11 t0_24 t0_86) t0_11 t0_37 t0_123) t0_24 t0_37 t0_160)), .val (.ref b171), .val (.int v13_207), .val (.int v14_207), .val (.int v15_218), .unset, .val (.int (f6 v13_207 v14_207)), .val (.int (f7 v13_207 v14_207))] []))
                          exact K301 q283f
                      · refine own_to (fun _ kz => XS.ifYes X244.here hx rfl (pc0 := 277) (pc' := 301) rfl (hb hby at_277) rfl ((if0 _ _).trans (feq hc277).2) (by decide) (by decide) kz) ?_
                        have q277f := q_j275.trans (if_neg hc277)
                        show own_Fin p e below G (T244.setTop (mkF m 301 #[.val (.int p0), .val (.int p1), .val (.int p2), .val (.int p3), .val (.int p4), .val (.int t0_11), .val (.int t0_24), .val (.int t0_37), .val (.ref b41), .val (.ref b47), .val (.ref b52), .val (.int (own_pr (own_pr (own_pr (0 : Int32) t0_11 t0_24 t0_86) t0_11 t0_37 t0_123) t0_24 t0_37 t0_160)), .val (.ref b171), .val (.int v13_207), .val (.int v14_207), .val (.int v15_218), .unset, .val (.int (f6 v13_207 v14_207)), .val (.int (f7 v13_207 v14_207))] []))
                        exact K301 q277f
                    by_cases hc251 : (f6 v13_207 v14_207) = (0 : Int32)
                    · refine own_to (fun _ kz => XS.ifNo X244.here hx rfl (hb hby at_251) rfl ((if0 _ _).trans (teq hc251).2) kz) ?_
                      have q251t := q222f.trans (if_pos hc251)
                      show own_Fin p e below G (T244.setTop (mkF m 254 #[.val (.int p0), .val (.int p1), .val (.int p2), .val (.int p3), .val (.int p4), .val (.int t0_11), .val (.int t0_24), .val (.int t0_37), .val (.ref b41), .val (.ref b47), .val (.ref b52), .val (.int (own_pr (own_pr (own_pr (0 : Int32) t0_11 t0_24 t0_86) t0_11 t0_37 t0_123) t0_24 t0_37 t0_160)), .val (.ref b171), .val (.int v13_207), .val (.int v14_207), .val (.int v15_218), .unset, .val (.int (f6 v13_207 v14_207)), .val (.int (f7 v13_207 v14_207))] []))
                      refine own_to (fun _ kz => XS.iload X244.here hx rfl (hb hby at_254) rfl  kz) ?_
                      show own_Fin p e below G (T244.setTop (mkF m 256 #[.val (.int p0), .val (.int p1), .val (.int p2), .val (.int p3), .val (.int p4), .val (.int t0_11), .val (.int t0_24), .val (.int t0_37), .val (.ref b41), .val (.ref b47), .val (.ref b52), .val (.int (own_pr (own_pr (own_pr (0 : Int32) t0_11 t0_24 t0_86) t0_11 t0_37 t0_123) t0_24 t0_37 t0_160)), .val (.ref b171), .val (.int v13_207), .val (.int v14_207), .val (.int v15_218), .unset, .val (.int (f6 v13_207 v14_207)), .val (.int (f7 v13_207 v14_207))] [(.int (f7 v13_207 v14_207))]))
                      refine own_to (fun _ kz => XS.iconst X244.here hx rfl (hb hby at_256) kz) ?_
                      show own_Fin p e below G (T244.setTop (mkF m 257 #[.val (.int p0), .val (.int p1), .val (.int p2), .val (.int p3), .val (.int p4), .val (.int t0_11), .val (.int t0_24), .val (.int t0_37), .val (.ref b41), .val (.ref b47), .val (.ref b52), .val (.int (own_pr (own_pr (own_pr (0 : Int32) t0_11 t0_24 t0_86) t0_11 t0_37 t0_123) t0_24 t0_37 t0_160)), .val (.ref b171), .val (.int v13_207), .val (.int v14_207), .val (.int v15_218), .unset, .val (.int (f6 v13_207 v14_207)), .val (.int (f7 v13_207 v14_207))] [(.int (1 : Int32)), (.int (f7 v13_207 v14_207))]))
                      by_cases hc257 : (f7 v13_207 v14_207) = (1 : Int32)
                      · refine own_to (fun _ kz => XS.icmpNo X244.here hx rfl (hb hby at_257) rfl (teq hc257).2 kz) ?_
                        have q257t := q251t.trans (if_pos hc257)
                        show own_Fin p e below G (T244.setTop (mkF m 260 #[.val (.int p0), .val (.int p1), .val (.int p2), .val (.int p3), .val (.int p4), .val (.int t0_11), .val (.int t0_24), .val (.int t0_37), .val (.ref b41), .val (.ref b47), .val (.ref b52), .val (.int (own_pr (own_pr (own_pr (0 : Int32) t0_11 t0_24 t0_86) t0_11 t0_37 t0_123) t0_24 t0_37 t0_160)), .val (.ref b171), .val (.int v13_207), .val (.int v14_207), .val (.int v15_218), .unset, .val (.int (f6 v13_207 v14_207)), .val (.int (f7 v13_207 v14_207))] []))
                        refine own_to (fun _ kz => XS.iload X244.here hx rfl (hb hby at_260) rfl  kz) ?_
                        show own_Fin p e below G (T244.setTop (mkF m 262 #[.val (.int p0), .val (.int p1), .val (.int p2), .val (.int p3), .val (.int p4), .val (.int t0_11), .val (.int t0_24), .val (.int t0_37), .val (.ref b41), .val (.ref b47), .val (.ref b52), .val (.int (own_pr (own_pr (own_pr (0 : Int32) t0_11 t0_24 t0_86) t0_11 t0_37 t0_123) t0_24 t0_37 t0_160)), .val (.ref b171), .val (.int v13_207), .val (.int v14_207), .val (.int v15_218), .unset, .val (.int (f6 v13_207 v14_207)), .val (.int (f7 v13_207 v14_207))] [(.int t0_11)]))
                        have K270 : ∀ (t0_270 : Int32) (q_j270 : (f0 p0 p1 p2 p3 p4) = (f0_270 p0 p1 p2 p3 p4 t0_11 t0_24 t0_37 t0_86 t0_123 t0_160 v13_207 v14_207 v15_218 t0_270)), own_Fin p e below G (T244.setTop (mkF m 270 #[.val (.int p0), .val (.int p1), .val (.int p2), .val (.int p3), .val (.int p4), .val (.int t0_11), .val (.int t0_24), .val (.int t0_37), .val (.ref b41), .val (.ref b47), .val (.ref b52), .val (.int (own_pr (own_pr (own_pr (0 : Int32) t0_11 t0_24 t0_86) t0_11 t0_37 t0_123) t0_24 t0_37 t0_160)), .val (.ref b171), .val (.int v13_207), .val (.int v14_207), .val (.int v15_218), .unset, .val (.int (f6 v13_207 v14_207)), .val (.int (f7 v13_207 v14_207))] [(.int t0_270)])) := by
                          intro t0_270 q_j270
                          refine own_to (fun _ kz => XS.istore X244.here hx rfl (hb hby at_270) rfl (l' := #[.val (.int p0), .val (.int p1), .val (.int p2), .val (.int p3), .val (.int p4), .val (.int t0_11), .val (.int t0_24), .val (.int t0_37), .val (.ref b41), .val (.ref b47), .val (.ref b52), .val (.int (own_pr (own_pr (own_pr (0 : Int32) t0_11 t0_24 t0_86) t0_11 t0_37 t0_123) t0_24 t0_37 t0_160)), .val (.ref b171), .val (.int v13_207), .val (.int v14_207), .val (.int v15_218), .val (.int t0_270), .val (.int (f6 v13_207 v14_207)), .val (.int (f7 v13_207 v14_207))]) rfl kz) ?_
                          show own_Fin p e below G (T244.setTop (mkF m 272 #[.val (.int p0), .val (.int p1), .val (.int p2), .val (.int p3), .val (.int p4), .val (.int t0_11), .val (.int t0_24), .val (.int t0_37), .val (.ref b41), .val (.ref b47), .val (.ref b52), .val (.int (own_pr (own_pr (own_pr (0 : Int32) t0_11 t0_24 t0_86) t0_11 t0_37 t0_123) t0_24 t0_37 t0_160)), .val (.ref b171), .val (.int v13_207), .val (.int v14_207), .val (.int v15_218), .val (.int t0_270), .val (.int (f6 v13_207 v14_207)), .val (.int (f7 v13_207 v14_207))] []))
                          refine own_to (fun _ kz => XS.goto X244.here hx rfl (pc0 := 272) (pc' := 313) rfl (hb hby at_272) (by decide) (by decide) kz) ?_
                          show own_Fin p e below G (T244.setTop (mkF m 313 #[.val (.int p0), .val (.int p1), .val (.int p2), .val (.int p3), .val (.int p4), .val (.int t0_11), .val (.int t0_24), .val (.int t0_37), .val (.ref b41), .val (.ref b47), .val (.ref b52), .val (.int (own_pr (own_pr (own_pr (0 : Int32) t0_11 t0_24 t0_86) t0_11 t0_37 t0_123) t0_24 t0_37 t0_160)), .val (.ref b171), .val (.int v13_207), .val (.int v14_207), .val (.int v15_218), .val (.int t0_270), .val (.int (f6 v13_207 v14_207)), .val (.int (f7 v13_207 v14_207))] []))
                          exact K313 t0_270 (.val (.int (f6 v13_207 v14_207))) (.val (.int (f7 v13_207 v14_207))) _ _ N244 X244 e244 (One.val rfl) (One.val rfl) q_j270
                        by_cases hc262 : t0_11 = (0 : Int32)
                        · refine own_to (fun _ kz => XS.ifYes X244.here hx rfl (pc0 := 262) (pc' := 269) rfl (hb hby at_262) rfl ((if0 _ _).trans (teq hc262).1) (by decide) (by decide) kz) ?_
                          have q262t := q257t.trans (if_pos hc262)
                          show own_Fin p e below G (T244.setTop (mkF m 269 #[.val (.int p0), .val (.int p1), .val (.int p2), .val (.int p3), .val (.int p4), .val (.int t0_11), .val (.int t0_24), .val (.int t0_37), .val (.ref b41), .val (.ref b47), .val (.ref b52), .val (.int (own_pr (own_pr (own_pr (0 : Int32) t0_11 t0_24 t0_86) t0_11 t0_37 t0_123) t0_24 t0_37 t0_160)), .val (.ref b171), .val (.int v13_207), .val (.int v14_207), .val (.int v15_218), .unset, .val (.int (f6 v13_207 v14_207)), .val (.int (f7 v13_207 v14_207))] []))
                          refine own_to (fun _ kz => XS.iconst X244.here hx rfl (hb hby at_269) kz) ?_
                          show own_Fin p e below G (T244.setTop (mkF m 270 #[.val (.int p0), .val (.int p1), .val (.int p2), .val (.int p3), .val (.int p4), .val (.int t0_11), .val (.int t0_24), .val (.int t0_37), .val (.ref b41), .val (.ref b47), .val (.ref b52), .val (.int (own_pr (own_pr (own_pr (0 : Int32) t0_11 t0_24 t0_86) t0_11 t0_37 t0_123) t0_24 t0_37 t0_160)), .val (.ref b171), .val (.int v13_207), .val (.int v14_207), .val (.int v15_218), .unset, .val (.int (f6 v13_207 v14_207)), .val (.int (f7 v13_207 v14_207))] [(.int (-1 : Int32))]))
                          exact K270 (-1 : Int32) q262t
                        · refine own_to (fun _ kz => XS.ifNo X244.here hx rfl (hb hby at_262) rfl ((if0 _ _).trans (feq hc262).1) kz) ?_
                          have q262f := q257t.trans (if_neg hc262)
                          show own_Fin p e below G (T244.setTop (mkF m 265 #[.val (.int p0), .val (.int p1), .val (.int p2), .val (.int p3), .val (.int p4), .val (.int t0_11), .val (.int t0_24), .val (.int t0_37), .val (.ref b41), .val (.ref b47), .val (.ref b52), .val (.int (own_pr (own_pr (own_pr (0 : Int32) t0_11 t0_24 t0_86) t0_11 t0_37 t0_123) t0_24 t0_37 t0_160)), .val (.ref b171), .val (.int v13_207), .val (.int v14_207), .val (.int v15_218), .unset, .val (.int (f6 v13_207 v14_207)), .val (.int (f7 v13_207 v14_207))] []))
                          refine own_to (fun _ kz => XS.iloadN X244.here hx rfl (hb hby at_265) rfl  kz) ?_
                          show own_Fin p e below G (T244.setTop (mkF m 266 #[.val (.int p0), .val (.int p1), .val (.int p2), .val (.int p3), .val (.int p4), .val (.int t0_11), .val (.int t0_24), .val (.int t0_37), .val (.ref b41), .val (.ref b47), .val (.ref b52), .val (.int (own_pr (own_pr (own_pr (0 : Int32) t0_11 t0_24 t0_86) t0_11 t0_37 t0_123) t0_24 t0_37 t0_160)), .val (.ref b171), .val (.int v13_207), .val (.int v14_207), .val (.int v15_218), .unset, .val (.int (f6 v13_207 v14_207)), .val (.int (f7 v13_207 v14_207))] [(.int p0)]))
                          refine own_to (fun _ kz => XS.goto X244.here hx rfl (pc0 := 266) (pc' := 270) rfl (hb hby at_266) (by decide) (by decide) kz) ?_
                          show own_Fin p e below G (T244.setTop (mkF m 270 #[.val (.int p0), .val (.int p1), .val (.int p2), .val (.int p3), .val (.int p4), .val (.int t0_11), .val (.int t0_24), .val (.int t0_37), .val (.ref b41), .val (.ref b47), .val (.ref b52), .val (.int (own_pr (own_pr (own_pr (0 : Int32) t0_11 t0_24 t0_86) t0_11 t0_37 t0_123) t0_24 t0_37 t0_160)), .val (.ref b171), .val (.int v13_207), .val (.int v14_207), .val (.int v15_218), .unset, .val (.int (f6 v13_207 v14_207)), .val (.int (f7 v13_207 v14_207))] [(.int p0)]))
                          exact K270 p0 q262f
                      · refine own_to (fun _ kz => XS.icmpYes X244.here hx rfl (pc0 := 257) (pc' := 275) rfl (hb hby at_257) rfl (feq hc257).2 (by decide) (by decide) kz) ?_
                        have q257f := q251t.trans (if_neg hc257)
                        show own_Fin p e below G (T244.setTop (mkF m 275 #[.val (.int p0), .val (.int p1), .val (.int p2), .val (.int p3), .val (.int p4), .val (.int t0_11), .val (.int t0_24), .val (.int t0_37), .val (.ref b41), .val (.ref b47), .val (.ref b52), .val (.int (own_pr (own_pr (own_pr (0 : Int32) t0_11 t0_24 t0_86) t0_11 t0_37 t0_123) t0_24 t0_37 t0_160)), .val (.ref b171), .val (.int v13_207), .val (.int v14_207), .val (.int v15_218), .unset, .val (.int (f6 v13_207 v14_207)), .val (.int (f7 v13_207 v14_207))] []))
                        exact K275 q257f
                    · refine own_to (fun _ kz => XS.ifYes X244.here hx rfl (pc0 := 251) (pc' := 275) rfl (hb hby at_251) rfl ((if0 _ _).trans (feq hc251).2) (by decide) (by decide) kz) ?_
                      have q251f := q222f.trans (if_neg hc251)
                      show own_Fin p e below G (T244.setTop (mkF m 275 #[.val (.int p0), .val (.int p1), .val (.int p2), .val (.int p3), .val (.int p4), .val (.int t0_11), .val (.int t0_24), .val (.int t0_37), .val (.ref b41), .val (.ref b47), .val (.ref b52), .val (.int (own_pr (own_pr (own_pr (0 : Int32) t0_11 t0_24 t0_86) t0_11 t0_37 t0_123) t0_24 t0_37 t0_160)), .val (.ref b171), .val (.int v13_207), .val (.int v14_207), .val (.int v15_218), .unset, .val (.int (f6 v13_207 v14_207)), .val (.int (f7 v13_207 v14_207))] []))
                      exact K275 q251f
                exact K218 (own_got (own_ss (own_pr (0 : Int32) t0_11 t0_24 t0_86) (own_pr (own_pr (0 : Int32) t0_11 t0_24 t0_86) t0_11 t0_37 t0_123) (own_pr (own_pr (own_pr (0 : Int32) t0_11 t0_24 t0_86) t0_11 t0_37 t0_123) t0_24 t0_37 t0_160)) (own_put (own_put (own_put (fun _ => (0 : Int32)) (0 : Int32) t0_11 (1 : Int32) t0_24 (2 : Int32) t0_86) (own_pr (0 : Int32) t0_11 t0_24 t0_86) t0_11 (0 : Int32) t0_37 (2 : Int32) t0_123) (own_pr (own_pr (0 : Int32) t0_11 t0_24 t0_86) t0_11 t0_37 t0_123) t0_24 (0 : Int32) t0_37 (1 : Int32) t0_160) (own_put (own_put (own_put (fun _ => (0 : Int32)) (0 : Int32) t0_11 p0 t0_24 p1 t0_86) (own_pr (0 : Int32) t0_11 t0_24 t0_86) t0_11 p0 t0_37 p2 t0_123) (own_pr (own_pr (0 : Int32) t0_11 t0_24 t0_86) t0_11 t0_37 t0_123) t0_24 p1 t0_37 p2 t0_160) v13_207 v14_207) q_j207
              exact K207 ((p4 &&& (2147483647 : Int32)) % (3 : Int32)) ((((p4.toUInt32 >>> ((8 : Int32) &&& 31).toUInt32).toInt32) &&& (2147483647 : Int32)) % (3 : Int32)) (own_abc _ _ _ _ _ _) (own_rem3 _) q_j160
            by_cases hc152 : (p3 &&& (32 : Int32)) = (0 : Int32)
            · refine own_to (fun _ kz => XS.ifYes X133.here hx rfl (pc0 := 152) (pc' := 159) rfl (hb hby at_152) rfl ((if0 _ _).trans (teq hc152).1) (by decide) (by decide) kz) ?_
              have q152t := q_j123.trans (if_pos hc152)
              show own_Fin p e below G (T133.setTop (mkF m 159 #[.val (.int p0), .val (.int p1), .val (.int p2), .val (.int p3), .val (.int p4), .val (.int t0_11), .val (.int t0_24), .val (.int t0_37), .val (.ref b41), .val (.ref b47), .val (.ref b52), .val (.int (own_pr (own_pr (0 : Int32) t0_11 t0_24 t0_86) t0_11 t0_37 t0_123)), .unset, .unset, .unset, .unset, .unset, .unset, .unset] [(.int p2), (.int (1 : Int32)), (.int t0_37), (.int p1), (.int (0 : Int32)), (.int t0_24), (.int (own_pr (own_pr (0 : Int32) t0_11 t0_24 t0_86) t0_11 t0_37 t0_123)), (.ref b47), (.ref b41)]))
              refine own_to (fun _ kz => XS.iconst X133.here hx rfl (hb hby at_159) kz) ?_
              show own_Fin p e below G (T133.setTop (mkF m 160 #[.val (.int p0), .val (.int p1), .val (.int p2), .val (.int p3), .val (.int p4), .val (.int t0_11), .val (.int t0_24), .val (.int t0_37), .val (.ref b41), .val (.ref b47), .val (.ref b52), .val (.int (own_pr (own_pr (0 : Int32) t0_11 t0_24 t0_86) t0_11 t0_37 t0_123)), .unset, .unset, .unset, .unset, .unset, .unset, .unset] [(.int (0 : Int32)), (.int p2), (.int (1 : Int32)), (.int t0_37), (.int p1), (.int (0 : Int32)), (.int t0_24), (.int (own_pr (own_pr (0 : Int32) t0_11 t0_24 t0_86) t0_11 t0_37 t0_123)), (.ref b47), (.ref b41)]))
              exact K160 (0 : Int32) q152t
            · refine own_to (fun _ kz => XS.ifNo X133.here hx rfl (hb hby at_152) rfl ((if0 _ _).trans (feq hc152).1) kz) ?_
              have q152f := q_j123.trans (if_neg hc152)
              show own_Fin p e below G (T133.setTop (mkF m 155 #[.val (.int p0), .val (.int p1), .val (.int p2), .val (.int p3), .val (.int p4), .val (.int t0_11), .val (.int t0_24), .val (.int t0_37), .val (.ref b41), .val (.ref b47), .val (.ref b52), .val (.int (own_pr (own_pr (0 : Int32) t0_11 t0_24 t0_86) t0_11 t0_37 t0_123)), .unset, .unset, .unset, .unset, .unset, .unset, .unset] [(.int p2), (.int (1 : Int32)), (.int t0_37), (.int p1), (.int (0 : Int32)), (.int t0_24), (.int (own_pr (own_pr (0 : Int32) t0_11 t0_24 t0_86) t0_11 t0_37 t0_123)), (.ref b47), (.ref b41)]))
              refine own_to (fun _ kz => XS.iconst X133.here hx rfl (hb hby at_155) kz) ?_
              show own_Fin p e below G (T133.setTop (mkF m 156 #[.val (.int p0), .val (.int p1), .val (.int p2), .val (.int p3), .val (.int p4), .val (.int t0_11), .val (.int t0_24), .val (.int t0_37), .val (.ref b41), .val (.ref b47), .val (.ref b52), .val (.int (own_pr (own_pr (0 : Int32) t0_11 t0_24 t0_86) t0_11 t0_37 t0_123)), .unset, .unset, .unset, .unset, .unset, .unset, .unset] [(.int (1 : Int32)), (.int p2), (.int (1 : Int32)), (.int t0_37), (.int p1), (.int (0 : Int32)), (.int t0_24), (.int (own_pr (own_pr (0 : Int32) t0_11 t0_24 t0_86) t0_11 t0_37 t0_123)), (.ref b47), (.ref b41)]))
              refine own_to (fun _ kz => XS.goto X133.here hx rfl (pc0 := 156) (pc' := 160) rfl (hb hby at_156) (by decide) (by decide) kz) ?_
              show own_Fin p e below G (T133.setTop (mkF m 160 #[.val (.int p0), .val (.int p1), .val (.int p2), .val (.int p3), .val (.int p4), .val (.int t0_11), .val (.int t0_24), .val (.int t0_37), .val (.ref b41), .val (.ref b47), .val (.ref b52), .val (.int (own_pr (own_pr (0 : Int32) t0_11 t0_24 t0_86) t0_11 t0_37 t0_123)), .unset, .unset, .unset, .unset, .unset, .unset, .unset] [(.int (1 : Int32)), (.int p2), (.int (1 : Int32)), (.int t0_37), (.int p1), (.int (0 : Int32)), (.int t0_24), (.int (own_pr (own_pr (0 : Int32) t0_11 t0_24 t0_86) t0_11 t0_37 t0_123)), (.ref b47), (.ref b41)]))
              exact K160 (1 : Int32) q152f
          by_cases hc115 : (p3 &&& (16 : Int32)) = (0 : Int32)
          · refine own_to (fun _ kz => XS.ifYes X96.here hx rfl (pc0 := 115) (pc' := 122) rfl (hb hby at_115) rfl ((if0 _ _).trans (teq hc115).1) (by decide) (by decide) kz) ?_
            have q115t := q_j86.trans (if_pos hc115)
            show own_Fin p e below G (T96.setTop (mkF m 122 #[.val (.int p0), .val (.int p1), .val (.int p2), .val (.int p3), .val (.int p4), .val (.int t0_11), .val (.int t0_24), .val (.int t0_37), .val (.ref b41), .val (.ref b47), .val (.ref b52), .val (.int (own_pr (0 : Int32) t0_11 t0_24 t0_86)), .unset, .unset, .unset, .unset, .unset, .unset, .unset] [(.int p2), (.int (2 : Int32)), (.int t0_37), (.int p0), (.int (0 : Int32)), (.int t0_11), (.int (own_pr (0 : Int32) t0_11 t0_24 t0_86)), (.ref b47), (.ref b41)]))
            refine own_to (fun _ kz => XS.iconst X96.here hx rfl (hb hby at_122) kz) ?_
            show own_Fin p e below G (T96.setTop (mkF m 123 #[.val (.int p0), .val (.int p1), .val (.int p2), .val (.int p3), .val (.int p4), .val (.int t0_11), .val (.int t0_24), .val (.int t0_37), .val (.ref b41), .val (.ref b47), .val (.ref b52), .val (.int (own_pr (0 : Int32) t0_11 t0_24 t0_86)), .unset, .unset, .unset, .unset, .unset, .unset, .unset] [(.int (0 : Int32)), (.int p2), (.int (2 : Int32)), (.int t0_37), (.int p0), (.int (0 : Int32)), (.int t0_11), (.int (own_pr (0 : Int32) t0_11 t0_24 t0_86)), (.ref b47), (.ref b41)]))
            exact K123 (0 : Int32) q115t
          · refine own_to (fun _ kz => XS.ifNo X96.here hx rfl (hb hby at_115) rfl ((if0 _ _).trans (feq hc115).1) kz) ?_
            have q115f := q_j86.trans (if_neg hc115)
            show own_Fin p e below G (T96.setTop (mkF m 118 #[.val (.int p0), .val (.int p1), .val (.int p2), .val (.int p3), .val (.int p4), .val (.int t0_11), .val (.int t0_24), .val (.int t0_37), .val (.ref b41), .val (.ref b47), .val (.ref b52), .val (.int (own_pr (0 : Int32) t0_11 t0_24 t0_86)), .unset, .unset, .unset, .unset, .unset, .unset, .unset] [(.int p2), (.int (2 : Int32)), (.int t0_37), (.int p0), (.int (0 : Int32)), (.int t0_11), (.int (own_pr (0 : Int32) t0_11 t0_24 t0_86)), (.ref b47), (.ref b41)]))
            refine own_to (fun _ kz => XS.iconst X96.here hx rfl (hb hby at_118) kz) ?_
            show own_Fin p e below G (T96.setTop (mkF m 119 #[.val (.int p0), .val (.int p1), .val (.int p2), .val (.int p3), .val (.int p4), .val (.int t0_11), .val (.int t0_24), .val (.int t0_37), .val (.ref b41), .val (.ref b47), .val (.ref b52), .val (.int (own_pr (0 : Int32) t0_11 t0_24 t0_86)), .unset, .unset, .unset, .unset, .unset, .unset, .unset] [(.int (1 : Int32)), (.int p2), (.int (2 : Int32)), (.int t0_37), (.int p0), (.int (0 : Int32)), (.int t0_11), (.int (own_pr (0 : Int32) t0_11 t0_24 t0_86)), (.ref b47), (.ref b41)]))
            refine own_to (fun _ kz => XS.goto X96.here hx rfl (pc0 := 119) (pc' := 123) rfl (hb hby at_119) (by decide) (by decide) kz) ?_
            show own_Fin p e below G (T96.setTop (mkF m 123 #[.val (.int p0), .val (.int p1), .val (.int p2), .val (.int p3), .val (.int p4), .val (.int t0_11), .val (.int t0_24), .val (.int t0_37), .val (.ref b41), .val (.ref b47), .val (.ref b52), .val (.int (own_pr (0 : Int32) t0_11 t0_24 t0_86)), .unset, .unset, .unset, .unset, .unset, .unset, .unset] [(.int (1 : Int32)), (.int p2), (.int (2 : Int32)), (.int t0_37), (.int p0), (.int (0 : Int32)), (.int t0_11), (.int (own_pr (0 : Int32) t0_11 t0_24 t0_86)), (.ref b47), (.ref b41)]))
            exact K123 (1 : Int32) q115f
        by_cases hc78 : (p3 &&& (8 : Int32)) = (0 : Int32)
        · refine own_to (fun _ kz => XS.ifYes X60.here hx rfl (pc0 := 78) (pc' := 85) rfl (hb hby at_78) rfl ((if0 _ _).trans (teq hc78).1) (by decide) (by decide) kz) ?_
          have q78t := q_j37.trans (if_pos hc78)
          show own_Fin p e below G (T60.setTop (mkF m 85 #[.val (.int p0), .val (.int p1), .val (.int p2), .val (.int p3), .val (.int p4), .val (.int t0_11), .val (.int t0_24), .val (.int t0_37), .val (.ref b41), .val (.ref b47), .val (.ref b52), .unset, .unset, .unset, .unset, .unset, .unset, .unset, .unset] [(.int p1), (.int (2 : Int32)), (.int t0_24), (.int p0), (.int (1 : Int32)), (.int t0_11), (.int (0 : Int32)), (.ref b47), (.ref b41)]))
          refine own_to (fun _ kz => XS.iconst X60.here hx rfl (hb hby at_85) kz) ?_
          show own_Fin p e below G (T60.setTop (mkF m 86 #[.val (.int p0), .val (.int p1), .val (.int p2), .val (.int p3), .val (.int p4), .val (.int t0_11), .val (.int t0_24), .val (.int t0_37), .val (.ref b41), .val (.ref b47), .val (.ref b52), .unset, .unset, .unset, .unset, .unset, .unset, .unset, .unset] [(.int (0 : Int32)), (.int p1), (.int (2 : Int32)), (.int t0_24), (.int p0), (.int (1 : Int32)), (.int t0_11), (.int (0 : Int32)), (.ref b47), (.ref b41)]))
          exact K86 (0 : Int32) q78t
        · refine own_to (fun _ kz => XS.ifNo X60.here hx rfl (hb hby at_78) rfl ((if0 _ _).trans (feq hc78).1) kz) ?_
          have q78f := q_j37.trans (if_neg hc78)
          show own_Fin p e below G (T60.setTop (mkF m 81 #[.val (.int p0), .val (.int p1), .val (.int p2), .val (.int p3), .val (.int p4), .val (.int t0_11), .val (.int t0_24), .val (.int t0_37), .val (.ref b41), .val (.ref b47), .val (.ref b52), .unset, .unset, .unset, .unset, .unset, .unset, .unset, .unset] [(.int p1), (.int (2 : Int32)), (.int t0_24), (.int p0), (.int (1 : Int32)), (.int t0_11), (.int (0 : Int32)), (.ref b47), (.ref b41)]))
          refine own_to (fun _ kz => XS.iconst X60.here hx rfl (hb hby at_81) kz) ?_
          show own_Fin p e below G (T60.setTop (mkF m 82 #[.val (.int p0), .val (.int p1), .val (.int p2), .val (.int p3), .val (.int p4), .val (.int t0_11), .val (.int t0_24), .val (.int t0_37), .val (.ref b41), .val (.ref b47), .val (.ref b52), .unset, .unset, .unset, .unset, .unset, .unset, .unset, .unset] [(.int (1 : Int32)), (.int p1), (.int (2 : Int32)), (.int t0_24), (.int p0), (.int (1 : Int32)), (.int t0_11), (.int (0 : Int32)), (.ref b47), (.ref b41)]))
          refine own_to (fun _ kz => XS.goto X60.here hx rfl (pc0 := 82) (pc' := 86) rfl (hb hby at_82) (by decide) (by decide) kz) ?_
          show own_Fin p e below G (T60.setTop (mkF m 86 #[.val (.int p0), .val (.int p1), .val (.int p2), .val (.int p3), .val (.int p4), .val (.int t0_11), .val (.int t0_24), .val (.int t0_37), .val (.ref b41), .val (.ref b47), .val (.ref b52), .unset, .unset, .unset, .unset, .unset, .unset, .unset, .unset] [(.int (1 : Int32)), (.int p1), (.int (2 : Int32)), (.int t0_24), (.int p0), (.int (1 : Int32)), (.int t0_11), (.int (0 : Int32)), (.ref b47), (.ref b41)]))
          exact K86 (1 : Int32) q78f
      by_cases hc29 : (p3 &&& (4 : Int32)) = (0 : Int32)
      · refine own_to (fun _ kz => XS.ifYes X0.here hx rfl (pc0 := 29) (pc' := 36) rfl (hb hby at_29) rfl ((if0 _ _).trans (teq hc29).1) (by decide) (by decide) kz) ?_
        have q29t := q_j24.trans (if_pos hc29)
        show own_Fin p e below G (s₁.setTop (mkF m 36 #[.val (.int p0), .val (.int p1), .val (.int p2), .val (.int p3), .val (.int p4), .val (.int t0_11), .val (.int t0_24), .unset, .unset, .unset, .unset, .unset, .unset, .unset, .unset, .unset, .unset, .unset, .unset] []))
        refine own_to (fun _ kz => XS.iconst X0.here hx rfl (hb hby at_36) kz) ?_
        show own_Fin p e below G (s₁.setTop (mkF m 37 #[.val (.int p0), .val (.int p1), .val (.int p2), .val (.int p3), .val (.int p4), .val (.int t0_11), .val (.int t0_24), .unset, .unset, .unset, .unset, .unset, .unset, .unset, .unset, .unset, .unset, .unset, .unset] [(.int (0 : Int32))]))
        exact K37 (0 : Int32) q29t
      · refine own_to (fun _ kz => XS.ifNo X0.here hx rfl (hb hby at_29) rfl ((if0 _ _).trans (feq hc29).1) kz) ?_
        have q29f := q_j24.trans (if_neg hc29)
        show own_Fin p e below G (s₁.setTop (mkF m 32 #[.val (.int p0), .val (.int p1), .val (.int p2), .val (.int p3), .val (.int p4), .val (.int t0_11), .val (.int t0_24), .unset, .unset, .unset, .unset, .unset, .unset, .unset, .unset, .unset, .unset, .unset, .unset] []))
        refine own_to (fun _ kz => XS.iconst X0.here hx rfl (hb hby at_32) kz) ?_
        show own_Fin p e below G (s₁.setTop (mkF m 33 #[.val (.int p0), .val (.int p1), .val (.int p2), .val (.int p3), .val (.int p4), .val (.int t0_11), .val (.int t0_24), .unset, .unset, .unset, .unset, .unset, .unset, .unset, .unset, .unset, .unset, .unset, .unset] [(.int (1 : Int32))]))
        refine own_to (fun _ kz => XS.goto X0.here hx rfl (pc0 := 33) (pc' := 37) rfl (hb hby at_33) (by decide) (by decide) kz) ?_
        show own_Fin p e below G (s₁.setTop (mkF m 37 #[.val (.int p0), .val (.int p1), .val (.int p2), .val (.int p3), .val (.int p4), .val (.int t0_11), .val (.int t0_24), .unset, .unset, .unset, .unset, .unset, .unset, .unset, .unset, .unset, .unset, .unset, .unset] [(.int (1 : Int32))]))
        exact K37 (1 : Int32) q29f
    by_cases hc16 : (p3 &&& (2 : Int32)) = (0 : Int32)
    · refine own_to (fun _ kz => XS.ifYes X0.here hx rfl (pc0 := 16) (pc' := 23) rfl (hb hby at_16) rfl ((if0 _ _).trans (teq hc16).1) (by decide) (by decide) kz) ?_
      have q16t := q_j11.trans (if_pos hc16)
      show own_Fin p e below G (s₁.setTop (mkF m 23 #[.val (.int p0), .val (.int p1), .val (.int p2), .val (.int p3), .val (.int p4), .val (.int t0_11), .unset, .unset, .unset, .unset, .unset, .unset, .unset, .unset, .unset, .unset, .unset, .unset, .unset] []))
      refine own_to (fun _ kz => XS.iconst X0.here hx rfl (hb hby at_23) kz) ?_
      show own_Fin p e below G (s₁.setTop (mkF m 24 #[.val (.int p0), .val (.int p1), .val (.int p2), .val (.int p3), .val (.int p4), .val (.int t0_11), .unset, .unset, .unset, .unset, .unset, .unset, .unset, .unset, .unset, .unset, .unset, .unset, .unset] [(.int (0 : Int32))]))
      exact K24 (0 : Int32) q16t
    · refine own_to (fun _ kz => XS.ifNo X0.here hx rfl (hb hby at_16) rfl ((if0 _ _).trans (feq hc16).1) kz) ?_
      have q16f := q_j11.trans (if_neg hc16)
      show own_Fin p e below G (s₁.setTop (mkF m 19 #[.val (.int p0), .val (.int p1), .val (.int p2), .val (.int p3), .val (.int p4), .val (.int t0_11), .unset, .unset, .unset, .unset, .unset, .unset, .unset, .unset, .unset, .unset, .unset, .unset, .unset] []))
      refine own_to (fun _ kz => XS.iconst X0.here hx rfl (hb hby at_19) kz) ?_
      show own_Fin p e below G (s₁.setTop (mkF m 20 #[.val (.int p0), .val (.int p1), .val (.int p2), .val (.int p3), .val (.int p4), .val (.int t0_11), .unset, .unset, .unset, .unset, .unset, .unset, .unset, .unset, .unset, .unset, .unset, .unset, .unset] [(.int (1 : Int32))]))
      refine own_to (fun _ kz => XS.goto X0.here hx rfl (pc0 := 20) (pc' := 24) rfl (hb hby at_20) (by decide) (by decide) kz) ?_
      show own_Fin p e below G (s₁.setTop (mkF m 24 #[.val (.int p0), .val (.int p1), .val (.int p2), .val (.int p3), .val (.int p4), .val (.int t0_11), .unset, .unset, .unset, .unset, .unset, .unset, .unset, .unset, .unset, .unset, .unset, .unset, .unset] [(.int (1 : Int32))]))
      exact K24 (1 : Int32) q16f
  by_cases hc3 : (p3 &&& (1 : Int32)) = (0 : Int32)
  · refine own_to (fun _ kz => XS.ifYes X0.here hx rfl (pc0 := 3) (pc' := 10) rfl (hb hby at_3) rfl ((if0 _ _).trans (teq hc3).1) (by decide) (by decide) kz) ?_
    have q3t := q0.trans (if_pos hc3)
    show own_Fin p e below G (s₁.setTop (mkF m 10 #[.val (.int p0), .val (.int p1), .val (.int p2), .val (.int p3), .val (.int p4), .unset, .unset, .unset, .unset, .unset, .unset, .unset, .unset, .unset, .unset, .unset, .unset, .unset, .unset] []))
    refine own_to (fun _ kz => XS.iconst X0.here hx rfl (hb hby at_10) kz) ?_
    show own_Fin p e below G (s₁.setTop (mkF m 11 #[.val (.int p0), .val (.int p1), .val (.int p2), .val (.int p3), .val (.int p4), .unset, .unset, .unset, .unset, .unset, .unset, .unset, .unset, .unset, .unset, .unset, .unset, .unset, .unset] [(.int (0 : Int32))]))
    exact K11 (0 : Int32) q3t
  · refine own_to (fun _ kz => XS.ifNo X0.here hx rfl (hb hby at_3) rfl ((if0 _ _).trans (feq hc3).1) kz) ?_
    have q3f := q0.trans (if_neg hc3)
    show own_Fin p e below G (s₁.setTop (mkF m 6 #[.val (.int p0), .val (.int p1), .val (.int p2), .val (.int p3), .val (.int p4), .unset, .unset, .unset, .unset, .unset, .unset, .unset, .unset, .unset, .unset, .unset, .unset, .unset, .unset] []))
    refine own_to (fun _ kz => XS.iconst X0.here hx rfl (hb hby at_6) kz) ?_
    show own_Fin p e below G (s₁.setTop (mkF m 7 #[.val (.int p0), .val (.int p1), .val (.int p2), .val (.int p3), .val (.int p4), .unset, .unset, .unset, .unset, .unset, .unset, .unset, .unset, .unset, .unset, .unset, .unset, .unset, .unset] [(.int (1 : Int32))]))
    refine own_to (fun _ kz => XS.goto X0.here hx rfl (pc0 := 7) (pc' := 11) rfl (hb hby at_7) (by decide) (by decide) kz) ?_
    show own_Fin p e below G (s₁.setTop (mkF m 11 #[.val (.int p0), .val (.int p1), .val (.int p2), .val (.int p3), .val (.int p4), .unset, .unset, .unset, .unset, .unset, .unset, .unset, .unset, .unset, .unset, .unset, .unset, .unset, .unset] [(.int (1 : Int32))]))
    exact K11 (1 : Int32) q3f
theorem own_one_val {w : Nat → Int32} {t : Nat → Nat} {p h : Int32} {k : Nat} : own_one (fun i => w (t i)) p h (w k) = fun i => w (own_one t p h k i) := by
  unfold own_one; split
  · rfl
  · funext i; unfold own_upd; split <;> rfl
theorem own_put_val {w : Nat → Int32} {t : Nat → Nat} {p hX hY s : Int32} {x y : Nat} : own_put (fun i => w (t i)) p hX (w x) hY (w y) s = fun i => w (own_put t p hX x hY y s i) := by
  unfold own_put; split
  · rw [own_one_val, own_one_val]
  · rw [own_one_val, own_one_val]
def own_findT (xs : Nat → Int32) (t : Nat → Nat) (v : Int32) : Nat → Nat → Nat
  | 0, _ => 9
  | k + 1, i => if xs i = v then t i else own_findT xs t v k (i + 1)
theorem own_find_val {xs : Nat → Int32} {w : Nat → Int32} {t : Nat → Nat} {v : Int32} (h9 : w 9 = -1) : ∀ k i, own_find xs (fun i => w (t i)) v k i = w (own_findT xs t v k i)
  | 0, _ => h9.symm
  | k + 1, i => by
    unfold own_find own_findT
    split
    · rfl
    · exact own_find_val h9 k (i + 1)
def own_w (n1 n2 n3 : Int32) : Nat → Int32 := fun k => if k = 1 then n1 else if k = 2 then n2 else if k = 3 then n3 else if k = 9 then -1 else 0
def own_gotT (ss xs : Nat → Int32) (t : Nat → Nat) (u v : Int32) : Nat := own_findT xs t v ((ss (u + (1 : Int32)).toNatClampNeg).toInt - (ss u.toNatClampNeg).toInt).toNat (ss u.toNatClampNeg).toNatClampNeg
def own_A (a b s0 : Int32) : Int32 := own_pr (0 : Int32) a b s0
def own_B (a b c s0 s1 : Int32) : Int32 := own_pr (own_pr (0 : Int32) a b s0) a c s1
def own_C (a b c s0 s1 s2 : Int32) : Int32 := own_pr (own_pr (own_pr (0 : Int32) a b s0) a c s1) b c s2
def own_P {α : Type} (z x1 x2 x3 x4 x5 x6 : α) (a b c s0 s1 s2 : Int32) : Nat → α := own_put (own_put (own_put (fun _ => z) (0 : Int32) a x1 b x2 s0) (own_A a b s0) a x3 c x4 s1) (own_B a b c s0 s1) b x5 c x6 s2
theorem own_P_val {w : Nat → Int32} {z x1 x2 x3 x4 x5 x6 : Nat} {a b c s0 s1 s2 : Int32} : own_P (w z) (w x1) (w x2) (w x3) (w x4) (w x5) (w x6) a b c s0 s1 s2 = fun i => w (own_P z x1 x2 x3 x4 x5 x6 a b c s0 s1 s2 i) := by
  unfold own_P
  rw [show (fun _ : Nat => w z) = (fun i => w ((fun _ => z) i)) from rfl, own_put_val, own_put_val, own_put_val]
def own_exT (u v a b c : Int32) : Nat := if u = v then 9 else if (u = 0 ∧ v = 1) ∨ (u = 1 ∧ v = 0) then (if a = 0 then 9 else 1) else if (u = 0 ∧ v = 2) ∨ (u = 2 ∧ v = 0) then (if b = 0 then 9 else 2) else (if c = 0 then 9 else 3)
def own_L (a b c s0 s1 s2 u v : Int32) : Nat := own_gotT (own_ss (own_A a b s0) (own_B a b c s0 s1) (own_C a b c s0 s1 s2)) (own_P (0 : Int32) (1 : Int32) (2 : Int32) (0 : Int32) (2 : Int32) (0 : Int32) (1 : Int32) a b c s0 s1 s2) (own_P 0 1 2 1 3 2 3 a b c s0 s1 s2) u v
set_option maxRecDepth 100000 in
theorem own_deca : ∀ (a b c s0 s1 s2 : Fin 2) (u v : Fin 3), own_L (Int32.ofNat a.1) (Int32.ofNat b.1) (Int32.ofNat c.1) (Int32.ofNat s0.1) (Int32.ofNat s1.1) (Int32.ofNat s2.1) (Int32.ofNat u.1) (Int32.ofNat v.1) = own_exT (Int32.ofNat u.1) (Int32.ofNat v.1) (Int32.ofNat a.1) (Int32.ofNat b.1) (Int32.ofNat c.1) := by decide +kernel
theorem own_k2 {a : Int32} (h : a = 0 ∨ a = 1) : ∃ k : Fin 2, a = Int32.ofNat k.1 := by
  rcases h with rfl | rfl
  · exact ⟨0, rfl⟩
  · exact ⟨1, rfl⟩
theorem own_k3 {a : Int32} (h : 0 ≤ a.toInt ∧ a.toInt ≤ 2) : ∃ k : Fin 3, a = Int32.ofNat k.1 := by
  rcases own_3 h with rfl | rfl | rfl
  · exact ⟨0, rfl⟩
  · exact ⟨1, rfl⟩
  · exact ⟨2, rfl⟩
set_option maxHeartbeats 8000000 in
theorem own_ex (p0 p1 p2 p3 p4 a b c s0 s1 s2 u v g : Int32) (hu : 0 ≤ u.toInt ∧ u.toInt ≤ 2) (hv : 0 ≤ v.toInt ∧ v.toInt ≤ 2) : f0_218 p0 p1 p2 p3 p4 a b c s0 s1 s2 u v g = if g = own_w p0 p1 p2 (own_exT u v a b c) then 1 else 0 := by
  rcases own_3 hu with rfl | rfl | rfl <;> rcases own_3 hv with rfl | rfl | rfl <;> by_cases ha : a = 0 <;> by_cases hb : b = 0 <;> by_cases hc : c = 0 <;> simp [f0_218, f0_270, f0_275, f0_296, f0_301, f0_311, f0_313, f6, f7, own_exT, own_w, ha, hb, hc]
theorem own_207 (p0 p1 p2 p3 p4 a b c s0 s1 s2 u v : Int32) (ha : a = 0 ∨ a = 1) (hb : b = 0 ∨ b = 1) (hc : c = 0 ∨ c = 1) (h0 : s0 = 0 ∨ s0 = 1) (h1 : s1 = 0 ∨ s1 = 1) (h2 : s2 = 0 ∨ s2 = 1) (hu : 0 ≤ u.toInt ∧ u.toInt ≤ 2) (hv : 0 ≤ v.toInt ∧ v.toInt ≤ 2) : f0_207 p0 p1 p2 p3 p4 a b c s0 s1 s2 u v = 1 := by
  unfold f0_207
  rw [own_ex _ _ _ _ _ _ _ _ _ _ _ _ _ _ hu hv]
  rw [if_pos]
  show own_got (own_ss (own_A a b s0) (own_B a b c s0 s1) (own_C a b c s0 s1 s2)) (own_P (0 : Int32) (1 : Int32) (2 : Int32) (0 : Int32) (2 : Int32) (0 : Int32) (1 : Int32) a b c s0 s1 s2) (own_P (own_w p0 p1 p2 0) (own_w p0 p1 p2 1) (own_w p0 p1 p2 2) (own_w p0 p1 p2 1) (own_w p0 p1 p2 3) (own_w p0 p1 p2 2) (own_w p0 p1 p2 3) a b c s0 s1 s2) u v = _
  rw [own_P_val]
  unfold own_got
  rw [own_find_val (show own_w p0 p1 p2 9 = -1 from rfl)]
  have e : own_L a b c s0 s1 s2 u v = own_exT u v a b c := by
    obtain ⟨a, rfl⟩ := own_k2 ha; obtain ⟨b, rfl⟩ := own_k2 hb; obtain ⟨c, rfl⟩ := own_k2 hc
    obtain ⟨s0, rfl⟩ := own_k2 h0; obtain ⟨s1, rfl⟩ := own_k2 h1; obtain ⟨s2, rfl⟩ := own_k2 h2
    obtain ⟨u, rfl⟩ := own_k3 hu; obtain ⟨v, rfl⟩ := own_k3 hv
    exact own_deca a b c s0 s1 s2 u v
  exact congrArg (own_w p0 p1 p2) e
theorem own_160 (p0 p1 p2 p3 p4 a b c s0 s1 s2 : Int32) (ha : a = 0 ∨ a = 1) (hb : b = 0 ∨ b = 1) (hc : c = 0 ∨ c = 1) (h0 : s0 = 0 ∨ s0 = 1) (h1 : s1 = 0 ∨ s1 = 1) (h2 : s2 = 0 ∨ s2 = 1) : f0_160 p0 p1 p2 p3 p4 a b c s0 s1 s2 = 1 :=
  own_207 _ _ _ _ _ _ _ _ _ _ _ _ _ ha hb hc h0 h1 h2 (own_rem3 _) (own_rem3 _)
theorem own_plain (a b c d e : Int32) : f0 a b c d e = 1 := by
  have z : (0 : Int32) = 0 ∨ (0 : Int32) = 1 := Or.inl rfl
  have o : (1 : Int32) = 0 ∨ (1 : Int32) = 1 := Or.inr rfl
  have g4 : ∀ x y w s t, (x = 0 ∨ x = 1) → (y = 0 ∨ y = 1) → (w = 0 ∨ w = 1) → (s = 0 ∨ s = 1) → (t = 0 ∨ t = 1) → f0_123 a b c d e x y w s t = 1 := fun x y w s t hx hy hw hs ht => by
    unfold f0_123; split
    · exact own_160 _ _ _ _ _ _ _ _ _ _ _ hx hy hw hs ht z
    · exact own_160 _ _ _ _ _ _ _ _ _ _ _ hx hy hw hs ht o
  have g3 : ∀ x y w s, (x = 0 ∨ x = 1) → (y = 0 ∨ y = 1) → (w = 0 ∨ w = 1) → (s = 0 ∨ s = 1) → f0_86 a b c d e x y w s = 1 := fun x y w s hx hy hw hs => by
    unfold f0_86; split
    · exact g4 _ _ _ _ _ hx hy hw hs z
    · exact g4 _ _ _ _ _ hx hy hw hs o
  have g2 : ∀ x y w, (x = 0 ∨ x = 1) → (y = 0 ∨ y = 1) → (w = 0 ∨ w = 1) → f0_37 a b c d e x y w = 1 := fun x y w hx hy hw => by
    unfold f0_37; split
    · exact g3 _ _ _ _ hx hy hw z
    · exact g3 _ _ _ _ hx hy hw o
  have g1 : ∀ x y, (x = 0 ∨ x = 1) → (y = 0 ∨ y = 1) → f0_24 a b c d e x y = 1 := fun x y hx hy => by
    unfold f0_24; split
    · exact g2 _ _ _ hx hy z
    · exact g2 _ _ _ hx hy o
  have g0 : ∀ x, (x = 0 ∨ x = 1) → f0_11 a b c d e x = 1 := fun x hx => by
    unfold f0_11; split
    · exact g1 _ _ hx z
    · exact g1 _ _ hx o
  unfold f0; split
  · exact g0 _ z
  · exact g0 _ o
set_option maxRecDepth 65536 in
set_option maxHeartbeats 40000000 in
theorem comes_1 {Post : Tables → Env → Array Value → State → Outcome → State → Prop} (hpost : ∀ tb e args s v u, (limb_1_1.after args s (.returned v) u = true ∧ limb_1_2.after args s (.returned v) u = true ∧ True) → FrameEnd s (.returned v) u (Jvm.fieldLocs frame_1_writes args s ++ Jvm.arrayLocs frame_1_arrays args s ++ Jvm.staticLocs frame_1_statics s) 16 128 → Post tb e args s (.returned v) u) :
    ArmFor flags0 classFile x code maxLocals ret World_1 tables_1 room_1 Calls_1 rest_1 Pre_1 Post := by
  intro l hfl _ _ p e ha hc hk s m args below hf hA hF happ hP
  obtain ⟨hcalls, hrest, hpre⟩ := hP
  obtain ⟨-, -, -, hnamed, -, -, -, hat⟩ := (Spec.applies_iff hf).mp happ
  obtain ⟨hg, hn⟩ := and_e (Cond.before_iff.mp (show (Jvm.Cond.and given_1 narrow_1).before args s = true from hpre))
  obtain ⟨gg1, gg2⟩ := and_e hg
  obtain ⟨gg3, gg4⟩ := and_e gg2
  obtain ⟨gg5, gg6⟩ := and_e gg4
  obtain ⟨gg7, gg8⟩ := and_e gg6
  obtain ⟨gg9, gg10⟩ := and_e gg8
  obtain ⟨w0, w1, w2, w3, w4, rfl⟩ : ∃ w0 w1 w2 w3 w4 : Value, args = #[w0, w1, w2, w3, w4] := by
    have hs : args.size = 5 := by simpa [Cond.value, given_1] using gg1
    obtain ⟨L⟩ := args
    match L, hs with
    | [w0, w1, w2, w3, w4], _ => exact ⟨w0, w1, w2, w3, w4, rfl⟩
  have hw := fun d (hd : d ∈ tables_1) => atoms_spec (ws := Jvm.Cond.code x code maxLocals ret :: tables_1) hat d (List.mem_cons_of_mem _ hd)
  obtain ⟨i0, ei0⟩ := is_v gg3
  obtain rfl : w0 = (.int i0) := Option.some.inj ei0
  obtain ⟨i1, ei1⟩ := is_v gg5
  obtain rfl : w1 = (.int i1) := Option.some.inj ei1
  obtain ⟨i2, ei2⟩ := is_v gg7
  obtain rfl : w2 = (.int i2) := Option.some.inj ei2
  obtain ⟨i3, ei3⟩ := is_v gg9
  obtain rfl : w3 = (.int i3) := Option.some.inj ei3
  obtain ⟨i4, ei4⟩ := is_v gg10
  obtain rfl : w4 = (.int i4) := Option.some.inj ei4
  obtain ⟨n, o, h1, h2, h3, v, L, rfl, ⟨hv, N, -⟩, hq⟩ := rm0 l s _ hw tables_1 i0 i1 i2 i3 i4 s.heap s.heap.size (Nat.le_refl _) p e ha hc hk s m _ below hf ((Spec.applies_iff_loose hf).mp happ).1 ⟨rfl, State.Warmed39.refl s, rfl⟩ trivial
  obtain rfl : v = some (.int 1) := hv.trans (congrArg (fun z => some (Value.int z)) (own_plain i0 i1 i2 i3 i4))
  refine ⟨n, _, h1, h2, h3, hpost _ _ _ _ _ _ ⟨Cond.after_iff.mpr rfl, Cond.after_iff.mpr (eq_i res_at (Term.int_eval (1)) rfl), trivial⟩ ⟨hq.1, hq.2.1, (hq.2.2.sift fun y hy => Or.inr (N y hy)).mono (by decide) (by decide)⟩⟩
theorem main_1_1 : Claimed_1_1 := comes_1 fun _ _ _ _ _ _ h hF => ⟨h.1, hF⟩
theorem main_1_2 : Claimed_1_2 := comes_1 fun _ _ _ _ _ _ h hF => ⟨h.2.1, hF⟩
end Jvm.Pilot.@@N@@
namespace Jvm.Pilot.@@N@@
open Jvm Jvm.ClassFile Sem Op Lib Jvm.Free Jvm.Stand Jvm.Pilot.@@N@@.Jvm.D
/-! MADE BY PROGRAM (witnessworld.py) out of the Statement's table words and the real class files: 10 classes; the members and pool entries that the words name. The judged class is class 1, her method 3. -/
namespace start1
open Jvm.ClassFile
def u (s : String) : CpInfo := .utf8 (stringToUtf16 s)
/-- a pool by its gaps: so many unusable entries, then the entry; so many at the end -/
def gap : Nat → List CpInfo → List CpInfo
  | 0, r => r
  | n + 1, r => .unusable :: gap n r
def poolList (es : List (Nat × CpInfo)) (last : Nat) : List CpInfo := es.foldr (fun e r => gap e.1 (e.2 :: r)) (gap last [])
def pool (es : List (Nat × CpInfo)) (last : Nat) : Array CpInfo := ⟨poolList es last⟩
def fileOf (pool : Array CpInfo) (this : Nat) (attrs : Array Attribute := #[]) (ms : Array MethodInfo := #[]) (fl : Nat := 33) (sup : Nat := 0) (ifs : Array Nat := #[]) (fds : Array FieldInfo := #[]) : ClassFile where
  minorVersion := 0
  majorVersion := 65
  constantPool := pool
  accessFlags := fl
  thisClass := this
  superClass := sup
  interfaces := ifs
  fields := fds
  methods := ms
  attributes := attrs
def plain (name : String) (sup : Option ClassId) : Class where
  name := name
  kind := .ordinary
  loader := none
  accessFlags := 33
  super := sup
  interfaces := #[]
  cf := none
  fields := #[]
  methods := #[]
  instanceTypes := #[]
  staticTypes := #[]
  resolved := #[]
  callSites := []
  init := .initialized
  statics := none
  mirror := none

def pool0 : Array CpInfo := pool [(5, u "<init>"), (0, u "()V"), (1, .class_ 10), (1, u "java/lang/Object")] 113

def k0c0 : Code := { maxStack := 0, maxLocals := 1, code := object_method_1_code, exceptionTable := #[], attributes := #[] }
def k0m0 : Method := { name := "<init>", desc := "()V", sig := { parameters := [], returnType := none }, accessFlags := 1, code := some k0c0 }
/-- java/lang/Object -/
def k0 : Class := { plain "java/lang/Object" none with
  accessFlags := 33
  interfaces := #[]
  cf := some (fileOf pool0 8 #[] #[{ accessFlags := 1, nameIndex := 5, descriptorIndex := 6, attributes := #[] }] 33 0 #[] #[])
  fields := #[]
  methods := #[k0m0]
  instanceTypes := #[]
  staticTypes := #[]
  resolved := Array.replicate 124 none
  statics := none }

def pool1 : Array CpInfo := pool [(2, .class_ 4), (1, u "java/lang/Object"), (0, u "<init>"), (0, u "()V"), (0, .methodref 8 9), (0, .class_ 10), (0, .nameAndType 11 12), (0, u "com/example/lanterns/lanterns/solvers/GraphEdgeBetweenPinLaw"), (0, u "one"), (0, u "([I[IIZII)I"), (0, .methodref 8 14), (0, .nameAndType 15 16), (0, u "put"), (0, u "([I[IIZIIZIIZ)I"), (0, .class_ 18), (0, u "com/example/lanterns/lanterns/solvers/Graph"), (0, .methodref 17 20), (0, .nameAndType 5 21), (0, u "([I[I[I)V"), (0, .integer 2147483647), (0, .methodref 17 24), (0, .nameAndType 25 26), (0, u "edgeBetween"), (0, u "(II)I"), (0, .methodref 28 29), (0, .class_ 30), (0, .nameAndType 31 26), (0, u "java/lang/Math"), (0, u "min"), (0, .methodref 28 33), (0, .nameAndType 34 26), (0, u "max"), (3, u "law"), (0, u "(IIIII)Z")] 4

def k1m0 : Method := { name := "<init>", desc := "()V", sig := { parameters := [], returnType := none }, accessFlags := 2, code := none }
def k1c1 : Code := { maxStack := 3, maxLocals := 6, code := method_2_code, exceptionTable := #[], attributes := #[] }
def k1m1 : Method := { name := "one", desc := "([I[IIZII)I", sig := { parameters := [(.array .int), (.array .int), .int, .boolean, .int, .int], returnType := some .int }, accessFlags := 10, code := some k1c1 }
def k1c2 : Code := { maxStack := 6, maxLocals := 11, code := method_3_code, exceptionTable := #[], attributes := #[] }
def k1m2 : Method := { name := "put", desc := "([I[IIZIIZIIZ)I", sig := { parameters := [(.array .int), (.array .int), .int, .boolean, .int, .int, .boolean, .int, .int, .boolean], returnType := some .int }, accessFlags := 10, code := some k1c2 }
def k1c3 : Code := { maxStack := 11, maxLocals := 19, code := code, exceptionTable := #[], attributes := #[] }
def k1m3 : Method := { name := "law", desc := "(IIIII)Z", sig := { parameters := [.int, .int, .int, .int, .int], returnType := some .boolean }, accessFlags := 9, code := some k1c3 }
/-- com/example/lanterns/lanterns/solvers/GraphEdgeBetweenPinLaw -/
def k1 : Class := { plain "com/example/lanterns/lanterns/solvers/GraphEdgeBetweenPinLaw" (some 0) with
  accessFlags := 49
  interfaces := #[]
  cf := some (fileOf pool1 8 #[] #[{ accessFlags := 2, nameIndex := 5, descriptorIndex := 6, attributes := #[] }, { accessFlags := 10, nameIndex := 11, descriptorIndex := 12, attributes := #[] }, { accessFlags := 10, nameIndex := 15, descriptorIndex := 16, attributes := #[] }, { accessFlags := 9, nameIndex := 38, descriptorIndex := 39, attributes := #[] }] 49 2 #[] #[])
  fields := #[]
  methods := #[k1m0, k1m1, k1m2, k1m3]
  instanceTypes := #[]
  staticTypes := #[]
  resolved := Array.replicate 44 none
  statics := none }

def pool2 : Array CpInfo := pool [(1, .methodref 2 3), (0, .class_ 4), (0, .nameAndType 5 6), (0, u "java/lang/Object"), (0, u "<init>"), (0, u "()V"), (0, .fieldref 8 9), (0, .class_ 10), (0, .nameAndType 11 12), (0, u "com/example/lanterns/lanterns/solvers/Graph"), (0, u "start"), (0, u "[I"), (0, .fieldref 8 14), (0, .nameAndType 15 12), (0, u "neighbours"), (0, .fieldref 8 17), (0, .nameAndType 18 12), (0, u "edges"), (14, u "([I[I[I)V"), (15, u "(II)I"), (3, u "UNMATCHED"), (0, u "I"), (15, u "edgeBetween")] 2

def k2c0 : Code := { maxStack := 2, maxLocals := 4, code := prog_24_method_1_code, exceptionTable := #[], attributes := #[] }
def k2m0 : Method := { name := "<init>", desc := "([I[I[I)V", sig := { parameters := [(.array .int), (.array .int), (.array .int)], returnType := none }, accessFlags := 0, code := some k2c0 }
def k2c1 : Code := { maxStack := 4, maxLocals := 4, code := prog_24_method_12_code, exceptionTable := #[], attributes := #[] }
def k2m1 : Method := { name := "edgeBetween", desc := "(II)I", sig := { parameters := [.int, .int], returnType := some .int }, accessFlags := 0, code := some k2c1 }
/-- com/example/lanterns/lanterns/solvers/Graph -/
def k2 : Class := { plain "com/example/lanterns/lanterns/solvers/Graph" (some 0) with
  accessFlags := 48
  interfaces := #[]
  cf := some (fileOf pool2 8 #[] #[{ accessFlags := 0, nameIndex := 5, descriptorIndex := 33, attributes := #[] }, { accessFlags := 0, nameIndex := 70, descriptorIndex := 49, attributes := #[] }] 48 2 #[] #[{ accessFlags := 26, nameIndex := 53, descriptorIndex := 54, attributes := #[] }, { accessFlags := 18, nameIndex := 11, descriptorIndex := 12, attributes := #[] }, { accessFlags := 18, nameIndex := 15, descriptorIndex := 12, attributes := #[] }, { accessFlags := 18, nameIndex := 18, descriptorIndex := 12, attributes := #[] }])
  fields := #[{ name := "UNMATCHED", type := .int, accessFlags := 26, slot := 0, constantValue := 0 }, { name := "start", type := (.array .int), accessFlags := 18, slot := 0, constantValue := 0 }, { name := "neighbours", type := (.array .int), accessFlags := 18, slot := 1, constantValue := 0 }, { name := "edges", type := (.array .int), accessFlags := 18, slot := 2, constantValue := 0 }]
  methods := #[k2m0, k2m1]
  instanceTypes := #[(.array .int), (.array .int), (.array .int)]
  staticTypes := #[.int]
  resolved := Array.replicate 73 none
  statics := none }

def pool3 : Array CpInfo := pool [(1, .class_ 2), (0, u "java/lang/Math"), (1, .class_ 6), (1, u "java/lang/Object"), (0, u "<init>"), (0, u "()V"), (89, .class_ 100), (1, u "java/lang/Math$RandomNumberGeneratorHolder"), (71, u "negativeZeroFloatBits"), (0, u "J"), (2, u "negativeZeroDoubleBits"), (21, u "max"), (2, u "min"), (43, u "$assertionsDisabled"), (0, u "Z"), (88, u "(II)I"), (2, u "twoToTheDoubleScaleDown"), (0, u "D"), (4, u "twoToTheDoubleScaleUp"), (9, u "E"), (3, u "PI"), (2, u "TAU"), (2, u "DEGREES_TO_RADIANS"), (0, u "RADIANS_TO_DEGREES")] 94

def k3m0 : Method := { name := "<init>", desc := "()V", sig := { parameters := [], returnType := none }, accessFlags := 2, code := none }
def k3c1 : Code := { maxStack := 2, maxLocals := 2, code := jdk_29_method_65_code, exceptionTable := #[], attributes := #[] }
def k3m1 : Method := { name := "max", desc := "(II)I", sig := { parameters := [.int, .int], returnType := some .int }, accessFlags := 9, code := some k3c1 }
def k3c2 : Code := { maxStack := 2, maxLocals := 2, code := jdk_29_method_69_code, exceptionTable := #[], attributes := #[] }
def k3m2 : Method := { name := "min", desc := "(II)I", sig := { parameters := [.int, .int], returnType := some .int }, accessFlags := 9, code := some k3c2 }
/-- java/lang/Math -/
def k3 : Class := { plain "java/lang/Math" (some 0) with
  accessFlags := 49
  interfaces := #[]
  cf := some (fileOf pool3 1 #[.nestMembers #[98]] #[{ accessFlags := 2, nameIndex := 7, descriptorIndex := 8, attributes := #[] }, { accessFlags := 9, nameIndex := 198, descriptorIndex := 335, attributes := #[] }, { accessFlags := 9, nameIndex := 201, descriptorIndex := 335, attributes := #[] }] 49 4 #[] #[{ accessFlags := 25, nameIndex := 354, descriptorIndex := 339, attributes := #[] }, { accessFlags := 25, nameIndex := 358, descriptorIndex := 339, attributes := #[] }, { accessFlags := 25, nameIndex := 361, descriptorIndex := 339, attributes := #[] }, { accessFlags := 26, nameIndex := 364, descriptorIndex := 339, attributes := #[] }, { accessFlags := 26, nameIndex := 365, descriptorIndex := 339, attributes := #[] }, { accessFlags := 26, nameIndex := 172, descriptorIndex := 173, attributes := #[] }, { accessFlags := 26, nameIndex := 176, descriptorIndex := 173, attributes := #[] }, { accessFlags := 8, nameIndex := 344, descriptorIndex := 339, attributes := #[] }, { accessFlags := 8, nameIndex := 338, descriptorIndex := 339, attributes := #[] }, { accessFlags := 4120, nameIndex := 245, descriptorIndex := 246, attributes := #[] }])
  fields := #[{ name := "E", type := .double, accessFlags := 25, slot := 0, constantValue := 0 }, { name := "PI", type := .double, accessFlags := 25, slot := 1, constantValue := 0 }, { name := "TAU", type := .double, accessFlags := 25, slot := 2, constantValue := 0 }, { name := "DEGREES_TO_RADIANS", type := .double, accessFlags := 26, slot := 3, constantValue := 0 }, { name := "RADIANS_TO_DEGREES", type := .double, accessFlags := 26, slot := 4, constantValue := 0 }, { name := "negativeZeroFloatBits", type := .long, accessFlags := 26, slot := 5, constantValue := 0 }, { name := "negativeZeroDoubleBits", type := .long, accessFlags := 26, slot := 6, constantValue := 0 }, { name := "twoToTheDoubleScaleUp", type := .double, accessFlags := 8, slot := 7, constantValue := 0 }, { name := "twoToTheDoubleScaleDown", type := .double, accessFlags := 8, slot := 8, constantValue := 0 }, { name := "$assertionsDisabled", type := .boolean, accessFlags := 4120, slot := 9, constantValue := 0 }]
  methods := #[k3m0, k3m1, k3m2]
  instanceTypes := #[]
  staticTypes := #[.double, .double, .double, .double, .double, .long, .long, .double, .double, .boolean]
  resolved := Array.replicate 460 none
  statics := none }

def pool4 : Array CpInfo := pool [(1, u "java/lang/Cloneable"), (0, .class_ 1), (0, u "java/lang/Object"), (0, .class_ 3)] 3

/-- java/lang/Cloneable -/
def k4 : Class := { plain "java/lang/Cloneable" (some 0) with
  accessFlags := 1537
  interfaces := #[]
  cf := some (fileOf pool4 2 #[] #[] 1537 4 #[] #[])
  fields := #[]
  methods := #[]
  instanceTypes := #[]
  staticTypes := #[]
  resolved := Array.replicate 8 none
  statics := none }

def pool5 : Array CpInfo := pool [(1, u "java/io/Serializable"), (0, .class_ 1), (0, u "java/lang/Object"), (0, .class_ 3)] 3

/-- java/io/Serializable -/
def k5 : Class := { plain "java/io/Serializable" (some 0) with
  accessFlags := 1537
  interfaces := #[]
  cf := some (fileOf pool5 2 #[] #[] 1537 4 #[] #[])
  fields := #[]
  methods := #[]
  instanceTypes := #[]
  staticTypes := #[]
  resolved := Array.replicate 8 none
  statics := none }

/-- the primitive byte -/
def k6 : Class := { plain "byte" none with kind := .primitive 'B', accessFlags := 0x411 }
/-- [B -/
def k7 : Class := { plain "[B" (some 0) with kind := .array 6 .byte, interfaces := #[4, 5], accessFlags := 1041 }

/-- the primitive int -/
def k8 : Class := { plain "int" none with kind := .primitive 'I', accessFlags := 0x411 }
/-- [I -/
def k9 : Class := { plain "[I" (some 0) with kind := .array 8 .int, interfaces := #[4, 5], accessFlags := 1041 }

def heap : Heap := #[]
def classes : Array Class := #[k0, k1, k2, k3, k4, k5, k6, k7, k8, k9]
def interned : List (Array UInt16 × Addr) := []
def slotsUsed : Nat := 0
def theMethod : MethodId := ⟨1, 3⟩
def args0 : Array Value := #[.int 5, .int 6, .int 3, .int 4, .int 3]
def aboutOver (below : List Frame) : State where
  vm := { classes := classes, interned := interned.toArray }
  heap := heap
  slotsUsed := slotsUsed
  threads := #[{ frames := .invoking theMethod args0 :: below }]
def below0 : List Frame := [.native { method := ⟨0, 0⟩, args := #[] }]
def about1 : State := aboutOver below0
def p0 : Program := .bare "" "" ""
def e0 : Env := launch0.env 0 0 0
theorem w_frames : about1.frames = Frame.invoking theMethod args0 :: below0 := rfl
set_option maxRecDepth 65536 in
theorem w_args : argsFit about1.vm theMethod args0 = true := by decide +kernel
set_option maxRecDepth 65536 in
theorem w_heap : heapFits about1 = true := by decide +kernel
set_option maxRecDepth 65536 in
theorem w_runnable : about1.curStatus? = some .runnable := by decide +kernel
set_option maxRecDepth 65536 in
theorem w_alone : about1.alone = true := by decide +kernel
set_option maxRecDepth 65536 in
theorem w_named : about1.methodNamed? x = some theMethod := by decide +kernel
set_option maxRecDepth 65536 in
theorem w_hears : about1.hears theMethod below0 = true := by decide +kernel
set_option maxRecDepth 65536 in
theorem w_ripe : about1.ripe theMethod args0 below0 = true := by decide +kernel
theorem w_running : about1.status = .running := rfl
set_option maxRecDepth 65536 in
theorem w_room : about1.hasRoom e0.platform room_1 = true :=
  launch0.hasRoom_least _ room_1 (by decide +kernel) (by decide +kernel) (by decide +kernel) (by decide +kernel) (by decide +kernel) (by decide +kernel)
theorem allAtoms_all (ts : List Jvm.Cond) (a : Array Jvm.Value) (st : Jvm.State) : (allAtoms ts).before a st = ts.all (fun c => c.before a st) := by
  induction ts with
  | nil => rfl
  | cons c t ih =>
    show (Jvm.Cond.and c (allAtoms t)).before a st = _
    rw [Jvm.Cond.before_and, ih, List.all_cons]
def words1 : List Jvm.Cond := Jvm.Cond.code x code maxLocals ret :: tables_1
/-- a 'code' word, met by the world's own term for the bytes: nothing is compared byte by byte -/
theorem code_word {y : MethodName} {bytes : ByteArray} {mx : Nat} {rt : Option FieldType} {a : Array Value} {s : State} {m : MethodId} {meth : Method} {c : Code} (h1 : s.methodNamed? y = some m) (h2 : s.vm.method? m = some meth) (h3 : meth.code = some c) (h4 : c.code = bytes)
    (h5 : (c.maxLocals == mx && c.exceptionTable.isEmpty && decide (c.maxStack ≤ mostOperands) && decide (meth.sig.returnType = rt) && !meth.locks && decide (parseMethodDescriptor y.desc = some meth.sig)) = true) : (Jvm.Cond.code y bytes mx rt).before a s = true := by
  simp only [Bool.and_eq_true, beq_iff_eq, Bool.not_eq_true', decide_eq_true_eq] at h5
  obtain ⟨⟨⟨⟨⟨g1, g2⟩, g3⟩, g4⟩, g5⟩, g6⟩ := h5
  simp [Cond.before, Cond.holds, Cond.value, h1, h2, h3, h4, g1, g2, g3, g4, g5, g6]
def isCode : Jvm.Cond → Bool
  | .code _ _ _ _ => true
  | _ => false
theorem all_split {L : List Jvm.Cond} {P : Jvm.Cond → Bool} (h1 : L.all (fun c => isCode c || P c) = true) (h2 : ∀ c ∈ L.filter isCode, P c = true) : L.all P = true := by
  refine List.all_eq_true.mpr fun c hc => ?_
  have h := List.all_eq_true.mp h1 c hc
  rcases Bool.eq_false_or_eq_true (isCode c) with hi | hi
  · exact h2 c (List.mem_filter.mpr ⟨hc, hi⟩)
  · simpa [hi] using h
set_option maxRecDepth 65536 in
theorem w_c0 : (Jvm.Cond.code x code maxLocals ret).before args0 about1 = true := code_word (m := ⟨1, 3⟩) (meth := k1m3) (c := k1c3) (by decide +kernel) rfl rfl rfl (by decide +kernel)
set_option maxRecDepth 65536 in
theorem w_c1 : (Jvm.Cond.code ({ cls := "com/example/lanterns/lanterns/solvers/GraphEdgeBetweenPinLaw", name := "put", desc := "([I[IIZIIZIIZ)I" } : Jvm.MethodName) method_3_code (11 : Nat) (Option.some Jvm.ClassFile.FieldType.int)).before args0 about1 = true := code_word (m := ⟨1, 2⟩) (meth := k1m2) (c := k1c2) (by decide +kernel) rfl rfl rfl (by decide +kernel)
set_option maxRecDepth 65536 in
theorem w_c2 : (Jvm.Cond.code ({ cls := "com/example/lanterns/lanterns/solvers/GraphEdgeBetweenPinLaw", name := "one", desc := "([I[IIZII)I" } : Jvm.MethodName) method_2_code (6 : Nat) (Option.some Jvm.ClassFile.FieldType.int)).before args0 about1 = true := code_word (m := ⟨1, 1⟩) (meth := k1m1) (c := k1c1) (by decide +kernel) rfl rfl rfl (by decide +kernel)
set_option maxRecDepth 65536 in
theorem w_c3 : (Jvm.Cond.code ({ cls := "com/example/lanterns/lanterns/solvers/Graph", name := "<init>", desc := "([I[I[I)V" } : Jvm.MethodName) prog_24_method_1_code (4 : Nat) (Option.none : Option Jvm.ClassFile.FieldType)).before args0 about1 = true := code_word (m := ⟨2, 0⟩) (meth := k2m0) (c := k2c0) (by decide +kernel) rfl rfl rfl (by decide +kernel)
set_option maxRecDepth 65536 in
theorem w_c4 : (Jvm.Cond.code ({ cls := "java/lang/Object", name := "<init>", desc := "()V" } : Jvm.MethodName) object_method_1_code (1 : Nat) (Option.none : Option Jvm.ClassFile.FieldType)).before args0 about1 = true := code_word (m := ⟨0, 0⟩) (meth := k0m0) (c := k0c0) (by decide +kernel) rfl rfl rfl (by decide +kernel)
set_option maxRecDepth 65536 in
theorem w_c5 : (Jvm.Cond.code ({ cls := "com/example/lanterns/lanterns/solvers/Graph", name := "edgeBetween", desc := "(II)I" } : Jvm.MethodName) prog_24_method_12_code (4 : Nat) (Option.some Jvm.ClassFile.FieldType.int)).before args0 about1 = true := code_word (m := ⟨2, 1⟩) (meth := k2m1) (c := k2c1) (by decide +kernel) rfl rfl rfl (by decide +kernel)
set_option maxRecDepth 65536 in
theorem w_c6 : (Jvm.Cond.code ({ cls := "java/lang/Math", name := "min", desc := "(II)I" } : Jvm.MethodName) jdk_29_method_69_code (2 : Nat) (Option.some Jvm.ClassFile.FieldType.int)).before args0 about1 = true := code_word (m := ⟨3, 2⟩) (meth := k3m2) (c := k3c2) (by decide +kernel) rfl rfl rfl (by decide +kernel)
set_option maxRecDepth 65536 in
theorem w_c7 : (Jvm.Cond.code ({ cls := "java/lang/Math", name := "max", desc := "(II)I" } : Jvm.MethodName) jdk_29_method_65_code (2 : Nat) (Option.some Jvm.ClassFile.FieldType.int)).before args0 about1 = true := code_word (m := ⟨3, 1⟩) (meth := k3m1) (c := k3c1) (by decide +kernel) rfl rfl rfl (by decide +kernel)
def codes1 : List Jvm.Cond := [Jvm.Cond.code x code maxLocals ret, Jvm.Cond.code ({ cls := "com/example/lanterns/lanterns/solvers/GraphEdgeBetweenPinLaw", name := "put", desc := "([I[IIZIIZIIZ)I" } : Jvm.MethodName) method_3_code (11 : Nat) (Option.some Jvm.ClassFile.FieldType.int), Jvm.Cond.code ({ cls := "com/example/lanterns/lanterns/solvers/GraphEdgeBetweenPinLaw", name := "one", desc := "([I[IIZII)I" } : Jvm.MethodName) method_2_code (6 : Nat) (Option.some Jvm.ClassFile.FieldType.int), Jvm.Cond.code ({ cls := "com/example/lanterns/lanterns/solvers/Graph", name := "<init>", desc := "([I[I[I)V" } : Jvm.MethodName) prog_24_method_1_code (4 : Nat) (Option.none : Option Jvm.ClassFile.FieldType), Jvm.Cond.code ({ cls := "java/lang/Object", name := "<init>", desc := "()V" } : Jvm.MethodName) object_method_1_code (1 : Nat) (Option.none : Option Jvm.ClassFile.FieldType), Jvm.Cond.code ({ cls := "com/example/lanterns/lanterns/solvers/Graph", name := "edgeBetween", desc := "(II)I" } : Jvm.MethodName) prog_24_method_12_code (4 : Nat) (Option.some Jvm.ClassFile.FieldType.int), Jvm.Cond.code ({ cls := "java/lang/Math", name := "min", desc := "(II)I" } : Jvm.MethodName) jdk_29_method_69_code (2 : Nat) (Option.some Jvm.ClassFile.FieldType.int), Jvm.Cond.code ({ cls := "java/lang/Math", name := "max", desc := "(II)I" } : Jvm.MethodName) jdk_29_method_65_code (2 : Nat) (Option.some Jvm.ClassFile.FieldType.int)]
set_option maxRecDepth 65536 in
theorem codes_eq : words1.filter isCode = codes1 := rfl
theorem w_codes : ∀ c ∈ words1.filter isCode, c.before args0 about1 = true := by
  rw [codes_eq]
  intro c hc
  simp only [codes1, List.mem_cons, List.not_mem_nil, or_false] at hc
  rcases hc with rfl | rfl | rfl | rfl | rfl | rfl | rfl | rfl
  · exact w_c0
  · exact w_c1
  · exact w_c2
  · exact w_c3
  · exact w_c4
  · exact w_c5
  · exact w_c6
  · exact w_c7
set_option maxRecDepth 65536 in
theorem w_t1 : (words1.take 24).all (fun c => isCode c || c.before args0 about1) = true := by decide +kernel
set_option maxRecDepth 65536 in
theorem w_t2 : (words1.drop 24).all (fun c => isCode c || c.before args0 about1) = true := by decide +kernel
theorem w_tables : (allAtoms (Jvm.Cond.code x code maxLocals ret :: tables_1)).before args0 about1 = true := by
  rw [allAtoms_all]
  show words1.all (fun c => c.before args0 about1) = true
  refine all_split ?_ w_codes
  rw [← List.take_append_drop 24 words1, List.all_append, w_t1, w_t2]
  rfl
set_option maxRecDepth 65536 in
theorem w_case : (Jvm.Cond.and given_1 narrow_1).before args0 about1 = true := by decide +kernel
theorem w_applies : (headSpec (Jvm.Cond.code x code maxLocals ret :: tables_1) room_1).applies x e0.platform about1 = true :=
  (Spec.applies_iff w_frames).mpr ⟨w_running, w_runnable, w_alone, w_named, w_hears, w_ripe, w_room, w_tables⟩
theorem atStart : AtStart classFile x code maxLocals ret World_1 tables_1 room_1 Calls_1 rest_1 Pre_1 launch0 p0 e0 about1 theMethod args0 below0 :=
  ⟨lists_1, trivial, launch0.admits_env _ _ _, launch0.least_env, fairChoices_fair.cas, fairChoices_fair.clock, w_frames, w_args, w_heap, w_applies, trivial, trivial, w_case⟩
end start1
theorem witness_1 : WitnessClaimed_1 := ⟨start1.p0, start1.e0, start1.about1, start1.theMethod, start1.args0, start1.below0, start1.atStart⟩
end Jvm.Pilot.@@N@@
