import JvmDerived
import JvmDerived.Pilot.@@N@@Statement
import JvmDerived.Pilot.@@N@@Code
set_option linter.unusedVariables false
set_option linter.unusedSimpArgs false

namespace Jvm.Pilot.@@N@@
open Jvm Jvm.ClassFile Sem Op Lib Jvm.Free Jvm.Stand Jvm.LawKit Jvm.RoadKit Bundle Jvm.Pilot.@@N@@.Jvm.D

section OwnKit
variable {p : Program} {l : Launch} {e : Env} {R : Room} {s : State} {m : MethodId} {args : Array Value} {below : List Frame} {meth : Method} {c : Code} {T : State} {locs : List Loc} {cells slots : Nat} {G : Outcome → State → Prop} {Q : Option Value → Heap → List Loc → Prop} {C S : Nat} {Z : State} {h h' : Heap}
/-- from the state t the invocation comes to an end of which G holds -/
def own_Fin (p : Program) (e : Env) (below : List Frame) (G : Outcome → State → Prop) (t : State) : Prop := ∃ s₂ o, Steps p.tables e below t s₂ ∧ s₂.status = .running ∧ Ended s₂ below o ∧ G o s₂
def own_G (s : State) (Q : Option Value → Heap → List Loc → Prop) (C S : Nat) (o : Outcome) (U' : State) : Prop := ∃ v L, o = .returned v ∧ Q v U'.heap L ∧ FrameEnd s o U' L C S
theorem own_to {t u : State} (h : ∀ z, Steps p.tables e below u z → Steps p.tables e below t z) (k : own_Fin p e below G u) : own_Fin p e below G t := by
  obtain ⟨a, b, c, d⟩ := k; exact ⟨a, b, h _ c, d⟩
theorem own_via {t u : State} (h : Steps p.tables e below t u) (k : own_Fin p e below G u) : own_Fin p e below G t := own_to (fun _ kz => h.trans kz) k
theorem own_retW (X : Stand p l e R s m args below meth c T locs cells slots) (hx : p.tables.exec = Jvm.exec) (hlk : meth.locks = false) (hG : G = own_G s Q C S) {f : JFrame} {w : Option Value} (hv : meth.sig.returnType = none → w = none)
    (st : ∀ fs, (∀ (f : JFrame) (acts : List Action), f.method = m → f.locked = none → f.entered = [] → (doReturn e (T.setTop f) acts w).1 = T.setFrames fs) → Steps p.tables e below (T.setTop f) (T.setFrames fs))
    (hc : cells ≤ C) (hs : slots ≤ S) (hQ : Q w T.heap locs) : own_Fin p e below G (T.setTop f) := by
  subst hG
  obtain ⟨fs, hr, hrun, hended, hW, hsame⟩ := X.leave (v := w) hv hlk
  exact ⟨_, _, st fs hr, hrun, hended, _, _, rfl, hQ, ⟨_, rfl⟩, hW, hsame.mono hc hs⟩
theorem own_retI (X : Stand p l e R s m args below meth c T locs cells slots) (hx : p.tables.exec = Jvm.exec) (hlk : meth.locks = false) (hG : G = own_G s Q C S) {pc : Nat} {Ls : Array Slot} {z : Int32} {rest : List Value} (hret : meth.sig.returnType = some .int) (hd : decode c.code pc = .ok (.ireturn, 1))
    (hc : cells ≤ C) (hs : slots ≤ S) (hQ : Q (some (.int z)) T.heap locs) : own_Fin p e below G (T.setTop (mkF m pc Ls (.int z :: rest))) :=
  own_retW X hx hlk hG (w := some (.int z)) (fun h => by rw [hret] at h; cases h) (fun fs hr => retOut X hx hret rfl (Or.inl ⟨rfl, Or.inl rfl, z, rfl⟩) hd hr) hc hs hQ
theorem own_retJ (X : Stand p l e R s m args below meth c T locs cells slots) (hx : p.tables.exec = Jvm.exec) (hlk : meth.locks = false) (hG : G = own_G s Q C S) {pc : Nat} {Ls : Array Slot} {z : Int64} {rest : List Value} (hret : meth.sig.returnType = some .long) (hd : decode c.code pc = .ok (.lreturn, 1))
    (hc : cells ≤ C) (hs : slots ≤ S) (hQ : Q (some (.long z)) T.heap locs) : own_Fin p e below G (T.setTop (mkF m pc Ls (.long z :: rest))) :=
  own_retW X hx hlk hG (w := some (.long z)) (fun h => by rw [hret] at h; cases h) (fun fs hr => retOut X hx hret rfl (Or.inr (Or.inl ⟨rfl, rfl, z, rfl⟩)) hd hr) hc hs hQ
theorem own_retA (X : Stand p l e R s m args below meth c T locs cells slots) (hx : p.tables.exec = Jvm.exec) (hlk : meth.locks = false) (hG : G = own_G s Q C S) {pc : Nat} {Ls : Array Slot} {w : Value} {rest : List Value} {t : FieldType} (hret : meth.sig.returnType = some t) (ht : t.isReference = true) (hw : w.isRef = true) (hd : decode c.code pc = .ok (.areturn, 1))
    (hc : cells ≤ C) (hs : slots ≤ S) (hQ : Q (some w) T.heap locs) : own_Fin p e below G (T.setTop (mkF m pc Ls (w :: rest))) :=
  own_retW X hx hlk hG (w := some w) (fun h => by rw [hret] at h; cases h) (fun fs hr => retOut X hx hret (by rcases ref_cases hw with rfl | ⟨a, rfl⟩ <;> cases t <;> first | rfl | (simp [FieldType.isReference] at ht)) (Or.inr (Or.inr (Or.inr (Or.inr ⟨rfl, ht, hw⟩)))) hd hr) hc hs hQ
theorem own_retN (X : Stand p l e R s m args below meth c T locs cells slots) (hx : p.tables.exec = Jvm.exec) (hlk : meth.locks = false) (hG : G = own_G s Q C S) {pc : Nat} {Ls : Array Slot} {z : Int32} {rest : List Value} {t : FieldType} (hret : meth.sig.returnType = some t) (ht : t = .boolean ∨ t = .byte ∨ t = .char ∨ t = .short) (hd : decode c.code pc = .ok (.ireturn, 1))
    (hc : cells ≤ C) (hs : slots ≤ S) (hQ : Q (some (.int (nar t z))) T.heap locs) : own_Fin p e below G (T.setTop (mkF m pc Ls (.int z :: rest))) :=
  own_retW X hx hlk hG (w := some (.int (nar t z))) (fun h => by rw [hret] at h; cases h) (fun fs hr => retN X hx hret ht hd hr) hc hs hQ
theorem own_retV (X : Stand p l e R s m args below meth c T locs cells slots) (hx : p.tables.exec = Jvm.exec) (hlk : meth.locks = false) (hG : G = own_G s Q C S) {pc : Nat} {Ls : Array Slot} (hret : meth.sig.returnType = none) (hd : decode c.code pc = .ok (.return_, 1))
    (hc : cells ≤ C) (hs : slots ≤ S) (hQ : Q none T.heap locs) : own_Fin p e below G (T.setTop (mkF m pc Ls [])) :=
  own_retW X hx hlk hG (w := none) (fun _ => rfl) (fun fs hr => X.returnOut hx hret hd hr) hc hs hQ
theorem own_lrem {g : JFrame} {target : State} (X : Stand p l e R s m args below meth c T locs cells slots) (hx : p.tables.exec = Jvm.exec) (hg : g.method = m) {x y : Int64} {rest : List Value} (hd : decode c.code g.pc = .ok (.lrem, 1)) (hs : g.stack = .long y :: .long x :: rest) (hy : y ≠ 0)
    (hr : Steps p.tables e below (T.setTop { g with pc := g.pc + 1, stack := .long (x % y) :: rest }) target) : Steps p.tables e below (T.setTop g) target := by
  have q : x - x / y * y = x % y := lrem_mod x y
  exact XS.lrem X.here hx hg hd hs hy (by rw [q]; exact hr)
def own_Pair (a b : Slot) : Prop := (a = .unset ∧ b = .unset) ∨ ∃ x, a = .val (.long x) ∧ b = .second
/-- the array at a has n places; place i holds mk (f i) -/
def own_AV {α : Type} (mk : α → Value) (Z : State) (h : Heap) (a : Addr) (ty : FieldType) (n : Nat) (f : Nat → α) : Prop := n < 2 ^ 31 ∧ ∃ c : Cell, Arr Z h a c ty ∧ c.slots.size = n ∧ ∀ i, i < n → c.slots[i]? = some (mk (f i))
def own_upd {α : Type} (f : Nat → α) (k : Nat) (v : α) : Nat → α := fun i => if i = k then v else f i
section
variable {α : Type} {mk : α → Value} {a b : Addr} {ty : FieldType} {n : Nat} {f f' : Nat → α} {ws : List Addr} {sl : Nat} {v : Value}
theorem own_AV.lt (F : own_AV mk Z h a ty n f) : a < h.size := by obtain ⟨_, c, A, -⟩ := F; exact A.lt
theorem own_AV.ext (F : own_AV mk Z h a ty n f) (E : Ext h h') : own_AV mk Z h' a ty n f := by obtain ⟨q, c, A, r⟩ := F; exact ⟨q, c, A.ext E, r⟩
theorem own_AV.other (F : own_AV mk Z h b ty n f) (W : Wr h h' a sl v) (q : b ≠ a) : own_AV mk Z h' b ty n f := by obtain ⟨q', c, A, r⟩ := F; exact ⟨q', c, A.other W q, r⟩
theorem own_AV.keep (F : own_AV mk Z h a ty n f) (K : Keep h h' ws) (q : a ∉ ws) : own_AV mk Z h' a ty n f := by obtain ⟨q', c, A, r⟩ := F; exact ⟨q', c, ⟨K.2.1 a c A.1 q, A.2⟩, r⟩
theorem own_AV.congr (F : own_AV mk Z h a ty n f) (q : ∀ i, i < n → f i = f' i) : own_AV mk Z h a ty n f' := by obtain ⟨q', c, A, r, s⟩ := F; exact ⟨q', c, A, r, fun i hi => by rw [s i hi, q i hi]⟩
theorem own_AV.new {k : ClassId} {z : Int32} (A : Arr Z h a (newA k ty z) ty) (q : ¬ z < 0) (hn : z.toNatClampNeg = n) (hf : ∀ i : Nat, defaultValue ty = mk (f i)) : own_AV mk Z h a ty n f := by
  refine ⟨hn ▸ (back32 q).2, _, A, (sz_new _ _ _).trans hn, fun i hi => ?_⟩
  rw [← hf i]; simp [newA, hn, hi]
theorem own_updr {P : α → Prop} {k : Nat} {w : α} (hv : P w) (hf : ∀ i, P (f i)) : ∀ i, P (own_upd f k w i) := fun i => by
  unfold own_upd; split
  · exact hv
  · exact hf i
theorem own_in {c : Cell} {j : Int32} {k : Nat} (S : c.slots.size = n) (hj : ¬ j < 0) (hk : j.toNatClampNeg = k) (hlt : k < n) : ¬ (j < 0 ∨ c.slots.size ≤ j.toNatClampNeg) := fun q => q.elim hj fun r => by omega
theorem own_AV.set {c : Cell} {j : Int32} {k : Nat} {w : α} (nn : n < 2 ^ 31) (A : Arr Z h a c ty) (S : c.slots.size = n) (H : ∀ i, i < n → c.slots[i]? = some (mk (f i))) (W : Wr h h' a j.toNatClampNeg (mk w)) (hk : j.toNatClampNeg = k) : own_AV mk Z h' a ty n (own_upd f k w) := by
  subst hk
  refine ⟨nn, _, A.same W, by rw [sz_set]; exact S, fun i hi => ?_⟩
  show (c.setSlot j.toNatClampNeg (mk w)).slots[i]? = some (mk (if i = j.toNatClampNeg then w else f i))
  simp only [Cell.setSlot]
  by_cases q : i = j.toNatClampNeg
  · subst q; rw [if_pos rfl]; simp [S, hi]
  · rw [if_neg q, Array.getElem?_setIfInBounds_ne (fun r => q r.symm)]; exact H i hi
theorem own_iaload (X : Stand p l e R s m args below meth c T locs cells slots) (hx : p.tables.exec = Jvm.exec) (hZ : Z.Warmed39 s.vm) (eT : T.heap = h) {f : Nat → Int32} (F : own_AV Value.int Z h a .int n f) {j : Int32} {k : Nat} (hj : ¬ j < 0) (hk : j.toNatClampNeg = k) (hlt : k < n)
    {g : JFrame} (hg : g.method = m) {rest : List Value} (hs : g.stack = .int j :: .ref a :: rest) (hd : decode c.code g.pc = .ok (.iaload, 1)) {target : State} (hr : Steps p.tables e below (T.setTop { g with pc := g.pc + 1, stack := .int (f k) :: rest }) target) : Steps p.tables e below (T.setTop g) target := by
  obtain ⟨_, cl, A, S, H⟩ := F
  exact X.iaload hx (j := j) (v := .int (f k)) (by rw [eT]; exact A.1) (State.isArrayOf_alike hZ.alike A.2.1) A.2.2 (own_in S hj hk hlt) (by rw [hk]; exact H k hlt) hg hs hd _ hr
theorem own_laload (X : Stand p l e R s m args below meth c T locs cells slots) (hx : p.tables.exec = Jvm.exec) (hZ : Z.Warmed39 s.vm) (eT : T.heap = h) {f : Nat → Int64} (F : own_AV Value.long Z h a .long n f) {j : Int32} {k : Nat} (hj : ¬ j < 0) (hk : j.toNatClampNeg = k) (hlt : k < n)
    {g : JFrame} (hg : g.method = m) {rest : List Value} (hs : g.stack = .int j :: .ref a :: rest) (hd : decode c.code g.pc = .ok (.laload, 1)) {target : State} (hr : Steps p.tables e below (T.setTop { g with pc := g.pc + 1, stack := .long (f k) :: rest }) target) : Steps p.tables e below (T.setTop g) target := by
  obtain ⟨_, cl, A, S, H⟩ := F
  exact X.laload hx (j := j) (v := .long (f k)) (by rw [eT]; exact A.1) (State.isArrayOf_alike hZ.alike A.2.1) A.2.2 (own_in S hj hk hlt) (by rw [hk]; exact H k hlt) hg hs hd _ hr
theorem own_baload (X : Stand p l e R s m args below meth c T locs cells slots) (hx : p.tables.exec = Jvm.exec) (hZ : Z.Warmed39 s.vm) (eT : T.heap = h) {f : Nat → Int32} (F : own_AV Value.int Z h a .byte n f) {j : Int32} {k : Nat} (hj : ¬ j < 0) (hk : j.toNatClampNeg = k) (hlt : k < n)
    {g : JFrame} (hg : g.method = m) {rest : List Value} (hs : g.stack = .int j :: .ref a :: rest) (hd : decode c.code g.pc = .ok (.baload, 1)) {target : State} (hr : Steps p.tables e below (T.setTop { g with pc := g.pc + 1, stack := .int (f k) :: rest }) target) : Steps p.tables e below (T.setTop g) target := by
  obtain ⟨_, cl, A, S, H⟩ := F
  exact X.baloadBytes hx (j := j) (v := .int (f k)) (by rw [eT]; exact A.1) (State.isArrayOf_alike hZ.alike A.2.1) A.2.2 (own_in S hj hk hlt) (by rw [hk]; exact H k hlt) hg hs hd _ hr
theorem own_cloneI (X : Stand p l e R s m args below meth c T locs cells slots) (hx : p.tables.exec = Jvm.exec) (hZ : Z.Warmed39 s.vm) {a0 : Array Value} {own ad : String} {index : Nat} (hown : s.vm.findClass own = some m.cls)
    (w1 : (Cond.methodLink own index ⟨ad, "clone", "()Ljava/lang/Object;"⟩).before a0 Z = true) (w2 : (Cond.sameMethod ad "java/lang/Object" "clone" "()Ljava/lang/Object;").before a0 Z = true) (w3 : (Cond.native ⟨"java/lang/Object", "clone", "()Ljava/lang/Object;"⟩).before a0 Z = true)
    (w4 : (Cond.instanceMethod ⟨"java/lang/Object", "clone", "()Ljava/lang/Object;"⟩).before a0 Z = true) (w5 : (Cond.selects ad ⟨ad, "clone", "()Ljava/lang/Object;"⟩ ⟨"java/lang/Object", "clone", "()Ljava/lang/Object;"⟩).before a0 Z = true) (w6 : (Cond.castable ad "java/lang/Cloneable").before a0 Z = true)
    (eT : T.heap = h) {f : Nat → Int32} (F : own_AV Value.int Z h a .int n f) (E : Exa Z h a ad) {g : JFrame} (hg : g.method = m) (hsize : g.locals.size = c.maxLocals) {rest : List Value} (hs : g.stack = .ref a :: rest) (hd : decode c.code g.pc = .ok (.invokevirtual index, 3))
    (hf : 1 ≤ R.frames) {W cap : Nat} (hW : 2 * g.monitorRoom + (rest.map fun v => v.category).sum ≤ W) (hl : W + 14 ≤ R.locals) (hcap : n ≤ cap) (hc : cells + 1 ≤ R.cells) (hsl : slots + cap ≤ R.slots) :
    ∃ T' h', Stand p l e R s m args below meth c T' locs (cells + 1) (slots + cap) ∧ T'.heap = h' ∧ Ext h h' ∧ own_AV Value.int Z h' h.size .int n f ∧ Exa Z h' h.size ad ∧
      ∀ target, Steps p.tables e below (T'.setTop { g with pc := g.pc + 3, stack := .ref h.size :: rest }) target → Steps p.tables e below (T.setTop g) target := by
  obtain ⟨nn, cl, A, S, H⟩ := F
  have FC : FitC Z cl := fitC_of A fun i hi v hv => by rw [H i (S ▸ hi)] at hv; cases hv; rfl
  obtain ⟨T', h', X', e', ex, A', E', st⟩ := cloneA X hx hZ hown w1 w2 w3 w4 w5 w6 eT A E FC hg hsize hs hd hf hW hl (by rw [S]; exact hcap) hc hsl
  exact ⟨T', h', X', e', ex, ⟨nn, cloneOf cl, A', S, H⟩, E', st⟩
theorem own_alen (X : Stand p l e R s m args below meth c T locs cells slots) (hx : p.tables.exec = Jvm.exec) (hZ : Z.Warmed39 s.vm) (eT : T.heap = h) (F : own_AV mk Z h a ty n f) {z : Int32} (hz : n.toInt32 = z)
    {g : JFrame} (hg : g.method = m) {rest : List Value} (hs : g.stack = .ref a :: rest) (hd : decode c.code g.pc = .ok (.arraylength, 1)) {target : State} (hr : Steps p.tables e below (T.setTop { g with pc := g.pc + 1, stack := .int z :: rest }) target) : Steps p.tables e below (T.setTop g) target := by
  obtain ⟨_, cl, A, S, H⟩ := F
  exact X.arraylength hx (by rw [eT]; exact A.1) (State.isArrayOf_alike hZ.alike A.2.1) hg hs hd _ (by rw [S, hz]; exact hr)
end
end OwnKit
def own_sum (f : Nat → Int64) : Nat → Int64
  | 0 => 0
  | k + 1 => own_sum f k + f k
theorem own_z32 : (0 : Int32).toInt = 0 := by decide
theorem own_nneg {i : Int32} (h : 0 ≤ i.toInt) : ¬ i < 0 := by rw [Int32.lt_iff_toInt_lt, own_z32]; omega
theorem own_natc {i : Int32} (h : 0 ≤ i.toInt) : (i.toNatClampNeg : Int) = i.toInt := (nat_of (own_nneg h)).symm
theorem own_ofNat {n : Nat} (h : n < 2 ^ 31) : (Int32.ofNat n).toInt = n := Int32.toInt_ofNat_of_lt h
theorem own_inc {i : Int32} {n : Nat} (hn : n < 2 ^ 31) (h : 0 ≤ i.toInt) (h2 : i.toInt < n) : (i + (1 : Int32)).toInt = i.toInt + 1 := by
  have e := c_iadd i 1; have r := rng32 (i + 1); have o : (1 : Int32).toInt = 1 := by decide
  omega
/-- a turn more: i + 1, the place i -/
theorem own_up {i : Int32} {n : Nat} (hn : n < 2 ^ 31) (hi : 0 ≤ i.toInt ∧ i.toInt ≤ n) (hc : i < Int32.ofNat n) :
    (0 ≤ (i + (1 : Int32)).toInt ∧ (i + (1 : Int32)).toInt ≤ n) ∧ (¬ i < 0 ∧ i.toNatClampNeg < n) ∧ (i + (1 : Int32)).toNatClampNeg = i.toNatClampNeg + 1 := by
  rw [Int32.lt_iff_toInt_lt, own_ofNat hn] at hc
  have e := own_inc hn hi.1 hc
  have a := own_natc hi.1
  have b := own_natc (i := i + 1) (by omega)
  exact ⟨by omega, ⟨own_nneg hi.1, by omega⟩, by omega⟩
theorem own_dec {i : Int32} {n k : Nat} (hn : n < 2 ^ 31) (hi : 0 ≤ i.toInt ∧ i.toInt ≤ n) (hc : i < Int32.ofNat n) (hm : n - i.toNatClampNeg = k) : n - (i + (1 : Int32)).toNatClampNeg < k := by
  have h := own_up hn hi hc
  omega
theorem own_last {i : Int32} {n : Nat} (hn : n < 2 ^ 31) (hi : 0 ≤ i.toInt ∧ i.toInt ≤ n) (hc : ¬ i < Int32.ofNat n) : i.toNatClampNeg = n := by
  rw [Int32.lt_iff_toInt_lt, own_ofNat hn] at hc
  have a := own_natc hi.1
  omega

def own_p : Nat → Int
  | 0 => 1
  | 1 => 128
  | 2 => 16384
  | 3 => 2097152
  | 4 => 268435456
  | 5 => 34359738368
  | 6 => 4398046511104
  | 7 => 562949953421312
  | 8 => 72057594037927936
  | _ => 9223372036854775808
theorem own_9 {j : Nat} (h : j ≤ 8) : j = 0 ∨ j = 1 ∨ j = 2 ∨ j = 3 ∨ j = 4 ∨ j = 5 ∨ j = 6 ∨ j = 7 ∨ j = 8 := by omega
def own_pre (f xs : Nat → Int32) (a : Nat) (v : Int) (j : Nat) : Prop := (∀ k, k < j → (f (a + k)).toInt = (v / own_p k) % 128 - 128) ∧ ∀ n, n < a ∨ a + j ≤ n → f n = xs n
def own_enc (f xs : Nat → Int32) (a : Nat) (v : Int) (j : Nat) : Prop := j ≤ 8 ∧ (j = 0 ∨ own_p j ≤ v) ∧ v / own_p j < 128 ∧ (∀ k, k < j → (f (a + k)).toInt = (v / own_p k) % 128 - 128) ∧ (f (a + j)).toInt = v / own_p j ∧ ∀ n, n < a ∨ a + j < n → f n = xs n
theorem own_w1 {f xs : Nat → Int32} {a k : Nat} {v : Int} {j : Nat} {b : Int32} (h : own_pre f xs a v j) (hk : k = a + j) (hb : b.toInt = (v / own_p j) % 128 - 128) : own_pre (own_upd f k b) xs a v (j + 1) := by
  subst hk
  refine ⟨fun q hq => ?_, fun n hn => ?_⟩
  · unfold own_upd
    by_cases e : q = j
    · subst e; rw [if_pos rfl]; exact hb
    · rw [if_neg (by omega)]; exact h.1 q (by omega)
  · unfold own_upd; rw [if_neg (by omega)]; exact h.2 n (by omega)
theorem own_w2 {f xs : Nat → Int32} {a k : Nat} {v : Int} {j : Nat} {b : Int32} (h : own_pre f xs a v j) (hk : k = a + j) (hb : b.toInt = v / own_p j) (h8 : j ≤ 8) (hl : j = 0 ∨ own_p j ≤ v) (hs : v / own_p j < 128) : own_enc (own_upd f k b) xs a v j := by
  subst hk
  refine ⟨h8, hl, hs, fun q hq => ?_, ?_, fun n hn => ?_⟩
  · unfold own_upd; rw [if_neg (by omega)]; exact h.1 q hq
  · unfold own_upd; rw [if_pos rfl]; exact hb
  · unfold own_upd; rw [if_neg (by omega)]; exact h.2 n (by omega)
theorem own_hi (x : Nat) (h : x < 18446744073709551616) : x &&& 18446744073709551488 = x / 128 * 128 := by
  have h1 := Nat.and_mod_two_pow (a := x) (b := 18446744073709551488) (n := 7)
  have h2 := Nat.and_div_two_pow (a := x) (b := 18446744073709551488) (n := 7)
  have e1 : (2 ^ 7 : Nat) = 128 := by decide
  rw [e1] at h1 h2
  rw [show (18446744073709551488 : Nat) % 128 = 0 from by decide, Nat.and_zero] at h1
  rw [show (18446744073709551488 : Nat) / 128 = 2 ^ 57 - 1 from by decide, Nat.and_two_pow_sub_one_eq_mod] at h2
  have e2 : (2 ^ 57 : Nat) = 144115188075855872 := by decide
  rw [e2] at h2
  omega
theorem own_a128 {x : Int64} (h : 0 ≤ x.toInt) : (x &&& (-128 : Int64)) = (0 : Int64) ↔ x.toInt < 128 := by
  have e : x.toInt = x.toBitVec.toInt := rfl
  have b := BitVec.toInt_eq_toNat_cond x.toBitVec
  have l := x.toBitVec.isLt
  have n : x.toInt = x.toBitVec.toNat := by rw [← e] at b; split at b <;> omega
  rw [← Int64.toBitVec_inj, Int64.toBitVec_and, ← BitVec.toNat_inj, BitVec.toNat_and]
  rw [show (-128 : Int64).toBitVec.toNat = 18446744073709551488 from by decide, show (0 : Int64).toBitVec.toNat = 0 from by decide, own_hi _ l]
  omega
theorem own_b1 {x : Int64} (h : 0 ≤ x.toInt) : (nar .byte (((((x &&& (127 : Int64)) ||| (128 : Int64)).toInt32).toInt8.toInt32))).toInt = x.toInt % 128 - 128 := by
  have a := c_maskL x 127 7 (by decide) (by decide)
  have e7 : ((2 ^ 7 : Nat) : Int) = 128 := by decide
  rw [e7] at a
  have o := c_orL' (x &&& (127 : Int64)) 128 7 (by decide) 128 (by decide) (by decide) (by omega) (by omega)
  have r := rng64 ((x &&& (127 : Int64)) ||| (128 : Int64))
  have e : (128 : Int64).toInt = 128 := by decide
  have l := c_l2i ((x &&& (127 : Int64)) ||| (128 : Int64)); have r2 := rng32 ((x &&& (127 : Int64)) ||| (128 : Int64)).toInt32
  have b := c_i2b ((x &&& (127 : Int64)) ||| (128 : Int64)).toInt32
  show ((((x &&& (127 : Int64)) ||| (128 : Int64)).toInt32.toInt8.toInt32).toInt8.toInt32).toInt = _
  have c := c_i2b (((x &&& (127 : Int64)) ||| (128 : Int64)).toInt32.toInt8.toInt32)
  omega
theorem own_b2 {x : Int64} (h : 0 ≤ x.toInt) (h2 : x.toInt < 128) : (nar .byte (((x.toInt32).toInt8.toInt32))).toInt = x.toInt := by
  have l := c_l2i x; have r2 := rng32 x.toInt32
  have b := c_i2b x.toInt32
  show ((x.toInt32.toInt8.toInt32).toInt8.toInt32).toInt = _
  have c := c_i2b (x.toInt32.toInt8.toInt32)
  omega
theorem own_sh {x : Int64} (h : 0 ≤ x.toInt) : ((x.toUInt64 >>> ((7 : Int32) &&& 0x3f).toInt64.toUInt64).toInt64).toInt = x.toInt / 128 := by
  have a := c_lushr x 7 7 (by decide) (by decide)
  have e7 : ((2 ^ 7 : Nat) : Int) = 128 := by decide
  rw [e7] at a
  have r := rng64 x
  rw [a]; omega
theorem own_nx {v x : Int64} {j : Nat} (h8 : j ≤ 8) (h0 : 0 ≤ v.toInt) (hx : x.toInt = v.toInt / own_p j) (hb : ¬ x.toInt < 128) : j + 1 ≤ 8 ∧ x.toInt / 128 = v.toInt / own_p (j + 1) ∧ own_p (j + 1) ≤ v.toInt := by
  have r := rng64 v
  rcases own_9 h8 with rfl | rfl | rfl | rfl | rfl | rfl | rfl | rfl | rfl <;> simp only [own_p] at * <;> omega
theorem own_x0 {v x : Int64} {j : Nat} (h8 : j ≤ 8) (h0 : 0 ≤ v.toInt) (hx : x.toInt = v.toInt / own_p j) : 0 ≤ x.toInt := by
  rcases own_9 h8 with rfl | rfl | rfl | rfl | rfl | rfl | rfl | rfl | rfl <;> simp only [own_p] at * <;> omega
theorem own_ix {i p : Int32} {j : Nat} (hp : 0 ≤ p.toInt ∧ p.toInt ≤ 7) (h8 : j ≤ 8) (hi : i.toInt = p.toInt + j) : ¬ i < 0 ∧ i.toNatClampNeg < 20 ∧ i.toNatClampNeg = p.toNatClampNeg + j ∧ (i + (1 : Int32)).toInt = p.toInt + (j + 1 : Nat) := by
  have e := c_iadd i 1; have r := rng32 (i + 1); have o : (1 : Int32).toInt = 1 := by decide
  have a := own_natc (i := i) (by omega); have b := own_natc hp.1
  exact ⟨own_nneg (by omega), by omega, by omega, by omega⟩
theorem own_dcw {v x : Int64} {j k : Nat} (h8 : j ≤ 8) (h0 : 0 ≤ v.toInt) (hx : x.toInt = v.toInt / own_p j) (hb : ¬ x.toInt < 128) (hm : x.toInt.toNat = k) : ((x.toUInt64 >>> ((7 : Int32) &&& 0x3f).toInt64.toUInt64).toInt64).toInt.toNat < k := by
  rw [own_sh (own_x0 h8 h0 hx)]; omega
theorem own_pn0 : plainName "com/example/twigwright/twigwright/IntervalFile" = true := by first | (simp [plainName, overriddenIn]; done) | decide +kernel
theorem d1_0 : decode prog_14_method_7_code 0 = .ok (.iload_n 1, 1) := by decide +kernel
theorem d1_1 : decode prog_14_method_7_code 1 = .ok (.istore 4, 2) := by decide +kernel
theorem d1_3 : decode prog_14_method_7_code 3 = .ok (.lload_n 2, 1) := by decide +kernel
theorem d1_4 : decode prog_14_method_7_code 4 = .ok (.lstore 5, 2) := by decide +kernel
theorem d1_6 : decode prog_14_method_7_code 6 = .ok (.lload 5, 2) := by decide +kernel
theorem d1_8 : decode prog_14_method_7_code 8 = .ok (.ldc2_w 203, 3) := by decide +kernel
theorem d1_11 : decode prog_14_method_7_code 11 = .ok (.land, 1) := by decide +kernel
theorem d1_12 : decode prog_14_method_7_code 12 = .ok (.lconst 0, 1) := by decide +kernel
theorem d1_13 : decode prog_14_method_7_code 13 = .ok (.lcmp, 1) := by decide +kernel
theorem d1_14 : decode prog_14_method_7_code 14 = .ok (.ifCond .eq 32, 3) := by decide +kernel
theorem d1_17 : decode prog_14_method_7_code 17 = .ok (.aload_n 0, 1) := by decide +kernel
theorem d1_18 : decode prog_14_method_7_code 18 = .ok (.iload 4, 2) := by decide +kernel
theorem d1_20 : decode prog_14_method_7_code 20 = .ok (.iinc 4 1, 3) := by decide +kernel
theorem d1_23 : decode prog_14_method_7_code 23 = .ok (.lload 5, 2) := by decide +kernel
theorem d1_25 : decode prog_14_method_7_code 25 = .ok (.ldc2_w 205, 3) := by decide +kernel
theorem d1_28 : decode prog_14_method_7_code 28 = .ok (.land, 1) := by decide +kernel
theorem d1_29 : decode prog_14_method_7_code 29 = .ok (.ldc2_w 207, 3) := by decide +kernel
theorem d1_32 : decode prog_14_method_7_code 32 = .ok (.lor, 1) := by decide +kernel
theorem d1_33 : decode prog_14_method_7_code 33 = .ok (.l2i, 1) := by decide +kernel
theorem d1_34 : decode prog_14_method_7_code 34 = .ok (.i2b, 1) := by decide +kernel
theorem d1_35 : decode prog_14_method_7_code 35 = .ok (.bastore, 1) := by decide +kernel
theorem d1_36 : decode prog_14_method_7_code 36 = .ok (.lload 5, 2) := by decide +kernel
theorem d1_38 : decode prog_14_method_7_code 38 = .ok (.bipush 7, 2) := by decide +kernel
theorem d1_40 : decode prog_14_method_7_code 40 = .ok (.lushr, 1) := by decide +kernel
theorem d1_41 : decode prog_14_method_7_code 41 = .ok (.lstore 5, 2) := by decide +kernel
theorem d1_43 : decode prog_14_method_7_code 43 = .ok (.goto (-37), 3) := by decide +kernel
theorem d1_46 : decode prog_14_method_7_code 46 = .ok (.aload_n 0, 1) := by decide +kernel
theorem d1_47 : decode prog_14_method_7_code 47 = .ok (.iload 4, 2) := by decide +kernel
theorem d1_49 : decode prog_14_method_7_code 49 = .ok (.iinc 4 1, 3) := by decide +kernel
theorem d1_52 : decode prog_14_method_7_code 52 = .ok (.lload 5, 2) := by decide +kernel
theorem d1_54 : decode prog_14_method_7_code 54 = .ok (.l2i, 1) := by decide +kernel
theorem d1_55 : decode prog_14_method_7_code 55 = .ok (.i2b, 1) := by decide +kernel
theorem d1_56 : decode prog_14_method_7_code 56 = .ok (.bastore, 1) := by decide +kernel
theorem d1_57 : decode prog_14_method_7_code 57 = .ok (.iload 4, 2) := by decide +kernel
theorem d1_59 : decode prog_14_method_7_code 59 = .ok (.ireturn, 1) := by decide +kernel
theorem ef1 (m : MethodId) (ad0 : Addr) (p1 : Int32) (x2 : Int64) : entryFrame m #[(.ref ad0), (.int p1), (.long x2)] 7 = mkF m 0 #[.val (.ref ad0), .val (.int p1), .val (.long x2), .second, .unset, .unset, .unset] [] := by first | (simp [entryFrame, mkF, argsToLocals, Value.category]; done) | rfl
def Q1 (Z : State) (ad0 : Addr) (p1 : Int32) (x2 : Int64) (xs : Nat → Int32) (h0 : Heap) (n0 : Nat) (v : Option Value) (h : Heap) (L : List Loc) : Prop := ∃ (r : Int32) (j : Nat) (f : Nat → Int32), v = some (.int r) ∧ Fr n0 L ∧ Keep h0 h [ad0] ∧ own_AV Value.int Z h ad0 .byte 20 f ∧ own_enc f xs p1.toNatClampNeg x2.toInt j ∧ r.toInt = p1.toInt + (j + 1 : Nat)
set_option maxRecDepth 65536 in
set_option maxHeartbeats 40000000 in
theorem rm1 (l : Launch) (Z : State) (a0 : Array Value) (hw : ∀ d ∈ tables_1, d.before a0 Z = true) (ws : List Jvm.Cond) (ad0 : Addr) (p1 : Int32) (x2 : Int64) (xs : Nat → Int32) (h0 : Heap) (n0 : Nat) (Z0 : n0 ≤ h0.size) (V_ad0 : own_AV Value.int Z h0 ad0 .byte 20 xs) (g_ad0 : n0 ≤ ad0) (hv : 0 ≤ x2.toInt) (hp : 0 ≤ p1.toInt ∧ p1.toInt ≤ 7) :
    MetFree l (⟨"com/example/twigwright/twigwright/IntervalFile", "writeNumber", "([BIJ)I"⟩ : MethodName) (head1 (Jvm.Cond.code (⟨"com/example/twigwright/twigwright/IntervalFile", "writeNumber", "([BIJ)I"⟩ : MethodName) prog_14_method_7_code 7 (some .int) :: ws) ({ frames := 0, cells := 0, slots := 0, locals := 0 } : Room)) (fun a U => a = #[(.ref ad0), (.int p1), (.long x2)] ∧ Z.Warmed39 U.vm ∧ U.heap = h0) (fun _ _ _ _ _ => True) (fun _ U o U' => ∃ v L, o = .returned v ∧ Q1 Z ad0 p1 x2 xs h0 n0 v U'.heap L ∧ FrameEnd U o U' L ({ frames := 0, cells := 0, slots := 0, locals := 0 } : Room).cells ({ frames := 0, cells := 0, slots := 0, locals := 0 } : Room).slots) := by
  refine MetFree.of_bodySF (plainFor_of_name own_pn0) hisR ?_
  intro p e s m args below meth c s₁ Bd hml0 hP hK
  obtain ⟨rfl, hZ, hh⟩ := hP
  have hx := Bd.exec
  have hby := Bd.bytes
  have hml : c.maxLocals = 7 := hml0
  have hown : s.vm.findClass "com/example/twigwright/twigwright/IntervalFile" = some m.cls := findClass_of_methodNamed Bd.named
  have hnm := (name_of_methodNamed Bd.named Bd.method).1
  have hlk : meth.locks = false := BodyLoose.notSynchronized Bd
  have X0 : Stand p l e ({ frames := 0, cells := 0, slots := 0, locals := 0 } : Room) s m #[(.ref ad0), (.int p1), (.long x2)] below meth c s₁ [] 0 0 := Stand.of_body Bd
  have e0 : s₁.heap = h0 := by rw [← hh, Bd.state]; rfl
  have N0 := Fr.nil n0
  obtain ⟨G, hG⟩ : ∃ G, G = own_G s (Q1 Z ad0 p1 x2 xs h0 n0) ({ frames := 0, cells := 0, slots := 0, locals := 0 } : Room).cells ({ frames := 0, cells := 0, slots := 0, locals := 0 } : Room).slots := ⟨_, rfl⟩
  show own_Fin p e below (own_G s (Q1 Z ad0 p1 x2 xs h0 n0) ({ frames := 0, cells := 0, slots := 0, locals := 0 } : Room).cells ({ frames := 0, cells := 0, slots := 0, locals := 0 } : Room).slots) (s₁.setTop (entryFrame m #[(.ref ad0), (.int p1), (.long x2)] 7))
  rw [← hG]
  refine own_to (fun _ kz => castTop (ef1 m ad0 p1 x2) kz) ?_
  show own_Fin p e below G (s₁.setTop (mkF m 0 #[.val (.ref ad0), .val (.int p1), .val (.long x2), .second, .unset, .unset, .unset] []))
  refine own_to (fun _ kz => XS.iloadN X0.here hx rfl (hb hby d1_0) rfl  kz) ?_
  show own_Fin p e below G (s₁.setTop (mkF m 1 #[.val (.ref ad0), .val (.int p1), .val (.long x2), .second, .unset, .unset, .unset] [(.int p1)]))
  refine own_to (fun _ kz => XS.istore X0.here hx rfl (hb hby d1_1) rfl (l' := #[.val (.ref ad0), .val (.int p1), .val (.long x2), .second, .val (.int p1), .unset, .unset]) rfl kz) ?_
  show own_Fin p e below G (s₁.setTop (mkF m 3 #[.val (.ref ad0), .val (.int p1), .val (.long x2), .second, .val (.int p1), .unset, .unset] []))
  refine own_to (fun _ kz => XS.lloadN X0.here hx rfl (hb hby d1_3) rfl  kz) ?_
  show own_Fin p e below G (s₁.setTop (mkF m 4 #[.val (.ref ad0), .val (.int p1), .val (.long x2), .second, .val (.int p1), .unset, .unset] [(.long x2)]))
  refine own_to (fun _ kz => XS.lstore X0.here hx rfl (hb hby d1_4) rfl (l' := #[.val (.ref ad0), .val (.int p1), .val (.long x2), .second, .val (.int p1), .val (.long x2), .second]) rfl kz) ?_
  show own_Fin p e below G (s₁.setTop (mkF m 6 #[.val (.ref ad0), .val (.int p1), .val (.long x2), .second, .val (.int p1), .val (.long x2), .second] []))
  have K6 : ∀ (k_6 : Nat) (j : Nat) (i : Int32) (x : Int64) (f : Nat → Int32) (T_j6 : State) (locs_j6 : List Loc) (N_j6 : Fr n0 locs_j6) (X_j6 : Stand p l e ({ frames := 0, cells := 0, slots := 0, locals := 0 } : Room) s m #[(.ref ad0), (.int p1), (.long x2)] below meth c T_j6 locs_j6 0 0) (h_j6 : Heap) (e_j6 : T_j6.heap = h_j6) (Z_j6 : n0 ≤ h_j6.size) (F0_j6 : own_AV Value.int Z h_j6 ad0 .byte 20 f) (KP_j6 : Keep h0 h_j6 [ad0]) (hm_6 : x.toInt.toNat = k_6) (h8 : j ≤ 8) (hi : i.toInt = p1.toInt + j) (hxx : x.toInt = x2.toInt / own_p j) (hl : j = 0 ∨ own_p j ≤ x2.toInt) (hE : own_pre f xs p1.toNatClampNeg x2.toInt j), own_Fin p e below G (T_j6.setTop (mkF m 6 #[.val (.ref ad0), .val (.int p1), .val (.long x2), .second, .val (.int i), .val (.long x), .second] [])) := by
    intro k_6
    induction k_6 using Nat.strongRecOn with
    | _ k_6 ih_6 =>
      intro j i x f T_j6 locs_j6 N_j6 X_j6 h_j6 e_j6 Z_j6 F0_j6 KP_j6 hm_6 h8 hi hxx hl hE
      refine own_to (fun _ kz => XS.lload X_j6.here hx rfl (hb hby d1_6) rfl  kz) ?_
      show own_Fin p e below G (T_j6.setTop (mkF m 8 #[.val (.ref ad0), .val (.int p1), .val (.long x2), .second, .val (.int i), .val (.long x), .second] [(.long x)]))
      refine own_to (fun _ kz => X_j6.ldc2Long hx hown (mvT hZ (hw _ (List.mem_of_getElem? (i := 6) rfl))) (g := (mkF m 8 #[.val (.ref ad0), .val (.int p1), .val (.long x2), .second, .val (.int i), .val (.long x), .second] [(.long x)])) rfl (hb hby d1_8) _ kz) ?_
      show own_Fin p e below G (T_j6.setTop (mkF m 11 #[.val (.ref ad0), .val (.int p1), .val (.long x2), .second, .val (.int i), .val (.long x), .second] [(.long (-128 : Int64)), (.long x)]))
      refine own_to (fun _ kz => XS.land X_j6.here hx rfl (hb hby d1_11) rfl kz) ?_
      show own_Fin p e below G (T_j6.setTop (mkF m 12 #[.val (.ref ad0), .val (.int p1), .val (.long x2), .second, .val (.int i), .val (.long x), .second] [(.long (x &&& (-128 : Int64)))]))
      refine own_to (fun _ kz => XS.lconst X_j6.here hx rfl (hb hby d1_12) kz) ?_
      show own_Fin p e below G (T_j6.setTop (mkF m 13 #[.val (.ref ad0), .val (.int p1), .val (.long x2), .second, .val (.int i), .val (.long x), .second] [(.long (0 : Int64)), (.long (x &&& (-128 : Int64)))]))
      refine own_to (fun _ kz => XS.lcmp X_j6.here hx rfl (hb hby d1_13) rfl kz) ?_
      show own_Fin p e below G (T_j6.setTop (mkF m 14 #[.val (.ref ad0), .val (.int p1), .val (.long x2), .second, .val (.int i), .val (.long x), .second] [(.int (lcmpW (x &&& (-128 : Int64)) (0 : Int64)))]))
      by_cases hc14 : (x &&& (-128 : Int64)) = (0 : Int64)
      · refine own_to (fun _ kz => XS.ifYes X_j6.here hx rfl (pc0 := 14) (pc' := 46) rfl (hb hby d1_14) rfl ((if0 _ _).trans (teq ((lw_eq _ _).mpr hc14)).1) (by decide) (by decide) kz) ?_
        show own_Fin p e below G (T_j6.setTop (mkF m 46 #[.val (.ref ad0), .val (.int p1), .val (.long x2), .second, .val (.int i), .val (.long x), .second] []))
        refine own_to (fun _ kz => XS.aloadN X_j6.here hx rfl (hb hby d1_46) rfl (rfl)  kz) ?_
        show own_Fin p e below G (T_j6.setTop (mkF m 47 #[.val (.ref ad0), .val (.int p1), .val (.long x2), .second, .val (.int i), .val (.long x), .second] [(.ref ad0)]))
        refine own_to (fun _ kz => XS.iload X_j6.here hx rfl (hb hby d1_47) rfl  kz) ?_
        show own_Fin p e below G (T_j6.setTop (mkF m 49 #[.val (.ref ad0), .val (.int p1), .val (.long x2), .second, .val (.int i), .val (.long x), .second] [(.int i), (.ref ad0)]))
        refine own_to (fun _ kz => XS.iinc X_j6.here hx rfl (hb hby d1_49) rfl (l' := #[.val (.ref ad0), .val (.int p1), .val (.long x2), .second, .val (.int (i + (1 : Int32))), .val (.long x), .second]) rfl kz) ?_
        show own_Fin p e below G (T_j6.setTop (mkF m 52 #[.val (.ref ad0), .val (.int p1), .val (.long x2), .second, .val (.int (i + (1 : Int32))), .val (.long x), .second] [(.int i), (.ref ad0)]))
        refine own_to (fun _ kz => XS.lload X_j6.here hx rfl (hb hby d1_52) rfl  kz) ?_
        show own_Fin p e below G (T_j6.setTop (mkF m 54 #[.val (.ref ad0), .val (.int p1), .val (.long x2), .second, .val (.int (i + (1 : Int32))), .val (.long x), .second] [(.long x), (.int i), (.ref ad0)]))
        refine own_to (fun _ kz => XS.l2i X_j6.here hx rfl (hb hby d1_54) rfl kz) ?_
        show own_Fin p e below G (T_j6.setTop (mkF m 55 #[.val (.ref ad0), .val (.int p1), .val (.long x2), .second, .val (.int (i + (1 : Int32))), .val (.long x), .second] [(.int (x.toInt32)), (.int i), (.ref ad0)]))
        refine own_to (fun _ kz => XS.i2b X_j6.here hx rfl (hb hby d1_55) rfl kz) ?_
        show own_Fin p e below G (T_j6.setTop (mkF m 56 #[.val (.ref ad0), .val (.int p1), .val (.long x2), .second, .val (.int (i + (1 : Int32))), .val (.long x), .second] [(.int ((x.toInt32).toInt8.toInt32)), (.int i), (.ref ad0)]))
        obtain ⟨nn56, cl56, Ar56, Sz56, Hs56⟩ := F0_j6
        obtain ⟨T56, h56, X56, e56, W56, st56⟩ := stB X_j6 hx hZ e_j6 Ar56 (j := i) (own_in Sz56 (own_ix hp h8 hi).1 rfl (own_ix hp h8 hi).2.1) (g := (mkF m 56 #[.val (.ref ad0), .val (.int p1), .val (.long x2), .second, .val (.int (i + (1 : Int32))), .val (.long x), .second] [(.int ((x.toInt32).toInt8.toInt32)), (.int i), (.ref ad0)])) rfl rfl (hb hby d1_56)
        refine own_to st56 ?_
        have V56 : own_AV Value.int Z h56 ad0 .byte 20 (own_upd f i.toNatClampNeg (nar .byte ((x.toInt32).toInt8.toInt32))) := own_AV.set nn56 Ar56 Sz56 Hs56 W56 rfl
        obtain ⟨lo56, X56, N56⟩ : ∃ lo, Stand p l e _ s m _ below meth c T56 lo _ _ ∧ Fr n0 lo := ⟨_, X56, Fr.snoc X56 N_j6 g_ad0⟩
        show own_Fin p e below G (T56.setTop (mkF m 57 #[.val (.ref ad0), .val (.int p1), .val (.long x2), .second, .val (.int (i + (1 : Int32))), .val (.long x), .second] []))
        refine own_to (fun _ kz => XS.iload X56.here hx rfl (hb hby d1_57) rfl  kz) ?_
        show own_Fin p e below G (T56.setTop (mkF m 59 #[.val (.ref ad0), .val (.int p1), .val (.long x2), .second, .val (.int (i + (1 : Int32))), .val (.long x), .second] [(.int (i + (1 : Int32)))]))
        have LB : x.toInt < 128 := (own_a128 (own_x0 h8 hv hxx)).mp hc14
        have KP_59 : Keep h0 h56 [ad0] := (KP_j6.wr W56 (Or.inl (List.mem_of_getElem? (i := 0) rfl)))
        exact own_retI X56 hx hlk hG Bd.returns (hb hby d1_59) (by decide) (by decide) (by rw [e56]; exact ⟨_, j, _, rfl, N56, KP_59, V56, own_w2 hE (own_ix hp h8 hi).2.2.1 ((own_b2 (own_x0 h8 hv hxx) LB).trans hxx) h8 hl (hxx ▸ LB), (own_ix hp h8 hi).2.2.2⟩)
      · refine own_to (fun _ kz => XS.ifNo X_j6.here hx rfl (hb hby d1_14) rfl ((if0 _ _).trans (feq (fun q => hc14 ((lw_eq _ _).mp q))).1) kz) ?_
        show own_Fin p e below G (T_j6.setTop (mkF m 17 #[.val (.ref ad0), .val (.int p1), .val (.long x2), .second, .val (.int i), .val (.long x), .second] []))
        have NB : ¬ x.toInt < 128 := fun q => hc14 ((own_a128 (own_x0 h8 hv hxx)).mpr q)
        refine own_to (fun _ kz => XS.aloadN X_j6.here hx rfl (hb hby d1_17) rfl (rfl)  kz) ?_
        show own_Fin p e below G (T_j6.setTop (mkF m 18 #[.val (.ref ad0), .val (.int p1), .val (.long x2), .second, .val (.int i), .val (.long x), .second] [(.ref ad0)]))
        refine own_to (fun _ kz => XS.iload X_j6.here hx rfl (hb hby d1_18) rfl  kz) ?_
        show own_Fin p e below G (T_j6.setTop (mkF m 20 #[.val (.ref ad0), .val (.int p1), .val (.long x2), .second, .val (.int i), .val (.long x), .second] [(.int i), (.ref ad0)]))
        refine own_to (fun _ kz => XS.iinc X_j6.here hx rfl (hb hby d1_20) rfl (l' := #[.val (.ref ad0), .val (.int p1), .val (.long x2), .second, .val (.int (i + (1 : Int32))), .val (.long x), .second]) rfl kz) ?_
        show own_Fin p e below G (T_j6.setTop (mkF m 23 #[.val (.ref ad0), .val (.int p1), .val (.long x2), .second, .val (.int (i + (1 : Int32))), .val (.long x), .second] [(.int i), (.ref ad0)]))
        refine own_to (fun _ kz => XS.lload X_j6.here hx rfl (hb hby d1_23) rfl  kz) ?_
        show own_Fin p e below G (T_j6.setTop (mkF m 25 #[.val (.ref ad0), .val (.int p1), .val (.long x2), .second, .val (.int (i + (1 : Int32))), .val (.long x), .second] [(.long x), (.int i), (.ref ad0)]))
        refine own_to (fun _ kz => X_j6.ldc2Long hx hown (mvT hZ (hw _ (List.mem_of_getElem? (i := 42) rfl))) (g := (mkF m 25 #[.val (.ref ad0), .val (.int p1), .val (.long x2), .second, .val (.int (i + (1 : Int32))), .val (.long x), .second] [(.long x), (.int i), (.ref ad0)])) rfl (hb hby d1_25) _ kz) ?_
        show own_Fin p e below G (T_j6.setTop (mkF m 28 #[.val (.ref ad0), .val (.int p1), .val (.long x2), .second, .val (.int (i + (1 : Int32))), .val (.long x), .second] [(.long (127 : Int64)), (.long x), (.int i), (.ref ad0)]))
        refine own_to (fun _ kz => XS.land X_j6.here hx rfl (hb hby d1_28) rfl kz) ?_
        show own_Fin p e below G (T_j6.setTop (mkF m 29 #[.val (.ref ad0), .val (.int p1), .val (.long x2), .second, .val (.int (i + (1 : Int32))), .val (.long x), .second] [(.long (x &&& (127 : Int64))), (.int i), (.ref ad0)]))
        refine own_to (fun _ kz => X_j6.ldc2Long hx hown (mvT hZ (hw _ (List.mem_of_getElem? (i := 43) rfl))) (g := (mkF m 29 #[.val (.ref ad0), .val (.int p1), .val (.long x2), .second, .val (.int (i + (1 : Int32))), .val (.long x), .second] [(.long (x &&& (127 : Int64))), (.int i), (.ref ad0)])) rfl (hb hby d1_29) _ kz) ?_
        show own_Fin p e below G (T_j6.setTop (mkF m 32 #[.val (.ref ad0), .val (.int p1), .val (.long x2), .second, .val (.int (i + (1 : Int32))), .val (.long x), .second] [(.long (128 : Int64)), (.long (x &&& (127 : Int64))), (.int i), (.ref ad0)]))
        refine own_to (fun _ kz => XS.lor X_j6.here hx rfl (hb hby d1_32) rfl kz) ?_
        show own_Fin p e below G (T_j6.setTop (mkF m 33 #[.val (.ref ad0), .val (.int p1), .val (.long x2), .second, .val (.int (i + (1 : Int32))), .val (.long x), .second] [(.long ((x &&& (127 : Int64)) ||| (128 : Int64))), (.int i), (.ref ad0)]))
        refine own_to (fun _ kz => XS.l2i X_j6.here hx rfl (hb hby d1_33) rfl kz) ?_
        show own_Fin p e below G (T_j6.setTop (mkF m 34 #[.val (.ref ad0), .val (.int p1), .val (.long x2), .second, .val (.int (i + (1 : Int32))), .val (.long x), .second] [(.int (((x &&& (127 : Int64)) ||| (128 : Int64)).toInt32)), (.int i), (.ref ad0)]))
        refine own_to (fun _ kz => XS.i2b X_j6.here hx rfl (hb hby d1_34) rfl kz) ?_
        show own_Fin p e below G (T_j6.setTop (mkF m 35 #[.val (.ref ad0), .val (.int p1), .val (.long x2), .second, .val (.int (i + (1 : Int32))), .val (.long x), .second] [(.int ((((x &&& (127 : Int64)) ||| (128 : Int64)).toInt32).toInt8.toInt32)), (.int i), (.ref ad0)]))
        obtain ⟨nn35, cl35, Ar35, Sz35, Hs35⟩ := F0_j6
        obtain ⟨T35, h35, X35, e35, W35, st35⟩ := stB X_j6 hx hZ e_j6 Ar35 (j := i) (own_in Sz35 (own_ix hp h8 hi).1 rfl (own_ix hp h8 hi).2.1) (g := (mkF m 35 #[.val (.ref ad0), .val (.int p1), .val (.long x2), .second, .val (.int (i + (1 : Int32))), .val (.long x), .second] [(.int ((((x &&& (127 : Int64)) ||| (128 : Int64)).toInt32).toInt8.toInt32)), (.int i), (.ref ad0)])) rfl rfl (hb hby d1_35)
        refine own_to st35 ?_
        have V35 : own_AV Value.int Z h35 ad0 .byte 20 (own_upd f i.toNatClampNeg (nar .byte ((((x &&& (127 : Int64)) ||| (128 : Int64)).toInt32).toInt8.toInt32))) := own_AV.set nn35 Ar35 Sz35 Hs35 W35 rfl
        obtain ⟨lo35, X35, N35⟩ : ∃ lo, Stand p l e _ s m _ below meth c T35 lo _ _ ∧ Fr n0 lo := ⟨_, X35, Fr.snoc X35 N_j6 g_ad0⟩
        show own_Fin p e below G (T35.setTop (mkF m 36 #[.val (.ref ad0), .val (.int p1), .val (.long x2), .second, .val (.int (i + (1 : Int32))), .val (.long x), .second] []))
        refine own_to (fun _ kz => XS.lload X35.here hx rfl (hb hby d1_36) rfl  kz) ?_
        show own_Fin p e below G (T35.setTop (mkF m 38 #[.val (.ref ad0), .val (.int p1), .val (.long x2), .second, .val (.int (i + (1 : Int32))), .val (.long x), .second] [(.long x)]))
        refine own_to (fun _ kz => XS.bipush X35.here hx rfl (hb hby d1_38) kz) ?_
        show own_Fin p e below G (T35.setTop (mkF m 40 #[.val (.ref ad0), .val (.int p1), .val (.long x2), .second, .val (.int (i + (1 : Int32))), .val (.long x), .second] [(.int (7 : Int32)), (.long x)]))
        refine own_to (fun _ kz => XS.lushr X35.here hx rfl (hb hby d1_40) rfl kz) ?_
        show own_Fin p e below G (T35.setTop (mkF m 41 #[.val (.ref ad0), .val (.int p1), .val (.long x2), .second, .val (.int (i + (1 : Int32))), .val (.long x), .second] [(.long ((x.toUInt64 >>> ((7 : Int32) &&& 0x3f).toInt64.toUInt64).toInt64))]))
        refine own_to (fun _ kz => XS.lstore X35.here hx rfl (hb hby d1_41) rfl (l' := #[.val (.ref ad0), .val (.int p1), .val (.long x2), .second, .val (.int (i + (1 : Int32))), .val (.long ((x.toUInt64 >>> ((7 : Int32) &&& 0x3f).toInt64.toUInt64).toInt64)), .second]) rfl kz) ?_
        show own_Fin p e below G (T35.setTop (mkF m 43 #[.val (.ref ad0), .val (.int p1), .val (.long x2), .second, .val (.int (i + (1 : Int32))), .val (.long ((x.toUInt64 >>> ((7 : Int32) &&& 0x3f).toInt64.toUInt64).toInt64)), .second] []))
        refine own_to (fun _ kz => XS.goto X35.here hx rfl (pc0 := 43) (pc' := 6) rfl (hb hby d1_43) (by decide) (by decide) kz) ?_
        show own_Fin p e below G (T35.setTop (mkF m 6 #[.val (.ref ad0), .val (.int p1), .val (.long x2), .second, .val (.int (i + (1 : Int32))), .val (.long ((x.toUInt64 >>> ((7 : Int32) &&& 0x3f).toInt64.toUInt64).toInt64)), .second] []))
        have Zz_43_W35 := Nat.le_trans Z_j6 (Nat.le_of_eq (Wr.size W35).symm)
        have Z_43 : n0 ≤ h35.size := Zz_43_W35
        have KP_6 : Keep h0 h35 [ad0] := (KP_j6.wr W35 (Or.inl (List.mem_of_getElem? (i := 0) rfl)))
        exact ih_6 _ (own_dcw h8 hv hxx NB hm_6) (j + 1) (i + (1 : Int32)) ((x.toUInt64 >>> ((7 : Int32) &&& 0x3f).toInt64.toUInt64).toInt64) (own_upd f i.toNatClampNeg (nar .byte ((((x &&& (127 : Int64)) ||| (128 : Int64)).toInt32).toInt8.toInt32))) _ _ N35 X35 _ e35 Z_43 V35 KP_6 rfl (own_nx h8 hv hxx NB).1 (own_ix hp h8 hi).2.2.2 ((own_sh (own_x0 h8 hv hxx)).trans (own_nx h8 hv hxx NB).2.1) (Or.inr (own_nx h8 hv hxx NB).2.2) (own_w1 hE (own_ix hp h8 hi).2.2.1 ((own_b1 (own_x0 h8 hv hxx)).trans (by rw [hxx])))
  exact K6 _ 0 p1 x2 xs _ _ N0 X0 _ e0 Z0 V_ad0 (Keep.refl h0 [ad0]) rfl (Nat.zero_le _) (by simp) (by simp [own_p]) (Or.inl rfl) ⟨fun k hk => absurd hk (Nat.not_lt_zero k), fun _ _ => rfl⟩
theorem own_pn1 : plainName "com/example/twigwright/twigwright/IntervalFileWriteNumberPinLaw" = true := by first | (simp [plainName, overriddenIn]; done) | decide +kernel
theorem d2_0 : decode method_2_code 0 = .ok (.lload_n 0, 1) := by decide +kernel
theorem d2_1 : decode method_2_code 1 = .ok (.ldc2_w 7, 3) := by decide +kernel
theorem d2_4 : decode method_2_code 4 = .ok (.lcmp, 1) := by decide +kernel
theorem d2_5 : decode method_2_code 5 = .ok (.ifCond .ge 5, 3) := by decide +kernel
theorem d2_8 : decode method_2_code 8 = .ok (.iconst 1, 1) := by decide +kernel
theorem d2_9 : decode method_2_code 9 = .ok (.ireturn, 1) := by decide +kernel
theorem d2_10 : decode method_2_code 10 = .ok (.lload_n 0, 1) := by decide +kernel
theorem d2_11 : decode method_2_code 11 = .ok (.ldc2_w 9, 3) := by decide +kernel
theorem d2_14 : decode method_2_code 14 = .ok (.lcmp, 1) := by decide +kernel
theorem d2_15 : decode method_2_code 15 = .ok (.ifCond .ge 5, 3) := by decide +kernel
theorem d2_18 : decode method_2_code 18 = .ok (.iconst 2, 1) := by decide +kernel
theorem d2_19 : decode method_2_code 19 = .ok (.ireturn, 1) := by decide +kernel
theorem d2_20 : decode method_2_code 20 = .ok (.lload_n 0, 1) := by decide +kernel
theorem d2_21 : decode method_2_code 21 = .ok (.ldc2_w 11, 3) := by decide +kernel
theorem d2_24 : decode method_2_code 24 = .ok (.lcmp, 1) := by decide +kernel
theorem d2_25 : decode method_2_code 25 = .ok (.ifCond .ge 5, 3) := by decide +kernel
theorem d2_28 : decode method_2_code 28 = .ok (.iconst 3, 1) := by decide +kernel
theorem d2_29 : decode method_2_code 29 = .ok (.ireturn, 1) := by decide +kernel
theorem d2_30 : decode method_2_code 30 = .ok (.lload_n 0, 1) := by decide +kernel
theorem d2_31 : decode method_2_code 31 = .ok (.ldc2_w 13, 3) := by decide +kernel
theorem d2_34 : decode method_2_code 34 = .ok (.lcmp, 1) := by decide +kernel
theorem d2_35 : decode method_2_code 35 = .ok (.ifCond .ge 5, 3) := by decide +kernel
theorem d2_38 : decode method_2_code 38 = .ok (.iconst 4, 1) := by decide +kernel
theorem d2_39 : decode method_2_code 39 = .ok (.ireturn, 1) := by decide +kernel
theorem d2_40 : decode method_2_code 40 = .ok (.lload_n 0, 1) := by decide +kernel
theorem d2_41 : decode method_2_code 41 = .ok (.ldc2_w 15, 3) := by decide +kernel
theorem d2_44 : decode method_2_code 44 = .ok (.lcmp, 1) := by decide +kernel
theorem d2_45 : decode method_2_code 45 = .ok (.ifCond .ge 5, 3) := by decide +kernel
theorem d2_48 : decode method_2_code 48 = .ok (.iconst 5, 1) := by decide +kernel
theorem d2_49 : decode method_2_code 49 = .ok (.ireturn, 1) := by decide +kernel
theorem d2_50 : decode method_2_code 50 = .ok (.lload_n 0, 1) := by decide +kernel
theorem d2_51 : decode method_2_code 51 = .ok (.ldc2_w 17, 3) := by decide +kernel
theorem d2_54 : decode method_2_code 54 = .ok (.lcmp, 1) := by decide +kernel
theorem d2_55 : decode method_2_code 55 = .ok (.ifCond .ge 6, 3) := by decide +kernel
theorem d2_58 : decode method_2_code 58 = .ok (.bipush 6, 2) := by decide +kernel
theorem d2_60 : decode method_2_code 60 = .ok (.ireturn, 1) := by decide +kernel
theorem d2_61 : decode method_2_code 61 = .ok (.lload_n 0, 1) := by decide +kernel
theorem d2_62 : decode method_2_code 62 = .ok (.ldc2_w 19, 3) := by decide +kernel
theorem d2_65 : decode method_2_code 65 = .ok (.lcmp, 1) := by decide +kernel
theorem d2_66 : decode method_2_code 66 = .ok (.ifCond .ge 6, 3) := by decide +kernel
theorem d2_69 : decode method_2_code 69 = .ok (.bipush 7, 2) := by decide +kernel
theorem d2_71 : decode method_2_code 71 = .ok (.ireturn, 1) := by decide +kernel
theorem d2_72 : decode method_2_code 72 = .ok (.lload_n 0, 1) := by decide +kernel
theorem d2_73 : decode method_2_code 73 = .ok (.ldc2_w 21, 3) := by decide +kernel
theorem d2_76 : decode method_2_code 76 = .ok (.lcmp, 1) := by decide +kernel
theorem d2_77 : decode method_2_code 77 = .ok (.ifCond .ge 6, 3) := by decide +kernel
theorem d2_80 : decode method_2_code 80 = .ok (.bipush 8, 2) := by decide +kernel
theorem d2_82 : decode method_2_code 82 = .ok (.ireturn, 1) := by decide +kernel
theorem d2_83 : decode method_2_code 83 = .ok (.bipush 9, 2) := by decide +kernel
theorem d2_85 : decode method_2_code 85 = .ok (.ireturn, 1) := by decide +kernel
theorem ef2 (m : MethodId) (x0 : Int64) : entryFrame m #[(.long x0)] 2 = mkF m 0 #[.val (.long x0), .second] [] := by first | (simp [entryFrame, mkF, argsToLocals, Value.category]; done) | rfl
def f2 (x0 : Int64) : Int32 := if x0 < (128 : Int64) then (1 : Int32) else if x0 < (16384 : Int64) then (2 : Int32) else if x0 < (2097152 : Int64) then (3 : Int32) else if x0 < (268435456 : Int64) then (4 : Int32) else if x0 < (34359738368 : Int64) then (5 : Int32) else if x0 < (4398046511104 : Int64) then (6 : Int32) else if x0 < (562949953421312 : Int64) then (7 : Int32) else if x0 < (72057594037927936 : Int64) then (8 : Int32) else (9 : Int32)
def Q2 (Z : State) (x0 : Int64) (h0 : Heap) (n0 : Nat) (v : Option Value) (h : Heap) (L : List Loc) : Prop := v = some (.int (f2 x0)) ∧ Fr n0 L ∧ h = h0
set_option maxRecDepth 65536 in
set_option maxHeartbeats 40000000 in
theorem rm2 (l : Launch) (Z : State) (a0 : Array Value) (hw : ∀ d ∈ tables_1, d.before a0 Z = true) (ws : List Jvm.Cond) (x0 : Int64) (h0 : Heap) (n0 : Nat) (Z0 : n0 ≤ h0.size) :
    MetFree l (⟨"com/example/twigwright/twigwright/IntervalFileWriteNumberPinLaw", "expectedLength", "(J)I"⟩ : MethodName) (head1 (Jvm.Cond.code (⟨"com/example/twigwright/twigwright/IntervalFileWriteNumberPinLaw", "expectedLength", "(J)I"⟩ : MethodName) method_2_code 2 (some .int) :: ws) ({ frames := 0, cells := 0, slots := 0, locals := 0 } : Room)) (fun a U => a = #[(.long x0)] ∧ Z.Warmed39 U.vm ∧ U.heap = h0) (fun _ _ _ _ _ => True) (fun _ U o U' => ∃ v L, o = .returned v ∧ Q2 Z x0 h0 n0 v U'.heap L ∧ FrameEnd U o U' L ({ frames := 0, cells := 0, slots := 0, locals := 0 } : Room).cells ({ frames := 0, cells := 0, slots := 0, locals := 0 } : Room).slots) := by
  refine MetFree.of_bodySF (plainFor_of_name own_pn1) hisR ?_
  intro p e s m args below meth c s₁ Bd hml0 hP hK
  obtain ⟨rfl, hZ, hh⟩ := hP
  have hx := Bd.exec
  have hby := Bd.bytes
  have hml : c.maxLocals = 2 := hml0
  have hown : s.vm.findClass "com/example/twigwright/twigwright/IntervalFileWriteNumberPinLaw" = some m.cls := findClass_of_methodNamed Bd.named
  have hnm := (name_of_methodNamed Bd.named Bd.method).1
  have hlk : meth.locks = false := BodyLoose.notSynchronized Bd
  have X0 : Stand p l e ({ frames := 0, cells := 0, slots := 0, locals := 0 } : Room) s m #[(.long x0)] below meth c s₁ [] 0 0 := Stand.of_body Bd
  have e0 : s₁.heap = h0 := by rw [← hh, Bd.state]; rfl
  have N0 := Fr.nil n0
  obtain ⟨G, hG⟩ : ∃ G, G = own_G s (Q2 Z x0 h0 n0) ({ frames := 0, cells := 0, slots := 0, locals := 0 } : Room).cells ({ frames := 0, cells := 0, slots := 0, locals := 0 } : Room).slots := ⟨_, rfl⟩
  show own_Fin p e below (own_G s (Q2 Z x0 h0 n0) ({ frames := 0, cells := 0, slots := 0, locals := 0 } : Room).cells ({ frames := 0, cells := 0, slots := 0, locals := 0 } : Room).slots) (s₁.setTop (entryFrame m #[(.long x0)] 2))
  rw [← hG]
  refine own_to (fun _ kz => castTop (ef2 m x0) kz) ?_
  have q0 : (f2 x0) = (f2 x0) := rfl
  show own_Fin p e below G (s₁.setTop (mkF m 0 #[.val (.long x0), .second] []))
  refine own_to (fun _ kz => XS.lloadN X0.here hx rfl (hb hby d2_0) rfl  kz) ?_
  show own_Fin p e below G (s₁.setTop (mkF m 1 #[.val (.long x0), .second] [(.long x0)]))
  refine own_to (fun _ kz => X0.ldc2Long hx hown (mvT hZ (hw _ (List.mem_of_getElem? (i := 11) rfl))) (g := (mkF m 1 #[.val (.long x0), .second] [(.long x0)])) rfl (hb hby d2_1) _ kz) ?_
  show own_Fin p e below G (s₁.setTop (mkF m 4 #[.val (.long x0), .second] [(.long (128 : Int64)), (.long x0)]))
  refine own_to (fun _ kz => XS.lcmp X0.here hx rfl (hb hby d2_4) rfl kz) ?_
  show own_Fin p e below G (s₁.setTop (mkF m 5 #[.val (.long x0), .second] [(.int (lcmpW x0 (128 : Int64)))]))
  by_cases hc5 : x0 < (128 : Int64)
  · refine own_to (fun _ kz => XS.ifNo X0.here hx rfl (hb hby d2_5) rfl ((if0 _ _).trans (tlt ((lw_lt _ _).mpr hc5)).2.1) kz) ?_
    have q5t := q0.trans (if_pos hc5)
    show own_Fin p e below G (s₁.setTop (mkF m 8 #[.val (.long x0), .second] []))
    refine own_to (fun _ kz => XS.iconst X0.here hx rfl (hb hby d2_8) kz) ?_
    show own_Fin p e below G (s₁.setTop (mkF m 9 #[.val (.long x0), .second] [(.int (1 : Int32))]))
    exact own_retI X0 hx hlk hG Bd.returns (hb hby d2_9) (by decide) (by decide) ⟨(congrArg (fun z => some (Value.int z)) q5t).symm, N0, e0⟩
  · refine own_to (fun _ kz => XS.ifYes X0.here hx rfl (pc0 := 5) (pc' := 10) rfl (hb hby d2_5) rfl ((if0 _ _).trans (flt (fun q => hc5 ((lw_lt _ _).mp q))).2.1) (by decide) (by decide) kz) ?_
    have q5f := q0.trans (if_neg hc5)
    show own_Fin p e below G (s₁.setTop (mkF m 10 #[.val (.long x0), .second] []))
    refine own_to (fun _ kz => XS.lloadN X0.here hx rfl (hb hby d2_10) rfl  kz) ?_
    show own_Fin p e below G (s₁.setTop (mkF m 11 #[.val (.long x0), .second] [(.long x0)]))
    refine own_to (fun _ kz => X0.ldc2Long hx hown (mvT hZ (hw _ (List.mem_of_getElem? (i := 44) rfl))) (g := (mkF m 11 #[.val (.long x0), .second] [(.long x0)])) rfl (hb hby d2_11) _ kz) ?_
    show own_Fin p e below G (s₁.setTop (mkF m 14 #[.val (.long x0), .second] [(.long (16384 : Int64)), (.long x0)]))
    refine own_to (fun _ kz => XS.lcmp X0.here hx rfl (hb hby d2_14) rfl kz) ?_
    show own_Fin p e below G (s₁.setTop (mkF m 15 #[.val (.long x0), .second] [(.int (lcmpW x0 (16384 : Int64)))]))
    by_cases hc15 : x0 < (16384 : Int64)
    · refine own_to (fun _ kz => XS.ifNo X0.here hx rfl (hb hby d2_15) rfl ((if0 _ _).trans (tlt ((lw_lt _ _).mpr hc15)).2.1) kz) ?_
      have q15t := q5f.trans (if_pos hc15)
      show own_Fin p e below G (s₁.setTop (mkF m 18 #[.val (.long x0), .second] []))
      refine own_to (fun _ kz => XS.iconst X0.here hx rfl (hb hby d2_18) kz) ?_
      show own_Fin p e below G (s₁.setTop (mkF m 19 #[.val (.long x0), .second] [(.int (2 : Int32))]))
      exact own_retI X0 hx hlk hG Bd.returns (hb hby d2_19) (by decide) (by decide) ⟨(congrArg (fun z => some (Value.int z)) q15t).symm, N0, e0⟩
    · refine own_to (fun _ kz => XS.ifYes X0.here hx rfl (pc0 := 15) (pc' := 20) rfl (hb hby d2_15) rfl ((if0 _ _).trans (flt (fun q => hc15 ((lw_lt _ _).mp q))).2.1) (by decide) (by decide) kz) ?_
      have q15f := q5f.trans (if_neg hc15)
      show own_Fin p e below G (s₁.setTop (mkF m 20 #[.val (.long x0), .second] []))
      refine own_to (fun _ kz => XS.lloadN X0.here hx rfl (hb hby d2_20) rfl  kz) ?_
      show own_Fin p e below G (s₁.setTop (mkF m 21 #[.val (.long x0), .second] [(.long x0)]))
      refine own_to (fun _ kz => X0.ldc2Long hx hown (mvT hZ (hw _ (List.mem_of_getElem? (i := 45) rfl))) (g := (mkF m 21 #[.val (.long x0), .second] [(.long x0)])) rfl (hb hby d2_21) _ kz) ?_
      show own_Fin p e below G (s₁.setTop (mkF m 24 #[.val (.long x0), .second] [(.long (2097152 : Int64)), (.long x0)]))
      refine own_to (fun _ kz => XS.lcmp X0.here hx rfl (hb hby d2_24) rfl kz) ?_
      show own_Fin p e below G (s₁.setTop (mkF m 25 #[.val (.long x0), .second] [(.int (lcmpW x0 (2097152 : Int64)))]))
      by_cases hc25 : x0 < (2097152 : Int64)
      · refine own_to (fun _ kz => XS.ifNo X0.here hx rfl (hb hby d2_25) rfl ((if0 _ _).trans (tlt ((lw_lt _ _).mpr hc25)).2.1) kz) ?_
        have q25t := q15f.trans (if_pos hc25)
        show own_Fin p e below G (s₁.setTop (mkF m 28 #[.val (.long x0), .second] []))
        refine own_to (fun _ kz => XS.iconst X0.here hx rfl (hb hby d2_28) kz) ?_
        show own_Fin p e below G (s₁.setTop (mkF m 29 #[.val (.long x0), .second] [(.int (3 : Int32))]))
        exact own_retI X0 hx hlk hG Bd.returns (hb hby d2_29) (by decide) (by decide) ⟨(congrArg (fun z => some (Value.int z)) q25t).symm, N0, e0⟩
      · refine own_to (fun _ kz => XS.ifYes X0.here hx rfl (pc0 := 25) (pc' := 30) rfl (hb hby d2_25) rfl ((if0 _ _).trans (flt (fun q => hc25 ((lw_lt _ _).mp q))).2.1) (by decide) (by decide) kz) ?_
        have q25f := q15f.trans (if_neg hc25)
        show own_Fin p e below G (s₁.setTop (mkF m 30 #[.val (.long x0), .second] []))
        refine own_to (fun _ kz => XS.lloadN X0.here hx rfl (hb hby d2_30) rfl  kz) ?_
        show own_Fin p e below G (s₁.setTop (mkF m 31 #[.val (.long x0), .second] [(.long x0)]))
        refine own_to (fun _ kz => X0.ldc2Long hx hown (mvT hZ (hw _ (List.mem_of_getElem? (i := 46) rfl))) (g := (mkF m 31 #[.val (.long x0), .second] [(.long x0)])) rfl (hb hby d2_31) _ kz) ?_
        show own_Fin p e below G (s₁.setTop (mkF m 34 #[.val (.long x0), .second] [(.long (268435456 : Int64)), (.long x0)]))
        refine own_to (fun _ kz => XS.lcmp X0.here hx rfl (hb hby d2_34) rfl kz) ?_
        show own_Fin p e below G (s₁.setTop (mkF m 35 #[.val (.long x0), .second] [(.int (lcmpW x0 (268435456 : Int64)))]))
        by_cases hc35 : x0 < (268435456 : Int64)
        · refine own_to (fun _ kz => XS.ifNo X0.here hx rfl (hb hby d2_35) rfl ((if0 _ _).trans (tlt ((lw_lt _ _).mpr hc35)).2.1) kz) ?_
          have q35t := q25f.trans (if_pos hc35)
          show own_Fin p e below G (s₁.setTop (mkF m 38 #[.val (.long x0), .second] []))
          refine own_to (fun _ kz => XS.iconst X0.here hx rfl (hb hby d2_38) kz) ?_
          show own_Fin p e below G (s₁.setTop (mkF m 39 #[.val (.long x0), .second] [(.int (4 : Int32))]))
          exact own_retI X0 hx hlk hG Bd.returns (hb hby d2_39) (by decide) (by decide) ⟨(congrArg (fun z => some (Value.int z)) q35t).symm, N0, e0⟩
        · refine own_to (fun _ kz => XS.ifYes X0.here hx rfl (pc0 := 35) (pc' := 40) rfl (hb hby d2_35) rfl ((if0 _ _).trans (flt (fun q => hc35 ((lw_lt _ _).mp q))).2.1) (by decide) (by decide) kz) ?_
          have q35f := q25f.trans (if_neg hc35)
          show own_Fin p e below G (s₁.setTop (mkF m 40 #[.val (.long x0), .second] []))
          refine own_to (fun _ kz => XS.lloadN X0.here hx rfl (hb hby d2_40) rfl  kz) ?_
          show own_Fin p e below G (s₁.setTop (mkF m 41 #[.val (.long x0), .second] [(.long x0)]))
          refine own_to (fun _ kz => X0.ldc2Long hx hown (mvT hZ (hw _ (List.mem_of_getElem? (i := 47) rfl))) (g := (mkF m 41 #[.val (.long x0), .second] [(.long x0)])) rfl (hb hby d2_41) _ kz) ?_
          show own_Fin p e below G (s₁.setTop (mkF m 44 #[.val (.long x0), .second] [(.long (34359738368 : Int64)), (.long x0)]))
          refine own_to (fun _ kz => XS.lcmp X0.here hx rfl (hb hby d2_44) rfl kz) ?_
          show own_Fin p e below G (s₁.setTop (mkF m 45 #[.val (.long x0), .second] [(.int (lcmpW x0 (34359738368 : Int64)))]))
          by_cases hc45 : x0 < (34359738368 : Int64)
          · refine own_to (fun _ kz => XS.ifNo X0.here hx rfl (hb hby d2_45) rfl ((if0 _ _).trans (tlt ((lw_lt _ _).mpr hc45)).2.1) kz) ?_
            have q45t := q35f.trans (if_pos hc45)
            show own_Fin p e below G (s₁.setTop (mkF m 48 #[.val (.long x0), .second] []))
            refine own_to (fun _ kz => XS.iconst X0.here hx rfl (hb hby d2_48) kz) ?_
            show own_Fin p e below G (s₁.setTop (mkF m 49 #[.val (.long x0), .second] [(.int (5 : Int32))]))
            exact own_retI X0 hx hlk hG Bd.returns (hb hby d2_49) (by decide) (by decide) ⟨(congrArg (fun z => some (Value.int z)) q45t).symm, N0, e0⟩
          · refine own_to (fun _ kz => XS.ifYes X0.here hx rfl (pc0 := 45) (pc' := 50) rfl (hb hby d2_45) rfl ((if0 _ _).trans (flt (fun q => hc45 ((lw_lt _ _).mp q))).2.1) (by decide) (by decide) kz) ?_
            have q45f := q35f.trans (if_neg hc45)
            show own_Fin p e below G (s₁.setTop (mkF m 50 #[.val (.long x0), .second] []))
            refine own_to (fun _ kz => XS.lloadN X0.here hx rfl (hb hby d2_50) rfl  kz) ?_
            show own_Fin p e below G (s₁.setTop (mkF m 51 #[.val (.long x0), .second] [(.long x0)]))
            refine own_to (fun _ kz => X0.ldc2Long hx hown (mvT hZ (hw _ (List.mem_of_getElem? (i := 48) rfl))) (g := (mkF m 51 #[.val (.long x0), .second] [(.long x0)])) rfl (hb hby d2_51) _ kz) ?_
            show own_Fin p e below G (s₁.setTop (mkF m 54 #[.val (.long x0), .second] [(.long (4398046511104 : Int64)), (.long x0)]))
            refine own_to (fun _ kz => XS.lcmp X0.here hx rfl (hb hby d2_54) rfl kz) ?_
            show own_Fin p e below G (s₁.setTop (mkF m 55 #[.val (.long x0), .second] [(.int (lcmpW x0 (4398046511104 : Int64)))]))
            by_cases hc55 : x0 < (4398046511104 : Int64)
            · refine own_to (fun _ kz => XS.ifNo X0.here hx rfl (hb hby d2_55) rfl ((if0 _ _).trans (tlt ((lw_lt _ _).mpr hc55)).2.1) kz) ?_
              have q55t := q45f.trans (if_pos hc55)
              show own_Fin p e below G (s₁.setTop (mkF m 58 #[.val (.long x0), .second] []))
              refine own_to (fun _ kz => XS.bipush X0.here hx rfl (hb hby d2_58) kz) ?_
              show own_Fin p e below G (s₁.setTop (mkF m 60 #[.val (.long x0), .second] [(.int (6 : Int32))]))
              exact own_retI X0 hx hlk hG Bd.returns (hb hby d2_60) (by decide) (by decide) ⟨(congrArg (fun z => some (Value.int z)) q55t).symm, N0, e0⟩
            · refine own_to (fun _ kz => XS.ifYes X0.here hx rfl (pc0 := 55) (pc' := 61) rfl (hb hby d2_55) rfl ((if0 _ _).trans (flt (fun q => hc55 ((lw_lt _ _).mp q))).2.1) (by decide) (by decide) kz) ?_
              have q55f := q45f.trans (if_neg hc55)
              show own_Fin p e below G (s₁.setTop (mkF m 61 #[.val (.long x0), .second] []))
              refine own_to (fun _ kz => XS.lloadN X0.here hx rfl (hb hby d2_61) rfl  kz) ?_
              show own_Fin p e below G (s₁.setTop (mkF m 62 #[.val (.long x0), .second] [(.long x0)]))
              refine own_to (fun _ kz => X0.ldc2Long hx hown (mvT hZ (hw _ (List.mem_of_getElem? (i := 49) rfl))) (g := (mkF m 62 #[.val (.long x0), .second] [(.long x0)])) rfl (hb hby d2_62) _ kz) ?_
              show own_Fin p e below G (s₁.setTop (mkF m 65 #[.val (.long x0), .second] [(.long (562949953421312 : Int64)), (.long x0)]))
              refine own_to (fun _ kz => XS.lcmp X0.here hx rfl (hb hby d2_65) rfl kz) ?_
              show own_Fin p e below G (s₁.setTop (mkF m 66 #[.val (.long x0), .second] [(.int (lcmpW x0 (562949953421312 : Int64)))]))
              by_cases hc66 : x0 < (562949953421312 : Int64)
              · refine own_to (fun _ kz => XS.ifNo X0.here hx rfl (hb hby d2_66) rfl ((if0 _ _).trans (tlt ((lw_lt _ _).mpr hc66)).2.1) kz) ?_
                have q66t := q55f.trans (if_pos hc66)
                show own_Fin p e below G (s₁.setTop (mkF m 69 #[.val (.long x0), .second] []))
                refine own_to (fun _ kz => XS.bipush X0.here hx rfl (hb hby d2_69) kz) ?_
                show own_Fin p e below G (s₁.setTop (mkF m 71 #[.val (.long x0), .second] [(.int (7 : Int32))]))
                exact own_retI X0 hx hlk hG Bd.returns (hb hby d2_71) (by decide) (by decide) ⟨(congrArg (fun z => some (Value.int z)) q66t).symm, N0, e0⟩
              · refine own_to (fun _ kz => XS.ifYes X0.here hx rfl (pc0 := 66) (pc' := 72) rfl (hb hby d2_66) rfl ((if0 _ _).trans (flt (fun q => hc66 ((lw_lt _ _).mp q))).2.1) (by decide) (by decide) kz) ?_
                have q66f := q55f.trans (if_neg hc66)
                show own_Fin p e below G (s₁.setTop (mkF m 72 #[.val (.long x0), .second] []))
                refine own_to (fun _ kz => XS.lloadN X0.here hx rfl (hb hby d2_72) rfl  kz) ?_
                show own_Fin p e below G (s₁.setTop (mkF m 73 #[.val (.long x0), .second] [(.long x0)]))
                refine own_to (fun _ kz => X0.ldc2Long hx hown (mvT hZ (hw _ (List.mem_of_getElem? (i := 50) rfl))) (g := (mkF m 73 #[.val (.long x0), .second] [(.long x0)])) rfl (hb hby d2_73) _ kz) ?_
                show own_Fin p e below G (s₁.setTop (mkF m 76 #[.val (.long x0), .second] [(.long (72057594037927936 : Int64)), (.long x0)]))
                refine own_to (fun _ kz => XS.lcmp X0.here hx rfl (hb hby d2_76) rfl kz) ?_
                show own_Fin p e below G (s₁.setTop (mkF m 77 #[.val (.long x0), .second] [(.int (lcmpW x0 (72057594037927936 : Int64)))]))
                by_cases hc77 : x0 < (72057594037927936 : Int64)
                · refine own_to (fun _ kz => XS.ifNo X0.here hx rfl (hb hby d2_77) rfl ((if0 _ _).trans (tlt ((lw_lt _ _).mpr hc77)).2.1) kz) ?_
                  have q77t := q66f.trans (if_pos hc77)
                  show own_Fin p e below G (s₁.setTop (mkF m 80 #[.val (.long x0), .second] []))
                  refine own_to (fun _ kz => XS.bipush X0.here hx rfl (hb hby d2_80) kz) ?_
                  show own_Fin p e below G (s₁.setTop (mkF m 82 #[.val (.long x0), .second] [(.int (8 : Int32))]))
                  exact own_retI X0 hx hlk hG Bd.returns (hb hby d2_82) (by decide) (by decide) ⟨(congrArg (fun z => some (Value.int z)) q77t).symm, N0, e0⟩
                · refine own_to (fun _ kz => XS.ifYes X0.here hx rfl (pc0 := 77) (pc' := 83) rfl (hb hby d2_77) rfl ((if0 _ _).trans (flt (fun q => hc77 ((lw_lt _ _).mp q))).2.1) (by decide) (by decide) kz) ?_
                  have q77f := q66f.trans (if_neg hc77)
                  show own_Fin p e below G (s₁.setTop (mkF m 83 #[.val (.long x0), .second] []))
                  refine own_to (fun _ kz => XS.bipush X0.here hx rfl (hb hby d2_83) kz) ?_
                  show own_Fin p e below G (s₁.setTop (mkF m 85 #[.val (.long x0), .second] [(.int (9 : Int32))]))
                  exact own_retI X0 hx hlk hG Bd.returns (hb hby d2_85) (by decide) (by decide) ⟨(congrArg (fun z => some (Value.int z)) q77f).symm, N0, e0⟩
theorem own_pn2 : plainName "com/example/twigwright/twigwright/NumberReader" = true := by first | (simp [plainName, overriddenIn]; done) | decide +kernel
theorem d5_0 : decode prog_23_method_3_code 0 = .ok (.aload_n 0, 1) := by decide +kernel
theorem d5_1 : decode prog_23_method_3_code 1 = .ok (.aload_n 1, 1) := by decide +kernel
theorem d5_2 : decode prog_23_method_3_code 2 = .ok (.putfield 19, 3) := by decide +kernel
theorem d5_5 : decode prog_23_method_3_code 5 = .ok (.aload_n 0, 1) := by decide +kernel
theorem d5_6 : decode prog_23_method_3_code 6 = .ok (.iload_n 2, 1) := by decide +kernel
theorem d5_7 : decode prog_23_method_3_code 7 = .ok (.putfield 22, 3) := by decide +kernel
theorem d5_10 : decode prog_23_method_3_code 10 = .ok (.aload_n 0, 1) := by decide +kernel
theorem d5_11 : decode prog_23_method_3_code 11 = .ok (.iload_n 3, 1) := by decide +kernel
theorem d5_12 : decode prog_23_method_3_code 12 = .ok (.putfield 26, 3) := by decide +kernel
theorem d5_15 : decode prog_23_method_3_code 15 = .ok (.return_, 1) := by decide +kernel
theorem ef5 (m : MethodId) (ad0 : Addr) (ad1 : Addr) (p2 : Int32) (p3 : Int32) : entryFrame m #[(.ref ad0), (.ref ad1), (.int p2), (.int p3)] 4 = mkF m 0 #[.val (.ref ad0), .val (.ref ad1), .val (.int p2), .val (.int p3)] [] := by first | (simp [entryFrame, mkF, argsToLocals, Value.category]; done) | rfl
def Q5 (Z : State) (ad0 : Addr) (ad1 : Addr) (p2 : Int32) (p3 : Int32) (h0 : Heap) (n0 : Nat) (v : Option Value) (h : Heap) (L : List Loc) : Prop := v = none ∧ Fr n0 L ∧ Keep h0 h [ad0] ∧ Exa Z h ad0 "com/example/twigwright/twigwright/NumberReader" ∧ Fld Z h ad0 "com/example/twigwright/twigwright/NumberReader" "bytes" "[B" (.ref ad1) ∧ Fld Z h ad0 "com/example/twigwright/twigwright/NumberReader" "position" "I" (.int p2) ∧ Fld Z h ad0 "com/example/twigwright/twigwright/NumberReader" "limit" "I" (.int p3)
set_option maxRecDepth 65536 in
set_option maxHeartbeats 40000000 in
theorem rm5 (l : Launch) (Z : State) (a0 : Array Value) (hw : ∀ d ∈ tables_1, d.before a0 Z = true) (ws : List Jvm.Cond) (ad0 : Addr) (ad1 : Addr) (p2 : Int32) (p3 : Int32) (h0 : Heap) (n0 : Nat) (Z0 : n0 ≤ h0.size) (E_ad0 : Exa Z h0 ad0 "com/example/twigwright/twigwright/NumberReader") (F_bytes_ad0 : Fld Z h0 ad0 "com/example/twigwright/twigwright/NumberReader" "bytes" "[B" .null) (F_position_ad0 : Fld Z h0 ad0 "com/example/twigwright/twigwright/NumberReader" "position" "I" (.int (0 : Int32))) (F_limit_ad0 : Fld Z h0 ad0 "com/example/twigwright/twigwright/NumberReader" "limit" "I" (.int (0 : Int32))) (g_ad0 : n0 ≤ ad0) :
    MetFree l (⟨"com/example/twigwright/twigwright/NumberReader", "moveTo", "([BII)V"⟩ : MethodName) (head1 (Jvm.Cond.code (⟨"com/example/twigwright/twigwright/NumberReader", "moveTo", "([BII)V"⟩ : MethodName) prog_23_method_3_code 4 none :: ws) ({ frames := 0, cells := 0, slots := 0, locals := 0 } : Room)) (fun a U => a = #[(.ref ad0), (.ref ad1), (.int p2), (.int p3)] ∧ Z.Warmed39 U.vm ∧ U.heap = h0) (fun _ _ _ _ _ => True) (fun _ U o U' => ∃ v L, o = .returned v ∧ Q5 Z ad0 ad1 p2 p3 h0 n0 v U'.heap L ∧ FrameEnd U o U' L ({ frames := 0, cells := 0, slots := 0, locals := 0 } : Room).cells ({ frames := 0, cells := 0, slots := 0, locals := 0 } : Room).slots) := by
  refine MetFree.of_bodySF (plainFor_of_name own_pn2) hisR ?_
  intro p e s m args below meth c s₁ Bd hml0 hP hK
  obtain ⟨rfl, hZ, hh⟩ := hP
  have hx := Bd.exec
  have hby := Bd.bytes
  have hml : c.maxLocals = 4 := hml0
  have hown : s.vm.findClass "com/example/twigwright/twigwright/NumberReader" = some m.cls := findClass_of_methodNamed Bd.named
  have hnm := (name_of_methodNamed Bd.named Bd.method).1
  have hlk : meth.locks = false := BodyLoose.notSynchronized Bd
  have X0 : Stand p l e ({ frames := 0, cells := 0, slots := 0, locals := 0 } : Room) s m #[(.ref ad0), (.ref ad1), (.int p2), (.int p3)] below meth c s₁ [] 0 0 := Stand.of_body Bd
  have e0 : s₁.heap = h0 := by rw [← hh, Bd.state]; rfl
  have N0 := Fr.nil n0
  obtain ⟨G, hG⟩ : ∃ G, G = own_G s (Q5 Z ad0 ad1 p2 p3 h0 n0) ({ frames := 0, cells := 0, slots := 0, locals := 0 } : Room).cells ({ frames := 0, cells := 0, slots := 0, locals := 0 } : Room).slots := ⟨_, rfl⟩
  show own_Fin p e below (own_G s (Q5 Z ad0 ad1 p2 p3 h0 n0) ({ frames := 0, cells := 0, slots := 0, locals := 0 } : Room).cells ({ frames := 0, cells := 0, slots := 0, locals := 0 } : Room).slots) (s₁.setTop (entryFrame m #[(.ref ad0), (.ref ad1), (.int p2), (.int p3)] 4))
  rw [← hG]
  refine own_to (fun _ kz => castTop (ef5 m ad0 ad1 p2 p3) kz) ?_
  show own_Fin p e below G (s₁.setTop (mkF m 0 #[.val (.ref ad0), .val (.ref ad1), .val (.int p2), .val (.int p3)] []))
  refine own_to (fun _ kz => XS.aloadN X0.here hx rfl (hb hby d5_0) rfl (rfl)  kz) ?_
  show own_Fin p e below G (s₁.setTop (mkF m 1 #[.val (.ref ad0), .val (.ref ad1), .val (.int p2), .val (.int p3)] [(.ref ad0)]))
  refine own_to (fun _ kz => XS.aloadN X0.here hx rfl (hb hby d5_1) rfl (rfl)  kz) ?_
  show own_Fin p e below G (s₁.setTop (mkF m 2 #[.val (.ref ad0), .val (.ref ad1), .val (.int p2), .val (.int p3)] [(.ref ad1), (.ref ad0)]))
  obtain ⟨T2, h2, X2, e2, W2, st2⟩ := putF X0 hx hZ hown (host := "") (Or.inl (hw _ (List.mem_of_getElem? (i := 26) rfl))) Via.refl e0 F_bytes_ad0 E_ad0 (Or.inl (hw _ (List.mem_of_getElem? (i := 27) rfl))) (hw _ (List.mem_of_getElem? (i := 13) rfl)) (ty := (.array .byte)) (by decide) rfl rfl (g := (mkF m 2 #[.val (.ref ad0), .val (.ref ad1), .val (.int p2), .val (.int p3)] [(.ref ad1), (.ref ad0)])) rfl rfl (hb hby d5_2)
  refine own_to st2 ?_
  have Fw2 : Fld Z h2 ad0 "com/example/twigwright/twigwright/NumberReader" "bytes" "[B" (.ref ad1) := Fld.same W2 F_bytes_ad0
  obtain ⟨lo2, X2, N2⟩ : ∃ lo, Stand p l e _ s m _ below meth c T2 lo _ _ ∧ Fr n0 lo := ⟨_, X2, Fr.snoc X2 N0 g_ad0⟩
  show own_Fin p e below G (T2.setTop (mkF m 5 #[.val (.ref ad0), .val (.ref ad1), .val (.int p2), .val (.int p3)] []))
  refine own_to (fun _ kz => XS.aloadN X2.here hx rfl (hb hby d5_5) rfl (rfl)  kz) ?_
  show own_Fin p e below G (T2.setTop (mkF m 6 #[.val (.ref ad0), .val (.ref ad1), .val (.int p2), .val (.int p3)] [(.ref ad0)]))
  refine own_to (fun _ kz => XS.iloadN X2.here hx rfl (hb hby d5_6) rfl  kz) ?_
  show own_Fin p e below G (T2.setTop (mkF m 7 #[.val (.ref ad0), .val (.ref ad1), .val (.int p2), .val (.int p3)] [(.int p2), (.ref ad0)]))
  have E_ad0_at_7 : Exa Z h2 ad0 "com/example/twigwright/twigwright/NumberReader" := (E_ad0.wr W2)
  have F_position_ad0_at_7 : Fld Z h2 ad0 "com/example/twigwright/twigwright/NumberReader" "position" "I" (.int (0 : Int32)) := (F_position_ad0.other W2 (Or.inr (slot_ne (Or.inl (hw _ (List.mem_of_getElem? (i := 29) rfl))) (Or.inl (hw _ (List.mem_of_getElem? (i := 27) rfl))) (by decide) (t := .int) (t' := (.array .byte)) (by decide) (by decide))))
  obtain ⟨T7, h7, X7, e7, W7, st7⟩ := putF X2 hx hZ hown (host := "") (Or.inl (hw _ (List.mem_of_getElem? (i := 28) rfl))) Via.refl e2 F_position_ad0_at_7 E_ad0_at_7 (Or.inl (hw _ (List.mem_of_getElem? (i := 29) rfl))) (hw _ (List.mem_of_getElem? (i := 13) rfl)) (ty := .int) (by decide) rfl rfl (g := (mkF m 7 #[.val (.ref ad0), .val (.ref ad1), .val (.int p2), .val (.int p3)] [(.int p2), (.ref ad0)])) rfl rfl (hb hby d5_7)
  refine own_to st7 ?_
  have Fw7 : Fld Z h7 ad0 "com/example/twigwright/twigwright/NumberReader" "position" "I" (.int p2) := Fld.same W7 F_position_ad0_at_7
  obtain ⟨lo7, X7, N7⟩ : ∃ lo, Stand p l e _ s m _ below meth c T7 lo _ _ ∧ Fr n0 lo := ⟨_, X7, Fr.snoc X7 N2 g_ad0⟩
  show own_Fin p e below G (T7.setTop (mkF m 10 #[.val (.ref ad0), .val (.ref ad1), .val (.int p2), .val (.int p3)] []))
  refine own_to (fun _ kz => XS.aloadN X7.here hx rfl (hb hby d5_10) rfl (rfl)  kz) ?_
  show own_Fin p e below G (T7.setTop (mkF m 11 #[.val (.ref ad0), .val (.ref ad1), .val (.int p2), .val (.int p3)] [(.ref ad0)]))
  refine own_to (fun _ kz => XS.iloadN X7.here hx rfl (hb hby d5_11) rfl  kz) ?_
  show own_Fin p e below G (T7.setTop (mkF m 12 #[.val (.ref ad0), .val (.ref ad1), .val (.int p2), .val (.int p3)] [(.int p3), (.ref ad0)]))
  have E_ad0_at_12 : Exa Z h7 ad0 "com/example/twigwright/twigwright/NumberReader" := (E_ad0_at_7.wr W7)
  have F_limit_ad0_at_12 : Fld Z h7 ad0 "com/example/twigwright/twigwright/NumberReader" "limit" "I" (.int (0 : Int32)) := ((F_limit_ad0.other W2 (Or.inr (slot_ne (Or.inl (hw _ (List.mem_of_getElem? (i := 31) rfl))) (Or.inl (hw _ (List.mem_of_getElem? (i := 27) rfl))) (by decide) (t := .int) (t' := (.array .byte)) (by decide) (by decide)))).other W7 (Or.inr (slot_ne (Or.inl (hw _ (List.mem_of_getElem? (i := 31) rfl))) (Or.inl (hw _ (List.mem_of_getElem? (i := 29) rfl))) (by decide) (t := .int) (t' := .int) (by decide) (by decide))))
  obtain ⟨T12, h12, X12, e12, W12, st12⟩ := putF X7 hx hZ hown (host := "") (Or.inl (hw _ (List.mem_of_getElem? (i := 30) rfl))) Via.refl e7 F_limit_ad0_at_12 E_ad0_at_12 (Or.inl (hw _ (List.mem_of_getElem? (i := 31) rfl))) (hw _ (List.mem_of_getElem? (i := 13) rfl)) (ty := .int) (by decide) rfl rfl (g := (mkF m 12 #[.val (.ref ad0), .val (.ref ad1), .val (.int p2), .val (.int p3)] [(.int p3), (.ref ad0)])) rfl rfl (hb hby d5_12)
  refine own_to st12 ?_
  have Fw12 : Fld Z h12 ad0 "com/example/twigwright/twigwright/NumberReader" "limit" "I" (.int p3) := Fld.same W12 F_limit_ad0_at_12
  obtain ⟨lo12, X12, N12⟩ : ∃ lo, Stand p l e _ s m _ below meth c T12 lo _ _ ∧ Fr n0 lo := ⟨_, X12, Fr.snoc X12 N7 g_ad0⟩
  show own_Fin p e below G (T12.setTop (mkF m 15 #[.val (.ref ad0), .val (.ref ad1), .val (.int p2), .val (.int p3)] []))
  have KP_15 : Keep h0 h12 [ad0] := ((((Keep.refl h0 [ad0]).wr W2 (Or.inl (List.mem_of_getElem? (i := 0) rfl))).wr W7 (Or.inl (List.mem_of_getElem? (i := 0) rfl))).wr W12 (Or.inl (List.mem_of_getElem? (i := 0) rfl)))
  have E_ad0_at_15 : Exa Z h12 ad0 "com/example/twigwright/twigwright/NumberReader" := (E_ad0_at_12.wr W12)
  have Fw2_at_15 : Fld Z h12 ad0 "com/example/twigwright/twigwright/NumberReader" "bytes" "[B" (.ref ad1) := ((Fw2.other W7 (Or.inr (slot_ne (Or.inl (hw _ (List.mem_of_getElem? (i := 27) rfl))) (Or.inl (hw _ (List.mem_of_getElem? (i := 29) rfl))) (by decide) (t := (.array .byte)) (t' := .int) (by decide) (by decide)))).other W12 (Or.inr (slot_ne (Or.inl (hw _ (List.mem_of_getElem? (i := 27) rfl))) (Or.inl (hw _ (List.mem_of_getElem? (i := 31) rfl))) (by decide) (t := (.array .byte)) (t' := .int) (by decide) (by decide))))
  have Fw7_at_15 : Fld Z h12 ad0 "com/example/twigwright/twigwright/NumberReader" "position" "I" (.int p2) := (Fw7.other W12 (Or.inr (slot_ne (Or.inl (hw _ (List.mem_of_getElem? (i := 29) rfl))) (Or.inl (hw _ (List.mem_of_getElem? (i := 31) rfl))) (by decide) (t := .int) (t' := .int) (by decide) (by decide))))
  exact own_retV X12 hx hlk hG Bd.returns (hb hby d5_15) (by decide) (by decide) (by rw [e12]; exact ⟨rfl, N12, KP_15, E_ad0_at_15, Fw2_at_15, Fw7_at_15, Fw12⟩)
theorem own_pd0 : parseMethodDescriptor "([BII)V" = some ⟨[(.array .byte), .int, .int], none⟩ := by decide +kernel
theorem d3_0 : decode prog_23_method_2_code 0 = .ok (.aload_n 0, 1) := by decide +kernel
theorem d3_1 : decode prog_23_method_2_code 1 = .ok (.invokespecial 11, 3) := by decide +kernel
theorem d3_4 : decode prog_23_method_2_code 4 = .ok (.aload_n 0, 1) := by decide +kernel
theorem d3_5 : decode prog_23_method_2_code 5 = .ok (.aload_n 1, 1) := by decide +kernel
theorem d3_6 : decode prog_23_method_2_code 6 = .ok (.iload_n 2, 1) := by decide +kernel
theorem d3_7 : decode prog_23_method_2_code 7 = .ok (.iload_n 3, 1) := by decide +kernel
theorem d3_8 : decode prog_23_method_2_code 8 = .ok (.invokevirtual 16, 3) := by decide +kernel
theorem d3_11 : decode prog_23_method_2_code 11 = .ok (.return_, 1) := by decide +kernel
theorem ef3 (m : MethodId) (ad0 : Addr) (ad1 : Addr) (p2 : Int32) (p3 : Int32) : entryFrame m #[(.ref ad0), (.ref ad1), (.int p2), (.int p3)] 4 = mkF m 0 #[.val (.ref ad0), .val (.ref ad1), .val (.int p2), .val (.int p3)] [] := by first | (simp [entryFrame, mkF, argsToLocals, Value.category]; done) | rfl
def Q3 (Z : State) (ad0 : Addr) (ad1 : Addr) (p2 : Int32) (p3 : Int32) (h0 : Heap) (n0 : Nat) (v : Option Value) (h : Heap) (L : List Loc) : Prop := v = none ∧ Fr n0 L ∧ Keep h0 h [ad0] ∧ Exa Z h ad0 "com/example/twigwright/twigwright/NumberReader" ∧ Fld Z h ad0 "com/example/twigwright/twigwright/NumberReader" "bytes" "[B" (.ref ad1) ∧ Fld Z h ad0 "com/example/twigwright/twigwright/NumberReader" "position" "I" (.int p2) ∧ Fld Z h ad0 "com/example/twigwright/twigwright/NumberReader" "limit" "I" (.int p3)
set_option maxRecDepth 65536 in
set_option maxHeartbeats 40000000 in
theorem rm3 (l : Launch) (Z : State) (a0 : Array Value) (hw : ∀ d ∈ tables_1, d.before a0 Z = true) (ws : List Jvm.Cond) (ad0 : Addr) (ad1 : Addr) (p2 : Int32) (p3 : Int32) (h0 : Heap) (n0 : Nat) (Z0 : n0 ≤ h0.size) (E_ad0 : Exa Z h0 ad0 "com/example/twigwright/twigwright/NumberReader") (F_bytes_ad0 : Fld Z h0 ad0 "com/example/twigwright/twigwright/NumberReader" "bytes" "[B" .null) (F_position_ad0 : Fld Z h0 ad0 "com/example/twigwright/twigwright/NumberReader" "position" "I" (.int (0 : Int32))) (F_limit_ad0 : Fld Z h0 ad0 "com/example/twigwright/twigwright/NumberReader" "limit" "I" (.int (0 : Int32))) (g_ad0 : n0 ≤ ad0) :
    MetFree l (⟨"com/example/twigwright/twigwright/NumberReader", "<init>", "([BII)V"⟩ : MethodName) (head1 (Jvm.Cond.code (⟨"com/example/twigwright/twigwright/NumberReader", "<init>", "([BII)V"⟩ : MethodName) prog_23_method_2_code 4 none :: ws) ({ frames := 1, cells := 0, slots := 0, locals := 15 } : Room)) (fun a U => a = #[(.ref ad0), (.ref ad1), (.int p2), (.int p3)] ∧ Z.Warmed39 U.vm ∧ U.heap = h0) (fun _ _ _ _ _ => True) (fun _ U o U' => ∃ v L, o = .returned v ∧ Q3 Z ad0 ad1 p2 p3 h0 n0 v U'.heap L ∧ FrameEnd U o U' L ({ frames := 1, cells := 0, slots := 0, locals := 15 } : Room).cells ({ frames := 1, cells := 0, slots := 0, locals := 15 } : Room).slots) := by
  refine MetFree.of_bodySF (plainFor_of_name own_pn2) hisR ?_
  intro p e s m args below meth c s₁ Bd hml0 hP hK
  obtain ⟨rfl, hZ, hh⟩ := hP
  have hx := Bd.exec
  have hby := Bd.bytes
  have hml : c.maxLocals = 4 := hml0
  have hown : s.vm.findClass "com/example/twigwright/twigwright/NumberReader" = some m.cls := findClass_of_methodNamed Bd.named
  have hnm := (name_of_methodNamed Bd.named Bd.method).1
  have hlk : meth.locks = false := BodyLoose.notSynchronized Bd
  have X0 : Stand p l e ({ frames := 1, cells := 0, slots := 0, locals := 15 } : Room) s m #[(.ref ad0), (.ref ad1), (.int p2), (.int p3)] below meth c s₁ [] 0 0 := Stand.of_body Bd
  have e0 : s₁.heap = h0 := by rw [← hh, Bd.state]; rfl
  have N0 := Fr.nil n0
  obtain ⟨G, hG⟩ : ∃ G, G = own_G s (Q3 Z ad0 ad1 p2 p3 h0 n0) ({ frames := 1, cells := 0, slots := 0, locals := 15 } : Room).cells ({ frames := 1, cells := 0, slots := 0, locals := 15 } : Room).slots := ⟨_, rfl⟩
  show own_Fin p e below (own_G s (Q3 Z ad0 ad1 p2 p3 h0 n0) ({ frames := 1, cells := 0, slots := 0, locals := 15 } : Room).cells ({ frames := 1, cells := 0, slots := 0, locals := 15 } : Room).slots) (s₁.setTop (entryFrame m #[(.ref ad0), (.ref ad1), (.int p2), (.int p3)] 4))
  rw [← hG]
  refine own_to (fun _ kz => castTop (ef3 m ad0 ad1 p2 p3) kz) ?_
  show own_Fin p e below G (s₁.setTop (mkF m 0 #[.val (.ref ad0), .val (.ref ad1), .val (.int p2), .val (.int p3)] []))
  refine own_to (fun _ kz => XS.aloadN X0.here hx rfl (hb hby d3_0) rfl (rfl)  kz) ?_
  show own_Fin p e below G (s₁.setTop (mkF m 1 #[.val (.ref ad0), .val (.ref ad1), .val (.int p2), .val (.int p3)] [(.ref ad0)]))
  obtain ⟨T1, X1, e1, st1⟩ := initO X0 hx hZ hown (hw _ (List.mem_of_getElem? (i := 18) rfl)) (hw _ (List.mem_of_getElem? (i := 19) rfl)) (hw _ (List.mem_of_getElem? (i := 20) rfl)) e0 (g := (mkF m 1 #[.val (.ref ad0), .val (.ref ad1), .val (.int p2), .val (.int p3)] [(.ref ad0)])) rfl (by rw [hml]; rfl) rfl (hb hby d3_1) (by decide) (W := 0) (by show 2 * 0 + _ ≤ _; exact Nat.le_of_eq rfl) (by decide)
  refine own_to st1 ?_
  show own_Fin p e below G (T1.setTop (mkF m 4 #[.val (.ref ad0), .val (.ref ad1), .val (.int p2), .val (.int p3)] []))
  refine own_to (fun _ kz => XS.aloadN X1.here hx rfl (hb hby d3_4) rfl (rfl)  kz) ?_
  show own_Fin p e below G (T1.setTop (mkF m 5 #[.val (.ref ad0), .val (.ref ad1), .val (.int p2), .val (.int p3)] [(.ref ad0)]))
  refine own_to (fun _ kz => XS.aloadN X1.here hx rfl (hb hby d3_5) rfl (rfl)  kz) ?_
  show own_Fin p e below G (T1.setTop (mkF m 6 #[.val (.ref ad0), .val (.ref ad1), .val (.int p2), .val (.int p3)] [(.ref ad1), (.ref ad0)]))
  refine own_to (fun _ kz => XS.iloadN X1.here hx rfl (hb hby d3_6) rfl  kz) ?_
  show own_Fin p e below G (T1.setTop (mkF m 7 #[.val (.ref ad0), .val (.ref ad1), .val (.int p2), .val (.int p3)] [(.int p2), (.ref ad1), (.ref ad0)]))
  refine own_to (fun _ kz => XS.iloadN X1.here hx rfl (hb hby d3_7) rfl  kz) ?_
  show own_Fin p e below G (T1.setTop (mkF m 8 #[.val (.ref ad0), .val (.ref ad1), .val (.int p2), .val (.int p3)] [(.int p3), (.int p2), (.ref ad1), (.ref ad0)]))
  obtain ⟨cq8, kq8, qa8, qb8, qc8⟩ := isOf hZ e1 E_ad0
  obtain ⟨_, _, ⟨T8, L8, k8, n8⟩, -, X8, ⟨Lc8, hQ8, l8, y8, z8⟩, st8⟩ := X1.virtualBack hx (y := (⟨"com/example/twigwright/twigwright/NumberReader", "moveTo", "([BII)V"⟩ : MethodName)) (z := (⟨"com/example/twigwright/twigwright/NumberReader", "moveTo", "([BII)V"⟩ : MethodName)) hown (mvT hZ (hw _ (List.mem_of_getElem? (i := 21) rfl))) (mvT hZ (hw _ (List.mem_of_getElem? (i := 22) rfl))) (notFace_of_selects (args := #[]) (mvT hZ (hw _ (List.mem_of_getElem? (i := 24) rfl)))) (mvT hZ (hw _ (List.mem_of_getElem? (i := 24) rfl))) (mvT hZ (hw _ (List.mem_of_getElem? (i := 23) rfl))) (by decide) (backOf (W := 0) (rm5 l Z a0 hw [] ad0 ad1 p2 p3 h0 n0 Z0 E_ad0 F_bytes_ad0 F_position_ad0 F_limit_ad0 g_ad0) hZ (hw _ (List.mem_of_getElem? (i := 25) rfl)) (hw _ (List.mem_of_getElem? (i := 14) rfl)) (by decide) (by decide)) qa8 qc8 (g := (mkF m 8 #[.val (.ref ad0), .val (.ref ad1), .val (.int p2), .val (.int p3)] [(.int p3), (.int p2), (.ref ad1), (.ref ad0)])) rfl (by rw [hml]; rfl) (Steps.refl _) (argsL := [(.ref ad1), (.int p2), (.int p3)]) (rest := []) (lenOf own_pd0 rfl) rfl (by show 2 * 0 + _ ≤ _; exact Nat.le_of_eq rfl) (hb hby d3_8) (fun _ _ => ⟨rfl, e1, (by decide : 0 + 0 ≤ _), (by decide : 0 + 0 ≤ _)⟩)
  dsimp only [Pt.U, Pt.locs, Pt.cells, Pt.slots] at X8 l8 y8 z8 st8 hQ8
  subst l8 y8 z8
  obtain ⟨rfl, N8q, Kp8, P8_0, P8_1, P8_2, P8_3⟩ := hQ8
  obtain ⟨lo8, X8, N8⟩ : ∃ lo, Stand p l e _ s m _ below meth c T8 lo _ _ ∧ Fr n0 lo := ⟨_, X8, Fr.app N0 N8q⟩
  refine own_via st8 ?_
  show own_Fin p e below G (T8.setTop (mkF m 11 #[.val (.ref ad0), .val (.ref ad1), .val (.int p2), .val (.int p3)] []))
  have KP_11 : Keep h0 T8.heap [ad0] := ((Keep.refl h0 [ad0]).trans Kp8 (allS (Or.inl (List.mem_of_getElem? (i := 0) rfl)) all0))
  exact own_retV X8 hx hlk hG Bd.returns (hb hby d3_11) (by decide) (by decide) ⟨rfl, N8, KP_11, P8_0, P8_1, P8_2, P8_3⟩
theorem d7_0 : decode prog_23_method_4_code 0 = .ok (.aload_n 0, 1) := by decide +kernel
theorem d7_1 : decode prog_23_method_4_code 1 = .ok (.getfield 22, 3) := by decide +kernel
theorem d7_4 : decode prog_23_method_4_code 4 = .ok (.ireturn, 1) := by decide +kernel
theorem ef7 (m : MethodId) (ad0 : Addr) : entryFrame m #[(.ref ad0)] 1 = mkF m 0 #[.val (.ref ad0)] [] := by first | (simp [entryFrame, mkF, argsToLocals, Value.category]; done) | rfl
def f7 (ps : Int32) : Int32 := ps
def Q7 (Z : State) (ad0 : Addr) (ps : Int32) (h0 : Heap) (n0 : Nat) (v : Option Value) (h : Heap) (L : List Loc) : Prop := v = some (.int (f7 ps)) ∧ Fr n0 L ∧ h = h0
set_option maxRecDepth 65536 in
set_option maxHeartbeats 40000000 in
theorem rm7 (l : Launch) (Z : State) (a0 : Array Value) (hw : ∀ d ∈ tables_1, d.before a0 Z = true) (ws : List Jvm.Cond) (ad0 : Addr) (ps : Int32) (h0 : Heap) (n0 : Nat) (Z0 : n0 ≤ h0.size) (F_position_ad0 : Fld Z h0 ad0 "com/example/twigwright/twigwright/NumberReader" "position" "I" (.int ps)) :
    MetFree l (⟨"com/example/twigwright/twigwright/NumberReader", "position", "()I"⟩ : MethodName) (head1 (Jvm.Cond.code (⟨"com/example/twigwright/twigwright/NumberReader", "position", "()I"⟩ : MethodName) prog_23_method_4_code 1 (some .int) :: ws) ({ frames := 0, cells := 0, slots := 0, locals := 0 } : Room)) (fun a U => a = #[(.ref ad0)] ∧ Z.Warmed39 U.vm ∧ U.heap = h0) (fun _ _ _ _ _ => True) (fun _ U o U' => ∃ v L, o = .returned v ∧ Q7 Z ad0 ps h0 n0 v U'.heap L ∧ FrameEnd U o U' L ({ frames := 0, cells := 0, slots := 0, locals := 0 } : Room).cells ({ frames := 0, cells := 0, slots := 0, locals := 0 } : Room).slots) := by
  refine MetFree.of_bodySF (plainFor_of_name own_pn2) hisR ?_
  intro p e s m args below meth c s₁ Bd hml0 hP hK
  obtain ⟨rfl, hZ, hh⟩ := hP
  have hx := Bd.exec
  have hby := Bd.bytes
  have hml : c.maxLocals = 1 := hml0
  have hown : s.vm.findClass "com/example/twigwright/twigwright/NumberReader" = some m.cls := findClass_of_methodNamed Bd.named
  have hnm := (name_of_methodNamed Bd.named Bd.method).1
  have hlk : meth.locks = false := BodyLoose.notSynchronized Bd
  have X0 : Stand p l e ({ frames := 0, cells := 0, slots := 0, locals := 0 } : Room) s m #[(.ref ad0)] below meth c s₁ [] 0 0 := Stand.of_body Bd
  have e0 : s₁.heap = h0 := by rw [← hh, Bd.state]; rfl
  have N0 := Fr.nil n0
  obtain ⟨G, hG⟩ : ∃ G, G = own_G s (Q7 Z ad0 ps h0 n0) ({ frames := 0, cells := 0, slots := 0, locals := 0 } : Room).cells ({ frames := 0, cells := 0, slots := 0, locals := 0 } : Room).slots := ⟨_, rfl⟩
  show own_Fin p e below (own_G s (Q7 Z ad0 ps h0 n0) ({ frames := 0, cells := 0, slots := 0, locals := 0 } : Room).cells ({ frames := 0, cells := 0, slots := 0, locals := 0 } : Room).slots) (s₁.setTop (entryFrame m #[(.ref ad0)] 1))
  rw [← hG]
  refine own_to (fun _ kz => castTop (ef7 m ad0) kz) ?_
  have q0 : (f7 ps) = (f7 ps) := rfl
  show own_Fin p e below G (s₁.setTop (mkF m 0 #[.val (.ref ad0)] []))
  refine own_to (fun _ kz => XS.aloadN X0.here hx rfl (hb hby d7_0) rfl (rfl)  kz) ?_
  show own_Fin p e below G (s₁.setTop (mkF m 1 #[.val (.ref ad0)] [(.ref ad0)]))
  obtain ⟨T1, X1, e1, st1⟩ := getF X0 hx hZ hown (host := "") (Or.inl (hw _ (List.mem_of_getElem? (i := 28) rfl))) Via.refl e0 F_position_ad0 (g := (mkF m 1 #[.val (.ref ad0)] [(.ref ad0)])) rfl rfl (hb hby d7_1)
  refine own_to st1 ?_
  show own_Fin p e below G (T1.setTop (mkF m 4 #[.val (.ref ad0)] [(.int ps)]))
  exact own_retI X1 hx hlk hG Bd.returns (hb hby d7_4) (by decide) (by decide) ⟨(congrArg (fun z => some (Value.int z)) q0).symm, N0, e1⟩
theorem own_acc0 {S v : Int64} {b : Int32} (h0 : 0 ≤ v.toInt) (hS : S.toInt = v.toInt % 1) (hb : b.toInt % 128 = (v.toInt / 1) % 128) : (S ||| (((b &&& (127 : Int32)).toInt64) <<< (((7 : Int32) * (0 : Int32)) &&& 0x3f).toInt64)).toInt = v.toInt % 128 := by
  have m := c_mask b 127 7 (by decide) (by decide)
  have e7 : ((2 ^ 7 : Nat) : Int) = 128 := by decide
  rw [e7] at m
  have i := c_i2l (b &&& (127 : Int32))
  have s := c_lshl (b &&& (127 : Int32)).toInt64 ((7 : Int32) * (0 : Int32)) 0 (by decide)
  have e : ((2 ^ 0 : Nat) : Int) = 1 := by decide
  rw [e] at s
  have r := rng64 v
  have r1 := rng64 ((b &&& (127 : Int32)).toInt64 <<< (((7 : Int32) * (0 : Int32)) &&& 0x3f).toInt64)
  have o := c_orL' S ((b &&& (127 : Int32)).toInt64 <<< (((7 : Int32) * (0 : Int32)) &&& 0x3f).toInt64) 0 (by decide) 1 (by decide) (by omega) (by omega) (by omega)
  have r2 := rng64 (S ||| (((b &&& (127 : Int32)).toInt64) <<< (((7 : Int32) * (0 : Int32)) &&& 0x3f).toInt64))
  omega
theorem own_acc1 {S v : Int64} {b : Int32} (h0 : 0 ≤ v.toInt) (hS : S.toInt = v.toInt % 128) (hb : b.toInt % 128 = (v.toInt / 128) % 128) : (S ||| (((b &&& (127 : Int32)).toInt64) <<< (((7 : Int32) * (1 : Int32)) &&& 0x3f).toInt64)).toInt = v.toInt % 16384 := by
  have m := c_mask b 127 7 (by decide) (by decide)
  have e7 : ((2 ^ 7 : Nat) : Int) = 128 := by decide
  rw [e7] at m
  have i := c_i2l (b &&& (127 : Int32))
  have s := c_lshl (b &&& (127 : Int32)).toInt64 ((7 : Int32) * (1 : Int32)) 7 (by decide)
  have e : ((2 ^ 7 : Nat) : Int) = 128 := by decide
  rw [e] at s
  have r := rng64 v
  have r1 := rng64 ((b &&& (127 : Int32)).toInt64 <<< (((7 : Int32) * (1 : Int32)) &&& 0x3f).toInt64)
  have o := c_orL' S ((b &&& (127 : Int32)).toInt64 <<< (((7 : Int32) * (1 : Int32)) &&& 0x3f).toInt64) 7 (by decide) 128 (by decide) (by omega) (by omega) (by omega)
  have r2 := rng64 (S ||| (((b &&& (127 : Int32)).toInt64) <<< (((7 : Int32) * (1 : Int32)) &&& 0x3f).toInt64))
  omega
theorem own_acc2 {S v : Int64} {b : Int32} (h0 : 0 ≤ v.toInt) (hS : S.toInt = v.toInt % 16384) (hb : b.toInt % 128 = (v.toInt / 16384) % 128) : (S ||| (((b &&& (127 : Int32)).toInt64) <<< (((7 : Int32) * (2 : Int32)) &&& 0x3f).toInt64)).toInt = v.toInt % 2097152 := by
  have m := c_mask b 127 7 (by decide) (by decide)
  have e7 : ((2 ^ 7 : Nat) : Int) = 128 := by decide
  rw [e7] at m
  have i := c_i2l (b &&& (127 : Int32))
  have s := c_lshl (b &&& (127 : Int32)).toInt64 ((7 : Int32) * (2 : Int32)) 14 (by decide)
  have e : ((2 ^ 14 : Nat) : Int) = 16384 := by decide
  rw [e] at s
  have r := rng64 v
  have r1 := rng64 ((b &&& (127 : Int32)).toInt64 <<< (((7 : Int32) * (2 : Int32)) &&& 0x3f).toInt64)
  have o := c_orL' S ((b &&& (127 : Int32)).toInt64 <<< (((7 : Int32) * (2 : Int32)) &&& 0x3f).toInt64) 14 (by decide) 16384 (by decide) (by omega) (by omega) (by omega)
  have r2 := rng64 (S ||| (((b &&& (127 : Int32)).toInt64) <<< (((7 : Int32) * (2 : Int32)) &&& 0x3f).toInt64))
  omega
theorem own_acc3 {S v : Int64} {b : Int32} (h0 : 0 ≤ v.toInt) (hS : S.toInt = v.toInt % 2097152) (hb : b.toInt % 128 = (v.toInt / 2097152) % 128) : (S ||| (((b &&& (127 : Int32)).toInt64) <<< (((7 : Int32) * (3 : Int32)) &&& 0x3f).toInt64)).toInt = v.toInt % 268435456 := by
  have m := c_mask b 127 7 (by decide) (by decide)
  have e7 : ((2 ^ 7 : Nat) : Int) = 128 := by decide
  rw [e7] at m
  have i := c_i2l (b &&& (127 : Int32))
  have s := c_lshl (b &&& (127 : Int32)).toInt64 ((7 : Int32) * (3 : Int32)) 21 (by decide)
  have e : ((2 ^ 21 : Nat) : Int) = 2097152 := by decide
  rw [e] at s
  have r := rng64 v
  have r1 := rng64 ((b &&& (127 : Int32)).toInt64 <<< (((7 : Int32) * (3 : Int32)) &&& 0x3f).toInt64)
  have o := c_orL' S ((b &&& (127 : Int32)).toInt64 <<< (((7 : Int32) * (3 : Int32)) &&& 0x3f).toInt64) 21 (by decide) 2097152 (by decide) (by omega) (by omega) (by omega)
  have r2 := rng64 (S ||| (((b &&& (127 : Int32)).toInt64) <<< (((7 : Int32) * (3 : Int32)) &&& 0x3f).toInt64))
  omega
theorem own_acc4 {S v : Int64} {b : Int32} (h0 : 0 ≤ v.toInt) (hS : S.toInt = v.toInt % 268435456) (hb : b.toInt % 128 = (v.toInt / 268435456) % 128) : (S ||| (((b &&& (127 : Int32)).toInt64) <<< (((7 : Int32) * (4 : Int32)) &&& 0x3f).toInt64)).toInt = v.toInt % 34359738368 := by
  have m := c_mask b 127 7 (by decide) (by decide)
  have e7 : ((2 ^ 7 : Nat) : Int) = 128 := by decide
  rw [e7] at m
  have i := c_i2l (b &&& (127 : Int32))
  have s := c_lshl (b &&& (127 : Int32)).toInt64 ((7 : Int32) * (4 : Int32)) 28 (by decide)
  have e : ((2 ^ 28 : Nat) : Int) = 268435456 := by decide
  rw [e] at s
  have r := rng64 v
  have r1 := rng64 ((b &&& (127 : Int32)).toInt64 <<< (((7 : Int32) * (4 : Int32)) &&& 0x3f).toInt64)
  have o := c_orL' S ((b &&& (127 : Int32)).toInt64 <<< (((7 : Int32) * (4 : Int32)) &&& 0x3f).toInt64) 28 (by decide) 268435456 (by decide) (by omega) (by omega) (by omega)
  have r2 := rng64 (S ||| (((b &&& (127 : Int32)).toInt64) <<< (((7 : Int32) * (4 : Int32)) &&& 0x3f).toInt64))
  omega
theorem own_acc5 {S v : Int64} {b : Int32} (h0 : 0 ≤ v.toInt) (hS : S.toInt = v.toInt % 34359738368) (hb : b.toInt % 128 = (v.toInt / 34359738368) % 128) : (S ||| (((b &&& (127 : Int32)).toInt64) <<< (((7 : Int32) * (5 : Int32)) &&& 0x3f).toInt64)).toInt = v.toInt % 4398046511104 := by
  have m := c_mask b 127 7 (by decide) (by decide)
  have e7 : ((2 ^ 7 : Nat) : Int) = 128 := by decide
  rw [e7] at m
  have i := c_i2l (b &&& (127 : Int32))
  have s := c_lshl (b &&& (127 : Int32)).toInt64 ((7 : Int32) * (5 : Int32)) 35 (by decide)
  have e : ((2 ^ 35 : Nat) : Int) = 34359738368 := by decide
  rw [e] at s
  have r := rng64 v
  have r1 := rng64 ((b &&& (127 : Int32)).toInt64 <<< (((7 : Int32) * (5 : Int32)) &&& 0x3f).toInt64)
  have o := c_orL' S ((b &&& (127 : Int32)).toInt64 <<< (((7 : Int32) * (5 : Int32)) &&& 0x3f).toInt64) 35 (by decide) 34359738368 (by decide) (by omega) (by omega) (by omega)
  have r2 := rng64 (S ||| (((b &&& (127 : Int32)).toInt64) <<< (((7 : Int32) * (5 : Int32)) &&& 0x3f).toInt64))
  omega
theorem own_acc6 {S v : Int64} {b : Int32} (h0 : 0 ≤ v.toInt) (hS : S.toInt = v.toInt % 4398046511104) (hb : b.toInt % 128 = (v.toInt / 4398046511104) % 128) : (S ||| (((b &&& (127 : Int32)).toInt64) <<< (((7 : Int32) * (6 : Int32)) &&& 0x3f).toInt64)).toInt = v.toInt % 562949953421312 := by
  have m := c_mask b 127 7 (by decide) (by decide)
  have e7 : ((2 ^ 7 : Nat) : Int) = 128 := by decide
  rw [e7] at m
  have i := c_i2l (b &&& (127 : Int32))
  have s := c_lshl (b &&& (127 : Int32)).toInt64 ((7 : Int32) * (6 : Int32)) 42 (by decide)
  have e : ((2 ^ 42 : Nat) : Int) = 4398046511104 := by decide
  rw [e] at s
  have r := rng64 v
  have r1 := rng64 ((b &&& (127 : Int32)).toInt64 <<< (((7 : Int32) * (6 : Int32)) &&& 0x3f).toInt64)
  have o := c_orL' S ((b &&& (127 : Int32)).toInt64 <<< (((7 : Int32) * (6 : Int32)) &&& 0x3f).toInt64) 42 (by decide) 4398046511104 (by decide) (by omega) (by omega) (by omega)
  have r2 := rng64 (S ||| (((b &&& (127 : Int32)).toInt64) <<< (((7 : Int32) * (6 : Int32)) &&& 0x3f).toInt64))
  omega
theorem own_acc7 {S v : Int64} {b : Int32} (h0 : 0 ≤ v.toInt) (hS : S.toInt = v.toInt % 562949953421312) (hb : b.toInt % 128 = (v.toInt / 562949953421312) % 128) : (S ||| (((b &&& (127 : Int32)).toInt64) <<< (((7 : Int32) * (7 : Int32)) &&& 0x3f).toInt64)).toInt = v.toInt % 72057594037927936 := by
  have m := c_mask b 127 7 (by decide) (by decide)
  have e7 : ((2 ^ 7 : Nat) : Int) = 128 := by decide
  rw [e7] at m
  have i := c_i2l (b &&& (127 : Int32))
  have s := c_lshl (b &&& (127 : Int32)).toInt64 ((7 : Int32) * (7 : Int32)) 49 (by decide)
  have e : ((2 ^ 49 : Nat) : Int) = 562949953421312 := by decide
  rw [e] at s
  have r := rng64 v
  have r1 := rng64 ((b &&& (127 : Int32)).toInt64 <<< (((7 : Int32) * (7 : Int32)) &&& 0x3f).toInt64)
  have o := c_orL' S ((b &&& (127 : Int32)).toInt64 <<< (((7 : Int32) * (7 : Int32)) &&& 0x3f).toInt64) 49 (by decide) 562949953421312 (by decide) (by omega) (by omega) (by omega)
  have r2 := rng64 (S ||| (((b &&& (127 : Int32)).toInt64) <<< (((7 : Int32) * (7 : Int32)) &&& 0x3f).toInt64))
  omega
theorem own_acc8 {S v : Int64} {b : Int32} (h0 : 0 ≤ v.toInt) (hS : S.toInt = v.toInt % 72057594037927936) (hb : b.toInt % 128 = (v.toInt / 72057594037927936) % 128) : (S ||| (((b &&& (127 : Int32)).toInt64) <<< (((7 : Int32) * (8 : Int32)) &&& 0x3f).toInt64)).toInt = v.toInt % 9223372036854775808 := by
  have m := c_mask b 127 7 (by decide) (by decide)
  have e7 : ((2 ^ 7 : Nat) : Int) = 128 := by decide
  rw [e7] at m
  have i := c_i2l (b &&& (127 : Int32))
  have s := c_lshl (b &&& (127 : Int32)).toInt64 ((7 : Int32) * (8 : Int32)) 56 (by decide)
  have e : ((2 ^ 56 : Nat) : Int) = 72057594037927936 := by decide
  rw [e] at s
  have r := rng64 v
  have r1 := rng64 ((b &&& (127 : Int32)).toInt64 <<< (((7 : Int32) * (8 : Int32)) &&& 0x3f).toInt64)
  have o := c_orL' S ((b &&& (127 : Int32)).toInt64 <<< (((7 : Int32) * (8 : Int32)) &&& 0x3f).toInt64) 56 (by decide) 72057594037927936 (by decide) (by omega) (by omega) (by omega)
  have r2 := rng64 (S ||| (((b &&& (127 : Int32)).toInt64) <<< (((7 : Int32) * (8 : Int32)) &&& 0x3f).toInt64))
  omega
theorem own_acc {S v : Int64} {b i : Int32} {m : Nat} (h8 : m ≤ 8) (hi : i.toInt = m) (h0 : 0 ≤ v.toInt) (hS : S.toInt = v.toInt % own_p m) (hb : b.toInt % 128 = (v.toInt / own_p m) % 128) : (S ||| (((b &&& (127 : Int32)).toInt64) <<< (((7 : Int32) * i) &&& 0x3f).toInt64)).toInt = v.toInt % own_p (m + 1) := by
  have e : ∀ k : Int32, i.toInt = k.toInt → i = k := fun k h => Int32.toInt_inj.mp h
  rcases own_9 h8 with rfl | rfl | rfl | rfl | rfl | rfl | rfl | rfl | rfl
  · rw [e 0 hi]; exact own_acc0 h0 hS hb
  · rw [e 1 hi]; exact own_acc1 h0 hS hb
  · rw [e 2 hi]; exact own_acc2 h0 hS hb
  · rw [e 3 hi]; exact own_acc3 h0 hS hb
  · rw [e 4 hi]; exact own_acc4 h0 hS hb
  · rw [e 5 hi]; exact own_acc5 h0 hS hb
  · rw [e 6 hi]; exact own_acc6 h0 hS hb
  · rw [e 7 hi]; exact own_acc7 h0 hS hb
  · rw [e 8 hi]; exact own_acc8 h0 hS hb
def own_rd (f : Nat → Int32) (ps : Int32) (v : Int64) (j : Nat) : Prop := j ≤ 8 ∧ 0 ≤ v.toInt ∧ (0 ≤ ps.toInt ∧ ps.toInt ≤ 7) ∧ v.toInt / own_p j < 128 ∧ (∀ k, k < j → (f (ps.toNatClampNeg + k)).toInt = (v.toInt / own_p k) % 128 - 128) ∧ (f (ps.toNatClampNeg + j)).toInt = v.toInt / own_p j
theorem own_q0 {v : Int64} {j : Nat} (h8 : j ≤ 8) (h0 : 0 ≤ v.toInt) : 0 ≤ v.toInt / own_p j := by
  rcases own_9 h8 with rfl | rfl | rfl | rfl | rfl | rfl | rfl | rfl | rfl <;> simp only [own_p] at * <;> omega
theorem own_qv {v : Int64} {j : Nat} (h8 : j ≤ 8) (h0 : 0 ≤ v.toInt) (h : v.toInt / own_p j < 128) : v.toInt % own_p (j + 1) = v.toInt := by
  have r := rng64 v
  rcases own_9 h8 with rfl | rfl | rfl | rfl | rfl | rfl | rfl | rfl | rfl <;> simp only [own_p] at * <;> omega
section
variable {f : Nat → Int32} {ps0 ps i : Int32} {v S : Int64} {j m : Nat}
theorem own_rl (h : own_rd f ps0 v j) (hmj : m ≤ j) (hi : i.toInt = m) : i < (10 : Int32) ∧ ¬ i = (9 : Int32) := by
  have a := h.1; have e : (10 : Int32).toInt = 10 := by decide
  have e9 : (9 : Int32).toInt = 9 := by decide
  refine ⟨by rw [Int32.lt_iff_toInt_lt]; omega, fun q => ?_⟩
  rw [q] at hi; omega
theorem own_rp (h : own_rd f ps0 v j) (hmj : m ≤ j) (hp : ps.toInt = ps0.toInt + m) : ¬ ps = (20 : Int32) ∧ ¬ ps < 0 ∧ ps.toNatClampNeg < 20 ∧ ps.toNatClampNeg = ps0.toNatClampNeg + m ∧ (ps + (1 : Int32)).toInt = ps0.toInt + (m + 1 : Nat) := by
  obtain ⟨a, -, b, -⟩ := h
  have e := c_iadd ps 1; have r := rng32 (ps + 1); have o : (1 : Int32).toInt = 1 := by decide
  have c := own_natc (i := ps) (by omega); have d := own_natc b.1
  have e20 : (20 : Int32).toInt = 20 := by decide
  refine ⟨fun q => ?_, own_nneg (by omega), by omega, by omega, by omega⟩
  rw [q] at hp; omega
theorem own_rm (h : own_rd f ps0 v j) (hmj : m ≤ j) (hp : ps.toInt = ps0.toInt + m) : (f ps.toNatClampNeg).toInt % 128 = (v.toInt / own_p m) % 128 ∧ (f ps.toNatClampNeg < 0 ↔ m < j) := by
  have q := (own_rp h hmj hp).2.2.2.1
  obtain ⟨a, b, c, d, e, g⟩ := h
  rw [q, Int32.lt_iff_toInt_lt, own_z32]
  by_cases z : m = j
  · subst z; rw [g]; have := own_q0 a b; omega
  · have := e m (by omega); rw [this]; omega
theorem own_ri (h : own_rd f ps0 v j) (hmj : m ≤ j) (hi : i.toInt = m) : (i + (1 : Int32)).toInt = (m + 1 : Nat) := by
  have a := h.1
  have e := c_iadd i 1; have r := rng32 (i + 1); have o : (1 : Int32).toInt = 1 := by decide
  omega
theorem own_rs (h : own_rd f ps0 v j) (hmj : m ≤ j) (hi : i.toInt = m) (hp : ps.toInt = ps0.toInt + m) (hS : S.toInt = v.toInt % own_p m) : (S ||| (((f ps.toNatClampNeg) &&& (127 : Int32)).toInt64 <<< (((7 : Int32) * i) &&& 0x3f).toInt64)).toInt = v.toInt % own_p (m + 1) :=
  own_acc (Nat.le_trans hmj h.1) hi h.2.1 hS (own_rm h hmj hp).1
theorem own_rv (h : own_rd f ps0 v j) (hmj : m ≤ j) (hi : i.toInt = m) (hp : ps.toInt = ps0.toInt + m) (hS : S.toInt = v.toInt % own_p m) (hb : ¬ f ps.toNatClampNeg < 0) : m = j ∧ (S ||| (((f ps.toNatClampNeg) &&& (127 : Int32)).toInt64 <<< (((7 : Int32) * i) &&& 0x3f).toInt64)) = v := by
  have q : m = j := by
    by_cases z : m < j
    · exact absurd ((own_rm h hmj hp).2.mpr z) hb
    · omega
  refine ⟨q, Int64.toInt_inj.mp ?_⟩
  rw [own_rs h hmj hi hp hS, q]; exact own_qv h.1 h.2.1 h.2.2.2.1
end
theorem d6_0 : decode prog_23_method_7_code 0 = .ok (.lconst 0, 1) := by decide +kernel
theorem d6_1 : decode prog_23_method_7_code 1 = .ok (.lstore_n 1, 1) := by decide +kernel
theorem d6_2 : decode prog_23_method_7_code 2 = .ok (.iconst 0, 1) := by decide +kernel
theorem d6_3 : decode prog_23_method_7_code 3 = .ok (.istore_n 3, 1) := by decide +kernel
theorem d6_4 : decode prog_23_method_7_code 4 = .ok (.iload_n 3, 1) := by decide +kernel
theorem d6_5 : decode prog_23_method_7_code 5 = .ok (.bipush 10, 2) := by decide +kernel
theorem d6_7 : decode prog_23_method_7_code 7 = .ok (.if_icmp .ge 90, 3) := by decide +kernel
theorem d6_10 : decode prog_23_method_7_code 10 = .ok (.aload_n 0, 1) := by decide +kernel
theorem d6_11 : decode prog_23_method_7_code 11 = .ok (.getfield 22, 3) := by decide +kernel
theorem d6_14 : decode prog_23_method_7_code 14 = .ok (.aload_n 0, 1) := by decide +kernel
theorem d6_15 : decode prog_23_method_7_code 15 = .ok (.getfield 26, 3) := by decide +kernel
theorem d6_18 : decode prog_23_method_7_code 18 = .ok (.if_icmp .ne 13, 3) := by decide +kernel
theorem d6_31 : decode prog_23_method_7_code 31 = .ok (.aload_n 0, 1) := by decide +kernel
theorem d6_32 : decode prog_23_method_7_code 32 = .ok (.getfield 19, 3) := by decide +kernel
theorem d6_35 : decode prog_23_method_7_code 35 = .ok (.aload_n 0, 1) := by decide +kernel
theorem d6_36 : decode prog_23_method_7_code 36 = .ok (.dup, 1) := by decide +kernel
theorem d6_37 : decode prog_23_method_7_code 37 = .ok (.getfield 22, 3) := by decide +kernel
theorem d6_40 : decode prog_23_method_7_code 40 = .ok (.dup_x1, 1) := by decide +kernel
theorem d6_41 : decode prog_23_method_7_code 41 = .ok (.iconst 1, 1) := by decide +kernel
theorem d6_42 : decode prog_23_method_7_code 42 = .ok (.iadd, 1) := by decide +kernel
theorem d6_43 : decode prog_23_method_7_code 43 = .ok (.putfield 22, 3) := by decide +kernel
theorem d6_46 : decode prog_23_method_7_code 46 = .ok (.baload, 1) := by decide +kernel
theorem d6_47 : decode prog_23_method_7_code 47 = .ok (.istore 4, 2) := by decide +kernel
theorem d6_49 : decode prog_23_method_7_code 49 = .ok (.lload_n 1, 1) := by decide +kernel
theorem d6_50 : decode prog_23_method_7_code 50 = .ok (.iload 4, 2) := by decide +kernel
theorem d6_52 : decode prog_23_method_7_code 52 = .ok (.bipush 127, 2) := by decide +kernel
theorem d6_54 : decode prog_23_method_7_code 54 = .ok (.iand, 1) := by decide +kernel
theorem d6_55 : decode prog_23_method_7_code 55 = .ok (.i2l, 1) := by decide +kernel
theorem d6_56 : decode prog_23_method_7_code 56 = .ok (.bipush 7, 2) := by decide +kernel
theorem d6_58 : decode prog_23_method_7_code 58 = .ok (.iload_n 3, 1) := by decide +kernel
theorem d6_59 : decode prog_23_method_7_code 59 = .ok (.imul, 1) := by decide +kernel
theorem d6_60 : decode prog_23_method_7_code 60 = .ok (.lshl, 1) := by decide +kernel
theorem d6_61 : decode prog_23_method_7_code 61 = .ok (.lor, 1) := by decide +kernel
theorem d6_62 : decode prog_23_method_7_code 62 = .ok (.lstore_n 1, 1) := by decide +kernel
theorem d6_63 : decode prog_23_method_7_code 63 = .ok (.iload 4, 2) := by decide +kernel
theorem d6_65 : decode prog_23_method_7_code 65 = .ok (.ifCond .lt 26, 3) := by decide +kernel
theorem d6_68 : decode prog_23_method_7_code 68 = .ok (.iload_n 3, 1) := by decide +kernel
theorem d6_69 : decode prog_23_method_7_code 69 = .ok (.bipush 9, 2) := by decide +kernel
theorem d6_71 : decode prog_23_method_7_code 71 = .ok (.if_icmp .ne 18, 3) := by decide +kernel
theorem d6_89 : decode prog_23_method_7_code 89 = .ok (.lload_n 1, 1) := by decide +kernel
theorem d6_90 : decode prog_23_method_7_code 90 = .ok (.lreturn, 1) := by decide +kernel
theorem d6_91 : decode prog_23_method_7_code 91 = .ok (.iinc 3 1, 3) := by decide +kernel
theorem d6_94 : decode prog_23_method_7_code 94 = .ok (.goto (-90), 3) := by decide +kernel
theorem ef6 (m : MethodId) (ad0 : Addr) : entryFrame m #[(.ref ad0)] 5 = mkF m 0 #[.val (.ref ad0), .unset, .unset, .unset, .unset] [] := by first | (simp [entryFrame, mkF, argsToLocals, Value.category]; done) | rfl
def Q6 (Z : State) (ad0 : Addr) (ps0 : Int32) (f : Nat → Int32) (vv : Int64) (j : Nat) (ar : Addr) (h0 : Heap) (n0 : Nat) (v : Option Value) (h : Heap) (L : List Loc) : Prop := ∃ r : Int32, v = some (.long vv) ∧ Fr n0 L ∧ Keep h0 h [ad0] ∧ Exa Z h ad0 "com/example/twigwright/twigwright/NumberReader" ∧ Fld Z h ad0 "com/example/twigwright/twigwright/NumberReader" "position" "I" (.int r) ∧ r.toInt = ps0.toInt + (j + 1 : Nat)
set_option maxRecDepth 65536 in
set_option maxHeartbeats 40000000 in
theorem rm6 (l : Launch) (Z : State) (a0 : Array Value) (hw : ∀ d ∈ tables_1, d.before a0 Z = true) (ws : List Jvm.Cond) (ad0 : Addr) (ps0 : Int32) (f : Nat → Int32) (vv : Int64) (j : Nat) (ar : Addr) (h0 : Heap) (n0 : Nat) (Z0 : n0 ≤ h0.size) (E_ad0 : Exa Z h0 ad0 "com/example/twigwright/twigwright/NumberReader") (F_bytes_ad0 : Fld Z h0 ad0 "com/example/twigwright/twigwright/NumberReader" "bytes" "[B" (.ref ar)) (F_position_ad0 : Fld Z h0 ad0 "com/example/twigwright/twigwright/NumberReader" "position" "I" (.int ps0)) (F_limit_ad0 : Fld Z h0 ad0 "com/example/twigwright/twigwright/NumberReader" "limit" "I" (.int (20 : Int32))) (V_ar : own_AV Value.int Z h0 ar .byte 20 f) (g_ad0 : n0 ≤ ad0) (ne_ad0_ar : ad0 ≠ ar) (hrd : own_rd f ps0 vv j) :
    MetFree l (⟨"com/example/twigwright/twigwright/NumberReader", "next", "()J"⟩ : MethodName) (head1 (Jvm.Cond.code (⟨"com/example/twigwright/twigwright/NumberReader", "next", "()J"⟩ : MethodName) prog_23_method_7_code 5 (some .long) :: ws) ({ frames := 0, cells := 0, slots := 0, locals := 0 } : Room)) (fun a U => a = #[(.ref ad0)] ∧ Z.Warmed39 U.vm ∧ U.heap = h0) (fun _ _ _ _ _ => True) (fun _ U o U' => ∃ v L, o = .returned v ∧ Q6 Z ad0 ps0 f vv j ar h0 n0 v U'.heap L ∧ FrameEnd U o U' L ({ frames := 0, cells := 0, slots := 0, locals := 0 } : Room).cells ({ frames := 0, cells := 0, slots := 0, locals := 0 } : Room).slots) := by
  refine MetFree.of_bodySF (plainFor_of_name own_pn2) hisR ?_
  intro p e s m args below meth c s₁ Bd hml0 hP hK
  obtain ⟨rfl, hZ, hh⟩ := hP
  have hx := Bd.exec
  have hby := Bd.bytes
  have hml : c.maxLocals = 5 := hml0
  have hown : s.vm.findClass "com/example/twigwright/twigwright/NumberReader" = some m.cls := findClass_of_methodNamed Bd.named
  have hnm := (name_of_methodNamed Bd.named Bd.method).1
  have hlk : meth.locks = false := BodyLoose.notSynchronized Bd
  have X0 : Stand p l e ({ frames := 0, cells := 0, slots := 0, locals := 0 } : Room) s m #[(.ref ad0)] below meth c s₁ [] 0 0 := Stand.of_body Bd
  have e0 : s₁.heap = h0 := by rw [← hh, Bd.state]; rfl
  have N0 := Fr.nil n0
  obtain ⟨G, hG⟩ : ∃ G, G = own_G s (Q6 Z ad0 ps0 f vv j ar h0 n0) ({ frames := 0, cells := 0, slots := 0, locals := 0 } : Room).cells ({ frames := 0, cells := 0, slots := 0, locals := 0 } : Room).slots := ⟨_, rfl⟩
  show own_Fin p e below (own_G s (Q6 Z ad0 ps0 f vv j ar h0 n0) ({ frames := 0, cells := 0, slots := 0, locals := 0 } : Room).cells ({ frames := 0, cells := 0, slots := 0, locals := 0 } : Room).slots) (s₁.setTop (entryFrame m #[(.ref ad0)] 5))
  rw [← hG]
  refine own_to (fun _ kz => castTop (ef6 m ad0) kz) ?_
  show own_Fin p e below G (s₁.setTop (mkF m 0 #[.val (.ref ad0), .unset, .unset, .unset, .unset] []))
  refine own_to (fun _ kz => XS.lconst X0.here hx rfl (hb hby d6_0) kz) ?_
  show own_Fin p e below G (s₁.setTop (mkF m 1 #[.val (.ref ad0), .unset, .unset, .unset, .unset] [(.long (0 : Int64))]))
  refine own_to (fun _ kz => XS.lstoreN X0.here hx rfl (hb hby d6_1) rfl (l' := #[.val (.ref ad0), .val (.long (0 : Int64)), .second, .unset, .unset]) rfl kz) ?_
  show own_Fin p e below G (s₁.setTop (mkF m 2 #[.val (.ref ad0), .val (.long (0 : Int64)), .second, .unset, .unset] []))
  refine own_to (fun _ kz => XS.iconst X0.here hx rfl (hb hby d6_2) kz) ?_
  show own_Fin p e below G (s₁.setTop (mkF m 3 #[.val (.ref ad0), .val (.long (0 : Int64)), .second, .unset, .unset] [(.int (0 : Int32))]))
  refine own_to (fun _ kz => XS.istoreN X0.here hx rfl (hb hby d6_3) rfl (l' := #[.val (.ref ad0), .val (.long (0 : Int64)), .second, .val (.int (0 : Int32)), .unset]) rfl kz) ?_
  show own_Fin p e below G (s₁.setTop (mkF m 4 #[.val (.ref ad0), .val (.long (0 : Int64)), .second, .val (.int (0 : Int32)), .unset] []))
  have K4 : ∀ (k_4 : Nat) (m_ : Nat) (ps : Int32) (i : Int32) (S : Int64) (s4 : Slot) (T_j4 : State) (locs_j4 : List Loc) (N_j4 : Fr n0 locs_j4) (X_j4 : Stand p l e ({ frames := 0, cells := 0, slots := 0, locals := 0 } : Room) s m #[(.ref ad0)] below meth c T_j4 locs_j4 0 0) (h_j4 : Heap) (e_j4 : T_j4.heap = h_j4) (Z_j4 : n0 ≤ h_j4.size) (F0_j4 : Exa Z h_j4 ad0 "com/example/twigwright/twigwright/NumberReader") (F1_j4 : Fld Z h_j4 ad0 "com/example/twigwright/twigwright/NumberReader" "bytes" "[B" (.ref ar)) (F2_j4 : Fld Z h_j4 ad0 "com/example/twigwright/twigwright/NumberReader" "limit" "I" (.int (20 : Int32))) (F3_j4 : Fld Z h_j4 ad0 "com/example/twigwright/twigwright/NumberReader" "position" "I" (.int ps)) (F4_j4 : own_AV Value.int Z h_j4 ar .byte 20 f) (KP_j4 : Keep h0 h_j4 [ad0]) (hm_4 : j - m_ = k_4) (hmj : m_ ≤ j) (hi : i.toInt = m_) (hp : ps.toInt = ps0.toInt + m_) (hS : S.toInt = vv.toInt % own_p m_) (hs4 : One s4), own_Fin p e below G (T_j4.setTop (mkF m 4 #[.val (.ref ad0), .val (.long S), .second, .val (.int i), s4] [])) := by
    intro k_4
    induction k_4 using Nat.strongRecOn with
    | _ k_4 ih_4 =>
      intro m_ ps i S s4 T_j4 locs_j4 N_j4 X_j4 h_j4 e_j4 Z_j4 F0_j4 F1_j4 F2_j4 F3_j4 F4_j4 KP_j4 hm_4 hmj hi hp hS hs4
      refine own_to (fun _ kz => XS.iloadN X_j4.here hx rfl (hb hby d6_4) rfl  kz) ?_
      show own_Fin p e below G (T_j4.setTop (mkF m 5 #[.val (.ref ad0), .val (.long S), .second, .val (.int i), s4] [(.int i)]))
      refine own_to (fun _ kz => XS.bipush X_j4.here hx rfl (hb hby d6_5) kz) ?_
      show own_Fin p e below G (T_j4.setTop (mkF m 7 #[.val (.ref ad0), .val (.long S), .second, .val (.int i), s4] [(.int (10 : Int32)), (.int i)]))
      have hc7 : i < (10 : Int32) := (own_rl hrd hmj hi).1
      refine own_to (fun _ kz => XS.icmpNo X_j4.here hx rfl (hb hby d6_7) rfl (tlt hc7).2.1 kz) ?_
      show own_Fin p e below G (T_j4.setTop (mkF m 10 #[.val (.ref ad0), .val (.long S), .second, .val (.int i), s4] []))
      refine own_to (fun _ kz => XS.aloadN X_j4.here hx rfl (hb hby d6_10) rfl (rfl)  kz) ?_
      show own_Fin p e below G (T_j4.setTop (mkF m 11 #[.val (.ref ad0), .val (.long S), .second, .val (.int i), s4] [(.ref ad0)]))
      obtain ⟨T11, X11, e11, st11⟩ := getF X_j4 hx hZ hown (host := "") (Or.inl (hw _ (List.mem_of_getElem? (i := 28) rfl))) Via.refl e_j4 F3_j4 (g := (mkF m 11 #[.val (.ref ad0), .val (.long S), .second, .val (.int i), s4] [(.ref ad0)])) rfl rfl (hb hby d6_11)
      refine own_to st11 ?_
      show own_Fin p e below G (T11.setTop (mkF m 14 #[.val (.ref ad0), .val (.long S), .second, .val (.int i), s4] [(.int ps)]))
      refine own_to (fun _ kz => XS.aloadN X11.here hx rfl (hb hby d6_14) rfl (rfl)  kz) ?_
      show own_Fin p e below G (T11.setTop (mkF m 15 #[.val (.ref ad0), .val (.long S), .second, .val (.int i), s4] [(.ref ad0), (.int ps)]))
      obtain ⟨T15, X15, e15, st15⟩ := getF X11 hx hZ hown (host := "") (Or.inl (hw _ (List.mem_of_getElem? (i := 30) rfl))) Via.refl e11 F2_j4 (g := (mkF m 15 #[.val (.ref ad0), .val (.long S), .second, .val (.int i), s4] [(.ref ad0), (.int ps)])) rfl rfl (hb hby d6_15)
      refine own_to st15 ?_
      show own_Fin p e below G (T15.setTop (mkF m 18 #[.val (.ref ad0), .val (.long S), .second, .val (.int i), s4] [(.int (20 : Int32)), (.int ps)]))
      have hc18 : ¬ (ps = (20 : Int32)) := (own_rp hrd hmj hp).1
      refine own_to (fun _ kz => XS.icmpYes X15.here hx rfl (pc0 := 18) (pc' := 31) rfl (hb hby d6_18) rfl (feq hc18).2 (by decide) (by decide) kz) ?_
      show own_Fin p e below G (T15.setTop (mkF m 31 #[.val (.ref ad0), .val (.long S), .second, .val (.int i), s4] []))
      refine own_to (fun _ kz => XS.aloadN X15.here hx rfl (hb hby d6_31) rfl (rfl)  kz) ?_
      show own_Fin p e below G (T15.setTop (mkF m 32 #[.val (.ref ad0), .val (.long S), .second, .val (.int i), s4] [(.ref ad0)]))
      obtain ⟨T32, X32, e32, st32⟩ := getF X15 hx hZ hown (host := "") (Or.inl (hw _ (List.mem_of_getElem? (i := 26) rfl))) Via.refl e15 F1_j4 (g := (mkF m 32 #[.val (.ref ad0), .val (.long S), .second, .val (.int i), s4] [(.ref ad0)])) rfl rfl (hb hby d6_32)
      refine own_to st32 ?_
      show own_Fin p e below G (T32.setTop (mkF m 35 #[.val (.ref ad0), .val (.long S), .second, .val (.int i), s4] [(.ref ar)]))
      refine own_to (fun _ kz => XS.aloadN X32.here hx rfl (hb hby d6_35) rfl (rfl)  kz) ?_
      show own_Fin p e below G (T32.setTop (mkF m 36 #[.val (.ref ad0), .val (.long S), .second, .val (.int i), s4] [(.ref ad0), (.ref ar)]))
      refine own_to (fun _ kz => XS.dup X32.here hx rfl (hb hby d6_36) rfl rfl kz) ?_
      show own_Fin p e below G (T32.setTop (mkF m 37 #[.val (.ref ad0), .val (.long S), .second, .val (.int i), s4] [(.ref ad0), (.ref ad0), (.ref ar)]))
      obtain ⟨T37, X37, e37, st37⟩ := getF X32 hx hZ hown (host := "") (Or.inl (hw _ (List.mem_of_getElem? (i := 28) rfl))) Via.refl e32 F3_j4 (g := (mkF m 37 #[.val (.ref ad0), .val (.long S), .second, .val (.int i), s4] [(.ref ad0), (.ref ad0), (.ref ar)])) rfl rfl (hb hby d6_37)
      refine own_to st37 ?_
      show own_Fin p e below G (T37.setTop (mkF m 40 #[.val (.ref ad0), .val (.long S), .second, .val (.int i), s4] [(.int ps), (.ref ad0), (.ref ar)]))
      refine own_to (fun _ kz => XS.dupX1 X37.here hx rfl (hb hby d6_40) rfl rfl rfl kz) ?_
      show own_Fin p e below G (T37.setTop (mkF m 41 #[.val (.ref ad0), .val (.long S), .second, .val (.int i), s4] [(.int ps), (.ref ad0), (.int ps), (.ref ar)]))
      refine own_to (fun _ kz => XS.iconst X37.here hx rfl (hb hby d6_41) kz) ?_
      show own_Fin p e below G (T37.setTop (mkF m 42 #[.val (.ref ad0), .val (.long S), .second, .val (.int i), s4] [(.int (1 : Int32)), (.int ps), (.ref ad0), (.int ps), (.ref ar)]))
      refine own_to (fun _ kz => XS.iadd X37.here hx rfl (hb hby d6_42) rfl kz) ?_
      show own_Fin p e below G (T37.setTop (mkF m 43 #[.val (.ref ad0), .val (.long S), .second, .val (.int i), s4] [(.int (ps + (1 : Int32))), (.ref ad0), (.int ps), (.ref ar)]))
      obtain ⟨T43, h43, X43, e43, W43, st43⟩ := putF X37 hx hZ hown (host := "") (Or.inl (hw _ (List.mem_of_getElem? (i := 28) rfl))) Via.refl e37 F3_j4 F0_j4 (Or.inl (hw _ (List.mem_of_getElem? (i := 29) rfl))) (hw _ (List.mem_of_getElem? (i := 13) rfl)) (ty := .int) (by decide) rfl rfl (g := (mkF m 43 #[.val (.ref ad0), .val (.long S), .second, .val (.int i), s4] [(.int (ps + (1 : Int32))), (.ref ad0), (.int ps), (.ref ar)])) rfl rfl (hb hby d6_43)
      refine own_to st43 ?_
      have Fw43 : Fld Z h43 ad0 "com/example/twigwright/twigwright/NumberReader" "position" "I" (.int (ps + (1 : Int32))) := Fld.same W43 F3_j4
      obtain ⟨lo43, X43, N43⟩ : ∃ lo, Stand p l e _ s m _ below meth c T43 lo _ _ ∧ Fr n0 lo := ⟨_, X43, Fr.snoc X43 N_j4 g_ad0⟩
      show own_Fin p e below G (T43.setTop (mkF m 46 #[.val (.ref ad0), .val (.long S), .second, .val (.int i), s4] [(.int ps), (.ref ar)]))
      have F4_j4_at_46 : own_AV Value.int Z h43 ar .byte 20 f := (F4_j4.other W43 (Ne.symm ne_ad0_ar))
      refine own_to (fun _ kz => own_baload X43 hx hZ e43 F4_j4_at_46 (j := ps) (own_rp hrd hmj hp).2.1 rfl (own_rp hrd hmj hp).2.2.1 (g := (mkF m 46 #[.val (.ref ad0), .val (.long S), .second, .val (.int i), s4] [(.int ps), (.ref ar)])) rfl rfl (hb hby d6_46) kz) ?_
      show own_Fin p e below G (T43.setTop (mkF m 47 #[.val (.ref ad0), .val (.long S), .second, .val (.int i), s4] [(.int (f ps.toNatClampNeg))]))
      refine own_to (fun _ kz => XS.istore X43.here hx rfl (hb hby d6_47) rfl (l' := #[.val (.ref ad0), .val (.long S), .second, .val (.int i), .val (.int (f ps.toNatClampNeg))]) (XS.store1 rfl hs4 rfl) kz) ?_
      show own_Fin p e below G (T43.setTop (mkF m 49 #[.val (.ref ad0), .val (.long S), .second, .val (.int i), .val (.int (f ps.toNatClampNeg))] []))
      refine own_to (fun _ kz => XS.lloadN X43.here hx rfl (hb hby d6_49) rfl  kz) ?_
      show own_Fin p e below G (T43.setTop (mkF m 50 #[.val (.ref ad0), .val (.long S), .second, .val (.int i), .val (.int (f ps.toNatClampNeg))] [(.long S)]))
      refine own_to (fun _ kz => XS.iload X43.here hx rfl (hb hby d6_50) rfl  kz) ?_
      show own_Fin p e below G (T43.setTop (mkF m 52 #[.val (.ref ad0), .val (.long S), .second, .val (.int i), .val (.int (f ps.toNatClampNeg))] [(.int (f ps.toNatClampNeg)), (.long S)]))
      refine own_to (fun _ kz => XS.bipush X43.here hx rfl (hb hby d6_52) kz) ?_
      show own_Fin p e below G (T43.setTop (mkF m 54 #[.val (.ref ad0), .val (.long S), .second, .val (.int i), .val (.int (f ps.toNatClampNeg))] [(.int (127 : Int32)), (.int (f ps.toNatClampNeg)), (.long S)]))
      refine own_to (fun _ kz => XS.iand X43.here hx rfl (hb hby d6_54) rfl kz) ?_
      show own_Fin p e below G (T43.setTop (mkF m 55 #[.val (.ref ad0), .val (.long S), .second, .val (.int i), .val (.int (f ps.toNatClampNeg))] [(.int ((f ps.toNatClampNeg) &&& (127 : Int32))), (.long S)]))
      refine own_to (fun _ kz => XS.i2l X43.here hx rfl (hb hby d6_55) rfl kz) ?_
      show own_Fin p e below G (T43.setTop (mkF m 56 #[.val (.ref ad0), .val (.long S), .second, .val (.int i), .val (.int (f ps.toNatClampNeg))] [(.long (((f ps.toNatClampNeg) &&& (127 : Int32)).toInt64)), (.long S)]))
      refine own_to (fun _ kz => XS.bipush X43.here hx rfl (hb hby d6_56) kz) ?_
      show own_Fin p e below G (T43.setTop (mkF m 58 #[.val (.ref ad0), .val (.long S), .second, .val (.int i), .val (.int (f ps.toNatClampNeg))] [(.int (7 : Int32)), (.long (((f ps.toNatClampNeg) &&& (127 : Int32)).toInt64)), (.long S)]))
      refine own_to (fun _ kz => XS.iloadN X43.here hx rfl (hb hby d6_58) rfl  kz) ?_
      show own_Fin p e below G (T43.setTop (mkF m 59 #[.val (.ref ad0), .val (.long S), .second, .val (.int i), .val (.int (f ps.toNatClampNeg))] [(.int i), (.int (7 : Int32)), (.long (((f ps.toNatClampNeg) &&& (127 : Int32)).toInt64)), (.long S)]))
      refine own_to (fun _ kz => XS.imul X43.here hx rfl (hb hby d6_59) rfl kz) ?_
      show own_Fin p e below G (T43.setTop (mkF m 60 #[.val (.ref ad0), .val (.long S), .second, .val (.int i), .val (.int (f ps.toNatClampNeg))] [(.int ((7 : Int32) * i)), (.long (((f ps.toNatClampNeg) &&& (127 : Int32)).toInt64)), (.long S)]))
      refine own_to (fun _ kz => XS.lshl X43.here hx rfl (hb hby d6_60) rfl kz) ?_
      show own_Fin p e below G (T43.setTop (mkF m 61 #[.val (.ref ad0), .val (.long S), .second, .val (.int i), .val (.int (f ps.toNatClampNeg))] [(.long ((((f ps.toNatClampNeg) &&& (127 : Int32)).toInt64) <<< (((7 : Int32) * i) &&& 0x3f).toInt64)), (.long S)]))
      refine own_to (fun _ kz => XS.lor X43.here hx rfl (hb hby d6_61) rfl kz) ?_
      show own_Fin p e below G (T43.setTop (mkF m 62 #[.val (.ref ad0), .val (.long S), .second, .val (.int i), .val (.int (f ps.toNatClampNeg))] [(.long (S ||| ((((f ps.toNatClampNeg) &&& (127 : Int32)).toInt64) <<< (((7 : Int32) * i) &&& 0x3f).toInt64)))]))
      refine own_to (fun _ kz => XS.lstoreN X43.here hx rfl (hb hby d6_62) rfl (l' := #[.val (.ref ad0), .val (.long (S ||| ((((f ps.toNatClampNeg) &&& (127 : Int32)).toInt64) <<< (((7 : Int32) * i) &&& 0x3f).toInt64))), .second, .val (.int i), .val (.int (f ps.toNatClampNeg))]) rfl kz) ?_
      show own_Fin p e below G (T43.setTop (mkF m 63 #[.val (.ref ad0), .val (.long (S ||| ((((f ps.toNatClampNeg) &&& (127 : Int32)).toInt64) <<< (((7 : Int32) * i) &&& 0x3f).toInt64))), .second, .val (.int i), .val (.int (f ps.toNatClampNeg))] []))
      refine own_to (fun _ kz => XS.iload X43.here hx rfl (hb hby d6_63) rfl  kz) ?_
      show own_Fin p e below G (T43.setTop (mkF m 65 #[.val (.ref ad0), .val (.long (S ||| ((((f ps.toNatClampNeg) &&& (127 : Int32)).toInt64) <<< (((7 : Int32) * i) &&& 0x3f).toInt64))), .second, .val (.int i), .val (.int (f ps.toNatClampNeg))] [(.int (f ps.toNatClampNeg))]))
      by_cases hc65 : (f ps.toNatClampNeg) < (0 : Int32)
      · refine own_to (fun _ kz => XS.ifYes X43.here hx rfl (pc0 := 65) (pc' := 91) rfl (hb hby d6_65) rfl ((if0 _ _).trans (tlt hc65).1) (by decide) (by decide) kz) ?_
        show own_Fin p e below G (T43.setTop (mkF m 91 #[.val (.ref ad0), .val (.long (S ||| ((((f ps.toNatClampNeg) &&& (127 : Int32)).toInt64) <<< (((7 : Int32) * i) &&& 0x3f).toInt64))), .second, .val (.int i), .val (.int (f ps.toNatClampNeg))] []))
        refine own_to (fun _ kz => XS.iinc X43.here hx rfl (hb hby d6_91) rfl (l' := #[.val (.ref ad0), .val (.long (S ||| ((((f ps.toNatClampNeg) &&& (127 : Int32)).toInt64) <<< (((7 : Int32) * i) &&& 0x3f).toInt64))), .second, .val (.int (i + (1 : Int32))), .val (.int (f ps.toNatClampNeg))]) rfl kz) ?_
        show own_Fin p e below G (T43.setTop (mkF m 94 #[.val (.ref ad0), .val (.long (S ||| ((((f ps.toNatClampNeg) &&& (127 : Int32)).toInt64) <<< (((7 : Int32) * i) &&& 0x3f).toInt64))), .second, .val (.int (i + (1 : Int32))), .val (.int (f ps.toNatClampNeg))] []))
        refine own_to (fun _ kz => XS.goto X43.here hx rfl (pc0 := 94) (pc' := 4) rfl (hb hby d6_94) (by decide) (by decide) kz) ?_
        show own_Fin p e below G (T43.setTop (mkF m 4 #[.val (.ref ad0), .val (.long (S ||| ((((f ps.toNatClampNeg) &&& (127 : Int32)).toInt64) <<< (((7 : Int32) * i) &&& 0x3f).toInt64))), .second, .val (.int (i + (1 : Int32))), .val (.int (f ps.toNatClampNeg))] []))
        have Zz_94_W43 := Nat.le_trans Z_j4 (Nat.le_of_eq (Wr.size W43).symm)
        have Z_94 : n0 ≤ h43.size := Zz_94_W43
        have F0_j4_at_4 : Exa Z h43 ad0 "com/example/twigwright/twigwright/NumberReader" := (F0_j4.wr W43)
        have F1_j4_at_4 : Fld Z h43 ad0 "com/example/twigwright/twigwright/NumberReader" "bytes" "[B" (.ref ar) := (F1_j4.other W43 (Or.inr (slot_ne (Or.inl (hw _ (List.mem_of_getElem? (i := 27) rfl))) (Or.inl (hw _ (List.mem_of_getElem? (i := 29) rfl))) (by decide) (t := (.array .byte)) (t' := .int) (by decide) (by decide))))
        have F2_j4_at_4 : Fld Z h43 ad0 "com/example/twigwright/twigwright/NumberReader" "limit" "I" (.int (20 : Int32)) := (F2_j4.other W43 (Or.inr (slot_ne (Or.inl (hw _ (List.mem_of_getElem? (i := 31) rfl))) (Or.inl (hw _ (List.mem_of_getElem? (i := 29) rfl))) (by decide) (t := .int) (t' := .int) (by decide) (by decide))))
        have KP_4 : Keep h0 h43 [ad0] := (KP_j4.wr W43 (Or.inl (List.mem_of_getElem? (i := 0) rfl)))
        exact ih_4 _ (by have := (own_rm hrd hmj hp).2.mp hc65; omega) (m_ + 1) (ps + (1 : Int32)) (i + (1 : Int32)) (S ||| ((((f ps.toNatClampNeg) &&& (127 : Int32)).toInt64) <<< (((7 : Int32) * i) &&& 0x3f).toInt64)) (.val (.int (f ps.toNatClampNeg))) _ _ N43 X43 _ e43 Z_94 F0_j4_at_4 F1_j4_at_4 F2_j4_at_4 Fw43 F4_j4_at_46 KP_4 rfl ((own_rm hrd hmj hp).2.mp hc65) (own_ri hrd hmj hi) (own_rp hrd hmj hp).2.2.2.2 (own_rs hrd hmj hi hp hS) (One.val rfl)
      · refine own_to (fun _ kz => XS.ifNo X43.here hx rfl (hb hby d6_65) rfl ((if0 _ _).trans (flt hc65).1) kz) ?_
        show own_Fin p e below G (T43.setTop (mkF m 68 #[.val (.ref ad0), .val (.long (S ||| ((((f ps.toNatClampNeg) &&& (127 : Int32)).toInt64) <<< (((7 : Int32) * i) &&& 0x3f).toInt64))), .second, .val (.int i), .val (.int (f ps.toNatClampNeg))] []))
        refine own_to (fun _ kz => XS.iloadN X43.here hx rfl (hb hby d6_68) rfl  kz) ?_
        show own_Fin p e below G (T43.setTop (mkF m 69 #[.val (.ref ad0), .val (.long (S ||| ((((f ps.toNatClampNeg) &&& (127 : Int32)).toInt64) <<< (((7 : Int32) * i) &&& 0x3f).toInt64))), .second, .val (.int i), .val (.int (f ps.toNatClampNeg))] [(.int i)]))
        refine own_to (fun _ kz => XS.bipush X43.here hx rfl (hb hby d6_69) kz) ?_
        show own_Fin p e below G (T43.setTop (mkF m 71 #[.val (.ref ad0), .val (.long (S ||| ((((f ps.toNatClampNeg) &&& (127 : Int32)).toInt64) <<< (((7 : Int32) * i) &&& 0x3f).toInt64))), .second, .val (.int i), .val (.int (f ps.toNatClampNeg))] [(.int (9 : Int32)), (.int i)]))
        have hc71 : ¬ (i = (9 : Int32)) := (own_rl hrd hmj hi).2
        refine own_to (fun _ kz => XS.icmpYes X43.here hx rfl (pc0 := 71) (pc' := 89) rfl (hb hby d6_71) rfl (feq hc71).2 (by decide) (by decide) kz) ?_
        show own_Fin p e below G (T43.setTop (mkF m 89 #[.val (.ref ad0), .val (.long (S ||| ((((f ps.toNatClampNeg) &&& (127 : Int32)).toInt64) <<< (((7 : Int32) * i) &&& 0x3f).toInt64))), .second, .val (.int i), .val (.int (f ps.toNatClampNeg))] []))
        refine own_to (fun _ kz => XS.lloadN X43.here hx rfl (hb hby d6_89) rfl  kz) ?_
        show own_Fin p e below G (T43.setTop (mkF m 90 #[.val (.ref ad0), .val (.long (S ||| ((((f ps.toNatClampNeg) &&& (127 : Int32)).toInt64) <<< (((7 : Int32) * i) &&& 0x3f).toInt64))), .second, .val (.int i), .val (.int (f ps.toNatClampNeg))] [(.long (S ||| ((((f ps.toNatClampNeg) &&& (127 : Int32)).toInt64) <<< (((7 : Int32) * i) &&& 0x3f).toInt64)))]))
        obtain ⟨rfl, hvv⟩ := own_rv hrd hmj hi hp hS hc65
        have KP_90 : Keep h0 h43 [ad0] := (KP_j4.wr W43 (Or.inl (List.mem_of_getElem? (i := 0) rfl)))
        have F0_j4_at_90 : Exa Z h43 ad0 "com/example/twigwright/twigwright/NumberReader" := (F0_j4.wr W43)
        exact own_retJ X43 hx hlk hG Bd.returns (hb hby d6_90) (by decide) (by decide) (by rw [e43]; exact ⟨_, by rw [hvv], N43, KP_90, F0_j4_at_90, Fw43, (own_rp hrd hmj hp).2.2.2.2⟩)
  exact K4 _ 0 ps0 (0 : Int32) (0 : Int64) .unset _ _ N0 X0 _ e0 Z0 E_ad0 F_bytes_ad0 F_limit_ad0 F_position_ad0 V_ar (Keep.refl h0 [ad0]) rfl (Nat.zero_le _) (by decide) (by simp) (by simp [own_p, Int.emod_one]) One.u
theorem own_er {f xs : Nat → Int32} {p : Int32} {v : Int64} {j : Nat} (h0 : 0 ≤ v.toInt) (hp : 0 ≤ p.toInt ∧ p.toInt ≤ 7) (h : own_enc f xs p.toNatClampNeg v.toInt j) : own_rd f p v j := ⟨h.1, h0, hp, h.2.2.1, h.2.2.2.1, h.2.2.2.2.1⟩
set_option maxHeartbeats 16000000 in
theorem own_len {v : Int64} {f xs : Nat → Int32} {a j : Nat} (h0 : 0 ≤ v.toInt) (h : own_enc f xs a v.toInt j) : (f2 v).toInt = (j + 1 : Nat) := by
  obtain ⟨h8, hl, hs, -⟩ := h
  have e1 : (128 : Int64).toInt = 128 := by decide
  have e2 : (16384 : Int64).toInt = 16384 := by decide
  have e3 : (2097152 : Int64).toInt = 2097152 := by decide
  have e4 : (268435456 : Int64).toInt = 268435456 := by decide
  have e5 : (34359738368 : Int64).toInt = 34359738368 := by decide
  have e6 : (4398046511104 : Int64).toInt = 4398046511104 := by decide
  have e7 : (562949953421312 : Int64).toInt = 562949953421312 := by decide
  have e8 : (72057594037927936 : Int64).toInt = 72057594037927936 := by decide
  unfold f2
  simp only [Int64.lt_iff_toInt_lt, e1, e2, e3, e4, e5, e6, e7, e8]
  rcases own_9 h8 with rfl | rfl | rfl | rfl | rfl | rfl | rfl | rfl | rfl <;> simp only [own_p] at hl hs <;> repeat' split
  all_goals first | decide | (exfalso; omega)
theorem own_end {r p : Int32} {v : Int64} {f xs : Nat → Int32} {a j : Nat} (h0 : 0 ≤ v.toInt) (hp : 0 ≤ p.toInt ∧ p.toInt ≤ 7) (h : own_enc f xs a v.toInt j) (hr : r.toInt = p.toInt + (j + 1 : Nat)) : r = (p + (f2 v)) := by
  apply Int32.toInt_inj.mp
  have l := own_len h0 h; have h8 := h.1
  have e := c_iadd p (f2 v); have q := rng32 (p + f2 v)
  omega
theorem own_ri2 {r p : Int32} {v : Int64} {f xs : Nat → Int32} {j : Nat} (hp : 0 ≤ p.toInt ∧ p.toInt ≤ 7) (h : own_enc f xs p.toNatClampNeg v.toInt j) (hr : r.toInt = p.toInt + (j + 1 : Nat)) : ¬ r < 0 ∧ r.toNatClampNeg < 20 ∧ f r.toNatClampNeg = xs r.toNatClampNeg := by
  have h8 := h.1
  have a := own_natc (i := r) (by omega); have b := own_natc hp.1
  exact ⟨own_nneg (by omega), by omega, h.2.2.2.2.2 _ (by omega)⟩
theorem own_pm {p : Int32} {v : Int64} {f xs : Nat → Int32} {j : Nat} (hp : 0 ≤ p.toInt ∧ p.toInt ≤ 7) (hc : (0 : Int32) < p) (h : own_enc f xs p.toNatClampNeg v.toInt j) : ¬ (p - (1 : Int32)) < 0 ∧ (p - (1 : Int32)).toNatClampNeg < 20 ∧ f (p - (1 : Int32)).toNatClampNeg = xs (p - (1 : Int32)).toNatClampNeg := by
  rw [Int32.lt_iff_toInt_lt, own_z32] at hc
  have e := c_isub p 1; have r := rng32 (p - 1); have o : (1 : Int32).toInt = 1 := by decide
  have a := own_natc (i := p - 1) (by omega); have b := own_natc hp.1
  exact ⟨own_nneg (by omega), by omega, h.2.2.2.2.2 _ (by omega)⟩
theorem own_val (v : Int64) (s : Int32) : 0 ≤ (((v &&& (9223372036854775807 : Int64)).toUInt64 >>> ((s &&& (63 : Int32)) &&& 0x3f).toInt64.toUInt64).toInt64).toInt := by
  have a := c_maskL v 9223372036854775807 63 (by decide) (by decide)
  have e : ((2 ^ 63 : Nat) : Int) = 9223372036854775808 := by decide
  rw [e] at a
  generalize (v &&& (9223372036854775807 : Int64)) = x at *
  generalize ((s &&& (63 : Int32)) &&& 0x3f).toInt64.toUInt64 = b
  have h1 : x.toInt = x.toBitVec.toInt := rfl
  have h2 := BitVec.toInt_eq_toNat_cond x.toBitVec
  rw [← h1] at h2
  have h3 : x.toUInt64.toNat = x.toBitVec.toNat := rfl
  have h4 : (x.toUInt64 >>> b).toNat ≤ x.toUInt64.toNat := by rw [UInt64.toNat_shiftRight]; exact Nat.shiftRight_le _ _
  have h5 : ((x.toUInt64 >>> b).toInt64).toInt = ((x.toUInt64 >>> b).toBitVec).toInt := rfl
  have h6 := BitVec.toInt_eq_toNat_cond (x.toUInt64 >>> b).toBitVec
  have h7 : (x.toUInt64 >>> b).toBitVec.toNat = (x.toUInt64 >>> b).toNat := rfl
  rw [h5, h6, h7]
  have e64 : (2 ^ 64 : Nat) = 18446744073709551616 := by decide
  rw [e64] at h2 ⊢
  split at h2 <;> split <;> omega
theorem own_fl (x : Int32) : nar .byte (x.toInt8.toInt32) = x.toInt8.toInt32 := by
  show x.toInt8.toInt32.toInt8.toInt32 = _
  simp
theorem own_pd1 : parseMethodDescriptor "([BIJ)I" = some ⟨[(.array .byte), .int, .long], some .int⟩ := by decide +kernel
theorem own_pd2 : parseMethodDescriptor "(J)I" = some ⟨[.long], some .int⟩ := by decide +kernel
theorem own_pd3 : parseMethodDescriptor "()J" = some ⟨[], some .long⟩ := by decide +kernel
theorem own_pd4 : parseMethodDescriptor "()I" = some ⟨[], some .int⟩ := by decide +kernel
theorem ef0 (m : MethodId) (x0 : Int64) (p1 : Int32) (p2 : Int32) (p3 : Int32) : entryFrame m #[(.long x0), (.int p1), (.int p2), (.int p3)] maxLocals = mkF m 0 #[.val (.long x0), .second, .val (.int p1), .val (.int p2), .val (.int p3), .unset, .unset, .unset, .unset, .unset, .unset, .unset, .unset, .unset, .unset] [] := by first | (simp [entryFrame, mkF, argsToLocals, Value.category, maxLocals]; done) | rfl
def Q0 (Z : State) (x0 : Int64) (p1 : Int32) (p2 : Int32) (p3 : Int32) (h0 : Heap) (n0 : Nat) (v : Option Value) (h : Heap) (L : List Loc) : Prop := v = some (.int 1) ∧ Fr n0 L ∧ True
set_option maxRecDepth 65536 in
set_option maxHeartbeats 40000000 in
theorem rm0 (l : Launch) (Z : State) (a0 : Array Value) (hw : ∀ d ∈ tables_1, d.before a0 Z = true) (ws : List Jvm.Cond) (x0 : Int64) (p1 : Int32) (p2 : Int32) (p3 : Int32) (h0 : Heap) (n0 : Nat) (Z0 : n0 ≤ h0.size) :
    MetFree l x (head1 (Jvm.Cond.code x code maxLocals ret :: ws) room_1) (fun a U => a = #[(.long x0), (.int p1), (.int p2), (.int p3)] ∧ Z.Warmed39 U.vm ∧ U.heap = h0) (fun _ _ _ _ _ => True) (fun _ U o U' => ∃ v L, o = .returned v ∧ Q0 Z x0 p1 p2 p3 h0 n0 v U'.heap L ∧ FrameEnd U o U' L room_1.cells room_1.slots) := by
  refine MetFree.of_bodySF (plainFor_of_name own_pn1) hisR ?_
  intro p e s m args below meth c s₁ Bd hml0 hP hK
  obtain ⟨rfl, hZ, hh⟩ := hP
  have hx := Bd.exec
  have hby := Bd.bytes
  have hml : c.maxLocals = 15 := hml0
  have hown : s.vm.findClass "com/example/twigwright/twigwright/IntervalFileWriteNumberPinLaw" = some m.cls := findClass_of_methodNamed Bd.named
  have hnm := (name_of_methodNamed Bd.named Bd.method).1
  have hlk : meth.locks = false := BodyLoose.notSynchronized Bd
  have X0 : Stand p l e room_1 s m #[(.long x0), (.int p1), (.int p2), (.int p3)] below meth c s₁ [] 0 0 := Stand.of_body Bd
  have e0 : s₁.heap = h0 := by rw [← hh, Bd.state]; rfl
  have N0 := Fr.nil n0
  obtain ⟨G, hG⟩ : ∃ G, G = own_G s (Q0 Z x0 p1 p2 p3 h0 n0) room_1.cells room_1.slots := ⟨_, rfl⟩
  show own_Fin p e below (own_G s (Q0 Z x0 p1 p2 p3 h0 n0) room_1.cells room_1.slots) (s₁.setTop (entryFrame m #[(.long x0), (.int p1), (.int p2), (.int p3)] maxLocals))
  rw [← hG]
  refine own_to (fun _ kz => castTop (ef0 m x0 p1 p2 p3) kz) ?_
  show own_Fin p e below G (s₁.setTop (mkF m 0 #[.val (.long x0), .second, .val (.int p1), .val (.int p2), .val (.int p3), .unset, .unset, .unset, .unset, .unset, .unset, .unset, .unset, .unset, .unset] []))
  refine own_to (fun _ kz => XS.lloadN X0.here hx rfl (hb hby at_0) rfl  kz) ?_
  show own_Fin p e below G (s₁.setTop (mkF m 1 #[.val (.long x0), .second, .val (.int p1), .val (.int p2), .val (.int p3), .unset, .unset, .unset, .unset, .unset, .unset, .unset, .unset, .unset, .unset] [(.long x0)]))
  refine own_to (fun _ kz => X0.ldc2Long hx hown (mvT hZ (hw _ (List.mem_of_getElem? (i := 0) rfl))) (g := (mkF m 1 #[.val (.long x0), .second, .val (.int p1), .val (.int p2), .val (.int p3), .unset, .unset, .unset, .unset, .unset, .unset, .unset, .unset, .unset, .unset] [(.long x0)])) rfl (hb hby at_1) _ kz) ?_
  show own_Fin p e below G (s₁.setTop (mkF m 4 #[.val (.long x0), .second, .val (.int p1), .val (.int p2), .val (.int p3), .unset, .unset, .unset, .unset, .unset, .unset, .unset, .unset, .unset, .unset] [(.long (9223372036854775807 : Int64)), (.long x0)]))
  refine own_to (fun _ kz => XS.land X0.here hx rfl (hb hby at_4) rfl kz) ?_
  show own_Fin p e below G (s₁.setTop (mkF m 5 #[.val (.long x0), .second, .val (.int p1), .val (.int p2), .val (.int p3), .unset, .unset, .unset, .unset, .unset, .unset, .unset, .unset, .unset, .unset] [(.long (x0 &&& (9223372036854775807 : Int64)))]))
  refine own_to (fun _ kz => XS.iloadN X0.here hx rfl (hb hby at_5) rfl  kz) ?_
  show own_Fin p e below G (s₁.setTop (mkF m 6 #[.val (.long x0), .second, .val (.int p1), .val (.int p2), .val (.int p3), .unset, .unset, .unset, .unset, .unset, .unset, .unset, .unset, .unset, .unset] [(.int p1), (.long (x0 &&& (9223372036854775807 : Int64)))]))
  refine own_to (fun _ kz => XS.bipush X0.here hx rfl (hb hby at_6) kz) ?_
  show own_Fin p e below G (s₁.setTop (mkF m 8 #[.val (.long x0), .second, .val (.int p1), .val (.int p2), .val (.int p3), .unset, .unset, .unset, .unset, .unset, .unset, .unset, .unset, .unset, .unset] [(.int (63 : Int32)), (.int p1), (.long (x0 &&& (9223372036854775807 : Int64)))]))
  refine own_to (fun _ kz => XS.iand X0.here hx rfl (hb hby at_8) rfl kz) ?_
  show own_Fin p e below G (s₁.setTop (mkF m 9 #[.val (.long x0), .second, .val (.int p1), .val (.int p2), .val (.int p3), .unset, .unset, .unset, .unset, .unset, .unset, .unset, .unset, .unset, .unset] [(.int (p1 &&& (63 : Int32))), (.long (x0 &&& (9223372036854775807 : Int64)))]))
  refine own_to (fun _ kz => XS.lushr X0.here hx rfl (hb hby at_9) rfl kz) ?_
  show own_Fin p e below G (s₁.setTop (mkF m 10 #[.val (.long x0), .second, .val (.int p1), .val (.int p2), .val (.int p3), .unset, .unset, .unset, .unset, .unset, .unset, .unset, .unset, .unset, .unset] [(.long (((x0 &&& (9223372036854775807 : Int64)).toUInt64 >>> ((p1 &&& (63 : Int32)) &&& 0x3f).toInt64.toUInt64).toInt64))]))
  refine own_to (fun _ kz => XS.lstore X0.here hx rfl (hb hby at_10) rfl (l' := #[.val (.long x0), .second, .val (.int p1), .val (.int p2), .val (.int p3), .val (.long (((x0 &&& (9223372036854775807 : Int64)).toUInt64 >>> ((p1 &&& (63 : Int32)) &&& 0x3f).toInt64.toUInt64).toInt64)), .second, .unset, .unset, .unset, .unset, .unset, .unset, .unset, .unset]) rfl kz) ?_
  show own_Fin p e below G (s₁.setTop (mkF m 12 #[.val (.long x0), .second, .val (.int p1), .val (.int p2), .val (.int p3), .val (.long (((x0 &&& (9223372036854775807 : Int64)).toUInt64 >>> ((p1 &&& (63 : Int32)) &&& 0x3f).toInt64.toUInt64).toInt64)), .second, .unset, .unset, .unset, .unset, .unset, .unset, .unset, .unset] []))
  have K12 : ∀ (w5_12 : Int64) (jh0_12 : 0 ≤ w5_12.toInt), own_Fin p e below G (s₁.setTop (mkF m 12 #[.val (.long x0), .second, .val (.int p1), .val (.int p2), .val (.int p3), .val (.long w5_12), .second, .unset, .unset, .unset, .unset, .unset, .unset, .unset, .unset] [])) := by
    intro w5_12 jh0_12
    refine own_to (fun _ kz => XS.iloadN X0.here hx rfl (hb hby at_12) rfl  kz) ?_
    show own_Fin p e below G (s₁.setTop (mkF m 13 #[.val (.long x0), .second, .val (.int p1), .val (.int p2), .val (.int p3), .val (.long w5_12), .second, .unset, .unset, .unset, .unset, .unset, .unset, .unset, .unset] [(.int p2)]))
    refine own_to (fun _ kz => XS.bipush X0.here hx rfl (hb hby at_13) kz) ?_
    show own_Fin p e below G (s₁.setTop (mkF m 15 #[.val (.long x0), .second, .val (.int p1), .val (.int p2), .val (.int p3), .val (.long w5_12), .second, .unset, .unset, .unset, .unset, .unset, .unset, .unset, .unset] [(.int (7 : Int32)), (.int p2)]))
    refine own_to (fun _ kz => XS.iand X0.here hx rfl (hb hby at_15) rfl kz) ?_
    show own_Fin p e below G (s₁.setTop (mkF m 16 #[.val (.long x0), .second, .val (.int p1), .val (.int p2), .val (.int p3), .val (.long w5_12), .second, .unset, .unset, .unset, .unset, .unset, .unset, .unset, .unset] [(.int (p2 &&& (7 : Int32)))]))
    refine own_to (fun _ kz => XS.istore X0.here hx rfl (hb hby at_16) rfl (l' := #[.val (.long x0), .second, .val (.int p1), .val (.int p2), .val (.int p3), .val (.long w5_12), .second, .val (.int (p2 &&& (7 : Int32))), .unset, .unset, .unset, .unset, .unset, .unset, .unset]) rfl kz) ?_
    show own_Fin p e below G (s₁.setTop (mkF m 18 #[.val (.long x0), .second, .val (.int p1), .val (.int p2), .val (.int p3), .val (.long w5_12), .second, .val (.int (p2 &&& (7 : Int32))), .unset, .unset, .unset, .unset, .unset, .unset, .unset] []))
    refine own_to (fun _ kz => XS.iload X0.here hx rfl (hb hby at_18) rfl  kz) ?_
    show own_Fin p e below G (s₁.setTop (mkF m 20 #[.val (.long x0), .second, .val (.int p1), .val (.int p2), .val (.int p3), .val (.long w5_12), .second, .val (.int (p2 &&& (7 : Int32))), .unset, .unset, .unset, .unset, .unset, .unset, .unset] [(.int p3)]))
    refine own_to (fun _ kz => XS.i2b X0.here hx rfl (hb hby at_20) rfl kz) ?_
    show own_Fin p e below G (s₁.setTop (mkF m 21 #[.val (.long x0), .second, .val (.int p1), .val (.int p2), .val (.int p3), .val (.long w5_12), .second, .val (.int (p2 &&& (7 : Int32))), .unset, .unset, .unset, .unset, .unset, .unset, .unset] [(.int (p3.toInt8.toInt32))]))
    refine own_to (fun _ kz => XS.istore X0.here hx rfl (hb hby at_21) rfl (l' := #[.val (.long x0), .second, .val (.int p1), .val (.int p2), .val (.int p3), .val (.long w5_12), .second, .val (.int (p2 &&& (7 : Int32))), .val (.int (p3.toInt8.toInt32)), .unset, .unset, .unset, .unset, .unset, .unset]) rfl kz) ?_
    show own_Fin p e below G (s₁.setTop (mkF m 23 #[.val (.long x0), .second, .val (.int p1), .val (.int p2), .val (.int p3), .val (.long w5_12), .second, .val (.int (p2 &&& (7 : Int32))), .val (.int (p3.toInt8.toInt32)), .unset, .unset, .unset, .unset, .unset, .unset] []))
    have K23 : ∀ (v7_23 : Int32) (v8_23 : Int32) (jh0_23 : 0 ≤ v7_23.toInt ∧ v7_23.toInt ≤ 7) (jh1_23 : nar .byte v8_23 = v8_23), own_Fin p e below G (s₁.setTop (mkF m 23 #[.val (.long x0), .second, .val (.int p1), .val (.int p2), .val (.int p3), .val (.long w5_12), .second, .val (.int v7_23), .val (.int v8_23), .unset, .unset, .unset, .unset, .unset, .unset] [])) := by
      intro v7_23 v8_23 jh0_23 jh1_23
      refine own_to (fun _ kz => XS.bipush X0.here hx rfl (hb hby at_23) kz) ?_
      show own_Fin p e below G (s₁.setTop (mkF m 25 #[.val (.long x0), .second, .val (.int p1), .val (.int p2), .val (.int p3), .val (.long w5_12), .second, .val (.int v7_23), .val (.int v8_23), .unset, .unset, .unset, .unset, .unset, .unset] [(.int (20 : Int32))]))
      obtain ⟨T25, h25, k25, X25, e25, E25, A25, st25⟩ := newP X0 hx hZ (hw _ (List.mem_of_getElem? (i := 1) rfl)) e0 (g := (mkF m 25 #[.val (.long x0), .second, .val (.int p1), .val (.int p2), .val (.int p3), .val (.long w5_12), .second, .val (.int v7_23), .val (.int v8_23), .unset, .unset, .unset, .unset, .unset, .unset] [(.int (20 : Int32))])) rfl (hb hby at_25) rfl (by decide) (cap := 20) (by decide) (by decide) (by decide) (by decide)
      obtain ⟨b25, g25⟩ : ∃ z, z = h0.size := ⟨_, rfl⟩
      rw [← g25] at A25 st25
      refine own_to st25 ?_
      have g_b25 : n0 ≤ b25 := Nat.le_trans Z0 (Nat.le_of_eq g25.symm)
      have V25 : own_AV Value.int Z h25 b25 .byte 20 (fun _ => (0 : Int32)) := own_AV.new A25 (by decide) (by decide) (fun _ => rfl)
      show own_Fin p e below G (T25.setTop (mkF m 27 #[.val (.long x0), .second, .val (.int p1), .val (.int p2), .val (.int p3), .val (.long w5_12), .second, .val (.int v7_23), .val (.int v8_23), .unset, .unset, .unset, .unset, .unset, .unset] [(.ref b25)]))
      refine own_to (fun _ kz => XS.dup X25.here hx rfl (hb hby at_27) rfl rfl kz) ?_
      show own_Fin p e below G (T25.setTop (mkF m 28 #[.val (.long x0), .second, .val (.int p1), .val (.int p2), .val (.int p3), .val (.long w5_12), .second, .val (.int v7_23), .val (.int v8_23), .unset, .unset, .unset, .unset, .unset, .unset] [(.ref b25), (.ref b25)]))
      refine own_to (fun _ kz => XS.iconst X25.here hx rfl (hb hby at_28) kz) ?_
      show own_Fin p e below G (T25.setTop (mkF m 29 #[.val (.long x0), .second, .val (.int p1), .val (.int p2), .val (.int p3), .val (.long w5_12), .second, .val (.int v7_23), .val (.int v8_23), .unset, .unset, .unset, .unset, .unset, .unset] [(.int (0 : Int32)), (.ref b25), (.ref b25)]))
      refine own_to (fun _ kz => XS.iload X25.here hx rfl (hb hby at_29) rfl  kz) ?_
      show own_Fin p e below G (T25.setTop (mkF m 31 #[.val (.long x0), .second, .val (.int p1), .val (.int p2), .val (.int p3), .val (.long w5_12), .second, .val (.int v7_23), .val (.int v8_23), .unset, .unset, .unset, .unset, .unset, .unset] [(.int v8_23), (.int (0 : Int32)), (.ref b25), (.ref b25)]))
      obtain ⟨nn31, cl31, Ar31, Sz31, Hs31⟩ := V25
      obtain ⟨T31, h31, X31, e31, W31, st31⟩ := stB X25 hx hZ e25 Ar31 (j := (0 : Int32)) (own_in Sz31 (by decide) rfl (by decide)) (g := (mkF m 31 #[.val (.long x0), .second, .val (.int p1), .val (.int p2), .val (.int p3), .val (.long w5_12), .second, .val (.int v7_23), .val (.int v8_23), .unset, .unset, .unset, .unset, .unset, .unset] [(.int v8_23), (.int (0 : Int32)), (.ref b25), (.ref b25)])) rfl rfl (hb hby at_31)
      refine own_to st31 ?_
      have V31 : own_AV Value.int Z h31 b25 .byte 20 (own_upd (fun _ => (0 : Int32)) 0 (nar .byte v8_23)) := own_AV.set nn31 Ar31 Sz31 Hs31 W31 rfl
      obtain ⟨lo31, X31, N31⟩ : ∃ lo, Stand p l e _ s m _ below meth c T31 lo _ _ ∧ Fr n0 lo := ⟨_, X31, Fr.snoc X31 N0 g_b25⟩
      show own_Fin p e below G (T31.setTop (mkF m 32 #[.val (.long x0), .second, .val (.int p1), .val (.int p2), .val (.int p3), .val (.long w5_12), .second, .val (.int v7_23), .val (.int v8_23), .unset, .unset, .unset, .unset, .unset, .unset] [(.ref b25)]))
      refine own_to (fun _ kz => XS.dup X31.here hx rfl (hb hby at_32) rfl rfl kz) ?_
      show own_Fin p e below G (T31.setTop (mkF m 33 #[.val (.long x0), .second, .val (.int p1), .val (.int p2), .val (.int p3), .val (.long w5_12), .second, .val (.int v7_23), .val (.int v8_23), .unset, .unset, .unset, .unset, .unset, .unset] [(.ref b25), (.ref b25)]))
      refine own_to (fun _ kz => XS.iconst X31.here hx rfl (hb hby at_33) kz) ?_
      show own_Fin p e below G (T31.setTop (mkF m 34 #[.val (.long x0), .second, .val (.int p1), .val (.int p2), .val (.int p3), .val (.long w5_12), .second, .val (.int v7_23), .val (.int v8_23), .unset, .unset, .unset, .unset, .unset, .unset] [(.int (1 : Int32)), (.ref b25), (.ref b25)]))
      refine own_to (fun _ kz => XS.iload X31.here hx rfl (hb hby at_34) rfl  kz) ?_
      show own_Fin p e below G (T31.setTop (mkF m 36 #[.val (.long x0), .second, .val (.int p1), .val (.int p2), .val (.int p3), .val (.long w5_12), .second, .val (.int v7_23), .val (.int v8_23), .unset, .unset, .unset, .unset, .unset, .unset] [(.int v8_23), (.int (1 : Int32)), (.ref b25), (.ref b25)]))
      obtain ⟨nn36, cl36, Ar36, Sz36, Hs36⟩ := V31
      obtain ⟨T36, h36, X36, e36, W36, st36⟩ := stB X31 hx hZ e31 Ar36 (j := (1 : Int32)) (own_in Sz36 (by decide) rfl (by decide)) (g := (mkF m 36 #[.val (.long x0), .second, .val (.int p1), .val (.int p2), .val (.int p3), .val (.long w5_12), .second, .val (.int v7_23), .val (.int v8_23), .unset, .unset, .unset, .unset, .unset, .unset] [(.int v8_23), (.int (1 : Int32)), (.ref b25), (.ref b25)])) rfl rfl (hb hby at_36)
      refine own_to st36 ?_
      have V36 : own_AV Value.int Z h36 b25 .byte 20 (own_upd (own_upd (fun _ => (0 : Int32)) 0 (nar .byte v8_23)) 1 (nar .byte v8_23)) := own_AV.set nn36 Ar36 Sz36 Hs36 W36 rfl
      obtain ⟨lo36, X36, N36⟩ : ∃ lo, Stand p l e _ s m _ below meth c T36 lo _ _ ∧ Fr n0 lo := ⟨_, X36, Fr.snoc X36 N31 g_b25⟩
      show own_Fin p e below G (T36.setTop (mkF m 37 #[.val (.long x0), .second, .val (.int p1), .val (.int p2), .val (.int p3), .val (.long w5_12), .second, .val (.int v7_23), .val (.int v8_23), .unset, .unset, .unset, .unset, .unset, .unset] [(.ref b25)]))
      refine own_to (fun _ kz => XS.dup X36.here hx rfl (hb hby at_37) rfl rfl kz) ?_
      show own_Fin p e below G (T36.setTop (mkF m 38 #[.val (.long x0), .second, .val (.int p1), .val (.int p2), .val (.int p3), .val (.long w5_12), .second, .val (.int v7_23), .val (.int v8_23), .unset, .unset, .unset, .unset, .unset, .unset] [(.ref b25), (.ref b25)]))
      refine own_to (fun _ kz => XS.iconst X36.here hx rfl (hb hby at_38) kz) ?_
      show own_Fin p e below G (T36.setTop (mkF m 39 #[.val (.long x0), .second, .val (.int p1), .val (.int p2), .val (.int p3), .val (.long w5_12), .second, .val (.int v7_23), .val (.int v8_23), .unset, .unset, .unset, .unset, .unset, .unset] [(.int (2 : Int32)), (.ref b25), (.ref b25)]))
      refine own_to (fun _ kz => XS.iload X36.here hx rfl (hb hby at_39) rfl  kz) ?_
      show own_Fin p e below G (T36.setTop (mkF m 41 #[.val (.long x0), .second, .val (.int p1), .val (.int p2), .val (.int p3), .val (.long w5_12), .second, .val (.int v7_23), .val (.int v8_23), .unset, .unset, .unset, .unset, .unset, .unset] [(.int v8_23), (.int (2 : Int32)), (.ref b25), (.ref b25)]))
      obtain ⟨nn41, cl41, Ar41, Sz41, Hs41⟩ := V36
      obtain ⟨T41, h41, X41, e41, W41, st41⟩ := stB X36 hx hZ e36 Ar41 (j := (2 : Int32)) (own_in Sz41 (by decide) rfl (by decide)) (g := (mkF m 41 #[.val (.long x0), .second, .val (.int p1), .val (.int p2), .val (.int p3), .val (.long w5_12), .second, .val (.int v7_23), .val (.int v8_23), .unset, .unset, .unset, .unset, .unset, .unset] [(.int v8_23), (.int (2 : Int32)), (.ref b25), (.ref b25)])) rfl rfl (hb hby at_41)
      refine own_to st41 ?_
      have V41 : own_AV Value.int Z h41 b25 .byte 20 (own_upd (own_upd (own_upd (fun _ => (0 : Int32)) 0 (nar .byte v8_23)) 1 (nar .byte v8_23)) 2 (nar .byte v8_23)) := own_AV.set nn41 Ar41 Sz41 Hs41 W41 rfl
      obtain ⟨lo41, X41, N41⟩ : ∃ lo, Stand p l e _ s m _ below meth c T41 lo _ _ ∧ Fr n0 lo := ⟨_, X41, Fr.snoc X41 N36 g_b25⟩
      show own_Fin p e below G (T41.setTop (mkF m 42 #[.val (.long x0), .second, .val (.int p1), .val (.int p2), .val (.int p3), .val (.long w5_12), .second, .val (.int v7_23), .val (.int v8_23), .unset, .unset, .unset, .unset, .unset, .unset] [(.ref b25)]))
      refine own_to (fun _ kz => XS.dup X41.here hx rfl (hb hby at_42) rfl rfl kz) ?_
      show own_Fin p e below G (T41.setTop (mkF m 43 #[.val (.long x0), .second, .val (.int p1), .val (.int p2), .val (.int p3), .val (.long w5_12), .second, .val (.int v7_23), .val (.int v8_23), .unset, .unset, .unset, .unset, .unset, .unset] [(.ref b25), (.ref b25)]))
      refine own_to (fun _ kz => XS.iconst X41.here hx rfl (hb hby at_43) kz) ?_
      show own_Fin p e below G (T41.setTop (mkF m 44 #[.val (.long x0), .second, .val (.int p1), .val (.int p2), .val (.int p3), .val (.long w5_12), .second, .val (.int v7_23), .val (.int v8_23), .unset, .unset, .unset, .unset, .unset, .unset] [(.int (3 : Int32)), (.ref b25), (.ref b25)]))
      refine own_to (fun _ kz => XS.iload X41.here hx rfl (hb hby at_44) rfl  kz) ?_
      show own_Fin p e below G (T41.setTop (mkF m 46 #[.val (.long x0), .second, .val (.int p1), .val (.int p2), .val (.int p3), .val (.long w5_12), .second, .val (.int v7_23), .val (.int v8_23), .unset, .unset, .unset, .unset, .unset, .unset] [(.int v8_23), (.int (3 : Int32)), (.ref b25), (.ref b25)]))
      obtain ⟨nn46, cl46, Ar46, Sz46, Hs46⟩ := V41
      obtain ⟨T46, h46, X46, e46, W46, st46⟩ := stB X41 hx hZ e41 Ar46 (j := (3 : Int32)) (own_in Sz46 (by decide) rfl (by decide)) (g := (mkF m 46 #[.val (.long x0), .second, .val (.int p1), .val (.int p2), .val (.int p3), .val (.long w5_12), .second, .val (.int v7_23), .val (.int v8_23), .unset, .unset, .unset, .unset, .unset, .unset] [(.int v8_23), (.int (3 : Int32)), (.ref b25), (.ref b25)])) rfl rfl (hb hby at_46)
      refine own_to st46 ?_
      have V46 : own_AV Value.int Z h46 b25 .byte 20 (own_upd (own_upd (own_upd (own_upd (fun _ => (0 : Int32)) 0 (nar .byte v8_23)) 1 (nar .byte v8_23)) 2 (nar .byte v8_23)) 3 (nar .byte v8_23)) := own_AV.set nn46 Ar46 Sz46 Hs46 W46 rfl
      obtain ⟨lo46, X46, N46⟩ : ∃ lo, Stand p l e _ s m _ below meth c T46 lo _ _ ∧ Fr n0 lo := ⟨_, X46, Fr.snoc X46 N41 g_b25⟩
      show own_Fin p e below G (T46.setTop (mkF m 47 #[.val (.long x0), .second, .val (.int p1), .val (.int p2), .val (.int p3), .val (.long w5_12), .second, .val (.int v7_23), .val (.int v8_23), .unset, .unset, .unset, .unset, .unset, .unset] [(.ref b25)]))
      refine own_to (fun _ kz => XS.dup X46.here hx rfl (hb hby at_47) rfl rfl kz) ?_
      show own_Fin p e below G (T46.setTop (mkF m 48 #[.val (.long x0), .second, .val (.int p1), .val (.int p2), .val (.int p3), .val (.long w5_12), .second, .val (.int v7_23), .val (.int v8_23), .unset, .unset, .unset, .unset, .unset, .unset] [(.ref b25), (.ref b25)]))
      refine own_to (fun _ kz => XS.iconst X46.here hx rfl (hb hby at_48) kz) ?_
      show own_Fin p e below G (T46.setTop (mkF m 49 #[.val (.long x0), .second, .val (.int p1), .val (.int p2), .val (.int p3), .val (.long w5_12), .second, .val (.int v7_23), .val (.int v8_23), .unset, .unset, .unset, .unset, .unset, .unset] [(.int (4 : Int32)), (.ref b25), (.ref b25)]))
      refine own_to (fun _ kz => XS.iload X46.here hx rfl (hb hby at_49) rfl  kz) ?_
      show own_Fin p e below G (T46.setTop (mkF m 51 #[.val (.long x0), .second, .val (.int p1), .val (.int p2), .val (.int p3), .val (.long w5_12), .second, .val (.int v7_23), .val (.int v8_23), .unset, .unset, .unset, .unset, .unset, .unset] [(.int v8_23), (.int (4 : Int32)), (.ref b25), (.ref b25)]))
      obtain ⟨nn51, cl51, Ar51, Sz51, Hs51⟩ := V46
      obtain ⟨T51, h51, X51, e51, W51, st51⟩ := stB X46 hx hZ e46 Ar51 (j := (4 : Int32)) (own_in Sz51 (by decide) rfl (by decide)) (g := (mkF m 51 #[.val (.long x0), .second, .val (.int p1), .val (.int p2), .val (.int p3), .val (.long w5_12), .second, .val (.int v7_23), .val (.int v8_23), .unset, .unset, .unset, .unset, .unset, .unset] [(.int v8_23), (.int (4 : Int32)), (.ref b25), (.ref b25)])) rfl rfl (hb hby at_51)
      refine own_to st51 ?_
      have V51 : own_AV Value.int Z h51 b25 .byte 20 (own_upd (own_upd (own_upd (own_upd (own_upd (fun _ => (0 : Int32)) 0 (nar .byte v8_23)) 1 (nar .byte v8_23)) 2 (nar .byte v8_23)) 3 (nar .byte v8_23)) 4 (nar .byte v8_23)) := own_AV.set nn51 Ar51 Sz51 Hs51 W51 rfl
      obtain ⟨lo51, X51, N51⟩ : ∃ lo, Stand p l e _ s m _ below meth c T51 lo _ _ ∧ Fr n0 lo := ⟨_, X51, Fr.snoc X51 N46 g_b25⟩
      show own_Fin p e below G (T51.setTop (mkF m 52 #[.val (.long x0), .second, .val (.int p1), .val (.int p2), .val (.int p3), .val (.long w5_12), .second, .val (.int v7_23), .val (.int v8_23), .unset, .unset, .unset, .unset, .unset, .unset] [(.ref b25)]))
      refine own_to (fun _ kz => XS.dup X51.here hx rfl (hb hby at_52) rfl rfl kz) ?_
      show own_Fin p e below G (T51.setTop (mkF m 53 #[.val (.long x0), .second, .val (.int p1), .val (.int p2), .val (.int p3), .val (.long w5_12), .second, .val (.int v7_23), .val (.int v8_23), .unset, .unset, .unset, .unset, .unset, .unset] [(.ref b25), (.ref b25)]))
      refine own_to (fun _ kz => XS.iconst X51.here hx rfl (hb hby at_53) kz) ?_
      show own_Fin p e below G (T51.setTop (mkF m 54 #[.val (.long x0), .second, .val (.int p1), .val (.int p2), .val (.int p3), .val (.long w5_12), .second, .val (.int v7_23), .val (.int v8_23), .unset, .unset, .unset, .unset, .unset, .unset] [(.int (5 : Int32)), (.ref b25), (.ref b25)]))
      refine own_to (fun _ kz => XS.iload X51.here hx rfl (hb hby at_54) rfl  kz) ?_
      show own_Fin p e below G (T51.setTop (mkF m 56 #[.val (.long x0), .second, .val (.int p1), .val (.int p2), .val (.int p3), .val (.long w5_12), .second, .val (.int v7_23), .val (.int v8_23), .unset, .unset, .unset, .unset, .unset, .unset] [(.int v8_23), (.int (5 : Int32)), (.ref b25), (.ref b25)]))
      obtain ⟨nn56, cl56, Ar56, Sz56, Hs56⟩ := V51
      obtain ⟨T56, h56, X56, e56, W56, st56⟩ := stB X51 hx hZ e51 Ar56 (j := (5 : Int32)) (own_in Sz56 (by decide) rfl (by decide)) (g := (mkF m 56 #[.val (.long x0), .second, .val (.int p1), .val (.int p2), .val (.int p3), .val (.long w5_12), .second, .val (.int v7_23), .val (.int v8_23), .unset, .unset, .unset, .unset, .unset, .unset] [(.int v8_23), (.int (5 : Int32)), (.ref b25), (.ref b25)])) rfl rfl (hb hby at_56)
      refine own_to st56 ?_
      have V56 : own_AV Value.int Z h56 b25 .byte 20 (own_upd (own_upd (own_upd (own_upd (own_upd (own_upd (fun _ => (0 : Int32)) 0 (nar .byte v8_23)) 1 (nar .byte v8_23)) 2 (nar .byte v8_23)) 3 (nar .byte v8_23)) 4 (nar .byte v8_23)) 5 (nar .byte v8_23)) := own_AV.set nn56 Ar56 Sz56 Hs56 W56 rfl
      obtain ⟨lo56, X56, N56⟩ : ∃ lo, Stand p l e _ s m _ below meth c T56 lo _ _ ∧ Fr n0 lo := ⟨_, X56, Fr.snoc X56 N51 g_b25⟩
      show own_Fin p e below G (T56.setTop (mkF m 57 #[.val (.long x0), .second, .val (.int p1), .val (.int p2), .val (.int p3), .val (.long w5_12), .second, .val (.int v7_23), .val (.int v8_23), .unset, .unset, .unset, .unset, .unset, .unset] [(.ref b25)]))
      refine own_to (fun _ kz => XS.dup X56.here hx rfl (hb hby at_57) rfl rfl kz) ?_
      show own_Fin p e below G (T56.setTop (mkF m 58 #[.val (.long x0), .second, .val (.int p1), .val (.int p2), .val (.int p3), .val (.long w5_12), .second, .val (.int v7_23), .val (.int v8_23), .unset, .unset, .unset, .unset, .unset, .unset] [(.ref b25), (.ref b25)]))
      refine own_to (fun _ kz => XS.bipush X56.here hx rfl (hb hby at_58) kz) ?_
      show own_Fin p e below G (T56.setTop (mkF m 60 #[.val (.long x0), .second, .val (.int p1), .val (.int p2), .val (.int p3), .val (.long w5_12), .second, .val (.int v7_23), .val (.int v8_23), .unset, .unset, .unset, .unset, .unset, .unset] [(.int (6 : Int32)), (.ref b25), (.ref b25)]))
      refine own_to (fun _ kz => XS.iload X56.here hx rfl (hb hby at_60) rfl  kz) ?_
      show own_Fin p e below G (T56.setTop (mkF m 62 #[.val (.long x0), .second, .val (.int p1), .val (.int p2), .val (.int p3), .val (.long w5_12), .second, .val (.int v7_23), .val (.int v8_23), .unset, .unset, .unset, .unset, .unset, .unset] [(.int v8_23), (.int (6 : Int32)), (.ref b25), (.ref b25)]))
      obtain ⟨nn62, cl62, Ar62, Sz62, Hs62⟩ := V56
      obtain ⟨T62, h62, X62, e62, W62, st62⟩ := stB X56 hx hZ e56 Ar62 (j := (6 : Int32)) (own_in Sz62 (by decide) rfl (by decide)) (g := (mkF m 62 #[.val (.long x0), .second, .val (.int p1), .val (.int p2), .val (.int p3), .val (.long w5_12), .second, .val (.int v7_23), .val (.int v8_23), .unset, .unset, .unset, .unset, .unset, .unset] [(.int v8_23), (.int (6 : Int32)), (.ref b25), (.ref b25)])) rfl rfl (hb hby at_62)
      refine own_to st62 ?_
      have V62 : own_AV Value.int Z h62 b25 .byte 20 (own_upd (own_upd (own_upd (own_upd (own_upd (own_upd (own_upd (fun _ => (0 : Int32)) 0 (nar .byte v8_23)) 1 (nar .byte v8_23)) 2 (nar .byte v8_23)) 3 (nar .byte v8_23)) 4 (nar .byte v8_23)) 5 (nar .byte v8_23)) 6 (nar .byte v8_23)) := own_AV.set nn62 Ar62 Sz62 Hs62 W62 rfl
      obtain ⟨lo62, X62, N62⟩ : ∃ lo, Stand p l e _ s m _ below meth c T62 lo _ _ ∧ Fr n0 lo := ⟨_, X62, Fr.snoc X62 N56 g_b25⟩
      show own_Fin p e below G (T62.setTop (mkF m 63 #[.val (.long x0), .second, .val (.int p1), .val (.int p2), .val (.int p3), .val (.long w5_12), .second, .val (.int v7_23), .val (.int v8_23), .unset, .unset, .unset, .unset, .unset, .unset] [(.ref b25)]))
      refine own_to (fun _ kz => XS.dup X62.here hx rfl (hb hby at_63) rfl rfl kz) ?_
      show own_Fin p e below G (T62.setTop (mkF m 64 #[.val (.long x0), .second, .val (.int p1), .val (.int p2), .val (.int p3), .val (.long w5_12), .second, .val (.int v7_23), .val (.int v8_23), .unset, .unset, .unset, .unset, .unset, .unset] [(.ref b25), (.ref b25)]))
      refine own_to (fun _ kz => XS.bipush X62.here hx rfl (hb hby at_64) kz) ?_
      show own_Fin p e below G (T62.setTop (mkF m 66 #[.val (.long x0), .second, .val (.int p1), .val (.int p2), .val (.int p3), .val (.long w5_12), .second, .val (.int v7_23), .val (.int v8_23), .unset, .unset, .unset, .unset, .unset, .unset] [(.int (7 : Int32)), (.ref b25), (.ref b25)]))
      refine own_to (fun _ kz => XS.iload X62.here hx rfl (hb hby at_66) rfl  kz) ?_
      show own_Fin p e below G (T62.setTop (mkF m 68 #[.val (.long x0), .second, .val (.int p1), .val (.int p2), .val (.int p3), .val (.long w5_12), .second, .val (.int v7_23), .val (.int v8_23), .unset, .unset, .unset, .unset, .unset, .unset] [(.int v8_23), (.int (7 : Int32)), (.ref b25), (.ref b25)]))
      obtain ⟨nn68, cl68, Ar68, Sz68, Hs68⟩ := V62
      obtain ⟨T68, h68, X68, e68, W68, st68⟩ := stB X62 hx hZ e62 Ar68 (j := (7 : Int32)) (own_in Sz68 (by decide) rfl (by decide)) (g := (mkF m 68 #[.val (.long x0), .second, .val (.int p1), .val (.int p2), .val (.int p3), .val (.long w5_12), .second, .val (.int v7_23), .val (.int v8_23), .unset, .unset, .unset, .unset, .unset, .unset] [(.int v8_23), (.int (7 : Int32)), (.ref b25), (.ref b25)])) rfl rfl (hb hby at_68)
      refine own_to st68 ?_
      have V68 : own_AV Value.int Z h68 b25 .byte 20 (own_upd (own_upd (own_upd (own_upd (own_upd (own_upd (own_upd (own_upd (fun _ => (0 : Int32)) 0 (nar .byte v8_23)) 1 (nar .byte v8_23)) 2 (nar .byte v8_23)) 3 (nar .byte v8_23)) 4 (nar .byte v8_23)) 5 (nar .byte v8_23)) 6 (nar .byte v8_23)) 7 (nar .byte v8_23)) := own_AV.set nn68 Ar68 Sz68 Hs68 W68 rfl
      obtain ⟨lo68, X68, N68⟩ : ∃ lo, Stand p l e _ s m _ below meth c T68 lo _ _ ∧ Fr n0 lo := ⟨_, X68, Fr.snoc X68 N62 g_b25⟩
      show own_Fin p e below G (T68.setTop (mkF m 69 #[.val (.long x0), .second, .val (.int p1), .val (.int p2), .val (.int p3), .val (.long w5_12), .second, .val (.int v7_23), .val (.int v8_23), .unset, .unset, .unset, .unset, .unset, .unset] [(.ref b25)]))
      refine own_to (fun _ kz => XS.dup X68.here hx rfl (hb hby at_69) rfl rfl kz) ?_
      show own_Fin p e below G (T68.setTop (mkF m 70 #[.val (.long x0), .second, .val (.int p1), .val (.int p2), .val (.int p3), .val (.long w5_12), .second, .val (.int v7_23), .val (.int v8_23), .unset, .unset, .unset, .unset, .unset, .unset] [(.ref b25), (.ref b25)]))
      refine own_to (fun _ kz => XS.bipush X68.here hx rfl (hb hby at_70) kz) ?_
      show own_Fin p e below G (T68.setTop (mkF m 72 #[.val (.long x0), .second, .val (.int p1), .val (.int p2), .val (.int p3), .val (.long w5_12), .second, .val (.int v7_23), .val (.int v8_23), .unset, .unset, .unset, .unset, .unset, .unset] [(.int (8 : Int32)), (.ref b25), (.ref b25)]))
      refine own_to (fun _ kz => XS.iload X68.here hx rfl (hb hby at_72) rfl  kz) ?_
      show own_Fin p e below G (T68.setTop (mkF m 74 #[.val (.long x0), .second, .val (.int p1), .val (.int p2), .val (.int p3), .val (.long w5_12), .second, .val (.int v7_23), .val (.int v8_23), .unset, .unset, .unset, .unset, .unset, .unset] [(.int v8_23), (.int (8 : Int32)), (.ref b25), (.ref b25)]))
      obtain ⟨nn74, cl74, Ar74, Sz74, Hs74⟩ := V68
      obtain ⟨T74, h74, X74, e74, W74, st74⟩ := stB X68 hx hZ e68 Ar74 (j := (8 : Int32)) (own_in Sz74 (by decide) rfl (by decide)) (g := (mkF m 74 #[.val (.long x0), .second, .val (.int p1), .val (.int p2), .val (.int p3), .val (.long w5_12), .second, .val (.int v7_23), .val (.int v8_23), .unset, .unset, .unset, .unset, .unset, .unset] [(.int v8_23), (.int (8 : Int32)), (.ref b25), (.ref b25)])) rfl rfl (hb hby at_74)
      refine own_to st74 ?_
      have V74 : own_AV Value.int Z h74 b25 .byte 20 (own_upd (own_upd (own_upd (own_upd (own_upd (own_upd (own_upd (own_upd (own_upd (fun _ => (0 : Int32)) 0 (nar .byte v8_23)) 1 (nar .byte v8_23)) 2 (nar .byte v8_23)) 3 (nar .byte v8_23)) 4 (nar .byte v8_23)) 5 (nar .byte v8_23)) 6 (nar .byte v8_23)) 7 (nar .byte v8_23)) 8 (nar .byte v8_23)) := own_AV.set nn74 Ar74 Sz74 Hs74 W74 rfl
      obtain ⟨lo74, X74, N74⟩ : ∃ lo, Stand p l e _ s m _ below meth c T74 lo _ _ ∧ Fr n0 lo := ⟨_, X74, Fr.snoc X74 N68 g_b25⟩
      show own_Fin p e below G (T74.setTop (mkF m 75 #[.val (.long x0), .second, .val (.int p1), .val (.int p2), .val (.int p3), .val (.long w5_12), .second, .val (.int v7_23), .val (.int v8_23), .unset, .unset, .unset, .unset, .unset, .unset] [(.ref b25)]))
      refine own_to (fun _ kz => XS.dup X74.here hx rfl (hb hby at_75) rfl rfl kz) ?_
      show own_Fin p e below G (T74.setTop (mkF m 76 #[.val (.long x0), .second, .val (.int p1), .val (.int p2), .val (.int p3), .val (.long w5_12), .second, .val (.int v7_23), .val (.int v8_23), .unset, .unset, .unset, .unset, .unset, .unset] [(.ref b25), (.ref b25)]))
      refine own_to (fun _ kz => XS.bipush X74.here hx rfl (hb hby at_76) kz) ?_
      show own_Fin p e below G (T74.setTop (mkF m 78 #[.val (.long x0), .second, .val (.int p1), .val (.int p2), .val (.int p3), .val (.long w5_12), .second, .val (.int v7_23), .val (.int v8_23), .unset, .unset, .unset, .unset, .unset, .unset] [(.int (9 : Int32)), (.ref b25), (.ref b25)]))
      refine own_to (fun _ kz => XS.iload X74.here hx rfl (hb hby at_78) rfl  kz) ?_
      show own_Fin p e below G (T74.setTop (mkF m 80 #[.val (.long x0), .second, .val (.int p1), .val (.int p2), .val (.int p3), .val (.long w5_12), .second, .val (.int v7_23), .val (.int v8_23), .unset, .unset, .unset, .unset, .unset, .unset] [(.int v8_23), (.int (9 : Int32)), (.ref b25), (.ref b25)]))
      obtain ⟨nn80, cl80, Ar80, Sz80, Hs80⟩ := V74
      obtain ⟨T80, h80, X80, e80, W80, st80⟩ := stB X74 hx hZ e74 Ar80 (j := (9 : Int32)) (own_in Sz80 (by decide) rfl (by decide)) (g := (mkF m 80 #[.val (.long x0), .second, .val (.int p1), .val (.int p2), .val (.int p3), .val (.long w5_12), .second, .val (.int v7_23), .val (.int v8_23), .unset, .unset, .unset, .unset, .unset, .unset] [(.int v8_23), (.int (9 : Int32)), (.ref b25), (.ref b25)])) rfl rfl (hb hby at_80)
      refine own_to st80 ?_
      have V80 : own_AV Value.int Z h80 b25 .byte 20 (own_upd (own_upd (own_upd (own_upd (own_upd (own_upd (own_upd (own_upd (own_upd (own_upd (fun _ => (0 : Int32)) 0 (nar .byte v8_23)) 1 (nar .byte v8_23)) 2 (nar .byte v8_23)) 3 (nar .byte v8_23)) 4 (nar .byte v8_23)) 5 (nar .byte v8_23)) 6 (nar .byte v8_23)) 7 (nar .byte v8_23)) 8 (nar .byte v8_23)) 9 (nar .byte v8_23)) := own_AV.set nn80 Ar80 Sz80 Hs80 W80 rfl
      obtain ⟨lo80, X80, N80⟩ : ∃ lo, Stand p l e _ s m _ below meth c T80 lo _ _ ∧ Fr n0 lo := ⟨_, X80, Fr.snoc X80 N74 g_b25⟩
      show own_Fin p e below G (T80.setTop (mkF m 81 #[.val (.long x0), .second, .val (.int p1), .val (.int p2), .val (.int p3), .val (.long w5_12), .second, .val (.int v7_23), .val (.int v8_23), .unset, .unset, .unset, .unset, .unset, .unset] [(.ref b25)]))
      refine own_to (fun _ kz => XS.dup X80.here hx rfl (hb hby at_81) rfl rfl kz) ?_
      show own_Fin p e below G (T80.setTop (mkF m 82 #[.val (.long x0), .second, .val (.int p1), .val (.int p2), .val (.int p3), .val (.long w5_12), .second, .val (.int v7_23), .val (.int v8_23), .unset, .unset, .unset, .unset, .unset, .unset] [(.ref b25), (.ref b25)]))
      refine own_to (fun _ kz => XS.bipush X80.here hx rfl (hb hby at_82) kz) ?_
      show own_Fin p e below G (T80.setTop (mkF m 84 #[.val (.long x0), .second, .val (.int p1), .val (.int p2), .val (.int p3), .val (.long w5_12), .second, .val (.int v7_23), .val (.int v8_23), .unset, .unset, .unset, .unset, .unset, .unset] [(.int (10 : Int32)), (.ref b25), (.ref b25)]))
      refine own_to (fun _ kz => XS.iload X80.here hx rfl (hb hby at_84) rfl  kz) ?_
      show own_Fin p e below G (T80.setTop (mkF m 86 #[.val (.long x0), .second, .val (.int p1), .val (.int p2), .val (.int p3), .val (.long w5_12), .second, .val (.int v7_23), .val (.int v8_23), .unset, .unset, .unset, .unset, .unset, .unset] [(.int v8_23), (.int (10 : Int32)), (.ref b25), (.ref b25)]))
      obtain ⟨nn86, cl86, Ar86, Sz86, Hs86⟩ := V80
      obtain ⟨T86, h86, X86, e86, W86, st86⟩ := stB X80 hx hZ e80 Ar86 (j := (10 : Int32)) (own_in Sz86 (by decide) rfl (by decide)) (g := (mkF m 86 #[.val (.long x0), .second, .val (.int p1), .val (.int p2), .val (.int p3), .val (.long w5_12), .second, .val (.int v7_23), .val (.int v8_23), .unset, .unset, .unset, .unset, .unset, .unset] [(.int v8_23), (.int (10 : Int32)), (.ref b25), (.ref b25)])) rfl rfl (hb hby at_86)
      refine own_to st86 ?_
      have V86 : own_AV Value.int Z h86 b25 .byte 20 (own_upd (own_upd (own_upd (own_upd (own_upd (own_upd (own_upd (own_upd (own_upd (own_upd (own_upd (fun _ => (0 : Int32)) 0 (nar .byte v8_23)) 1 (nar .byte v8_23)) 2 (nar .byte v8_23)) 3 (nar .byte v8_23)) 4 (nar .byte v8_23)) 5 (nar .byte v8_23)) 6 (nar .byte v8_23)) 7 (nar .byte v8_23)) 8 (nar .byte v8_23)) 9 (nar .byte v8_23)) 10 (nar .byte v8_23)) := own_AV.set nn86 Ar86 Sz86 Hs86 W86 rfl
      obtain ⟨lo86, X86, N86⟩ : ∃ lo, Stand p l e _ s m _ below meth c T86 lo _ _ ∧ Fr n0 lo := ⟨_, X86, Fr.snoc X86 N80 g_b25⟩
      show own_Fin p e below G (T86.setTop (mkF m 87 #[.val (.long x0), .second, .val (.int p1), .val (.int p2), .val (.int p3), .val (.long w5_12), .second, .val (.int v7_23), .val (.int v8_23), .unset, .unset, .unset, .unset, .unset, .unset] [(.ref b25)]))
      refine own_to (fun _ kz => XS.dup X86.here hx rfl (hb hby at_87) rfl rfl kz) ?_
      show own_Fin p e below G (T86.setTop (mkF m 88 #[.val (.long x0), .second, .val (.int p1), .val (.int p2), .val (.int p3), .val (.long w5_12), .second, .val (.int v7_23), .val (.int v8_23), .unset, .unset, .unset, .unset, .unset, .unset] [(.ref b25), (.ref b25)]))
      refine own_to (fun _ kz => XS.bipush X86.here hx rfl (hb hby at_88) kz) ?_
      show own_Fin p e below G (T86.setTop (mkF m 90 #[.val (.long x0), .second, .val (.int p1), .val (.int p2), .val (.int p3), .val (.long w5_12), .second, .val (.int v7_23), .val (.int v8_23), .unset, .unset, .unset, .unset, .unset, .unset] [(.int (11 : Int32)), (.ref b25), (.ref b25)]))
      refine own_to (fun _ kz => XS.iload X86.here hx rfl (hb hby at_90) rfl  kz) ?_
      show own_Fin p e below G (T86.setTop (mkF m 92 #[.val (.long x0), .second, .val (.int p1), .val (.int p2), .val (.int p3), .val (.long w5_12), .second, .val (.int v7_23), .val (.int v8_23), .unset, .unset, .unset, .unset, .unset, .unset] [(.int v8_23), (.int (11 : Int32)), (.ref b25), (.ref b25)]))
      obtain ⟨nn92, cl92, Ar92, Sz92, Hs92⟩ := V86
      obtain ⟨T92, h92, X92, e92, W92, st92⟩ := stB X86 hx hZ e86 Ar92 (j := (11 : Int32)) (own_in Sz92 (by decide) rfl (by decide)) (g := (mkF m 92 #[.val (.long x0), .second, .val (.int p1), .val (.int p2), .val (.int p3), .val (.long w5_12), .second, .val (.int v7_23), .val (.int v8_23), .unset, .unset, .unset, .unset, .unset, .unset] [(.int v8_23), (.int (11 : Int32)), (.ref b25), (.ref b25)])) rfl rfl (hb hby at_92)
      refine own_to st92 ?_
      have V92 : own_AV Value.int Z h92 b25 .byte 20 (own_upd (own_upd (own_upd (own_upd (own_upd (own_upd (own_upd (own_upd (own_upd (own_upd (own_upd (own_upd (fun _ => (0 : Int32)) 0 (nar .byte v8_23)) 1 (nar .byte v8_23)) 2 (nar .byte v8_23)) 3 (nar .byte v8_23)) 4 (nar .byte v8_23)) 5 (nar .byte v8_23)) 6 (nar .byte v8_23)) 7 (nar .byte v8_23)) 8 (nar .byte v8_23)) 9 (nar .byte v8_23)) 10 (nar .byte v8_23)) 11 (nar .byte v8_23)) := own_AV.set nn92 Ar92 Sz92 Hs92 W92 rfl
      obtain ⟨lo92, X92, N92⟩ : ∃ lo, Stand p l e _ s m _ below meth c T92 lo _ _ ∧ Fr n0 lo := ⟨_, X92, Fr.snoc X92 N86 g_b25⟩
      show own_Fin p e below G (T92.setTop (mkF m 93 #[.val (.long x0), .second, .val (.int p1), .val (.int p2), .val (.int p3), .val (.long w5_12), .second, .val (.int v7_23), .val (.int v8_23), .unset, .unset, .unset, .unset, .unset, .unset] [(.ref b25)]))
      refine own_to (fun _ kz => XS.dup X92.here hx rfl (hb hby at_93) rfl rfl kz) ?_
      show own_Fin p e below G (T92.setTop (mkF m 94 #[.val (.long x0), .second, .val (.int p1), .val (.int p2), .val (.int p3), .val (.long w5_12), .second, .val (.int v7_23), .val (.int v8_23), .unset, .unset, .unset, .unset, .unset, .unset] [(.ref b25), (.ref b25)]))
      refine own_to (fun _ kz => XS.bipush X92.here hx rfl (hb hby at_94) kz) ?_
      show own_Fin p e below G (T92.setTop (mkF m 96 #[.val (.long x0), .second, .val (.int p1), .val (.int p2), .val (.int p3), .val (.long w5_12), .second, .val (.int v7_23), .val (.int v8_23), .unset, .unset, .unset, .unset, .unset, .unset] [(.int (12 : Int32)), (.ref b25), (.ref b25)]))
      refine own_to (fun _ kz => XS.iload X92.here hx rfl (hb hby at_96) rfl  kz) ?_
      show own_Fin p e below G (T92.setTop (mkF m 98 #[.val (.long x0), .second, .val (.int p1), .val (.int p2), .val (.int p3), .val (.long w5_12), .second, .val (.int v7_23), .val (.int v8_23), .unset, .unset, .unset, .unset, .unset, .unset] [(.int v8_23), (.int (12 : Int32)), (.ref b25), (.ref b25)]))
      obtain ⟨nn98, cl98, Ar98, Sz98, Hs98⟩ := V92
      obtain ⟨T98, h98, X98, e98, W98, st98⟩ := stB X92 hx hZ e92 Ar98 (j := (12 : Int32)) (own_in Sz98 (by decide) rfl (by decide)) (g := (mkF m 98 #[.val (.long x0), .second, .val (.int p1), .val (.int p2), .val (.int p3), .val (.long w5_12), .second, .val (.int v7_23), .val (.int v8_23), .unset, .unset, .unset, .unset, .unset, .unset] [(.int v8_23), (.int (12 : Int32)), (.ref b25), (.ref b25)])) rfl rfl (hb hby at_98)
      refine own_to st98 ?_
      have V98 : own_AV Value.int Z h98 b25 .byte 20 (own_upd (own_upd (own_upd (own_upd (own_upd (own_upd (own_upd (own_upd (own_upd (own_upd (own_upd (own_upd (own_upd (fun _ => (0 : Int32)) 0 (nar .byte v8_23)) 1 (nar .byte v8_23)) 2 (nar .byte v8_23)) 3 (nar .byte v8_23)) 4 (nar .byte v8_23)) 5 (nar .byte v8_23)) 6 (nar .byte v8_23)) 7 (nar .byte v8_23)) 8 (nar .byte v8_23)) 9 (nar .byte v8_23)) 10 (nar .byte v8_23)) 11 (nar .byte v8_23)) 12 (nar .byte v8_23)) := own_AV.set nn98 Ar98 Sz98 Hs98 W98 rfl
      obtain ⟨lo98, X98, N98⟩ : ∃ lo, Stand p l e _ s m _ below meth c T98 lo _ _ ∧ Fr n0 lo := ⟨_, X98, Fr.snoc X98 N92 g_b25⟩
      show own_Fin p e below G (T98.setTop (mkF m 99 #[.val (.long x0), .second, .val (.int p1), .val (.int p2), .val (.int p3), .val (.long w5_12), .second, .val (.int v7_23), .val (.int v8_23), .unset, .unset, .unset, .unset, .unset, .unset] [(.ref b25)]))
      refine own_to (fun _ kz => XS.dup X98.here hx rfl (hb hby at_99) rfl rfl kz) ?_
      show own_Fin p e below G (T98.setTop (mkF m 100 #[.val (.long x0), .second, .val (.int p1), .val (.int p2), .val (.int p3), .val (.long w5_12), .second, .val (.int v7_23), .val (.int v8_23), .unset, .unset, .unset, .unset, .unset, .unset] [(.ref b25), (.ref b25)]))
      refine own_to (fun _ kz => XS.bipush X98.here hx rfl (hb hby at_100) kz) ?_
      show own_Fin p e below G (T98.setTop (mkF m 102 #[.val (.long x0), .second, .val (.int p1), .val (.int p2), .val (.int p3), .val (.long w5_12), .second, .val (.int v7_23), .val (.int v8_23), .unset, .unset, .unset, .unset, .unset, .unset] [(.int (13 : Int32)), (.ref b25), (.ref b25)]))
      refine own_to (fun _ kz => XS.iload X98.here hx rfl (hb hby at_102) rfl  kz) ?_
      show own_Fin p e below G (T98.setTop (mkF m 104 #[.val (.long x0), .second, .val (.int p1), .val (.int p2), .val (.int p3), .val (.long w5_12), .second, .val (.int v7_23), .val (.int v8_23), .unset, .unset, .unset, .unset, .unset, .unset] [(.int v8_23), (.int (13 : Int32)), (.ref b25), (.ref b25)]))
      obtain ⟨nn104, cl104, Ar104, Sz104, Hs104⟩ := V98
      obtain ⟨T104, h104, X104, e104, W104, st104⟩ := stB X98 hx hZ e98 Ar104 (j := (13 : Int32)) (own_in Sz104 (by decide) rfl (by decide)) (g := (mkF m 104 #[.val (.long x0), .second, .val (.int p1), .val (.int p2), .val (.int p3), .val (.long w5_12), .second, .val (.int v7_23), .val (.int v8_23), .unset, .unset, .unset, .unset, .unset, .unset] [(.int v8_23), (.int (13 : Int32)), (.ref b25), (.ref b25)])) rfl rfl (hb hby at_104)
      refine own_to st104 ?_
      have V104 : own_AV Value.int Z h104 b25 .byte 20 (own_upd (own_upd (own_upd (own_upd (own_upd (own_upd (own_upd (own_upd (own_upd (own_upd (own_upd (own_upd (own_upd (own_upd (fun _ => (0 : Int32)) 0 (nar .byte v8_23)) 1 (nar .byte v8_23)) 2 (nar .byte v8_23)) 3 (nar .byte v8_23)) 4 (nar .byte v8_23)) 5 (nar .byte v8_23)) 6 (nar .byte v8_23)) 7 (nar .byte v8_23)) 8 (nar .byte v8_23)) 9 (nar .byte v8_23)) 10 (nar .byte v8_23)) 11 (nar .byte v8_23)) 12 (nar .byte v8_23)) 13 (nar .byte v8_23)) := own_AV.set nn104 Ar104 Sz104 Hs104 W104 rfl
      obtain ⟨lo104, X104, N104⟩ : ∃ lo, Stand p l e _ s m _ below meth c T104 lo _ _ ∧ Fr n0 lo := ⟨_, X104, Fr.snoc X104 N98 g_b25⟩
      show own_Fin p e below G (T104.setTop (mkF m 105 #[.val (.long x0), .second, .val (.int p1), .val (.int p2), .val (.int p3), .val (.long w5_12), .second, .val (.int v7_23), .val (.int v8_23), .unset, .unset, .unset, .unset, .unset, .unset] [(.ref b25)]))
      refine own_to (fun _ kz => XS.dup X104.here hx rfl (hb hby at_105) rfl rfl kz) ?_
      show own_Fin p e below G (T104.setTop (mkF m 106 #[.val (.long x0), .second, .val (.int p1), .val (.int p2), .val (.int p3), .val (.long w5_12), .second, .val (.int v7_23), .val (.int v8_23), .unset, .unset, .unset, .unset, .unset, .unset] [(.ref b25), (.ref b25)]))
      refine own_to (fun _ kz => XS.bipush X104.here hx rfl (hb hby at_106) kz) ?_
      show own_Fin p e below G (T104.setTop (mkF m 108 #[.val (.long x0), .second, .val (.int p1), .val (.int p2), .val (.int p3), .val (.long w5_12), .second, .val (.int v7_23), .val (.int v8_23), .unset, .unset, .unset, .unset, .unset, .unset] [(.int (14 : Int32)), (.ref b25), (.ref b25)]))
      refine own_to (fun _ kz => XS.iload X104.here hx rfl (hb hby at_108) rfl  kz) ?_
      show own_Fin p e below G (T104.setTop (mkF m 110 #[.val (.long x0), .second, .val (.int p1), .val (.int p2), .val (.int p3), .val (.long w5_12), .second, .val (.int v7_23), .val (.int v8_23), .unset, .unset, .unset, .unset, .unset, .unset] [(.int v8_23), (.int (14 : Int32)), (.ref b25), (.ref b25)]))
      obtain ⟨nn110, cl110, Ar110, Sz110, Hs110⟩ := V104
      obtain ⟨T110, h110, X110, e110, W110, st110⟩ := stB X104 hx hZ e104 Ar110 (j := (14 : Int32)) (own_in Sz110 (by decide) rfl (by decide)) (g := (mkF m 110 #[.val (.long x0), .second, .val (.int p1), .val (.int p2), .val (.int p3), .val (.long w5_12), .second, .val (.int v7_23), .val (.int v8_23), .unset, .unset, .unset, .unset, .unset, .unset] [(.int v8_23), (.int (14 : Int32)), (.ref b25), (.ref b25)])) rfl rfl (hb hby at_110)
      refine own_to st110 ?_
      have V110 : own_AV Value.int Z h110 b25 .byte 20 (own_upd (own_upd (own_upd (own_upd (own_upd (own_upd (own_upd (own_upd (own_upd (own_upd (own_upd (own_upd (own_upd (own_upd (own_upd (fun _ => (0 : Int32)) 0 (nar .byte v8_23)) 1 (nar .byte v8_23)) 2 (nar .byte v8_23)) 3 (nar .byte v8_23)) 4 (nar .byte v8_23)) 5 (nar .byte v8_23)) 6 (nar .byte v8_23)) 7 (nar .byte v8_23)) 8 (nar .byte v8_23)) 9 (nar .byte v8_23)) 10 (nar .byte v8_23)) 11 (nar .byte v8_23)) 12 (nar .byte v8_23)) 13 (nar .byte v8_23)) 14 (nar .byte v8_23)) := own_AV.set nn110 Ar110 Sz110 Hs110 W110 rfl
      obtain ⟨lo110, X110, N110⟩ : ∃ lo, Stand p l e _ s m _ below meth c T110 lo _ _ ∧ Fr n0 lo := ⟨_, X110, Fr.snoc X110 N104 g_b25⟩
      show own_Fin p e below G (T110.setTop (mkF m 111 #[.val (.long x0), .second, .val (.int p1), .val (.int p2), .val (.int p3), .val (.long w5_12), .second, .val (.int v7_23), .val (.int v8_23), .unset, .unset, .unset, .unset, .unset, .unset] [(.ref b25)]))
      refine own_to (fun _ kz => XS.dup X110.here hx rfl (hb hby at_111) rfl rfl kz) ?_
      show own_Fin p e below G (T110.setTop (mkF m 112 #[.val (.long x0), .second, .val (.int p1), .val (.int p2), .val (.int p3), .val (.long w5_12), .second, .val (.int v7_23), .val (.int v8_23), .unset, .unset, .unset, .unset, .unset, .unset] [(.ref b25), (.ref b25)]))
      refine own_to (fun _ kz => XS.bipush X110.here hx rfl (hb hby at_112) kz) ?_
      show own_Fin p e below G (T110.setTop (mkF m 114 #[.val (.long x0), .second, .val (.int p1), .val (.int p2), .val (.int p3), .val (.long w5_12), .second, .val (.int v7_23), .val (.int v8_23), .unset, .unset, .unset, .unset, .unset, .unset] [(.int (15 : Int32)), (.ref b25), (.ref b25)]))
      refine own_to (fun _ kz => XS.iload X110.here hx rfl (hb hby at_114) rfl  kz) ?_
      show own_Fin p e below G (T110.setTop (mkF m 116 #[.val (.long x0), .second, .val (.int p1), .val (.int p2), .val (.int p3), .val (.long w5_12), .second, .val (.int v7_23), .val (.int v8_23), .unset, .unset, .unset, .unset, .unset, .unset] [(.int v8_23), (.int (15 : Int32)), (.ref b25), (.ref b25)]))
      obtain ⟨nn116, cl116, Ar116, Sz116, Hs116⟩ := V110
      obtain ⟨T116, h116, X116, e116, W116, st116⟩ := stB X110 hx hZ e110 Ar116 (j := (15 : Int32)) (own_in Sz116 (by decide) rfl (by decide)) (g := (mkF m 116 #[.val (.long x0), .second, .val (.int p1), .val (.int p2), .val (.int p3), .val (.long w5_12), .second, .val (.int v7_23), .val (.int v8_23), .unset, .unset, .unset, .unset, .unset, .unset] [(.int v8_23), (.int (15 : Int32)), (.ref b25), (.ref b25)])) rfl rfl (hb hby at_116)
      refine own_to st116 ?_
      have V116 : own_AV Value.int Z h116 b25 .byte 20 (own_upd (own_upd (own_upd (own_upd (own_upd (own_upd (own_upd (own_upd (own_upd (own_upd (own_upd (own_upd (own_upd (own_upd (own_upd (own_upd (fun _ => (0 : Int32)) 0 (nar .byte v8_23)) 1 (nar .byte v8_23)) 2 (nar .byte v8_23)) 3 (nar .byte v8_23)) 4 (nar .byte v8_23)) 5 (nar .byte v8_23)) 6 (nar .byte v8_23)) 7 (nar .byte v8_23)) 8 (nar .byte v8_23)) 9 (nar .byte v8_23)) 10 (nar .byte v8_23)) 11 (nar .byte v8_23)) 12 (nar .byte v8_23)) 13 (nar .byte v8_23)) 14 (nar .byte v8_23)) 15 (nar .byte v8_23)) := own_AV.set nn116 Ar116 Sz116 Hs116 W116 rfl
      obtain ⟨lo116, X116, N116⟩ : ∃ lo, Stand p l e _ s m _ below meth c T116 lo _ _ ∧ Fr n0 lo := ⟨_, X116, Fr.snoc X116 N110 g_b25⟩
      show own_Fin p e below G (T116.setTop (mkF m 117 #[.val (.long x0), .second, .val (.int p1), .val (.int p2), .val (.int p3), .val (.long w5_12), .second, .val (.int v7_23), .val (.int v8_23), .unset, .unset, .unset, .unset, .unset, .unset] [(.ref b25)]))
      refine own_to (fun _ kz => XS.dup X116.here hx rfl (hb hby at_117) rfl rfl kz) ?_
      show own_Fin p e below G (T116.setTop (mkF m 118 #[.val (.long x0), .second, .val (.int p1), .val (.int p2), .val (.int p3), .val (.long w5_12), .second, .val (.int v7_23), .val (.int v8_23), .unset, .unset, .unset, .unset, .unset, .unset] [(.ref b25), (.ref b25)]))
      refine own_to (fun _ kz => XS.bipush X116.here hx rfl (hb hby at_118) kz) ?_
      show own_Fin p e below G (T116.setTop (mkF m 120 #[.val (.long x0), .second, .val (.int p1), .val (.int p2), .val (.int p3), .val (.long w5_12), .second, .val (.int v7_23), .val (.int v8_23), .unset, .unset, .unset, .unset, .unset, .unset] [(.int (16 : Int32)), (.ref b25), (.ref b25)]))
      refine own_to (fun _ kz => XS.iload X116.here hx rfl (hb hby at_120) rfl  kz) ?_
      show own_Fin p e below G (T116.setTop (mkF m 122 #[.val (.long x0), .second, .val (.int p1), .val (.int p2), .val (.int p3), .val (.long w5_12), .second, .val (.int v7_23), .val (.int v8_23), .unset, .unset, .unset, .unset, .unset, .unset] [(.int v8_23), (.int (16 : Int32)), (.ref b25), (.ref b25)]))
      obtain ⟨nn122, cl122, Ar122, Sz122, Hs122⟩ := V116
      obtain ⟨T122, h122, X122, e122, W122, st122⟩ := stB X116 hx hZ e116 Ar122 (j := (16 : Int32)) (own_in Sz122 (by decide) rfl (by decide)) (g := (mkF m 122 #[.val (.long x0), .second, .val (.int p1), .val (.int p2), .val (.int p3), .val (.long w5_12), .second, .val (.int v7_23), .val (.int v8_23), .unset, .unset, .unset, .unset, .unset, .unset] [(.int v8_23), (.int (16 : Int32)), (.ref b25), (.ref b25)])) rfl rfl (hb hby at_122)
      refine own_to st122 ?_
      have V122 : own_AV Value.int Z h122 b25 .byte 20 (own_upd (own_upd (own_upd (own_upd (own_upd (own_upd (own_upd (own_upd (own_upd (own_upd (own_upd (own_upd (own_upd (own_upd (own_upd (own_upd (own_upd (fun _ => (0 : Int32)) 0 (nar .byte v8_23)) 1 (nar .byte v8_23)) 2 (nar .byte v8_23)) 3 (nar .byte v8_23)) 4 (nar .byte v8_23)) 5 (nar .byte v8_23)) 6 (nar .byte v8_23)) 7 (nar .byte v8_23)) 8 (nar .byte v8_23)) 9 (nar .byte v8_23)) 10 (nar .byte v8_23)) 11 (nar .byte v8_23)) 12 (nar .byte v8_23)) 13 (nar .byte v8_23)) 14 (nar .byte v8_23)) 15 (nar .byte v8_23)) 16 (nar .byte v8_23)) := own_AV.set nn122 Ar122 Sz122 Hs122 W122 rfl
      obtain ⟨lo122, X122, N122⟩ : ∃ lo, Stand p l e _ s m _ below meth c T122 lo _ _ ∧ Fr n0 lo := ⟨_, X122, Fr.snoc X122 N116 g_b25⟩
      show own_Fin p e below G (T122.setTop (mkF m 123 #[.val (.long x0), .second, .val (.int p1), .val (.int p2), .val (.int p3), .val (.long w5_12), .second, .val (.int v7_23), .val (.int v8_23), .unset, .unset, .unset, .unset, .unset, .unset] [(.ref b25)]))
      refine own_to (fun _ kz => XS.dup X122.here hx rfl (hb hby at_123) rfl rfl kz) ?_
      show own_Fin p e below G (T122.setTop (mkF m 124 #[.val (.long x0), .second, .val (.int p1), .val (.int p2), .val (.int p3), .val (.long w5_12), .second, .val (.int v7_23), .val (.int v8_23), .unset, .unset, .unset, .unset, .unset, .unset] [(.ref b25), (.ref b25)]))
      refine own_to (fun _ kz => XS.bipush X122.here hx rfl (hb hby at_124) kz) ?_
      show own_Fin p e below G (T122.setTop (mkF m 126 #[.val (.long x0), .second, .val (.int p1), .val (.int p2), .val (.int p3), .val (.long w5_12), .second, .val (.int v7_23), .val (.int v8_23), .unset, .unset, .unset, .unset, .unset, .unset] [(.int (17 : Int32)), (.ref b25), (.ref b25)]))
      refine own_to (fun _ kz => XS.iload X122.here hx rfl (hb hby at_126) rfl  kz) ?_
      show own_Fin p e below G (T122.setTop (mkF m 128 #[.val (.long x0), .second, .val (.int p1), .val (.int p2), .val (.int p3), .val (.long w5_12), .second, .val (.int v7_23), .val (.int v8_23), .unset, .unset, .unset, .unset, .unset, .unset] [(.int v8_23), (.int (17 : Int32)), (.ref b25), (.ref b25)]))
      obtain ⟨nn128, cl128, Ar128, Sz128, Hs128⟩ := V122
      obtain ⟨T128, h128, X128, e128, W128, st128⟩ := stB X122 hx hZ e122 Ar128 (j := (17 : Int32)) (own_in Sz128 (by decide) rfl (by decide)) (g := (mkF m 128 #[.val (.long x0), .second, .val (.int p1), .val (.int p2), .val (.int p3), .val (.long w5_12), .second, .val (.int v7_23), .val (.int v8_23), .unset, .unset, .unset, .unset, .unset, .unset] [(.int v8_23), (.int (17 : Int32)), (.ref b25), (.ref b25)])) rfl rfl (hb hby at_128)
      refine own_to st128 ?_
      have V128 : own_AV Value.int Z h128 b25 .byte 20 (own_upd (own_upd (own_upd (own_upd (own_upd (own_upd (own_upd (own_upd (own_upd (own_upd (own_upd (own_upd (own_upd (own_upd (own_upd (own_upd (own_upd (own_upd (fun _ => (0 : Int32)) 0 (nar .byte v8_23)) 1 (nar .byte v8_23)) 2 (nar .byte v8_23)) 3 (nar .byte v8_23)) 4 (nar .byte v8_23)) 5 (nar .byte v8_23)) 6 (nar .byte v8_23)) 7 (nar .byte v8_23)) 8 (nar .byte v8_23)) 9 (nar .byte v8_23)) 10 (nar .byte v8_23)) 11 (nar .byte v8_23)) 12 (nar .byte v8_23)) 13 (nar .byte v8_23)) 14 (nar .byte v8_23)) 15 (nar .byte v8_23)) 16 (nar .byte v8_23)) 17 (nar .byte v8_23)) := own_AV.set nn128 Ar128 Sz128 Hs128 W128 rfl
      obtain ⟨lo128, X128, N128⟩ : ∃ lo, Stand p l e _ s m _ below meth c T128 lo _ _ ∧ Fr n0 lo := ⟨_, X128, Fr.snoc X128 N122 g_b25⟩
      show own_Fin p e below G (T128.setTop (mkF m 129 #[.val (.long x0), .second, .val (.int p1), .val (.int p2), .val (.int p3), .val (.long w5_12), .second, .val (.int v7_23), .val (.int v8_23), .unset, .unset, .unset, .unset, .unset, .unset] [(.ref b25)]))
      refine own_to (fun _ kz => XS.dup X128.here hx rfl (hb hby at_129) rfl rfl kz) ?_
      show own_Fin p e below G (T128.setTop (mkF m 130 #[.val (.long x0), .second, .val (.int p1), .val (.int p2), .val (.int p3), .val (.long w5_12), .second, .val (.int v7_23), .val (.int v8_23), .unset, .unset, .unset, .unset, .unset, .unset] [(.ref b25), (.ref b25)]))
      refine own_to (fun _ kz => XS.bipush X128.here hx rfl (hb hby at_130) kz) ?_
      show own_Fin p e below G (T128.setTop (mkF m 132 #[.val (.long x0), .second, .val (.int p1), .val (.int p2), .val (.int p3), .val (.long w5_12), .second, .val (.int v7_23), .val (.int v8_23), .unset, .unset, .unset, .unset, .unset, .unset] [(.int (18 : Int32)), (.ref b25), (.ref b25)]))
      refine own_to (fun _ kz => XS.iload X128.here hx rfl (hb hby at_132) rfl  kz) ?_
      show own_Fin p e below G (T128.setTop (mkF m 134 #[.val (.long x0), .second, .val (.int p1), .val (.int p2), .val (.int p3), .val (.long w5_12), .second, .val (.int v7_23), .val (.int v8_23), .unset, .unset, .unset, .unset, .unset, .unset] [(.int v8_23), (.int (18 : Int32)), (.ref b25), (.ref b25)]))
      obtain ⟨nn134, cl134, Ar134, Sz134, Hs134⟩ := V128
      obtain ⟨T134, h134, X134, e134, W134, st134⟩ := stB X128 hx hZ e128 Ar134 (j := (18 : Int32)) (own_in Sz134 (by decide) rfl (by decide)) (g := (mkF m 134 #[.val (.long x0), .second, .val (.int p1), .val (.int p2), .val (.int p3), .val (.long w5_12), .second, .val (.int v7_23), .val (.int v8_23), .unset, .unset, .unset, .unset, .unset, .unset] [(.int v8_23), (.int (18 : Int32)), (.ref b25), (.ref b25)])) rfl rfl (hb hby at_134)
      refine own_to st134 ?_
      have V134 : own_AV Value.int Z h134 b25 .byte 20 (own_upd (own_upd (own_upd (own_upd (own_upd (own_upd (own_upd (own_upd (own_upd (own_upd (own_upd (own_upd (own_upd (own_upd (own_upd (own_upd (own_upd (own_upd (own_upd (fun _ => (0 : Int32)) 0 (nar .byte v8_23)) 1 (nar .byte v8_23)) 2 (nar .byte v8_23)) 3 (nar .byte v8_23)) 4 (nar .byte v8_23)) 5 (nar .byte v8_23)) 6 (nar .byte v8_23)) 7 (nar .byte v8_23)) 8 (nar .byte v8_23)) 9 (nar .byte v8_23)) 10 (nar .byte v8_23)) 11 (nar .byte v8_23)) 12 (nar .byte v8_23)) 13 (nar .byte v8_23)) 14 (nar .byte v8_23)) 15 (nar .byte v8_23)) 16 (nar .byte v8_23)) 17 (nar .byte v8_23)) 18 (nar .byte v8_23)) := own_AV.set nn134 Ar134 Sz134 Hs134 W134 rfl
      obtain ⟨lo134, X134, N134⟩ : ∃ lo, Stand p l e _ s m _ below meth c T134 lo _ _ ∧ Fr n0 lo := ⟨_, X134, Fr.snoc X134 N128 g_b25⟩
      show own_Fin p e below G (T134.setTop (mkF m 135 #[.val (.long x0), .second, .val (.int p1), .val (.int p2), .val (.int p3), .val (.long w5_12), .second, .val (.int v7_23), .val (.int v8_23), .unset, .unset, .unset, .unset, .unset, .unset] [(.ref b25)]))
      refine own_to (fun _ kz => XS.dup X134.here hx rfl (hb hby at_135) rfl rfl kz) ?_
      show own_Fin p e below G (T134.setTop (mkF m 136 #[.val (.long x0), .second, .val (.int p1), .val (.int p2), .val (.int p3), .val (.long w5_12), .second, .val (.int v7_23), .val (.int v8_23), .unset, .unset, .unset, .unset, .unset, .unset] [(.ref b25), (.ref b25)]))
      refine own_to (fun _ kz => XS.bipush X134.here hx rfl (hb hby at_136) kz) ?_
      show own_Fin p e below G (T134.setTop (mkF m 138 #[.val (.long x0), .second, .val (.int p1), .val (.int p2), .val (.int p3), .val (.long w5_12), .second, .val (.int v7_23), .val (.int v8_23), .unset, .unset, .unset, .unset, .unset, .unset] [(.int (19 : Int32)), (.ref b25), (.ref b25)]))
      refine own_to (fun _ kz => XS.iload X134.here hx rfl (hb hby at_138) rfl  kz) ?_
      show own_Fin p e below G (T134.setTop (mkF m 140 #[.val (.long x0), .second, .val (.int p1), .val (.int p2), .val (.int p3), .val (.long w5_12), .second, .val (.int v7_23), .val (.int v8_23), .unset, .unset, .unset, .unset, .unset, .unset] [(.int v8_23), (.int (19 : Int32)), (.ref b25), (.ref b25)]))
      obtain ⟨nn140, cl140, Ar140, Sz140, Hs140⟩ := V134
      obtain ⟨T140, h140, X140, e140, W140, st140⟩ := stB X134 hx hZ e134 Ar140 (j := (19 : Int32)) (own_in Sz140 (by decide) rfl (by decide)) (g := (mkF m 140 #[.val (.long x0), .second, .val (.int p1), .val (.int p2), .val (.int p3), .val (.long w5_12), .second, .val (.int v7_23), .val (.int v8_23), .unset, .unset, .unset, .unset, .unset, .unset] [(.int v8_23), (.int (19 : Int32)), (.ref b25), (.ref b25)])) rfl rfl (hb hby at_140)
      refine own_to st140 ?_
      have V140 : own_AV Value.int Z h140 b25 .byte 20 (own_upd (own_upd (own_upd (own_upd (own_upd (own_upd (own_upd (own_upd (own_upd (own_upd (own_upd (own_upd (own_upd (own_upd (own_upd (own_upd (own_upd (own_upd (own_upd (own_upd (fun _ => (0 : Int32)) 0 (nar .byte v8_23)) 1 (nar .byte v8_23)) 2 (nar .byte v8_23)) 3 (nar .byte v8_23)) 4 (nar .byte v8_23)) 5 (nar .byte v8_23)) 6 (nar .byte v8_23)) 7 (nar .byte v8_23)) 8 (nar .byte v8_23)) 9 (nar .byte v8_23)) 10 (nar .byte v8_23)) 11 (nar .byte v8_23)) 12 (nar .byte v8_23)) 13 (nar .byte v8_23)) 14 (nar .byte v8_23)) 15 (nar .byte v8_23)) 16 (nar .byte v8_23)) 17 (nar .byte v8_23)) 18 (nar .byte v8_23)) 19 (nar .byte v8_23)) := own_AV.set nn140 Ar140 Sz140 Hs140 W140 rfl
      obtain ⟨lo140, X140, N140⟩ : ∃ lo, Stand p l e _ s m _ below meth c T140 lo _ _ ∧ Fr n0 lo := ⟨_, X140, Fr.snoc X140 N134 g_b25⟩
      have Vf140 : own_AV Value.int Z h140 b25 .byte 20 (fun _ => v8_23) := own_AV.congr V140 (fun i hi => by match i, hi with | 0, _ => exact jh1_23 | 1, _ => exact jh1_23 | 2, _ => exact jh1_23 | 3, _ => exact jh1_23 | 4, _ => exact jh1_23 | 5, _ => exact jh1_23 | 6, _ => exact jh1_23 | 7, _ => exact jh1_23 | 8, _ => exact jh1_23 | 9, _ => exact jh1_23 | 10, _ => exact jh1_23 | 11, _ => exact jh1_23 | 12, _ => exact jh1_23 | 13, _ => exact jh1_23 | 14, _ => exact jh1_23 | 15, _ => exact jh1_23 | 16, _ => exact jh1_23 | 17, _ => exact jh1_23 | 18, _ => exact jh1_23 | 19, _ => exact jh1_23 | (k + 20), h => exact absurd h (by omega))
      show own_Fin p e below G (T140.setTop (mkF m 141 #[.val (.long x0), .second, .val (.int p1), .val (.int p2), .val (.int p3), .val (.long w5_12), .second, .val (.int v7_23), .val (.int v8_23), .unset, .unset, .unset, .unset, .unset, .unset] [(.ref b25)]))
      refine own_to (fun _ kz => XS.astore X140.here hx rfl (hb hby at_141) rfl (rfl) (l' := #[.val (.long x0), .second, .val (.int p1), .val (.int p2), .val (.int p3), .val (.long w5_12), .second, .val (.int v7_23), .val (.int v8_23), .val (.ref b25), .unset, .unset, .unset, .unset, .unset]) rfl kz) ?_
      show own_Fin p e below G (T140.setTop (mkF m 143 #[.val (.long x0), .second, .val (.int p1), .val (.int p2), .val (.int p3), .val (.long w5_12), .second, .val (.int v7_23), .val (.int v8_23), .val (.ref b25), .unset, .unset, .unset, .unset, .unset] []))
      refine own_to (fun _ kz => XS.aload X140.here hx rfl (hb hby at_143) rfl (rfl)  kz) ?_
      show own_Fin p e below G (T140.setTop (mkF m 145 #[.val (.long x0), .second, .val (.int p1), .val (.int p2), .val (.int p3), .val (.long w5_12), .second, .val (.int v7_23), .val (.int v8_23), .val (.ref b25), .unset, .unset, .unset, .unset, .unset] [(.ref b25)]))
      refine own_to (fun _ kz => XS.iload X140.here hx rfl (hb hby at_145) rfl  kz) ?_
      show own_Fin p e below G (T140.setTop (mkF m 147 #[.val (.long x0), .second, .val (.int p1), .val (.int p2), .val (.int p3), .val (.long w5_12), .second, .val (.int v7_23), .val (.int v8_23), .val (.ref b25), .unset, .unset, .unset, .unset, .unset] [(.int v7_23), (.ref b25)]))
      refine own_to (fun _ kz => XS.lload X140.here hx rfl (hb hby at_147) rfl  kz) ?_
      show own_Fin p e below G (T140.setTop (mkF m 149 #[.val (.long x0), .second, .val (.int p1), .val (.int p2), .val (.int p3), .val (.long w5_12), .second, .val (.int v7_23), .val (.int v8_23), .val (.ref b25), .unset, .unset, .unset, .unset, .unset] [(.long w5_12), (.int v7_23), (.ref b25)]))
      have Zz_149_E25 := Nat.le_trans Z0 E25.1
      have Zz_149_W31 := Nat.le_trans Zz_149_E25 (Nat.le_of_eq (Wr.size W31).symm)
      have Zz_149_W36 := Nat.le_trans Zz_149_W31 (Nat.le_of_eq (Wr.size W36).symm)
      have Zz_149_W41 := Nat.le_trans Zz_149_W36 (Nat.le_of_eq (Wr.size W41).symm)
      have Zz_149_W46 := Nat.le_trans Zz_149_W41 (Nat.le_of_eq (Wr.size W46).symm)
      have Zz_149_W51 := Nat.le_trans Zz_149_W46 (Nat.le_of_eq (Wr.size W51).symm)
      have Zz_149_W56 := Nat.le_trans Zz_149_W51 (Nat.le_of_eq (Wr.size W56).symm)
      have Zz_149_W62 := Nat.le_trans Zz_149_W56 (Nat.le_of_eq (Wr.size W62).symm)
      have Zz_149_W68 := Nat.le_trans Zz_149_W62 (Nat.le_of_eq (Wr.size W68).symm)
      have Zz_149_W74 := Nat.le_trans Zz_149_W68 (Nat.le_of_eq (Wr.size W74).symm)
      have Zz_149_W80 := Nat.le_trans Zz_149_W74 (Nat.le_of_eq (Wr.size W80).symm)
      have Zz_149_W86 := Nat.le_trans Zz_149_W80 (Nat.le_of_eq (Wr.size W86).symm)
      have Zz_149_W92 := Nat.le_trans Zz_149_W86 (Nat.le_of_eq (Wr.size W92).symm)
      have Zz_149_W98 := Nat.le_trans Zz_149_W92 (Nat.le_of_eq (Wr.size W98).symm)
      have Zz_149_W104 := Nat.le_trans Zz_149_W98 (Nat.le_of_eq (Wr.size W104).symm)
      have Zz_149_W110 := Nat.le_trans Zz_149_W104 (Nat.le_of_eq (Wr.size W110).symm)
      have Zz_149_W116 := Nat.le_trans Zz_149_W110 (Nat.le_of_eq (Wr.size W116).symm)
      have Zz_149_W122 := Nat.le_trans Zz_149_W116 (Nat.le_of_eq (Wr.size W122).symm)
      have Zz_149_W128 := Nat.le_trans Zz_149_W122 (Nat.le_of_eq (Wr.size W128).symm)
      have Zz_149_W134 := Nat.le_trans Zz_149_W128 (Nat.le_of_eq (Wr.size W134).symm)
      have Zz_149_W140 := Nat.le_trans Zz_149_W134 (Nat.le_of_eq (Wr.size W140).symm)
      have Z_149 : n0 ≤ h140.size := Zz_149_W140
      obtain ⟨_, _, ⟨T149, L149, k149, n149⟩, -, X149, ⟨Lc149, hQ149, l149, y149, z149⟩, st149⟩ := Jvm.LawKit.callS X140 hx (y := (⟨"com/example/twigwright/twigwright/IntervalFile", "writeNumber", "([BIJ)I"⟩ : MethodName)) hown (mvT hZ (hw _ (List.mem_of_getElem? (i := 2) rfl))) (mvT hZ (hw _ (List.mem_of_getElem? (i := 3) rfl))) (mvT hZ (hw _ (List.mem_of_getElem? (i := 4) rfl))) (mvT hZ (hw _ (List.mem_of_getElem? (i := 5) rfl))) (by decide) (backOf (W := 0) (rm1 l Z a0 hw [] b25 v7_23 w5_12 (fun _ => v8_23) h140 n0 Z_149 Vf140 g_b25 jh0_12 jh0_23) hZ (hw _ (List.mem_of_getElem? (i := 5) rfl)) (hw _ (List.mem_of_getElem? (i := 4) rfl)) (by decide) (by decide)) (g := (mkF m 149 #[.val (.long x0), .second, .val (.int p1), .val (.int p2), .val (.int p3), .val (.long w5_12), .second, .val (.int v7_23), .val (.int v8_23), .val (.ref b25), .unset, .unset, .unset, .unset, .unset] [(.long w5_12), (.int v7_23), (.ref b25)])) rfl (by rw [hml]; rfl) (argsL := [(.ref b25), (.int v7_23), (.long w5_12)]) (rest := []) (lenOf own_pd1 rfl) rfl (by show 2 * 0 + _ ≤ _; exact Nat.le_of_eq rfl) (hb hby at_149) (fun _ _ => ⟨rfl, e140, (by decide : 1 + 0 ≤ _), (by decide : 20 + 0 ≤ _)⟩)
      dsimp only [Pt.U, Pt.locs, Pt.cells, Pt.slots] at X149 l149 y149 z149 st149 hQ149
      subst l149 y149 z149
      obtain ⟨r149, j149, f149w, rfl, N149q, Kp149, V149, hE149, hr149⟩ := hQ149
      obtain ⟨lo149, X149, N149⟩ : ∃ lo, Stand p l e _ s m _ below meth c T149 lo _ _ ∧ Fr n0 lo := ⟨_, X149, Fr.app N140 N149q⟩
      refine own_to st149 ?_
      show own_Fin p e below G (T149.setTop (mkF m 152 #[.val (.long x0), .second, .val (.int p1), .val (.int p2), .val (.int p3), .val (.long w5_12), .second, .val (.int v7_23), .val (.int v8_23), .val (.ref b25), .unset, .unset, .unset, .unset, .unset] [(.int r149)]))
      refine own_to (fun _ kz => XS.istore X149.here hx rfl (hb hby at_152) rfl (l' := #[.val (.long x0), .second, .val (.int p1), .val (.int p2), .val (.int p3), .val (.long w5_12), .second, .val (.int v7_23), .val (.int v8_23), .val (.ref b25), .val (.int r149), .unset, .unset, .unset, .unset]) rfl kz) ?_
      show own_Fin p e below G (T149.setTop (mkF m 154 #[.val (.long x0), .second, .val (.int p1), .val (.int p2), .val (.int p3), .val (.long w5_12), .second, .val (.int v7_23), .val (.int v8_23), .val (.ref b25), .val (.int r149), .unset, .unset, .unset, .unset] []))
      refine own_to (fun _ kz => XS.lload X149.here hx rfl (hb hby at_154) rfl  kz) ?_
      show own_Fin p e below G (T149.setTop (mkF m 156 #[.val (.long x0), .second, .val (.int p1), .val (.int p2), .val (.int p3), .val (.long w5_12), .second, .val (.int v7_23), .val (.int v8_23), .val (.ref b25), .val (.int r149), .unset, .unset, .unset, .unset] [(.long w5_12)]))
      have Zz_156_Kp149 := Nat.le_trans Z_149 Kp149.1
      have Z_156 : n0 ≤ T149.heap.size := Zz_156_Kp149
      obtain ⟨_, _, ⟨T156, L156, k156, n156⟩, -, X156, ⟨Lc156, hQ156, l156, y156, z156⟩, st156⟩ := Jvm.LawKit.callS X149 hx (y := (⟨"com/example/twigwright/twigwright/IntervalFileWriteNumberPinLaw", "expectedLength", "(J)I"⟩ : MethodName)) hown (mvT hZ (hw _ (List.mem_of_getElem? (i := 7) rfl))) (mvT hZ (hw _ (List.mem_of_getElem? (i := 8) rfl))) (mvT hZ (hw _ (List.mem_of_getElem? (i := 9) rfl))) (mvT hZ (hw _ (List.mem_of_getElem? (i := 10) rfl))) (by decide) (backOf (W := 0) (rm2 l Z a0 hw [] w5_12 T149.heap n0 Z_156) hZ (hw _ (List.mem_of_getElem? (i := 10) rfl)) (hw _ (List.mem_of_getElem? (i := 9) rfl)) (by decide) (by decide)) (g := (mkF m 156 #[.val (.long x0), .second, .val (.int p1), .val (.int p2), .val (.int p3), .val (.long w5_12), .second, .val (.int v7_23), .val (.int v8_23), .val (.ref b25), .val (.int r149), .unset, .unset, .unset, .unset] [(.long w5_12)])) rfl (by rw [hml]; rfl) (argsL := [(.long w5_12)]) (rest := []) (lenOf own_pd2 rfl) rfl (by show 2 * 0 + _ ≤ _; exact Nat.le_of_eq rfl) (hb hby at_156) (fun _ _ => ⟨rfl, rfl, (by decide : 1 + 0 ≤ _), (by decide : 20 + 0 ≤ _)⟩)
      dsimp only [Pt.U, Pt.locs, Pt.cells, Pt.slots] at X156 l156 y156 z156 st156 hQ156
      subst l156 y156 z156
      obtain ⟨rfl, N156q, e156⟩ := hQ156
      obtain ⟨lo156, X156, N156⟩ : ∃ lo, Stand p l e _ s m _ below meth c T156 lo _ _ ∧ Fr n0 lo := ⟨_, X156, Fr.app N149 N156q⟩
      refine own_to st156 ?_
      show own_Fin p e below G (T156.setTop (mkF m 159 #[.val (.long x0), .second, .val (.int p1), .val (.int p2), .val (.int p3), .val (.long w5_12), .second, .val (.int v7_23), .val (.int v8_23), .val (.ref b25), .val (.int r149), .unset, .unset, .unset, .unset] [(.int (f2 w5_12))]))
      refine own_to (fun _ kz => XS.istore X156.here hx rfl (hb hby at_159) rfl (l' := #[.val (.long x0), .second, .val (.int p1), .val (.int p2), .val (.int p3), .val (.long w5_12), .second, .val (.int v7_23), .val (.int v8_23), .val (.ref b25), .val (.int r149), .val (.int (f2 w5_12)), .unset, .unset, .unset]) rfl kz) ?_
      show own_Fin p e below G (T156.setTop (mkF m 161 #[.val (.long x0), .second, .val (.int p1), .val (.int p2), .val (.int p3), .val (.long w5_12), .second, .val (.int v7_23), .val (.int v8_23), .val (.ref b25), .val (.int r149), .val (.int (f2 w5_12)), .unset, .unset, .unset] []))
      refine own_to (fun _ kz => XS.iload X156.here hx rfl (hb hby at_161) rfl  kz) ?_
      show own_Fin p e below G (T156.setTop (mkF m 163 #[.val (.long x0), .second, .val (.int p1), .val (.int p2), .val (.int p3), .val (.long w5_12), .second, .val (.int v7_23), .val (.int v8_23), .val (.ref b25), .val (.int r149), .val (.int (f2 w5_12)), .unset, .unset, .unset] [(.int r149)]))
      refine own_to (fun _ kz => XS.iload X156.here hx rfl (hb hby at_163) rfl  kz) ?_
      show own_Fin p e below G (T156.setTop (mkF m 165 #[.val (.long x0), .second, .val (.int p1), .val (.int p2), .val (.int p3), .val (.long w5_12), .second, .val (.int v7_23), .val (.int v8_23), .val (.ref b25), .val (.int r149), .val (.int (f2 w5_12)), .unset, .unset, .unset] [(.int v7_23), (.int r149)]))
      refine own_to (fun _ kz => XS.iload X156.here hx rfl (hb hby at_165) rfl  kz) ?_
      show own_Fin p e below G (T156.setTop (mkF m 167 #[.val (.long x0), .second, .val (.int p1), .val (.int p2), .val (.int p3), .val (.long w5_12), .second, .val (.int v7_23), .val (.int v8_23), .val (.ref b25), .val (.int r149), .val (.int (f2 w5_12)), .unset, .unset, .unset] [(.int (f2 w5_12)), (.int v7_23), (.int r149)]))
      refine own_to (fun _ kz => XS.iadd X156.here hx rfl (hb hby at_167) rfl kz) ?_
      show own_Fin p e below G (T156.setTop (mkF m 168 #[.val (.long x0), .second, .val (.int p1), .val (.int p2), .val (.int p3), .val (.long w5_12), .second, .val (.int v7_23), .val (.int v8_23), .val (.ref b25), .val (.int r149), .val (.int (f2 w5_12)), .unset, .unset, .unset] [(.int (v7_23 + (f2 w5_12))), (.int r149)]))
      have hc168 : r149 = (v7_23 + (f2 w5_12)) := own_end jh0_12 jh0_23 hE149 hr149
      refine own_to (fun _ kz => XS.icmpYes X156.here hx rfl (pc0 := 168) (pc' := 173) rfl (hb hby at_168) rfl (teq hc168).1 (by decide) (by decide) kz) ?_
      show own_Fin p e below G (T156.setTop (mkF m 173 #[.val (.long x0), .second, .val (.int p1), .val (.int p2), .val (.int p3), .val (.long w5_12), .second, .val (.int v7_23), .val (.int v8_23), .val (.ref b25), .val (.int r149), .val (.int (f2 w5_12)), .unset, .unset, .unset] []))
      refine own_to (fun _ kz => XS.aload X156.here hx rfl (hb hby at_173) rfl (rfl)  kz) ?_
      show own_Fin p e below G (T156.setTop (mkF m 175 #[.val (.long x0), .second, .val (.int p1), .val (.int p2), .val (.int p3), .val (.long w5_12), .second, .val (.int v7_23), .val (.int v8_23), .val (.ref b25), .val (.int r149), .val (.int (f2 w5_12)), .unset, .unset, .unset] [(.ref b25)]))
      refine own_to (fun _ kz => XS.iload X156.here hx rfl (hb hby at_175) rfl  kz) ?_
      show own_Fin p e below G (T156.setTop (mkF m 177 #[.val (.long x0), .second, .val (.int p1), .val (.int p2), .val (.int p3), .val (.long w5_12), .second, .val (.int v7_23), .val (.int v8_23), .val (.ref b25), .val (.int r149), .val (.int (f2 w5_12)), .unset, .unset, .unset] [(.int r149), (.ref b25)]))
      refine own_to (fun _ kz => own_baload X156 hx hZ e156 V149 (j := r149) (own_ri2 jh0_23 hE149 hr149).1 rfl (own_ri2 jh0_23 hE149 hr149).2.1 (g := (mkF m 177 #[.val (.long x0), .second, .val (.int p1), .val (.int p2), .val (.int p3), .val (.long w5_12), .second, .val (.int v7_23), .val (.int v8_23), .val (.ref b25), .val (.int r149), .val (.int (f2 w5_12)), .unset, .unset, .unset] [(.int r149), (.ref b25)])) rfl rfl (hb hby at_177) kz) ?_
      show own_Fin p e below G (T156.setTop (mkF m 178 #[.val (.long x0), .second, .val (.int p1), .val (.int p2), .val (.int p3), .val (.long w5_12), .second, .val (.int v7_23), .val (.int v8_23), .val (.ref b25), .val (.int r149), .val (.int (f2 w5_12)), .unset, .unset, .unset] [(.int (f149w r149.toNatClampNeg))]))
      refine own_to (fun _ kz => XS.iload X156.here hx rfl (hb hby at_178) rfl  kz) ?_
      show own_Fin p e below G (T156.setTop (mkF m 180 #[.val (.long x0), .second, .val (.int p1), .val (.int p2), .val (.int p3), .val (.long w5_12), .second, .val (.int v7_23), .val (.int v8_23), .val (.ref b25), .val (.int r149), .val (.int (f2 w5_12)), .unset, .unset, .unset] [(.int v8_23), (.int (f149w r149.toNatClampNeg))]))
      have hc180 : (f149w r149.toNatClampNeg) = v8_23 := (own_ri2 jh0_23 hE149 hr149).2.2
      refine own_to (fun _ kz => XS.icmpYes X156.here hx rfl (pc0 := 180) (pc' := 185) rfl (hb hby at_180) rfl (teq hc180).1 (by decide) (by decide) kz) ?_
      show own_Fin p e below G (T156.setTop (mkF m 185 #[.val (.long x0), .second, .val (.int p1), .val (.int p2), .val (.int p3), .val (.long w5_12), .second, .val (.int v7_23), .val (.int v8_23), .val (.ref b25), .val (.int r149), .val (.int (f2 w5_12)), .unset, .unset, .unset] []))
      refine own_to (fun _ kz => XS.iload X156.here hx rfl (hb hby at_185) rfl  kz) ?_
      show own_Fin p e below G (T156.setTop (mkF m 187 #[.val (.long x0), .second, .val (.int p1), .val (.int p2), .val (.int p3), .val (.long w5_12), .second, .val (.int v7_23), .val (.int v8_23), .val (.ref b25), .val (.int r149), .val (.int (f2 w5_12)), .unset, .unset, .unset] [(.int v7_23)]))
      have K204 : own_Fin p e below G (T156.setTop (mkF m 204 #[.val (.long x0), .second, .val (.int p1), .val (.int p2), .val (.int p3), .val (.long w5_12), .second, .val (.int v7_23), .val (.int v8_23), .val (.ref b25), .val (.int r149), .val (.int (f2 w5_12)), .unset, .unset, .unset] [])) := by
        obtain ⟨T204, h204, X204, e204, E204, A204, D204, -, st204⟩ := newO X156 hx hZ hown (hw _ (List.mem_of_getElem? (i := 12) rfl)) (hw _ (List.mem_of_getElem? (i := 13) rfl)) (hw _ (List.mem_of_getElem? (i := 14) rfl)) e156 (g := (mkF m 204 #[.val (.long x0), .second, .val (.int p1), .val (.int p2), .val (.int p3), .val (.long w5_12), .second, .val (.int v7_23), .val (.int v8_23), .val (.ref b25), .val (.int r149), .val (.int (f2 w5_12)), .unset, .unset, .unset] [])) rfl (hb hby at_204) (by decide) (by decide)
        obtain ⟨b204, g204⟩ : ∃ z, z = T149.heap.size := ⟨_, rfl⟩
        rw [← g204] at A204 D204 st204
        refine own_to st204 ?_
        have ne_b25_b204 : b25 ≠ b204 := Nat.ne_of_lt (Nat.lt_of_lt_of_le V149.lt (Nat.le_of_eq g204.symm))
        have g_b204 : n0 ≤ b204 := Nat.le_trans Z_156 (Nat.le_of_eq g204.symm)
        have F_bytes_b204 : Fld Z h204 b204 "com/example/twigwright/twigwright/NumberReader" "bytes" "[B" .null := D204 (Or.inl (hw _ (List.mem_of_getElem? (i := 27) rfl))) (ty := (.array .byte)) (by decide)
        have F_position_b204 : Fld Z h204 b204 "com/example/twigwright/twigwright/NumberReader" "position" "I" (.int (0 : Int32)) := D204 (Or.inl (hw _ (List.mem_of_getElem? (i := 29) rfl))) (ty := .int) (by decide)
        have F_limit_b204 : Fld Z h204 b204 "com/example/twigwright/twigwright/NumberReader" "limit" "I" (.int (0 : Int32)) := D204 (Or.inl (hw _ (List.mem_of_getElem? (i := 31) rfl))) (ty := .int) (by decide)
        show own_Fin p e below G (T204.setTop (mkF m 207 #[.val (.long x0), .second, .val (.int p1), .val (.int p2), .val (.int p3), .val (.long w5_12), .second, .val (.int v7_23), .val (.int v8_23), .val (.ref b25), .val (.int r149), .val (.int (f2 w5_12)), .unset, .unset, .unset] [(.ref b204)]))
        refine own_to (fun _ kz => XS.dup X204.here hx rfl (hb hby at_207) rfl rfl kz) ?_
        show own_Fin p e below G (T204.setTop (mkF m 208 #[.val (.long x0), .second, .val (.int p1), .val (.int p2), .val (.int p3), .val (.long w5_12), .second, .val (.int v7_23), .val (.int v8_23), .val (.ref b25), .val (.int r149), .val (.int (f2 w5_12)), .unset, .unset, .unset] [(.ref b204), (.ref b204)]))
        refine own_to (fun _ kz => XS.aload X204.here hx rfl (hb hby at_208) rfl (rfl)  kz) ?_
        show own_Fin p e below G (T204.setTop (mkF m 210 #[.val (.long x0), .second, .val (.int p1), .val (.int p2), .val (.int p3), .val (.long w5_12), .second, .val (.int v7_23), .val (.int v8_23), .val (.ref b25), .val (.int r149), .val (.int (f2 w5_12)), .unset, .unset, .unset] [(.ref b25), (.ref b204), (.ref b204)]))
        refine own_to (fun _ kz => XS.iload X204.here hx rfl (hb hby at_210) rfl  kz) ?_
        show own_Fin p e below G (T204.setTop (mkF m 212 #[.val (.long x0), .second, .val (.int p1), .val (.int p2), .val (.int p3), .val (.long w5_12), .second, .val (.int v7_23), .val (.int v8_23), .val (.ref b25), .val (.int r149), .val (.int (f2 w5_12)), .unset, .unset, .unset] [(.int v7_23), (.ref b25), (.ref b204), (.ref b204)]))
        refine own_to (fun _ kz => XS.bipush X204.here hx rfl (hb hby at_212) kz) ?_
        show own_Fin p e below G (T204.setTop (mkF m 214 #[.val (.long x0), .second, .val (.int p1), .val (.int p2), .val (.int p3), .val (.long w5_12), .second, .val (.int v7_23), .val (.int v8_23), .val (.ref b25), .val (.int r149), .val (.int (f2 w5_12)), .unset, .unset, .unset] [(.int (20 : Int32)), (.int v7_23), (.ref b25), (.ref b204), (.ref b204)]))
        have Zz_214_E204 := Nat.le_trans Z_156 E204.1
        have Z_214 : n0 ≤ h204.size := Zz_214_E204
        obtain ⟨_, _, ⟨T214, L214, k214, n214⟩, -, X214, ⟨Lc214, hQ214, l214, y214, z214⟩, st214⟩ := X204.specialBack hx (y := (⟨"com/example/twigwright/twigwright/NumberReader", "<init>", "([BII)V"⟩ : MethodName)) rfl hown (mvT hZ (hw _ (List.mem_of_getElem? (i := 15) rfl))) (mvT hZ (hw _ (List.mem_of_getElem? (i := 16) rfl))) (mvT hZ (hw _ (List.mem_of_getElem? (i := 17) rfl))) (by decide) (backOf (W := 1) (rm3 l Z a0 hw [] b204 b25 v7_23 (20 : Int32) h204 n0 Z_214 A204 F_bytes_b204 F_position_b204 F_limit_b204 g_b204) hZ (hw _ (List.mem_of_getElem? (i := 17) rfl)) (hw _ (List.mem_of_getElem? (i := 14) rfl)) (by decide) (by decide)) (g := (mkF m 214 #[.val (.long x0), .second, .val (.int p1), .val (.int p2), .val (.int p3), .val (.long w5_12), .second, .val (.int v7_23), .val (.int v8_23), .val (.ref b25), .val (.int r149), .val (.int (f2 w5_12)), .unset, .unset, .unset] [(.int (20 : Int32)), (.int v7_23), (.ref b25), (.ref b204), (.ref b204)])) rfl (by rw [hml]; rfl) (Steps.refl _) (a := b204) (argsL := [(.ref b25), (.int v7_23), (.int (20 : Int32))]) (rest := [(.ref b204)]) (lenOf own_pd0 rfl) rfl (by show 2 * 0 + _ ≤ _; exact Nat.le_of_eq rfl) (hb hby at_214) (fun _ _ => ⟨rfl, e204, (by decide : 2 + 0 ≤ _), (by decide : 23 + 0 ≤ _)⟩)
        dsimp only [Pt.U, Pt.locs, Pt.cells, Pt.slots] at X214 l214 y214 z214 st214 hQ214
        subst l214 y214 z214
        obtain ⟨rfl, N214q, Kp214, P214_0, P214_1, P214_2, P214_3⟩ := hQ214
        obtain ⟨lo214, X214, N214⟩ : ∃ lo, Stand p l e _ s m _ below meth c T214 lo _ _ ∧ Fr n0 lo := ⟨_, X214, Fr.app N156 N214q⟩
        refine own_via st214 ?_
        show own_Fin p e below G (T214.setTop (mkF m 217 #[.val (.long x0), .second, .val (.int p1), .val (.int p2), .val (.int p3), .val (.long w5_12), .second, .val (.int v7_23), .val (.int v8_23), .val (.ref b25), .val (.int r149), .val (.int (f2 w5_12)), .unset, .unset, .unset] [(.ref b204)]))
        refine own_to (fun _ kz => XS.astore X214.here hx rfl (hb hby at_217) rfl (rfl) (l' := #[.val (.long x0), .second, .val (.int p1), .val (.int p2), .val (.int p3), .val (.long w5_12), .second, .val (.int v7_23), .val (.int v8_23), .val (.ref b25), .val (.int r149), .val (.int (f2 w5_12)), .val (.ref b204), .unset, .unset]) rfl kz) ?_
        show own_Fin p e below G (T214.setTop (mkF m 219 #[.val (.long x0), .second, .val (.int p1), .val (.int p2), .val (.int p3), .val (.long w5_12), .second, .val (.int v7_23), .val (.int v8_23), .val (.ref b25), .val (.int r149), .val (.int (f2 w5_12)), .val (.ref b204), .unset, .unset] []))
        refine own_to (fun _ kz => XS.aload X214.here hx rfl (hb hby at_219) rfl (rfl)  kz) ?_
        show own_Fin p e below G (T214.setTop (mkF m 221 #[.val (.long x0), .second, .val (.int p1), .val (.int p2), .val (.int p3), .val (.long w5_12), .second, .val (.int v7_23), .val (.int v8_23), .val (.ref b25), .val (.int r149), .val (.int (f2 w5_12)), .val (.ref b204), .unset, .unset] [(.ref b204)]))
        have V149_at_221 : own_AV Value.int Z T214.heap b25 .byte 20 f149w := ((V149.ext E204).keep Kp214 (ninS ne_b25_b204 nin0))
        have Zz_221_Kp214 := Nat.le_trans Z_214 Kp214.1
        have Z_221 : n0 ≤ T214.heap.size := Zz_221_Kp214
        obtain ⟨cq221, kq221, qa221, qb221, qc221⟩ := isOf hZ rfl P214_0
        obtain ⟨_, _, ⟨T221, L221, k221, n221⟩, -, X221, ⟨Lc221, hQ221, l221, y221, z221⟩, st221⟩ := X214.virtualBack hx (y := (⟨"com/example/twigwright/twigwright/NumberReader", "next", "()J"⟩ : MethodName)) (z := (⟨"com/example/twigwright/twigwright/NumberReader", "next", "()J"⟩ : MethodName)) hown (mvT hZ (hw _ (List.mem_of_getElem? (i := 32) rfl))) (mvT hZ (hw _ (List.mem_of_getElem? (i := 33) rfl))) (notFace_of_selects (args := #[]) (mvT hZ (hw _ (List.mem_of_getElem? (i := 35) rfl)))) (mvT hZ (hw _ (List.mem_of_getElem? (i := 35) rfl))) (mvT hZ (hw _ (List.mem_of_getElem? (i := 34) rfl))) (by decide) (backOf (W := 0) (rm6 l Z a0 hw [] b204 v7_23 f149w w5_12 j149 b25 T214.heap n0 Z_221 P214_0 P214_1 P214_2 P214_3 V149_at_221 g_b204 (Ne.symm ne_b25_b204) (own_er jh0_12 jh0_23 hE149)) hZ (hw _ (List.mem_of_getElem? (i := 36) rfl)) (hw _ (List.mem_of_getElem? (i := 14) rfl)) (by decide) (by decide)) qa221 qc221 (g := (mkF m 221 #[.val (.long x0), .second, .val (.int p1), .val (.int p2), .val (.int p3), .val (.long w5_12), .second, .val (.int v7_23), .val (.int v8_23), .val (.ref b25), .val (.int r149), .val (.int (f2 w5_12)), .val (.ref b204), .unset, .unset] [(.ref b204)])) rfl (by rw [hml]; rfl) (Steps.refl _) (argsL := []) (rest := []) (lenOf own_pd3 rfl) rfl (by show 2 * 0 + _ ≤ _; exact Nat.le_of_eq rfl) (hb hby at_221) (fun _ _ => ⟨rfl, rfl, (by decide : 2 + 0 ≤ _), (by decide : 23 + 0 ≤ _)⟩)
        dsimp only [Pt.U, Pt.locs, Pt.cells, Pt.slots] at X221 l221 y221 z221 st221 hQ221
        subst l221 y221 z221
        obtain ⟨r221, rfl, N221q, Kp221, PE221, PF221, hr221⟩ := hQ221
        obtain ⟨lo221, X221, N221⟩ : ∃ lo, Stand p l e _ s m _ below meth c T221 lo _ _ ∧ Fr n0 lo := ⟨_, X221, Fr.app N214 N221q⟩
        refine own_via st221 ?_
        show own_Fin p e below G (T221.setTop (mkF m 224 #[.val (.long x0), .second, .val (.int p1), .val (.int p2), .val (.int p3), .val (.long w5_12), .second, .val (.int v7_23), .val (.int v8_23), .val (.ref b25), .val (.int r149), .val (.int (f2 w5_12)), .val (.ref b204), .unset, .unset] [(.long w5_12)]))
        refine own_to (fun _ kz => XS.lstore X221.here hx rfl (hb hby at_224) rfl (l' := #[.val (.long x0), .second, .val (.int p1), .val (.int p2), .val (.int p3), .val (.long w5_12), .second, .val (.int v7_23), .val (.int v8_23), .val (.ref b25), .val (.int r149), .val (.int (f2 w5_12)), .val (.ref b204), .val (.long w5_12), .second]) rfl kz) ?_
        show own_Fin p e below G (T221.setTop (mkF m 226 #[.val (.long x0), .second, .val (.int p1), .val (.int p2), .val (.int p3), .val (.long w5_12), .second, .val (.int v7_23), .val (.int v8_23), .val (.ref b25), .val (.int r149), .val (.int (f2 w5_12)), .val (.ref b204), .val (.long w5_12), .second] []))
        refine own_to (fun _ kz => XS.lload X221.here hx rfl (hb hby at_226) rfl  kz) ?_
        show own_Fin p e below G (T221.setTop (mkF m 228 #[.val (.long x0), .second, .val (.int p1), .val (.int p2), .val (.int p3), .val (.long w5_12), .second, .val (.int v7_23), .val (.int v8_23), .val (.ref b25), .val (.int r149), .val (.int (f2 w5_12)), .val (.ref b204), .val (.long w5_12), .second] [(.long w5_12)]))
        refine own_to (fun _ kz => XS.lload X221.here hx rfl (hb hby at_228) rfl  kz) ?_
        show own_Fin p e below G (T221.setTop (mkF m 230 #[.val (.long x0), .second, .val (.int p1), .val (.int p2), .val (.int p3), .val (.long w5_12), .second, .val (.int v7_23), .val (.int v8_23), .val (.ref b25), .val (.int r149), .val (.int (f2 w5_12)), .val (.ref b204), .val (.long w5_12), .second] [(.long w5_12), (.long w5_12)]))
        refine own_to (fun _ kz => XS.lcmp X221.here hx rfl (hb hby at_230) rfl kz) ?_
        show own_Fin p e below G (T221.setTop (mkF m 231 #[.val (.long x0), .second, .val (.int p1), .val (.int p2), .val (.int p3), .val (.long w5_12), .second, .val (.int v7_23), .val (.int v8_23), .val (.ref b25), .val (.int r149), .val (.int (f2 w5_12)), .val (.ref b204), .val (.long w5_12), .second] [(.int (lcmpW w5_12 w5_12))]))
        have hc231 : w5_12 = w5_12 := rfl
        refine own_to (fun _ kz => XS.ifNo X221.here hx rfl (hb hby at_231) rfl ((if0 _ _).trans (teq ((lw_eq _ _).mpr hc231)).2) kz) ?_
        show own_Fin p e below G (T221.setTop (mkF m 234 #[.val (.long x0), .second, .val (.int p1), .val (.int p2), .val (.int p3), .val (.long w5_12), .second, .val (.int v7_23), .val (.int v8_23), .val (.ref b25), .val (.int r149), .val (.int (f2 w5_12)), .val (.ref b204), .val (.long w5_12), .second] []))
        refine own_to (fun _ kz => XS.aload X221.here hx rfl (hb hby at_234) rfl (rfl)  kz) ?_
        show own_Fin p e below G (T221.setTop (mkF m 236 #[.val (.long x0), .second, .val (.int p1), .val (.int p2), .val (.int p3), .val (.long w5_12), .second, .val (.int v7_23), .val (.int v8_23), .val (.ref b25), .val (.int r149), .val (.int (f2 w5_12)), .val (.ref b204), .val (.long w5_12), .second] [(.ref b204)]))
        have Zz_236_Kp221 := Nat.le_trans Z_221 Kp221.1
        have Z_236 : n0 ≤ T221.heap.size := Zz_236_Kp221
        obtain ⟨cq236, kq236, qa236, qb236, qc236⟩ := isOf hZ rfl PE221
        obtain ⟨_, _, ⟨T236, L236, k236, n236⟩, -, X236, ⟨Lc236, hQ236, l236, y236, z236⟩, st236⟩ := X221.virtualBack hx (y := (⟨"com/example/twigwright/twigwright/NumberReader", "position", "()I"⟩ : MethodName)) (z := (⟨"com/example/twigwright/twigwright/NumberReader", "position", "()I"⟩ : MethodName)) hown (mvT hZ (hw _ (List.mem_of_getElem? (i := 37) rfl))) (mvT hZ (hw _ (List.mem_of_getElem? (i := 38) rfl))) (notFace_of_selects (args := #[]) (mvT hZ (hw _ (List.mem_of_getElem? (i := 40) rfl)))) (mvT hZ (hw _ (List.mem_of_getElem? (i := 40) rfl))) (mvT hZ (hw _ (List.mem_of_getElem? (i := 39) rfl))) (by decide) (backOf (W := 0) (rm7 l Z a0 hw [] b204 r221 T221.heap n0 Z_236 PF221) hZ (hw _ (List.mem_of_getElem? (i := 41) rfl)) (hw _ (List.mem_of_getElem? (i := 14) rfl)) (by decide) (by decide)) qa236 qc236 (g := (mkF m 236 #[.val (.long x0), .second, .val (.int p1), .val (.int p2), .val (.int p3), .val (.long w5_12), .second, .val (.int v7_23), .val (.int v8_23), .val (.ref b25), .val (.int r149), .val (.int (f2 w5_12)), .val (.ref b204), .val (.long w5_12), .second] [(.ref b204)])) rfl (by rw [hml]; rfl) (Steps.refl _) (argsL := []) (rest := []) (lenOf own_pd4 rfl) rfl (by show 2 * 0 + _ ≤ _; exact Nat.le_of_eq rfl) (hb hby at_236) (fun _ _ => ⟨rfl, rfl, (by decide : 2 + 0 ≤ _), (by decide : 23 + 0 ≤ _)⟩)
        dsimp only [Pt.U, Pt.locs, Pt.cells, Pt.slots] at X236 l236 y236 z236 st236 hQ236
        subst l236 y236 z236
        obtain ⟨rfl, N236q, e236⟩ := hQ236
        obtain ⟨lo236, X236, N236⟩ : ∃ lo, Stand p l e _ s m _ below meth c T236 lo _ _ ∧ Fr n0 lo := ⟨_, X236, Fr.app N221 N236q⟩
        refine own_via st236 ?_
        show own_Fin p e below G (T236.setTop (mkF m 239 #[.val (.long x0), .second, .val (.int p1), .val (.int p2), .val (.int p3), .val (.long w5_12), .second, .val (.int v7_23), .val (.int v8_23), .val (.ref b25), .val (.int r149), .val (.int (f2 w5_12)), .val (.ref b204), .val (.long w5_12), .second] [(.int (f7 r221))]))
        refine own_to (fun _ kz => XS.iload X236.here hx rfl (hb hby at_239) rfl  kz) ?_
        show own_Fin p e below G (T236.setTop (mkF m 241 #[.val (.long x0), .second, .val (.int p1), .val (.int p2), .val (.int p3), .val (.long w5_12), .second, .val (.int v7_23), .val (.int v8_23), .val (.ref b25), .val (.int r149), .val (.int (f2 w5_12)), .val (.ref b204), .val (.long w5_12), .second] [(.int r149), (.int (f7 r221))]))
        have hc241 : (f7 r221) = r149 := Int32.toInt_inj.mp (hr221.trans hr149.symm)
        refine own_to (fun _ kz => XS.icmpNo X236.here hx rfl (hb hby at_241) rfl (teq hc241).2 kz) ?_
        show own_Fin p e below G (T236.setTop (mkF m 244 #[.val (.long x0), .second, .val (.int p1), .val (.int p2), .val (.int p3), .val (.long w5_12), .second, .val (.int v7_23), .val (.int v8_23), .val (.ref b25), .val (.int r149), .val (.int (f2 w5_12)), .val (.ref b204), .val (.long w5_12), .second] []))
        refine own_to (fun _ kz => XS.iconst X236.here hx rfl (hb hby at_244) kz) ?_
        show own_Fin p e below G (T236.setTop (mkF m 245 #[.val (.long x0), .second, .val (.int p1), .val (.int p2), .val (.int p3), .val (.long w5_12), .second, .val (.int v7_23), .val (.int v8_23), .val (.ref b25), .val (.int r149), .val (.int (f2 w5_12)), .val (.ref b204), .val (.long w5_12), .second] [(.int (1 : Int32))]))
        refine own_to (fun _ kz => XS.goto X236.here hx rfl (pc0 := 245) (pc' := 249) rfl (hb hby at_245) (by decide) (by decide) kz) ?_
        show own_Fin p e below G (T236.setTop (mkF m 249 #[.val (.long x0), .second, .val (.int p1), .val (.int p2), .val (.int p3), .val (.long w5_12), .second, .val (.int v7_23), .val (.int v8_23), .val (.ref b25), .val (.int r149), .val (.int (f2 w5_12)), .val (.ref b204), .val (.long w5_12), .second] [(.int (1 : Int32))]))
        exact own_retN X236 hx hlk hG (t := .boolean) Bd.returns (by simp) (hb hby at_249) (by decide) (by decide) (by rw [e236]; exact ⟨rfl, N236, trivial⟩)
      by_cases hc187 : (0 : Int32) < v7_23
      · refine own_to (fun _ kz => XS.ifNo X156.here hx rfl (hb hby at_187) rfl ((if0 _ _).trans (tlt hc187).2.2.2) kz) ?_
        show own_Fin p e below G (T156.setTop (mkF m 190 #[.val (.long x0), .second, .val (.int p1), .val (.int p2), .val (.int p3), .val (.long w5_12), .second, .val (.int v7_23), .val (.int v8_23), .val (.ref b25), .val (.int r149), .val (.int (f2 w5_12)), .unset, .unset, .unset] []))
        refine own_to (fun _ kz => XS.aload X156.here hx rfl (hb hby at_190) rfl (rfl)  kz) ?_
        show own_Fin p e below G (T156.setTop (mkF m 192 #[.val (.long x0), .second, .val (.int p1), .val (.int p2), .val (.int p3), .val (.long w5_12), .second, .val (.int v7_23), .val (.int v8_23), .val (.ref b25), .val (.int r149), .val (.int (f2 w5_12)), .unset, .unset, .unset] [(.ref b25)]))
        refine own_to (fun _ kz => XS.iload X156.here hx rfl (hb hby at_192) rfl  kz) ?_
        show own_Fin p e below G (T156.setTop (mkF m 194 #[.val (.long x0), .second, .val (.int p1), .val (.int p2), .val (.int p3), .val (.long w5_12), .second, .val (.int v7_23), .val (.int v8_23), .val (.ref b25), .val (.int r149), .val (.int (f2 w5_12)), .unset, .unset, .unset] [(.int v7_23), (.ref b25)]))
        refine own_to (fun _ kz => XS.iconst X156.here hx rfl (hb hby at_194) kz) ?_
        show own_Fin p e below G (T156.setTop (mkF m 195 #[.val (.long x0), .second, .val (.int p1), .val (.int p2), .val (.int p3), .val (.long w5_12), .second, .val (.int v7_23), .val (.int v8_23), .val (.ref b25), .val (.int r149), .val (.int (f2 w5_12)), .unset, .unset, .unset] [(.int (1 : Int32)), (.int v7_23), (.ref b25)]))
        refine own_to (fun _ kz => XS.isub X156.here hx rfl (hb hby at_195) rfl kz) ?_
        show own_Fin p e below G (T156.setTop (mkF m 196 #[.val (.long x0), .second, .val (.int p1), .val (.int p2), .val (.int p3), .val (.long w5_12), .second, .val (.int v7_23), .val (.int v8_23), .val (.ref b25), .val (.int r149), .val (.int (f2 w5_12)), .unset, .unset, .unset] [(.int (v7_23 - (1 : Int32))), (.ref b25)]))
        refine own_to (fun _ kz => own_baload X156 hx hZ e156 V149 (j := (v7_23 - (1 : Int32))) (own_pm jh0_23 hc187 hE149).1 rfl (own_pm jh0_23 hc187 hE149).2.1 (g := (mkF m 196 #[.val (.long x0), .second, .val (.int p1), .val (.int p2), .val (.int p3), .val (.long w5_12), .second, .val (.int v7_23), .val (.int v8_23), .val (.ref b25), .val (.int r149), .val (.int (f2 w5_12)), .unset, .unset, .unset] [(.int (v7_23 - (1 : Int32))), (.ref b25)])) rfl rfl (hb hby at_196) kz) ?_
        show own_Fin p e below G (T156.setTop (mkF m 197 #[.val (.long x0), .second, .val (.int p1), .val (.int p2), .val (.int p3), .val (.long w5_12), .second, .val (.int v7_23), .val (.int v8_23), .val (.ref b25), .val (.int r149), .val (.int (f2 w5_12)), .unset, .unset, .unset] [(.int (f149w (v7_23 - (1 : Int32)).toNatClampNeg))]))
        refine own_to (fun _ kz => XS.iload X156.here hx rfl (hb hby at_197) rfl  kz) ?_
        show own_Fin p e below G (T156.setTop (mkF m 199 #[.val (.long x0), .second, .val (.int p1), .val (.int p2), .val (.int p3), .val (.long w5_12), .second, .val (.int v7_23), .val (.int v8_23), .val (.ref b25), .val (.int r149), .val (.int (f2 w5_12)), .unset, .unset, .unset] [(.int v8_23), (.int (f149w (v7_23 - (1 : Int32)).toNatClampNeg))]))
        have hc199 : (f149w (v7_23 - (1 : Int32)).toNatClampNeg) = v8_23 := (own_pm jh0_23 hc187 hE149).2.2
        refine own_to (fun _ kz => XS.icmpYes X156.here hx rfl (pc0 := 199) (pc' := 204) rfl (hb hby at_199) rfl (teq hc199).1 (by decide) (by decide) kz) ?_
        show own_Fin p e below G (T156.setTop (mkF m 204 #[.val (.long x0), .second, .val (.int p1), .val (.int p2), .val (.int p3), .val (.long w5_12), .second, .val (.int v7_23), .val (.int v8_23), .val (.ref b25), .val (.int r149), .val (.int (f2 w5_12)), .unset, .unset, .unset] []))
        exact K204 
      · refine own_to (fun _ kz => XS.ifYes X156.here hx rfl (pc0 := 187) (pc' := 204) rfl (hb hby at_187) rfl ((if0 _ _).trans (flt hc187).2.2.2) (by decide) (by decide) kz) ?_
        show own_Fin p e below G (T156.setTop (mkF m 204 #[.val (.long x0), .second, .val (.int p1), .val (.int p2), .val (.int p3), .val (.long w5_12), .second, .val (.int v7_23), .val (.int v8_23), .val (.ref b25), .val (.int r149), .val (.int (f2 w5_12)), .unset, .unset, .unset] []))
        exact K204 
    exact K23 (p2 &&& (7 : Int32)) (p3.toInt8.toInt32) (c_and _ 7 (by decide)) (own_fl _)
  exact K12 (((x0 &&& (9223372036854775807 : Int64)).toUInt64 >>> ((p1 &&& (63 : Int32)) &&& 0x3f).toInt64.toUInt64).toInt64) (own_val _ _)
set_option maxRecDepth 65536 in
set_option maxHeartbeats 40000000 in
theorem comes_1 {Post : Tables → Env → Array Value → State → Outcome → State → Prop} (hpost : ∀ tb e args s v u, (limb_1_1.after args s (.returned v) u = true ∧ limb_1_2.after args s (.returned v) u = true ∧ True) → FrameEnd s (.returned v) u (Jvm.fieldLocs frame_1_writes args s ++ Jvm.arrayLocs frame_1_arrays args s ++ Jvm.staticLocs frame_1_statics s) 16 128 → Post tb e args s (.returned v) u) :
    ArmFor flags0 classFile x code maxLocals ret World_1 tables_1 room_1 Calls_1 rest_1 Pre_1 Post := by
  intro l hfl _ _ p e ha hc hk s m args below hf hA hF happ hP
  obtain ⟨hcalls, hrest, hpre⟩ := hP
  obtain ⟨-, -, -, hnamed, -, -, -, hat⟩ := (Spec.applies_iff hf).mp happ
  obtain ⟨hg, hn⟩ := and_e (Cond.before_iff.mp (show (Jvm.Cond.and given_1 narrow_1).before args s = true from hpre))
  obtain ⟨gg1, gg2⟩ := and_e hg
  obtain ⟨gg3, gg4⟩ := and_e gg2
  obtain ⟨gg5, gg6⟩ := and_e gg4
  obtain ⟨gg7, gg8⟩ := and_e gg6
  obtain ⟨w0, w1, w2, w3, rfl⟩ : ∃ w0 w1 w2 w3 : Value, args = #[w0, w1, w2, w3] := by
    have hs : args.size = 4 := by simpa [Cond.value, given_1] using gg1
    obtain ⟨L⟩ := args
    match L, hs with
    | [w0, w1, w2, w3], _ => exact ⟨w0, w1, w2, w3, rfl⟩
  have hw := fun d (hd : d ∈ tables_1) => atoms_spec (ws := Jvm.Cond.code x code maxLocals ret :: tables_1) hat d (List.mem_cons_of_mem _ hd)
  obtain ⟨i0, ei0⟩ := isL_v gg3
  obtain rfl : w0 = (.long i0) := Option.some.inj ei0
  obtain ⟨i1, ei1⟩ := is_v gg5
  obtain rfl : w1 = (.int i1) := Option.some.inj ei1
  obtain ⟨i2, ei2⟩ := is_v gg7
  obtain rfl : w2 = (.int i2) := Option.some.inj ei2
  obtain ⟨i3, ei3⟩ := is_v gg8
  obtain rfl : w3 = (.int i3) := Option.some.inj ei3
  obtain ⟨n, o, h1, h2, h3, v, L, rfl, ⟨hv, N, -⟩, hq⟩ := rm0 l s _ hw tables_1 i0 i1 i2 i3 s.heap s.heap.size (Nat.le_refl _) p e ha hc hk s m _ below hf ((Spec.applies_iff_loose hf).mp happ).1 ⟨rfl, State.Warmed39.refl s, rfl⟩ trivial
  obtain rfl : v = some (.int 1) := hv
  refine ⟨n, _, h1, h2, h3, hpost _ _ _ _ _ _ ⟨Cond.after_iff.mpr rfl, Cond.after_iff.mpr (eq_i res_at (Term.int_eval (1)) rfl), trivial⟩ ⟨hq.1, hq.2.1, (hq.2.2.sift fun y hy => Or.inr (N y hy)).mono (by decide) (by decide)⟩⟩
theorem main_1_1 : Claimed_1_1 := comes_1 fun _ _ _ _ _ _ h hF => ⟨h.1, hF⟩
theorem main_1_2 : Claimed_1_2 := comes_1 fun _ _ _ _ _ _ h hF => ⟨h.2.1, hF⟩
end Jvm.Pilot.@@N@@
namespace Jvm.Pilot.@@N@@
open Jvm Jvm.ClassFile Sem Op Lib Jvm.Free Jvm.Stand Jvm.Pilot.@@N@@.Jvm.D
/-! MADE BY PROGRAM (witnessworld.py) out of the Statement's table words and the real class files: 12 classes; the members and pool entries that the words name. The judged class is class 1, her method 2. -/
namespace start1
open Jvm.ClassFile
def u (s : String) : CpInfo := .utf8 (stringToUtf16 s)
/-- a pool by its gaps: so many unusable entries, then the entry; so many at the end -/
def gap : Nat → List CpInfo → List CpInfo
  | 0, r => r
  | n + 1, r => .unusable :: gap n r
def poolList (es : List (Nat × CpInfo)) (last : Nat) : List CpInfo := es.foldr (fun e r => gap e.1 (e.2 :: r)) (gap last [])
def pool (es : List (Nat × CpInfo)) (last : Nat) : Array CpInfo := ⟨poolList es last⟩
def fileOf (pool : Array CpInfo) (this : Nat) (attrs : Array Attribute := #[]) (ms : Array MethodInfo := #[]) (fl : Nat := 33) (sup : Nat := 0) (ifs : Array Nat := #[]) (fds : Array FieldInfo := #[]) : ClassFile where
  minorVersion := 0
  majorVersion := 65
  constantPool := pool
  accessFlags := fl
  thisClass := this
  superClass := sup
  interfaces := ifs
  fields := fds
  methods := ms
  attributes := attrs
def plain (name : String) (sup : Option ClassId) : Class where
  name := name
  kind := .ordinary
  loader := none
  accessFlags := 33
  super := sup
  interfaces := #[]
  cf := none
  fields := #[]
  methods := #[]
  instanceTypes := #[]
  staticTypes := #[]
  resolved := #[]
  callSites := []
  init := .initialized
  statics := none
  mirror := none

def pool0 : Array CpInfo := pool [(5, u "<init>"), (0, u "()V"), (1, .class_ 10), (1, u "java/lang/Object")] 113

def k0c0 : Code := { maxStack := 0, maxLocals := 1, code := object_method_1_code, exceptionTable := #[], attributes := #[] }
def k0m0 : Method := { name := "<init>", desc := "()V", sig := { parameters := [], returnType := none }, accessFlags := 1, code := some k0c0 }
/-- java/lang/Object -/
def k0 : Class := { plain "java/lang/Object" none with
  accessFlags := 33
  interfaces := #[]
  cf := some (fileOf pool0 8 #[] #[{ accessFlags := 1, nameIndex := 5, descriptorIndex := 6, attributes := #[] }] 33 0 #[] #[])
  fields := #[]
  methods := #[k0m0]
  instanceTypes := #[]
  staticTypes := #[]
  resolved := Array.replicate 124 none
  statics := none }

def pool1 : Array CpInfo := pool [(2, .class_ 4), (1, u "java/lang/Object"), (0, u "<init>"), (0, u "()V"), (0, .long 128), (1, .long 16384), (1, .long 2097152), (1, .long 268435456), (1, .long 34359738368), (1, .long 4398046511104), (1, .long 562949953421312), (1, .long 72057594037927936), (3, .long 9223372036854775807), (1, .methodref 28 29), (0, .class_ 30), (0, .nameAndType 31 32), (0, u "com/example/twigwright/twigwright/IntervalFile"), (0, u "writeNumber"), (0, u "([BIJ)I"), (0, .methodref 34 35), (0, .class_ 36), (0, .nameAndType 37 38), (0, u "com/example/twigwright/twigwright/IntervalFileWriteNumberPinLaw"), (0, u "expectedLength"), (0, u "(J)I"), (0, .class_ 40), (0, u "com/example/twigwright/twigwright/NumberReader"), (0, .methodref 39 42), (0, .nameAndType 5 43), (0, u "([BII)V"), (0, .methodref 39 45), (0, .nameAndType 46 47), (0, u "next"), (0, u "()J"), (0, .methodref 39 49), (0, .nameAndType 50 51), (0, u "position"), (0, u "()I"), (3, u "law"), (0, u "(JIII)Z")] 7

def k1m0 : Method := { name := "<init>", desc := "()V", sig := { parameters := [], returnType := none }, accessFlags := 1, code := none }
def k1c1 : Code := { maxStack := 4, maxLocals := 2, code := method_2_code, exceptionTable := #[], attributes := #[] }
def k1m1 : Method := { name := "expectedLength", desc := "(J)I", sig := { parameters := [.long], returnType := some .int }, accessFlags := 10, code := some k1c1 }
def k1c2 : Code := { maxStack := 5, maxLocals := 15, code := code, exceptionTable := #[], attributes := #[] }
def k1m2 : Method := { name := "law", desc := "(JIII)Z", sig := { parameters := [.long, .int, .int, .int], returnType := some .boolean }, accessFlags := 9, code := some k1c2 }
/-- com/example/twigwright/twigwright/IntervalFileWriteNumberPinLaw -/
def k1 : Class := { plain "com/example/twigwright/twigwright/IntervalFileWriteNumberPinLaw" (some 0) with
  accessFlags := 49
  interfaces := #[]
  cf := some (fileOf pool1 34 #[] #[{ accessFlags := 1, nameIndex := 5, descriptorIndex := 6, attributes := #[] }, { accessFlags := 10, nameIndex := 37, descriptorIndex := 38, attributes := #[] }, { accessFlags := 9, nameIndex := 55, descriptorIndex := 56, attributes := #[] }] 49 2 #[] #[])
  fields := #[]
  methods := #[k1m0, k1m1, k1m2]
  instanceTypes := #[]
  staticTypes := #[]
  resolved := Array.replicate 64 none
  statics := none }

def pool2 : Array CpInfo := pool [(1, .class_ 2), (0, u "java/lang/AutoCloseable"), (0, .class_ 4), (0, u "java/lang/Object")] 7

/-- java/lang/AutoCloseable -/
def k2 : Class := { plain "java/lang/AutoCloseable" (some 0) with
  accessFlags := 1537
  interfaces := #[]
  cf := some (fileOf pool2 1 #[] #[] 1537 3 #[] #[])
  fields := #[]
  methods := #[]
  instanceTypes := #[]
  staticTypes := #[]
  resolved := Array.replicate 12 none
  statics := none }

def pool3 : Array CpInfo := pool [(1, .class_ 2), (0, u "java/io/Closeable"), (0, .class_ 4), (0, u "java/lang/Object"), (0, .class_ 6), (0, u "java/lang/AutoCloseable")] 7

/-- java/io/Closeable -/
def k3 : Class := { plain "java/io/Closeable" (some 0) with
  accessFlags := 1537
  interfaces := #[2]
  cf := some (fileOf pool3 1 #[] #[] 1537 3 #[5] #[])
  fields := #[]
  methods := #[]
  instanceTypes := #[]
  staticTypes := #[]
  resolved := Array.replicate 14 none
  statics := none }

def pool4 : Array CpInfo := pool [(6, .class_ 8), (1, u "java/lang/Object"), (3, .class_ 14), (1, u "com/example/twigwright/twigwright/IntervalFile"), (0, u "kind"), (0, u "Lcom/example/twigwright/twigwright/IntervalFile$Kind;"), (2, u "channel"), (0, u "Lcom/example/twigwright/twigwright/StoreFile;"), (2, u "summary"), (0, u "Lcom/example/twigwright/twigwright/PathSummary;"), (8, u "firstChunk"), (0, u "[I"), (2, u "nextChunk"), (2, u "chunkOffsets"), (0, u "[J"), (2, u "chunkChecksums"), (2, u "limit"), (0, u "J"), (21, .class_ 72), (1, u "com/example/twigwright/twigwright/IntervalFile$Kind"), (21, u "I"), (108, .long 18446744073709551488), (1, .long 127), (1, .long 128), (28, .class_ 237), (0, u "java/io/Closeable"), (0, u "HEADER_BYTES"), (2, u "TRAILER_BYTES"), (1, u "CHECKSUM_BYTES"), (16, u "writeNumber"), (0, u "([BIJ)I"), (3, .class_ 266), (0, u "com/example/twigwright/twigwright/IntervalFile$Writer")] 37

def k4c0 : Code := { maxStack := 6, maxLocals := 7, code := prog_14_method_7_code, exceptionTable := #[], attributes := #[] }
def k4m0 : Method := { name := "writeNumber", desc := "([BIJ)I", sig := { parameters := [(.array .byte), .int, .long], returnType := some .int }, accessFlags := 8, code := some k4c0 }
/-- com/example/twigwright/twigwright/IntervalFile -/
def k4 : Class := { plain "com/example/twigwright/twigwright/IntervalFile" (some 0) with
  accessFlags := 48
  interfaces := #[3]
  cf := some (fileOf pool4 12 #[.nestMembers #[265, 70]] #[{ accessFlags := 8, nameIndex := 260, descriptorIndex := 261, attributes := #[] }] 48 6 #[236] #[{ accessFlags := 26, nameIndex := 238, descriptorIndex := 94, attributes := #[] }, { accessFlags := 26, nameIndex := 241, descriptorIndex := 94, attributes := #[] }, { accessFlags := 26, nameIndex := 243, descriptorIndex := 94, attributes := #[] }, { accessFlags := 18, nameIndex := 15, descriptorIndex := 16, attributes := #[] }, { accessFlags := 18, nameIndex := 19, descriptorIndex := 20, attributes := #[] }, { accessFlags := 18, nameIndex := 23, descriptorIndex := 24, attributes := #[] }, { accessFlags := 18, nameIndex := 33, descriptorIndex := 34, attributes := #[] }, { accessFlags := 18, nameIndex := 37, descriptorIndex := 34, attributes := #[] }, { accessFlags := 18, nameIndex := 40, descriptorIndex := 41, attributes := #[] }, { accessFlags := 18, nameIndex := 44, descriptorIndex := 34, attributes := #[] }, { accessFlags := 18, nameIndex := 47, descriptorIndex := 48, attributes := #[] }])
  fields := #[{ name := "HEADER_BYTES", type := .int, accessFlags := 26, slot := 0, constantValue := 0 }, { name := "TRAILER_BYTES", type := .int, accessFlags := 26, slot := 1, constantValue := 0 }, { name := "CHECKSUM_BYTES", type := .int, accessFlags := 26, slot := 2, constantValue := 0 }, { name := "kind", type := (.object "com/example/twigwright/twigwright/IntervalFile$Kind"), accessFlags := 18, slot := 0, constantValue := 0 }, { name := "channel", type := (.object "com/example/twigwright/twigwright/StoreFile"), accessFlags := 18, slot := 1, constantValue := 0 }, { name := "summary", type := (.object "com/example/twigwright/twigwright/PathSummary"), accessFlags := 18, slot := 2, constantValue := 0 }, { name := "firstChunk", type := (.array .int), accessFlags := 18, slot := 3, constantValue := 0 }, { name := "nextChunk", type := (.array .int), accessFlags := 18, slot := 4, constantValue := 0 }, { name := "chunkOffsets", type := (.array .long), accessFlags := 18, slot := 5, constantValue := 0 }, { name := "chunkChecksums", type := (.array .int), accessFlags := 18, slot := 6, constantValue := 0 }, { name := "limit", type := .long, accessFlags := 18, slot := 7, constantValue := 0 }]
  methods := #[k4m0]
  instanceTypes := #[(.object "com/example/twigwright/twigwright/IntervalFile$Kind"), (.object "com/example/twigwright/twigwright/StoreFile"), (.object "com/example/twigwright/twigwright/PathSummary"), (.array .int), (.array .int), (.array .long), (.array .int), .long]
  staticTypes := #[.int, .int, .int]
  resolved := Array.replicate 304 none
  statics := none }

def pool5 : Array CpInfo := pool [(2, .class_ 4), (1, u "com/example/twigwright/twigwright/NumberReader"), (0, u "NO_BYTES"), (0, u "[B"), (2, u "<init>"), (0, u "([BII)V"), (0, .methodref 12 13), (0, .class_ 14), (0, .nameAndType 9 15), (0, u "java/lang/Object"), (0, u "()V"), (0, .methodref 2 17), (0, .nameAndType 18 10), (0, u "moveTo"), (0, .fieldref 2 20), (0, .nameAndType 21 6), (0, u "bytes"), (0, .fieldref 2 23), (0, .nameAndType 24 25), (0, u "position"), (0, u "I"), (0, .fieldref 2 27), (0, .nameAndType 28 25), (0, u "limit"), (17, u "MAX_NUMBER_BYTES"), (4, u "()I"), (5, u "next"), (0, u "()J")] 4

def k5m0 : Method := { name := "<init>", desc := "()V", sig := { parameters := [], returnType := none }, accessFlags := 0, code := none }
def k5c1 : Code := { maxStack := 4, maxLocals := 4, code := prog_23_method_2_code, exceptionTable := #[], attributes := #[] }
def k5m1 : Method := { name := "<init>", desc := "([BII)V", sig := { parameters := [(.array .byte), .int, .int], returnType := none }, accessFlags := 0, code := some k5c1 }
def k5c2 : Code := { maxStack := 2, maxLocals := 4, code := prog_23_method_3_code, exceptionTable := #[], attributes := #[] }
def k5m2 : Method := { name := "moveTo", desc := "([BII)V", sig := { parameters := [(.array .byte), .int, .int], returnType := none }, accessFlags := 0, code := some k5c2 }
def k5c3 : Code := { maxStack := 1, maxLocals := 1, code := prog_23_method_4_code, exceptionTable := #[], attributes := #[] }
def k5m3 : Method := { name := "position", desc := "()I", sig := { parameters := [], returnType := some .int }, accessFlags := 0, code := some k5c3 }
def k5c4 : Code := { maxStack := 6, maxLocals := 5, code := prog_23_method_7_code, exceptionTable := #[], attributes := #[] }
def k5m4 : Method := { name := "next", desc := "()J", sig := { parameters := [], returnType := some .long }, accessFlags := 0, code := some k5c4 }
/-- com/example/twigwright/twigwright/NumberReader -/
def k5 : Class := { plain "com/example/twigwright/twigwright/NumberReader" (some 0) with
  accessFlags := 48
  interfaces := #[]
  cf := some (fileOf pool5 2 #[] #[{ accessFlags := 0, nameIndex := 9, descriptorIndex := 15, attributes := #[] }, { accessFlags := 0, nameIndex := 9, descriptorIndex := 10, attributes := #[] }, { accessFlags := 0, nameIndex := 18, descriptorIndex := 10, attributes := #[] }, { accessFlags := 0, nameIndex := 24, descriptorIndex := 51, attributes := #[] }, { accessFlags := 0, nameIndex := 57, descriptorIndex := 58, attributes := #[] }] 48 12 #[] #[{ accessFlags := 24, nameIndex := 46, descriptorIndex := 25, attributes := #[] }, { accessFlags := 26, nameIndex := 5, descriptorIndex := 6, attributes := #[] }, { accessFlags := 2, nameIndex := 21, descriptorIndex := 6, attributes := #[] }, { accessFlags := 2, nameIndex := 24, descriptorIndex := 25, attributes := #[] }, { accessFlags := 2, nameIndex := 28, descriptorIndex := 25, attributes := #[] }])
  fields := #[{ name := "MAX_NUMBER_BYTES", type := .int, accessFlags := 24, slot := 0, constantValue := 0 }, { name := "NO_BYTES", type := (.array .byte), accessFlags := 26, slot := 1, constantValue := 0 }, { name := "bytes", type := (.array .byte), accessFlags := 2, slot := 0, constantValue := 0 }, { name := "position", type := .int, accessFlags := 2, slot := 1, constantValue := 0 }, { name := "limit", type := .int, accessFlags := 2, slot := 2, constantValue := 0 }]
  methods := #[k5m0, k5m1, k5m2, k5m3, k5m4]
  instanceTypes := #[(.array .byte), .int, .int]
  staticTypes := #[.int, (.array .byte)]
  resolved := Array.replicate 63 none
  statics := none }

def pool6 : Array CpInfo := pool [(1, u "java/lang/Cloneable"), (0, .class_ 1), (0, u "java/lang/Object"), (0, .class_ 3)] 3

/-- java/lang/Cloneable -/
def k6 : Class := { plain "java/lang/Cloneable" (some 0) with
  accessFlags := 1537
  interfaces := #[]
  cf := some (fileOf pool6 2 #[] #[] 1537 4 #[] #[])
  fields := #[]
  methods := #[]
  instanceTypes := #[]
  staticTypes := #[]
  resolved := Array.replicate 8 none
  statics := none }

def pool7 : Array CpInfo := pool [(1, u "java/io/Serializable"), (0, .class_ 1), (0, u "java/lang/Object"), (0, .class_ 3)] 3

/-- java/io/Serializable -/
def k7 : Class := { plain "java/io/Serializable" (some 0) with
  accessFlags := 1537
  interfaces := #[]
  cf := some (fileOf pool7 2 #[] #[] 1537 4 #[] #[])
  fields := #[]
  methods := #[]
  instanceTypes := #[]
  staticTypes := #[]
  resolved := Array.replicate 8 none
  statics := none }

/-- the primitive byte -/
def k8 : Class := { plain "byte" none with kind := .primitive 'B', accessFlags := 0x411 }
/-- [B -/
def k9 : Class := { plain "[B" (some 0) with kind := .array 8 .byte, interfaces := #[6, 7], accessFlags := 1041 }

/-- the primitive int -/
def k10 : Class := { plain "int" none with kind := .primitive 'I', accessFlags := 0x411 }
/-- [I -/
def k11 : Class := { plain "[I" (some 0) with kind := .array 10 .int, interfaces := #[6, 7], accessFlags := 1041 }

def heap : Heap := #[]
def classes : Array Class := #[k0, k1, k2, k3, k4, k5, k6, k7, k8, k9, k10, k11]
def interned : List (Array UInt16 × Addr) := []
def slotsUsed : Nat := 0
def theMethod : MethodId := ⟨1, 2⟩
def args0 : Array Value := #[.long 5, .int 6, .int 3, .int 4]
def aboutOver (below : List Frame) : State where
  vm := { classes := classes, interned := interned.toArray }
  heap := heap
  slotsUsed := slotsUsed
  threads := #[{ frames := .invoking theMethod args0 :: below }]
def below0 : List Frame := [.native { method := ⟨0, 0⟩, args := #[] }]
def about1 : State := aboutOver below0
def p0 : Program := .bare "" "" ""
def e0 : Env := launch0.env 0 0 0
theorem w_frames : about1.frames = Frame.invoking theMethod args0 :: below0 := rfl
set_option maxRecDepth 65536 in
theorem w_args : argsFit about1.vm theMethod args0 = true := by decide +kernel
set_option maxRecDepth 65536 in
theorem w_heap : heapFits about1 = true := by decide +kernel
set_option maxRecDepth 65536 in
theorem w_runnable : about1.curStatus? = some .runnable := by decide +kernel
set_option maxRecDepth 65536 in
theorem w_alone : about1.alone = true := by decide +kernel
set_option maxRecDepth 65536 in
theorem w_named : about1.methodNamed? x = some theMethod := by decide +kernel
set_option maxRecDepth 65536 in
theorem w_hears : about1.hears theMethod below0 = true := by decide +kernel
set_option maxRecDepth 65536 in
theorem w_ripe : about1.ripe theMethod args0 below0 = true := by decide +kernel
theorem w_running : about1.status = .running := rfl
set_option maxRecDepth 65536 in
theorem w_room : about1.hasRoom e0.platform room_1 = true :=
  launch0.hasRoom_least _ room_1 (by decide +kernel) (by decide +kernel) (by decide +kernel) (by decide +kernel) (by decide +kernel) (by decide +kernel)
theorem allAtoms_all (ts : List Jvm.Cond) (a : Array Jvm.Value) (st : Jvm.State) : (allAtoms ts).before a st = ts.all (fun c => c.before a st) := by
  induction ts with
  | nil => rfl
  | cons c t ih =>
    show (Jvm.Cond.and c (allAtoms t)).before a st = _
    rw [Jvm.Cond.before_and, ih, List.all_cons]
def words1 : List Jvm.Cond := Jvm.Cond.code x code maxLocals ret :: tables_1
/-- a 'code' word, met by the world's own term for the bytes: nothing is compared byte by byte -/
theorem code_word {y : MethodName} {bytes : ByteArray} {mx : Nat} {rt : Option FieldType} {a : Array Value} {s : State} {m : MethodId} {meth : Method} {c : Code} (h1 : s.methodNamed? y = some m) (h2 : s.vm.method? m = some meth) (h3 : meth.code = some c) (h4 : c.code = bytes)
    (h5 : (c.maxLocals == mx && c.exceptionTable.isEmpty && decide (c.maxStack ≤ mostOperands) && decide (meth.sig.returnType = rt) && !meth.locks && decide (parseMethodDescriptor y.desc = some meth.sig)) = true) : (Jvm.Cond.code y bytes mx rt).before a s = true := by
  simp only [Bool.and_eq_true, beq_iff_eq, Bool.not_eq_true', decide_eq_true_eq] at h5
  obtain ⟨⟨⟨⟨⟨g1, g2⟩, g3⟩, g4⟩, g5⟩, g6⟩ := h5
  simp [Cond.before, Cond.holds, Cond.value, h1, h2, h3, h4, g1, g2, g3, g4, g5, g6]
def isCode : Jvm.Cond → Bool
  | .code _ _ _ _ => true
  | _ => false
theorem all_split {L : List Jvm.Cond} {P : Jvm.Cond → Bool} (h1 : L.all (fun c => isCode c || P c) = true) (h2 : ∀ c ∈ L.filter isCode, P c = true) : L.all P = true := by
  refine List.all_eq_true.mpr fun c hc => ?_
  have h := List.all_eq_true.mp h1 c hc
  rcases Bool.eq_false_or_eq_true (isCode c) with hi | hi
  · exact h2 c (List.mem_filter.mpr ⟨hc, hi⟩)
  · simpa [hi] using h
set_option maxRecDepth 65536 in
theorem w_c0 : (Jvm.Cond.code x code maxLocals ret).before args0 about1 = true := code_word (m := ⟨1, 2⟩) (meth := k1m2) (c := k1c2) (by decide +kernel) rfl rfl rfl (by decide +kernel)
set_option maxRecDepth 65536 in
theorem w_c1 : (Jvm.Cond.code ({ cls := "com/example/twigwright/twigwright/IntervalFile", name := "writeNumber", desc := "([BIJ)I" } : Jvm.MethodName) prog_14_method_7_code (7 : Nat) (Option.some Jvm.ClassFile.FieldType.int)).before args0 about1 = true := code_word (m := ⟨4, 0⟩) (meth := k4m0) (c := k4c0) (by decide +kernel) rfl rfl rfl (by decide +kernel)
set_option maxRecDepth 65536 in
theorem w_c2 : (Jvm.Cond.code ({ cls := "com/example/twigwright/twigwright/IntervalFileWriteNumberPinLaw", name := "expectedLength", desc := "(J)I" } : Jvm.MethodName) method_2_code (2 : Nat) (Option.some Jvm.ClassFile.FieldType.int)).before args0 about1 = true := code_word (m := ⟨1, 1⟩) (meth := k1m1) (c := k1c1) (by decide +kernel) rfl rfl rfl (by decide +kernel)
set_option maxRecDepth 65536 in
theorem w_c3 : (Jvm.Cond.code ({ cls := "com/example/twigwright/twigwright/NumberReader", name := "<init>", desc := "([BII)V" } : Jvm.MethodName) prog_23_method_2_code (4 : Nat) (Option.none : Option Jvm.ClassFile.FieldType)).before args0 about1 = true := code_word (m := ⟨5, 1⟩) (meth := k5m1) (c := k5c1) (by decide +kernel) rfl rfl rfl (by decide +kernel)
set_option maxRecDepth 65536 in
theorem w_c4 : (Jvm.Cond.code ({ cls := "java/lang/Object", name := "<init>", desc := "()V" } : Jvm.MethodName) object_method_1_code (1 : Nat) (Option.none : Option Jvm.ClassFile.FieldType)).before args0 about1 = true := code_word (m := ⟨0, 0⟩) (meth := k0m0) (c := k0c0) (by decide +kernel) rfl rfl rfl (by decide +kernel)
set_option maxRecDepth 65536 in
theorem w_c5 : (Jvm.Cond.code ({ cls := "com/example/twigwright/twigwright/NumberReader", name := "moveTo", desc := "([BII)V" } : Jvm.MethodName) prog_23_method_3_code (4 : Nat) (Option.none : Option Jvm.ClassFile.FieldType)).before args0 about1 = true := code_word (m := ⟨5, 2⟩) (meth := k5m2) (c := k5c2) (by decide +kernel) rfl rfl rfl (by decide +kernel)
set_option maxRecDepth 65536 in
theorem w_c6 : (Jvm.Cond.code ({ cls := "com/example/twigwright/twigwright/NumberReader", name := "next", desc := "()J" } : Jvm.MethodName) prog_23_method_7_code (5 : Nat) (Option.some Jvm.ClassFile.FieldType.long)).before args0 about1 = true := code_word (m := ⟨5, 4⟩) (meth := k5m4) (c := k5c4) (by decide +kernel) rfl rfl rfl (by decide +kernel)
set_option maxRecDepth 65536 in
theorem w_c7 : (Jvm.Cond.code ({ cls := "com/example/twigwright/twigwright/NumberReader", name := "position", desc := "()I" } : Jvm.MethodName) prog_23_method_4_code (1 : Nat) (Option.some Jvm.ClassFile.FieldType.int)).before args0 about1 = true := code_word (m := ⟨5, 3⟩) (meth := k5m3) (c := k5c3) (by decide +kernel) rfl rfl rfl (by decide +kernel)
def codes1 : List Jvm.Cond := [Jvm.Cond.code x code maxLocals ret, Jvm.Cond.code ({ cls := "com/example/twigwright/twigwright/IntervalFile", name := "writeNumber", desc := "([BIJ)I" } : Jvm.MethodName) prog_14_method_7_code (7 : Nat) (Option.some Jvm.ClassFile.FieldType.int), Jvm.Cond.code ({ cls := "com/example/twigwright/twigwright/IntervalFileWriteNumberPinLaw", name := "expectedLength", desc := "(J)I" } : Jvm.MethodName) method_2_code (2 : Nat) (Option.some Jvm.ClassFile.FieldType.int), Jvm.Cond.code ({ cls := "com/example/twigwright/twigwright/NumberReader", name := "<init>", desc := "([BII)V" } : Jvm.MethodName) prog_23_method_2_code (4 : Nat) (Option.none : Option Jvm.ClassFile.FieldType), Jvm.Cond.code ({ cls := "java/lang/Object", name := "<init>", desc := "()V" } : Jvm.MethodName) object_method_1_code (1 : Nat) (Option.none : Option Jvm.ClassFile.FieldType), Jvm.Cond.code ({ cls := "com/example/twigwright/twigwright/NumberReader", name := "moveTo", desc := "([BII)V" } : Jvm.MethodName) prog_23_method_3_code (4 : Nat) (Option.none : Option Jvm.ClassFile.FieldType), Jvm.Cond.code ({ cls := "com/example/twigwright/twigwright/NumberReader", name := "next", desc := "()J" } : Jvm.MethodName) prog_23_method_7_code (5 : Nat) (Option.some Jvm.ClassFile.FieldType.long), Jvm.Cond.code ({ cls := "com/example/twigwright/twigwright/NumberReader", name := "position", desc := "()I" } : Jvm.MethodName) prog_23_method_4_code (1 : Nat) (Option.some Jvm.ClassFile.FieldType.int)]
set_option maxRecDepth 65536 in
theorem codes_eq : words1.filter isCode = codes1 := rfl
theorem w_codes : ∀ c ∈ words1.filter isCode, c.before args0 about1 = true := by
  rw [codes_eq]
  intro c hc
  simp only [codes1, List.mem_cons, List.not_mem_nil, or_false] at hc
  rcases hc with rfl | rfl | rfl | rfl | rfl | rfl | rfl | rfl
  · exact w_c0
  · exact w_c1
  · exact w_c2
  · exact w_c3
  · exact w_c4
  · exact w_c5
  · exact w_c6
  · exact w_c7
set_option maxRecDepth 65536 in
theorem w_t1 : (words1.take 24).all (fun c => isCode c || c.before args0 about1) = true := by decide +kernel
set_option maxRecDepth 65536 in
theorem w_t2 : ((words1.drop 24).take 24).all (fun c => isCode c || c.before args0 about1) = true := by decide +kernel
set_option maxRecDepth 65536 in
theorem w_t3 : ((words1.drop 24).drop 24).all (fun c => isCode c || c.before args0 about1) = true := by decide +kernel
theorem w_tables : (allAtoms (Jvm.Cond.code x code maxLocals ret :: tables_1)).before args0 about1 = true := by
  rw [allAtoms_all]
  show words1.all (fun c => c.before args0 about1) = true
  refine all_split ?_ w_codes
  rw [← List.take_append_drop 24 words1, List.all_append, w_t1, ← List.take_append_drop 24 (words1.drop 24), List.all_append, w_t2, w_t3]
  rfl
set_option maxRecDepth 65536 in
theorem w_case : (Jvm.Cond.and given_1 narrow_1).before args0 about1 = true := by decide +kernel
theorem w_applies : (headSpec (Jvm.Cond.code x code maxLocals ret :: tables_1) room_1).applies x e0.platform about1 = true :=
  (Spec.applies_iff w_frames).mpr ⟨w_running, w_runnable, w_alone, w_named, w_hears, w_ripe, w_room, w_tables⟩
theorem atStart : AtStart classFile x code maxLocals ret World_1 tables_1 room_1 Calls_1 rest_1 Pre_1 launch0 p0 e0 about1 theMethod args0 below0 :=
  ⟨lists_1, trivial, launch0.admits_env _ _ _, launch0.least_env, fairChoices_fair.cas, fairChoices_fair.clock, w_frames, w_args, w_heap, w_applies, trivial, trivial, w_case⟩
end start1
theorem witness_1 : WitnessClaimed_1 := ⟨start1.p0, start1.e0, start1.about1, start1.theMethod, start1.args0, start1.below0, start1.atStart⟩
end Jvm.Pilot.@@N@@
