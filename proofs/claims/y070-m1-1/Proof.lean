import JvmDerived
import JvmDerived.Pilot.@@N@@Statement
import JvmDerived.Pilot.@@N@@Code
set_option linter.unusedVariables false
set_option linter.unusedSimpArgs false

namespace Jvm.Pilot.@@N@@
open Jvm Jvm.ClassFile Sem Op Lib Jvm.Free Jvm.Stand Jvm.LawKit Jvm.RoadKit Bundle Jvm.Pilot.@@N@@.Jvm.D

section OwnKit
variable {p : Program} {l : Launch} {e : Env} {R : Room} {s : State} {m : MethodId} {args : Array Value} {below : List Frame} {meth : Method} {c : Code} {T : State} {locs : List Loc} {cells slots : Nat} {G : Outcome → State → Prop} {Q : Option Value → Heap → List Loc → Prop} {C S : Nat} {Z : State} {h h' : Heap}
/-- from the state t the invocation comes to an end of which G holds -/
def own_Fin (p : Program) (e : Env) (below : List Frame) (G : Outcome → State → Prop) (t : State) : Prop := ∃ s₂ o, Steps p.tables e below t s₂ ∧ s₂.status = .running ∧ Ended s₂ below o ∧ G o s₂
def own_G (s : State) (Q : Option Value → Heap → List Loc → Prop) (C S : Nat) (o : Outcome) (U' : State) : Prop := ∃ v L, o = .returned v ∧ Q v U'.heap L ∧ FrameEnd s o U' L C S
theorem own_to {t u : State} (h : ∀ z, Steps p.tables e below u z → Steps p.tables e below t z) (k : own_Fin p e below G u) : own_Fin p e below G t := by
  obtain ⟨a, b, c, d⟩ := k; exact ⟨a, b, h _ c, d⟩
theorem own_via {t u : State} (h : Steps p.tables e below t u) (k : own_Fin p e below G u) : own_Fin p e below G t := own_to (fun _ kz => h.trans kz) k
theorem own_retW (X : Stand p l e R s m args below meth c T locs cells slots) (hx : p.tables.exec = Jvm.exec) (hlk : meth.locks = false) (hG : G = own_G s Q C S) {f : JFrame} {w : Option Value} (hv : meth.sig.returnType = none → w = none)
    (st : ∀ fs, (∀ (f : JFrame) (acts : List Action), f.method = m → f.locked = none → f.entered = [] → (doReturn e (T.setTop f) acts w).1 = T.setFrames fs) → Steps p.tables e below (T.setTop f) (T.setFrames fs))
    (hc : cells ≤ C) (hs : slots ≤ S) (hQ : Q w T.heap locs) : own_Fin p e below G (T.setTop f) := by
  subst hG
  obtain ⟨fs, hr, hrun, hended, hW, hsame⟩ := X.leave (v := w) hv hlk
  exact ⟨_, _, st fs hr, hrun, hended, _, _, rfl, hQ, ⟨_, rfl⟩, hW, hsame.mono hc hs⟩
theorem own_retI (X : Stand p l e R s m args below meth c T locs cells slots) (hx : p.tables.exec = Jvm.exec) (hlk : meth.locks = false) (hG : G = own_G s Q C S) {pc : Nat} {Ls : Array Slot} {z : Int32} {rest : List Value} (hret : meth.sig.returnType = some .int) (hd : decode c.code pc = .ok (.ireturn, 1))
    (hc : cells ≤ C) (hs : slots ≤ S) (hQ : Q (some (.int z)) T.heap locs) : own_Fin p e below G (T.setTop (mkF m pc Ls (.int z :: rest))) :=
  own_retW X hx hlk hG (w := some (.int z)) (fun h => by rw [hret] at h; cases h) (fun fs hr => retOut X hx hret rfl (Or.inl ⟨rfl, Or.inl rfl, z, rfl⟩) hd hr) hc hs hQ
theorem own_retJ (X : Stand p l e R s m args below meth c T locs cells slots) (hx : p.tables.exec = Jvm.exec) (hlk : meth.locks = false) (hG : G = own_G s Q C S) {pc : Nat} {Ls : Array Slot} {z : Int64} {rest : List Value} (hret : meth.sig.returnType = some .long) (hd : decode c.code pc = .ok (.lreturn, 1))
    (hc : cells ≤ C) (hs : slots ≤ S) (hQ : Q (some (.long z)) T.heap locs) : own_Fin p e below G (T.setTop (mkF m pc Ls (.long z :: rest))) :=
  own_retW X hx hlk hG (w := some (.long z)) (fun h => by rw [hret] at h; cases h) (fun fs hr => retOut X hx hret rfl (Or.inr (Or.inl ⟨rfl, rfl, z, rfl⟩)) hd hr) hc hs hQ
theorem own_retA (X : Stand p l e R s m args below meth c T locs cells slots) (hx : p.tables.exec = Jvm.exec) (hlk : meth.locks = false) (hG : G = own_G s Q C S) {pc : Nat} {Ls : Array Slot} {w : Value} {rest : List Value} {t : FieldType} (hret : meth.sig.returnType = some t) (ht : t.isReference = true) (hw : w.isRef = true) (hd : decode c.code pc = .ok (.areturn, 1))
    (hc : cells ≤ C) (hs : slots ≤ S) (hQ : Q (some w) T.heap locs) : own_Fin p e below G (T.setTop (mkF m pc Ls (w :: rest))) :=
  own_retW X hx hlk hG (w := some w) (fun h => by rw [hret] at h; cases h) (fun fs hr => retOut X hx hret (by rcases ref_cases hw with rfl | ⟨a, rfl⟩ <;> cases t <;> first | rfl | (simp [FieldType.isReference] at ht)) (Or.inr (Or.inr (Or.inr (Or.inr ⟨rfl, ht, hw⟩)))) hd hr) hc hs hQ
theorem own_retN (X : Stand p l e R s m args below meth c T locs cells slots) (hx : p.tables.exec = Jvm.exec) (hlk : meth.locks = false) (hG : G = own_G s Q C S) {pc : Nat} {Ls : Array Slot} {z : Int32} {rest : List Value} {t : FieldType} (hret : meth.sig.returnType = some t) (ht : t = .boolean ∨ t = .byte ∨ t = .char ∨ t = .short) (hd : decode c.code pc = .ok (.ireturn, 1))
    (hc : cells ≤ C) (hs : slots ≤ S) (hQ : Q (some (.int (nar t z))) T.heap locs) : own_Fin p e below G (T.setTop (mkF m pc Ls (.int z :: rest))) :=
  own_retW X hx hlk hG (w := some (.int (nar t z))) (fun h => by rw [hret] at h; cases h) (fun fs hr => retN X hx hret ht hd hr) hc hs hQ
theorem own_retV (X : Stand p l e R s m args below meth c T locs cells slots) (hx : p.tables.exec = Jvm.exec) (hlk : meth.locks = false) (hG : G = own_G s Q C S) {pc : Nat} {Ls : Array Slot} (hret : meth.sig.returnType = none) (hd : decode c.code pc = .ok (.return_, 1))
    (hc : cells ≤ C) (hs : slots ≤ S) (hQ : Q none T.heap locs) : own_Fin p e below G (T.setTop (mkF m pc Ls [])) :=
  own_retW X hx hlk hG (w := none) (fun _ => rfl) (fun fs hr => X.returnOut hx hret hd hr) hc hs hQ
theorem own_lrem {g : JFrame} {target : State} (X : Stand p l e R s m args below meth c T locs cells slots) (hx : p.tables.exec = Jvm.exec) (hg : g.method = m) {x y : Int64} {rest : List Value} (hd : decode c.code g.pc = .ok (.lrem, 1)) (hs : g.stack = .long y :: .long x :: rest) (hy : y ≠ 0)
    (hr : Steps p.tables e below (T.setTop { g with pc := g.pc + 1, stack := .long (x % y) :: rest }) target) : Steps p.tables e below (T.setTop g) target := by
  have q : x - x / y * y = x % y := lrem_mod x y
  exact XS.lrem X.here hx hg hd hs hy (by rw [q]; exact hr)
def own_Pair (a b : Slot) : Prop := (a = .unset ∧ b = .unset) ∨ ∃ x, a = .val (.long x) ∧ b = .second
/-- the array at a has n places; place i holds mk (f i) -/
def own_AV {α : Type} (mk : α → Value) (Z : State) (h : Heap) (a : Addr) (ty : FieldType) (n : Nat) (f : Nat → α) : Prop := n < 2 ^ 31 ∧ ∃ c : Cell, Arr Z h a c ty ∧ c.slots.size = n ∧ ∀ i, i < n → c.slots[i]? = some (mk (f i))
def own_upd {α : Type} (f : Nat → α) (k : Nat) (v : α) : Nat → α := fun i => if i = k then v else f i
section
variable {α : Type} {mk : α → Value} {a b : Addr} {ty : FieldType} {n : Nat} {f f' : Nat → α} {ws : List Addr} {sl : Nat} {v : Value}
theorem own_AV.lt (F : own_AV mk Z h a ty n f) : a < h.size := by obtain ⟨_, c, A, -⟩ := F; exact A.lt
theorem own_AV.ext (F : own_AV mk Z h a ty n f) (E : Ext h h') : own_AV mk Z h' a ty n f := by obtain ⟨q, c, A, r⟩ := F; exact ⟨q, c, A.ext E, r⟩
theorem own_AV.other (F : own_AV mk Z h b ty n f) (W : Wr h h' a sl v) (q : b ≠ a) : own_AV mk Z h' b ty n f := by obtain ⟨q', c, A, r⟩ := F; exact ⟨q', c, A.other W q, r⟩
theorem own_AV.keep (F : own_AV mk Z h a ty n f) (K : Keep h h' ws) (q : a ∉ ws) : own_AV mk Z h' a ty n f := by obtain ⟨q', c, A, r⟩ := F; exact ⟨q', c, ⟨K.2.1 a c A.1 q, A.2⟩, r⟩
theorem own_AV.congr (F : own_AV mk Z h a ty n f) (q : ∀ i, i < n → f i = f' i) : own_AV mk Z h a ty n f' := by obtain ⟨q', c, A, r, s⟩ := F; exact ⟨q', c, A, r, fun i hi => by rw [s i hi, q i hi]⟩
theorem own_AV.new {k : ClassId} {z : Int32} (A : Arr Z h a (newA k ty z) ty) (q : ¬ z < 0) (hn : z.toNatClampNeg = n) (hf : ∀ i : Nat, defaultValue ty = mk (f i)) : own_AV mk Z h a ty n f := by
  refine ⟨hn ▸ (back32 q).2, _, A, (sz_new _ _ _).trans hn, fun i hi => ?_⟩
  rw [← hf i]; simp [newA, hn, hi]
theorem own_updr {P : α → Prop} {k : Nat} {w : α} (hv : P w) (hf : ∀ i, P (f i)) : ∀ i, P (own_upd f k w i) := fun i => by
  unfold own_upd; split
  · exact hv
  · exact hf i
theorem own_in {c : Cell} {j : Int32} {k : Nat} (S : c.slots.size = n) (hj : ¬ j < 0) (hk : j.toNatClampNeg = k) (hlt : k < n) : ¬ (j < 0 ∨ c.slots.size ≤ j.toNatClampNeg) := fun q => q.elim hj fun r => by omega
theorem own_AV.set {c : Cell} {j : Int32} {k : Nat} {w : α} (nn : n < 2 ^ 31) (A : Arr Z h a c ty) (S : c.slots.size = n) (H : ∀ i, i < n → c.slots[i]? = some (mk (f i))) (W : Wr h h' a j.toNatClampNeg (mk w)) (hk : j.toNatClampNeg = k) : own_AV mk Z h' a ty n (own_upd f k w) := by
  subst hk
  refine ⟨nn, _, A.same W, by rw [sz_set]; exact S, fun i hi => ?_⟩
  show (c.setSlot j.toNatClampNeg (mk w)).slots[i]? = some (mk (if i = j.toNatClampNeg then w else f i))
  simp only [Cell.setSlot]
  by_cases q : i = j.toNatClampNeg
  · subst q; rw [if_pos rfl]; simp [S, hi]
  · rw [if_neg q, Array.getElem?_setIfInBounds_ne (fun r => q r.symm)]; exact H i hi
theorem own_iaload (X : Stand p l e R s m args below meth c T locs cells slots) (hx : p.tables.exec = Jvm.exec) (hZ : Z.Warmed39 s.vm) (eT : T.heap = h) {f : Nat → Int32} (F : own_AV Value.int Z h a .int n f) {j : Int32} {k : Nat} (hj : ¬ j < 0) (hk : j.toNatClampNeg = k) (hlt : k < n)
    {g : JFrame} (hg : g.method = m) {rest : List Value} (hs : g.stack = .int j :: .ref a :: rest) (hd : decode c.code g.pc = .ok (.iaload, 1)) {target : State} (hr : Steps p.tables e below (T.setTop { g with pc := g.pc + 1, stack := .int (f k) :: rest }) target) : Steps p.tables e below (T.setTop g) target := by
  obtain ⟨_, cl, A, S, H⟩ := F
  exact X.iaload hx (j := j) (v := .int (f k)) (by rw [eT]; exact A.1) (State.isArrayOf_alike hZ.alike A.2.1) A.2.2 (own_in S hj hk hlt) (by rw [hk]; exact H k hlt) hg hs hd _ hr
theorem own_laload (X : Stand p l e R s m args below meth c T locs cells slots) (hx : p.tables.exec = Jvm.exec) (hZ : Z.Warmed39 s.vm) (eT : T.heap = h) {f : Nat → Int64} (F : own_AV Value.long Z h a .long n f) {j : Int32} {k : Nat} (hj : ¬ j < 0) (hk : j.toNatClampNeg = k) (hlt : k < n)
    {g : JFrame} (hg : g.method = m) {rest : List Value} (hs : g.stack = .int j :: .ref a :: rest) (hd : decode c.code g.pc = .ok (.laload, 1)) {target : State} (hr : Steps p.tables e below (T.setTop { g with pc := g.pc + 1, stack := .long (f k) :: rest }) target) : Steps p.tables e below (T.setTop g) target := by
  obtain ⟨_, cl, A, S, H⟩ := F
  exact X.laload hx (j := j) (v := .long (f k)) (by rw [eT]; exact A.1) (State.isArrayOf_alike hZ.alike A.2.1) A.2.2 (own_in S hj hk hlt) (by rw [hk]; exact H k hlt) hg hs hd _ hr
theorem own_baload (X : Stand p l e R s m args below meth c T locs cells slots) (hx : p.tables.exec = Jvm.exec) (hZ : Z.Warmed39 s.vm) (eT : T.heap = h) {f : Nat → Int32} (F : own_AV Value.int Z h a .byte n f) {j : Int32} {k : Nat} (hj : ¬ j < 0) (hk : j.toNatClampNeg = k) (hlt : k < n)
    {g : JFrame} (hg : g.method = m) {rest : List Value} (hs : g.stack = .int j :: .ref a :: rest) (hd : decode c.code g.pc = .ok (.baload, 1)) {target : State} (hr : Steps p.tables e below (T.setTop { g with pc := g.pc + 1, stack := .int (f k) :: rest }) target) : Steps p.tables e below (T.setTop g) target := by
  obtain ⟨_, cl, A, S, H⟩ := F
  exact X.baloadBytes hx (j := j) (v := .int (f k)) (by rw [eT]; exact A.1) (State.isArrayOf_alike hZ.alike A.2.1) A.2.2 (own_in S hj hk hlt) (by rw [hk]; exact H k hlt) hg hs hd _ hr
theorem own_cloneI (X : Stand p l e R s m args below meth c T locs cells slots) (hx : p.tables.exec = Jvm.exec) (hZ : Z.Warmed39 s.vm) {a0 : Array Value} {own ad : String} {index : Nat} (hown : s.vm.findClass own = some m.cls)
    (w1 : (Cond.methodLink own index ⟨ad, "clone", "()Ljava/lang/Object;"⟩).before a0 Z = true) (w2 : (Cond.sameMethod ad "java/lang/Object" "clone" "()Ljava/lang/Object;").before a0 Z = true) (w3 : (Cond.native ⟨"java/lang/Object", "clone", "()Ljava/lang/Object;"⟩).before a0 Z = true)
    (w4 : (Cond.instanceMethod ⟨"java/lang/Object", "clone", "()Ljava/lang/Object;"⟩).before a0 Z = true) (w5 : (Cond.selects ad ⟨ad, "clone", "()Ljava/lang/Object;"⟩ ⟨"java/lang/Object", "clone", "()Ljava/lang/Object;"⟩).before a0 Z = true) (w6 : (Cond.castable ad "java/lang/Cloneable").before a0 Z = true)
    (eT : T.heap = h) {f : Nat → Int32} (F : own_AV Value.int Z h a .int n f) (E : Exa Z h a ad) {g : JFrame} (hg : g.method = m) (hsize : g.locals.size = c.maxLocals) {rest : List Value} (hs : g.stack = .ref a :: rest) (hd : decode c.code g.pc = .ok (.invokevirtual index, 3))
    (hf : 1 ≤ R.frames) {W cap : Nat} (hW : 2 * g.monitorRoom + (rest.map fun v => v.category).sum ≤ W) (hl : W + 14 ≤ R.locals) (hcap : n ≤ cap) (hc : cells + 1 ≤ R.cells) (hsl : slots + cap ≤ R.slots) :
    ∃ T' h', Stand p l e R s m args below meth c T' locs (cells + 1) (slots + cap) ∧ T'.heap = h' ∧ Ext h h' ∧ own_AV Value.int Z h' h.size .int n f ∧ Exa Z h' h.size ad ∧
      ∀ target, Steps p.tables e below (T'.setTop { g with pc := g.pc + 3, stack := .ref h.size :: rest }) target → Steps p.tables e below (T.setTop g) target := by
  obtain ⟨nn, cl, A, S, H⟩ := F
  have FC : FitC Z cl := fitC_of A fun i hi v hv => by rw [H i (S ▸ hi)] at hv; cases hv; rfl
  obtain ⟨T', h', X', e', ex, A', E', st⟩ := cloneA X hx hZ hown w1 w2 w3 w4 w5 w6 eT A E FC hg hsize hs hd hf hW hl (by rw [S]; exact hcap) hc hsl
  exact ⟨T', h', X', e', ex, ⟨nn, cloneOf cl, A', S, H⟩, E', st⟩
theorem own_alen (X : Stand p l e R s m args below meth c T locs cells slots) (hx : p.tables.exec = Jvm.exec) (hZ : Z.Warmed39 s.vm) (eT : T.heap = h) (F : own_AV mk Z h a ty n f) {z : Int32} (hz : n.toInt32 = z)
    {g : JFrame} (hg : g.method = m) {rest : List Value} (hs : g.stack = .ref a :: rest) (hd : decode c.code g.pc = .ok (.arraylength, 1)) {target : State} (hr : Steps p.tables e below (T.setTop { g with pc := g.pc + 1, stack := .int z :: rest }) target) : Steps p.tables e below (T.setTop g) target := by
  obtain ⟨_, cl, A, S, H⟩ := F
  exact X.arraylength hx (by rw [eT]; exact A.1) (State.isArrayOf_alike hZ.alike A.2.1) hg hs hd _ (by rw [S, hz]; exact hr)
end
end OwnKit
def own_sum (f : Nat → Int64) : Nat → Int64
  | 0 => 0
  | k + 1 => own_sum f k + f k
theorem own_z32 : (0 : Int32).toInt = 0 := by decide
theorem own_nneg {i : Int32} (h : 0 ≤ i.toInt) : ¬ i < 0 := by rw [Int32.lt_iff_toInt_lt, own_z32]; omega
theorem own_natc {i : Int32} (h : 0 ≤ i.toInt) : (i.toNatClampNeg : Int) = i.toInt := (nat_of (own_nneg h)).symm
theorem own_ofNat {n : Nat} (h : n < 2 ^ 31) : (Int32.ofNat n).toInt = n := Int32.toInt_ofNat_of_lt h
theorem own_inc {i : Int32} {n : Nat} (hn : n < 2 ^ 31) (h : 0 ≤ i.toInt) (h2 : i.toInt < n) : (i + (1 : Int32)).toInt = i.toInt + 1 := by
  have e := c_iadd i 1; have r := rng32 (i + 1); have o : (1 : Int32).toInt = 1 := by decide
  omega
/-- a turn more: i + 1, the place i -/
theorem own_up {i : Int32} {n : Nat} (hn : n < 2 ^ 31) (hi : 0 ≤ i.toInt ∧ i.toInt ≤ n) (hc : i < Int32.ofNat n) :
    (0 ≤ (i + (1 : Int32)).toInt ∧ (i + (1 : Int32)).toInt ≤ n) ∧ (¬ i < 0 ∧ i.toNatClampNeg < n) ∧ (i + (1 : Int32)).toNatClampNeg = i.toNatClampNeg + 1 := by
  rw [Int32.lt_iff_toInt_lt, own_ofNat hn] at hc
  have e := own_inc hn hi.1 hc
  have a := own_natc hi.1
  have b := own_natc (i := i + 1) (by omega)
  exact ⟨by omega, ⟨own_nneg hi.1, by omega⟩, by omega⟩
theorem own_dec {i : Int32} {n k : Nat} (hn : n < 2 ^ 31) (hi : 0 ≤ i.toInt ∧ i.toInt ≤ n) (hc : i < Int32.ofNat n) (hm : n - i.toNatClampNeg = k) : n - (i + (1 : Int32)).toNatClampNeg < k := by
  have h := own_up hn hi hc
  omega
theorem own_last {i : Int32} {n : Nat} (hn : n < 2 ^ 31) (hi : 0 ≤ i.toInt ∧ i.toInt ≤ n) (hc : ¬ i < Int32.ofNat n) : i.toNatClampNeg = n := by
  rw [Int32.lt_iff_toInt_lt, own_ofNat hn] at hc
  have a := own_natc hi.1
  omega

def own_st (t : Int32) : Int32 := (((t.toUInt32 >>> ((1 : Int32) &&& 31).toUInt32).toInt32) ^^^ ((-2097792136 : Int32) &&& (-(t &&& (1 : Int32)))))
def own_t (p : Int32) : Nat → Int32
  | 0 => p
  | k + 1 => own_st (own_t p k)
def own_id (q : Nat) : Nat := q / 8 * 256 + 2 ^ (q % 8)
def own_e (n : Nat) : Nat := if n % 256 = 1 then n / 256 * 8 else if n % 256 = 2 then n / 256 * 8 + 1 else if n % 256 = 4 then n / 256 * 8 + 2 else if n % 256 = 8 then n / 256 * 8 + 3 else if n % 256 = 16 then n / 256 * 8 + 4 else if n % 256 = 32 then n / 256 * 8 + 5 else if n % 256 = 64 then n / 256 * 8 + 6 else if n % 256 = 128 then n / 256 * 8 + 7 else 99
theorem own_d1 : ∀ q : Fin 32, own_e (own_id q.1) = q.1 ∧ own_id q.1 < 1024 := by decide +kernel
theorem own_d2 : ∀ n : Fin 1024, own_e n.1 < 32 → own_id (own_e n.1) = n.1 := by decide +kernel
theorem own_d3 : ∀ q : Fin 32, ¬ ((((Int32.ofNat q.1) / (8 : Int32)) <<< ((8 : Int32) &&& 31)) ||| ((1 : Int32) <<< (((Int32.ofNat q.1) % (8 : Int32)) &&& 31))) < 0 ∧ ((((Int32.ofNat q.1) / (8 : Int32)) <<< ((8 : Int32) &&& 31)) ||| ((1 : Int32) <<< (((Int32.ofNat q.1) % (8 : Int32)) &&& 31))).toNatClampNeg = own_id q.1 := by decide +kernel
def own_g (p : Int32) (m n : Nat) : Int32 := if own_e n < 32 ∧ 32 ≤ own_e n + m then own_t p (31 - own_e n) else 0
theorem own_gs {p : Int32} {m n : Nat} (hm : m ≤ 31) (hn : n < 1024) : own_g p (m + 1) n = if n = own_id (31 - m) then own_t p m else own_g p m n := by
  have a := own_d1 ⟨31 - m, by omega⟩
  have b := own_d2 ⟨n, hn⟩
  simp only at a b
  by_cases h : n = own_id (31 - m)
  · rw [if_pos h, own_g, if_pos (by rw [h, a.1]; omega)]
    rw [h, a.1]; congr 1; omega
  · rw [if_neg h]; unfold own_g
    by_cases g : own_e n < 32 ∧ 32 ≤ own_e n + m
    · rw [if_pos g, if_pos (by omega)]
    · rw [if_neg g, if_neg (fun z => g ⟨z.1, by
        by_cases q : own_e n = 31 - m
        · exact absurd (by rw [← q]; exact (b z.1).symm) h
        · omega⟩)]
def own_L (g : Nat → Int32) (b : Nat) : Int32 := (((if b.testBit 0 then g 0 else 0) ^^^ (if b.testBit 1 then g 1 else 0)) ^^^ ((if b.testBit 2 then g 2 else 0) ^^^ (if b.testBit 3 then g 3 else 0))) ^^^ (((if b.testBit 4 then g 4 else 0) ^^^ (if b.testBit 5 then g 5 else 0)) ^^^ ((if b.testBit 6 then g 6 else 0) ^^^ (if b.testBit 7 then g 7 else 0)))
theorem own_sel (x y : Bool) (v : Int32) : (if (x ^^ y) = true then v else 0) = (if x = true then v else 0) ^^^ (if y = true then v else 0) := by cases x <;> cases y <;> simp
theorem own_x4 (a b c d : Int32) : (a ^^^ b) ^^^ (c ^^^ d) = (a ^^^ c) ^^^ (b ^^^ d) := by
  rw [Int32.xor_assoc, Int32.xor_assoc, ← Int32.xor_assoc b, ← Int32.xor_assoc c, Int32.xor_comm b c]
theorem own_Lx (g : Nat → Int32) (a b : Nat) : own_L g (a ^^^ b) = own_L g a ^^^ own_L g b := by
  unfold own_L
  simp only [Nat.testBit_xor, own_sel]
  simp only [own_x4]
def own_F (p : Int32) (n : Nat) : Int32 := own_L (fun i => own_t p (31 - (n / 256 * 8 + i))) (n % 256)
theorem own_L1 (g : Nat → Int32) : own_L g 1 = g 0 := by
  unfold own_L
  rw [show Nat.testBit 1 0 = true from by decide, show Nat.testBit 1 1 = false from by decide, show Nat.testBit 1 2 = false from by decide, show Nat.testBit 1 3 = false from by decide, show Nat.testBit 1 4 = false from by decide, show Nat.testBit 1 5 = false from by decide, show Nat.testBit 1 6 = false from by decide, show Nat.testBit 1 7 = false from by decide]
  simp
theorem own_L2 (g : Nat → Int32) : own_L g 2 = g 1 := by
  unfold own_L
  rw [show Nat.testBit 2 0 = false from by decide, show Nat.testBit 2 1 = true from by decide, show Nat.testBit 2 2 = false from by decide, show Nat.testBit 2 3 = false from by decide, show Nat.testBit 2 4 = false from by decide, show Nat.testBit 2 5 = false from by decide, show Nat.testBit 2 6 = false from by decide, show Nat.testBit 2 7 = false from by decide]
  simp
theorem own_L4 (g : Nat → Int32) : own_L g 4 = g 2 := by
  unfold own_L
  rw [show Nat.testBit 4 0 = false from by decide, show Nat.testBit 4 1 = false from by decide, show Nat.testBit 4 2 = true from by decide, show Nat.testBit 4 3 = false from by decide, show Nat.testBit 4 4 = false from by decide, show Nat.testBit 4 5 = false from by decide, show Nat.testBit 4 6 = false from by decide, show Nat.testBit 4 7 = false from by decide]
  simp
theorem own_L8 (g : Nat → Int32) : own_L g 8 = g 3 := by
  unfold own_L
  rw [show Nat.testBit 8 0 = false from by decide, show Nat.testBit 8 1 = false from by decide, show Nat.testBit 8 2 = false from by decide, show Nat.testBit 8 3 = true from by decide, show Nat.testBit 8 4 = false from by decide, show Nat.testBit 8 5 = false from by decide, show Nat.testBit 8 6 = false from by decide, show Nat.testBit 8 7 = false from by decide]
  simp
theorem own_L16 (g : Nat → Int32) : own_L g 16 = g 4 := by
  unfold own_L
  rw [show Nat.testBit 16 0 = false from by decide, show Nat.testBit 16 1 = false from by decide, show Nat.testBit 16 2 = false from by decide, show Nat.testBit 16 3 = false from by decide, show Nat.testBit 16 4 = true from by decide, show Nat.testBit 16 5 = false from by decide, show Nat.testBit 16 6 = false from by decide, show Nat.testBit 16 7 = false from by decide]
  simp
theorem own_L32 (g : Nat → Int32) : own_L g 32 = g 5 := by
  unfold own_L
  rw [show Nat.testBit 32 0 = false from by decide, show Nat.testBit 32 1 = false from by decide, show Nat.testBit 32 2 = false from by decide, show Nat.testBit 32 3 = false from by decide, show Nat.testBit 32 4 = false from by decide, show Nat.testBit 32 5 = true from by decide, show Nat.testBit 32 6 = false from by decide, show Nat.testBit 32 7 = false from by decide]
  simp
theorem own_L64 (g : Nat → Int32) : own_L g 64 = g 6 := by
  unfold own_L
  rw [show Nat.testBit 64 0 = false from by decide, show Nat.testBit 64 1 = false from by decide, show Nat.testBit 64 2 = false from by decide, show Nat.testBit 64 3 = false from by decide, show Nat.testBit 64 4 = false from by decide, show Nat.testBit 64 5 = false from by decide, show Nat.testBit 64 6 = true from by decide, show Nat.testBit 64 7 = false from by decide]
  simp
theorem own_L128 (g : Nat → Int32) : own_L g 128 = g 7 := by
  unfold own_L
  rw [show Nat.testBit 128 0 = false from by decide, show Nat.testBit 128 1 = false from by decide, show Nat.testBit 128 2 = false from by decide, show Nat.testBit 128 3 = false from by decide, show Nat.testBit 128 4 = false from by decide, show Nat.testBit 128 5 = false from by decide, show Nat.testBit 128 6 = false from by decide, show Nat.testBit 128 7 = true from by decide]
  simp
theorem own_Fe {p : Int32} {n : Nat} (h : own_e n < 32 ∨ n % 256 = 0) : own_F p n = own_g p 32 n := by
  rcases h with h | h
  · have q : own_g p 32 n = own_t p (31 - own_e n) := by unfold own_g; rw [if_pos ⟨h, by omega⟩]
    rw [q]; unfold own_F
    have c : (n % 256 = 1 ∧ own_e n = n / 256 * 8) ∨ (n % 256 = 2 ∧ own_e n = n / 256 * 8 + 1) ∨ (n % 256 = 4 ∧ own_e n = n / 256 * 8 + 2) ∨ (n % 256 = 8 ∧ own_e n = n / 256 * 8 + 3) ∨ (n % 256 = 16 ∧ own_e n = n / 256 * 8 + 4) ∨ (n % 256 = 32 ∧ own_e n = n / 256 * 8 + 5) ∨ (n % 256 = 64 ∧ own_e n = n / 256 * 8 + 6) ∨ (n % 256 = 128 ∧ own_e n = n / 256 * 8 + 7) := by
      unfold own_e at *
      repeat' split at h
      all_goals first | omega | (simp_all; done) | (simp_all; omega)
    rcases c with ⟨c, d⟩ | ⟨c, d⟩ | ⟨c, d⟩ | ⟨c, d⟩ | ⟨c, d⟩ | ⟨c, d⟩ | ⟨c, d⟩ | ⟨c, d⟩
    · rw [c, d, own_L1, Nat.add_zero]
    · rw [c, d, own_L2]
    · rw [c, d, own_L4]
    · rw [c, d, own_L8]
    · rw [c, d, own_L16]
    · rw [c, d, own_L32]
    · rw [c, d, own_L64]
    · rw [c, d, own_L128]
  · have e : own_e n = 99 := by unfold own_e; rw [h]; rfl
    unfold own_g own_F
    rw [e, h, if_neg (by omega)]
    simp [own_L]
def own_lo (b : Nat) : Nat := b &&& (256 - b)
theorem own_d4 : ∀ k : Fin 4, ∀ b : Fin 256, ¬ (((Int32.ofNat k.1) <<< ((8 : Int32) &&& 31)) ||| (Int32.ofNat b.1)) < 0 ∧ (((Int32.ofNat k.1) <<< ((8 : Int32) &&& 31)) ||| (Int32.ofNat b.1)).toNatClampNeg = 256 * k.1 + b.1 := by decide +kernel
theorem own_d5 : ∀ b : Fin 256, b.1 ≠ 0 → ((Int32.ofNat b.1) &&& (-(Int32.ofNat b.1))) = Int32.ofNat (own_lo b.1) ∧ ((Int32.ofNat b.1) ^^^ ((Int32.ofNat b.1) &&& (-(Int32.ofNat b.1)))) = Int32.ofNat (b.1 ^^^ own_lo b.1) ∧ own_lo b.1 < 256 ∧ (b.1 ^^^ own_lo b.1) < 256 ∧ (¬ b.1 = own_lo b.1 → own_lo b.1 < b.1 ∧ (b.1 ^^^ own_lo b.1) < b.1) := by decide +kernel
theorem own_d6 : ∀ k : Fin 4, ∀ b : Fin 256, b.1 ≠ 0 → b.1 = own_lo b.1 → own_e (256 * k.1 + b.1) < 32 := by decide +kernel
def own_n (k : Int32) : Nat := k.toInt.toNat
theorem own_nb {k : Int32} {m : Nat} (h : 0 ≤ k.toInt ∧ k.toInt ≤ m) : own_n k < m + 1 ∧ k = Int32.ofNat (own_n k) ∨ 2147483647 < m := by
  by_cases q : 2147483647 < m
  · exact Or.inr q
  · refine Or.inl ⟨by unfold own_n; omega, Int32.toInt_inj.mp ?_⟩
    rw [Int32.toInt_ofNat_of_lt (by unfold own_n; omega)]; unfold own_n; omega
theorem own_k4 {k : Int32} (h : 0 ≤ k.toInt ∧ k.toInt ≤ 3) : own_n k < 4 ∧ k = Int32.ofNat (own_n k) := (own_nb (m := 3) h).resolve_right (by decide)
theorem own_k256 {k : Int32} (h : 0 ≤ k.toInt ∧ k.toInt ≤ 255) : own_n k < 256 ∧ k = Int32.ofNat (own_n k) := (own_nb (m := 255) h).resolve_right (by decide)
theorem own_ixk {k b : Int32} (hk : 0 ≤ k.toInt ∧ k.toInt ≤ 3) (hb : 0 ≤ b.toInt ∧ b.toInt ≤ 255) : ¬ ((k <<< ((8 : Int32) &&& 31)) ||| b) < 0 ∧ ((k <<< ((8 : Int32) &&& 31)) ||| b).toNatClampNeg = 256 * own_n k + own_n b ∧ 256 * own_n k + own_n b < 1024 := by
  have a := own_k4 hk; have c := own_k256 hb
  have d := own_d4 ⟨own_n k, a.1⟩ ⟨own_n b, c.1⟩
  simp only [← a.2, ← c.2] at d
  exact ⟨d.1, d.2, by omega⟩
theorem own_on {m : Nat} (h : m < 256) : own_n (Int32.ofNat m) = m ∧ (0 ≤ (Int32.ofNat m).toInt ∧ (Int32.ofNat m).toInt ≤ 255) := by
  have e : (Int32.ofNat m).toInt = m := Int32.toInt_ofNat_of_lt (by omega)
  unfold own_n; omega
theorem own_lw {b : Int32} (hb : 1 ≤ b.toInt ∧ b.toInt ≤ 255) : (0 ≤ (b &&& (-b)).toInt ∧ (b &&& (-b)).toInt ≤ 255) ∧ (0 ≤ (b ^^^ (b &&& (-b))).toInt ∧ (b ^^^ (b &&& (-b))).toInt ≤ 255) ∧ own_n (b &&& (-b)) = own_lo (own_n b) ∧ own_n (b ^^^ (b &&& (-b))) = own_n b ^^^ own_lo (own_n b) ∧ (¬ own_n b = own_lo (own_n b) → own_lo (own_n b) < own_n b ∧ (own_n b ^^^ own_lo (own_n b)) < own_n b) ∧ own_n b ≠ 0 ∧ own_n b < 256 := by
  have c := own_k256 (k := b) ⟨by omega, hb.2⟩
  have z : own_n b ≠ 0 := by unfold own_n; omega
  have d := own_d5 ⟨own_n b, c.1⟩ z
  simp only [← c.2] at d
  obtain ⟨d1, d2, d3, d4, d5⟩ := d
  rw [d2, d1]
  exact ⟨(own_on d3).2, (own_on d4).2, (own_on d3).1, (own_on d4).1, d5, z, c.1⟩
def own_h (p : Int32) (N n : Nat) : Int32 := if n < N then own_F p n else own_g p 32 n
theorem own_s1 {p k b : Int32} {f : Nat → Int32} (hk : 0 ≤ k.toInt ∧ k.toInt ≤ 3) (hb : 1 ≤ b.toInt ∧ b.toInt ≤ 255) (hf : ∀ n, n < 1024 → f n = own_h p (256 * own_n k + own_n b) n) (he : b = (b &&& (-b))) : ∀ n, n < 1024 → f n = own_h p (256 * own_n k + own_n b + 1) n := fun n hn => by
  rw [hf n hn]; unfold own_h
  have l := own_lw hb; have a := own_k4 hk
  by_cases q : n = 256 * own_n k + own_n b
  · subst q
    rw [if_neg (by omega), if_pos (by omega)]
    exact (own_Fe (Or.inl (own_d6 ⟨own_n k, a.1⟩ ⟨own_n b, l.2.2.2.2.2.2⟩ l.2.2.2.2.2.1 (by show own_n b = _; rw [← l.2.2.1, ← he])))).symm
  · by_cases g : n < 256 * own_n k + own_n b
    · rw [if_pos g, if_pos (by omega)]
    · rw [if_neg g, if_neg (by omega)]
theorem own_FF {p : Int32} {K a c : Nat} (ha : a < 256) (hc : c < 256) (hx : (a ^^^ c) < 256) : own_F p (256 * K + (a ^^^ c)) = own_F p (256 * K + a) ^^^ own_F p (256 * K + c) := by
  unfold own_F
  rw [show (256 * K + (a ^^^ c)) % 256 = (a ^^^ c) from by omega, show (256 * K + a) % 256 = a from by omega, show (256 * K + c) % 256 = c from by omega, show (256 * K + (a ^^^ c)) / 256 = K from by omega, show (256 * K + a) / 256 = K from by omega, show (256 * K + c) / 256 = K from by omega]
  exact own_Lx _ _ _
theorem own_s2 {p k b : Int32} {f : Nat → Int32} {i1 i2 i3 : Nat} (hk : 0 ≤ k.toInt ∧ k.toInt ≤ 3) (hb : 1 ≤ b.toInt ∧ b.toInt ≤ 255) (hf : ∀ n, n < 1024 → f n = own_h p (256 * own_n k + own_n b) n) (he : ¬ b = (b &&& (-b))) (e1 : i1 = 256 * own_n k + own_n b) (e2 : i2 = 256 * own_n k + own_n (b &&& (-b))) (e3 : i3 = 256 * own_n k + own_n (b ^^^ (b &&& (-b)))) : ∀ n, n < 1024 → own_upd f i1 (f i2 ^^^ f i3) n = own_h p (256 * own_n k + own_n b + 1) n := fun n hn => by
  have l := own_lw hb; have a := own_k4 hk
  have nl : ¬ own_n b = own_lo (own_n b) := fun q => he (by
    have x := own_k256 (k := b) ⟨by omega, hb.2⟩; have y := own_k256 (k := b &&& (-b)) l.1
    rw [l.2.2.1, ← q] at y; exact x.2.trans y.2.symm)
  obtain ⟨lt1, lt2⟩ := l.2.2.2.2.1 nl
  subst e1 e2 e3
  unfold own_upd
  by_cases q : n = 256 * own_n k + own_n b
  · subst q
    rw [if_pos rfl, hf _ (by omega), hf _ (by omega), l.2.2.1, l.2.2.2.1]
    unfold own_h
    rw [if_pos (by omega), if_pos (by omega), if_pos (by omega)]
    have z := own_FF (p := p) (K := own_n k) (a := own_lo (own_n b)) (c := own_n b ^^^ own_lo (own_n b)) (by omega) (by omega) (by rw [← Nat.xor_assoc, Nat.xor_comm (own_lo _), Nat.xor_assoc, Nat.xor_self, Nat.xor_zero]; omega)
    rw [← z]; congr 2
    rw [← Nat.xor_assoc, Nat.xor_comm (own_lo _), Nat.xor_assoc, Nat.xor_self, Nat.xor_zero]
  · rw [if_neg q, hf n hn]; unfold own_h
    by_cases g : n < 256 * own_n k + own_n b
    · rw [if_pos g, if_pos (by omega)]
    · rw [if_neg g, if_neg (by omega)]
theorem own_en {i : Int32} {m : Nat} (hm : m ≤ 31) (hi : i.toInt = 31 - (m : Int)) : ¬ (((i / (8 : Int32)) <<< ((8 : Int32) &&& 31)) ||| ((1 : Int32) <<< ((i % (8 : Int32)) &&& 31))) < 0 ∧ (((i / (8 : Int32)) <<< ((8 : Int32) &&& 31)) ||| ((1 : Int32) <<< ((i % (8 : Int32)) &&& 31))).toNatClampNeg = own_id (31 - m) ∧ own_id (31 - m) < 1024 := by
  have e : i = Int32.ofNat (31 - m) := by
    apply Int32.toInt_inj.mp
    rw [Int32.toInt_ofNat_of_lt (by omega)]; omega
  have d := own_d3 ⟨31 - m, by omega⟩; have g := own_d1 ⟨31 - m, by omega⟩
  simp only [← e] at d
  exact ⟨d.1, d.2, g.2⟩
theorem own_i1 {i : Int32} {m : Nat} (hm : m ≤ 32) (hi : i.toInt = 31 - (m : Int)) (hc : ¬ i < 0) : m ≤ 31 ∧ (i + (-1 : Int32)).toInt = 31 - ((m + 1 : Nat) : Int) := by
  rw [Int32.lt_iff_toInt_lt, own_z32] at hc
  have e := c_iadd i (-1); have r := rng32 (i + (-1)); have o : (-1 : Int32).toInt = -1 := by decide
  omega
theorem own_i32 {i : Int32} {m : Nat} (hm : m ≤ 32) (hi : i.toInt = 31 - (m : Int)) (hc : i < 0) : m = 32 := by
  rw [Int32.lt_iff_toInt_lt, own_z32] at hc; omega
theorem own_g0 {p : Int32} {n : Nat} : own_g p 0 n = 0 := by unfold own_g; rw [if_neg (by omega)]
theorem own_u1 {p t : Int32} {f : Nat → Int32} {m k : Nat} (hm : m ≤ 31) (ht : t = own_t p m) (hf : ∀ n, n < 1024 → f n = own_g p m n) (hk : k = own_id (31 - m)) : ∀ n, n < 1024 → own_upd f k t n = own_g p (m + 1) n := fun n hn => by
  rw [own_gs hm hn, ht, ← hf n hn, hk]; rfl
theorem own_o0 {p : Int32} {f : Nat → Int32} (hf : ∀ n, n < 1024 → f n = own_g p 32 n) : ∀ n, n < 1024 → f n = own_h p (256 * own_n (0 : Int32)) n := fun n hn => by
  rw [hf n hn, own_h, if_neg (by have : own_n (0 : Int32) = 0 := by decide
                                 omega)]
theorem own_b0 {p k : Int32} {f : Nat → Int32} (hf : ∀ n, n < 1024 → f n = own_h p (256 * own_n k) n) : ∀ n, n < 1024 → f n = own_h p (256 * own_n k + own_n (1 : Int32)) n := fun n hn => by
  have o : own_n (1 : Int32) = 1 := by decide
  rw [hf n hn, o]; unfold own_h
  by_cases q : n = 256 * own_n k
  · subst q; rw [if_neg (by omega), if_pos (by omega)]; exact (own_Fe (Or.inr (by omega))).symm
  · by_cases g : n < 256 * own_n k
    · rw [if_pos g, if_pos (by omega)]
    · rw [if_neg g, if_neg (by omega)]
theorem own_kc {k : Int32} (h : 0 ≤ k.toInt ∧ k.toInt ≤ 4) (hc : k < (4 : Int32)) : (0 ≤ k.toInt ∧ k.toInt ≤ 3) ∧ (0 ≤ (k + (1 : Int32)).toInt ∧ (k + (1 : Int32)).toInt ≤ 4) ∧ own_n (k + (1 : Int32)) = own_n k + 1 := by
  rw [Int32.lt_iff_toInt_lt, show (4 : Int32).toInt = 4 from by decide] at hc
  have e := c_iadd k 1; have r := rng32 (k + 1); have o : (1 : Int32).toInt = 1 := by decide
  unfold own_n; omega
theorem own_bc {b : Int32} (h : 1 ≤ b.toInt ∧ b.toInt ≤ 256) (hc : b < (256 : Int32)) : (1 ≤ b.toInt ∧ b.toInt ≤ 255) ∧ (1 ≤ (b + (1 : Int32)).toInt ∧ (b + (1 : Int32)).toInt ≤ 256) ∧ own_n (b + (1 : Int32)) = own_n b + 1 := by
  rw [Int32.lt_iff_toInt_lt, show (256 : Int32).toInt = 256 from by decide] at hc
  have e := c_iadd b 1; have r := rng32 (b + 1); have o : (1 : Int32).toInt = 1 := by decide
  unfold own_n; omega
theorem own_be {p k b : Int32} {f : Nat → Int32} (hk : 0 ≤ k.toInt ∧ k.toInt ≤ 4) (hck : k < (4 : Int32)) (h : 1 ≤ b.toInt ∧ b.toInt ≤ 256) (hc : ¬ b < (256 : Int32)) (hf : ∀ n, n < 1024 → f n = own_h p (256 * own_n k + own_n b) n) : ∀ n, n < 1024 → f n = own_h p (256 * own_n (k + (1 : Int32))) n := fun n hn => by
  rw [Int32.lt_iff_toInt_lt, show (256 : Int32).toInt = 256 from by decide] at hc
  have q : own_n b = 256 := by unfold own_n; omega
  rw [hf n hn, (own_kc hk hck).2.2, q]; rfl
theorem own_done {p k : Int32} {f : Nat → Int32} (h : 0 ≤ k.toInt ∧ k.toInt ≤ 4) (hc : ¬ k < (4 : Int32)) (hf : ∀ n, n < 1024 → f n = own_h p (256 * own_n k) n) : ∀ n, n < 1024 → f n = own_F p n := fun n hn => by
  rw [Int32.lt_iff_toInt_lt, show (4 : Int32).toInt = 4 from by decide] at hc
  rw [hf n hn, own_h, if_pos (by unfold own_n; omega)]
theorem own_b255 {b : Int32} (h : 1 ≤ b.toInt ∧ b.toInt ≤ 255) : 0 ≤ b.toInt ∧ b.toInt ≤ 255 := ⟨by omega, h.2⟩
theorem own_pn0 : plainName "com/example/resync/resync/codec/Crc32cArithmetic" = true := by first | (simp [plainName, overriddenIn]; done) | decide +kernel
theorem d1_0 : decode prog_26_method_7_code 0 = .ok (.sipush 1024, 3) := by decide +kernel
theorem d1_3 : decode prog_26_method_7_code 3 = .ok (.newarray .int, 2) := by decide +kernel
theorem d1_5 : decode prog_26_method_7_code 5 = .ok (.astore_n 1, 1) := by decide +kernel
theorem d1_6 : decode prog_26_method_7_code 6 = .ok (.iload_n 0, 1) := by decide +kernel
theorem d1_7 : decode prog_26_method_7_code 7 = .ok (.istore_n 2, 1) := by decide +kernel
theorem d1_8 : decode prog_26_method_7_code 8 = .ok (.bipush 31, 2) := by decide +kernel
theorem d1_10 : decode prog_26_method_7_code 10 = .ok (.istore_n 3, 1) := by decide +kernel
theorem d1_11 : decode prog_26_method_7_code 11 = .ok (.iload_n 3, 1) := by decide +kernel
theorem d1_12 : decode prog_26_method_7_code 12 = .ok (.ifCond .lt 38, 3) := by decide +kernel
theorem d1_15 : decode prog_26_method_7_code 15 = .ok (.aload_n 1, 1) := by decide +kernel
theorem d1_16 : decode prog_26_method_7_code 16 = .ok (.iload_n 3, 1) := by decide +kernel
theorem d1_17 : decode prog_26_method_7_code 17 = .ok (.bipush 8, 2) := by decide +kernel
theorem d1_19 : decode prog_26_method_7_code 19 = .ok (.idiv, 1) := by decide +kernel
theorem d1_20 : decode prog_26_method_7_code 20 = .ok (.bipush 8, 2) := by decide +kernel
theorem d1_22 : decode prog_26_method_7_code 22 = .ok (.ishl, 1) := by decide +kernel
theorem d1_23 : decode prog_26_method_7_code 23 = .ok (.iconst 1, 1) := by decide +kernel
theorem d1_24 : decode prog_26_method_7_code 24 = .ok (.iload_n 3, 1) := by decide +kernel
theorem d1_25 : decode prog_26_method_7_code 25 = .ok (.bipush 8, 2) := by decide +kernel
theorem d1_27 : decode prog_26_method_7_code 27 = .ok (.irem, 1) := by decide +kernel
theorem d1_28 : decode prog_26_method_7_code 28 = .ok (.ishl, 1) := by decide +kernel
theorem d1_29 : decode prog_26_method_7_code 29 = .ok (.ior, 1) := by decide +kernel
theorem d1_30 : decode prog_26_method_7_code 30 = .ok (.iload_n 2, 1) := by decide +kernel
theorem d1_31 : decode prog_26_method_7_code 31 = .ok (.iastore, 1) := by decide +kernel
theorem d1_32 : decode prog_26_method_7_code 32 = .ok (.iload_n 2, 1) := by decide +kernel
theorem d1_33 : decode prog_26_method_7_code 33 = .ok (.iconst 1, 1) := by decide +kernel
theorem d1_34 : decode prog_26_method_7_code 34 = .ok (.iushr, 1) := by decide +kernel
theorem d1_35 : decode prog_26_method_7_code 35 = .ok (.ldc 41, 2) := by decide +kernel
theorem d1_37 : decode prog_26_method_7_code 37 = .ok (.iload_n 2, 1) := by decide +kernel
theorem d1_38 : decode prog_26_method_7_code 38 = .ok (.iconst 1, 1) := by decide +kernel
theorem d1_39 : decode prog_26_method_7_code 39 = .ok (.iand, 1) := by decide +kernel
theorem d1_40 : decode prog_26_method_7_code 40 = .ok (.ineg, 1) := by decide +kernel
theorem d1_41 : decode prog_26_method_7_code 41 = .ok (.iand, 1) := by decide +kernel
theorem d1_42 : decode prog_26_method_7_code 42 = .ok (.ixor, 1) := by decide +kernel
theorem d1_43 : decode prog_26_method_7_code 43 = .ok (.istore_n 2, 1) := by decide +kernel
theorem d1_44 : decode prog_26_method_7_code 44 = .ok (.iinc 3 (-1), 3) := by decide +kernel
theorem d1_47 : decode prog_26_method_7_code 47 = .ok (.goto (-36), 3) := by decide +kernel
theorem d1_50 : decode prog_26_method_7_code 50 = .ok (.iconst 0, 1) := by decide +kernel
theorem d1_51 : decode prog_26_method_7_code 51 = .ok (.istore_n 3, 1) := by decide +kernel
theorem d1_52 : decode prog_26_method_7_code 52 = .ok (.iload_n 3, 1) := by decide +kernel
theorem d1_53 : decode prog_26_method_7_code 53 = .ok (.iconst 4, 1) := by decide +kernel
theorem d1_54 : decode prog_26_method_7_code 54 = .ok (.if_icmp .ge 72, 3) := by decide +kernel
theorem d1_57 : decode prog_26_method_7_code 57 = .ok (.iconst 1, 1) := by decide +kernel
theorem d1_58 : decode prog_26_method_7_code 58 = .ok (.istore 4, 2) := by decide +kernel
theorem d1_60 : decode prog_26_method_7_code 60 = .ok (.iload 4, 2) := by decide +kernel
theorem d1_62 : decode prog_26_method_7_code 62 = .ok (.sipush 256, 3) := by decide +kernel
theorem d1_65 : decode prog_26_method_7_code 65 = .ok (.if_icmp .ge 55, 3) := by decide +kernel
theorem d1_68 : decode prog_26_method_7_code 68 = .ok (.iload 4, 2) := by decide +kernel
theorem d1_70 : decode prog_26_method_7_code 70 = .ok (.iload 4, 2) := by decide +kernel
theorem d1_72 : decode prog_26_method_7_code 72 = .ok (.ineg, 1) := by decide +kernel
theorem d1_73 : decode prog_26_method_7_code 73 = .ok (.iand, 1) := by decide +kernel
theorem d1_74 : decode prog_26_method_7_code 74 = .ok (.istore 5, 2) := by decide +kernel
theorem d1_76 : decode prog_26_method_7_code 76 = .ok (.iload 4, 2) := by decide +kernel
theorem d1_78 : decode prog_26_method_7_code 78 = .ok (.iload 5, 2) := by decide +kernel
theorem d1_80 : decode prog_26_method_7_code 80 = .ok (.if_icmp .eq 34, 3) := by decide +kernel
theorem d1_83 : decode prog_26_method_7_code 83 = .ok (.aload_n 1, 1) := by decide +kernel
theorem d1_84 : decode prog_26_method_7_code 84 = .ok (.iload_n 3, 1) := by decide +kernel
theorem d1_85 : decode prog_26_method_7_code 85 = .ok (.bipush 8, 2) := by decide +kernel
theorem d1_87 : decode prog_26_method_7_code 87 = .ok (.ishl, 1) := by decide +kernel
theorem d1_88 : decode prog_26_method_7_code 88 = .ok (.iload 4, 2) := by decide +kernel
theorem d1_90 : decode prog_26_method_7_code 90 = .ok (.ior, 1) := by decide +kernel
theorem d1_91 : decode prog_26_method_7_code 91 = .ok (.aload_n 1, 1) := by decide +kernel
theorem d1_92 : decode prog_26_method_7_code 92 = .ok (.iload_n 3, 1) := by decide +kernel
theorem d1_93 : decode prog_26_method_7_code 93 = .ok (.bipush 8, 2) := by decide +kernel
theorem d1_95 : decode prog_26_method_7_code 95 = .ok (.ishl, 1) := by decide +kernel
theorem d1_96 : decode prog_26_method_7_code 96 = .ok (.iload 5, 2) := by decide +kernel
theorem d1_98 : decode prog_26_method_7_code 98 = .ok (.ior, 1) := by decide +kernel
theorem d1_99 : decode prog_26_method_7_code 99 = .ok (.iaload, 1) := by decide +kernel
theorem d1_100 : decode prog_26_method_7_code 100 = .ok (.aload_n 1, 1) := by decide +kernel
theorem d1_101 : decode prog_26_method_7_code 101 = .ok (.iload_n 3, 1) := by decide +kernel
theorem d1_102 : decode prog_26_method_7_code 102 = .ok (.bipush 8, 2) := by decide +kernel
theorem d1_104 : decode prog_26_method_7_code 104 = .ok (.ishl, 1) := by decide +kernel
theorem d1_105 : decode prog_26_method_7_code 105 = .ok (.iload 4, 2) := by decide +kernel
theorem d1_107 : decode prog_26_method_7_code 107 = .ok (.iload 5, 2) := by decide +kernel
theorem d1_109 : decode prog_26_method_7_code 109 = .ok (.ixor, 1) := by decide +kernel
theorem d1_110 : decode prog_26_method_7_code 110 = .ok (.ior, 1) := by decide +kernel
theorem d1_111 : decode prog_26_method_7_code 111 = .ok (.iaload, 1) := by decide +kernel
theorem d1_112 : decode prog_26_method_7_code 112 = .ok (.ixor, 1) := by decide +kernel
theorem d1_113 : decode prog_26_method_7_code 113 = .ok (.iastore, 1) := by decide +kernel
theorem d1_114 : decode prog_26_method_7_code 114 = .ok (.iinc 4 1, 3) := by decide +kernel
theorem d1_117 : decode prog_26_method_7_code 117 = .ok (.goto (-57), 3) := by decide +kernel
theorem d1_120 : decode prog_26_method_7_code 120 = .ok (.iinc 3 1, 3) := by decide +kernel
theorem d1_123 : decode prog_26_method_7_code 123 = .ok (.goto (-71), 3) := by decide +kernel
theorem d1_126 : decode prog_26_method_7_code 126 = .ok (.aload_n 1, 1) := by decide +kernel
theorem d1_127 : decode prog_26_method_7_code 127 = .ok (.areturn, 1) := by decide +kernel
theorem ef1 (m : MethodId) (p0 : Int32) : entryFrame m #[(.int p0)] 6 = mkF m 0 #[.val (.int p0), .unset, .unset, .unset, .unset, .unset] [] := by first | (simp [entryFrame, mkF, argsToLocals, Value.category]; done) | rfl
def Q1 (Z : State) (p0 : Int32) (h0 : Heap) (n0 : Nat) (v : Option Value) (h : Heap) (L : List Loc) : Prop := ∃ (b : Addr) (ft : Nat → Int32), v = some (.ref b) ∧ Fr n0 L ∧ h0.size ≤ b ∧ Keep h0 h [] ∧ own_AV Value.int Z h b .int 1024 ft ∧ ∀ n, n < 1024 → ft n = own_F p0 n
set_option maxRecDepth 65536 in
set_option maxHeartbeats 40000000 in
theorem rm1 (l : Launch) (Z : State) (a0 : Array Value) (hw : ∀ d ∈ tables_1, d.before a0 Z = true) (ws : List Jvm.Cond) (p0 : Int32) (h0 : Heap) (n0 : Nat) (Z0 : n0 ≤ h0.size) :
    MetFree l (⟨"com/example/resync/resync/codec/Crc32cArithmetic", "timesTable", "(I)[I"⟩ : MethodName) (head1 (Jvm.Cond.code (⟨"com/example/resync/resync/codec/Crc32cArithmetic", "timesTable", "(I)[I"⟩ : MethodName) prog_26_method_7_code 6 (some (.array .int)) :: ws) ({ frames := 0, cells := 1, slots := 1024, locals := 0 } : Room)) (fun a U => a = #[(.int p0)] ∧ Z.Warmed39 U.vm ∧ U.heap = h0) (fun _ _ _ _ _ => True) (fun _ U o U' => ∃ v L, o = .returned v ∧ Q1 Z p0 h0 n0 v U'.heap L ∧ FrameEnd U o U' L ({ frames := 0, cells := 1, slots := 1024, locals := 0 } : Room).cells ({ frames := 0, cells := 1, slots := 1024, locals := 0 } : Room).slots) := by
  refine MetFree.of_bodySF (plainFor_of_name own_pn0) hisR ?_
  intro p e s m args below meth c s₁ Bd hml0 hP hK
  obtain ⟨rfl, hZ, hh⟩ := hP
  have hx := Bd.exec
  have hby := Bd.bytes
  have hml : c.maxLocals = 6 := hml0
  have hown : s.vm.findClass "com/example/resync/resync/codec/Crc32cArithmetic" = some m.cls := findClass_of_methodNamed Bd.named
  have hnm := (name_of_methodNamed Bd.named Bd.method).1
  have hlk : meth.locks = false := BodyLoose.notSynchronized Bd
  have X0 : Stand p l e ({ frames := 0, cells := 1, slots := 1024, locals := 0 } : Room) s m #[(.int p0)] below meth c s₁ [] 0 0 := Stand.of_body Bd
  have e0 : s₁.heap = h0 := by rw [← hh, Bd.state]; rfl
  have N0 := Fr.nil n0
  obtain ⟨G, hG⟩ : ∃ G, G = own_G s (Q1 Z p0 h0 n0) ({ frames := 0, cells := 1, slots := 1024, locals := 0 } : Room).cells ({ frames := 0, cells := 1, slots := 1024, locals := 0 } : Room).slots := ⟨_, rfl⟩
  show own_Fin p e below (own_G s (Q1 Z p0 h0 n0) ({ frames := 0, cells := 1, slots := 1024, locals := 0 } : Room).cells ({ frames := 0, cells := 1, slots := 1024, locals := 0 } : Room).slots) (s₁.setTop (entryFrame m #[(.int p0)] 6))
  rw [← hG]
  refine own_to (fun _ kz => castTop (ef1 m p0) kz) ?_
  show own_Fin p e below G (s₁.setTop (mkF m 0 #[.val (.int p0), .unset, .unset, .unset, .unset, .unset] []))
  refine own_to (fun _ kz => XS.sipush X0.here hx rfl (hb hby d1_0) kz) ?_
  show own_Fin p e below G (s₁.setTop (mkF m 3 #[.val (.int p0), .unset, .unset, .unset, .unset, .unset] [(.int (1024 : Int32))]))
  obtain ⟨T3, h3, k3, X3, e3, E3, A3, st3⟩ := newP X0 hx hZ (hw _ (List.mem_of_getElem? (i := 4) rfl)) e0 (g := (mkF m 3 #[.val (.int p0), .unset, .unset, .unset, .unset, .unset] [(.int (1024 : Int32))])) rfl (hb hby d1_3) rfl (by decide) (cap := 1024) (by decide) (by decide) (by decide) (by decide)
  obtain ⟨b3, g3⟩ : ∃ z, z = h0.size := ⟨_, rfl⟩
  rw [← g3] at A3 st3
  refine own_to st3 ?_
  have g_b3 : n0 ≤ b3 := Nat.le_trans Z0 (Nat.le_of_eq g3.symm)
  have sz_b3 : h0.size ≤ b3 := Nat.le_trans (Keep.refl h0 []).1 (Nat.le_of_eq g3.symm)
  have V3 : own_AV Value.int Z h3 b3 .int 1024 (fun _ => (0 : Int32)) := own_AV.new A3 (by decide) (by decide) (fun _ => rfl)
  show own_Fin p e below G (T3.setTop (mkF m 5 #[.val (.int p0), .unset, .unset, .unset, .unset, .unset] [(.ref b3)]))
  refine own_to (fun _ kz => XS.astoreN X3.here hx rfl (hb hby d1_5) rfl (rfl) (l' := #[.val (.int p0), .val (.ref b3), .unset, .unset, .unset, .unset]) rfl kz) ?_
  show own_Fin p e below G (T3.setTop (mkF m 6 #[.val (.int p0), .val (.ref b3), .unset, .unset, .unset, .unset] []))
  refine own_to (fun _ kz => XS.iloadN X3.here hx rfl (hb hby d1_6) rfl  kz) ?_
  show own_Fin p e below G (T3.setTop (mkF m 7 #[.val (.int p0), .val (.ref b3), .unset, .unset, .unset, .unset] [(.int p0)]))
  refine own_to (fun _ kz => XS.istoreN X3.here hx rfl (hb hby d1_7) rfl (l' := #[.val (.int p0), .val (.ref b3), .val (.int p0), .unset, .unset, .unset]) rfl kz) ?_
  show own_Fin p e below G (T3.setTop (mkF m 8 #[.val (.int p0), .val (.ref b3), .val (.int p0), .unset, .unset, .unset] []))
  refine own_to (fun _ kz => XS.bipush X3.here hx rfl (hb hby d1_8) kz) ?_
  show own_Fin p e below G (T3.setTop (mkF m 10 #[.val (.int p0), .val (.ref b3), .val (.int p0), .unset, .unset, .unset] [(.int (31 : Int32))]))
  refine own_to (fun _ kz => XS.istoreN X3.here hx rfl (hb hby d1_10) rfl (l' := #[.val (.int p0), .val (.ref b3), .val (.int p0), .val (.int (31 : Int32)), .unset, .unset]) rfl kz) ?_
  show own_Fin p e below G (T3.setTop (mkF m 11 #[.val (.int p0), .val (.ref b3), .val (.int p0), .val (.int (31 : Int32)), .unset, .unset] []))
  have K11 : ∀ (k_11 : Nat) (m_ : Nat) (i : Int32) (t : Int32) (f : Nat → Int32) (T_j11 : State) (locs_j11 : List Loc) (N_j11 : Fr n0 locs_j11) (X_j11 : Stand p l e ({ frames := 0, cells := 1, slots := 1024, locals := 0 } : Room) s m #[(.int p0)] below meth c T_j11 locs_j11 1 1024) (h_j11 : Heap) (e_j11 : T_j11.heap = h_j11) (Z_j11 : n0 ≤ h_j11.size) (F0_j11 : own_AV Value.int Z h_j11 b3 .int 1024 f) (KP_j11 : Keep h0 h_j11 []) (hm_11 : 32 - m_ = k_11) (hm : m_ ≤ 32) (hi : i.toInt = 31 - (m_ : Int)) (ht : t = own_t p0 m_) (hf : ∀ n, n < 1024 → f n = own_g p0 m_ n), own_Fin p e below G (T_j11.setTop (mkF m 11 #[.val (.int p0), .val (.ref b3), .val (.int t), .val (.int i), .unset, .unset] [])) := by
    intro k_11
    induction k_11 using Nat.strongRecOn with
    | _ k_11 ih_11 =>
      intro m_ i t f T_j11 locs_j11 N_j11 X_j11 h_j11 e_j11 Z_j11 F0_j11 KP_j11 hm_11 hm hi ht hf
      refine own_to (fun _ kz => XS.iloadN X_j11.here hx rfl (hb hby d1_11) rfl  kz) ?_
      show own_Fin p e below G (T_j11.setTop (mkF m 12 #[.val (.int p0), .val (.ref b3), .val (.int t), .val (.int i), .unset, .unset] [(.int i)]))
      by_cases hc12 : i < (0 : Int32)
      · refine own_to (fun _ kz => XS.ifYes X_j11.here hx rfl (pc0 := 12) (pc' := 50) rfl (hb hby d1_12) rfl ((if0 _ _).trans (tlt hc12).1) (by decide) (by decide) kz) ?_
        show own_Fin p e below G (T_j11.setTop (mkF m 50 #[.val (.int p0), .val (.ref b3), .val (.int t), .val (.int i), .unset, .unset] []))
        refine own_to (fun _ kz => XS.iconst X_j11.here hx rfl (hb hby d1_50) kz) ?_
        show own_Fin p e below G (T_j11.setTop (mkF m 51 #[.val (.int p0), .val (.ref b3), .val (.int t), .val (.int i), .unset, .unset] [(.int (0 : Int32))]))
        refine own_to (fun _ kz => XS.istoreN X_j11.here hx rfl (hb hby d1_51) rfl (l' := #[.val (.int p0), .val (.ref b3), .val (.int t), .val (.int (0 : Int32)), .unset, .unset]) rfl kz) ?_
        show own_Fin p e below G (T_j11.setTop (mkF m 52 #[.val (.int p0), .val (.ref b3), .val (.int t), .val (.int (0 : Int32)), .unset, .unset] []))
        have K52 : ∀ (k_52 : Nat) (k : Int32) (s4 : Slot) (s5 : Slot) (f2 : Nat → Int32) (T_j52 : State) (locs_j52 : List Loc) (N_j52 : Fr n0 locs_j52) (X_j52 : Stand p l e ({ frames := 0, cells := 1, slots := 1024, locals := 0 } : Room) s m #[(.int p0)] below meth c T_j52 locs_j52 1 1024) (h_j52 : Heap) (e_j52 : T_j52.heap = h_j52) (Z_j52 : n0 ≤ h_j52.size) (F0_j52 : own_AV Value.int Z h_j52 b3 .int 1024 f2) (KP_j52 : Keep h0 h_j52 []) (hm_52 : 4 - own_n k = k_52) (hk : 0 ≤ k.toInt ∧ k.toInt ≤ 4) (hs4 : One s4) (hs5 : One s5) (hf2 : ∀ n, n < 1024 → f2 n = own_h p0 (256 * own_n k) n), own_Fin p e below G (T_j52.setTop (mkF m 52 #[.val (.int p0), .val (.ref b3), .val (.int t), .val (.int k), s4, s5] [])) := by
          intro k_52
          induction k_52 using Nat.strongRecOn with
          | _ k_52 ih_52 =>
            intro k s4 s5 f2 T_j52 locs_j52 N_j52 X_j52 h_j52 e_j52 Z_j52 F0_j52 KP_j52 hm_52 hk hs4 hs5 hf2
            refine own_to (fun _ kz => XS.iloadN X_j52.here hx rfl (hb hby d1_52) rfl  kz) ?_
            show own_Fin p e below G (T_j52.setTop (mkF m 53 #[.val (.int p0), .val (.ref b3), .val (.int t), .val (.int k), s4, s5] [(.int k)]))
            refine own_to (fun _ kz => XS.iconst X_j52.here hx rfl (hb hby d1_53) kz) ?_
            show own_Fin p e below G (T_j52.setTop (mkF m 54 #[.val (.int p0), .val (.ref b3), .val (.int t), .val (.int k), s4, s5] [(.int (4 : Int32)), (.int k)]))
            by_cases hc54 : k < (4 : Int32)
            · refine own_to (fun _ kz => XS.icmpNo X_j52.here hx rfl (hb hby d1_54) rfl (tlt hc54).2.1 kz) ?_
              show own_Fin p e below G (T_j52.setTop (mkF m 57 #[.val (.int p0), .val (.ref b3), .val (.int t), .val (.int k), s4, s5] []))
              refine own_to (fun _ kz => XS.iconst X_j52.here hx rfl (hb hby d1_57) kz) ?_
              show own_Fin p e below G (T_j52.setTop (mkF m 58 #[.val (.int p0), .val (.ref b3), .val (.int t), .val (.int k), s4, s5] [(.int (1 : Int32))]))
              refine own_to (fun _ kz => XS.istore X_j52.here hx rfl (hb hby d1_58) rfl (l' := #[.val (.int p0), .val (.ref b3), .val (.int t), .val (.int k), .val (.int (1 : Int32)), s5]) (XS.store1 rfl hs4 rfl) kz) ?_
              show own_Fin p e below G (T_j52.setTop (mkF m 60 #[.val (.int p0), .val (.ref b3), .val (.int t), .val (.int k), .val (.int (1 : Int32)), s5] []))
              have K60 : ∀ (k_60 : Nat) (b : Int32) (s5b : Slot) (f3 : Nat → Int32) (T_j60 : State) (locs_j60 : List Loc) (N_j60 : Fr n0 locs_j60) (X_j60 : Stand p l e ({ frames := 0, cells := 1, slots := 1024, locals := 0 } : Room) s m #[(.int p0)] below meth c T_j60 locs_j60 1 1024) (h_j60 : Heap) (e_j60 : T_j60.heap = h_j60) (Z_j60 : n0 ≤ h_j60.size) (F0_j60 : own_AV Value.int Z h_j60 b3 .int 1024 f3) (KP_j60 : Keep h0 h_j60 []) (hm_60 : 256 - own_n b = k_60) (hbb : 1 ≤ b.toInt ∧ b.toInt ≤ 256) (hs5b : One s5b) (hf3 : ∀ n, n < 1024 → f3 n = own_h p0 (256 * own_n k + own_n b) n), own_Fin p e below G (T_j60.setTop (mkF m 60 #[.val (.int p0), .val (.ref b3), .val (.int t), .val (.int k), .val (.int b), s5b] [])) := by
                intro k_60
                induction k_60 using Nat.strongRecOn with
                | _ k_60 ih_60 =>
                  intro b s5b f3 T_j60 locs_j60 N_j60 X_j60 h_j60 e_j60 Z_j60 F0_j60 KP_j60 hm_60 hbb hs5b hf3
                  refine own_to (fun _ kz => XS.iload X_j60.here hx rfl (hb hby d1_60) rfl  kz) ?_
                  show own_Fin p e below G (T_j60.setTop (mkF m 62 #[.val (.int p0), .val (.ref b3), .val (.int t), .val (.int k), .val (.int b), s5b] [(.int b)]))
                  refine own_to (fun _ kz => XS.sipush X_j60.here hx rfl (hb hby d1_62) kz) ?_
                  show own_Fin p e below G (T_j60.setTop (mkF m 65 #[.val (.int p0), .val (.ref b3), .val (.int t), .val (.int k), .val (.int b), s5b] [(.int (256 : Int32)), (.int b)]))
                  by_cases hc65 : b < (256 : Int32)
                  · refine own_to (fun _ kz => XS.icmpNo X_j60.here hx rfl (hb hby d1_65) rfl (tlt hc65).2.1 kz) ?_
                    show own_Fin p e below G (T_j60.setTop (mkF m 68 #[.val (.int p0), .val (.ref b3), .val (.int t), .val (.int k), .val (.int b), s5b] []))
                    refine own_to (fun _ kz => XS.iload X_j60.here hx rfl (hb hby d1_68) rfl  kz) ?_
                    show own_Fin p e below G (T_j60.setTop (mkF m 70 #[.val (.int p0), .val (.ref b3), .val (.int t), .val (.int k), .val (.int b), s5b] [(.int b)]))
                    refine own_to (fun _ kz => XS.iload X_j60.here hx rfl (hb hby d1_70) rfl  kz) ?_
                    show own_Fin p e below G (T_j60.setTop (mkF m 72 #[.val (.int p0), .val (.ref b3), .val (.int t), .val (.int k), .val (.int b), s5b] [(.int b), (.int b)]))
                    refine own_to (fun _ kz => XS.ineg X_j60.here hx rfl (hb hby d1_72) rfl kz) ?_
                    show own_Fin p e below G (T_j60.setTop (mkF m 73 #[.val (.int p0), .val (.ref b3), .val (.int t), .val (.int k), .val (.int b), s5b] [(.int (-b)), (.int b)]))
                    refine own_to (fun _ kz => XS.iand X_j60.here hx rfl (hb hby d1_73) rfl kz) ?_
                    show own_Fin p e below G (T_j60.setTop (mkF m 74 #[.val (.int p0), .val (.ref b3), .val (.int t), .val (.int k), .val (.int b), s5b] [(.int (b &&& (-b)))]))
                    refine own_to (fun _ kz => XS.istore X_j60.here hx rfl (hb hby d1_74) rfl (l' := #[.val (.int p0), .val (.ref b3), .val (.int t), .val (.int k), .val (.int b), .val (.int (b &&& (-b)))]) (XS.store1 rfl hs5b rfl) kz) ?_
                    show own_Fin p e below G (T_j60.setTop (mkF m 76 #[.val (.int p0), .val (.ref b3), .val (.int t), .val (.int k), .val (.int b), .val (.int (b &&& (-b)))] []))
                    refine own_to (fun _ kz => XS.iload X_j60.here hx rfl (hb hby d1_76) rfl  kz) ?_
                    show own_Fin p e below G (T_j60.setTop (mkF m 78 #[.val (.int p0), .val (.ref b3), .val (.int t), .val (.int k), .val (.int b), .val (.int (b &&& (-b)))] [(.int b)]))
                    refine own_to (fun _ kz => XS.iload X_j60.here hx rfl (hb hby d1_78) rfl  kz) ?_
                    show own_Fin p e below G (T_j60.setTop (mkF m 80 #[.val (.int p0), .val (.ref b3), .val (.int t), .val (.int k), .val (.int b), .val (.int (b &&& (-b)))] [(.int (b &&& (-b))), (.int b)]))
                    by_cases hc80 : b = (b &&& (-b))
                    · refine own_to (fun _ kz => XS.icmpYes X_j60.here hx rfl (pc0 := 80) (pc' := 114) rfl (hb hby d1_80) rfl (teq hc80).1 (by decide) (by decide) kz) ?_
                      show own_Fin p e below G (T_j60.setTop (mkF m 114 #[.val (.int p0), .val (.ref b3), .val (.int t), .val (.int k), .val (.int b), .val (.int (b &&& (-b)))] []))
                      refine own_to (fun _ kz => XS.iinc X_j60.here hx rfl (hb hby d1_114) rfl (l' := #[.val (.int p0), .val (.ref b3), .val (.int t), .val (.int k), .val (.int (b + (1 : Int32))), .val (.int (b &&& (-b)))]) rfl kz) ?_
                      show own_Fin p e below G (T_j60.setTop (mkF m 117 #[.val (.int p0), .val (.ref b3), .val (.int t), .val (.int k), .val (.int (b + (1 : Int32))), .val (.int (b &&& (-b)))] []))
                      refine own_to (fun _ kz => XS.goto X_j60.here hx rfl (pc0 := 117) (pc' := 60) rfl (hb hby d1_117) (by decide) (by decide) kz) ?_
                      show own_Fin p e below G (T_j60.setTop (mkF m 60 #[.val (.int p0), .val (.ref b3), .val (.int t), .val (.int k), .val (.int (b + (1 : Int32))), .val (.int (b &&& (-b)))] []))
                      exact ih_60 _ (by have q := (own_bc hbb hc65).2.2; have := (own_k256 (own_b255 (own_bc hbb hc65).1)).1; omega) (b + (1 : Int32)) (.val (.int (b &&& (-b)))) f3 _ _ N_j60 X_j60 _ e_j60 Z_j60 F0_j60 KP_j60 rfl (own_bc hbb hc65).2.1 (One.val rfl) (by rw [(own_bc hbb hc65).2.2]; exact (own_s1 (own_kc hk hc54).1 (own_bc hbb hc65).1 hf3 hc80))
                    · refine own_to (fun _ kz => XS.icmpNo X_j60.here hx rfl (hb hby d1_80) rfl (feq hc80).1 kz) ?_
                      show own_Fin p e below G (T_j60.setTop (mkF m 83 #[.val (.int p0), .val (.ref b3), .val (.int t), .val (.int k), .val (.int b), .val (.int (b &&& (-b)))] []))
                      refine own_to (fun _ kz => XS.aloadN X_j60.here hx rfl (hb hby d1_83) rfl (rfl)  kz) ?_
                      show own_Fin p e below G (T_j60.setTop (mkF m 84 #[.val (.int p0), .val (.ref b3), .val (.int t), .val (.int k), .val (.int b), .val (.int (b &&& (-b)))] [(.ref b3)]))
                      refine own_to (fun _ kz => XS.iloadN X_j60.here hx rfl (hb hby d1_84) rfl  kz) ?_
                      show own_Fin p e below G (T_j60.setTop (mkF m 85 #[.val (.int p0), .val (.ref b3), .val (.int t), .val (.int k), .val (.int b), .val (.int (b &&& (-b)))] [(.int k), (.ref b3)]))
                      refine own_to (fun _ kz => XS.bipush X_j60.here hx rfl (hb hby d1_85) kz) ?_
                      show own_Fin p e below G (T_j60.setTop (mkF m 87 #[.val (.int p0), .val (.ref b3), .val (.int t), .val (.int k), .val (.int b), .val (.int (b &&& (-b)))] [(.int (8 : Int32)), (.int k), (.ref b3)]))
                      refine own_to (fun _ kz => XS.ishl X_j60.here hx rfl (hb hby d1_87) rfl kz) ?_
                      show own_Fin p e below G (T_j60.setTop (mkF m 88 #[.val (.int p0), .val (.ref b3), .val (.int t), .val (.int k), .val (.int b), .val (.int (b &&& (-b)))] [(.int (k <<< ((8 : Int32) &&& 31))), (.ref b3)]))
                      refine own_to (fun _ kz => XS.iload X_j60.here hx rfl (hb hby d1_88) rfl  kz) ?_
                      show own_Fin p e below G (T_j60.setTop (mkF m 90 #[.val (.int p0), .val (.ref b3), .val (.int t), .val (.int k), .val (.int b), .val (.int (b &&& (-b)))] [(.int b), (.int (k <<< ((8 : Int32) &&& 31))), (.ref b3)]))
                      refine own_to (fun _ kz => XS.ior X_j60.here hx rfl (hb hby d1_90) rfl kz) ?_
                      show own_Fin p e below G (T_j60.setTop (mkF m 91 #[.val (.int p0), .val (.ref b3), .val (.int t), .val (.int k), .val (.int b), .val (.int (b &&& (-b)))] [(.int ((k <<< ((8 : Int32) &&& 31)) ||| b)), (.ref b3)]))
                      refine own_to (fun _ kz => XS.aloadN X_j60.here hx rfl (hb hby d1_91) rfl (rfl)  kz) ?_
                      show own_Fin p e below G (T_j60.setTop (mkF m 92 #[.val (.int p0), .val (.ref b3), .val (.int t), .val (.int k), .val (.int b), .val (.int (b &&& (-b)))] [(.ref b3), (.int ((k <<< ((8 : Int32) &&& 31)) ||| b)), (.ref b3)]))
                      refine own_to (fun _ kz => XS.iloadN X_j60.here hx rfl (hb hby d1_92) rfl  kz) ?_
                      show own_Fin p e below G (T_j60.setTop (mkF m 93 #[.val (.int p0), .val (.ref b3), .val (.int t), .val (.int k), .val (.int b), .val (.int (b &&& (-b)))] [(.int k), (.ref b3), (.int ((k <<< ((8 : Int32) &&& 31)) ||| b)), (.ref b3)]))
                      refine own_to (fun _ kz => XS.bipush X_j60.here hx rfl (hb hby d1_93) kz) ?_
                      show own_Fin p e below G (T_j60.setTop (mkF m 95 #[.val (.int p0), .val (.ref b3), .val (.int t), .val (.int k), .val (.int b), .val (.int (b &&& (-b)))] [(.int (8 : Int32)), (.int k), (.ref b3), (.int ((k <<< ((8 : Int32) &&& 31)) ||| b)), (.ref b3)]))
                      refine own_to (fun _ kz => XS.ishl X_j60.here hx rfl (hb hby d1_95) rfl kz) ?_
                      show own_Fin p e below G (T_j60.setTop (mkF m 96 #[.val (.int p0), .val (.ref b3), .val (.int t), .val (.int k), .val (.int b), .val (.int (b &&& (-b)))] [(.int (k <<< ((8 : Int32) &&& 31))), (.ref b3), (.int ((k <<< ((8 : Int32) &&& 31)) ||| b)), (.ref b3)]))
                      refine own_to (fun _ kz => XS.iload X_j60.here hx rfl (hb hby d1_96) rfl  kz) ?_
                      show own_Fin p e below G (T_j60.setTop (mkF m 98 #[.val (.int p0), .val (.ref b3), .val (.int t), .val (.int k), .val (.int b), .val (.int (b &&& (-b)))] [(.int (b &&& (-b))), (.int (k <<< ((8 : Int32) &&& 31))), (.ref b3), (.int ((k <<< ((8 : Int32) &&& 31)) ||| b)), (.ref b3)]))
                      refine own_to (fun _ kz => XS.ior X_j60.here hx rfl (hb hby d1_98) rfl kz) ?_
                      show own_Fin p e below G (T_j60.setTop (mkF m 99 #[.val (.int p0), .val (.ref b3), .val (.int t), .val (.int k), .val (.int b), .val (.int (b &&& (-b)))] [(.int ((k <<< ((8 : Int32) &&& 31)) ||| (b &&& (-b)))), (.ref b3), (.int ((k <<< ((8 : Int32) &&& 31)) ||| b)), (.ref b3)]))
                      refine own_to (fun _ kz => own_iaload X_j60 hx hZ e_j60 F0_j60 (j := ((k <<< ((8 : Int32) &&& 31)) ||| (b &&& (-b)))) (own_ixk (own_kc hk hc54).1 (own_lw (own_bc hbb hc65).1).1).1 rfl (by rw [(own_ixk (own_kc hk hc54).1 (own_lw (own_bc hbb hc65).1).1).2.1]; exact (own_ixk (own_kc hk hc54).1 (own_lw (own_bc hbb hc65).1).1).2.2) (g := (mkF m 99 #[.val (.int p0), .val (.ref b3), .val (.int t), .val (.int k), .val (.int b), .val (.int (b &&& (-b)))] [(.int ((k <<< ((8 : Int32) &&& 31)) ||| (b &&& (-b)))), (.ref b3), (.int ((k <<< ((8 : Int32) &&& 31)) ||| b)), (.ref b3)])) rfl rfl (hb hby d1_99) kz) ?_
                      show own_Fin p e below G (T_j60.setTop (mkF m 100 #[.val (.int p0), .val (.ref b3), .val (.int t), .val (.int k), .val (.int b), .val (.int (b &&& (-b)))] [(.int (f3 ((k <<< ((8 : Int32) &&& 31)) ||| (b &&& (-b))).toNatClampNeg)), (.int ((k <<< ((8 : Int32) &&& 31)) ||| b)), (.ref b3)]))
                      refine own_to (fun _ kz => XS.aloadN X_j60.here hx rfl (hb hby d1_100) rfl (rfl)  kz) ?_
                      show own_Fin p e below G (T_j60.setTop (mkF m 101 #[.val (.int p0), .val (.ref b3), .val (.int t), .val (.int k), .val (.int b), .val (.int (b &&& (-b)))] [(.ref b3), (.int (f3 ((k <<< ((8 : Int32) &&& 31)) ||| (b &&& (-b))).toNatClampNeg)), (.int ((k <<< ((8 : Int32) &&& 31)) ||| b)), (.ref b3)]))
                      refine own_to (fun _ kz => XS.iloadN X_j60.here hx rfl (hb hby d1_101) rfl  kz) ?_
                      show own_Fin p e below G (T_j60.setTop (mkF m 102 #[.val (.int p0), .val (.ref b3), .val (.int t), .val (.int k), .val (.int b), .val (.int (b &&& (-b)))] [(.int k), (.ref b3), (.int (f3 ((k <<< ((8 : Int32) &&& 31)) ||| (b &&& (-b))).toNatClampNeg)), (.int ((k <<< ((8 : Int32) &&& 31)) ||| b)), (.ref b3)]))
                      refine own_to (fun _ kz => XS.bipush X_j60.here hx rfl (hb hby d1_102) kz) ?_
                      show own_Fin p e below G (T_j60.setTop (mkF m 104 #[.val (.int p0), .val (.ref b3), .val (.int t), .val (.int k), .val (.int b), .val (.int (b &&& (-b)))] [(.int (8 : Int32)), (.int k), (.ref b3), (.int (f3 ((k <<< ((8 : Int32) &&& 31)) ||| (b &&& (-b))).toNatClampNeg)), (.int ((k <<< ((8 : Int32) &&& 31)) ||| b)), (.ref b3)]))
                      refine own_to (fun _ kz => XS.ishl X_j60.here hx rfl (hb hby d1_104) rfl kz) ?_
                      show own_Fin p e below G (T_j60.setTop (mkF m 105 #[.val (.int p0), .val (.ref b3), .val (.int t), .val (.int k), .val (.int b), .val (.int (b &&& (-b)))] [(.int (k <<< ((8 : Int32) &&& 31))), (.ref b3), (.int (f3 ((k <<< ((8 : Int32) &&& 31)) ||| (b &&& (-b))).toNatClampNeg)), (.int ((k <<< ((8 : Int32) &&& 31)) ||| b)), (.ref b3)]))
                      refine own_to (fun _ kz => XS.iload X_j60.here hx rfl (hb hby d1_105) rfl  kz) ?_
                      show own_Fin p e below G (T_j60.setTop (mkF m 107 #[.val (.int p0), .val (.ref b3), .val (.int t), .val (.int k), .val (.int b), .val (.int (b &&& (-b)))] [(.int b), (.int (k <<< ((8 : Int32) &&& 31))), (.ref b3), (.int (f3 ((k <<< ((8 : Int32) &&& 31)) ||| (b &&& (-b))).toNatClampNeg)), (.int ((k <<< ((8 : Int32) &&& 31)) ||| b)), (.ref b3)]))
                      refine own_to (fun _ kz => XS.iload X_j60.here hx rfl (hb hby d1_107) rfl  kz) ?_
                      show own_Fin p e below G (T_j60.setTop (mkF m 109 #[.val (.int p0), .val (.ref b3), .val (.int t), .val (.int k), .val (.int b), .val (.int (b &&& (-b)))] [(.int (b &&& (-b))), (.int b), (.int (k <<< ((8 : Int32) &&& 31))), (.ref b3), (.int (f3 ((k <<< ((8 : Int32) &&& 31)) ||| (b &&& (-b))).toNatClampNeg)), (.int ((k <<< ((8 : Int32) &&& 31)) ||| b)), (.ref b3)]))
                      refine own_to (fun _ kz => XS.ixor X_j60.here hx rfl (hb hby d1_109) rfl kz) ?_
                      show own_Fin p e below G (T_j60.setTop (mkF m 110 #[.val (.int p0), .val (.ref b3), .val (.int t), .val (.int k), .val (.int b), .val (.int (b &&& (-b)))] [(.int (b ^^^ (b &&& (-b)))), (.int (k <<< ((8 : Int32) &&& 31))), (.ref b3), (.int (f3 ((k <<< ((8 : Int32) &&& 31)) ||| (b &&& (-b))).toNatClampNeg)), (.int ((k <<< ((8 : Int32) &&& 31)) ||| b)), (.ref b3)]))
                      refine own_to (fun _ kz => XS.ior X_j60.here hx rfl (hb hby d1_110) rfl kz) ?_
                      show own_Fin p e below G (T_j60.setTop (mkF m 111 #[.val (.int p0), .val (.ref b3), .val (.int t), .val (.int k), .val (.int b), .val (.int (b &&& (-b)))] [(.int ((k <<< ((8 : Int32) &&& 31)) ||| (b ^^^ (b &&& (-b))))), (.ref b3), (.int (f3 ((k <<< ((8 : Int32) &&& 31)) ||| (b &&& (-b))).toNatClampNeg)), (.int ((k <<< ((8 : Int32) &&& 31)) ||| b)), (.ref b3)]))
                      refine own_to (fun _ kz => own_iaload X_j60 hx hZ e_j60 F0_j60 (j := ((k <<< ((8 : Int32) &&& 31)) ||| (b ^^^ (b &&& (-b))))) (own_ixk (own_kc hk hc54).1 (own_lw (own_bc hbb hc65).1).2.1).1 rfl (by rw [(own_ixk (own_kc hk hc54).1 (own_lw (own_bc hbb hc65).1).2.1).2.1]; exact (own_ixk (own_kc hk hc54).1 (own_lw (own_bc hbb hc65).1).2.1).2.2) (g := (mkF m 111 #[.val (.int p0), .val (.ref b3), .val (.int t), .val (.int k), .val (.int b), .val (.int (b &&& (-b)))] [(.int ((k <<< ((8 : Int32) &&& 31)) ||| (b ^^^ (b &&& (-b))))), (.ref b3), (.int (f3 ((k <<< ((8 : Int32) &&& 31)) ||| (b &&& (-b))).toNatClampNeg)), (.int ((k <<< ((8 : Int32) &&& 31)) ||| b)), (.ref b3)])) rfl rfl (hb hby d1_111) kz) ?_
                      show own_Fin p e below G (T_j60.setTop (mkF m 112 #[.val (.int p0), .val (.ref b3), .val (.int t), .val (.int k), .val (.int b), .val (.int (b &&& (-b)))] [(.int (f3 ((k <<< ((8 : Int32) &&& 31)) ||| (b ^^^ (b &&& (-b)))).toNatClampNeg)), (.int (f3 ((k <<< ((8 : Int32) &&& 31)) ||| (b &&& (-b))).toNatClampNeg)), (.int ((k <<< ((8 : Int32) &&& 31)) ||| b)), (.ref b3)]))
                      refine own_to (fun _ kz => XS.ixor X_j60.here hx rfl (hb hby d1_112) rfl kz) ?_
                      show own_Fin p e below G (T_j60.setTop (mkF m 113 #[.val (.int p0), .val (.ref b3), .val (.int t), .val (.int k), .val (.int b), .val (.int (b &&& (-b)))] [(.int ((f3 ((k <<< ((8 : Int32) &&& 31)) ||| (b &&& (-b))).toNatClampNeg) ^^^ (f3 ((k <<< ((8 : Int32) &&& 31)) ||| (b ^^^ (b &&& (-b)))).toNatClampNeg))), (.int ((k <<< ((8 : Int32) &&& 31)) ||| b)), (.ref b3)]))
                      obtain ⟨nn113, cl113, Ar113, Sz113, Hs113⟩ := F0_j60
                      obtain ⟨T113, h113, X113, e113, W113, st113⟩ := stI X_j60 hx hZ e_j60 Ar113 (j := ((k <<< ((8 : Int32) &&& 31)) ||| b)) (own_in Sz113 (own_ixk (own_kc hk hc54).1 (own_b255 (own_bc hbb hc65).1)).1 rfl (by rw [(own_ixk (own_kc hk hc54).1 (own_b255 (own_bc hbb hc65).1)).2.1]; exact (own_ixk (own_kc hk hc54).1 (own_b255 (own_bc hbb hc65).1)).2.2)) (g := (mkF m 113 #[.val (.int p0), .val (.ref b3), .val (.int t), .val (.int k), .val (.int b), .val (.int (b &&& (-b)))] [(.int ((f3 ((k <<< ((8 : Int32) &&& 31)) ||| (b &&& (-b))).toNatClampNeg) ^^^ (f3 ((k <<< ((8 : Int32) &&& 31)) ||| (b ^^^ (b &&& (-b)))).toNatClampNeg))), (.int ((k <<< ((8 : Int32) &&& 31)) ||| b)), (.ref b3)])) rfl rfl (hb hby d1_113)
                      refine own_to st113 ?_
                      have V113 : own_AV Value.int Z h113 b3 .int 1024 (own_upd f3 ((k <<< ((8 : Int32) &&& 31)) ||| b).toNatClampNeg ((f3 ((k <<< ((8 : Int32) &&& 31)) ||| (b &&& (-b))).toNatClampNeg) ^^^ (f3 ((k <<< ((8 : Int32) &&& 31)) ||| (b ^^^ (b &&& (-b)))).toNatClampNeg))) := own_AV.set nn113 Ar113 Sz113 Hs113 W113 rfl
                      obtain ⟨lo113, X113, N113⟩ : ∃ lo, Stand p l e _ s m _ below meth c T113 lo _ _ ∧ Fr n0 lo := ⟨_, X113, Fr.snoc X113 N_j60 g_b3⟩
                      show own_Fin p e below G (T113.setTop (mkF m 114 #[.val (.int p0), .val (.ref b3), .val (.int t), .val (.int k), .val (.int b), .val (.int (b &&& (-b)))] []))
                      refine own_to (fun _ kz => XS.iinc X113.here hx rfl (hb hby d1_114) rfl (l' := #[.val (.int p0), .val (.ref b3), .val (.int t), .val (.int k), .val (.int (b + (1 : Int32))), .val (.int (b &&& (-b)))]) rfl kz) ?_
                      show own_Fin p e below G (T113.setTop (mkF m 117 #[.val (.int p0), .val (.ref b3), .val (.int t), .val (.int k), .val (.int (b + (1 : Int32))), .val (.int (b &&& (-b)))] []))
                      refine own_to (fun _ kz => XS.goto X113.here hx rfl (pc0 := 117) (pc' := 60) rfl (hb hby d1_117) (by decide) (by decide) kz) ?_
                      show own_Fin p e below G (T113.setTop (mkF m 60 #[.val (.int p0), .val (.ref b3), .val (.int t), .val (.int k), .val (.int (b + (1 : Int32))), .val (.int (b &&& (-b)))] []))
                      have Zz_117_W113 := Nat.le_trans Z_j60 (Nat.le_of_eq (Wr.size W113).symm)
                      have Z_117 : n0 ≤ h113.size := Zz_117_W113
                      have KP_60 : Keep h0 h113 [] := (KP_j60.wr W113 (Or.inr sz_b3))
                      exact ih_60 _ (by have q := (own_bc hbb hc65).2.2; have := (own_k256 (own_b255 (own_bc hbb hc65).1)).1; omega) (b + (1 : Int32)) (.val (.int (b &&& (-b)))) (own_upd f3 ((k <<< ((8 : Int32) &&& 31)) ||| b).toNatClampNeg ((f3 ((k <<< ((8 : Int32) &&& 31)) ||| (b &&& (-b))).toNatClampNeg) ^^^ (f3 ((k <<< ((8 : Int32) &&& 31)) ||| (b ^^^ (b &&& (-b)))).toNatClampNeg))) _ _ N113 X113 _ e113 Z_117 V113 KP_60 rfl (own_bc hbb hc65).2.1 (One.val rfl) (by rw [(own_bc hbb hc65).2.2]; exact (own_s2 (own_kc hk hc54).1 (own_bc hbb hc65).1 hf3 hc80 (own_ixk (own_kc hk hc54).1 (own_b255 (own_bc hbb hc65).1)).2.1 (own_ixk (own_kc hk hc54).1 (own_lw (own_bc hbb hc65).1).1).2.1 (own_ixk (own_kc hk hc54).1 (own_lw (own_bc hbb hc65).1).2.1).2.1))
                  · refine own_to (fun _ kz => XS.icmpYes X_j60.here hx rfl (pc0 := 65) (pc' := 120) rfl (hb hby d1_65) rfl (flt hc65).2.1 (by decide) (by decide) kz) ?_
                    show own_Fin p e below G (T_j60.setTop (mkF m 120 #[.val (.int p0), .val (.ref b3), .val (.int t), .val (.int k), .val (.int b), s5b] []))
                    refine own_to (fun _ kz => XS.iinc X_j60.here hx rfl (hb hby d1_120) rfl (l' := #[.val (.int p0), .val (.ref b3), .val (.int t), .val (.int (k + (1 : Int32))), .val (.int b), s5b]) rfl kz) ?_
                    show own_Fin p e below G (T_j60.setTop (mkF m 123 #[.val (.int p0), .val (.ref b3), .val (.int t), .val (.int (k + (1 : Int32))), .val (.int b), s5b] []))
                    refine own_to (fun _ kz => XS.goto X_j60.here hx rfl (pc0 := 123) (pc' := 52) rfl (hb hby d1_123) (by decide) (by decide) kz) ?_
                    show own_Fin p e below G (T_j60.setTop (mkF m 52 #[.val (.int p0), .val (.ref b3), .val (.int t), .val (.int (k + (1 : Int32))), .val (.int b), s5b] []))
                    exact ih_52 _ (by have q := (own_kc hk hc54).2.2; have := (own_k4 (own_kc hk hc54).1).1; omega) (k + (1 : Int32)) (.val (.int b)) (s5b) f3 _ _ N_j60 X_j60 _ e_j60 Z_j60 F0_j60 KP_j60 rfl (own_kc hk hc54).2.1 (One.val rfl) hs5b (own_be hk hc54 hbb hc65 hf3)
              exact K60 _ (1 : Int32) (s5) f2 _ _ N_j52 X_j52 _ e_j52 Z_j52 F0_j52 KP_j52 rfl (by decide) hs5 (own_b0 hf2)
            · refine own_to (fun _ kz => XS.icmpYes X_j52.here hx rfl (pc0 := 54) (pc' := 126) rfl (hb hby d1_54) rfl (flt hc54).2.1 (by decide) (by decide) kz) ?_
              show own_Fin p e below G (T_j52.setTop (mkF m 126 #[.val (.int p0), .val (.ref b3), .val (.int t), .val (.int k), s4, s5] []))
              refine own_to (fun _ kz => XS.aloadN X_j52.here hx rfl (hb hby d1_126) rfl (rfl)  kz) ?_
              show own_Fin p e below G (T_j52.setTop (mkF m 127 #[.val (.int p0), .val (.ref b3), .val (.int t), .val (.int k), s4, s5] [(.ref b3)]))
              exact own_retA X_j52 hx hlk hG Bd.returns rfl rfl (hb hby d1_127) (by decide) (by decide) (by rw [e_j52]; exact ⟨b3, _, rfl, N_j52, sz_b3, KP_j52, F0_j52, own_done hk hc54 hf2⟩)
        exact K52 _ (0 : Int32) (.unset) (.unset) f _ _ N_j11 X_j11 _ e_j11 Z_j11 F0_j11 KP_j11 rfl (by decide) One.u One.u (own_o0 (by rw [← own_i32 hm hi hc12]; exact hf))
      · refine own_to (fun _ kz => XS.ifNo X_j11.here hx rfl (hb hby d1_12) rfl ((if0 _ _).trans (flt hc12).1) kz) ?_
        show own_Fin p e below G (T_j11.setTop (mkF m 15 #[.val (.int p0), .val (.ref b3), .val (.int t), .val (.int i), .unset, .unset] []))
        refine own_to (fun _ kz => XS.aloadN X_j11.here hx rfl (hb hby d1_15) rfl (rfl)  kz) ?_
        show own_Fin p e below G (T_j11.setTop (mkF m 16 #[.val (.int p0), .val (.ref b3), .val (.int t), .val (.int i), .unset, .unset] [(.ref b3)]))
        refine own_to (fun _ kz => XS.iloadN X_j11.here hx rfl (hb hby d1_16) rfl  kz) ?_
        show own_Fin p e below G (T_j11.setTop (mkF m 17 #[.val (.int p0), .val (.ref b3), .val (.int t), .val (.int i), .unset, .unset] [(.int i), (.ref b3)]))
        refine own_to (fun _ kz => XS.bipush X_j11.here hx rfl (hb hby d1_17) kz) ?_
        show own_Fin p e below G (T_j11.setTop (mkF m 19 #[.val (.int p0), .val (.ref b3), .val (.int t), .val (.int i), .unset, .unset] [(.int (8 : Int32)), (.int i), (.ref b3)]))
        refine own_to (fun _ kz => XS.idiv X_j11.here hx rfl (hb hby d1_19) rfl (by decide) kz) ?_
        show own_Fin p e below G (T_j11.setTop (mkF m 20 #[.val (.int p0), .val (.ref b3), .val (.int t), .val (.int i), .unset, .unset] [(.int (i / (8 : Int32))), (.ref b3)]))
        refine own_to (fun _ kz => XS.bipush X_j11.here hx rfl (hb hby d1_20) kz) ?_
        show own_Fin p e below G (T_j11.setTop (mkF m 22 #[.val (.int p0), .val (.ref b3), .val (.int t), .val (.int i), .unset, .unset] [(.int (8 : Int32)), (.int (i / (8 : Int32))), (.ref b3)]))
        refine own_to (fun _ kz => XS.ishl X_j11.here hx rfl (hb hby d1_22) rfl kz) ?_
        show own_Fin p e below G (T_j11.setTop (mkF m 23 #[.val (.int p0), .val (.ref b3), .val (.int t), .val (.int i), .unset, .unset] [(.int ((i / (8 : Int32)) <<< ((8 : Int32) &&& 31))), (.ref b3)]))
        refine own_to (fun _ kz => XS.iconst X_j11.here hx rfl (hb hby d1_23) kz) ?_
        show own_Fin p e below G (T_j11.setTop (mkF m 24 #[.val (.int p0), .val (.ref b3), .val (.int t), .val (.int i), .unset, .unset] [(.int (1 : Int32)), (.int ((i / (8 : Int32)) <<< ((8 : Int32) &&& 31))), (.ref b3)]))
        refine own_to (fun _ kz => XS.iloadN X_j11.here hx rfl (hb hby d1_24) rfl  kz) ?_
        show own_Fin p e below G (T_j11.setTop (mkF m 25 #[.val (.int p0), .val (.ref b3), .val (.int t), .val (.int i), .unset, .unset] [(.int i), (.int (1 : Int32)), (.int ((i / (8 : Int32)) <<< ((8 : Int32) &&& 31))), (.ref b3)]))
        refine own_to (fun _ kz => XS.bipush X_j11.here hx rfl (hb hby d1_25) kz) ?_
        show own_Fin p e below G (T_j11.setTop (mkF m 27 #[.val (.int p0), .val (.ref b3), .val (.int t), .val (.int i), .unset, .unset] [(.int (8 : Int32)), (.int i), (.int (1 : Int32)), (.int ((i / (8 : Int32)) <<< ((8 : Int32) &&& 31))), (.ref b3)]))
        refine own_to (fun _ kz => iremM X_j11 hx rfl (hb hby d1_27) rfl (by decide) kz) ?_
        show own_Fin p e below G (T_j11.setTop (mkF m 28 #[.val (.int p0), .val (.ref b3), .val (.int t), .val (.int i), .unset, .unset] [(.int (i % (8 : Int32))), (.int (1 : Int32)), (.int ((i / (8 : Int32)) <<< ((8 : Int32) &&& 31))), (.ref b3)]))
        refine own_to (fun _ kz => XS.ishl X_j11.here hx rfl (hb hby d1_28) rfl kz) ?_
        show own_Fin p e below G (T_j11.setTop (mkF m 29 #[.val (.int p0), .val (.ref b3), .val (.int t), .val (.int i), .unset, .unset] [(.int ((1 : Int32) <<< ((i % (8 : Int32)) &&& 31))), (.int ((i / (8 : Int32)) <<< ((8 : Int32) &&& 31))), (.ref b3)]))
        refine own_to (fun _ kz => XS.ior X_j11.here hx rfl (hb hby d1_29) rfl kz) ?_
        show own_Fin p e below G (T_j11.setTop (mkF m 30 #[.val (.int p0), .val (.ref b3), .val (.int t), .val (.int i), .unset, .unset] [(.int (((i / (8 : Int32)) <<< ((8 : Int32) &&& 31)) ||| ((1 : Int32) <<< ((i % (8 : Int32)) &&& 31)))), (.ref b3)]))
        refine own_to (fun _ kz => XS.iloadN X_j11.here hx rfl (hb hby d1_30) rfl  kz) ?_
        show own_Fin p e below G (T_j11.setTop (mkF m 31 #[.val (.int p0), .val (.ref b3), .val (.int t), .val (.int i), .unset, .unset] [(.int t), (.int (((i / (8 : Int32)) <<< ((8 : Int32) &&& 31)) ||| ((1 : Int32) <<< ((i % (8 : Int32)) &&& 31)))), (.ref b3)]))
        obtain ⟨nn31, cl31, Ar31, Sz31, Hs31⟩ := F0_j11
        obtain ⟨T31, h31, X31, e31, W31, st31⟩ := stI X_j11 hx hZ e_j11 Ar31 (j := (((i / (8 : Int32)) <<< ((8 : Int32) &&& 31)) ||| ((1 : Int32) <<< ((i % (8 : Int32)) &&& 31)))) (own_in Sz31 (own_en (own_i1 hm hi hc12).1 hi).1 rfl (by rw [(own_en (own_i1 hm hi hc12).1 hi).2.1]; exact (own_en (own_i1 hm hi hc12).1 hi).2.2)) (g := (mkF m 31 #[.val (.int p0), .val (.ref b3), .val (.int t), .val (.int i), .unset, .unset] [(.int t), (.int (((i / (8 : Int32)) <<< ((8 : Int32) &&& 31)) ||| ((1 : Int32) <<< ((i % (8 : Int32)) &&& 31)))), (.ref b3)])) rfl rfl (hb hby d1_31)
        refine own_to st31 ?_
        have V31 : own_AV Value.int Z h31 b3 .int 1024 (own_upd f (((i / (8 : Int32)) <<< ((8 : Int32) &&& 31)) ||| ((1 : Int32) <<< ((i % (8 : Int32)) &&& 31))).toNatClampNeg t) := own_AV.set nn31 Ar31 Sz31 Hs31 W31 rfl
        obtain ⟨lo31, X31, N31⟩ : ∃ lo, Stand p l e _ s m _ below meth c T31 lo _ _ ∧ Fr n0 lo := ⟨_, X31, Fr.snoc X31 N_j11 g_b3⟩
        show own_Fin p e below G (T31.setTop (mkF m 32 #[.val (.int p0), .val (.ref b3), .val (.int t), .val (.int i), .unset, .unset] []))
        refine own_to (fun _ kz => XS.iloadN X31.here hx rfl (hb hby d1_32) rfl  kz) ?_
        show own_Fin p e below G (T31.setTop (mkF m 33 #[.val (.int p0), .val (.ref b3), .val (.int t), .val (.int i), .unset, .unset] [(.int t)]))
        refine own_to (fun _ kz => XS.iconst X31.here hx rfl (hb hby d1_33) kz) ?_
        show own_Fin p e below G (T31.setTop (mkF m 34 #[.val (.int p0), .val (.ref b3), .val (.int t), .val (.int i), .unset, .unset] [(.int (1 : Int32)), (.int t)]))
        refine own_to (fun _ kz => XS.iushr X31.here hx rfl (hb hby d1_34) rfl kz) ?_
        show own_Fin p e below G (T31.setTop (mkF m 35 #[.val (.int p0), .val (.ref b3), .val (.int t), .val (.int i), .unset, .unset] [(.int ((t.toUInt32 >>> ((1 : Int32) &&& 31).toUInt32).toInt32))]))
        refine own_to (fun _ kz => X31.ldcInt hx hown (mvT hZ (hw _ (List.mem_of_getElem? (i := 5) rfl))) (g := (mkF m 35 #[.val (.int p0), .val (.ref b3), .val (.int t), .val (.int i), .unset, .unset] [(.int ((t.toUInt32 >>> ((1 : Int32) &&& 31).toUInt32).toInt32))])) rfl (hb hby d1_35) _ kz) ?_
        show own_Fin p e below G (T31.setTop (mkF m 37 #[.val (.int p0), .val (.ref b3), .val (.int t), .val (.int i), .unset, .unset] [(.int (-2097792136 : Int32)), (.int ((t.toUInt32 >>> ((1 : Int32) &&& 31).toUInt32).toInt32))]))
        refine own_to (fun _ kz => XS.iloadN X31.here hx rfl (hb hby d1_37) rfl  kz) ?_
        show own_Fin p e below G (T31.setTop (mkF m 38 #[.val (.int p0), .val (.ref b3), .val (.int t), .val (.int i), .unset, .unset] [(.int t), (.int (-2097792136 : Int32)), (.int ((t.toUInt32 >>> ((1 : Int32) &&& 31).toUInt32).toInt32))]))
        refine own_to (fun _ kz => XS.iconst X31.here hx rfl (hb hby d1_38) kz) ?_
        show own_Fin p e below G (T31.setTop (mkF m 39 #[.val (.int p0), .val (.ref b3), .val (.int t), .val (.int i), .unset, .unset] [(.int (1 : Int32)), (.int t), (.int (-2097792136 : Int32)), (.int ((t.toUInt32 >>> ((1 : Int32) &&& 31).toUInt32).toInt32))]))
        refine own_to (fun _ kz => XS.iand X31.here hx rfl (hb hby d1_39) rfl kz) ?_
        show own_Fin p e below G (T31.setTop (mkF m 40 #[.val (.int p0), .val (.ref b3), .val (.int t), .val (.int i), .unset, .unset] [(.int (t &&& (1 : Int32))), (.int (-2097792136 : Int32)), (.int ((t.toUInt32 >>> ((1 : Int32) &&& 31).toUInt32).toInt32))]))
        refine own_to (fun _ kz => XS.ineg X31.here hx rfl (hb hby d1_40) rfl kz) ?_
        show own_Fin p e below G (T31.setTop (mkF m 41 #[.val (.int p0), .val (.ref b3), .val (.int t), .val (.int i), .unset, .unset] [(.int (-(t &&& (1 : Int32)))), (.int (-2097792136 : Int32)), (.int ((t.toUInt32 >>> ((1 : Int32) &&& 31).toUInt32).toInt32))]))
        refine own_to (fun _ kz => XS.iand X31.here hx rfl (hb hby d1_41) rfl kz) ?_
        show own_Fin p e below G (T31.setTop (mkF m 42 #[.val (.int p0), .val (.ref b3), .val (.int t), .val (.int i), .unset, .unset] [(.int ((-2097792136 : Int32) &&& (-(t &&& (1 : Int32))))), (.int ((t.toUInt32 >>> ((1 : Int32) &&& 31).toUInt32).toInt32))]))
        refine own_to (fun _ kz => XS.ixor X31.here hx rfl (hb hby d1_42) rfl kz) ?_
        show own_Fin p e below G (T31.setTop (mkF m 43 #[.val (.int p0), .val (.ref b3), .val (.int t), .val (.int i), .unset, .unset] [(.int (((t.toUInt32 >>> ((1 : Int32) &&& 31).toUInt32).toInt32) ^^^ ((-2097792136 : Int32) &&& (-(t &&& (1 : Int32))))))]))
        refine own_to (fun _ kz => XS.istoreN X31.here hx rfl (hb hby d1_43) rfl (l' := #[.val (.int p0), .val (.ref b3), .val (.int (((t.toUInt32 >>> ((1 : Int32) &&& 31).toUInt32).toInt32) ^^^ ((-2097792136 : Int32) &&& (-(t &&& (1 : Int32)))))), .val (.int i), .unset, .unset]) rfl kz) ?_
        show own_Fin p e below G (T31.setTop (mkF m 44 #[.val (.int p0), .val (.ref b3), .val (.int (((t.toUInt32 >>> ((1 : Int32) &&& 31).toUInt32).toInt32) ^^^ ((-2097792136 : Int32) &&& (-(t &&& (1 : Int32)))))), .val (.int i), .unset, .unset] []))
        refine own_to (fun _ kz => XS.iinc X31.here hx rfl (hb hby d1_44) rfl (l' := #[.val (.int p0), .val (.ref b3), .val (.int (((t.toUInt32 >>> ((1 : Int32) &&& 31).toUInt32).toInt32) ^^^ ((-2097792136 : Int32) &&& (-(t &&& (1 : Int32)))))), .val (.int (i + (-1 : Int32))), .unset, .unset]) rfl kz) ?_
        show own_Fin p e below G (T31.setTop (mkF m 47 #[.val (.int p0), .val (.ref b3), .val (.int (((t.toUInt32 >>> ((1 : Int32) &&& 31).toUInt32).toInt32) ^^^ ((-2097792136 : Int32) &&& (-(t &&& (1 : Int32)))))), .val (.int (i + (-1 : Int32))), .unset, .unset] []))
        refine own_to (fun _ kz => XS.goto X31.here hx rfl (pc0 := 47) (pc' := 11) rfl (hb hby d1_47) (by decide) (by decide) kz) ?_
        show own_Fin p e below G (T31.setTop (mkF m 11 #[.val (.int p0), .val (.ref b3), .val (.int (((t.toUInt32 >>> ((1 : Int32) &&& 31).toUInt32).toInt32) ^^^ ((-2097792136 : Int32) &&& (-(t &&& (1 : Int32)))))), .val (.int (i + (-1 : Int32))), .unset, .unset] []))
        have Zz_47_W31 := Nat.le_trans Z_j11 (Nat.le_of_eq (Wr.size W31).symm)
        have Z_47 : n0 ≤ h31.size := Zz_47_W31
        have KP_11 : Keep h0 h31 [] := (KP_j11.wr W31 (Or.inr sz_b3))
        exact ih_11 _ (by have := (own_i1 hm hi hc12).1; omega) (m_ + 1) (i + (-1 : Int32)) (((t.toUInt32 >>> ((1 : Int32) &&& 31).toUInt32).toInt32) ^^^ ((-2097792136 : Int32) &&& (-(t &&& (1 : Int32))))) (own_upd f (((i / (8 : Int32)) <<< ((8 : Int32) &&& 31)) ||| ((1 : Int32) <<< ((i % (8 : Int32)) &&& 31))).toNatClampNeg t) _ _ N31 X31 _ e31 Z_47 V31 KP_11 rfl (Nat.succ_le_succ (own_i1 hm hi hc12).1) (own_i1 hm hi hc12).2 (by rw [ht]; rfl) (own_u1 (own_i1 hm hi hc12).1 ht hf (own_en (own_i1 hm hi hc12).1 hi).2.1)
  have Zz_10_E3 := Nat.le_trans Z0 E3.1
  have Z_10 : n0 ≤ h3.size := Zz_10_E3
  have KP_11'1 : Keep h0 h3 [] := ((Keep.refl h0 []).ext E3)
  exact K11 _ 0 (31 : Int32) p0 (fun _ => (0 : Int32)) _ _ N0 X3 _ e3 Z_10 V3 KP_11'1 rfl (by decide) (by decide) rfl (fun _ _ => own_g0.symm)
theorem own_pn1 : plainName "com/example/resync/resync/codec/Crc32cArithmeticTimesTablePinLaw" = true := by first | (simp [plainName, overriddenIn]; done) | decide +kernel
theorem d2_0 : decode method_3_code 0 = .ok (.aload_n 0, 1) := by decide +kernel
theorem d2_1 : decode method_3_code 1 = .ok (.iload_n 1, 1) := by decide +kernel
theorem d2_2 : decode method_3_code 2 = .ok (.iconst 3, 1) := by decide +kernel
theorem d2_3 : decode method_3_code 3 = .ok (.iushr, 1) := by decide +kernel
theorem d2_4 : decode method_3_code 4 = .ok (.bipush 8, 2) := by decide +kernel
theorem d2_6 : decode method_3_code 6 = .ok (.ishl, 1) := by decide +kernel
theorem d2_7 : decode method_3_code 7 = .ok (.iconst 1, 1) := by decide +kernel
theorem d2_8 : decode method_3_code 8 = .ok (.iload_n 1, 1) := by decide +kernel
theorem d2_9 : decode method_3_code 9 = .ok (.bipush 7, 2) := by decide +kernel
theorem d2_11 : decode method_3_code 11 = .ok (.iand, 1) := by decide +kernel
theorem d2_12 : decode method_3_code 12 = .ok (.ishl, 1) := by decide +kernel
theorem d2_13 : decode method_3_code 13 = .ok (.ior, 1) := by decide +kernel
theorem d2_14 : decode method_3_code 14 = .ok (.iaload, 1) := by decide +kernel
theorem d2_15 : decode method_3_code 15 = .ok (.ireturn, 1) := by decide +kernel
theorem ef2 (m : MethodId) (ad0 : Addr) (p1 : Int32) : entryFrame m #[(.ref ad0), (.int p1)] 2 = mkF m 0 #[.val (.ref ad0), .val (.int p1)] [] := by first | (simp [entryFrame, mkF, argsToLocals, Value.category]; done) | rfl
def f2 (p1 : Int32) (xs : Nat → Int32) : Int32 := (xs ((((p1.toUInt32 >>> ((3 : Int32) &&& 31).toUInt32).toInt32) <<< ((8 : Int32) &&& 31)) ||| ((1 : Int32) <<< ((p1 &&& (7 : Int32)) &&& 31))).toNatClampNeg)
def Q2 (Z : State) (ad0 : Addr) (p1 : Int32) (xs : Nat → Int32) (h0 : Heap) (n0 : Nat) (v : Option Value) (h : Heap) (L : List Loc) : Prop := v = some (.int (f2 p1 xs)) ∧ Fr n0 L ∧ h = h0
set_option maxRecDepth 65536 in
set_option maxHeartbeats 40000000 in
theorem rm2 (l : Launch) (Z : State) (a0 : Array Value) (hw : ∀ d ∈ tables_1, d.before a0 Z = true) (ws : List Jvm.Cond) (ad0 : Addr) (p1 : Int32) (xs : Nat → Int32) (h0 : Heap) (n0 : Nat) (Z0 : n0 ≤ h0.size) (V_ad0 : own_AV Value.int Z h0 ad0 .int 1024 xs) (hix : ¬ (((((p1.toUInt32 >>> ((3 : Int32) &&& 31).toUInt32).toInt32)) <<< ((8 : Int32) &&& 31)) ||| ((1 : Int32) <<< ((p1 &&& (7 : Int32)) &&& 31))) < 0 ∧ ((((((p1.toUInt32 >>> ((3 : Int32) &&& 31).toUInt32).toInt32)) <<< ((8 : Int32) &&& 31)) ||| ((1 : Int32) <<< ((p1 &&& (7 : Int32)) &&& 31)))).toNatClampNeg < 1024) :
    MetFree l (⟨"com/example/resync/resync/codec/Crc32cArithmeticTimesTablePinLaw", "bitEntry", "([II)I"⟩ : MethodName) (head1 (Jvm.Cond.code (⟨"com/example/resync/resync/codec/Crc32cArithmeticTimesTablePinLaw", "bitEntry", "([II)I"⟩ : MethodName) method_3_code 2 (some .int) :: ws) ({ frames := 0, cells := 0, slots := 0, locals := 0 } : Room)) (fun a U => a = #[(.ref ad0), (.int p1)] ∧ Z.Warmed39 U.vm ∧ U.heap = h0) (fun _ _ _ _ _ => True) (fun _ U o U' => ∃ v L, o = .returned v ∧ Q2 Z ad0 p1 xs h0 n0 v U'.heap L ∧ FrameEnd U o U' L ({ frames := 0, cells := 0, slots := 0, locals := 0 } : Room).cells ({ frames := 0, cells := 0, slots := 0, locals := 0 } : Room).slots) := by
  refine MetFree.of_bodySF (plainFor_of_name own_pn1) hisR ?_
  intro p e s m args below meth c s₁ Bd hml0 hP hK
  obtain ⟨rfl, hZ, hh⟩ := hP
  have hx := Bd.exec
  have hby := Bd.bytes
  have hml : c.maxLocals = 2 := hml0
  have hown : s.vm.findClass "com/example/resync/resync/codec/Crc32cArithmeticTimesTablePinLaw" = some m.cls := findClass_of_methodNamed Bd.named
  have hnm := (name_of_methodNamed Bd.named Bd.method).1
  have hlk : meth.locks = false := BodyLoose.notSynchronized Bd
  have X0 : Stand p l e ({ frames := 0, cells := 0, slots := 0, locals := 0 } : Room) s m #[(.ref ad0), (.int p1)] below meth c s₁ [] 0 0 := Stand.of_body Bd
  have e0 : s₁.heap = h0 := by rw [← hh, Bd.state]; rfl
  have N0 := Fr.nil n0
  obtain ⟨G, hG⟩ : ∃ G, G = own_G s (Q2 Z ad0 p1 xs h0 n0) ({ frames := 0, cells := 0, slots := 0, locals := 0 } : Room).cells ({ frames := 0, cells := 0, slots := 0, locals := 0 } : Room).slots := ⟨_, rfl⟩
  show own_Fin p e below (own_G s (Q2 Z ad0 p1 xs h0 n0) ({ frames := 0, cells := 0, slots := 0, locals := 0 } : Room).cells ({ frames := 0, cells := 0, slots := 0, locals := 0 } : Room).slots) (s₁.setTop (entryFrame m #[(.ref ad0), (.int p1)] 2))
  rw [← hG]
  refine own_to (fun _ kz => castTop (ef2 m ad0 p1) kz) ?_
  have q0 : (f2 p1 xs) = (f2 p1 xs) := rfl
  show own_Fin p e below G (s₁.setTop (mkF m 0 #[.val (.ref ad0), .val (.int p1)] []))
  refine own_to (fun _ kz => XS.aloadN X0.here hx rfl (hb hby d2_0) rfl (rfl)  kz) ?_
  show own_Fin p e below G (s₁.setTop (mkF m 1 #[.val (.ref ad0), .val (.int p1)] [(.ref ad0)]))
  refine own_to (fun _ kz => XS.iloadN X0.here hx rfl (hb hby d2_1) rfl  kz) ?_
  show own_Fin p e below G (s₁.setTop (mkF m 2 #[.val (.ref ad0), .val (.int p1)] [(.int p1), (.ref ad0)]))
  refine own_to (fun _ kz => XS.iconst X0.here hx rfl (hb hby d2_2) kz) ?_
  show own_Fin p e below G (s₁.setTop (mkF m 3 #[.val (.ref ad0), .val (.int p1)] [(.int (3 : Int32)), (.int p1), (.ref ad0)]))
  refine own_to (fun _ kz => XS.iushr X0.here hx rfl (hb hby d2_3) rfl kz) ?_
  show own_Fin p e below G (s₁.setTop (mkF m 4 #[.val (.ref ad0), .val (.int p1)] [(.int ((p1.toUInt32 >>> ((3 : Int32) &&& 31).toUInt32).toInt32)), (.ref ad0)]))
  refine own_to (fun _ kz => XS.bipush X0.here hx rfl (hb hby d2_4) kz) ?_
  show own_Fin p e below G (s₁.setTop (mkF m 6 #[.val (.ref ad0), .val (.int p1)] [(.int (8 : Int32)), (.int ((p1.toUInt32 >>> ((3 : Int32) &&& 31).toUInt32).toInt32)), (.ref ad0)]))
  refine own_to (fun _ kz => XS.ishl X0.here hx rfl (hb hby d2_6) rfl kz) ?_
  show own_Fin p e below G (s₁.setTop (mkF m 7 #[.val (.ref ad0), .val (.int p1)] [(.int (((p1.toUInt32 >>> ((3 : Int32) &&& 31).toUInt32).toInt32) <<< ((8 : Int32) &&& 31))), (.ref ad0)]))
  refine own_to (fun _ kz => XS.iconst X0.here hx rfl (hb hby d2_7) kz) ?_
  show own_Fin p e below G (s₁.setTop (mkF m 8 #[.val (.ref ad0), .val (.int p1)] [(.int (1 : Int32)), (.int (((p1.toUInt32 >>> ((3 : Int32) &&& 31).toUInt32).toInt32) <<< ((8 : Int32) &&& 31))), (.ref ad0)]))
  refine own_to (fun _ kz => XS.iloadN X0.here hx rfl (hb hby d2_8) rfl  kz) ?_
  show own_Fin p e below G (s₁.setTop (mkF m 9 #[.val (.ref ad0), .val (.int p1)] [(.int p1), (.int (1 : Int32)), (.int (((p1.toUInt32 >>> ((3 : Int32) &&& 31).toUInt32).toInt32) <<< ((8 : Int32) &&& 31))), (.ref ad0)]))
  refine own_to (fun _ kz => XS.bipush X0.here hx rfl (hb hby d2_9) kz) ?_
  show own_Fin p e below G (s₁.setTop (mkF m 11 #[.val (.ref ad0), .val (.int p1)] [(.int (7 : Int32)), (.int p1), (.int (1 : Int32)), (.int (((p1.toUInt32 >>> ((3 : Int32) &&& 31).toUInt32).toInt32) <<< ((8 : Int32) &&& 31))), (.ref ad0)]))
  refine own_to (fun _ kz => XS.iand X0.here hx rfl (hb hby d2_11) rfl kz) ?_
  show own_Fin p e below G (s₁.setTop (mkF m 12 #[.val (.ref ad0), .val (.int p1)] [(.int (p1 &&& (7 : Int32))), (.int (1 : Int32)), (.int (((p1.toUInt32 >>> ((3 : Int32) &&& 31).toUInt32).toInt32) <<< ((8 : Int32) &&& 31))), (.ref ad0)]))
  refine own_to (fun _ kz => XS.ishl X0.here hx rfl (hb hby d2_12) rfl kz) ?_
  show own_Fin p e below G (s₁.setTop (mkF m 13 #[.val (.ref ad0), .val (.int p1)] [(.int ((1 : Int32) <<< ((p1 &&& (7 : Int32)) &&& 31))), (.int (((p1.toUInt32 >>> ((3 : Int32) &&& 31).toUInt32).toInt32) <<< ((8 : Int32) &&& 31))), (.ref ad0)]))
  refine own_to (fun _ kz => XS.ior X0.here hx rfl (hb hby d2_13) rfl kz) ?_
  show own_Fin p e below G (s₁.setTop (mkF m 14 #[.val (.ref ad0), .val (.int p1)] [(.int ((((p1.toUInt32 >>> ((3 : Int32) &&& 31).toUInt32).toInt32) <<< ((8 : Int32) &&& 31)) ||| ((1 : Int32) <<< ((p1 &&& (7 : Int32)) &&& 31)))), (.ref ad0)]))
  refine own_to (fun _ kz => own_iaload X0 hx hZ e0 V_ad0 (j := ((((p1.toUInt32 >>> ((3 : Int32) &&& 31).toUInt32).toInt32) <<< ((8 : Int32) &&& 31)) ||| ((1 : Int32) <<< ((p1 &&& (7 : Int32)) &&& 31)))) hix.1 rfl hix.2 (g := (mkF m 14 #[.val (.ref ad0), .val (.int p1)] [(.int ((((p1.toUInt32 >>> ((3 : Int32) &&& 31).toUInt32).toInt32) <<< ((8 : Int32) &&& 31)) ||| ((1 : Int32) <<< ((p1 &&& (7 : Int32)) &&& 31)))), (.ref ad0)])) rfl rfl (hb hby d2_14) kz) ?_
  show own_Fin p e below G (s₁.setTop (mkF m 15 #[.val (.ref ad0), .val (.int p1)] [(.int (xs ((((p1.toUInt32 >>> ((3 : Int32) &&& 31).toUInt32).toInt32) <<< ((8 : Int32) &&& 31)) ||| ((1 : Int32) <<< ((p1 &&& (7 : Int32)) &&& 31))).toNatClampNeg))]))
  exact own_retI X0 hx hlk hG Bd.returns (hb hby d2_15) (by decide) (by decide) ⟨(congrArg (fun z => some (Value.int z)) q0).symm, N0, e0⟩
theorem d3_0 : decode method_2_code 0 = .ok (.iload_n 0, 1) := by decide +kernel
theorem d3_1 : decode method_2_code 1 = .ok (.iconst 1, 1) := by decide +kernel
theorem d3_2 : decode method_2_code 2 = .ok (.iushr, 1) := by decide +kernel
theorem d3_3 : decode method_2_code 3 = .ok (.istore_n 1, 1) := by decide +kernel
theorem d3_4 : decode method_2_code 4 = .ok (.iload_n 0, 1) := by decide +kernel
theorem d3_5 : decode method_2_code 5 = .ok (.iconst 1, 1) := by decide +kernel
theorem d3_6 : decode method_2_code 6 = .ok (.iand, 1) := by decide +kernel
theorem d3_7 : decode method_2_code 7 = .ok (.ifCond .eq 8, 3) := by decide +kernel
theorem d3_10 : decode method_2_code 10 = .ok (.iload_n 1, 1) := by decide +kernel
theorem d3_11 : decode method_2_code 11 = .ok (.ldc 7, 2) := by decide +kernel
theorem d3_13 : decode method_2_code 13 = .ok (.ixor, 1) := by decide +kernel
theorem d3_14 : decode method_2_code 14 = .ok (.istore_n 1, 1) := by decide +kernel
theorem d3_15 : decode method_2_code 15 = .ok (.iload_n 1, 1) := by decide +kernel
theorem d3_16 : decode method_2_code 16 = .ok (.ireturn, 1) := by decide +kernel
theorem ef3 (m : MethodId) (p0 : Int32) : entryFrame m #[(.int p0)] 2 = mkF m 0 #[.val (.int p0), .unset] [] := by first | (simp [entryFrame, mkF, argsToLocals, Value.category]; done) | rfl
def f3_15 (p0 : Int32) (v1_15 : Int32) : Int32 := v1_15
def f3 (p0 : Int32) : Int32 := if (p0 &&& (1 : Int32)) = (0 : Int32) then (f3_15 p0 ((p0.toUInt32 >>> ((1 : Int32) &&& 31).toUInt32).toInt32)) else (f3_15 p0 (((p0.toUInt32 >>> ((1 : Int32) &&& 31).toUInt32).toInt32) ^^^ (-2097792136 : Int32)))
def Q3 (Z : State) (p0 : Int32) (h0 : Heap) (n0 : Nat) (v : Option Value) (h : Heap) (L : List Loc) : Prop := v = some (.int (f3 p0)) ∧ Fr n0 L ∧ h = h0
set_option maxRecDepth 65536 in
set_option maxHeartbeats 40000000 in
theorem rm3 (l : Launch) (Z : State) (a0 : Array Value) (hw : ∀ d ∈ tables_1, d.before a0 Z = true) (ws : List Jvm.Cond) (p0 : Int32) (h0 : Heap) (n0 : Nat) (Z0 : n0 ≤ h0.size) :
    MetFree l (⟨"com/example/resync/resync/codec/Crc32cArithmeticTimesTablePinLaw", "timesX", "(I)I"⟩ : MethodName) (head1 (Jvm.Cond.code (⟨"com/example/resync/resync/codec/Crc32cArithmeticTimesTablePinLaw", "timesX", "(I)I"⟩ : MethodName) method_2_code 2 (some .int) :: ws) ({ frames := 0, cells := 0, slots := 0, locals := 0 } : Room)) (fun a U => a = #[(.int p0)] ∧ Z.Warmed39 U.vm ∧ U.heap = h0) (fun _ _ _ _ _ => True) (fun _ U o U' => ∃ v L, o = .returned v ∧ Q3 Z p0 h0 n0 v U'.heap L ∧ FrameEnd U o U' L ({ frames := 0, cells := 0, slots := 0, locals := 0 } : Room).cells ({ frames := 0, cells := 0, slots := 0, locals := 0 } : Room).slots) := by
  refine MetFree.of_bodySF (plainFor_of_name own_pn1) hisR ?_
  intro p e s m args below meth c s₁ Bd hml0 hP hK
  obtain ⟨rfl, hZ, hh⟩ := hP
  have hx := Bd.exec
  have hby := Bd.bytes
  have hml : c.maxLocals = 2 := hml0
  have hown : s.vm.findClass "com/example/resync/resync/codec/Crc32cArithmeticTimesTablePinLaw" = some m.cls := findClass_of_methodNamed Bd.named
  have hnm := (name_of_methodNamed Bd.named Bd.method).1
  have hlk : meth.locks = false := BodyLoose.notSynchronized Bd
  have X0 : Stand p l e ({ frames := 0, cells := 0, slots := 0, locals := 0 } : Room) s m #[(.int p0)] below meth c s₁ [] 0 0 := Stand.of_body Bd
  have e0 : s₁.heap = h0 := by rw [← hh, Bd.state]; rfl
  have N0 := Fr.nil n0
  obtain ⟨G, hG⟩ : ∃ G, G = own_G s (Q3 Z p0 h0 n0) ({ frames := 0, cells := 0, slots := 0, locals := 0 } : Room).cells ({ frames := 0, cells := 0, slots := 0, locals := 0 } : Room).slots := ⟨_, rfl⟩
  show own_Fin p e below (own_G s (Q3 Z p0 h0 n0) ({ frames := 0, cells := 0, slots := 0, locals := 0 } : Room).cells ({ frames := 0, cells := 0, slots := 0, locals := 0 } : Room).slots) (s₁.setTop (entryFrame m #[(.int p0)] 2))
  rw [← hG]
  refine own_to (fun _ kz => castTop (ef3 m p0) kz) ?_
  have q0 : (f3 p0) = (f3 p0) := rfl
  show own_Fin p e below G (s₁.setTop (mkF m 0 #[.val (.int p0), .unset] []))
  refine own_to (fun _ kz => XS.iloadN X0.here hx rfl (hb hby d3_0) rfl  kz) ?_
  show own_Fin p e below G (s₁.setTop (mkF m 1 #[.val (.int p0), .unset] [(.int p0)]))
  refine own_to (fun _ kz => XS.iconst X0.here hx rfl (hb hby d3_1) kz) ?_
  show own_Fin p e below G (s₁.setTop (mkF m 2 #[.val (.int p0), .unset] [(.int (1 : Int32)), (.int p0)]))
  refine own_to (fun _ kz => XS.iushr X0.here hx rfl (hb hby d3_2) rfl kz) ?_
  show own_Fin p e below G (s₁.setTop (mkF m 3 #[.val (.int p0), .unset] [(.int ((p0.toUInt32 >>> ((1 : Int32) &&& 31).toUInt32).toInt32))]))
  refine own_to (fun _ kz => XS.istoreN X0.here hx rfl (hb hby d3_3) rfl (l' := #[.val (.int p0), .val (.int ((p0.toUInt32 >>> ((1 : Int32) &&& 31).toUInt32).toInt32))]) rfl kz) ?_
  show own_Fin p e below G (s₁.setTop (mkF m 4 #[.val (.int p0), .val (.int ((p0.toUInt32 >>> ((1 : Int32) &&& 31).toUInt32).toInt32))] []))
  refine own_to (fun _ kz => XS.iloadN X0.here hx rfl (hb hby d3_4) rfl  kz) ?_
  show own_Fin p e below G (s₁.setTop (mkF m 5 #[.val (.int p0), .val (.int ((p0.toUInt32 >>> ((1 : Int32) &&& 31).toUInt32).toInt32))] [(.int p0)]))
  refine own_to (fun _ kz => XS.iconst X0.here hx rfl (hb hby d3_5) kz) ?_
  show own_Fin p e below G (s₁.setTop (mkF m 6 #[.val (.int p0), .val (.int ((p0.toUInt32 >>> ((1 : Int32) &&& 31).toUInt32).toInt32))] [(.int (1 : Int32)), (.int p0)]))
  refine own_to (fun _ kz => XS.iand X0.here hx rfl (hb hby d3_6) rfl kz) ?_
  show own_Fin p e below G (s₁.setTop (mkF m 7 #[.val (.int p0), .val (.int ((p0.toUInt32 >>> ((1 : Int32) &&& 31).toUInt32).toInt32))] [(.int (p0 &&& (1 : Int32)))]))
  have K15 : ∀ (v1_15 : Int32) (q_j15 : (f3 p0) = (f3_15 p0 v1_15)), own_Fin p e below G (s₁.setTop (mkF m 15 #[.val (.int p0), .val (.int v1_15)] [])) := by
    intro v1_15 q_j15
    refine own_to (fun _ kz => XS.iloadN X0.here hx rfl (hb hby d3_15) rfl  kz) ?_
    show own_Fin p e below G (s₁.setTop (mkF m 16 #[.val (.int p0), .val (.int v1_15)] [(.int v1_15)]))
    exact own_retI X0 hx hlk hG Bd.returns (hb hby d3_16) (by decide) (by decide) ⟨(congrArg (fun z => some (Value.int z)) q_j15).symm, N0, e0⟩
  by_cases hc7 : (p0 &&& (1 : Int32)) = (0 : Int32)
  · refine own_to (fun _ kz => XS.ifYes X0.here hx rfl (pc0 := 7) (pc' := 15) rfl (hb hby d3_7) rfl ((if0 _ _).trans (teq hc7).1) (by decide) (by decide) kz) ?_
    have q7t := q0.trans (if_pos hc7)
    show own_Fin p e below G (s₁.setTop (mkF m 15 #[.val (.int p0), .val (.int ((p0.toUInt32 >>> ((1 : Int32) &&& 31).toUInt32).toInt32))] []))
    exact K15 ((p0.toUInt32 >>> ((1 : Int32) &&& 31).toUInt32).toInt32) q7t
  · refine own_to (fun _ kz => XS.ifNo X0.here hx rfl (hb hby d3_7) rfl ((if0 _ _).trans (feq hc7).1) kz) ?_
    have q7f := q0.trans (if_neg hc7)
    show own_Fin p e below G (s₁.setTop (mkF m 10 #[.val (.int p0), .val (.int ((p0.toUInt32 >>> ((1 : Int32) &&& 31).toUInt32).toInt32))] []))
    refine own_to (fun _ kz => XS.iloadN X0.here hx rfl (hb hby d3_10) rfl  kz) ?_
    show own_Fin p e below G (s₁.setTop (mkF m 11 #[.val (.int p0), .val (.int ((p0.toUInt32 >>> ((1 : Int32) &&& 31).toUInt32).toInt32))] [(.int ((p0.toUInt32 >>> ((1 : Int32) &&& 31).toUInt32).toInt32))]))
    refine own_to (fun _ kz => X0.ldcInt hx hown (mvT hZ (hw _ (List.mem_of_getElem? (i := 14) rfl))) (g := (mkF m 11 #[.val (.int p0), .val (.int ((p0.toUInt32 >>> ((1 : Int32) &&& 31).toUInt32).toInt32))] [(.int ((p0.toUInt32 >>> ((1 : Int32) &&& 31).toUInt32).toInt32))])) rfl (hb hby d3_11) _ kz) ?_
    show own_Fin p e below G (s₁.setTop (mkF m 13 #[.val (.int p0), .val (.int ((p0.toUInt32 >>> ((1 : Int32) &&& 31).toUInt32).toInt32))] [(.int (-2097792136 : Int32)), (.int ((p0.toUInt32 >>> ((1 : Int32) &&& 31).toUInt32).toInt32))]))
    refine own_to (fun _ kz => XS.ixor X0.here hx rfl (hb hby d3_13) rfl kz) ?_
    show own_Fin p e below G (s₁.setTop (mkF m 14 #[.val (.int p0), .val (.int ((p0.toUInt32 >>> ((1 : Int32) &&& 31).toUInt32).toInt32))] [(.int (((p0.toUInt32 >>> ((1 : Int32) &&& 31).toUInt32).toInt32) ^^^ (-2097792136 : Int32)))]))
    refine own_to (fun _ kz => XS.istoreN X0.here hx rfl (hb hby d3_14) rfl (l' := #[.val (.int p0), .val (.int (((p0.toUInt32 >>> ((1 : Int32) &&& 31).toUInt32).toInt32) ^^^ (-2097792136 : Int32)))]) rfl kz) ?_
    show own_Fin p e below G (s₁.setTop (mkF m 15 #[.val (.int p0), .val (.int (((p0.toUInt32 >>> ((1 : Int32) &&& 31).toUInt32).toInt32) ^^^ (-2097792136 : Int32)))] []))
    exact K15 (((p0.toUInt32 >>> ((1 : Int32) &&& 31).toUInt32).toInt32) ^^^ (-2097792136 : Int32)) q7f
theorem own_d7 : ∀ q : Fin 32, ¬ ((((((Int32.ofNat q.1).toUInt32 >>> ((3 : Int32) &&& 31).toUInt32).toInt32)) <<< ((8 : Int32) &&& 31)) ||| ((1 : Int32) <<< (((Int32.ofNat q.1) &&& (7 : Int32)) &&& 31))) < 0 ∧ (((((((Int32.ofNat q.1).toUInt32 >>> ((3 : Int32) &&& 31).toUInt32).toInt32)) <<< ((8 : Int32) &&& 31)) ||| ((1 : Int32) <<< (((Int32.ofNat q.1) &&& (7 : Int32)) &&& 31)))).toNatClampNeg = own_id q.1 := by decide +kernel
theorem own_q31 {i : Int32} (h : 0 ≤ i.toInt ∧ i.toInt ≤ 31) : own_n i < 32 ∧ i = Int32.ofNat (own_n i) := (own_nb (m := 31) h).resolve_right (by decide)
theorem own_bx {i : Int32} (h : 0 ≤ i.toInt ∧ i.toInt ≤ 31) : ¬ (((((i.toUInt32 >>> ((3 : Int32) &&& 31).toUInt32).toInt32)) <<< ((8 : Int32) &&& 31)) ||| ((1 : Int32) <<< ((i &&& (7 : Int32)) &&& 31))) < 0 ∧ ((((((i.toUInt32 >>> ((3 : Int32) &&& 31).toUInt32).toInt32)) <<< ((8 : Int32) &&& 31)) ||| ((1 : Int32) <<< ((i &&& (7 : Int32)) &&& 31)))).toNatClampNeg = own_id (own_n i) ∧ own_id (own_n i) < 1024 := by
  have a := own_q31 h; have d := own_d7 ⟨own_n i, a.1⟩; have g := own_d1 ⟨own_n i, a.1⟩
  simp only [← a.2] at d
  exact ⟨d.1, d.2, g.2⟩
theorem own_bx' {i : Int32} (h : 0 ≤ i.toInt ∧ i.toInt ≤ 31) : ¬ (((((i.toUInt32 >>> ((3 : Int32) &&& 31).toUInt32).toInt32)) <<< ((8 : Int32) &&& 31)) ||| ((1 : Int32) <<< ((i &&& (7 : Int32)) &&& 31))) < 0 ∧ ((((((i.toUInt32 >>> ((3 : Int32) &&& 31).toUInt32).toInt32)) <<< ((8 : Int32) &&& 31)) ||| ((1 : Int32) <<< ((i &&& (7 : Int32)) &&& 31)))).toNatClampNeg < 1024 := ⟨(own_bx h).1, by rw [(own_bx h).2.1]; exact (own_bx h).2.2⟩
theorem own_be1 {p i : Int32} {f : Nat → Int32} (hf : ∀ n, n < 1024 → f n = own_F p n) (h : 0 ≤ i.toInt ∧ i.toInt ≤ 31) : f2 i f = own_t p (31 - own_n i) := by
  have a := own_q31 h; have b := own_bx h; have d := own_d1 ⟨own_n i, a.1⟩
  simp only at d
  unfold f2
  show f ((((((i.toUInt32 >>> ((3 : Int32) &&& 31).toUInt32).toInt32)) <<< ((8 : Int32) &&& 31)) ||| ((1 : Int32) <<< ((i &&& (7 : Int32)) &&& 31)))).toNatClampNeg = _
  rw [b.2.1, hf _ b.2.2, own_Fe (Or.inl (by rw [d.1]; exact a.1)), own_g, d.1, if_pos ⟨a.1, by omega⟩]
theorem own_tx (t : Int32) : f3 t = own_st t := by
  simp only [f3_15, f3, own_st]
  rcases and_one t with h | h
  · rw [h]; simp
  · rw [h, if_neg (by decide), show ((-2097792136 : Int32) &&& (-(1 : Int32))) = (-2097792136 : Int32) from by decide]
theorem own_m3 (a : Int32) : 0 ≤ (a &&& (3 : Int32)).toInt ∧ (a &&& (3 : Int32)).toInt ≤ 3 := c_and a 3 (by decide)
theorem own_m255 (a : Int32) : 0 ≤ (a &&& (255 : Int32)).toInt ∧ (a &&& (255 : Int32)).toInt ≤ 255 := c_and a 255 (by decide)
theorem own_bvn {x : Int32} (h : 0 ≤ x.toInt) : own_n x = x.toBitVec.toNat := by
  have e : x.toInt = x.toBitVec.toInt := rfl
  have b := BitVec.toInt_eq_toNat_cond x.toBitVec
  have l := x.toBitVec.isLt
  unfold own_n
  rw [← e] at b; split at b <;> omega
theorem own_xr {a c : Int32} (ha : 0 ≤ a.toInt ∧ a.toInt ≤ 255) (hc : 0 ≤ c.toInt ∧ c.toInt ≤ 255) : (0 ≤ (a ^^^ c).toInt ∧ (a ^^^ c).toInt ≤ 255) ∧ own_n (a ^^^ c) = own_n a ^^^ own_n c := by
  have n0 := (c_xorS a c).2.2.2 ha.1 hc.1
  have x := own_bvn n0
  rw [Int32.toBitVec_xor, BitVec.toNat_xor, ← own_bvn ha.1, ← own_bvn hc.1] at x
  have l : (own_n a ^^^ own_n c) < 2 ^ 8 := Nat.xor_lt_two_pow (own_k256 ha).1 (own_k256 hc).1
  exact ⟨⟨n0, by rw [← x] at l; unfold own_n at l; omega⟩, x⟩
theorem own_lin {p k a c : Int32} {f : Nat → Int32} (hf : ∀ n, n < 1024 → f n = own_F p n) (hk : 0 ≤ k.toInt ∧ k.toInt ≤ 3) (ha : 0 ≤ a.toInt ∧ a.toInt ≤ 255) (hc : 0 ≤ c.toInt ∧ c.toInt ≤ 255) : f (((k <<< ((8 : Int32) &&& 31)) ||| (a ^^^ c))).toNatClampNeg = (f (((k <<< ((8 : Int32) &&& 31)) ||| a)).toNatClampNeg ^^^ f (((k <<< ((8 : Int32) &&& 31)) ||| c)).toNatClampNeg) := by
  have x := own_xr ha hc
  have i1 := own_ixk hk x.1; have i2 := own_ixk hk ha; have i3 := own_ixk hk hc
  rw [i1.2.1, i2.2.1, i3.2.1, hf _ i1.2.2, hf _ i2.2.2, hf _ i3.2.2, x.2]
  exact own_FF (own_k256 ha).1 (own_k256 hc).1 (x.2 ▸ (own_k256 x.1).1)
theorem own_r31 (a : Int32) : 1 ≤ ((1 : Int32) + ((a &&& (2147483647 : Int32)) % (31 : Int32))).toInt ∧ ((1 : Int32) + ((a &&& (2147483647 : Int32)) % (31 : Int32))).toInt ≤ 31 := by
  have h := c_and a 2147483647 (by decide)
  have g := (c_irem (a &&& (2147483647 : Int32)) 31 31 (by decide)).1 h.1
  have e := c_iadd 1 ((a &&& (2147483647 : Int32)) % (31 : Int32)); have r := rng32 (1 + ((a &&& (2147483647 : Int32)) % (31 : Int32))); have o : (1 : Int32).toInt = 1 := by decide
  omega
theorem own_im {i : Int32} (h : 1 ≤ i.toInt ∧ i.toInt ≤ 31) : (0 ≤ (i - (1 : Int32)).toInt ∧ (i - (1 : Int32)).toInt ≤ 31) ∧ own_n (i - (1 : Int32)) + 1 = own_n i := by
  have e := c_isub i 1; have r := rng32 (i - 1); have o : (1 : Int32).toInt = 1 := by decide
  unfold own_n; omega
theorem own_ii {i : Int32} (h : 1 ≤ i.toInt ∧ i.toInt ≤ 31) : 0 ≤ i.toInt ∧ i.toInt ≤ 31 := ⟨by omega, h.2⟩
theorem own_stp {p i : Int32} {f : Nat → Int32} (hf : ∀ n, n < 1024 → f n = own_F p n) (h : 1 ≤ i.toInt ∧ i.toInt ≤ 31) : f2 (i - (1 : Int32)) f = f3 (f2 i f) := by
  have m := own_im h; have a := own_q31 (own_ii h)
  rw [own_be1 hf m.1, own_tx, own_be1 hf (own_ii h), show 31 - own_n (i - 1) = (31 - own_n i) + 1 from by omega]; rfl
theorem own_one {p : Int32} {f : Nat → Int32} (hf : ∀ n, n < 1024 → f n = own_F p n) : f2 (31 : Int32) f = p := by
  rw [own_be1 hf (by decide), show own_n (31 : Int32) = 31 from by decide]; rfl
theorem own_pd0 : parseMethodDescriptor "(I)[I" = some ⟨[.int], some (.array .int)⟩ := by decide +kernel
theorem own_pd1 : parseMethodDescriptor "([II)I" = some ⟨[(.array .int), .int], some .int⟩ := by decide +kernel
theorem own_pd2 : parseMethodDescriptor "(I)I" = some ⟨[.int], some .int⟩ := by decide +kernel
theorem ef0 (m : MethodId) (p0 : Int32) (p1 : Int32) (p2 : Int32) (p3 : Int32) (p4 : Int32) : entryFrame m #[(.int p0), (.int p1), (.int p2), (.int p3), (.int p4)] maxLocals = mkF m 0 #[.val (.int p0), .val (.int p1), .val (.int p2), .val (.int p3), .val (.int p4), .unset, .unset, .unset, .unset, .unset, .unset, .unset, .unset, .unset] [] := by first | (simp [entryFrame, mkF, argsToLocals, Value.category, maxLocals]; done) | rfl
def Q0 (Z : State) (p0 : Int32) (p1 : Int32) (p2 : Int32) (p3 : Int32) (p4 : Int32) (h0 : Heap) (n0 : Nat) (v : Option Value) (h : Heap) (L : List Loc) : Prop := v = some (.int 1) ∧ Fr n0 L ∧ True
set_option maxRecDepth 65536 in
set_option maxHeartbeats 40000000 in
theorem rm0 (l : Launch) (Z : State) (a0 : Array Value) (hw : ∀ d ∈ tables_1, d.before a0 Z = true) (ws : List Jvm.Cond) (p0 : Int32) (p1 : Int32) (p2 : Int32) (p3 : Int32) (p4 : Int32) (h0 : Heap) (n0 : Nat) (Z0 : n0 ≤ h0.size) :
    MetFree l x (head1 (Jvm.Cond.code x code maxLocals ret :: ws) room_1) (fun a U => a = #[(.int p0), (.int p1), (.int p2), (.int p3), (.int p4)] ∧ Z.Warmed39 U.vm ∧ U.heap = h0) (fun _ _ _ _ _ => True) (fun _ U o U' => ∃ v L, o = .returned v ∧ Q0 Z p0 p1 p2 p3 p4 h0 n0 v U'.heap L ∧ FrameEnd U o U' L room_1.cells room_1.slots) := by
  refine MetFree.of_bodySF (plainFor_of_name own_pn1) hisR ?_
  intro p e s m args below meth c s₁ Bd hml0 hP hK
  obtain ⟨rfl, hZ, hh⟩ := hP
  have hx := Bd.exec
  have hby := Bd.bytes
  have hml : c.maxLocals = 14 := hml0
  have hown : s.vm.findClass "com/example/resync/resync/codec/Crc32cArithmeticTimesTablePinLaw" = some m.cls := findClass_of_methodNamed Bd.named
  have hnm := (name_of_methodNamed Bd.named Bd.method).1
  have hlk : meth.locks = false := BodyLoose.notSynchronized Bd
  have X0 : Stand p l e room_1 s m #[(.int p0), (.int p1), (.int p2), (.int p3), (.int p4)] below meth c s₁ [] 0 0 := Stand.of_body Bd
  have e0 : s₁.heap = h0 := by rw [← hh, Bd.state]; rfl
  have N0 := Fr.nil n0
  obtain ⟨G, hG⟩ : ∃ G, G = own_G s (Q0 Z p0 p1 p2 p3 p4 h0 n0) room_1.cells room_1.slots := ⟨_, rfl⟩
  show own_Fin p e below (own_G s (Q0 Z p0 p1 p2 p3 p4 h0 n0) room_1.cells room_1.slots) (s₁.setTop (entryFrame m #[(.int p0), (.int p1), (.int p2), (.int p3), (.int p4)] maxLocals))
  rw [← hG]
  refine own_to (fun _ kz => castTop (ef0 m p0 p1 p2 p3 p4) kz) ?_
  show own_Fin p e below G (s₁.setTop (mkF m 0 #[.val (.int p0), .val (.int p1), .val (.int p2), .val (.int p3), .val (.int p4), .unset, .unset, .unset, .unset, .unset, .unset, .unset, .unset, .unset] []))
  refine own_to (fun _ kz => XS.iloadN X0.here hx rfl (hb hby at_0) rfl  kz) ?_
  show own_Fin p e below G (s₁.setTop (mkF m 1 #[.val (.int p0), .val (.int p1), .val (.int p2), .val (.int p3), .val (.int p4), .unset, .unset, .unset, .unset, .unset, .unset, .unset, .unset, .unset] [(.int p0)]))
  obtain ⟨_, _, ⟨T1, L1, k1, n1⟩, -, X1, ⟨Lc1, hQ1, l1, y1, z1⟩, st1⟩ := Jvm.LawKit.callS X0 hx (y := (⟨"com/example/resync/resync/codec/Crc32cArithmetic", "timesTable", "(I)[I"⟩ : MethodName)) hown (mvT hZ (hw _ (List.mem_of_getElem? (i := 0) rfl))) (mvT hZ (hw _ (List.mem_of_getElem? (i := 1) rfl))) (mvT hZ (hw _ (List.mem_of_getElem? (i := 2) rfl))) (mvT hZ (hw _ (List.mem_of_getElem? (i := 3) rfl))) (by decide) (backOf (W := 0) (rm1 l Z a0 hw [] p0 h0 n0 Z0 ) hZ (hw _ (List.mem_of_getElem? (i := 3) rfl)) (hw _ (List.mem_of_getElem? (i := 2) rfl)) (by decide) (by decide)) (g := (mkF m 1 #[.val (.int p0), .val (.int p1), .val (.int p2), .val (.int p3), .val (.int p4), .unset, .unset, .unset, .unset, .unset, .unset, .unset, .unset, .unset] [(.int p0)])) rfl (by rw [hml]; rfl) (argsL := [(.int p0)]) (rest := []) (lenOf own_pd0 rfl) rfl (by show 2 * 0 + _ ≤ _; exact Nat.le_of_eq rfl) (hb hby at_1) (fun _ _ => ⟨rfl, e0, (by decide : 0 + 1 ≤ _), (by decide : 0 + 1024 ≤ _)⟩)
  dsimp only [Pt.U, Pt.locs, Pt.cells, Pt.slots] at X1 l1 y1 z1 st1 hQ1
  subst l1 y1 z1
  obtain ⟨b1, ft, rfl, N1q, szq1, Kp1, V1, hft⟩ := hQ1
  have g_b1 : n0 ≤ b1 := Nat.le_trans Z0 szq1
  obtain ⟨lo1, X1, N1⟩ : ∃ lo, Stand p l e _ s m _ below meth c T1 lo _ _ ∧ Fr n0 lo := ⟨_, X1, Fr.app N0 N1q⟩
  refine own_to st1 ?_
  show own_Fin p e below G (T1.setTop (mkF m 4 #[.val (.int p0), .val (.int p1), .val (.int p2), .val (.int p3), .val (.int p4), .unset, .unset, .unset, .unset, .unset, .unset, .unset, .unset, .unset] [(.ref b1)]))
  refine own_to (fun _ kz => XS.astore X1.here hx rfl (hb hby at_4) rfl (rfl) (l' := #[.val (.int p0), .val (.int p1), .val (.int p2), .val (.int p3), .val (.int p4), .val (.ref b1), .unset, .unset, .unset, .unset, .unset, .unset, .unset, .unset]) rfl kz) ?_
  show own_Fin p e below G (T1.setTop (mkF m 6 #[.val (.int p0), .val (.int p1), .val (.int p2), .val (.int p3), .val (.int p4), .val (.ref b1), .unset, .unset, .unset, .unset, .unset, .unset, .unset, .unset] []))
  refine own_to (fun _ kz => XS.aload X1.here hx rfl (hb hby at_6) rfl (rfl)  kz) ?_
  show own_Fin p e below G (T1.setTop (mkF m 8 #[.val (.int p0), .val (.int p1), .val (.int p2), .val (.int p3), .val (.int p4), .val (.ref b1), .unset, .unset, .unset, .unset, .unset, .unset, .unset, .unset] [(.ref b1)]))
  refine own_to (fun _ kz => own_alen X1 hx hZ rfl V1 (z := (1024 : Int32)) rfl (g := (mkF m 8 #[.val (.int p0), .val (.int p1), .val (.int p2), .val (.int p3), .val (.int p4), .val (.ref b1), .unset, .unset, .unset, .unset, .unset, .unset, .unset, .unset] [(.ref b1)])) rfl rfl (hb hby at_8) kz) ?_
  show own_Fin p e below G (T1.setTop (mkF m 9 #[.val (.int p0), .val (.int p1), .val (.int p2), .val (.int p3), .val (.int p4), .val (.ref b1), .unset, .unset, .unset, .unset, .unset, .unset, .unset, .unset] [(.int (1024 : Int32))]))
  refine own_to (fun _ kz => XS.sipush X1.here hx rfl (hb hby at_9) kz) ?_
  show own_Fin p e below G (T1.setTop (mkF m 12 #[.val (.int p0), .val (.int p1), .val (.int p2), .val (.int p3), .val (.int p4), .val (.ref b1), .unset, .unset, .unset, .unset, .unset, .unset, .unset, .unset] [(.int (1024 : Int32)), (.int (1024 : Int32))]))
  have hc12 : (1024 : Int32) = (1024 : Int32) := by decide
  refine own_to (fun _ kz => XS.icmpYes X1.here hx rfl (pc0 := 12) (pc' := 17) rfl (hb hby at_12) rfl (teq hc12).1 (by decide) (by decide) kz) ?_
  show own_Fin p e below G (T1.setTop (mkF m 17 #[.val (.int p0), .val (.int p1), .val (.int p2), .val (.int p3), .val (.int p4), .val (.ref b1), .unset, .unset, .unset, .unset, .unset, .unset, .unset, .unset] []))
  refine own_to (fun _ kz => XS.iloadN X1.here hx rfl (hb hby at_17) rfl  kz) ?_
  show own_Fin p e below G (T1.setTop (mkF m 18 #[.val (.int p0), .val (.int p1), .val (.int p2), .val (.int p3), .val (.int p4), .val (.ref b1), .unset, .unset, .unset, .unset, .unset, .unset, .unset, .unset] [(.int p1)]))
  refine own_to (fun _ kz => XS.iconst X1.here hx rfl (hb hby at_18) kz) ?_
  show own_Fin p e below G (T1.setTop (mkF m 19 #[.val (.int p0), .val (.int p1), .val (.int p2), .val (.int p3), .val (.int p4), .val (.ref b1), .unset, .unset, .unset, .unset, .unset, .unset, .unset, .unset] [(.int (3 : Int32)), (.int p1)]))
  refine own_to (fun _ kz => XS.iand X1.here hx rfl (hb hby at_19) rfl kz) ?_
  show own_Fin p e below G (T1.setTop (mkF m 20 #[.val (.int p0), .val (.int p1), .val (.int p2), .val (.int p3), .val (.int p4), .val (.ref b1), .unset, .unset, .unset, .unset, .unset, .unset, .unset, .unset] [(.int (p1 &&& (3 : Int32)))]))
  refine own_to (fun _ kz => XS.istore X1.here hx rfl (hb hby at_20) rfl (l' := #[.val (.int p0), .val (.int p1), .val (.int p2), .val (.int p3), .val (.int p4), .val (.ref b1), .val (.int (p1 &&& (3 : Int32))), .unset, .unset, .unset, .unset, .unset, .unset, .unset]) rfl kz) ?_
  show own_Fin p e below G (T1.setTop (mkF m 22 #[.val (.int p0), .val (.int p1), .val (.int p2), .val (.int p3), .val (.int p4), .val (.ref b1), .val (.int (p1 &&& (3 : Int32))), .unset, .unset, .unset, .unset, .unset, .unset, .unset] []))
  refine own_to (fun _ kz => XS.iloadN X1.here hx rfl (hb hby at_22) rfl  kz) ?_
  show own_Fin p e below G (T1.setTop (mkF m 23 #[.val (.int p0), .val (.int p1), .val (.int p2), .val (.int p3), .val (.int p4), .val (.ref b1), .val (.int (p1 &&& (3 : Int32))), .unset, .unset, .unset, .unset, .unset, .unset, .unset] [(.int p2)]))
  refine own_to (fun _ kz => XS.sipush X1.here hx rfl (hb hby at_23) kz) ?_
  show own_Fin p e below G (T1.setTop (mkF m 26 #[.val (.int p0), .val (.int p1), .val (.int p2), .val (.int p3), .val (.int p4), .val (.ref b1), .val (.int (p1 &&& (3 : Int32))), .unset, .unset, .unset, .unset, .unset, .unset, .unset] [(.int (255 : Int32)), (.int p2)]))
  refine own_to (fun _ kz => XS.iand X1.here hx rfl (hb hby at_26) rfl kz) ?_
  show own_Fin p e below G (T1.setTop (mkF m 27 #[.val (.int p0), .val (.int p1), .val (.int p2), .val (.int p3), .val (.int p4), .val (.ref b1), .val (.int (p1 &&& (3 : Int32))), .unset, .unset, .unset, .unset, .unset, .unset, .unset] [(.int (p2 &&& (255 : Int32)))]))
  refine own_to (fun _ kz => XS.istore X1.here hx rfl (hb hby at_27) rfl (l' := #[.val (.int p0), .val (.int p1), .val (.int p2), .val (.int p3), .val (.int p4), .val (.ref b1), .val (.int (p1 &&& (3 : Int32))), .val (.int (p2 &&& (255 : Int32))), .unset, .unset, .unset, .unset, .unset, .unset]) rfl kz) ?_
  show own_Fin p e below G (T1.setTop (mkF m 29 #[.val (.int p0), .val (.int p1), .val (.int p2), .val (.int p3), .val (.int p4), .val (.ref b1), .val (.int (p1 &&& (3 : Int32))), .val (.int (p2 &&& (255 : Int32))), .unset, .unset, .unset, .unset, .unset, .unset] []))
  refine own_to (fun _ kz => XS.iloadN X1.here hx rfl (hb hby at_29) rfl  kz) ?_
  show own_Fin p e below G (T1.setTop (mkF m 30 #[.val (.int p0), .val (.int p1), .val (.int p2), .val (.int p3), .val (.int p4), .val (.ref b1), .val (.int (p1 &&& (3 : Int32))), .val (.int (p2 &&& (255 : Int32))), .unset, .unset, .unset, .unset, .unset, .unset] [(.int p3)]))
  refine own_to (fun _ kz => XS.sipush X1.here hx rfl (hb hby at_30) kz) ?_
  show own_Fin p e below G (T1.setTop (mkF m 33 #[.val (.int p0), .val (.int p1), .val (.int p2), .val (.int p3), .val (.int p4), .val (.ref b1), .val (.int (p1 &&& (3 : Int32))), .val (.int (p2 &&& (255 : Int32))), .unset, .unset, .unset, .unset, .unset, .unset] [(.int (255 : Int32)), (.int p3)]))
  refine own_to (fun _ kz => XS.iand X1.here hx rfl (hb hby at_33) rfl kz) ?_
  show own_Fin p e below G (T1.setTop (mkF m 34 #[.val (.int p0), .val (.int p1), .val (.int p2), .val (.int p3), .val (.int p4), .val (.ref b1), .val (.int (p1 &&& (3 : Int32))), .val (.int (p2 &&& (255 : Int32))), .unset, .unset, .unset, .unset, .unset, .unset] [(.int (p3 &&& (255 : Int32)))]))
  refine own_to (fun _ kz => XS.istore X1.here hx rfl (hb hby at_34) rfl (l' := #[.val (.int p0), .val (.int p1), .val (.int p2), .val (.int p3), .val (.int p4), .val (.ref b1), .val (.int (p1 &&& (3 : Int32))), .val (.int (p2 &&& (255 : Int32))), .val (.int (p3 &&& (255 : Int32))), .unset, .unset, .unset, .unset, .unset]) rfl kz) ?_
  show own_Fin p e below G (T1.setTop (mkF m 36 #[.val (.int p0), .val (.int p1), .val (.int p2), .val (.int p3), .val (.int p4), .val (.ref b1), .val (.int (p1 &&& (3 : Int32))), .val (.int (p2 &&& (255 : Int32))), .val (.int (p3 &&& (255 : Int32))), .unset, .unset, .unset, .unset, .unset] []))
  have K36 : ∀ (v6_36 : Int32) (v7_36 : Int32) (v8_36 : Int32) (jh0_36 : 0 ≤ v6_36.toInt ∧ v6_36.toInt ≤ 3) (jh1_36 : 0 ≤ v7_36.toInt ∧ v7_36.toInt ≤ 255) (jh2_36 : 0 ≤ v8_36.toInt ∧ v8_36.toInt ≤ 255), own_Fin p e below G (T1.setTop (mkF m 36 #[.val (.int p0), .val (.int p1), .val (.int p2), .val (.int p3), .val (.int p4), .val (.ref b1), .val (.int v6_36), .val (.int v7_36), .val (.int v8_36), .unset, .unset, .unset, .unset, .unset] [])) := by
    intro v6_36 v7_36 v8_36 jh0_36 jh1_36 jh2_36
    refine own_to (fun _ kz => XS.iload X1.here hx rfl (hb hby at_36) rfl  kz) ?_
    show own_Fin p e below G (T1.setTop (mkF m 38 #[.val (.int p0), .val (.int p1), .val (.int p2), .val (.int p3), .val (.int p4), .val (.ref b1), .val (.int v6_36), .val (.int v7_36), .val (.int v8_36), .unset, .unset, .unset, .unset, .unset] [(.int v6_36)]))
    refine own_to (fun _ kz => XS.bipush X1.here hx rfl (hb hby at_38) kz) ?_
    show own_Fin p e below G (T1.setTop (mkF m 40 #[.val (.int p0), .val (.int p1), .val (.int p2), .val (.int p3), .val (.int p4), .val (.ref b1), .val (.int v6_36), .val (.int v7_36), .val (.int v8_36), .unset, .unset, .unset, .unset, .unset] [(.int (8 : Int32)), (.int v6_36)]))
    refine own_to (fun _ kz => XS.ishl X1.here hx rfl (hb hby at_40) rfl kz) ?_
    show own_Fin p e below G (T1.setTop (mkF m 41 #[.val (.int p0), .val (.int p1), .val (.int p2), .val (.int p3), .val (.int p4), .val (.ref b1), .val (.int v6_36), .val (.int v7_36), .val (.int v8_36), .unset, .unset, .unset, .unset, .unset] [(.int (v6_36 <<< ((8 : Int32) &&& 31)))]))
    refine own_to (fun _ kz => XS.istore X1.here hx rfl (hb hby at_41) rfl (l' := #[.val (.int p0), .val (.int p1), .val (.int p2), .val (.int p3), .val (.int p4), .val (.ref b1), .val (.int v6_36), .val (.int v7_36), .val (.int v8_36), .val (.int (v6_36 <<< ((8 : Int32) &&& 31))), .unset, .unset, .unset, .unset]) rfl kz) ?_
    show own_Fin p e below G (T1.setTop (mkF m 43 #[.val (.int p0), .val (.int p1), .val (.int p2), .val (.int p3), .val (.int p4), .val (.ref b1), .val (.int v6_36), .val (.int v7_36), .val (.int v8_36), .val (.int (v6_36 <<< ((8 : Int32) &&& 31))), .unset, .unset, .unset, .unset] []))
    refine own_to (fun _ kz => XS.aload X1.here hx rfl (hb hby at_43) rfl (rfl)  kz) ?_
    show own_Fin p e below G (T1.setTop (mkF m 45 #[.val (.int p0), .val (.int p1), .val (.int p2), .val (.int p3), .val (.int p4), .val (.ref b1), .val (.int v6_36), .val (.int v7_36), .val (.int v8_36), .val (.int (v6_36 <<< ((8 : Int32) &&& 31))), .unset, .unset, .unset, .unset] [(.ref b1)]))
    refine own_to (fun _ kz => XS.iload X1.here hx rfl (hb hby at_45) rfl  kz) ?_
    show own_Fin p e below G (T1.setTop (mkF m 47 #[.val (.int p0), .val (.int p1), .val (.int p2), .val (.int p3), .val (.int p4), .val (.ref b1), .val (.int v6_36), .val (.int v7_36), .val (.int v8_36), .val (.int (v6_36 <<< ((8 : Int32) &&& 31))), .unset, .unset, .unset, .unset] [(.int (v6_36 <<< ((8 : Int32) &&& 31))), (.ref b1)]))
    refine own_to (fun _ kz => XS.iload X1.here hx rfl (hb hby at_47) rfl  kz) ?_
    show own_Fin p e below G (T1.setTop (mkF m 49 #[.val (.int p0), .val (.int p1), .val (.int p2), .val (.int p3), .val (.int p4), .val (.ref b1), .val (.int v6_36), .val (.int v7_36), .val (.int v8_36), .val (.int (v6_36 <<< ((8 : Int32) &&& 31))), .unset, .unset, .unset, .unset] [(.int v7_36), (.int (v6_36 <<< ((8 : Int32) &&& 31))), (.ref b1)]))
    refine own_to (fun _ kz => XS.iload X1.here hx rfl (hb hby at_49) rfl  kz) ?_
    show own_Fin p e below G (T1.setTop (mkF m 51 #[.val (.int p0), .val (.int p1), .val (.int p2), .val (.int p3), .val (.int p4), .val (.ref b1), .val (.int v6_36), .val (.int v7_36), .val (.int v8_36), .val (.int (v6_36 <<< ((8 : Int32) &&& 31))), .unset, .unset, .unset, .unset] [(.int v8_36), (.int v7_36), (.int (v6_36 <<< ((8 : Int32) &&& 31))), (.ref b1)]))
    refine own_to (fun _ kz => XS.ixor X1.here hx rfl (hb hby at_51) rfl kz) ?_
    show own_Fin p e below G (T1.setTop (mkF m 52 #[.val (.int p0), .val (.int p1), .val (.int p2), .val (.int p3), .val (.int p4), .val (.ref b1), .val (.int v6_36), .val (.int v7_36), .val (.int v8_36), .val (.int (v6_36 <<< ((8 : Int32) &&& 31))), .unset, .unset, .unset, .unset] [(.int (v7_36 ^^^ v8_36)), (.int (v6_36 <<< ((8 : Int32) &&& 31))), (.ref b1)]))
    refine own_to (fun _ kz => XS.ior X1.here hx rfl (hb hby at_52) rfl kz) ?_
    show own_Fin p e below G (T1.setTop (mkF m 53 #[.val (.int p0), .val (.int p1), .val (.int p2), .val (.int p3), .val (.int p4), .val (.ref b1), .val (.int v6_36), .val (.int v7_36), .val (.int v8_36), .val (.int (v6_36 <<< ((8 : Int32) &&& 31))), .unset, .unset, .unset, .unset] [(.int ((v6_36 <<< ((8 : Int32) &&& 31)) ||| (v7_36 ^^^ v8_36))), (.ref b1)]))
    refine own_to (fun _ kz => own_iaload X1 hx hZ rfl V1 (j := ((v6_36 <<< ((8 : Int32) &&& 31)) ||| (v7_36 ^^^ v8_36))) (own_ixk jh0_36 (own_xr jh1_36 jh2_36).1).1 rfl (by rw [(own_ixk jh0_36 (own_xr jh1_36 jh2_36).1).2.1]; exact (own_ixk jh0_36 (own_xr jh1_36 jh2_36).1).2.2) (g := (mkF m 53 #[.val (.int p0), .val (.int p1), .val (.int p2), .val (.int p3), .val (.int p4), .val (.ref b1), .val (.int v6_36), .val (.int v7_36), .val (.int v8_36), .val (.int (v6_36 <<< ((8 : Int32) &&& 31))), .unset, .unset, .unset, .unset] [(.int ((v6_36 <<< ((8 : Int32) &&& 31)) ||| (v7_36 ^^^ v8_36))), (.ref b1)])) rfl rfl (hb hby at_53) kz) ?_
    show own_Fin p e below G (T1.setTop (mkF m 54 #[.val (.int p0), .val (.int p1), .val (.int p2), .val (.int p3), .val (.int p4), .val (.ref b1), .val (.int v6_36), .val (.int v7_36), .val (.int v8_36), .val (.int (v6_36 <<< ((8 : Int32) &&& 31))), .unset, .unset, .unset, .unset] [(.int (ft ((v6_36 <<< ((8 : Int32) &&& 31)) ||| (v7_36 ^^^ v8_36)).toNatClampNeg))]))
    refine own_to (fun _ kz => XS.aload X1.here hx rfl (hb hby at_54) rfl (rfl)  kz) ?_
    show own_Fin p e below G (T1.setTop (mkF m 56 #[.val (.int p0), .val (.int p1), .val (.int p2), .val (.int p3), .val (.int p4), .val (.ref b1), .val (.int v6_36), .val (.int v7_36), .val (.int v8_36), .val (.int (v6_36 <<< ((8 : Int32) &&& 31))), .unset, .unset, .unset, .unset] [(.ref b1), (.int (ft ((v6_36 <<< ((8 : Int32) &&& 31)) ||| (v7_36 ^^^ v8_36)).toNatClampNeg))]))
    refine own_to (fun _ kz => XS.iload X1.here hx rfl (hb hby at_56) rfl  kz) ?_
    show own_Fin p e below G (T1.setTop (mkF m 58 #[.val (.int p0), .val (.int p1), .val (.int p2), .val (.int p3), .val (.int p4), .val (.ref b1), .val (.int v6_36), .val (.int v7_36), .val (.int v8_36), .val (.int (v6_36 <<< ((8 : Int32) &&& 31))), .unset, .unset, .unset, .unset] [(.int (v6_36 <<< ((8 : Int32) &&& 31))), (.ref b1), (.int (ft ((v6_36 <<< ((8 : Int32) &&& 31)) ||| (v7_36 ^^^ v8_36)).toNatClampNeg))]))
    refine own_to (fun _ kz => XS.iload X1.here hx rfl (hb hby at_58) rfl  kz) ?_
    show own_Fin p e below G (T1.setTop (mkF m 60 #[.val (.int p0), .val (.int p1), .val (.int p2), .val (.int p3), .val (.int p4), .val (.ref b1), .val (.int v6_36), .val (.int v7_36), .val (.int v8_36), .val (.int (v6_36 <<< ((8 : Int32) &&& 31))), .unset, .unset, .unset, .unset] [(.int v7_36), (.int (v6_36 <<< ((8 : Int32) &&& 31))), (.ref b1), (.int (ft ((v6_36 <<< ((8 : Int32) &&& 31)) ||| (v7_36 ^^^ v8_36)).toNatClampNeg))]))
    refine own_to (fun _ kz => XS.ior X1.here hx rfl (hb hby at_60) rfl kz) ?_
    show own_Fin p e below G (T1.setTop (mkF m 61 #[.val (.int p0), .val (.int p1), .val (.int p2), .val (.int p3), .val (.int p4), .val (.ref b1), .val (.int v6_36), .val (.int v7_36), .val (.int v8_36), .val (.int (v6_36 <<< ((8 : Int32) &&& 31))), .unset, .unset, .unset, .unset] [(.int ((v6_36 <<< ((8 : Int32) &&& 31)) ||| v7_36)), (.ref b1), (.int (ft ((v6_36 <<< ((8 : Int32) &&& 31)) ||| (v7_36 ^^^ v8_36)).toNatClampNeg))]))
    refine own_to (fun _ kz => own_iaload X1 hx hZ rfl V1 (j := ((v6_36 <<< ((8 : Int32) &&& 31)) ||| v7_36)) (own_ixk jh0_36 jh1_36).1 rfl (by rw [(own_ixk jh0_36 jh1_36).2.1]; exact (own_ixk jh0_36 jh1_36).2.2) (g := (mkF m 61 #[.val (.int p0), .val (.int p1), .val (.int p2), .val (.int p3), .val (.int p4), .val (.ref b1), .val (.int v6_36), .val (.int v7_36), .val (.int v8_36), .val (.int (v6_36 <<< ((8 : Int32) &&& 31))), .unset, .unset, .unset, .unset] [(.int ((v6_36 <<< ((8 : Int32) &&& 31)) ||| v7_36)), (.ref b1), (.int (ft ((v6_36 <<< ((8 : Int32) &&& 31)) ||| (v7_36 ^^^ v8_36)).toNatClampNeg))])) rfl rfl (hb hby at_61) kz) ?_
    show own_Fin p e below G (T1.setTop (mkF m 62 #[.val (.int p0), .val (.int p1), .val (.int p2), .val (.int p3), .val (.int p4), .val (.ref b1), .val (.int v6_36), .val (.int v7_36), .val (.int v8_36), .val (.int (v6_36 <<< ((8 : Int32) &&& 31))), .unset, .unset, .unset, .unset] [(.int (ft ((v6_36 <<< ((8 : Int32) &&& 31)) ||| v7_36).toNatClampNeg)), (.int (ft ((v6_36 <<< ((8 : Int32) &&& 31)) ||| (v7_36 ^^^ v8_36)).toNatClampNeg))]))
    refine own_to (fun _ kz => XS.aload X1.here hx rfl (hb hby at_62) rfl (rfl)  kz) ?_
    show own_Fin p e below G (T1.setTop (mkF m 64 #[.val (.int p0), .val (.int p1), .val (.int p2), .val (.int p3), .val (.int p4), .val (.ref b1), .val (.int v6_36), .val (.int v7_36), .val (.int v8_36), .val (.int (v6_36 <<< ((8 : Int32) &&& 31))), .unset, .unset, .unset, .unset] [(.ref b1), (.int (ft ((v6_36 <<< ((8 : Int32) &&& 31)) ||| v7_36).toNatClampNeg)), (.int (ft ((v6_36 <<< ((8 : Int32) &&& 31)) ||| (v7_36 ^^^ v8_36)).toNatClampNeg))]))
    refine own_to (fun _ kz => XS.iload X1.here hx rfl (hb hby at_64) rfl  kz) ?_
    show own_Fin p e below G (T1.setTop (mkF m 66 #[.val (.int p0), .val (.int p1), .val (.int p2), .val (.int p3), .val (.int p4), .val (.ref b1), .val (.int v6_36), .val (.int v7_36), .val (.int v8_36), .val (.int (v6_36 <<< ((8 : Int32) &&& 31))), .unset, .unset, .unset, .unset] [(.int (v6_36 <<< ((8 : Int32) &&& 31))), (.ref b1), (.int (ft ((v6_36 <<< ((8 : Int32) &&& 31)) ||| v7_36).toNatClampNeg)), (.int (ft ((v6_36 <<< ((8 : Int32) &&& 31)) ||| (v7_36 ^^^ v8_36)).toNatClampNeg))]))
    refine own_to (fun _ kz => XS.iload X1.here hx rfl (hb hby at_66) rfl  kz) ?_
    show own_Fin p e below G (T1.setTop (mkF m 68 #[.val (.int p0), .val (.int p1), .val (.int p2), .val (.int p3), .val (.int p4), .val (.ref b1), .val (.int v6_36), .val (.int v7_36), .val (.int v8_36), .val (.int (v6_36 <<< ((8 : Int32) &&& 31))), .unset, .unset, .unset, .unset] [(.int v8_36), (.int (v6_36 <<< ((8 : Int32) &&& 31))), (.ref b1), (.int (ft ((v6_36 <<< ((8 : Int32) &&& 31)) ||| v7_36).toNatClampNeg)), (.int (ft ((v6_36 <<< ((8 : Int32) &&& 31)) ||| (v7_36 ^^^ v8_36)).toNatClampNeg))]))
    refine own_to (fun _ kz => XS.ior X1.here hx rfl (hb hby at_68) rfl kz) ?_
    show own_Fin p e below G (T1.setTop (mkF m 69 #[.val (.int p0), .val (.int p1), .val (.int p2), .val (.int p3), .val (.int p4), .val (.ref b1), .val (.int v6_36), .val (.int v7_36), .val (.int v8_36), .val (.int (v6_36 <<< ((8 : Int32) &&& 31))), .unset, .unset, .unset, .unset] [(.int ((v6_36 <<< ((8 : Int32) &&& 31)) ||| v8_36)), (.ref b1), (.int (ft ((v6_36 <<< ((8 : Int32) &&& 31)) ||| v7_36).toNatClampNeg)), (.int (ft ((v6_36 <<< ((8 : Int32) &&& 31)) ||| (v7_36 ^^^ v8_36)).toNatClampNeg))]))
    refine own_to (fun _ kz => own_iaload X1 hx hZ rfl V1 (j := ((v6_36 <<< ((8 : Int32) &&& 31)) ||| v8_36)) (own_ixk jh0_36 jh2_36).1 rfl (by rw [(own_ixk jh0_36 jh2_36).2.1]; exact (own_ixk jh0_36 jh2_36).2.2) (g := (mkF m 69 #[.val (.int p0), .val (.int p1), .val (.int p2), .val (.int p3), .val (.int p4), .val (.ref b1), .val (.int v6_36), .val (.int v7_36), .val (.int v8_36), .val (.int (v6_36 <<< ((8 : Int32) &&& 31))), .unset, .unset, .unset, .unset] [(.int ((v6_36 <<< ((8 : Int32) &&& 31)) ||| v8_36)), (.ref b1), (.int (ft ((v6_36 <<< ((8 : Int32) &&& 31)) ||| v7_36).toNatClampNeg)), (.int (ft ((v6_36 <<< ((8 : Int32) &&& 31)) ||| (v7_36 ^^^ v8_36)).toNatClampNeg))])) rfl rfl (hb hby at_69) kz) ?_
    show own_Fin p e below G (T1.setTop (mkF m 70 #[.val (.int p0), .val (.int p1), .val (.int p2), .val (.int p3), .val (.int p4), .val (.ref b1), .val (.int v6_36), .val (.int v7_36), .val (.int v8_36), .val (.int (v6_36 <<< ((8 : Int32) &&& 31))), .unset, .unset, .unset, .unset] [(.int (ft ((v6_36 <<< ((8 : Int32) &&& 31)) ||| v8_36).toNatClampNeg)), (.int (ft ((v6_36 <<< ((8 : Int32) &&& 31)) ||| v7_36).toNatClampNeg)), (.int (ft ((v6_36 <<< ((8 : Int32) &&& 31)) ||| (v7_36 ^^^ v8_36)).toNatClampNeg))]))
    refine own_to (fun _ kz => XS.ixor X1.here hx rfl (hb hby at_70) rfl kz) ?_
    show own_Fin p e below G (T1.setTop (mkF m 71 #[.val (.int p0), .val (.int p1), .val (.int p2), .val (.int p3), .val (.int p4), .val (.ref b1), .val (.int v6_36), .val (.int v7_36), .val (.int v8_36), .val (.int (v6_36 <<< ((8 : Int32) &&& 31))), .unset, .unset, .unset, .unset] [(.int ((ft ((v6_36 <<< ((8 : Int32) &&& 31)) ||| v7_36).toNatClampNeg) ^^^ (ft ((v6_36 <<< ((8 : Int32) &&& 31)) ||| v8_36).toNatClampNeg))), (.int (ft ((v6_36 <<< ((8 : Int32) &&& 31)) ||| (v7_36 ^^^ v8_36)).toNatClampNeg))]))
    have hc71 : (ft ((v6_36 <<< ((8 : Int32) &&& 31)) ||| (v7_36 ^^^ v8_36)).toNatClampNeg) = ((ft ((v6_36 <<< ((8 : Int32) &&& 31)) ||| v7_36).toNatClampNeg) ^^^ (ft ((v6_36 <<< ((8 : Int32) &&& 31)) ||| v8_36).toNatClampNeg)) := own_lin hft jh0_36 jh1_36 jh2_36
    refine own_to (fun _ kz => XS.icmpNo X1.here hx rfl (hb hby at_71) rfl (teq hc71).2 kz) ?_
    show own_Fin p e below G (T1.setTop (mkF m 74 #[.val (.int p0), .val (.int p1), .val (.int p2), .val (.int p3), .val (.int p4), .val (.ref b1), .val (.int v6_36), .val (.int v7_36), .val (.int v8_36), .val (.int (v6_36 <<< ((8 : Int32) &&& 31))), .unset, .unset, .unset, .unset] []))
    refine own_to (fun _ kz => XS.iconst X1.here hx rfl (hb hby at_74) kz) ?_
    show own_Fin p e below G (T1.setTop (mkF m 75 #[.val (.int p0), .val (.int p1), .val (.int p2), .val (.int p3), .val (.int p4), .val (.ref b1), .val (.int v6_36), .val (.int v7_36), .val (.int v8_36), .val (.int (v6_36 <<< ((8 : Int32) &&& 31))), .unset, .unset, .unset, .unset] [(.int (1 : Int32))]))
    refine own_to (fun _ kz => XS.goto X1.here hx rfl (pc0 := 75) (pc' := 79) rfl (hb hby at_75) (by decide) (by decide) kz) ?_
    show own_Fin p e below G (T1.setTop (mkF m 79 #[.val (.int p0), .val (.int p1), .val (.int p2), .val (.int p3), .val (.int p4), .val (.ref b1), .val (.int v6_36), .val (.int v7_36), .val (.int v8_36), .val (.int (v6_36 <<< ((8 : Int32) &&& 31))), .unset, .unset, .unset, .unset] [(.int (1 : Int32))]))
    refine own_to (fun _ kz => XS.istore X1.here hx rfl (hb hby at_79) rfl (l' := #[.val (.int p0), .val (.int p1), .val (.int p2), .val (.int p3), .val (.int p4), .val (.ref b1), .val (.int v6_36), .val (.int v7_36), .val (.int v8_36), .val (.int (v6_36 <<< ((8 : Int32) &&& 31))), .val (.int (1 : Int32)), .unset, .unset, .unset]) rfl kz) ?_
    show own_Fin p e below G (T1.setTop (mkF m 81 #[.val (.int p0), .val (.int p1), .val (.int p2), .val (.int p3), .val (.int p4), .val (.ref b1), .val (.int v6_36), .val (.int v7_36), .val (.int v8_36), .val (.int (v6_36 <<< ((8 : Int32) &&& 31))), .val (.int (1 : Int32)), .unset, .unset, .unset] []))
    refine own_to (fun _ kz => XS.aload X1.here hx rfl (hb hby at_81) rfl (rfl)  kz) ?_
    show own_Fin p e below G (T1.setTop (mkF m 83 #[.val (.int p0), .val (.int p1), .val (.int p2), .val (.int p3), .val (.int p4), .val (.ref b1), .val (.int v6_36), .val (.int v7_36), .val (.int v8_36), .val (.int (v6_36 <<< ((8 : Int32) &&& 31))), .val (.int (1 : Int32)), .unset, .unset, .unset] [(.ref b1)]))
    refine own_to (fun _ kz => XS.bipush X1.here hx rfl (hb hby at_83) kz) ?_
    show own_Fin p e below G (T1.setTop (mkF m 85 #[.val (.int p0), .val (.int p1), .val (.int p2), .val (.int p3), .val (.int p4), .val (.ref b1), .val (.int v6_36), .val (.int v7_36), .val (.int v8_36), .val (.int (v6_36 <<< ((8 : Int32) &&& 31))), .val (.int (1 : Int32)), .unset, .unset, .unset] [(.int (31 : Int32)), (.ref b1)]))
    have Zz_85_Kp1 := Nat.le_trans Z0 Kp1.1
    have Z_85 : n0 ≤ T1.heap.size := Zz_85_Kp1
    obtain ⟨_, _, ⟨T85, L85, k85, n85⟩, -, X85, ⟨Lc85, hQ85, l85, y85, z85⟩, st85⟩ := Jvm.LawKit.callS X1 hx (y := (⟨"com/example/resync/resync/codec/Crc32cArithmeticTimesTablePinLaw", "bitEntry", "([II)I"⟩ : MethodName)) hown (mvT hZ (hw _ (List.mem_of_getElem? (i := 6) rfl))) (mvT hZ (hw _ (List.mem_of_getElem? (i := 7) rfl))) (mvT hZ (hw _ (List.mem_of_getElem? (i := 8) rfl))) (mvT hZ (hw _ (List.mem_of_getElem? (i := 9) rfl))) (by decide) (backOf (W := 0) (rm2 l Z a0 hw [] b1 (31 : Int32) ft T1.heap n0 Z_85 V1 (own_bx' (by decide))) hZ (hw _ (List.mem_of_getElem? (i := 9) rfl)) (hw _ (List.mem_of_getElem? (i := 8) rfl)) (by decide) (by decide)) (g := (mkF m 85 #[.val (.int p0), .val (.int p1), .val (.int p2), .val (.int p3), .val (.int p4), .val (.ref b1), .val (.int v6_36), .val (.int v7_36), .val (.int v8_36), .val (.int (v6_36 <<< ((8 : Int32) &&& 31))), .val (.int (1 : Int32)), .unset, .unset, .unset] [(.int (31 : Int32)), (.ref b1)])) rfl (by rw [hml]; rfl) (argsL := [(.ref b1), (.int (31 : Int32))]) (rest := []) (lenOf own_pd1 rfl) rfl (by show 2 * 0 + _ ≤ _; exact Nat.le_of_eq rfl) (hb hby at_85) (fun _ _ => ⟨rfl, rfl, (by decide : 1 + 0 ≤ _), (by decide : 1024 + 0 ≤ _)⟩)
    dsimp only [Pt.U, Pt.locs, Pt.cells, Pt.slots] at X85 l85 y85 z85 st85 hQ85
    subst l85 y85 z85
    obtain ⟨rfl, N85q, e85⟩ := hQ85
    obtain ⟨lo85, X85, N85⟩ : ∃ lo, Stand p l e _ s m _ below meth c T85 lo _ _ ∧ Fr n0 lo := ⟨_, X85, Fr.app N1 N85q⟩
    refine own_to st85 ?_
    show own_Fin p e below G (T85.setTop (mkF m 88 #[.val (.int p0), .val (.int p1), .val (.int p2), .val (.int p3), .val (.int p4), .val (.ref b1), .val (.int v6_36), .val (.int v7_36), .val (.int v8_36), .val (.int (v6_36 <<< ((8 : Int32) &&& 31))), .val (.int (1 : Int32)), .unset, .unset, .unset] [(.int (f2 (31 : Int32) ft))]))
    refine own_to (fun _ kz => XS.iloadN X85.here hx rfl (hb hby at_88) rfl  kz) ?_
    show own_Fin p e below G (T85.setTop (mkF m 89 #[.val (.int p0), .val (.int p1), .val (.int p2), .val (.int p3), .val (.int p4), .val (.ref b1), .val (.int v6_36), .val (.int v7_36), .val (.int v8_36), .val (.int (v6_36 <<< ((8 : Int32) &&& 31))), .val (.int (1 : Int32)), .unset, .unset, .unset] [(.int p0), (.int (f2 (31 : Int32) ft))]))
    have hc89 : (f2 (31 : Int32) ft) = p0 := own_one hft
    refine own_to (fun _ kz => XS.icmpNo X85.here hx rfl (hb hby at_89) rfl (teq hc89).2 kz) ?_
    show own_Fin p e below G (T85.setTop (mkF m 92 #[.val (.int p0), .val (.int p1), .val (.int p2), .val (.int p3), .val (.int p4), .val (.ref b1), .val (.int v6_36), .val (.int v7_36), .val (.int v8_36), .val (.int (v6_36 <<< ((8 : Int32) &&& 31))), .val (.int (1 : Int32)), .unset, .unset, .unset] []))
    refine own_to (fun _ kz => XS.iconst X85.here hx rfl (hb hby at_92) kz) ?_
    show own_Fin p e below G (T85.setTop (mkF m 93 #[.val (.int p0), .val (.int p1), .val (.int p2), .val (.int p3), .val (.int p4), .val (.ref b1), .val (.int v6_36), .val (.int v7_36), .val (.int v8_36), .val (.int (v6_36 <<< ((8 : Int32) &&& 31))), .val (.int (1 : Int32)), .unset, .unset, .unset] [(.int (1 : Int32))]))
    refine own_to (fun _ kz => XS.goto X85.here hx rfl (pc0 := 93) (pc' := 97) rfl (hb hby at_93) (by decide) (by decide) kz) ?_
    show own_Fin p e below G (T85.setTop (mkF m 97 #[.val (.int p0), .val (.int p1), .val (.int p2), .val (.int p3), .val (.int p4), .val (.ref b1), .val (.int v6_36), .val (.int v7_36), .val (.int v8_36), .val (.int (v6_36 <<< ((8 : Int32) &&& 31))), .val (.int (1 : Int32)), .unset, .unset, .unset] [(.int (1 : Int32))]))
    refine own_to (fun _ kz => XS.istore X85.here hx rfl (hb hby at_97) rfl (l' := #[.val (.int p0), .val (.int p1), .val (.int p2), .val (.int p3), .val (.int p4), .val (.ref b1), .val (.int v6_36), .val (.int v7_36), .val (.int v8_36), .val (.int (v6_36 <<< ((8 : Int32) &&& 31))), .val (.int (1 : Int32)), .val (.int (1 : Int32)), .unset, .unset]) rfl kz) ?_
    show own_Fin p e below G (T85.setTop (mkF m 99 #[.val (.int p0), .val (.int p1), .val (.int p2), .val (.int p3), .val (.int p4), .val (.ref b1), .val (.int v6_36), .val (.int v7_36), .val (.int v8_36), .val (.int (v6_36 <<< ((8 : Int32) &&& 31))), .val (.int (1 : Int32)), .val (.int (1 : Int32)), .unset, .unset] []))
    refine own_to (fun _ kz => XS.iconst X85.here hx rfl (hb hby at_99) kz) ?_
    show own_Fin p e below G (T85.setTop (mkF m 100 #[.val (.int p0), .val (.int p1), .val (.int p2), .val (.int p3), .val (.int p4), .val (.ref b1), .val (.int v6_36), .val (.int v7_36), .val (.int v8_36), .val (.int (v6_36 <<< ((8 : Int32) &&& 31))), .val (.int (1 : Int32)), .val (.int (1 : Int32)), .unset, .unset] [(.int (1 : Int32))]))
    refine own_to (fun _ kz => XS.iload X85.here hx rfl (hb hby at_100) rfl  kz) ?_
    show own_Fin p e below G (T85.setTop (mkF m 102 #[.val (.int p0), .val (.int p1), .val (.int p2), .val (.int p3), .val (.int p4), .val (.ref b1), .val (.int v6_36), .val (.int v7_36), .val (.int v8_36), .val (.int (v6_36 <<< ((8 : Int32) &&& 31))), .val (.int (1 : Int32)), .val (.int (1 : Int32)), .unset, .unset] [(.int p4), (.int (1 : Int32))]))
    refine own_to (fun _ kz => X85.ldcInt hx hown (mvT hZ (hw _ (List.mem_of_getElem? (i := 10) rfl))) (g := (mkF m 102 #[.val (.int p0), .val (.int p1), .val (.int p2), .val (.int p3), .val (.int p4), .val (.ref b1), .val (.int v6_36), .val (.int v7_36), .val (.int v8_36), .val (.int (v6_36 <<< ((8 : Int32) &&& 31))), .val (.int (1 : Int32)), .val (.int (1 : Int32)), .unset, .unset] [(.int p4), (.int (1 : Int32))])) rfl (hb hby at_102) _ kz) ?_
    show own_Fin p e below G (T85.setTop (mkF m 104 #[.val (.int p0), .val (.int p1), .val (.int p2), .val (.int p3), .val (.int p4), .val (.ref b1), .val (.int v6_36), .val (.int v7_36), .val (.int v8_36), .val (.int (v6_36 <<< ((8 : Int32) &&& 31))), .val (.int (1 : Int32)), .val (.int (1 : Int32)), .unset, .unset] [(.int (2147483647 : Int32)), (.int p4), (.int (1 : Int32))]))
    refine own_to (fun _ kz => XS.iand X85.here hx rfl (hb hby at_104) rfl kz) ?_
    show own_Fin p e below G (T85.setTop (mkF m 105 #[.val (.int p0), .val (.int p1), .val (.int p2), .val (.int p3), .val (.int p4), .val (.ref b1), .val (.int v6_36), .val (.int v7_36), .val (.int v8_36), .val (.int (v6_36 <<< ((8 : Int32) &&& 31))), .val (.int (1 : Int32)), .val (.int (1 : Int32)), .unset, .unset] [(.int (p4 &&& (2147483647 : Int32))), (.int (1 : Int32))]))
    refine own_to (fun _ kz => XS.bipush X85.here hx rfl (hb hby at_105) kz) ?_
    show own_Fin p e below G (T85.setTop (mkF m 107 #[.val (.int p0), .val (.int p1), .val (.int p2), .val (.int p3), .val (.int p4), .val (.ref b1), .val (.int v6_36), .val (.int v7_36), .val (.int v8_36), .val (.int (v6_36 <<< ((8 : Int32) &&& 31))), .val (.int (1 : Int32)), .val (.int (1 : Int32)), .unset, .unset] [(.int (31 : Int32)), (.int (p4 &&& (2147483647 : Int32))), (.int (1 : Int32))]))
    refine own_to (fun _ kz => iremM X85 hx rfl (hb hby at_107) rfl (by decide) kz) ?_
    show own_Fin p e below G (T85.setTop (mkF m 108 #[.val (.int p0), .val (.int p1), .val (.int p2), .val (.int p3), .val (.int p4), .val (.ref b1), .val (.int v6_36), .val (.int v7_36), .val (.int v8_36), .val (.int (v6_36 <<< ((8 : Int32) &&& 31))), .val (.int (1 : Int32)), .val (.int (1 : Int32)), .unset, .unset] [(.int ((p4 &&& (2147483647 : Int32)) % (31 : Int32))), (.int (1 : Int32))]))
    refine own_to (fun _ kz => XS.iadd X85.here hx rfl (hb hby at_108) rfl kz) ?_
    show own_Fin p e below G (T85.setTop (mkF m 109 #[.val (.int p0), .val (.int p1), .val (.int p2), .val (.int p3), .val (.int p4), .val (.ref b1), .val (.int v6_36), .val (.int v7_36), .val (.int v8_36), .val (.int (v6_36 <<< ((8 : Int32) &&& 31))), .val (.int (1 : Int32)), .val (.int (1 : Int32)), .unset, .unset] [(.int ((1 : Int32) + ((p4 &&& (2147483647 : Int32)) % (31 : Int32))))]))
    refine own_to (fun _ kz => XS.istore X85.here hx rfl (hb hby at_109) rfl (l' := #[.val (.int p0), .val (.int p1), .val (.int p2), .val (.int p3), .val (.int p4), .val (.ref b1), .val (.int v6_36), .val (.int v7_36), .val (.int v8_36), .val (.int (v6_36 <<< ((8 : Int32) &&& 31))), .val (.int (1 : Int32)), .val (.int (1 : Int32)), .val (.int ((1 : Int32) + ((p4 &&& (2147483647 : Int32)) % (31 : Int32)))), .unset]) rfl kz) ?_
    show own_Fin p e below G (T85.setTop (mkF m 111 #[.val (.int p0), .val (.int p1), .val (.int p2), .val (.int p3), .val (.int p4), .val (.ref b1), .val (.int v6_36), .val (.int v7_36), .val (.int v8_36), .val (.int (v6_36 <<< ((8 : Int32) &&& 31))), .val (.int (1 : Int32)), .val (.int (1 : Int32)), .val (.int ((1 : Int32) + ((p4 &&& (2147483647 : Int32)) % (31 : Int32)))), .unset] []))
    have K111 : ∀ (v12_111 : Int32) (jh0_111 : 1 ≤ v12_111.toInt ∧ v12_111.toInt ≤ 31), own_Fin p e below G (T85.setTop (mkF m 111 #[.val (.int p0), .val (.int p1), .val (.int p2), .val (.int p3), .val (.int p4), .val (.ref b1), .val (.int v6_36), .val (.int v7_36), .val (.int v8_36), .val (.int (v6_36 <<< ((8 : Int32) &&& 31))), .val (.int (1 : Int32)), .val (.int (1 : Int32)), .val (.int v12_111), .unset] [])) := by
      intro v12_111 jh0_111
      refine own_to (fun _ kz => XS.aload X85.here hx rfl (hb hby at_111) rfl (rfl)  kz) ?_
      show own_Fin p e below G (T85.setTop (mkF m 113 #[.val (.int p0), .val (.int p1), .val (.int p2), .val (.int p3), .val (.int p4), .val (.ref b1), .val (.int v6_36), .val (.int v7_36), .val (.int v8_36), .val (.int (v6_36 <<< ((8 : Int32) &&& 31))), .val (.int (1 : Int32)), .val (.int (1 : Int32)), .val (.int v12_111), .unset] [(.ref b1)]))
      refine own_to (fun _ kz => XS.iload X85.here hx rfl (hb hby at_113) rfl  kz) ?_
      show own_Fin p e below G (T85.setTop (mkF m 115 #[.val (.int p0), .val (.int p1), .val (.int p2), .val (.int p3), .val (.int p4), .val (.ref b1), .val (.int v6_36), .val (.int v7_36), .val (.int v8_36), .val (.int (v6_36 <<< ((8 : Int32) &&& 31))), .val (.int (1 : Int32)), .val (.int (1 : Int32)), .val (.int v12_111), .unset] [(.int v12_111), (.ref b1)]))
      refine own_to (fun _ kz => XS.iconst X85.here hx rfl (hb hby at_115) kz) ?_
      show own_Fin p e below G (T85.setTop (mkF m 116 #[.val (.int p0), .val (.int p1), .val (.int p2), .val (.int p3), .val (.int p4), .val (.ref b1), .val (.int v6_36), .val (.int v7_36), .val (.int v8_36), .val (.int (v6_36 <<< ((8 : Int32) &&& 31))), .val (.int (1 : Int32)), .val (.int (1 : Int32)), .val (.int v12_111), .unset] [(.int (1 : Int32)), (.int v12_111), (.ref b1)]))
      refine own_to (fun _ kz => XS.isub X85.here hx rfl (hb hby at_116) rfl kz) ?_
      show own_Fin p e below G (T85.setTop (mkF m 117 #[.val (.int p0), .val (.int p1), .val (.int p2), .val (.int p3), .val (.int p4), .val (.ref b1), .val (.int v6_36), .val (.int v7_36), .val (.int v8_36), .val (.int (v6_36 <<< ((8 : Int32) &&& 31))), .val (.int (1 : Int32)), .val (.int (1 : Int32)), .val (.int v12_111), .unset] [(.int (v12_111 - (1 : Int32))), (.ref b1)]))
      obtain ⟨_, _, ⟨T117, L117, k117, n117⟩, -, X117, ⟨Lc117, hQ117, l117, y117, z117⟩, st117⟩ := Jvm.LawKit.callS X85 hx (y := (⟨"com/example/resync/resync/codec/Crc32cArithmeticTimesTablePinLaw", "bitEntry", "([II)I"⟩ : MethodName)) hown (mvT hZ (hw _ (List.mem_of_getElem? (i := 6) rfl))) (mvT hZ (hw _ (List.mem_of_getElem? (i := 7) rfl))) (mvT hZ (hw _ (List.mem_of_getElem? (i := 8) rfl))) (mvT hZ (hw _ (List.mem_of_getElem? (i := 9) rfl))) (by decide) (backOf (W := 0) (rm2 l Z a0 hw [] b1 (v12_111 - (1 : Int32)) ft T1.heap n0 Z_85 V1 (own_bx' (own_im jh0_111).1)) hZ (hw _ (List.mem_of_getElem? (i := 9) rfl)) (hw _ (List.mem_of_getElem? (i := 8) rfl)) (by decide) (by decide)) (g := (mkF m 117 #[.val (.int p0), .val (.int p1), .val (.int p2), .val (.int p3), .val (.int p4), .val (.ref b1), .val (.int v6_36), .val (.int v7_36), .val (.int v8_36), .val (.int (v6_36 <<< ((8 : Int32) &&& 31))), .val (.int (1 : Int32)), .val (.int (1 : Int32)), .val (.int v12_111), .unset] [(.int (v12_111 - (1 : Int32))), (.ref b1)])) rfl (by rw [hml]; rfl) (argsL := [(.ref b1), (.int (v12_111 - (1 : Int32)))]) (rest := []) (lenOf own_pd1 rfl) rfl (by show 2 * 0 + _ ≤ _; exact Nat.le_of_eq rfl) (hb hby at_117) (fun _ _ => ⟨rfl, e85, (by decide : 1 + 0 ≤ _), (by decide : 1024 + 0 ≤ _)⟩)
      dsimp only [Pt.U, Pt.locs, Pt.cells, Pt.slots] at X117 l117 y117 z117 st117 hQ117
      subst l117 y117 z117
      obtain ⟨rfl, N117q, e117⟩ := hQ117
      obtain ⟨lo117, X117, N117⟩ : ∃ lo, Stand p l e _ s m _ below meth c T117 lo _ _ ∧ Fr n0 lo := ⟨_, X117, Fr.app N85 N117q⟩
      refine own_to st117 ?_
      show own_Fin p e below G (T117.setTop (mkF m 120 #[.val (.int p0), .val (.int p1), .val (.int p2), .val (.int p3), .val (.int p4), .val (.ref b1), .val (.int v6_36), .val (.int v7_36), .val (.int v8_36), .val (.int (v6_36 <<< ((8 : Int32) &&& 31))), .val (.int (1 : Int32)), .val (.int (1 : Int32)), .val (.int v12_111), .unset] [(.int (f2 (v12_111 - (1 : Int32)) ft))]))
      refine own_to (fun _ kz => XS.aload X117.here hx rfl (hb hby at_120) rfl (rfl)  kz) ?_
      show own_Fin p e below G (T117.setTop (mkF m 122 #[.val (.int p0), .val (.int p1), .val (.int p2), .val (.int p3), .val (.int p4), .val (.ref b1), .val (.int v6_36), .val (.int v7_36), .val (.int v8_36), .val (.int (v6_36 <<< ((8 : Int32) &&& 31))), .val (.int (1 : Int32)), .val (.int (1 : Int32)), .val (.int v12_111), .unset] [(.ref b1), (.int (f2 (v12_111 - (1 : Int32)) ft))]))
      refine own_to (fun _ kz => XS.iload X117.here hx rfl (hb hby at_122) rfl  kz) ?_
      show own_Fin p e below G (T117.setTop (mkF m 124 #[.val (.int p0), .val (.int p1), .val (.int p2), .val (.int p3), .val (.int p4), .val (.ref b1), .val (.int v6_36), .val (.int v7_36), .val (.int v8_36), .val (.int (v6_36 <<< ((8 : Int32) &&& 31))), .val (.int (1 : Int32)), .val (.int (1 : Int32)), .val (.int v12_111), .unset] [(.int v12_111), (.ref b1), (.int (f2 (v12_111 - (1 : Int32)) ft))]))
      obtain ⟨_, _, ⟨T124, L124, k124, n124⟩, -, X124, ⟨Lc124, hQ124, l124, y124, z124⟩, st124⟩ := Jvm.LawKit.callS X117 hx (y := (⟨"com/example/resync/resync/codec/Crc32cArithmeticTimesTablePinLaw", "bitEntry", "([II)I"⟩ : MethodName)) hown (mvT hZ (hw _ (List.mem_of_getElem? (i := 6) rfl))) (mvT hZ (hw _ (List.mem_of_getElem? (i := 7) rfl))) (mvT hZ (hw _ (List.mem_of_getElem? (i := 8) rfl))) (mvT hZ (hw _ (List.mem_of_getElem? (i := 9) rfl))) (by decide) (backOf (W := 1) (rm2 l Z a0 hw [] b1 v12_111 ft T1.heap n0 Z_85 V1 (own_bx' (own_ii jh0_111))) hZ (hw _ (List.mem_of_getElem? (i := 9) rfl)) (hw _ (List.mem_of_getElem? (i := 8) rfl)) (by decide) (by decide)) (g := (mkF m 124 #[.val (.int p0), .val (.int p1), .val (.int p2), .val (.int p3), .val (.int p4), .val (.ref b1), .val (.int v6_36), .val (.int v7_36), .val (.int v8_36), .val (.int (v6_36 <<< ((8 : Int32) &&& 31))), .val (.int (1 : Int32)), .val (.int (1 : Int32)), .val (.int v12_111), .unset] [(.int v12_111), (.ref b1), (.int (f2 (v12_111 - (1 : Int32)) ft))])) rfl (by rw [hml]; rfl) (argsL := [(.ref b1), (.int v12_111)]) (rest := [(.int (f2 (v12_111 - (1 : Int32)) ft))]) (lenOf own_pd1 rfl) rfl (by show 2 * 0 + _ ≤ _; exact Nat.le_of_eq rfl) (hb hby at_124) (fun _ _ => ⟨rfl, e117, (by decide : 1 + 0 ≤ _), (by decide : 1024 + 0 ≤ _)⟩)
      dsimp only [Pt.U, Pt.locs, Pt.cells, Pt.slots] at X124 l124 y124 z124 st124 hQ124
      subst l124 y124 z124
      obtain ⟨rfl, N124q, e124⟩ := hQ124
      obtain ⟨lo124, X124, N124⟩ : ∃ lo, Stand p l e _ s m _ below meth c T124 lo _ _ ∧ Fr n0 lo := ⟨_, X124, Fr.app N117 N124q⟩
      refine own_to st124 ?_
      show own_Fin p e below G (T124.setTop (mkF m 127 #[.val (.int p0), .val (.int p1), .val (.int p2), .val (.int p3), .val (.int p4), .val (.ref b1), .val (.int v6_36), .val (.int v7_36), .val (.int v8_36), .val (.int (v6_36 <<< ((8 : Int32) &&& 31))), .val (.int (1 : Int32)), .val (.int (1 : Int32)), .val (.int v12_111), .unset] [(.int (f2 v12_111 ft)), (.int (f2 (v12_111 - (1 : Int32)) ft))]))
      obtain ⟨_, _, ⟨T127, L127, k127, n127⟩, -, X127, ⟨Lc127, hQ127, l127, y127, z127⟩, st127⟩ := Jvm.LawKit.callS X124 hx (y := (⟨"com/example/resync/resync/codec/Crc32cArithmeticTimesTablePinLaw", "timesX", "(I)I"⟩ : MethodName)) hown (mvT hZ (hw _ (List.mem_of_getElem? (i := 11) rfl))) (mvT hZ (hw _ (List.mem_of_getElem? (i := 12) rfl))) (mvT hZ (hw _ (List.mem_of_getElem? (i := 8) rfl))) (mvT hZ (hw _ (List.mem_of_getElem? (i := 13) rfl))) (by decide) (backOf (W := 1) (rm3 l Z a0 hw [] (f2 v12_111 ft) T1.heap n0 Z_85) hZ (hw _ (List.mem_of_getElem? (i := 13) rfl)) (hw _ (List.mem_of_getElem? (i := 8) rfl)) (by decide) (by decide)) (g := (mkF m 127 #[.val (.int p0), .val (.int p1), .val (.int p2), .val (.int p3), .val (.int p4), .val (.ref b1), .val (.int v6_36), .val (.int v7_36), .val (.int v8_36), .val (.int (v6_36 <<< ((8 : Int32) &&& 31))), .val (.int (1 : Int32)), .val (.int (1 : Int32)), .val (.int v12_111), .unset] [(.int (f2 v12_111 ft)), (.int (f2 (v12_111 - (1 : Int32)) ft))])) rfl (by rw [hml]; rfl) (argsL := [(.int (f2 v12_111 ft))]) (rest := [(.int (f2 (v12_111 - (1 : Int32)) ft))]) (lenOf own_pd2 rfl) rfl (by show 2 * 0 + _ ≤ _; exact Nat.le_of_eq rfl) (hb hby at_127) (fun _ _ => ⟨rfl, e124, (by decide : 1 + 0 ≤ _), (by decide : 1024 + 0 ≤ _)⟩)
      dsimp only [Pt.U, Pt.locs, Pt.cells, Pt.slots] at X127 l127 y127 z127 st127 hQ127
      subst l127 y127 z127
      obtain ⟨rfl, N127q, e127⟩ := hQ127
      obtain ⟨lo127, X127, N127⟩ : ∃ lo, Stand p l e _ s m _ below meth c T127 lo _ _ ∧ Fr n0 lo := ⟨_, X127, Fr.app N124 N127q⟩
      refine own_to st127 ?_
      show own_Fin p e below G (T127.setTop (mkF m 130 #[.val (.int p0), .val (.int p1), .val (.int p2), .val (.int p3), .val (.int p4), .val (.ref b1), .val (.int v6_36), .val (.int v7_36), .val (.int v8_36), .val (.int (v6_36 <<< ((8 : Int32) &&& 31))), .val (.int (1 : Int32)), .val (.int (1 : Int32)), .val (.int v12_111), .unset] [(.int (f3 (f2 v12_111 ft))), (.int (f2 (v12_111 - (1 : Int32)) ft))]))
      have hc130 : (f2 (v12_111 - (1 : Int32)) ft) = (f3 (f2 v12_111 ft)) := own_stp hft jh0_111
      refine own_to (fun _ kz => XS.icmpNo X127.here hx rfl (hb hby at_130) rfl (teq hc130).2 kz) ?_
      show own_Fin p e below G (T127.setTop (mkF m 133 #[.val (.int p0), .val (.int p1), .val (.int p2), .val (.int p3), .val (.int p4), .val (.ref b1), .val (.int v6_36), .val (.int v7_36), .val (.int v8_36), .val (.int (v6_36 <<< ((8 : Int32) &&& 31))), .val (.int (1 : Int32)), .val (.int (1 : Int32)), .val (.int v12_111), .unset] []))
      refine own_to (fun _ kz => XS.iconst X127.here hx rfl (hb hby at_133) kz) ?_
      show own_Fin p e below G (T127.setTop (mkF m 134 #[.val (.int p0), .val (.int p1), .val (.int p2), .val (.int p3), .val (.int p4), .val (.ref b1), .val (.int v6_36), .val (.int v7_36), .val (.int v8_36), .val (.int (v6_36 <<< ((8 : Int32) &&& 31))), .val (.int (1 : Int32)), .val (.int (1 : Int32)), .val (.int v12_111), .unset] [(.int (1 : Int32))]))
      refine own_to (fun _ kz => XS.goto X127.here hx rfl (pc0 := 134) (pc' := 138) rfl (hb hby at_134) (by decide) (by decide) kz) ?_
      show own_Fin p e below G (T127.setTop (mkF m 138 #[.val (.int p0), .val (.int p1), .val (.int p2), .val (.int p3), .val (.int p4), .val (.ref b1), .val (.int v6_36), .val (.int v7_36), .val (.int v8_36), .val (.int (v6_36 <<< ((8 : Int32) &&& 31))), .val (.int (1 : Int32)), .val (.int (1 : Int32)), .val (.int v12_111), .unset] [(.int (1 : Int32))]))
      refine own_to (fun _ kz => XS.istore X127.here hx rfl (hb hby at_138) rfl (l' := #[.val (.int p0), .val (.int p1), .val (.int p2), .val (.int p3), .val (.int p4), .val (.ref b1), .val (.int v6_36), .val (.int v7_36), .val (.int v8_36), .val (.int (v6_36 <<< ((8 : Int32) &&& 31))), .val (.int (1 : Int32)), .val (.int (1 : Int32)), .val (.int v12_111), .val (.int (1 : Int32))]) rfl kz) ?_
      show own_Fin p e below G (T127.setTop (mkF m 140 #[.val (.int p0), .val (.int p1), .val (.int p2), .val (.int p3), .val (.int p4), .val (.ref b1), .val (.int v6_36), .val (.int v7_36), .val (.int v8_36), .val (.int (v6_36 <<< ((8 : Int32) &&& 31))), .val (.int (1 : Int32)), .val (.int (1 : Int32)), .val (.int v12_111), .val (.int (1 : Int32))] []))
      refine own_to (fun _ kz => XS.iload X127.here hx rfl (hb hby at_140) rfl  kz) ?_
      show own_Fin p e below G (T127.setTop (mkF m 142 #[.val (.int p0), .val (.int p1), .val (.int p2), .val (.int p3), .val (.int p4), .val (.ref b1), .val (.int v6_36), .val (.int v7_36), .val (.int v8_36), .val (.int (v6_36 <<< ((8 : Int32) &&& 31))), .val (.int (1 : Int32)), .val (.int (1 : Int32)), .val (.int v12_111), .val (.int (1 : Int32))] [(.int (1 : Int32))]))
      have hc142 : ¬ ((1 : Int32) = (0 : Int32)) := by decide
      refine own_to (fun _ kz => XS.ifNo X127.here hx rfl (hb hby at_142) rfl ((if0 _ _).trans (feq hc142).1) kz) ?_
      show own_Fin p e below G (T127.setTop (mkF m 145 #[.val (.int p0), .val (.int p1), .val (.int p2), .val (.int p3), .val (.int p4), .val (.ref b1), .val (.int v6_36), .val (.int v7_36), .val (.int v8_36), .val (.int (v6_36 <<< ((8 : Int32) &&& 31))), .val (.int (1 : Int32)), .val (.int (1 : Int32)), .val (.int v12_111), .val (.int (1 : Int32))] []))
      refine own_to (fun _ kz => XS.iload X127.here hx rfl (hb hby at_145) rfl  kz) ?_
      show own_Fin p e below G (T127.setTop (mkF m 147 #[.val (.int p0), .val (.int p1), .val (.int p2), .val (.int p3), .val (.int p4), .val (.ref b1), .val (.int v6_36), .val (.int v7_36), .val (.int v8_36), .val (.int (v6_36 <<< ((8 : Int32) &&& 31))), .val (.int (1 : Int32)), .val (.int (1 : Int32)), .val (.int v12_111), .val (.int (1 : Int32))] [(.int (1 : Int32))]))
      have hc147 : ¬ ((1 : Int32) = (0 : Int32)) := by decide
      refine own_to (fun _ kz => XS.ifNo X127.here hx rfl (hb hby at_147) rfl ((if0 _ _).trans (feq hc147).1) kz) ?_
      show own_Fin p e below G (T127.setTop (mkF m 150 #[.val (.int p0), .val (.int p1), .val (.int p2), .val (.int p3), .val (.int p4), .val (.ref b1), .val (.int v6_36), .val (.int v7_36), .val (.int v8_36), .val (.int (v6_36 <<< ((8 : Int32) &&& 31))), .val (.int (1 : Int32)), .val (.int (1 : Int32)), .val (.int v12_111), .val (.int (1 : Int32))] []))
      refine own_to (fun _ kz => XS.iload X127.here hx rfl (hb hby at_150) rfl  kz) ?_
      show own_Fin p e below G (T127.setTop (mkF m 152 #[.val (.int p0), .val (.int p1), .val (.int p2), .val (.int p3), .val (.int p4), .val (.ref b1), .val (.int v6_36), .val (.int v7_36), .val (.int v8_36), .val (.int (v6_36 <<< ((8 : Int32) &&& 31))), .val (.int (1 : Int32)), .val (.int (1 : Int32)), .val (.int v12_111), .val (.int (1 : Int32))] [(.int (1 : Int32))]))
      have hc152 : ¬ ((1 : Int32) = (0 : Int32)) := by decide
      refine own_to (fun _ kz => XS.ifNo X127.here hx rfl (hb hby at_152) rfl ((if0 _ _).trans (feq hc152).1) kz) ?_
      show own_Fin p e below G (T127.setTop (mkF m 155 #[.val (.int p0), .val (.int p1), .val (.int p2), .val (.int p3), .val (.int p4), .val (.ref b1), .val (.int v6_36), .val (.int v7_36), .val (.int v8_36), .val (.int (v6_36 <<< ((8 : Int32) &&& 31))), .val (.int (1 : Int32)), .val (.int (1 : Int32)), .val (.int v12_111), .val (.int (1 : Int32))] []))
      refine own_to (fun _ kz => XS.iconst X127.here hx rfl (hb hby at_155) kz) ?_
      show own_Fin p e below G (T127.setTop (mkF m 156 #[.val (.int p0), .val (.int p1), .val (.int p2), .val (.int p3), .val (.int p4), .val (.ref b1), .val (.int v6_36), .val (.int v7_36), .val (.int v8_36), .val (.int (v6_36 <<< ((8 : Int32) &&& 31))), .val (.int (1 : Int32)), .val (.int (1 : Int32)), .val (.int v12_111), .val (.int (1 : Int32))] [(.int (1 : Int32))]))
      refine own_to (fun _ kz => XS.goto X127.here hx rfl (pc0 := 156) (pc' := 160) rfl (hb hby at_156) (by decide) (by decide) kz) ?_
      show own_Fin p e below G (T127.setTop (mkF m 160 #[.val (.int p0), .val (.int p1), .val (.int p2), .val (.int p3), .val (.int p4), .val (.ref b1), .val (.int v6_36), .val (.int v7_36), .val (.int v8_36), .val (.int (v6_36 <<< ((8 : Int32) &&& 31))), .val (.int (1 : Int32)), .val (.int (1 : Int32)), .val (.int v12_111), .val (.int (1 : Int32))] [(.int (1 : Int32))]))
      exact own_retN X127 hx hlk hG (t := .boolean) Bd.returns (by simp) (hb hby at_160) (by decide) (by decide) (by rw [e127]; exact ⟨rfl, N127, trivial⟩)
    exact K111 ((1 : Int32) + ((p4 &&& (2147483647 : Int32)) % (31 : Int32))) (own_r31 _)
  exact K36 (p1 &&& (3 : Int32)) (p2 &&& (255 : Int32)) (p3 &&& (255 : Int32)) (own_m3 _) (own_m255 _) (own_m255 _)
set_option maxRecDepth 65536 in
set_option maxHeartbeats 40000000 in
theorem comes_1 {Post : Tables → Env → Array Value → State → Outcome → State → Prop} (hpost : ∀ tb e args s v u, (limb_1_1.after args s (.returned v) u = true ∧ limb_1_2.after args s (.returned v) u = true ∧ True) → FrameEnd s (.returned v) u (Jvm.fieldLocs frame_1_writes args s ++ Jvm.arrayLocs frame_1_arrays args s ++ Jvm.staticLocs frame_1_statics s) 16 2112 → Post tb e args s (.returned v) u) :
    ArmFor flags0 classFile x code maxLocals ret World_1 tables_1 room_1 Calls_1 rest_1 Pre_1 Post := by
  intro l hfl _ _ p e ha hc hk s m args below hf hA hF happ hP
  obtain ⟨hcalls, hrest, hpre⟩ := hP
  obtain ⟨-, -, -, hnamed, -, -, -, hat⟩ := (Spec.applies_iff hf).mp happ
  obtain ⟨hg, hn⟩ := and_e (Cond.before_iff.mp (show (Jvm.Cond.and given_1 narrow_1).before args s = true from hpre))
  obtain ⟨gg1, gg2⟩ := and_e hg
  obtain ⟨gg3, gg4⟩ := and_e gg2
  obtain ⟨gg5, gg6⟩ := and_e gg4
  obtain ⟨gg7, gg8⟩ := and_e gg6
  obtain ⟨gg9, gg10⟩ := and_e gg8
  obtain ⟨w0, w1, w2, w3, w4, rfl⟩ : ∃ w0 w1 w2 w3 w4 : Value, args = #[w0, w1, w2, w3, w4] := by
    have hs : args.size = 5 := by simpa [Cond.value, given_1] using gg1
    obtain ⟨L⟩ := args
    match L, hs with
    | [w0, w1, w2, w3, w4], _ => exact ⟨w0, w1, w2, w3, w4, rfl⟩
  have hw := fun d (hd : d ∈ tables_1) => atoms_spec (ws := Jvm.Cond.code x code maxLocals ret :: tables_1) hat d (List.mem_cons_of_mem _ hd)
  obtain ⟨i0, ei0⟩ := is_v gg3
  obtain rfl : w0 = (.int i0) := Option.some.inj ei0
  obtain ⟨i1, ei1⟩ := is_v gg5
  obtain rfl : w1 = (.int i1) := Option.some.inj ei1
  obtain ⟨i2, ei2⟩ := is_v gg7
  obtain rfl : w2 = (.int i2) := Option.some.inj ei2
  obtain ⟨i3, ei3⟩ := is_v gg9
  obtain rfl : w3 = (.int i3) := Option.some.inj ei3
  obtain ⟨i4, ei4⟩ := is_v gg10
  obtain rfl : w4 = (.int i4) := Option.some.inj ei4
  obtain ⟨n, o, h1, h2, h3, v, L, rfl, ⟨hv, N, -⟩, hq⟩ := rm0 l s _ hw tables_1 i0 i1 i2 i3 i4 s.heap s.heap.size (Nat.le_refl _) p e ha hc hk s m _ below hf ((Spec.applies_iff_loose hf).mp happ).1 ⟨rfl, State.Warmed39.refl s, rfl⟩ trivial
  obtain rfl : v = some (.int 1) := hv
  refine ⟨n, _, h1, h2, h3, hpost _ _ _ _ _ _ ⟨Cond.after_iff.mpr rfl, Cond.after_iff.mpr (eq_i res_at (Term.int_eval (1)) rfl), trivial⟩ ⟨hq.1, hq.2.1, (hq.2.2.sift fun y hy => Or.inr (N y hy)).mono (by decide) (by decide)⟩⟩
theorem main_1_1 : Claimed_1_1 := comes_1 fun _ _ _ _ _ _ h hF => ⟨h.1, hF⟩
theorem main_1_2 : Claimed_1_2 := comes_1 fun _ _ _ _ _ _ h hF => ⟨h.2.1, hF⟩
end Jvm.Pilot.@@N@@
namespace Jvm.Pilot.@@N@@
open Jvm Jvm.ClassFile Sem Op Lib Jvm.Free Jvm.Stand Jvm.Pilot.@@N@@.Jvm.D
/-! MADE BY PROGRAM (witnessworld.py) out of the Statement's table words and the real class files: 9 classes; the members and pool entries that the words name. The judged class is class 1, her method 3. -/
namespace start1
open Jvm.ClassFile
def u (s : String) : CpInfo := .utf8 (stringToUtf16 s)
/-- a pool by its gaps: so many unusable entries, then the entry; so many at the end -/
def gap : Nat → List CpInfo → List CpInfo
  | 0, r => r
  | n + 1, r => .unusable :: gap n r
def poolList (es : List (Nat × CpInfo)) (last : Nat) : List CpInfo := es.foldr (fun e r => gap e.1 (e.2 :: r)) (gap last [])
def pool (es : List (Nat × CpInfo)) (last : Nat) : Array CpInfo := ⟨poolList es last⟩
def fileOf (pool : Array CpInfo) (this : Nat) (attrs : Array Attribute := #[]) (ms : Array MethodInfo := #[]) (fl : Nat := 33) (sup : Nat := 0) (ifs : Array Nat := #[]) (fds : Array FieldInfo := #[]) : ClassFile where
  minorVersion := 0
  majorVersion := 65
  constantPool := pool
  accessFlags := fl
  thisClass := this
  superClass := sup
  interfaces := ifs
  fields := fds
  methods := ms
  attributes := attrs
def plain (name : String) (sup : Option ClassId) : Class where
  name := name
  kind := .ordinary
  loader := none
  accessFlags := 33
  super := sup
  interfaces := #[]
  cf := none
  fields := #[]
  methods := #[]
  instanceTypes := #[]
  staticTypes := #[]
  resolved := #[]
  callSites := []
  init := .initialized
  statics := none
  mirror := none

def pool0 : Array CpInfo := pool [(5, u "<init>"), (0, u "()V"), (1, .class_ 10), (1, u "java/lang/Object")] 113

def k0m0 : Method := { name := "<init>", desc := "()V", sig := { parameters := [], returnType := none }, accessFlags := 1, code := none }
/-- java/lang/Object -/
def k0 : Class := { plain "java/lang/Object" none with
  accessFlags := 33
  interfaces := #[]
  cf := some (fileOf pool0 8 #[] #[{ accessFlags := 1, nameIndex := 5, descriptorIndex := 6, attributes := #[] }] 33 0 #[] #[])
  fields := #[]
  methods := #[k0m0]
  instanceTypes := #[]
  staticTypes := #[]
  resolved := Array.replicate 124 none
  statics := none }

def pool1 : Array CpInfo := pool [(2, .class_ 4), (1, u "java/lang/Object"), (0, u "<init>"), (0, u "()V"), (0, .integer 2197175160), (0, .methodref 9 10), (0, .class_ 11), (0, .nameAndType 12 13), (0, u "com/example/resync/resync/codec/Crc32cArithmetic"), (0, u "timesTable"), (0, u "(I)[I"), (0, .methodref 15 16), (0, .class_ 17), (0, .nameAndType 18 19), (0, u "com/example/resync/resync/codec/Crc32cArithmeticTimesTablePinLaw"), (0, u "bitEntry"), (0, u "([II)I"), (0, .integer 2147483647), (0, .methodref 15 22), (0, .nameAndType 23 24), (0, u "timesX"), (0, u "(I)I"), (3, u "law"), (0, u "(IIIII)Z")] 4

def k1m0 : Method := { name := "<init>", desc := "()V", sig := { parameters := [], returnType := none }, accessFlags := 1, code := none }
def k1c1 : Code := { maxStack := 2, maxLocals := 2, code := method_2_code, exceptionTable := #[], attributes := #[] }
def k1m1 : Method := { name := "timesX", desc := "(I)I", sig := { parameters := [.int], returnType := some .int }, accessFlags := 10, code := some k1c1 }
def k1c2 : Code := { maxStack := 5, maxLocals := 2, code := method_3_code, exceptionTable := #[], attributes := #[] }
def k1m2 : Method := { name := "bitEntry", desc := "([II)I", sig := { parameters := [(.array .int), .int], returnType := some .int }, accessFlags := 10, code := some k1c2 }
def k1c3 : Code := { maxStack := 5, maxLocals := 14, code := code, exceptionTable := #[], attributes := #[] }
def k1m3 : Method := { name := "law", desc := "(IIIII)Z", sig := { parameters := [.int, .int, .int, .int, .int], returnType := some .boolean }, accessFlags := 9, code := some k1c3 }
/-- com/example/resync/resync/codec/Crc32cArithmeticTimesTablePinLaw -/
def k1 : Class := { plain "com/example/resync/resync/codec/Crc32cArithmeticTimesTablePinLaw" (some 0) with
  accessFlags := 49
  interfaces := #[]
  cf := some (fileOf pool1 15 #[] #[{ accessFlags := 1, nameIndex := 5, descriptorIndex := 6, attributes := #[] }, { accessFlags := 10, nameIndex := 23, descriptorIndex := 24, attributes := #[] }, { accessFlags := 10, nameIndex := 18, descriptorIndex := 19, attributes := #[] }, { accessFlags := 9, nameIndex := 28, descriptorIndex := 29, attributes := #[] }] 49 2 #[] #[])
  fields := #[]
  methods := #[k1m0, k1m1, k1m2, k1m3]
  instanceTypes := #[]
  staticTypes := #[]
  resolved := Array.replicate 34 none
  statics := none }

def pool2 : Array CpInfo := pool [(2, .class_ 4), (1, u "java/lang/Object"), (0, u "<init>"), (0, u "()V"), (6, .class_ 14), (0, u "com/example/resync/resync/codec/Crc32cArithmetic"), (12, u "TIMES_X32"), (0, u "[I"), (12, .integer 2197175160), (2, u "timesTable"), (0, u "(I)[I"), (6, u "OVER_X32"), (0, u "I"), (0, u "ONE"), (1, u "POLYNOMIAL"), (0, u "EVERY_FOURTH"), (0, u "J"), (0, u "EVERY_FOURTH_WIDE")] 9

def k2m0 : Method := { name := "<init>", desc := "()V", sig := { parameters := [], returnType := none }, accessFlags := 2, code := none }
def k2c1 : Code := { maxStack := 7, maxLocals := 6, code := prog_26_method_7_code, exceptionTable := #[], attributes := #[] }
def k2m1 : Method := { name := "timesTable", desc := "(I)[I", sig := { parameters := [.int], returnType := some (.array .int) }, accessFlags := 9, code := some k2c1 }
/-- com/example/resync/resync/codec/Crc32cArithmetic -/
def k2 : Class := { plain "com/example/resync/resync/codec/Crc32cArithmetic" (some 0) with
  accessFlags := 49
  interfaces := #[]
  cf := some (fileOf pool2 13 #[] #[{ accessFlags := 2, nameIndex := 5, descriptorIndex := 6, attributes := #[] }, { accessFlags := 9, nameIndex := 44, descriptorIndex := 45, attributes := #[] }] 49 2 #[] #[{ accessFlags := 25, nameIndex := 54, descriptorIndex := 53, attributes := #[] }, { accessFlags := 26, nameIndex := 56, descriptorIndex := 53, attributes := #[] }, { accessFlags := 26, nameIndex := 27, descriptorIndex := 28, attributes := #[] }, { accessFlags := 25, nameIndex := 52, descriptorIndex := 53, attributes := #[] }, { accessFlags := 26, nameIndex := 57, descriptorIndex := 58, attributes := #[] }, { accessFlags := 26, nameIndex := 59, descriptorIndex := 58, attributes := #[] }])
  fields := #[{ name := "ONE", type := .int, accessFlags := 25, slot := 0, constantValue := 0 }, { name := "POLYNOMIAL", type := .int, accessFlags := 26, slot := 1, constantValue := 0 }, { name := "TIMES_X32", type := (.array .int), accessFlags := 26, slot := 2, constantValue := 0 }, { name := "OVER_X32", type := .int, accessFlags := 25, slot := 3, constantValue := 0 }, { name := "EVERY_FOURTH", type := .long, accessFlags := 26, slot := 4, constantValue := 0 }, { name := "EVERY_FOURTH_WIDE", type := .long, accessFlags := 26, slot := 5, constantValue := 0 }]
  methods := #[k2m0, k2m1]
  instanceTypes := #[]
  staticTypes := #[.int, .int, (.array .int), .int, .long, .long]
  resolved := Array.replicate 69 none
  statics := none }

def pool3 : Array CpInfo := pool [(1, u "java/lang/Cloneable"), (0, .class_ 1), (0, u "java/lang/Object"), (0, .class_ 3)] 3

/-- java/lang/Cloneable -/
def k3 : Class := { plain "java/lang/Cloneable" (some 0) with
  accessFlags := 1537
  interfaces := #[]
  cf := some (fileOf pool3 2 #[] #[] 1537 4 #[] #[])
  fields := #[]
  methods := #[]
  instanceTypes := #[]
  staticTypes := #[]
  resolved := Array.replicate 8 none
  statics := none }

def pool4 : Array CpInfo := pool [(1, u "java/io/Serializable"), (0, .class_ 1), (0, u "java/lang/Object"), (0, .class_ 3)] 3

/-- java/io/Serializable -/
def k4 : Class := { plain "java/io/Serializable" (some 0) with
  accessFlags := 1537
  interfaces := #[]
  cf := some (fileOf pool4 2 #[] #[] 1537 4 #[] #[])
  fields := #[]
  methods := #[]
  instanceTypes := #[]
  staticTypes := #[]
  resolved := Array.replicate 8 none
  statics := none }

/-- the primitive byte -/
def k5 : Class := { plain "byte" none with kind := .primitive 'B', accessFlags := 0x411 }
/-- [B -/
def k6 : Class := { plain "[B" (some 0) with kind := .array 5 .byte, interfaces := #[3, 4], accessFlags := 1041 }

/-- the primitive int -/
def k7 : Class := { plain "int" none with kind := .primitive 'I', accessFlags := 0x411 }
/-- [I -/
def k8 : Class := { plain "[I" (some 0) with kind := .array 7 .int, interfaces := #[3, 4], accessFlags := 1041 }

def heap : Heap := #[]
def classes : Array Class := #[k0, k1, k2, k3, k4, k5, k6, k7, k8]
def interned : List (Array UInt16 × Addr) := []
def slotsUsed : Nat := 0
def theMethod : MethodId := ⟨1, 3⟩
def args0 : Array Value := #[.int 5, .int 6, .int 7, .int 8, .int 9]
def aboutOver (below : List Frame) : State where
  vm := { classes := classes, interned := interned.toArray }
  heap := heap
  slotsUsed := slotsUsed
  threads := #[{ frames := .invoking theMethod args0 :: below }]
def below0 : List Frame := [.native { method := ⟨0, 0⟩, args := #[] }]
def about1 : State := aboutOver below0
def p0 : Program := .bare "" "" ""
def e0 : Env := launch0.env 0 0 0
theorem w_frames : about1.frames = Frame.invoking theMethod args0 :: below0 := rfl
set_option maxRecDepth 65536 in
theorem w_args : argsFit about1.vm theMethod args0 = true := by decide +kernel
set_option maxRecDepth 65536 in
theorem w_heap : heapFits about1 = true := by decide +kernel
set_option maxRecDepth 65536 in
theorem w_runnable : about1.curStatus? = some .runnable := by decide +kernel
set_option maxRecDepth 65536 in
theorem w_alone : about1.alone = true := by decide +kernel
set_option maxRecDepth 65536 in
theorem w_named : about1.methodNamed? x = some theMethod := by decide +kernel
set_option maxRecDepth 65536 in
theorem w_hears : about1.hears theMethod below0 = true := by decide +kernel
set_option maxRecDepth 65536 in
theorem w_ripe : about1.ripe theMethod args0 below0 = true := by decide +kernel
theorem w_running : about1.status = .running := rfl
set_option maxRecDepth 65536 in
theorem w_room : about1.hasRoom e0.platform room_1 = true :=
  launch0.hasRoom_least _ room_1 (by decide +kernel) (by decide +kernel) (by decide +kernel) (by decide +kernel) (by decide +kernel) (by decide +kernel)
theorem allAtoms_all (ts : List Jvm.Cond) (a : Array Jvm.Value) (st : Jvm.State) : (allAtoms ts).before a st = ts.all (fun c => c.before a st) := by
  induction ts with
  | nil => rfl
  | cons c t ih =>
    show (Jvm.Cond.and c (allAtoms t)).before a st = _
    rw [Jvm.Cond.before_and, ih, List.all_cons]
def words1 : List Jvm.Cond := Jvm.Cond.code x code maxLocals ret :: tables_1
/-- a 'code' word, met by the world's own term for the bytes: nothing is compared byte by byte -/
theorem code_word {y : MethodName} {bytes : ByteArray} {mx : Nat} {rt : Option FieldType} {a : Array Value} {s : State} {m : MethodId} {meth : Method} {c : Code} (h1 : s.methodNamed? y = some m) (h2 : s.vm.method? m = some meth) (h3 : meth.code = some c) (h4 : c.code = bytes)
    (h5 : (c.maxLocals == mx && c.exceptionTable.isEmpty && decide (c.maxStack ≤ mostOperands) && decide (meth.sig.returnType = rt) && !meth.locks && decide (parseMethodDescriptor y.desc = some meth.sig)) = true) : (Jvm.Cond.code y bytes mx rt).before a s = true := by
  simp only [Bool.and_eq_true, beq_iff_eq, Bool.not_eq_true', decide_eq_true_eq] at h5
  obtain ⟨⟨⟨⟨⟨g1, g2⟩, g3⟩, g4⟩, g5⟩, g6⟩ := h5
  simp [Cond.before, Cond.holds, Cond.value, h1, h2, h3, h4, g1, g2, g3, g4, g5, g6]
def isCode : Jvm.Cond → Bool
  | .code _ _ _ _ => true
  | _ => false
theorem all_split {L : List Jvm.Cond} {P : Jvm.Cond → Bool} (h1 : L.all (fun c => isCode c || P c) = true) (h2 : ∀ c ∈ L.filter isCode, P c = true) : L.all P = true := by
  refine List.all_eq_true.mpr fun c hc => ?_
  have h := List.all_eq_true.mp h1 c hc
  rcases Bool.eq_false_or_eq_true (isCode c) with hi | hi
  · exact h2 c (List.mem_filter.mpr ⟨hc, hi⟩)
  · simpa [hi] using h
set_option maxRecDepth 65536 in
theorem w_c0 : (Jvm.Cond.code x code maxLocals ret).before args0 about1 = true := code_word (m := ⟨1, 3⟩) (meth := k1m3) (c := k1c3) (by decide +kernel) rfl rfl rfl (by decide +kernel)
set_option maxRecDepth 65536 in
theorem w_c1 : (Jvm.Cond.code ({ cls := "com/example/resync/resync/codec/Crc32cArithmetic", name := "timesTable", desc := "(I)[I" } : Jvm.MethodName) prog_26_method_7_code (6 : Nat) (Option.some (Jvm.ClassFile.FieldType.array Jvm.ClassFile.FieldType.int))).before args0 about1 = true := code_word (m := ⟨2, 1⟩) (meth := k2m1) (c := k2c1) (by decide +kernel) rfl rfl rfl (by decide +kernel)
set_option maxRecDepth 65536 in
theorem w_c2 : (Jvm.Cond.code ({ cls := "com/example/resync/resync/codec/Crc32cArithmeticTimesTablePinLaw", name := "bitEntry", desc := "([II)I" } : Jvm.MethodName) method_3_code (2 : Nat) (Option.some Jvm.ClassFile.FieldType.int)).before args0 about1 = true := code_word (m := ⟨1, 2⟩) (meth := k1m2) (c := k1c2) (by decide +kernel) rfl rfl rfl (by decide +kernel)
set_option maxRecDepth 65536 in
theorem w_c3 : (Jvm.Cond.code ({ cls := "com/example/resync/resync/codec/Crc32cArithmeticTimesTablePinLaw", name := "timesX", desc := "(I)I" } : Jvm.MethodName) method_2_code (2 : Nat) (Option.some Jvm.ClassFile.FieldType.int)).before args0 about1 = true := code_word (m := ⟨1, 1⟩) (meth := k1m1) (c := k1c1) (by decide +kernel) rfl rfl rfl (by decide +kernel)
def codes1 : List Jvm.Cond := [Jvm.Cond.code x code maxLocals ret, Jvm.Cond.code ({ cls := "com/example/resync/resync/codec/Crc32cArithmetic", name := "timesTable", desc := "(I)[I" } : Jvm.MethodName) prog_26_method_7_code (6 : Nat) (Option.some (Jvm.ClassFile.FieldType.array Jvm.ClassFile.FieldType.int)), Jvm.Cond.code ({ cls := "com/example/resync/resync/codec/Crc32cArithmeticTimesTablePinLaw", name := "bitEntry", desc := "([II)I" } : Jvm.MethodName) method_3_code (2 : Nat) (Option.some Jvm.ClassFile.FieldType.int), Jvm.Cond.code ({ cls := "com/example/resync/resync/codec/Crc32cArithmeticTimesTablePinLaw", name := "timesX", desc := "(I)I" } : Jvm.MethodName) method_2_code (2 : Nat) (Option.some Jvm.ClassFile.FieldType.int)]
set_option maxRecDepth 65536 in
theorem codes_eq : words1.filter isCode = codes1 := rfl
theorem w_codes : ∀ c ∈ words1.filter isCode, c.before args0 about1 = true := by
  rw [codes_eq]
  intro c hc
  simp only [codes1, List.mem_cons, List.not_mem_nil, or_false] at hc
  rcases hc with rfl | rfl | rfl | rfl
  · exact w_c0
  · exact w_c1
  · exact w_c2
  · exact w_c3
set_option maxRecDepth 65536 in
theorem w_t1 : words1.all (fun c => isCode c || c.before args0 about1) = true := by decide +kernel
theorem w_tables : (allAtoms (Jvm.Cond.code x code maxLocals ret :: tables_1)).before args0 about1 = true := by
  rw [allAtoms_all]
  show words1.all (fun c => c.before args0 about1) = true
  refine all_split ?_ w_codes
  rw [w_t1]
set_option maxRecDepth 65536 in
theorem w_case : (Jvm.Cond.and given_1 narrow_1).before args0 about1 = true := by decide +kernel
theorem w_applies : (headSpec (Jvm.Cond.code x code maxLocals ret :: tables_1) room_1).applies x e0.platform about1 = true :=
  (Spec.applies_iff w_frames).mpr ⟨w_running, w_runnable, w_alone, w_named, w_hears, w_ripe, w_room, w_tables⟩
theorem atStart : AtStart classFile x code maxLocals ret World_1 tables_1 room_1 Calls_1 rest_1 Pre_1 launch0 p0 e0 about1 theMethod args0 below0 :=
  ⟨lists_1, trivial, launch0.admits_env _ _ _, launch0.least_env, fairChoices_fair.cas, fairChoices_fair.clock, w_frames, w_args, w_heap, w_applies, trivial, trivial, w_case⟩
end start1
theorem witness_1 : WitnessClaimed_1 := ⟨start1.p0, start1.e0, start1.about1, start1.theMethod, start1.args0, start1.below0, start1.atStart⟩
end Jvm.Pilot.@@N@@
