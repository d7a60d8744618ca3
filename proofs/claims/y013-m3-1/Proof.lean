import JvmDerived
import JvmDerived.Pilot.@@N@@Statement
import JvmDerived.Pilot.@@N@@Code
set_option linter.unusedVariables false
set_option linter.unusedSimpArgs false

namespace Jvm.Pilot.@@N@@
open Jvm Jvm.ClassFile Sem Op Lib Jvm.Free Jvm.Stand Jvm.LawKit Jvm.RoadKit Bundle Jvm.Pilot.@@N@@.Jvm.D

section OwnKit
variable {p : Program} {l : Launch} {e : Env} {R : Room} {s : State} {m : MethodId} {args : Array Value} {below : List Frame} {meth : Method} {c : Code} {T : State} {locs : List Loc} {cells slots : Nat} {G : Outcome → State → Prop} {Q : Option Value → Heap → List Loc → Prop} {C S : Nat} {Z : State} {h h' : Heap}
/-- from the state t the invocation comes to an end of which G holds -/
def own_Fin (p : Program) (e : Env) (below : List Frame) (G : Outcome → State → Prop) (t : State) : Prop := ∃ s₂ o, Steps p.tables e below t s₂ ∧ s₂.status = .running ∧ Ended s₂ below o ∧ G o s₂
def own_G (s : State) (Q : Option Value → Heap → List Loc → Prop) (C S : Nat) (o : Outcome) (U' : State) : Prop := ∃ v L, o = .returned v ∧ Q v U'.heap L ∧ FrameEnd s o U' L C S
theorem own_to {t u : State} (h : ∀ z, Steps p.tables e below u z → Steps p.tables e below t z) (k : own_Fin p e below G u) : own_Fin p e below G t := by
  obtain ⟨a, b, c, d⟩ := k; exact ⟨a, b, h _ c, d⟩
theorem own_via {t u : State} (h : Steps p.tables e below t u) (k : own_Fin p e below G u) : own_Fin p e below G t := own_to (fun _ kz => h.trans kz) k
theorem own_retW (X : Stand p l e R s m args below meth c T locs cells slots) (hx : p.tables.exec = Jvm.exec) (hlk : meth.locks = false) (hG : G = own_G s Q C S) {f : JFrame} {w : Option Value} (hv : meth.sig.returnType = none → w = none)
    (st : ∀ fs, (∀ (f : JFrame) (acts : List Action), f.method = m → f.locked = none → f.entered = [] → (doReturn e (T.setTop f) acts w).1 = T.setFrames fs) → Steps p.tables e below (T.setTop f) (T.setFrames fs))
    (hc : cells ≤ C) (hs : slots ≤ S) (hQ : Q w T.heap locs) : own_Fin p e below G (T.setTop f) := by
  subst hG
  obtain ⟨fs, hr, hrun, hended, hW, hsame⟩ := X.leave (v := w) hv hlk
  exact ⟨_, _, st fs hr, hrun, hended, _, _, rfl, hQ, ⟨_, rfl⟩, hW, hsame.mono hc hs⟩
theorem own_retI (X : Stand p l e R s m args below meth c T locs cells slots) (hx : p.tables.exec = Jvm.exec) (hlk : meth.locks = false) (hG : G = own_G s Q C S) {pc : Nat} {Ls : Array Slot} {z : Int32} {rest : List Value} (hret : meth.sig.returnType = some .int) (hd : decode c.code pc = .ok (.ireturn, 1))
    (hc : cells ≤ C) (hs : slots ≤ S) (hQ : Q (some (.int z)) T.heap locs) : own_Fin p e below G (T.setTop (mkF m pc Ls (.int z :: rest))) :=
  own_retW X hx hlk hG (w := some (.int z)) (fun h => by rw [hret] at h; cases h) (fun fs hr => retOut X hx hret rfl (Or.inl ⟨rfl, Or.inl rfl, z, rfl⟩) hd hr) hc hs hQ
theorem own_retJ (X : Stand p l e R s m args below meth c T locs cells slots) (hx : p.tables.exec = Jvm.exec) (hlk : meth.locks = false) (hG : G = own_G s Q C S) {pc : Nat} {Ls : Array Slot} {z : Int64} {rest : List Value} (hret : meth.sig.returnType = some .long) (hd : decode c.code pc = .ok (.lreturn, 1))
    (hc : cells ≤ C) (hs : slots ≤ S) (hQ : Q (some (.long z)) T.heap locs) : own_Fin p e below G (T.setTop (mkF m pc Ls (.long z :: rest))) :=
  own_retW X hx hlk hG (w := some (.long z)) (fun h => by rw [hret] at h; cases h) (fun fs hr => retOut X hx hret rfl (Or.inr (Or.inl ⟨rfl, rfl, z, rfl⟩)) hd hr) hc hs hQ
theorem own_retA (X : Stand p l e R s m args below meth c T locs cells slots) (hx : p.tables.exec = Jvm.exec) (hlk : meth.locks = false) (hG : G = own_G s Q C S) {pc : Nat} {Ls : Array Slot} {w : Value} {rest : List Value} {t : FieldType} (hret : meth.sig.returnType = some t) (ht : t.isReference = true) (hw : w.isRef = true) (hd : decode c.code pc = .ok (.areturn, 1))
    (hc : cells ≤ C) (hs : slots ≤ S) (hQ : Q (some w) T.heap locs) : own_Fin p e below G (T.setTop (mkF m pc Ls (w :: rest))) :=
  own_retW X hx hlk hG (w := some w) (fun h => by rw [hret] at h; cases h) (fun fs hr => retOut X hx hret (by rcases ref_cases hw with rfl | ⟨a, rfl⟩ <;> cases t <;> first | rfl | (simp [FieldType.isReference] at ht)) (Or.inr (Or.inr (Or.inr (Or.inr ⟨rfl, ht, hw⟩)))) hd hr) hc hs hQ
theorem own_retN (X : Stand p l e R s m args below meth c T locs cells slots) (hx : p.tables.exec = Jvm.exec) (hlk : meth.locks = false) (hG : G = own_G s Q C S) {pc : Nat} {Ls : Array Slot} {z : Int32} {rest : List Value} {t : FieldType} (hret : meth.sig.returnType = some t) (ht : t = .boolean ∨ t = .byte ∨ t = .char ∨ t = .short) (hd : decode c.code pc = .ok (.ireturn, 1))
    (hc : cells ≤ C) (hs : slots ≤ S) (hQ : Q (some (.int (nar t z))) T.heap locs) : own_Fin p e below G (T.setTop (mkF m pc Ls (.int z :: rest))) :=
  own_retW X hx hlk hG (w := some (.int (nar t z))) (fun h => by rw [hret] at h; cases h) (fun fs hr => retN X hx hret ht hd hr) hc hs hQ
theorem own_retV (X : Stand p l e R s m args below meth c T locs cells slots) (hx : p.tables.exec = Jvm.exec) (hlk : meth.locks = false) (hG : G = own_G s Q C S) {pc : Nat} {Ls : Array Slot} (hret : meth.sig.returnType = none) (hd : decode c.code pc = .ok (.return_, 1))
    (hc : cells ≤ C) (hs : slots ≤ S) (hQ : Q none T.heap locs) : own_Fin p e below G (T.setTop (mkF m pc Ls [])) :=
  own_retW X hx hlk hG (w := none) (fun _ => rfl) (fun fs hr => X.returnOut hx hret hd hr) hc hs hQ
theorem own_lrem {g : JFrame} {target : State} (X : Stand p l e R s m args below meth c T locs cells slots) (hx : p.tables.exec = Jvm.exec) (hg : g.method = m) {x y : Int64} {rest : List Value} (hd : decode c.code g.pc = .ok (.lrem, 1)) (hs : g.stack = .long y :: .long x :: rest) (hy : y ≠ 0)
    (hr : Steps p.tables e below (T.setTop { g with pc := g.pc + 1, stack := .long (x % y) :: rest }) target) : Steps p.tables e below (T.setTop g) target := by
  have q : x - x / y * y = x % y := lrem_mod x y
  exact XS.lrem X.here hx hg hd hs hy (by rw [q]; exact hr)
def own_Pair (a b : Slot) : Prop := (a = .unset ∧ b = .unset) ∨ ∃ x, a = .val (.long x) ∧ b = .second
/-- the array at a has n places; place i holds mk (f i) -/
def own_AV {α : Type} (mk : α → Value) (Z : State) (h : Heap) (a : Addr) (ty : FieldType) (n : Nat) (f : Nat → α) : Prop := n < 2 ^ 31 ∧ ∃ c : Cell, Arr Z h a c ty ∧ c.slots.size = n ∧ ∀ i, i < n → c.slots[i]? = some (mk (f i))
def own_upd {α : Type} (f : Nat → α) (k : Nat) (v : α) : Nat → α := fun i => if i = k then v else f i
section
variable {α : Type} {mk : α → Value} {a b : Addr} {ty : FieldType} {n : Nat} {f f' : Nat → α} {ws : List Addr} {sl : Nat} {v : Value}
theorem own_AV.lt (F : own_AV mk Z h a ty n f) : a < h.size := by obtain ⟨_, c, A, -⟩ := F; exact A.lt
theorem own_AV.ext (F : own_AV mk Z h a ty n f) (E : Ext h h') : own_AV mk Z h' a ty n f := by obtain ⟨q, c, A, r⟩ := F; exact ⟨q, c, A.ext E, r⟩
theorem own_AV.other (F : own_AV mk Z h b ty n f) (W : Wr h h' a sl v) (q : b ≠ a) : own_AV mk Z h' b ty n f := by obtain ⟨q', c, A, r⟩ := F; exact ⟨q', c, A.other W q, r⟩
theorem own_AV.keep (F : own_AV mk Z h a ty n f) (K : Keep h h' ws) (q : a ∉ ws) : own_AV mk Z h' a ty n f := by obtain ⟨q', c, A, r⟩ := F; exact ⟨q', c, ⟨K.2.1 a c A.1 q, A.2⟩, r⟩
theorem own_AV.congr (F : own_AV mk Z h a ty n f) (q : ∀ i, i < n → f i = f' i) : own_AV mk Z h a ty n f' := by obtain ⟨q', c, A, r, s⟩ := F; exact ⟨q', c, A, r, fun i hi => by rw [s i hi, q i hi]⟩
theorem own_AV.new {k : ClassId} {z : Int32} (A : Arr Z h a (newA k ty z) ty) (q : ¬ z < 0) (hn : z.toNatClampNeg = n) (hf : ∀ i : Nat, defaultValue ty = mk (f i)) : own_AV mk Z h a ty n f := by
  refine ⟨hn ▸ (back32 q).2, _, A, (sz_new _ _ _).trans hn, fun i hi => ?_⟩
  rw [← hf i]; simp [newA, hn, hi]
theorem own_updr {P : α → Prop} {k : Nat} {w : α} (hv : P w) (hf : ∀ i, P (f i)) : ∀ i, P (own_upd f k w i) := fun i => by
  unfold own_upd; split
  · exact hv
  · exact hf i
theorem own_in {c : Cell} {j : Int32} {k : Nat} (S : c.slots.size = n) (hj : ¬ j < 0) (hk : j.toNatClampNeg = k) (hlt : k < n) : ¬ (j < 0 ∨ c.slots.size ≤ j.toNatClampNeg) := fun q => q.elim hj fun r => by omega
theorem own_AV.set {c : Cell} {j : Int32} {k : Nat} {w : α} (nn : n < 2 ^ 31) (A : Arr Z h a c ty) (S : c.slots.size = n) (H : ∀ i, i < n → c.slots[i]? = some (mk (f i))) (W : Wr h h' a j.toNatClampNeg (mk w)) (hk : j.toNatClampNeg = k) : own_AV mk Z h' a ty n (own_upd f k w) := by
  subst hk
  refine ⟨nn, _, A.same W, by rw [sz_set]; exact S, fun i hi => ?_⟩
  show (c.setSlot j.toNatClampNeg (mk w)).slots[i]? = some (mk (if i = j.toNatClampNeg then w else f i))
  simp only [Cell.setSlot]
  by_cases q : i = j.toNatClampNeg
  · subst q; rw [if_pos rfl]; simp [S, hi]
  · rw [if_neg q, Array.getElem?_setIfInBounds_ne (fun r => q r.symm)]; exact H i hi
theorem own_iaload (X : Stand p l e R s m args below meth c T locs cells slots) (hx : p.tables.exec = Jvm.exec) (hZ : Z.Warmed39 s.vm) (eT : T.heap = h) {f : Nat → Int32} (F : own_AV Value.int Z h a .int n f) {j : Int32} {k : Nat} (hj : ¬ j < 0) (hk : j.toNatClampNeg = k) (hlt : k < n)
    {g : JFrame} (hg : g.method = m) {rest : List Value} (hs : g.stack = .int j :: .ref a :: rest) (hd : decode c.code g.pc = .ok (.iaload, 1)) {target : State} (hr : Steps p.tables e below (T.setTop { g with pc := g.pc + 1, stack := .int (f k) :: rest }) target) : Steps p.tables e below (T.setTop g) target := by
  obtain ⟨_, cl, A, S, H⟩ := F
  exact X.iaload hx (j := j) (v := .int (f k)) (by rw [eT]; exact A.1) (State.isArrayOf_alike hZ.alike A.2.1) A.2.2 (own_in S hj hk hlt) (by rw [hk]; exact H k hlt) hg hs hd _ hr
theorem own_laload (X : Stand p l e R s m args below meth c T locs cells slots) (hx : p.tables.exec = Jvm.exec) (hZ : Z.Warmed39 s.vm) (eT : T.heap = h) {f : Nat → Int64} (F : own_AV Value.long Z h a .long n f) {j : Int32} {k : Nat} (hj : ¬ j < 0) (hk : j.toNatClampNeg = k) (hlt : k < n)
    {g : JFrame} (hg : g.method = m) {rest : List Value} (hs : g.stack = .int j :: .ref a :: rest) (hd : decode c.code g.pc = .ok (.laload, 1)) {target : State} (hr : Steps p.tables e below (T.setTop { g with pc := g.pc + 1, stack := .long (f k) :: rest }) target) : Steps p.tables e below (T.setTop g) target := by
  obtain ⟨_, cl, A, S, H⟩ := F
  exact X.laload hx (j := j) (v := .long (f k)) (by rw [eT]; exact A.1) (State.isArrayOf_alike hZ.alike A.2.1) A.2.2 (own_in S hj hk hlt) (by rw [hk]; exact H k hlt) hg hs hd _ hr
theorem own_baload (X : Stand p l e R s m args below meth c T locs cells slots) (hx : p.tables.exec = Jvm.exec) (hZ : Z.Warmed39 s.vm) (eT : T.heap = h) {f : Nat → Int32} (F : own_AV Value.int Z h a .byte n f) {j : Int32} {k : Nat} (hj : ¬ j < 0) (hk : j.toNatClampNeg = k) (hlt : k < n)
    {g : JFrame} (hg : g.method = m) {rest : List Value} (hs : g.stack = .int j :: .ref a :: rest) (hd : decode c.code g.pc = .ok (.baload, 1)) {target : State} (hr : Steps p.tables e below (T.setTop { g with pc := g.pc + 1, stack := .int (f k) :: rest }) target) : Steps p.tables e below (T.setTop g) target := by
  obtain ⟨_, cl, A, S, H⟩ := F
  exact X.baloadBytes hx (j := j) (v := .int (f k)) (by rw [eT]; exact A.1) (State.isArrayOf_alike hZ.alike A.2.1) A.2.2 (own_in S hj hk hlt) (by rw [hk]; exact H k hlt) hg hs hd _ hr
theorem own_cloneI (X : Stand p l e R s m args below meth c T locs cells slots) (hx : p.tables.exec = Jvm.exec) (hZ : Z.Warmed39 s.vm) {a0 : Array Value} {own ad : String} {index : Nat} (hown : s.vm.findClass own = some m.cls)
    (w1 : (Cond.methodLink own index ⟨ad, "clone", "()Ljava/lang/Object;"⟩).before a0 Z = true) (w2 : (Cond.sameMethod ad "java/lang/Object" "clone" "()Ljava/lang/Object;").before a0 Z = true) (w3 : (Cond.native ⟨"java/lang/Object", "clone", "()Ljava/lang/Object;"⟩).before a0 Z = true)
    (w4 : (Cond.instanceMethod ⟨"java/lang/Object", "clone", "()Ljava/lang/Object;"⟩).before a0 Z = true) (w5 : (Cond.selects ad ⟨ad, "clone", "()Ljava/lang/Object;"⟩ ⟨"java/lang/Object", "clone", "()Ljava/lang/Object;"⟩).before a0 Z = true) (w6 : (Cond.castable ad "java/lang/Cloneable").before a0 Z = true)
    (eT : T.heap = h) {f : Nat → Int32} (F : own_AV Value.int Z h a .int n f) (E : Exa Z h a ad) {g : JFrame} (hg : g.method = m) (hsize : g.locals.size = c.maxLocals) {rest : List Value} (hs : g.stack = .ref a :: rest) (hd : decode c.code g.pc = .ok (.invokevirtual index, 3))
    (hf : 1 ≤ R.frames) {W cap : Nat} (hW : 2 * g.monitorRoom + (rest.map fun v => v.category).sum ≤ W) (hl : W + 14 ≤ R.locals) (hcap : n ≤ cap) (hc : cells + 1 ≤ R.cells) (hsl : slots + cap ≤ R.slots) :
    ∃ T' h', Stand p l e R s m args below meth c T' locs (cells + 1) (slots + cap) ∧ T'.heap = h' ∧ Ext h h' ∧ own_AV Value.int Z h' h.size .int n f ∧ Exa Z h' h.size ad ∧
      ∀ target, Steps p.tables e below (T'.setTop { g with pc := g.pc + 3, stack := .ref h.size :: rest }) target → Steps p.tables e below (T.setTop g) target := by
  obtain ⟨nn, cl, A, S, H⟩ := F
  have FC : FitC Z cl := fitC_of A fun i hi v hv => by rw [H i (S ▸ hi)] at hv; cases hv; rfl
  obtain ⟨T', h', X', e', ex, A', E', st⟩ := cloneA X hx hZ hown w1 w2 w3 w4 w5 w6 eT A E FC hg hsize hs hd hf hW hl (by rw [S]; exact hcap) hc hsl
  exact ⟨T', h', X', e', ex, ⟨nn, cloneOf cl, A', S, H⟩, E', st⟩
theorem own_alen (X : Stand p l e R s m args below meth c T locs cells slots) (hx : p.tables.exec = Jvm.exec) (hZ : Z.Warmed39 s.vm) (eT : T.heap = h) (F : own_AV mk Z h a ty n f) {z : Int32} (hz : n.toInt32 = z)
    {g : JFrame} (hg : g.method = m) {rest : List Value} (hs : g.stack = .ref a :: rest) (hd : decode c.code g.pc = .ok (.arraylength, 1)) {target : State} (hr : Steps p.tables e below (T.setTop { g with pc := g.pc + 1, stack := .int z :: rest }) target) : Steps p.tables e below (T.setTop g) target := by
  obtain ⟨_, cl, A, S, H⟩ := F
  exact X.arraylength hx (by rw [eT]; exact A.1) (State.isArrayOf_alike hZ.alike A.2.1) hg hs hd _ (by rw [S, hz]; exact hr)
end
end OwnKit
def own_sum (f : Nat → Int64) : Nat → Int64
  | 0 => 0
  | k + 1 => own_sum f k + f k
theorem own_z32 : (0 : Int32).toInt = 0 := by decide
theorem own_nneg {i : Int32} (h : 0 ≤ i.toInt) : ¬ i < 0 := by rw [Int32.lt_iff_toInt_lt, own_z32]; omega
theorem own_natc {i : Int32} (h : 0 ≤ i.toInt) : (i.toNatClampNeg : Int) = i.toInt := (nat_of (own_nneg h)).symm
theorem own_ofNat {n : Nat} (h : n < 2 ^ 31) : (Int32.ofNat n).toInt = n := Int32.toInt_ofNat_of_lt h
theorem own_inc {i : Int32} {n : Nat} (hn : n < 2 ^ 31) (h : 0 ≤ i.toInt) (h2 : i.toInt < n) : (i + (1 : Int32)).toInt = i.toInt + 1 := by
  have e := c_iadd i 1; have r := rng32 (i + 1); have o : (1 : Int32).toInt = 1 := by decide
  omega
/-- a turn more: i + 1, the place i -/
theorem own_up {i : Int32} {n : Nat} (hn : n < 2 ^ 31) (hi : 0 ≤ i.toInt ∧ i.toInt ≤ n) (hc : i < Int32.ofNat n) :
    (0 ≤ (i + (1 : Int32)).toInt ∧ (i + (1 : Int32)).toInt ≤ n) ∧ (¬ i < 0 ∧ i.toNatClampNeg < n) ∧ (i + (1 : Int32)).toNatClampNeg = i.toNatClampNeg + 1 := by
  rw [Int32.lt_iff_toInt_lt, own_ofNat hn] at hc
  have e := own_inc hn hi.1 hc
  have a := own_natc hi.1
  have b := own_natc (i := i + 1) (by omega)
  exact ⟨by omega, ⟨own_nneg hi.1, by omega⟩, by omega⟩
theorem own_dec {i : Int32} {n k : Nat} (hn : n < 2 ^ 31) (hi : 0 ≤ i.toInt ∧ i.toInt ≤ n) (hc : i < Int32.ofNat n) (hm : n - i.toNatClampNeg = k) : n - (i + (1 : Int32)).toNatClampNeg < k := by
  have h := own_up hn hi hc
  omega
theorem own_last {i : Int32} {n : Nat} (hn : n < 2 ^ 31) (hi : 0 ≤ i.toInt ∧ i.toInt ≤ n) (hc : ¬ i < Int32.ofNat n) : i.toNatClampNeg = n := by
  rw [Int32.lt_iff_toInt_lt, own_ofNat hn] at hc
  have a := own_natc hi.1
  omega

theorem d3_0 : decode jdk_29_method_65_code 0 = .ok (.iload_n 0, 1) := by decide +kernel
theorem d3_1 : decode jdk_29_method_65_code 1 = .ok (.iload_n 1, 1) := by decide +kernel
theorem d3_2 : decode jdk_29_method_65_code 2 = .ok (.if_icmp .lt 7, 3) := by decide +kernel
theorem d3_5 : decode jdk_29_method_65_code 5 = .ok (.iload_n 0, 1) := by decide +kernel
theorem d3_6 : decode jdk_29_method_65_code 6 = .ok (.goto 4, 3) := by decide +kernel
theorem d3_9 : decode jdk_29_method_65_code 9 = .ok (.iload_n 1, 1) := by decide +kernel
theorem d3_10 : decode jdk_29_method_65_code 10 = .ok (.ireturn, 1) := by decide +kernel
theorem ef3 (m : MethodId) (p0 : Int32) (p1 : Int32) : entryFrame m #[(.int p0), (.int p1)] 2 = mkF m 0 #[.val (.int p0), .val (.int p1)] [] := by first | (simp [entryFrame, mkF, argsToLocals, Value.category]; done) | rfl
def f3 (p0 : Int32) (p1 : Int32) : Int32 := if p0 < p1 then p1 else p0
def Q3 (Z : State) (p0 : Int32) (p1 : Int32) (h0 : Heap) (n0 : Nat) (v : Option Value) (h : Heap) (L : List Loc) : Prop := v = some (.int (f3 p0 p1)) ∧ Fr n0 L ∧ h = h0
set_option maxRecDepth 65536 in
set_option maxHeartbeats 40000000 in
theorem rm3 (l : Launch) (Z : State) (a0 : Array Value) (hw : ∀ d ∈ tables_1, d.before a0 Z = true) (ws : List Jvm.Cond) (p0 : Int32) (p1 : Int32) (h0 : Heap) (n0 : Nat) (Z0 : n0 ≤ h0.size) :
    MetFree l (⟨"java/lang/Math", "max", "(II)I"⟩ : MethodName) (head1 (Jvm.Cond.code (⟨"java/lang/Math", "max", "(II)I"⟩ : MethodName) jdk_29_method_65_code 2 (some .int) :: ws) ({ frames := 0, cells := 0, slots := 0, locals := 0 } : Room)) (fun a U => a = #[(.int p0), (.int p1)] ∧ Z.Warmed39 U.vm ∧ U.heap = h0) (fun _ _ _ _ _ => True) (fun _ U o U' => ∃ v L, o = .returned v ∧ Q3 Z p0 p1 h0 n0 v U'.heap L ∧ FrameEnd U o U' L ({ frames := 0, cells := 0, slots := 0, locals := 0 } : Room).cells ({ frames := 0, cells := 0, slots := 0, locals := 0 } : Room).slots) := by
  refine MetFree.of_bodySF (Jvm.Free.JP.mathPlain rfl (by decide +kernel)) hisR ?_
  intro p e s m args below meth c s₁ Bd hml0 hP hK
  obtain ⟨rfl, hZ, hh⟩ := hP
  have hx := Bd.exec
  have hby := Bd.bytes
  have hml : c.maxLocals = 2 := hml0
  have hown : s.vm.findClass "java/lang/Math" = some m.cls := findClass_of_methodNamed Bd.named
  have hnm := (name_of_methodNamed Bd.named Bd.method).1
  have hlk : meth.locks = false := BodyLoose.notSynchronized Bd
  have X0 : Stand p l e ({ frames := 0, cells := 0, slots := 0, locals := 0 } : Room) s m #[(.int p0), (.int p1)] below meth c s₁ [] 0 0 := Stand.of_body Bd
  have e0 : s₁.heap = h0 := by rw [← hh, Bd.state]; rfl
  have N0 := Fr.nil n0
  obtain ⟨G, hG⟩ : ∃ G, G = own_G s (Q3 Z p0 p1 h0 n0) ({ frames := 0, cells := 0, slots := 0, locals := 0 } : Room).cells ({ frames := 0, cells := 0, slots := 0, locals := 0 } : Room).slots := ⟨_, rfl⟩
  show own_Fin p e below (own_G s (Q3 Z p0 p1 h0 n0) ({ frames := 0, cells := 0, slots := 0, locals := 0 } : Room).cells ({ frames := 0, cells := 0, slots := 0, locals := 0 } : Room).slots) (s₁.setTop (entryFrame m #[(.int p0), (.int p1)] 2))
  rw [← hG]
  refine own_to (fun _ kz => castTop (ef3 m p0 p1) kz) ?_
  have q0 : (f3 p0 p1) = (f3 p0 p1) := rfl
  show own_Fin p e below G (s₁.setTop (mkF m 0 #[.val (.int p0), .val (.int p1)] []))
  refine own_to (fun _ kz => XS.iloadN X0.here hx rfl (hb hby d3_0) rfl  kz) ?_
  show own_Fin p e below G (s₁.setTop (mkF m 1 #[.val (.int p0), .val (.int p1)] [(.int p0)]))
  refine own_to (fun _ kz => XS.iloadN X0.here hx rfl (hb hby d3_1) rfl  kz) ?_
  show own_Fin p e below G (s₁.setTop (mkF m 2 #[.val (.int p0), .val (.int p1)] [(.int p1), (.int p0)]))
  by_cases hc2 : p0 < p1
  · refine own_to (fun _ kz => XS.icmpYes X0.here hx rfl (pc0 := 2) (pc' := 9) rfl (hb hby d3_2) rfl (tlt hc2).1 (by decide) (by decide) kz) ?_
    have q2t := q0.trans (if_pos hc2)
    show own_Fin p e below G (s₁.setTop (mkF m 9 #[.val (.int p0), .val (.int p1)] []))
    refine own_to (fun _ kz => XS.iloadN X0.here hx rfl (hb hby d3_9) rfl  kz) ?_
    show own_Fin p e below G (s₁.setTop (mkF m 10 #[.val (.int p0), .val (.int p1)] [(.int p1)]))
    exact own_retI X0 hx hlk hG Bd.returns (hb hby d3_10) (by decide) (by decide) ⟨(congrArg (fun z => some (Value.int z)) q2t).symm, N0, e0⟩
  · refine own_to (fun _ kz => XS.icmpNo X0.here hx rfl (hb hby d3_2) rfl (flt hc2).1 kz) ?_
    have q2f := q0.trans (if_neg hc2)
    show own_Fin p e below G (s₁.setTop (mkF m 5 #[.val (.int p0), .val (.int p1)] []))
    refine own_to (fun _ kz => XS.iloadN X0.here hx rfl (hb hby d3_5) rfl  kz) ?_
    show own_Fin p e below G (s₁.setTop (mkF m 6 #[.val (.int p0), .val (.int p1)] [(.int p0)]))
    refine own_to (fun _ kz => XS.goto X0.here hx rfl (pc0 := 6) (pc' := 10) rfl (hb hby d3_6) (by decide) (by decide) kz) ?_
    show own_Fin p e below G (s₁.setTop (mkF m 10 #[.val (.int p0), .val (.int p1)] [(.int p0)]))
    exact own_retI X0 hx hlk hG Bd.returns (hb hby d3_10) (by decide) (by decide) ⟨(congrArg (fun z => some (Value.int z)) q2f).symm, N0, e0⟩
theorem d4_0 : decode jdk_29_method_28_code 0 = .ok (.iload_n 0, 1) := by decide +kernel
theorem d4_1 : decode jdk_29_method_28_code 1 = .ok (.i2l, 1) := by decide +kernel
theorem d4_2 : decode jdk_29_method_28_code 2 = .ok (.iload_n 1, 1) := by decide +kernel
theorem d4_3 : decode jdk_29_method_28_code 3 = .ok (.i2l, 1) := by decide +kernel
theorem d4_4 : decode jdk_29_method_28_code 4 = .ok (.lmul, 1) := by decide +kernel
theorem d4_5 : decode jdk_29_method_28_code 5 = .ok (.lstore_n 2, 1) := by decide +kernel
theorem d4_6 : decode jdk_29_method_28_code 6 = .ok (.lload_n 2, 1) := by decide +kernel
theorem d4_7 : decode jdk_29_method_28_code 7 = .ok (.l2i, 1) := by decide +kernel
theorem d4_8 : decode jdk_29_method_28_code 8 = .ok (.i2l, 1) := by decide +kernel
theorem d4_9 : decode jdk_29_method_28_code 9 = .ok (.lload_n 2, 1) := by decide +kernel
theorem d4_10 : decode jdk_29_method_28_code 10 = .ok (.lcmp, 1) := by decide +kernel
theorem d4_11 : decode jdk_29_method_28_code 11 = .ok (.ifCond .eq 13, 3) := by decide +kernel
theorem d4_24 : decode jdk_29_method_28_code 24 = .ok (.lload_n 2, 1) := by decide +kernel
theorem d4_25 : decode jdk_29_method_28_code 25 = .ok (.l2i, 1) := by decide +kernel
theorem d4_26 : decode jdk_29_method_28_code 26 = .ok (.ireturn, 1) := by decide +kernel
theorem ef4 (m : MethodId) (p0 : Int32) (p1 : Int32) : entryFrame m #[(.int p0), (.int p1)] 4 = mkF m 0 #[.val (.int p0), .val (.int p1), .unset, .unset] [] := by first | (simp [entryFrame, mkF, argsToLocals, Value.category]; done) | rfl
def f4 (p0 : Int32) (p1 : Int32) : Int32 := (((p0.toInt64) * (p1.toInt64)).toInt32)
def Q4 (Z : State) (p0 : Int32) (p1 : Int32) (h0 : Heap) (n0 : Nat) (v : Option Value) (h : Heap) (L : List Loc) : Prop := v = some (.int (f4 p0 p1)) ∧ Fr n0 L ∧ h = h0
set_option maxRecDepth 65536 in
set_option maxHeartbeats 40000000 in
theorem rm4 (l : Launch) (Z : State) (a0 : Array Value) (hw : ∀ d ∈ tables_1, d.before a0 Z = true) (ws : List Jvm.Cond) (p0 : Int32) (p1 : Int32) (h0 : Heap) (n0 : Nat) (Z0 : n0 ≤ h0.size) (hov : ((((p0.toInt64) * (p1.toInt64)).toInt32).toInt64) = ((p0.toInt64) * (p1.toInt64))) :
    MetFree l (⟨"java/lang/Math", "multiplyExact", "(II)I"⟩ : MethodName) (head1 (Jvm.Cond.code (⟨"java/lang/Math", "multiplyExact", "(II)I"⟩ : MethodName) jdk_29_method_28_code 4 (some .int) :: ws) ({ frames := 0, cells := 0, slots := 0, locals := 0 } : Room)) (fun a U => a = #[(.int p0), (.int p1)] ∧ Z.Warmed39 U.vm ∧ U.heap = h0) (fun _ _ _ _ _ => True) (fun _ U o U' => ∃ v L, o = .returned v ∧ Q4 Z p0 p1 h0 n0 v U'.heap L ∧ FrameEnd U o U' L ({ frames := 0, cells := 0, slots := 0, locals := 0 } : Room).cells ({ frames := 0, cells := 0, slots := 0, locals := 0 } : Room).slots) := by
  refine MetFree.of_bodySF (Jvm.Free.JP.mathPlain rfl (by decide +kernel)) hisR ?_
  intro p e s m args below meth c s₁ Bd hml0 hP hK
  obtain ⟨rfl, hZ, hh⟩ := hP
  have hx := Bd.exec
  have hby := Bd.bytes
  have hml : c.maxLocals = 4 := hml0
  have hown : s.vm.findClass "java/lang/Math" = some m.cls := findClass_of_methodNamed Bd.named
  have hnm := (name_of_methodNamed Bd.named Bd.method).1
  have hlk : meth.locks = false := BodyLoose.notSynchronized Bd
  have X0 : Stand p l e ({ frames := 0, cells := 0, slots := 0, locals := 0 } : Room) s m #[(.int p0), (.int p1)] below meth c s₁ [] 0 0 := Stand.of_body Bd
  have e0 : s₁.heap = h0 := by rw [← hh, Bd.state]; rfl
  have N0 := Fr.nil n0
  obtain ⟨G, hG⟩ : ∃ G, G = own_G s (Q4 Z p0 p1 h0 n0) ({ frames := 0, cells := 0, slots := 0, locals := 0 } : Room).cells ({ frames := 0, cells := 0, slots := 0, locals := 0 } : Room).slots := ⟨_, rfl⟩
  show own_Fin p e below (own_G s (Q4 Z p0 p1 h0 n0) ({ frames := 0, cells := 0, slots := 0, locals := 0 } : Room).cells ({ frames := 0, cells := 0, slots := 0, locals := 0 } : Room).slots) (s₁.setTop (entryFrame m #[(.int p0), (.int p1)] 4))
  rw [← hG]
  refine own_to (fun _ kz => castTop (ef4 m p0 p1) kz) ?_
  have q0 : (f4 p0 p1) = (f4 p0 p1) := rfl
  show own_Fin p e below G (s₁.setTop (mkF m 0 #[.val (.int p0), .val (.int p1), .unset, .unset] []))
  refine own_to (fun _ kz => XS.iloadN X0.here hx rfl (hb hby d4_0) rfl  kz) ?_
  show own_Fin p e below G (s₁.setTop (mkF m 1 #[.val (.int p0), .val (.int p1), .unset, .unset] [(.int p0)]))
  refine own_to (fun _ kz => XS.i2l X0.here hx rfl (hb hby d4_1) rfl kz) ?_
  show own_Fin p e below G (s₁.setTop (mkF m 2 #[.val (.int p0), .val (.int p1), .unset, .unset] [(.long (p0.toInt64))]))
  refine own_to (fun _ kz => XS.iloadN X0.here hx rfl (hb hby d4_2) rfl  kz) ?_
  show own_Fin p e below G (s₁.setTop (mkF m 3 #[.val (.int p0), .val (.int p1), .unset, .unset] [(.int p1), (.long (p0.toInt64))]))
  refine own_to (fun _ kz => XS.i2l X0.here hx rfl (hb hby d4_3) rfl kz) ?_
  show own_Fin p e below G (s₁.setTop (mkF m 4 #[.val (.int p0), .val (.int p1), .unset, .unset] [(.long (p1.toInt64)), (.long (p0.toInt64))]))
  refine own_to (fun _ kz => XS.lmul X0.here hx rfl (hb hby d4_4) rfl kz) ?_
  show own_Fin p e below G (s₁.setTop (mkF m 5 #[.val (.int p0), .val (.int p1), .unset, .unset] [(.long ((p0.toInt64) * (p1.toInt64)))]))
  refine own_to (fun _ kz => XS.lstoreN X0.here hx rfl (hb hby d4_5) rfl (l' := #[.val (.int p0), .val (.int p1), .val (.long ((p0.toInt64) * (p1.toInt64))), .second]) rfl kz) ?_
  show own_Fin p e below G (s₁.setTop (mkF m 6 #[.val (.int p0), .val (.int p1), .val (.long ((p0.toInt64) * (p1.toInt64))), .second] []))
  refine own_to (fun _ kz => XS.lloadN X0.here hx rfl (hb hby d4_6) rfl  kz) ?_
  show own_Fin p e below G (s₁.setTop (mkF m 7 #[.val (.int p0), .val (.int p1), .val (.long ((p0.toInt64) * (p1.toInt64))), .second] [(.long ((p0.toInt64) * (p1.toInt64)))]))
  refine own_to (fun _ kz => XS.l2i X0.here hx rfl (hb hby d4_7) rfl kz) ?_
  show own_Fin p e below G (s₁.setTop (mkF m 8 #[.val (.int p0), .val (.int p1), .val (.long ((p0.toInt64) * (p1.toInt64))), .second] [(.int (((p0.toInt64) * (p1.toInt64)).toInt32))]))
  refine own_to (fun _ kz => XS.i2l X0.here hx rfl (hb hby d4_8) rfl kz) ?_
  show own_Fin p e below G (s₁.setTop (mkF m 9 #[.val (.int p0), .val (.int p1), .val (.long ((p0.toInt64) * (p1.toInt64))), .second] [(.long ((((p0.toInt64) * (p1.toInt64)).toInt32).toInt64))]))
  refine own_to (fun _ kz => XS.lloadN X0.here hx rfl (hb hby d4_9) rfl  kz) ?_
  show own_Fin p e below G (s₁.setTop (mkF m 10 #[.val (.int p0), .val (.int p1), .val (.long ((p0.toInt64) * (p1.toInt64))), .second] [(.long ((p0.toInt64) * (p1.toInt64))), (.long ((((p0.toInt64) * (p1.toInt64)).toInt32).toInt64))]))
  refine own_to (fun _ kz => XS.lcmp X0.here hx rfl (hb hby d4_10) rfl kz) ?_
  show own_Fin p e below G (s₁.setTop (mkF m 11 #[.val (.int p0), .val (.int p1), .val (.long ((p0.toInt64) * (p1.toInt64))), .second] [(.int (lcmpW ((((p0.toInt64) * (p1.toInt64)).toInt32).toInt64) ((p0.toInt64) * (p1.toInt64))))]))
  have hc11 : ((((p0.toInt64) * (p1.toInt64)).toInt32).toInt64) = ((p0.toInt64) * (p1.toInt64)) := hov
  refine own_to (fun _ kz => XS.ifYes X0.here hx rfl (pc0 := 11) (pc' := 24) rfl (hb hby d4_11) rfl ((if0 _ _).trans (teq ((lw_eq _ _).mpr hc11)).1) (by decide) (by decide) kz) ?_
  show own_Fin p e below G (s₁.setTop (mkF m 24 #[.val (.int p0), .val (.int p1), .val (.long ((p0.toInt64) * (p1.toInt64))), .second] []))
  refine own_to (fun _ kz => XS.lloadN X0.here hx rfl (hb hby d4_24) rfl  kz) ?_
  show own_Fin p e below G (s₁.setTop (mkF m 25 #[.val (.int p0), .val (.int p1), .val (.long ((p0.toInt64) * (p1.toInt64))), .second] [(.long ((p0.toInt64) * (p1.toInt64)))]))
  refine own_to (fun _ kz => XS.l2i X0.here hx rfl (hb hby d4_25) rfl kz) ?_
  show own_Fin p e below G (s₁.setTop (mkF m 26 #[.val (.int p0), .val (.int p1), .val (.long ((p0.toInt64) * (p1.toInt64))), .second] [(.int (((p0.toInt64) * (p1.toInt64)).toInt32))]))
  exact own_retI X0 hx hlk hG Bd.returns (hb hby d4_26) (by decide) (by decide) ⟨(congrArg (fun z => some (Value.int z)) q0).symm, N0, e0⟩
theorem own_pd0 : parseMethodDescriptor "(II)I" = some ⟨[.int, .int], some .int⟩ := by decide +kernel
theorem own_pn0 : plainName "com/example/twigwright/twigwright/PathNodeSets" = true := by first | (simp [plainName, overriddenIn]; done) | decide +kernel
theorem d1_0 : decode prog_23_method_1_code 0 = .ok (.aload_n 0, 1) := by decide +kernel
theorem d1_1 : decode prog_23_method_1_code 1 = .ok (.invokespecial 1, 3) := by decide +kernel
theorem d1_4 : decode prog_23_method_1_code 4 = .ok (.aload_n 0, 1) := by decide +kernel
theorem d1_5 : decode prog_23_method_1_code 5 = .ok (.iconst 1, 1) := by decide +kernel
theorem d1_6 : decode prog_23_method_1_code 6 = .ok (.iload_n 2, 1) := by decide +kernel
theorem d1_7 : decode prog_23_method_1_code 7 = .ok (.bipush 64, 2) := by decide +kernel
theorem d1_9 : decode prog_23_method_1_code 9 = .ok (.iadd, 1) := by decide +kernel
theorem d1_10 : decode prog_23_method_1_code 10 = .ok (.iconst 1, 1) := by decide +kernel
theorem d1_11 : decode prog_23_method_1_code 11 = .ok (.isub, 1) := by decide +kernel
theorem d1_12 : decode prog_23_method_1_code 12 = .ok (.bipush 6, 2) := by decide +kernel
theorem d1_14 : decode prog_23_method_1_code 14 = .ok (.iushr, 1) := by decide +kernel
theorem d1_15 : decode prog_23_method_1_code 15 = .ok (.invokestatic 11, 3) := by decide +kernel
theorem d1_18 : decode prog_23_method_1_code 18 = .ok (.putfield 17, 3) := by decide +kernel
theorem d1_21 : decode prog_23_method_1_code 21 = .ok (.aload_n 0, 1) := by decide +kernel
theorem d1_22 : decode prog_23_method_1_code 22 = .ok (.iload_n 1, 1) := by decide +kernel
theorem d1_23 : decode prog_23_method_1_code 23 = .ok (.aload_n 0, 1) := by decide +kernel
theorem d1_24 : decode prog_23_method_1_code 24 = .ok (.getfield 17, 3) := by decide +kernel
theorem d1_27 : decode prog_23_method_1_code 27 = .ok (.invokestatic 21, 3) := by decide +kernel
theorem d1_30 : decode prog_23_method_1_code 30 = .ok (.newarray .long, 2) := by decide +kernel
theorem d1_32 : decode prog_23_method_1_code 32 = .ok (.putfield 24, 3) := by decide +kernel
theorem d1_35 : decode prog_23_method_1_code 35 = .ok (.return_, 1) := by decide +kernel
theorem ef1 (m : MethodId) (ad0 : Addr) : entryFrame m #[(.ref ad0), (.int (2 : Int32)), (.int (128 : Int32))] 3 = mkF m 0 #[.val (.ref ad0), .val (.int (2 : Int32)), .val (.int (128 : Int32))] [] := by first | (simp [entryFrame, mkF, argsToLocals, Value.category]; done) | rfl
def Q1 (Z : State) (ad0 : Addr) (h0 : Heap) (n0 : Nat) (v : Option Value) (h : Heap) (L : List Loc) : Prop := v = none ∧ Fr n0 L ∧ Keep h0 h [ad0] ∧ Exa Z h ad0 "com/example/twigwright/twigwright/PathNodeSets" ∧ Fld Z h ad0 "com/example/twigwright/twigwright/PathNodeSets" "words" "I" (.int (2 : Int32)) ∧ ∃ b : Addr, h0.size ≤ b ∧ Fld Z h ad0 "com/example/twigwright/twigwright/PathNodeSets" "bits" "[J" (.ref b) ∧ own_AV Value.long Z h b .long 4 (fun _ => (0 : Int64))
set_option maxRecDepth 65536 in
set_option maxHeartbeats 40000000 in
theorem rm1 (l : Launch) (Z : State) (a0 : Array Value) (hw : ∀ d ∈ tables_1, d.before a0 Z = true) (ws : List Jvm.Cond) (ad0 : Addr) (h0 : Heap) (n0 : Nat) (Z0 : n0 ≤ h0.size) (E_ad0 : Exa Z h0 ad0 "com/example/twigwright/twigwright/PathNodeSets") (F_words_ad0 : Fld Z h0 ad0 "com/example/twigwright/twigwright/PathNodeSets" "words" "I" (.int (0 : Int32))) (F_bits_ad0 : Fld Z h0 ad0 "com/example/twigwright/twigwright/PathNodeSets" "bits" "[J" .null) (g_ad0 : n0 ≤ ad0) :
    MetFree l (⟨"com/example/twigwright/twigwright/PathNodeSets", "<init>", "(II)V"⟩ : MethodName) (head1 (Jvm.Cond.code (⟨"com/example/twigwright/twigwright/PathNodeSets", "<init>", "(II)V"⟩ : MethodName) prog_23_method_1_code 3 none :: ws) ({ frames := 1, cells := 1, slots := 4, locals := 16 } : Room)) (fun a U => a = #[(.ref ad0), (.int (2 : Int32)), (.int (128 : Int32))] ∧ Z.Warmed39 U.vm ∧ U.heap = h0) (fun _ _ _ _ _ => True) (fun _ U o U' => ∃ v L, o = .returned v ∧ Q1 Z ad0 h0 n0 v U'.heap L ∧ FrameEnd U o U' L ({ frames := 1, cells := 1, slots := 4, locals := 16 } : Room).cells ({ frames := 1, cells := 1, slots := 4, locals := 16 } : Room).slots) := by
  refine MetFree.of_bodySF (plainFor_of_name own_pn0) hisR ?_
  intro p e s m args below meth c s₁ Bd hml0 hP hK
  obtain ⟨rfl, hZ, hh⟩ := hP
  have hx := Bd.exec
  have hby := Bd.bytes
  have hml : c.maxLocals = 3 := hml0
  have hown : s.vm.findClass "com/example/twigwright/twigwright/PathNodeSets" = some m.cls := findClass_of_methodNamed Bd.named
  have hnm := (name_of_methodNamed Bd.named Bd.method).1
  have hlk : meth.locks = false := BodyLoose.notSynchronized Bd
  have X0 : Stand p l e ({ frames := 1, cells := 1, slots := 4, locals := 16 } : Room) s m #[(.ref ad0), (.int (2 : Int32)), (.int (128 : Int32))] below meth c s₁ [] 0 0 := Stand.of_body Bd
  have e0 : s₁.heap = h0 := by rw [← hh, Bd.state]; rfl
  have N0 := Fr.nil n0
  obtain ⟨G, hG⟩ : ∃ G, G = own_G s (Q1 Z ad0 h0 n0) ({ frames := 1, cells := 1, slots := 4, locals := 16 } : Room).cells ({ frames := 1, cells := 1, slots := 4, locals := 16 } : Room).slots := ⟨_, rfl⟩
  show own_Fin p e below (own_G s (Q1 Z ad0 h0 n0) ({ frames := 1, cells := 1, slots := 4, locals := 16 } : Room).cells ({ frames := 1, cells := 1, slots := 4, locals := 16 } : Room).slots) (s₁.setTop (entryFrame m #[(.ref ad0), (.int (2 : Int32)), (.int (128 : Int32))] 3))
  rw [← hG]
  refine own_to (fun _ kz => castTop (ef1 m ad0) kz) ?_
  show own_Fin p e below G (s₁.setTop (mkF m 0 #[.val (.ref ad0), .val (.int (2 : Int32)), .val (.int (128 : Int32))] []))
  refine own_to (fun _ kz => XS.aloadN X0.here hx rfl (hb hby d1_0) rfl (rfl)  kz) ?_
  show own_Fin p e below G (s₁.setTop (mkF m 1 #[.val (.ref ad0), .val (.int (2 : Int32)), .val (.int (128 : Int32))] [(.ref ad0)]))
  obtain ⟨T1, X1, e1, st1⟩ := initO X0 hx hZ hown (hw _ (List.mem_of_getElem? (i := 6) rfl)) (hw _ (List.mem_of_getElem? (i := 7) rfl)) (hw _ (List.mem_of_getElem? (i := 8) rfl)) e0 (g := (mkF m 1 #[.val (.ref ad0), .val (.int (2 : Int32)), .val (.int (128 : Int32))] [(.ref ad0)])) rfl (by rw [hml]; rfl) rfl (hb hby d1_1) (by decide) (W := 0) (by show 2 * 0 + _ ≤ _; exact Nat.le_of_eq rfl) (by decide)
  refine own_to st1 ?_
  show own_Fin p e below G (T1.setTop (mkF m 4 #[.val (.ref ad0), .val (.int (2 : Int32)), .val (.int (128 : Int32))] []))
  refine own_to (fun _ kz => XS.aloadN X1.here hx rfl (hb hby d1_4) rfl (rfl)  kz) ?_
  show own_Fin p e below G (T1.setTop (mkF m 5 #[.val (.ref ad0), .val (.int (2 : Int32)), .val (.int (128 : Int32))] [(.ref ad0)]))
  refine own_to (fun _ kz => XS.iconst X1.here hx rfl (hb hby d1_5) kz) ?_
  show own_Fin p e below G (T1.setTop (mkF m 6 #[.val (.ref ad0), .val (.int (2 : Int32)), .val (.int (128 : Int32))] [(.int (1 : Int32)), (.ref ad0)]))
  refine own_to (fun _ kz => XS.iloadN X1.here hx rfl (hb hby d1_6) rfl  kz) ?_
  show own_Fin p e below G (T1.setTop (mkF m 7 #[.val (.ref ad0), .val (.int (2 : Int32)), .val (.int (128 : Int32))] [(.int (128 : Int32)), (.int (1 : Int32)), (.ref ad0)]))
  refine own_to (fun _ kz => XS.bipush X1.here hx rfl (hb hby d1_7) kz) ?_
  show own_Fin p e below G (T1.setTop (mkF m 9 #[.val (.ref ad0), .val (.int (2 : Int32)), .val (.int (128 : Int32))] [(.int (64 : Int32)), (.int (128 : Int32)), (.int (1 : Int32)), (.ref ad0)]))
  refine own_to (fun _ kz => XS.iadd X1.here hx rfl (hb hby d1_9) rfl kz) ?_
  show own_Fin p e below G (T1.setTop (mkF m 10 #[.val (.ref ad0), .val (.int (2 : Int32)), .val (.int (128 : Int32))] [(.int ((128 : Int32) + (64 : Int32))), (.int (1 : Int32)), (.ref ad0)]))
  refine own_to (fun _ kz => XS.iconst X1.here hx rfl (hb hby d1_10) kz) ?_
  show own_Fin p e below G (T1.setTop (mkF m 11 #[.val (.ref ad0), .val (.int (2 : Int32)), .val (.int (128 : Int32))] [(.int (1 : Int32)), (.int ((128 : Int32) + (64 : Int32))), (.int (1 : Int32)), (.ref ad0)]))
  refine own_to (fun _ kz => XS.isub X1.here hx rfl (hb hby d1_11) rfl kz) ?_
  show own_Fin p e below G (T1.setTop (mkF m 12 #[.val (.ref ad0), .val (.int (2 : Int32)), .val (.int (128 : Int32))] [(.int (((128 : Int32) + (64 : Int32)) - (1 : Int32))), (.int (1 : Int32)), (.ref ad0)]))
  refine own_to (fun _ kz => XS.bipush X1.here hx rfl (hb hby d1_12) kz) ?_
  show own_Fin p e below G (T1.setTop (mkF m 14 #[.val (.ref ad0), .val (.int (2 : Int32)), .val (.int (128 : Int32))] [(.int (6 : Int32)), (.int (((128 : Int32) + (64 : Int32)) - (1 : Int32))), (.int (1 : Int32)), (.ref ad0)]))
  refine own_to (fun _ kz => XS.iushr X1.here hx rfl (hb hby d1_14) rfl kz) ?_
  show own_Fin p e below G (T1.setTop (mkF m 15 #[.val (.ref ad0), .val (.int (2 : Int32)), .val (.int (128 : Int32))] [(.int (((((128 : Int32) + (64 : Int32)) - (1 : Int32)).toUInt32 >>> ((6 : Int32) &&& 31).toUInt32).toInt32)), (.int (1 : Int32)), (.ref ad0)]))
  obtain ⟨_, _, ⟨T15, L15, k15, n15⟩, -, X15, ⟨Lc15, hQ15, l15, y15, z15⟩, st15⟩ := Jvm.LawKit.callS X1 hx (y := (⟨"java/lang/Math", "max", "(II)I"⟩ : MethodName)) hown (mvT hZ (hw _ (List.mem_of_getElem? (i := 9) rfl))) (mvT hZ (hw _ (List.mem_of_getElem? (i := 10) rfl))) (mvT hZ (hw _ (List.mem_of_getElem? (i := 11) rfl))) (mvT hZ (hw _ (List.mem_of_getElem? (i := 12) rfl))) (by decide) (backOf (W := 1) (rm3 l Z a0 hw [] (1 : Int32) (((((128 : Int32) + (64 : Int32)) - (1 : Int32)).toUInt32 >>> ((6 : Int32) &&& 31).toUInt32).toInt32) h0 n0 Z0) hZ (hw _ (List.mem_of_getElem? (i := 12) rfl)) (hw _ (List.mem_of_getElem? (i := 11) rfl)) (by decide) (by decide)) (g := (mkF m 15 #[.val (.ref ad0), .val (.int (2 : Int32)), .val (.int (128 : Int32))] [(.int (((((128 : Int32) + (64 : Int32)) - (1 : Int32)).toUInt32 >>> ((6 : Int32) &&& 31).toUInt32).toInt32)), (.int (1 : Int32)), (.ref ad0)])) rfl (by rw [hml]; rfl) (argsL := [(.int (1 : Int32)), (.int (((((128 : Int32) + (64 : Int32)) - (1 : Int32)).toUInt32 >>> ((6 : Int32) &&& 31).toUInt32).toInt32))]) (rest := [(.ref ad0)]) (lenOf own_pd0 rfl) rfl (by show 2 * 0 + _ ≤ _; exact Nat.le_of_eq rfl) (hb hby d1_15) (fun _ _ => ⟨rfl, e1, (by decide : 0 + 0 ≤ _), (by decide : 0 + 0 ≤ _)⟩)
  dsimp only [Pt.U, Pt.locs, Pt.cells, Pt.slots] at X15 l15 y15 z15 st15 hQ15
  subst l15 y15 z15
  obtain ⟨hv15, N15q, e15⟩ := hQ15
  rw [show (f3 (1 : Int32) (((((128 : Int32) + (64 : Int32)) - (1 : Int32)).toUInt32 >>> ((6 : Int32) &&& 31).toUInt32).toInt32)) = (2 : Int32) from (by decide +kernel)] at hv15
  subst hv15
  obtain ⟨lo15, X15, N15⟩ : ∃ lo, Stand p l e _ s m _ below meth c T15 lo _ _ ∧ Fr n0 lo := ⟨_, X15, Fr.app N0 N15q⟩
  refine own_to st15 ?_
  show own_Fin p e below G (T15.setTop (mkF m 18 #[.val (.ref ad0), .val (.int (2 : Int32)), .val (.int (128 : Int32))] [(.int (2 : Int32)), (.ref ad0)]))
  obtain ⟨T18, h18, X18, e18, W18, st18⟩ := putF X15 hx hZ hown (host := "") (Or.inl (hw _ (List.mem_of_getElem? (i := 13) rfl))) Via.refl e15 F_words_ad0 E_ad0 (Or.inr ⟨(hw _ (List.mem_of_getElem? (i := 14) rfl)), rfl, hnm⟩) (hw _ (List.mem_of_getElem? (i := 1) rfl)) (ty := .int) (by decide) rfl rfl (g := (mkF m 18 #[.val (.ref ad0), .val (.int (2 : Int32)), .val (.int (128 : Int32))] [(.int (2 : Int32)), (.ref ad0)])) rfl rfl (hb hby d1_18)
  refine own_to st18 ?_
  have Fw18 : Fld Z h18 ad0 "com/example/twigwright/twigwright/PathNodeSets" "words" "I" (.int (2 : Int32)) := Fld.same W18 F_words_ad0
  obtain ⟨lo18, X18, N18⟩ : ∃ lo, Stand p l e _ s m _ below meth c T18 lo _ _ ∧ Fr n0 lo := ⟨_, X18, Fr.snoc X18 N15 g_ad0⟩
  show own_Fin p e below G (T18.setTop (mkF m 21 #[.val (.ref ad0), .val (.int (2 : Int32)), .val (.int (128 : Int32))] []))
  refine own_to (fun _ kz => XS.aloadN X18.here hx rfl (hb hby d1_21) rfl (rfl)  kz) ?_
  show own_Fin p e below G (T18.setTop (mkF m 22 #[.val (.ref ad0), .val (.int (2 : Int32)), .val (.int (128 : Int32))] [(.ref ad0)]))
  refine own_to (fun _ kz => XS.iloadN X18.here hx rfl (hb hby d1_22) rfl  kz) ?_
  show own_Fin p e below G (T18.setTop (mkF m 23 #[.val (.ref ad0), .val (.int (2 : Int32)), .val (.int (128 : Int32))] [(.int (2 : Int32)), (.ref ad0)]))
  refine own_to (fun _ kz => XS.aloadN X18.here hx rfl (hb hby d1_23) rfl (rfl)  kz) ?_
  show own_Fin p e below G (T18.setTop (mkF m 24 #[.val (.ref ad0), .val (.int (2 : Int32)), .val (.int (128 : Int32))] [(.ref ad0), (.int (2 : Int32)), (.ref ad0)]))
  obtain ⟨T24, X24, e24, st24⟩ := getF X18 hx hZ hown (host := "") (Or.inl (hw _ (List.mem_of_getElem? (i := 13) rfl))) Via.refl e18 Fw18 (g := (mkF m 24 #[.val (.ref ad0), .val (.int (2 : Int32)), .val (.int (128 : Int32))] [(.ref ad0), (.int (2 : Int32)), (.ref ad0)])) rfl rfl (hb hby d1_24)
  refine own_to st24 ?_
  show own_Fin p e below G (T24.setTop (mkF m 27 #[.val (.ref ad0), .val (.int (2 : Int32)), .val (.int (128 : Int32))] [(.int (2 : Int32)), (.int (2 : Int32)), (.ref ad0)]))
  have Zz_27_W18 := Nat.le_trans Z0 (Nat.le_of_eq (Wr.size W18).symm)
  have Z_27 : n0 ≤ h18.size := Zz_27_W18
  obtain ⟨_, _, ⟨T27, L27, k27, n27⟩, -, X27, ⟨Lc27, hQ27, l27, y27, z27⟩, st27⟩ := Jvm.LawKit.callS X24 hx (y := (⟨"java/lang/Math", "multiplyExact", "(II)I"⟩ : MethodName)) hown (mvT hZ (hw _ (List.mem_of_getElem? (i := 15) rfl))) (mvT hZ (hw _ (List.mem_of_getElem? (i := 16) rfl))) (mvT hZ (hw _ (List.mem_of_getElem? (i := 11) rfl))) (mvT hZ (hw _ (List.mem_of_getElem? (i := 17) rfl))) (by decide) (backOf (W := 1) (rm4 l Z a0 hw [] (2 : Int32) (2 : Int32) h18 n0 Z_27 (by decide +kernel)) hZ (hw _ (List.mem_of_getElem? (i := 17) rfl)) (hw _ (List.mem_of_getElem? (i := 11) rfl)) (by decide) (by decide)) (g := (mkF m 27 #[.val (.ref ad0), .val (.int (2 : Int32)), .val (.int (128 : Int32))] [(.int (2 : Int32)), (.int (2 : Int32)), (.ref ad0)])) rfl (by rw [hml]; rfl) (argsL := [(.int (2 : Int32)), (.int (2 : Int32))]) (rest := [(.ref ad0)]) (lenOf own_pd0 rfl) rfl (by show 2 * 0 + _ ≤ _; exact Nat.le_of_eq rfl) (hb hby d1_27) (fun _ _ => ⟨rfl, e24, (by decide : 0 + 0 ≤ _), (by decide : 0 + 0 ≤ _)⟩)
  dsimp only [Pt.U, Pt.locs, Pt.cells, Pt.slots] at X27 l27 y27 z27 st27 hQ27
  subst l27 y27 z27
  obtain ⟨hv27, N27q, e27⟩ := hQ27
  rw [show (f4 (2 : Int32) (2 : Int32)) = (4 : Int32) from (by decide +kernel)] at hv27
  subst hv27
  obtain ⟨lo27, X27, N27⟩ : ∃ lo, Stand p l e _ s m _ below meth c T27 lo _ _ ∧ Fr n0 lo := ⟨_, X27, Fr.app N18 N27q⟩
  refine own_to st27 ?_
  show own_Fin p e below G (T27.setTop (mkF m 30 #[.val (.ref ad0), .val (.int (2 : Int32)), .val (.int (128 : Int32))] [(.int (4 : Int32)), (.ref ad0)]))
  have KP_30 : Keep h0 h18 [ad0] := ((Keep.refl h0 [ad0]).wr W18 (Or.inl (List.mem_of_getElem? (i := 0) rfl)))
  obtain ⟨T30, h30, k30, X30, e30, E30, A30, st30⟩ := newP X27 hx hZ (hw _ (List.mem_of_getElem? (i := 18) rfl)) e27 (g := (mkF m 30 #[.val (.ref ad0), .val (.int (2 : Int32)), .val (.int (128 : Int32))] [(.int (4 : Int32)), (.ref ad0)])) rfl (hb hby d1_30) rfl (by decide) (cap := 4) (by decide) (by decide) (by decide) (by decide)
  obtain ⟨b30, g30⟩ : ∃ z, z = h18.size := ⟨_, rfl⟩
  rw [← g30] at A30 st30
  refine own_to st30 ?_
  have ne_ad0_b30 : ad0 ≠ b30 := Nat.ne_of_lt (Nat.lt_of_lt_of_le (E_ad0.wr W18).lt (Nat.le_of_eq g30.symm))
  have g_b30 : n0 ≤ b30 := Nat.le_trans Z_27 (Nat.le_of_eq g30.symm)
  have sz_b30 : h0.size ≤ b30 := Nat.le_trans KP_30.1 (Nat.le_of_eq g30.symm)
  have V30 : own_AV Value.long Z h30 b30 .long 4 (fun _ => (0 : Int64)) := own_AV.new A30 (by decide) (by decide) (fun _ => rfl)
  show own_Fin p e below G (T30.setTop (mkF m 32 #[.val (.ref ad0), .val (.int (2 : Int32)), .val (.int (128 : Int32))] [(.ref b30), (.ref ad0)]))
  have E_ad0_at_32 : Exa Z h30 ad0 "com/example/twigwright/twigwright/PathNodeSets" := ((E_ad0.wr W18).ext E30)
  have F_bits_ad0_at_32 : Fld Z h30 ad0 "com/example/twigwright/twigwright/PathNodeSets" "bits" "[J" .null := ((F_bits_ad0.other W18 (Or.inr (slot_ne (Or.inr (hw _ (List.mem_of_getElem? (i := 20) rfl))) (Or.inr (hw _ (List.mem_of_getElem? (i := 14) rfl))) (by decide) (t := (.array .long)) (t' := .int) (by decide) (by decide)))).ext E30)
  obtain ⟨T32, h32, X32, e32, W32, st32⟩ := putF X30 hx hZ hown (host := "") (Or.inl (hw _ (List.mem_of_getElem? (i := 19) rfl))) Via.refl e30 F_bits_ad0_at_32 E_ad0_at_32 (Or.inr ⟨(hw _ (List.mem_of_getElem? (i := 20) rfl)), rfl, hnm⟩) (hw _ (List.mem_of_getElem? (i := 1) rfl)) (ty := (.array .long)) (by decide) rfl rfl (g := (mkF m 32 #[.val (.ref ad0), .val (.int (2 : Int32)), .val (.int (128 : Int32))] [(.ref b30), (.ref ad0)])) rfl rfl (hb hby d1_32)
  refine own_to st32 ?_
  have Fw32 : Fld Z h32 ad0 "com/example/twigwright/twigwright/PathNodeSets" "bits" "[J" (.ref b30) := Fld.same W32 F_bits_ad0_at_32
  obtain ⟨lo32, X32, N32⟩ : ∃ lo, Stand p l e _ s m _ below meth c T32 lo _ _ ∧ Fr n0 lo := ⟨_, X32, Fr.snoc X32 N27 g_ad0⟩
  show own_Fin p e below G (T32.setTop (mkF m 35 #[.val (.ref ad0), .val (.int (2 : Int32)), .val (.int (128 : Int32))] []))
  have KP_35 : Keep h0 h32 [ad0] := ((KP_30.ext E30).wr W32 (Or.inl (List.mem_of_getElem? (i := 0) rfl)))
  have E_ad0_at_35 : Exa Z h32 ad0 "com/example/twigwright/twigwright/PathNodeSets" := (E_ad0_at_32.wr W32)
  have Fw18_at_35 : Fld Z h32 ad0 "com/example/twigwright/twigwright/PathNodeSets" "words" "I" (.int (2 : Int32)) := ((Fw18.ext E30).other W32 (Or.inr (slot_ne (Or.inr (hw _ (List.mem_of_getElem? (i := 14) rfl))) (Or.inr (hw _ (List.mem_of_getElem? (i := 20) rfl))) (by decide) (t := .int) (t' := (.array .long)) (by decide) (by decide))))
  have V30_at_35 : own_AV Value.long Z h32 b30 .long 4 (fun _ => (0 : Int64)) := (V30.other W32 (Ne.symm ne_ad0_b30))
  exact own_retV X32 hx hlk hG Bd.returns (hb hby d1_35) (by decide) (by decide) (by rw [e32]; exact ⟨rfl, N32, KP_35, E_ad0_at_35, Fw18_at_35, b30, sz_b30, Fw32, V30_at_35⟩)
def own_ix (p n : Int32) : Int32 := ((p * (2 : Int32)) + ((n.toUInt32 >>> ((6 : Int32) &&& 31).toUInt32).toInt32))
def own_add (xs : Nat → Int64) (p n : Int32) : Nat → Int64 := own_upd xs (own_ix p n).toNatClampNeg ((xs (own_ix p n).toNatClampNeg) ||| ((1 : Int64) <<< (n &&& 0x3f).toInt64))
def own_in4 (p n : Int32) : Prop := ¬ own_ix p n < 0 ∧ (own_ix p n).toNatClampNeg < 4
def own_row (xs ys : Nat → Int64) (p q i : Int32) : Nat → Int64 := own_upd xs ((p * (2 : Int32)) + i).toNatClampNeg ((xs ((p * (2 : Int32)) + i).toNatClampNeg) &&& (ys ((q * (2 : Int32)) + i).toNatClampNeg))
def own_all (xs ys : Nat → Int64) (p q : Int32) : Nat → Int64 := own_row (own_row xs ys p q (0 : Int32)) ys p q ((0 : Int32) + (1 : Int32))
theorem d5_0 : decode prog_23_method_3_code 0 = .ok (.aload_n 0, 1) := by decide +kernel
theorem d5_1 : decode prog_23_method_3_code 1 = .ok (.getfield 24, 3) := by decide +kernel
theorem d5_4 : decode prog_23_method_3_code 4 = .ok (.iload_n 1, 1) := by decide +kernel
theorem d5_5 : decode prog_23_method_3_code 5 = .ok (.aload_n 0, 1) := by decide +kernel
theorem d5_6 : decode prog_23_method_3_code 6 = .ok (.getfield 17, 3) := by decide +kernel
theorem d5_9 : decode prog_23_method_3_code 9 = .ok (.imul, 1) := by decide +kernel
theorem d5_10 : decode prog_23_method_3_code 10 = .ok (.iload_n 2, 1) := by decide +kernel
theorem d5_11 : decode prog_23_method_3_code 11 = .ok (.bipush 6, 2) := by decide +kernel
theorem d5_13 : decode prog_23_method_3_code 13 = .ok (.iushr, 1) := by decide +kernel
theorem d5_14 : decode prog_23_method_3_code 14 = .ok (.iadd, 1) := by decide +kernel
theorem d5_15 : decode prog_23_method_3_code 15 = .ok (.dup2, 1) := by decide +kernel
theorem d5_16 : decode prog_23_method_3_code 16 = .ok (.laload, 1) := by decide +kernel
theorem d5_17 : decode prog_23_method_3_code 17 = .ok (.lconst 1, 1) := by decide +kernel
theorem d5_18 : decode prog_23_method_3_code 18 = .ok (.iload_n 2, 1) := by decide +kernel
theorem d5_19 : decode prog_23_method_3_code 19 = .ok (.lshl, 1) := by decide +kernel
theorem d5_20 : decode prog_23_method_3_code 20 = .ok (.lor, 1) := by decide +kernel
theorem d5_21 : decode prog_23_method_3_code 21 = .ok (.lastore, 1) := by decide +kernel
theorem d5_22 : decode prog_23_method_3_code 22 = .ok (.return_, 1) := by decide +kernel
theorem ef5 (m : MethodId) (ad0 : Addr) (p1 : Int32) (p2 : Int32) : entryFrame m #[(.ref ad0), (.int p1), (.int p2)] 3 = mkF m 0 #[.val (.ref ad0), .val (.int p1), .val (.int p2)] [] := by first | (simp [entryFrame, mkF, argsToLocals, Value.category]; done) | rfl
def Q5 (Z : State) (ad0 : Addr) (p1 : Int32) (p2 : Int32) (xs : Nat → Int64) (bt : Addr) (h0 : Heap) (n0 : Nat) (v : Option Value) (h : Heap) (L : List Loc) : Prop := v = none ∧ Fr n0 L ∧ Keep h0 h [bt] ∧ own_AV Value.long Z h bt .long 4 (own_add xs p1 p2)
set_option maxRecDepth 65536 in
set_option maxHeartbeats 40000000 in
theorem rm5 (l : Launch) (Z : State) (a0 : Array Value) (hw : ∀ d ∈ tables_1, d.before a0 Z = true) (ws : List Jvm.Cond) (ad0 : Addr) (p1 : Int32) (p2 : Int32) (xs : Nat → Int64) (bt : Addr) (h0 : Heap) (n0 : Nat) (Z0 : n0 ≤ h0.size) (F_bits_ad0 : Fld Z h0 ad0 "com/example/twigwright/twigwright/PathNodeSets" "bits" "[J" (.ref bt)) (F_words_ad0 : Fld Z h0 ad0 "com/example/twigwright/twigwright/PathNodeSets" "words" "I" (.int (2 : Int32))) (V_bt : own_AV Value.long Z h0 bt .long 4 xs) (g_bt : n0 ≤ bt) (hix : own_in4 p1 p2) :
    MetFree l (⟨"com/example/twigwright/twigwright/PathNodeSets", "add", "(II)V"⟩ : MethodName) (head1 (Jvm.Cond.code (⟨"com/example/twigwright/twigwright/PathNodeSets", "add", "(II)V"⟩ : MethodName) prog_23_method_3_code 3 none :: ws) ({ frames := 0, cells := 0, slots := 0, locals := 0 } : Room)) (fun a U => a = #[(.ref ad0), (.int p1), (.int p2)] ∧ Z.Warmed39 U.vm ∧ U.heap = h0) (fun _ _ _ _ _ => True) (fun _ U o U' => ∃ v L, o = .returned v ∧ Q5 Z ad0 p1 p2 xs bt h0 n0 v U'.heap L ∧ FrameEnd U o U' L ({ frames := 0, cells := 0, slots := 0, locals := 0 } : Room).cells ({ frames := 0, cells := 0, slots := 0, locals := 0 } : Room).slots) := by
  refine MetFree.of_bodySF (plainFor_of_name own_pn0) hisR ?_
  intro p e s m args below meth c s₁ Bd hml0 hP hK
  obtain ⟨rfl, hZ, hh⟩ := hP
  have hx := Bd.exec
  have hby := Bd.bytes
  have hml : c.maxLocals = 3 := hml0
  have hown : s.vm.findClass "com/example/twigwright/twigwright/PathNodeSets" = some m.cls := findClass_of_methodNamed Bd.named
  have hnm := (name_of_methodNamed Bd.named Bd.method).1
  have hlk : meth.locks = false := BodyLoose.notSynchronized Bd
  have X0 : Stand p l e ({ frames := 0, cells := 0, slots := 0, locals := 0 } : Room) s m #[(.ref ad0), (.int p1), (.int p2)] below meth c s₁ [] 0 0 := Stand.of_body Bd
  have e0 : s₁.heap = h0 := by rw [← hh, Bd.state]; rfl
  have N0 := Fr.nil n0
  obtain ⟨G, hG⟩ : ∃ G, G = own_G s (Q5 Z ad0 p1 p2 xs bt h0 n0) ({ frames := 0, cells := 0, slots := 0, locals := 0 } : Room).cells ({ frames := 0, cells := 0, slots := 0, locals := 0 } : Room).slots := ⟨_, rfl⟩
  show own_Fin p e below (own_G s (Q5 Z ad0 p1 p2 xs bt h0 n0) ({ frames := 0, cells := 0, slots := 0, locals := 0 } : Room).cells ({ frames := 0, cells := 0, slots := 0, locals := 0 } : Room).slots) (s₁.setTop (entryFrame m #[(.ref ad0), (.int p1), (.int p2)] 3))
  rw [← hG]
  refine own_to (fun _ kz => castTop (ef5 m ad0 p1 p2) kz) ?_
  show own_Fin p e below G (s₁.setTop (mkF m 0 #[.val (.ref ad0), .val (.int p1), .val (.int p2)] []))
  refine own_to (fun _ kz => XS.aloadN X0.here hx rfl (hb hby d5_0) rfl (rfl)  kz) ?_
  show own_Fin p e below G (s₁.setTop (mkF m 1 #[.val (.ref ad0), .val (.int p1), .val (.int p2)] [(.ref ad0)]))
  obtain ⟨T1, X1, e1, st1⟩ := getF X0 hx hZ hown (host := "") (Or.inl (hw _ (List.mem_of_getElem? (i := 19) rfl))) Via.refl e0 F_bits_ad0 (g := (mkF m 1 #[.val (.ref ad0), .val (.int p1), .val (.int p2)] [(.ref ad0)])) rfl rfl (hb hby d5_1)
  refine own_to st1 ?_
  show own_Fin p e below G (T1.setTop (mkF m 4 #[.val (.ref ad0), .val (.int p1), .val (.int p2)] [(.ref bt)]))
  refine own_to (fun _ kz => XS.iloadN X1.here hx rfl (hb hby d5_4) rfl  kz) ?_
  show own_Fin p e below G (T1.setTop (mkF m 5 #[.val (.ref ad0), .val (.int p1), .val (.int p2)] [(.int p1), (.ref bt)]))
  refine own_to (fun _ kz => XS.aloadN X1.here hx rfl (hb hby d5_5) rfl (rfl)  kz) ?_
  show own_Fin p e below G (T1.setTop (mkF m 6 #[.val (.ref ad0), .val (.int p1), .val (.int p2)] [(.ref ad0), (.int p1), (.ref bt)]))
  obtain ⟨T6, X6, e6, st6⟩ := getF X1 hx hZ hown (host := "") (Or.inl (hw _ (List.mem_of_getElem? (i := 13) rfl))) Via.refl e1 F_words_ad0 (g := (mkF m 6 #[.val (.ref ad0), .val (.int p1), .val (.int p2)] [(.ref ad0), (.int p1), (.ref bt)])) rfl rfl (hb hby d5_6)
  refine own_to st6 ?_
  show own_Fin p e below G (T6.setTop (mkF m 9 #[.val (.ref ad0), .val (.int p1), .val (.int p2)] [(.int (2 : Int32)), (.int p1), (.ref bt)]))
  refine own_to (fun _ kz => XS.imul X6.here hx rfl (hb hby d5_9) rfl kz) ?_
  show own_Fin p e below G (T6.setTop (mkF m 10 #[.val (.ref ad0), .val (.int p1), .val (.int p2)] [(.int (p1 * (2 : Int32))), (.ref bt)]))
  refine own_to (fun _ kz => XS.iloadN X6.here hx rfl (hb hby d5_10) rfl  kz) ?_
  show own_Fin p e below G (T6.setTop (mkF m 11 #[.val (.ref ad0), .val (.int p1), .val (.int p2)] [(.int p2), (.int (p1 * (2 : Int32))), (.ref bt)]))
  refine own_to (fun _ kz => XS.bipush X6.here hx rfl (hb hby d5_11) kz) ?_
  show own_Fin p e below G (T6.setTop (mkF m 13 #[.val (.ref ad0), .val (.int p1), .val (.int p2)] [(.int (6 : Int32)), (.int p2), (.int (p1 * (2 : Int32))), (.ref bt)]))
  refine own_to (fun _ kz => XS.iushr X6.here hx rfl (hb hby d5_13) rfl kz) ?_
  show own_Fin p e below G (T6.setTop (mkF m 14 #[.val (.ref ad0), .val (.int p1), .val (.int p2)] [(.int ((p2.toUInt32 >>> ((6 : Int32) &&& 31).toUInt32).toInt32)), (.int (p1 * (2 : Int32))), (.ref bt)]))
  refine own_to (fun _ kz => XS.iadd X6.here hx rfl (hb hby d5_14) rfl kz) ?_
  show own_Fin p e below G (T6.setTop (mkF m 15 #[.val (.ref ad0), .val (.int p1), .val (.int p2)] [(.int ((p1 * (2 : Int32)) + ((p2.toUInt32 >>> ((6 : Int32) &&& 31).toUInt32).toInt32))), (.ref bt)]))
  refine own_to (fun _ kz => Jvm.Free.XT.dup2 X6.here hx rfl (hb hby d5_15) rfl rfl rfl kz) ?_
  show own_Fin p e below G (T6.setTop (mkF m 16 #[.val (.ref ad0), .val (.int p1), .val (.int p2)] [(.int ((p1 * (2 : Int32)) + ((p2.toUInt32 >>> ((6 : Int32) &&& 31).toUInt32).toInt32))), (.ref bt), (.int ((p1 * (2 : Int32)) + ((p2.toUInt32 >>> ((6 : Int32) &&& 31).toUInt32).toInt32))), (.ref bt)]))
  refine own_to (fun _ kz => own_laload X6 hx hZ e6 V_bt (j := ((p1 * (2 : Int32)) + ((p2.toUInt32 >>> ((6 : Int32) &&& 31).toUInt32).toInt32))) hix.1 rfl hix.2 (g := (mkF m 16 #[.val (.ref ad0), .val (.int p1), .val (.int p2)] [(.int ((p1 * (2 : Int32)) + ((p2.toUInt32 >>> ((6 : Int32) &&& 31).toUInt32).toInt32))), (.ref bt), (.int ((p1 * (2 : Int32)) + ((p2.toUInt32 >>> ((6 : Int32) &&& 31).toUInt32).toInt32))), (.ref bt)])) rfl rfl (hb hby d5_16) kz) ?_
  show own_Fin p e below G (T6.setTop (mkF m 17 #[.val (.ref ad0), .val (.int p1), .val (.int p2)] [(.long (xs (((p1 * (2 : Int32)) + ((p2.toUInt32 >>> ((6 : Int32) &&& 31).toUInt32).toInt32))).toNatClampNeg)), (.int ((p1 * (2 : Int32)) + ((p2.toUInt32 >>> ((6 : Int32) &&& 31).toUInt32).toInt32))), (.ref bt)]))
  refine own_to (fun _ kz => XS.lconst X6.here hx rfl (hb hby d5_17) kz) ?_
  show own_Fin p e below G (T6.setTop (mkF m 18 #[.val (.ref ad0), .val (.int p1), .val (.int p2)] [(.long (1 : Int64)), (.long (xs (((p1 * (2 : Int32)) + ((p2.toUInt32 >>> ((6 : Int32) &&& 31).toUInt32).toInt32))).toNatClampNeg)), (.int ((p1 * (2 : Int32)) + ((p2.toUInt32 >>> ((6 : Int32) &&& 31).toUInt32).toInt32))), (.ref bt)]))
  refine own_to (fun _ kz => XS.iloadN X6.here hx rfl (hb hby d5_18) rfl  kz) ?_
  show own_Fin p e below G (T6.setTop (mkF m 19 #[.val (.ref ad0), .val (.int p1), .val (.int p2)] [(.int p2), (.long (1 : Int64)), (.long (xs (((p1 * (2 : Int32)) + ((p2.toUInt32 >>> ((6 : Int32) &&& 31).toUInt32).toInt32))).toNatClampNeg)), (.int ((p1 * (2 : Int32)) + ((p2.toUInt32 >>> ((6 : Int32) &&& 31).toUInt32).toInt32))), (.ref bt)]))
  refine own_to (fun _ kz => XS.lshl X6.here hx rfl (hb hby d5_19) rfl kz) ?_
  show own_Fin p e below G (T6.setTop (mkF m 20 #[.val (.ref ad0), .val (.int p1), .val (.int p2)] [(.long ((1 : Int64) <<< (p2 &&& 0x3f).toInt64)), (.long (xs (((p1 * (2 : Int32)) + ((p2.toUInt32 >>> ((6 : Int32) &&& 31).toUInt32).toInt32))).toNatClampNeg)), (.int ((p1 * (2 : Int32)) + ((p2.toUInt32 >>> ((6 : Int32) &&& 31).toUInt32).toInt32))), (.ref bt)]))
  refine own_to (fun _ kz => XS.lor X6.here hx rfl (hb hby d5_20) rfl kz) ?_
  show own_Fin p e below G (T6.setTop (mkF m 21 #[.val (.ref ad0), .val (.int p1), .val (.int p2)] [(.long ((xs (((p1 * (2 : Int32)) + ((p2.toUInt32 >>> ((6 : Int32) &&& 31).toUInt32).toInt32))).toNatClampNeg) ||| ((1 : Int64) <<< (p2 &&& 0x3f).toInt64))), (.int ((p1 * (2 : Int32)) + ((p2.toUInt32 >>> ((6 : Int32) &&& 31).toUInt32).toInt32))), (.ref bt)]))
  obtain ⟨nn21, cl21, Ar21, Sz21, Hs21⟩ := V_bt
  obtain ⟨T21, h21, X21, e21, W21, st21⟩ := stJ X6 hx hZ e6 Ar21 (j := ((p1 * (2 : Int32)) + ((p2.toUInt32 >>> ((6 : Int32) &&& 31).toUInt32).toInt32))) (own_in Sz21 hix.1 rfl hix.2) (g := (mkF m 21 #[.val (.ref ad0), .val (.int p1), .val (.int p2)] [(.long ((xs (((p1 * (2 : Int32)) + ((p2.toUInt32 >>> ((6 : Int32) &&& 31).toUInt32).toInt32))).toNatClampNeg) ||| ((1 : Int64) <<< (p2 &&& 0x3f).toInt64))), (.int ((p1 * (2 : Int32)) + ((p2.toUInt32 >>> ((6 : Int32) &&& 31).toUInt32).toInt32))), (.ref bt)])) rfl rfl (hb hby d5_21)
  refine own_to st21 ?_
  have V21 : own_AV Value.long Z h21 bt .long 4 (own_upd xs (((p1 * (2 : Int32)) + ((p2.toUInt32 >>> ((6 : Int32) &&& 31).toUInt32).toInt32))).toNatClampNeg ((xs (((p1 * (2 : Int32)) + ((p2.toUInt32 >>> ((6 : Int32) &&& 31).toUInt32).toInt32))).toNatClampNeg) ||| ((1 : Int64) <<< (p2 &&& 0x3f).toInt64))) := own_AV.set nn21 Ar21 Sz21 Hs21 W21 rfl
  obtain ⟨lo21, X21, N21⟩ : ∃ lo, Stand p l e _ s m _ below meth c T21 lo _ _ ∧ Fr n0 lo := ⟨_, X21, Fr.snoc X21 N0 g_bt⟩
  have Va21 : own_AV Value.long Z h21 bt .long 4 (own_add xs p1 p2) := V21
  show own_Fin p e below G (T21.setTop (mkF m 22 #[.val (.ref ad0), .val (.int p1), .val (.int p2)] []))
  have KP_22 : Keep h0 h21 [bt] := ((Keep.refl h0 [bt]).wr W21 (Or.inl (List.mem_of_getElem? (i := 0) rfl)))
  exact own_retV X21 hx hlk hG Bd.returns (hb hby d5_22) (by decide) (by decide) (by rw [e21]; exact ⟨rfl, N21, KP_22, Va21⟩)
theorem d7_0 : decode prog_23_method_2_code 0 = .ok (.aload_n 0, 1) := by decide +kernel
theorem d7_1 : decode prog_23_method_2_code 1 = .ok (.getfield 24, 3) := by decide +kernel
theorem d7_4 : decode prog_23_method_2_code 4 = .ok (.iload_n 1, 1) := by decide +kernel
theorem d7_5 : decode prog_23_method_2_code 5 = .ok (.aload_n 0, 1) := by decide +kernel
theorem d7_6 : decode prog_23_method_2_code 6 = .ok (.getfield 17, 3) := by decide +kernel
theorem d7_9 : decode prog_23_method_2_code 9 = .ok (.imul, 1) := by decide +kernel
theorem d7_10 : decode prog_23_method_2_code 10 = .ok (.iload_n 2, 1) := by decide +kernel
theorem d7_11 : decode prog_23_method_2_code 11 = .ok (.bipush 6, 2) := by decide +kernel
theorem d7_13 : decode prog_23_method_2_code 13 = .ok (.iushr, 1) := by decide +kernel
theorem d7_14 : decode prog_23_method_2_code 14 = .ok (.iadd, 1) := by decide +kernel
theorem d7_15 : decode prog_23_method_2_code 15 = .ok (.laload, 1) := by decide +kernel
theorem d7_16 : decode prog_23_method_2_code 16 = .ok (.lconst 1, 1) := by decide +kernel
theorem d7_17 : decode prog_23_method_2_code 17 = .ok (.iload_n 2, 1) := by decide +kernel
theorem d7_18 : decode prog_23_method_2_code 18 = .ok (.lshl, 1) := by decide +kernel
theorem d7_19 : decode prog_23_method_2_code 19 = .ok (.land, 1) := by decide +kernel
theorem d7_20 : decode prog_23_method_2_code 20 = .ok (.lconst 0, 1) := by decide +kernel
theorem d7_21 : decode prog_23_method_2_code 21 = .ok (.lcmp, 1) := by decide +kernel
theorem d7_22 : decode prog_23_method_2_code 22 = .ok (.ifCond .eq 7, 3) := by decide +kernel
theorem d7_25 : decode prog_23_method_2_code 25 = .ok (.iconst 1, 1) := by decide +kernel
theorem d7_26 : decode prog_23_method_2_code 26 = .ok (.goto 4, 3) := by decide +kernel
theorem d7_29 : decode prog_23_method_2_code 29 = .ok (.iconst 0, 1) := by decide +kernel
theorem d7_30 : decode prog_23_method_2_code 30 = .ok (.ireturn, 1) := by decide +kernel
theorem ef7 (m : MethodId) (ad0 : Addr) (p1 : Int32) (p2 : Int32) : entryFrame m #[(.ref ad0), (.int p1), (.int p2)] 3 = mkF m 0 #[.val (.ref ad0), .val (.int p1), .val (.int p2)] [] := by first | (simp [entryFrame, mkF, argsToLocals, Value.category]; done) | rfl
def f7 (p1 : Int32) (p2 : Int32) (xs : Nat → Int64) : Int32 := if ((xs (((p1 * (2 : Int32)) + ((p2.toUInt32 >>> ((6 : Int32) &&& 31).toUInt32).toInt32))).toNatClampNeg) &&& ((1 : Int64) <<< (p2 &&& 0x3f).toInt64)) = (0 : Int64) then (0 : Int32) else (1 : Int32)
def Q7 (Z : State) (ad0 : Addr) (p1 : Int32) (p2 : Int32) (xs : Nat → Int64) (bt : Addr) (h0 : Heap) (n0 : Nat) (v : Option Value) (h : Heap) (L : List Loc) : Prop := v = some (.int (f7 p1 p2 xs)) ∧ Fr n0 L ∧ h = h0
set_option maxRecDepth 65536 in
set_option maxHeartbeats 40000000 in
theorem rm7 (l : Launch) (Z : State) (a0 : Array Value) (hw : ∀ d ∈ tables_1, d.before a0 Z = true) (ws : List Jvm.Cond) (ad0 : Addr) (p1 : Int32) (p2 : Int32) (xs : Nat → Int64) (bt : Addr) (h0 : Heap) (n0 : Nat) (Z0 : n0 ≤ h0.size) (F_bits_ad0 : Fld Z h0 ad0 "com/example/twigwright/twigwright/PathNodeSets" "bits" "[J" (.ref bt)) (F_words_ad0 : Fld Z h0 ad0 "com/example/twigwright/twigwright/PathNodeSets" "words" "I" (.int (2 : Int32))) (V_bt : own_AV Value.long Z h0 bt .long 4 xs) (hix : own_in4 p1 p2) :
    MetFree l (⟨"com/example/twigwright/twigwright/PathNodeSets", "contains", "(II)Z"⟩ : MethodName) (head1 (Jvm.Cond.code (⟨"com/example/twigwright/twigwright/PathNodeSets", "contains", "(II)Z"⟩ : MethodName) prog_23_method_2_code 3 (some .boolean) :: ws) ({ frames := 0, cells := 0, slots := 0, locals := 0 } : Room)) (fun a U => a = #[(.ref ad0), (.int p1), (.int p2)] ∧ Z.Warmed39 U.vm ∧ U.heap = h0) (fun _ _ _ _ _ => True) (fun _ U o U' => ∃ v L, o = .returned v ∧ Q7 Z ad0 p1 p2 xs bt h0 n0 v U'.heap L ∧ FrameEnd U o U' L ({ frames := 0, cells := 0, slots := 0, locals := 0 } : Room).cells ({ frames := 0, cells := 0, slots := 0, locals := 0 } : Room).slots) := by
  refine MetFree.of_bodySF (plainFor_of_name own_pn0) hisR ?_
  intro p e s m args below meth c s₁ Bd hml0 hP hK
  obtain ⟨rfl, hZ, hh⟩ := hP
  have hx := Bd.exec
  have hby := Bd.bytes
  have hml : c.maxLocals = 3 := hml0
  have hown : s.vm.findClass "com/example/twigwright/twigwright/PathNodeSets" = some m.cls := findClass_of_methodNamed Bd.named
  have hnm := (name_of_methodNamed Bd.named Bd.method).1
  have hlk : meth.locks = false := BodyLoose.notSynchronized Bd
  have X0 : Stand p l e ({ frames := 0, cells := 0, slots := 0, locals := 0 } : Room) s m #[(.ref ad0), (.int p1), (.int p2)] below meth c s₁ [] 0 0 := Stand.of_body Bd
  have e0 : s₁.heap = h0 := by rw [← hh, Bd.state]; rfl
  have N0 := Fr.nil n0
  obtain ⟨G, hG⟩ : ∃ G, G = own_G s (Q7 Z ad0 p1 p2 xs bt h0 n0) ({ frames := 0, cells := 0, slots := 0, locals := 0 } : Room).cells ({ frames := 0, cells := 0, slots := 0, locals := 0 } : Room).slots := ⟨_, rfl⟩
  show own_Fin p e below (own_G s (Q7 Z ad0 p1 p2 xs bt h0 n0) ({ frames := 0, cells := 0, slots := 0, locals := 0 } : Room).cells ({ frames := 0, cells := 0, slots := 0, locals := 0 } : Room).slots) (s₁.setTop (entryFrame m #[(.ref ad0), (.int p1), (.int p2)] 3))
  rw [← hG]
  refine own_to (fun _ kz => castTop (ef7 m ad0 p1 p2) kz) ?_
  have q0 : (f7 p1 p2 xs) = (f7 p1 p2 xs) := rfl
  show own_Fin p e below G (s₁.setTop (mkF m 0 #[.val (.ref ad0), .val (.int p1), .val (.int p2)] []))
  refine own_to (fun _ kz => XS.aloadN X0.here hx rfl (hb hby d7_0) rfl (rfl)  kz) ?_
  show own_Fin p e below G (s₁.setTop (mkF m 1 #[.val (.ref ad0), .val (.int p1), .val (.int p2)] [(.ref ad0)]))
  obtain ⟨T1, X1, e1, st1⟩ := getF X0 hx hZ hown (host := "") (Or.inl (hw _ (List.mem_of_getElem? (i := 19) rfl))) Via.refl e0 F_bits_ad0 (g := (mkF m 1 #[.val (.ref ad0), .val (.int p1), .val (.int p2)] [(.ref ad0)])) rfl rfl (hb hby d7_1)
  refine own_to st1 ?_
  show own_Fin p e below G (T1.setTop (mkF m 4 #[.val (.ref ad0), .val (.int p1), .val (.int p2)] [(.ref bt)]))
  refine own_to (fun _ kz => XS.iloadN X1.here hx rfl (hb hby d7_4) rfl  kz) ?_
  show own_Fin p e below G (T1.setTop (mkF m 5 #[.val (.ref ad0), .val (.int p1), .val (.int p2)] [(.int p1), (.ref bt)]))
  refine own_to (fun _ kz => XS.aloadN X1.here hx rfl (hb hby d7_5) rfl (rfl)  kz) ?_
  show own_Fin p e below G (T1.setTop (mkF m 6 #[.val (.ref ad0), .val (.int p1), .val (.int p2)] [(.ref ad0), (.int p1), (.ref bt)]))
  obtain ⟨T6, X6, e6, st6⟩ := getF X1 hx hZ hown (host := "") (Or.inl (hw _ (List.mem_of_getElem? (i := 13) rfl))) Via.refl e1 F_words_ad0 (g := (mkF m 6 #[.val (.ref ad0), .val (.int p1), .val (.int p2)] [(.ref ad0), (.int p1), (.ref bt)])) rfl rfl (hb hby d7_6)
  refine own_to st6 ?_
  show own_Fin p e below G (T6.setTop (mkF m 9 #[.val (.ref ad0), .val (.int p1), .val (.int p2)] [(.int (2 : Int32)), (.int p1), (.ref bt)]))
  refine own_to (fun _ kz => XS.imul X6.here hx rfl (hb hby d7_9) rfl kz) ?_
  show own_Fin p e below G (T6.setTop (mkF m 10 #[.val (.ref ad0), .val (.int p1), .val (.int p2)] [(.int (p1 * (2 : Int32))), (.ref bt)]))
  refine own_to (fun _ kz => XS.iloadN X6.here hx rfl (hb hby d7_10) rfl  kz) ?_
  show own_Fin p e below G (T6.setTop (mkF m 11 #[.val (.ref ad0), .val (.int p1), .val (.int p2)] [(.int p2), (.int (p1 * (2 : Int32))), (.ref bt)]))
  refine own_to (fun _ kz => XS.bipush X6.here hx rfl (hb hby d7_11) kz) ?_
  show own_Fin p e below G (T6.setTop (mkF m 13 #[.val (.ref ad0), .val (.int p1), .val (.int p2)] [(.int (6 : Int32)), (.int p2), (.int (p1 * (2 : Int32))), (.ref bt)]))
  refine own_to (fun _ kz => XS.iushr X6.here hx rfl (hb hby d7_13) rfl kz) ?_
  show own_Fin p e below G (T6.setTop (mkF m 14 #[.val (.ref ad0), .val (.int p1), .val (.int p2)] [(.int ((p2.toUInt32 >>> ((6 : Int32) &&& 31).toUInt32).toInt32)), (.int (p1 * (2 : Int32))), (.ref bt)]))
  refine own_to (fun _ kz => XS.iadd X6.here hx rfl (hb hby d7_14) rfl kz) ?_
  show own_Fin p e below G (T6.setTop (mkF m 15 #[.val (.ref ad0), .val (.int p1), .val (.int p2)] [(.int ((p1 * (2 : Int32)) + ((p2.toUInt32 >>> ((6 : Int32) &&& 31).toUInt32).toInt32))), (.ref bt)]))
  refine own_to (fun _ kz => own_laload X6 hx hZ e6 V_bt (j := ((p1 * (2 : Int32)) + ((p2.toUInt32 >>> ((6 : Int32) &&& 31).toUInt32).toInt32))) hix.1 rfl hix.2 (g := (mkF m 15 #[.val (.ref ad0), .val (.int p1), .val (.int p2)] [(.int ((p1 * (2 : Int32)) + ((p2.toUInt32 >>> ((6 : Int32) &&& 31).toUInt32).toInt32))), (.ref bt)])) rfl rfl (hb hby d7_15) kz) ?_
  show own_Fin p e below G (T6.setTop (mkF m 16 #[.val (.ref ad0), .val (.int p1), .val (.int p2)] [(.long (xs (((p1 * (2 : Int32)) + ((p2.toUInt32 >>> ((6 : Int32) &&& 31).toUInt32).toInt32))).toNatClampNeg))]))
  refine own_to (fun _ kz => XS.lconst X6.here hx rfl (hb hby d7_16) kz) ?_
  show own_Fin p e below G (T6.setTop (mkF m 17 #[.val (.ref ad0), .val (.int p1), .val (.int p2)] [(.long (1 : Int64)), (.long (xs (((p1 * (2 : Int32)) + ((p2.toUInt32 >>> ((6 : Int32) &&& 31).toUInt32).toInt32))).toNatClampNeg))]))
  refine own_to (fun _ kz => XS.iloadN X6.here hx rfl (hb hby d7_17) rfl  kz) ?_
  show own_Fin p e below G (T6.setTop (mkF m 18 #[.val (.ref ad0), .val (.int p1), .val (.int p2)] [(.int p2), (.long (1 : Int64)), (.long (xs (((p1 * (2 : Int32)) + ((p2.toUInt32 >>> ((6 : Int32) &&& 31).toUInt32).toInt32))).toNatClampNeg))]))
  refine own_to (fun _ kz => XS.lshl X6.here hx rfl (hb hby d7_18) rfl kz) ?_
  show own_Fin p e below G (T6.setTop (mkF m 19 #[.val (.ref ad0), .val (.int p1), .val (.int p2)] [(.long ((1 : Int64) <<< (p2 &&& 0x3f).toInt64)), (.long (xs (((p1 * (2 : Int32)) + ((p2.toUInt32 >>> ((6 : Int32) &&& 31).toUInt32).toInt32))).toNatClampNeg))]))
  refine own_to (fun _ kz => XS.land X6.here hx rfl (hb hby d7_19) rfl kz) ?_
  show own_Fin p e below G (T6.setTop (mkF m 20 #[.val (.ref ad0), .val (.int p1), .val (.int p2)] [(.long ((xs (((p1 * (2 : Int32)) + ((p2.toUInt32 >>> ((6 : Int32) &&& 31).toUInt32).toInt32))).toNatClampNeg) &&& ((1 : Int64) <<< (p2 &&& 0x3f).toInt64)))]))
  refine own_to (fun _ kz => XS.lconst X6.here hx rfl (hb hby d7_20) kz) ?_
  show own_Fin p e below G (T6.setTop (mkF m 21 #[.val (.ref ad0), .val (.int p1), .val (.int p2)] [(.long (0 : Int64)), (.long ((xs (((p1 * (2 : Int32)) + ((p2.toUInt32 >>> ((6 : Int32) &&& 31).toUInt32).toInt32))).toNatClampNeg) &&& ((1 : Int64) <<< (p2 &&& 0x3f).toInt64)))]))
  refine own_to (fun _ kz => XS.lcmp X6.here hx rfl (hb hby d7_21) rfl kz) ?_
  show own_Fin p e below G (T6.setTop (mkF m 22 #[.val (.ref ad0), .val (.int p1), .val (.int p2)] [(.int (lcmpW ((xs (((p1 * (2 : Int32)) + ((p2.toUInt32 >>> ((6 : Int32) &&& 31).toUInt32).toInt32))).toNatClampNeg) &&& ((1 : Int64) <<< (p2 &&& 0x3f).toInt64)) (0 : Int64)))]))
  by_cases hc22 : ((xs (((p1 * (2 : Int32)) + ((p2.toUInt32 >>> ((6 : Int32) &&& 31).toUInt32).toInt32))).toNatClampNeg) &&& ((1 : Int64) <<< (p2 &&& 0x3f).toInt64)) = (0 : Int64)
  · refine own_to (fun _ kz => XS.ifYes X6.here hx rfl (pc0 := 22) (pc' := 29) rfl (hb hby d7_22) rfl ((if0 _ _).trans (teq ((lw_eq _ _).mpr hc22)).1) (by decide) (by decide) kz) ?_
    have q22t := q0.trans (if_pos hc22)
    show own_Fin p e below G (T6.setTop (mkF m 29 #[.val (.ref ad0), .val (.int p1), .val (.int p2)] []))
    refine own_to (fun _ kz => XS.iconst X6.here hx rfl (hb hby d7_29) kz) ?_
    show own_Fin p e below G (T6.setTop (mkF m 30 #[.val (.ref ad0), .val (.int p1), .val (.int p2)] [(.int (0 : Int32))]))
    exact own_retN X6 hx hlk hG (t := .boolean) Bd.returns (by simp) (hb hby d7_30) (by decide) (by decide) ⟨(congrArg (fun z => some (Value.int z)) q22t).symm, N0, e6⟩
  · refine own_to (fun _ kz => XS.ifNo X6.here hx rfl (hb hby d7_22) rfl ((if0 _ _).trans (feq (fun q => hc22 ((lw_eq _ _).mp q))).1) kz) ?_
    have q22f := q0.trans (if_neg hc22)
    show own_Fin p e below G (T6.setTop (mkF m 25 #[.val (.ref ad0), .val (.int p1), .val (.int p2)] []))
    refine own_to (fun _ kz => XS.iconst X6.here hx rfl (hb hby d7_25) kz) ?_
    show own_Fin p e below G (T6.setTop (mkF m 26 #[.val (.ref ad0), .val (.int p1), .val (.int p2)] [(.int (1 : Int32))]))
    refine own_to (fun _ kz => XS.goto X6.here hx rfl (pc0 := 26) (pc' := 30) rfl (hb hby d7_26) (by decide) (by decide) kz) ?_
    show own_Fin p e below G (T6.setTop (mkF m 30 #[.val (.ref ad0), .val (.int p1), .val (.int p2)] [(.int (1 : Int32))]))
    exact own_retN X6 hx hlk hG (t := .boolean) Bd.returns (by simp) (hb hby d7_30) (by decide) (by decide) ⟨(congrArg (fun z => some (Value.int z)) q22f).symm, N0, e6⟩
theorem d6_0 : decode prog_23_method_6_code 0 = .ok (.iconst 0, 1) := by decide +kernel
theorem d6_1 : decode prog_23_method_6_code 1 = .ok (.istore 4, 2) := by decide +kernel
theorem d6_3 : decode prog_23_method_6_code 3 = .ok (.iload 4, 2) := by decide +kernel
theorem d6_5 : decode prog_23_method_6_code 5 = .ok (.aload_n 0, 1) := by decide +kernel
theorem d6_6 : decode prog_23_method_6_code 6 = .ok (.getfield 17, 3) := by decide +kernel
theorem d6_9 : decode prog_23_method_6_code 9 = .ok (.if_icmp .ge 40, 3) := by decide +kernel
theorem d6_12 : decode prog_23_method_6_code 12 = .ok (.aload_n 0, 1) := by decide +kernel
theorem d6_13 : decode prog_23_method_6_code 13 = .ok (.getfield 24, 3) := by decide +kernel
theorem d6_16 : decode prog_23_method_6_code 16 = .ok (.iload_n 1, 1) := by decide +kernel
theorem d6_17 : decode prog_23_method_6_code 17 = .ok (.aload_n 0, 1) := by decide +kernel
theorem d6_18 : decode prog_23_method_6_code 18 = .ok (.getfield 17, 3) := by decide +kernel
theorem d6_21 : decode prog_23_method_6_code 21 = .ok (.imul, 1) := by decide +kernel
theorem d6_22 : decode prog_23_method_6_code 22 = .ok (.iload 4, 2) := by decide +kernel
theorem d6_24 : decode prog_23_method_6_code 24 = .ok (.iadd, 1) := by decide +kernel
theorem d6_25 : decode prog_23_method_6_code 25 = .ok (.dup2, 1) := by decide +kernel
theorem d6_26 : decode prog_23_method_6_code 26 = .ok (.laload, 1) := by decide +kernel
theorem d6_27 : decode prog_23_method_6_code 27 = .ok (.aload_n 2, 1) := by decide +kernel
theorem d6_28 : decode prog_23_method_6_code 28 = .ok (.getfield 24, 3) := by decide +kernel
theorem d6_31 : decode prog_23_method_6_code 31 = .ok (.iload_n 3, 1) := by decide +kernel
theorem d6_32 : decode prog_23_method_6_code 32 = .ok (.aload_n 0, 1) := by decide +kernel
theorem d6_33 : decode prog_23_method_6_code 33 = .ok (.getfield 17, 3) := by decide +kernel
theorem d6_36 : decode prog_23_method_6_code 36 = .ok (.imul, 1) := by decide +kernel
theorem d6_37 : decode prog_23_method_6_code 37 = .ok (.iload 4, 2) := by decide +kernel
theorem d6_39 : decode prog_23_method_6_code 39 = .ok (.iadd, 1) := by decide +kernel
theorem d6_40 : decode prog_23_method_6_code 40 = .ok (.laload, 1) := by decide +kernel
theorem d6_41 : decode prog_23_method_6_code 41 = .ok (.land, 1) := by decide +kernel
theorem d6_42 : decode prog_23_method_6_code 42 = .ok (.lastore, 1) := by decide +kernel
theorem d6_43 : decode prog_23_method_6_code 43 = .ok (.iinc 4 1, 3) := by decide +kernel
theorem d6_46 : decode prog_23_method_6_code 46 = .ok (.goto (-43), 3) := by decide +kernel
theorem d6_49 : decode prog_23_method_6_code 49 = .ok (.return_, 1) := by decide +kernel
theorem ef6 (m : MethodId) (ad0 : Addr) (p1 : Int32) (ad2 : Addr) (p3 : Int32) : entryFrame m #[(.ref ad0), (.int p1), (.ref ad2), (.int p3)] 5 = mkF m 0 #[.val (.ref ad0), .val (.int p1), .val (.ref ad2), .val (.int p3), .unset] [] := by first | (simp [entryFrame, mkF, argsToLocals, Value.category]; done) | rfl
def Q6 (Z : State) (ad0 : Addr) (p1 : Int32) (ad2 : Addr) (p3 : Int32) (xs : Nat → Int64) (ys : Nat → Int64) (bt : Addr) (bo : Addr) (h0 : Heap) (n0 : Nat) (v : Option Value) (h : Heap) (L : List Loc) : Prop := v = none ∧ Fr n0 L ∧ Keep h0 h [bt] ∧ own_AV Value.long Z h bt .long 4 (own_all xs ys p1 p3)
set_option maxRecDepth 65536 in
set_option maxHeartbeats 40000000 in
theorem rm6 (l : Launch) (Z : State) (a0 : Array Value) (hw : ∀ d ∈ tables_1, d.before a0 Z = true) (ws : List Jvm.Cond) (ad0 : Addr) (p1 : Int32) (ad2 : Addr) (p3 : Int32) (xs : Nat → Int64) (ys : Nat → Int64) (bt : Addr) (bo : Addr) (h0 : Heap) (n0 : Nat) (Z0 : n0 ≤ h0.size) (F_bits_ad0 : Fld Z h0 ad0 "com/example/twigwright/twigwright/PathNodeSets" "bits" "[J" (.ref bt)) (F_words_ad0 : Fld Z h0 ad0 "com/example/twigwright/twigwright/PathNodeSets" "words" "I" (.int (2 : Int32))) (V_bt : own_AV Value.long Z h0 bt .long 4 xs) (F_bits_ad2 : Fld Z h0 ad2 "com/example/twigwright/twigwright/PathNodeSets" "bits" "[J" (.ref bo)) (V_bo : own_AV Value.long Z h0 bo .long 4 ys) (g_bt : n0 ≤ bt) (ne_bt_bo : bt ≠ bo) (ne_ad0_bt : ad0 ≠ bt) (ne_ad2_bt : ad2 ≠ bt) (h1 : p1 = 0 ∨ p1 = 1) (h3 : p3 = 0 ∨ p3 = 1) :
    MetFree l (⟨"com/example/twigwright/twigwright/PathNodeSets", "retainAll", "(ILcom/example/twigwright/twigwright/PathNodeSets;I)V"⟩ : MethodName) (head1 (Jvm.Cond.code (⟨"com/example/twigwright/twigwright/PathNodeSets", "retainAll", "(ILcom/example/twigwright/twigwright/PathNodeSets;I)V"⟩ : MethodName) prog_23_method_6_code 5 none :: ws) ({ frames := 0, cells := 0, slots := 0, locals := 0 } : Room)) (fun a U => a = #[(.ref ad0), (.int p1), (.ref ad2), (.int p3)] ∧ Z.Warmed39 U.vm ∧ U.heap = h0) (fun _ _ _ _ _ => True) (fun _ U o U' => ∃ v L, o = .returned v ∧ Q6 Z ad0 p1 ad2 p3 xs ys bt bo h0 n0 v U'.heap L ∧ FrameEnd U o U' L ({ frames := 0, cells := 0, slots := 0, locals := 0 } : Room).cells ({ frames := 0, cells := 0, slots := 0, locals := 0 } : Room).slots) := by
  refine MetFree.of_bodySF (plainFor_of_name own_pn0) hisR ?_
  intro p e s m args below meth c s₁ Bd hml0 hP hK
  obtain ⟨rfl, hZ, hh⟩ := hP
  have hx := Bd.exec
  have hby := Bd.bytes
  have hml : c.maxLocals = 5 := hml0
  have hown : s.vm.findClass "com/example/twigwright/twigwright/PathNodeSets" = some m.cls := findClass_of_methodNamed Bd.named
  have hnm := (name_of_methodNamed Bd.named Bd.method).1
  have hlk : meth.locks = false := BodyLoose.notSynchronized Bd
  have X0 : Stand p l e ({ frames := 0, cells := 0, slots := 0, locals := 0 } : Room) s m #[(.ref ad0), (.int p1), (.ref ad2), (.int p3)] below meth c s₁ [] 0 0 := Stand.of_body Bd
  have e0 : s₁.heap = h0 := by rw [← hh, Bd.state]; rfl
  have N0 := Fr.nil n0
  obtain ⟨G, hG⟩ : ∃ G, G = own_G s (Q6 Z ad0 p1 ad2 p3 xs ys bt bo h0 n0) ({ frames := 0, cells := 0, slots := 0, locals := 0 } : Room).cells ({ frames := 0, cells := 0, slots := 0, locals := 0 } : Room).slots := ⟨_, rfl⟩
  show own_Fin p e below (own_G s (Q6 Z ad0 p1 ad2 p3 xs ys bt bo h0 n0) ({ frames := 0, cells := 0, slots := 0, locals := 0 } : Room).cells ({ frames := 0, cells := 0, slots := 0, locals := 0 } : Room).slots) (s₁.setTop (entryFrame m #[(.ref ad0), (.int p1), (.ref ad2), (.int p3)] 5))
  rw [← hG]
  refine own_to (fun _ kz => castTop (ef6 m ad0 p1 ad2 p3) kz) ?_
  show own_Fin p e below G (s₁.setTop (mkF m 0 #[.val (.ref ad0), .val (.int p1), .val (.ref ad2), .val (.int p3), .unset] []))
  refine own_to (fun _ kz => XS.iconst X0.here hx rfl (hb hby d6_0) kz) ?_
  show own_Fin p e below G (s₁.setTop (mkF m 1 #[.val (.ref ad0), .val (.int p1), .val (.ref ad2), .val (.int p3), .unset] [(.int (0 : Int32))]))
  refine own_to (fun _ kz => XS.istore X0.here hx rfl (hb hby d6_1) rfl (l' := #[.val (.ref ad0), .val (.int p1), .val (.ref ad2), .val (.int p3), .val (.int (0 : Int32))]) rfl kz) ?_
  show own_Fin p e below G (s₁.setTop (mkF m 3 #[.val (.ref ad0), .val (.int p1), .val (.ref ad2), .val (.int p3), .val (.int (0 : Int32))] []))
  refine own_to (fun _ kz => XS.iload X0.here hx rfl (hb hby d6_3) rfl  kz) ?_
  show own_Fin p e below G (s₁.setTop (mkF m 5 #[.val (.ref ad0), .val (.int p1), .val (.ref ad2), .val (.int p3), .val (.int (0 : Int32))] [(.int (0 : Int32))]))
  refine own_to (fun _ kz => XS.aloadN X0.here hx rfl (hb hby d6_5) rfl (rfl)  kz) ?_
  show own_Fin p e below G (s₁.setTop (mkF m 6 #[.val (.ref ad0), .val (.int p1), .val (.ref ad2), .val (.int p3), .val (.int (0 : Int32))] [(.ref ad0), (.int (0 : Int32))]))
  obtain ⟨T6, X6, e6, st6⟩ := getF X0 hx hZ hown (host := "") (Or.inl (hw _ (List.mem_of_getElem? (i := 13) rfl))) Via.refl e0 F_words_ad0 (g := (mkF m 6 #[.val (.ref ad0), .val (.int p1), .val (.ref ad2), .val (.int p3), .val (.int (0 : Int32))] [(.ref ad0), (.int (0 : Int32))])) rfl rfl (hb hby d6_6)
  refine own_to st6 ?_
  show own_Fin p e below G (T6.setTop (mkF m 9 #[.val (.ref ad0), .val (.int p1), .val (.ref ad2), .val (.int p3), .val (.int (0 : Int32))] [(.int (2 : Int32)), (.int (0 : Int32))]))
  have hc9 : (0 : Int32) < (2 : Int32) := by decide
  refine own_to (fun _ kz => XS.icmpNo X6.here hx rfl (hb hby d6_9) rfl (tlt hc9).2.1 kz) ?_
  show own_Fin p e below G (T6.setTop (mkF m 12 #[.val (.ref ad0), .val (.int p1), .val (.ref ad2), .val (.int p3), .val (.int (0 : Int32))] []))
  refine own_to (fun _ kz => XS.aloadN X6.here hx rfl (hb hby d6_12) rfl (rfl)  kz) ?_
  show own_Fin p e below G (T6.setTop (mkF m 13 #[.val (.ref ad0), .val (.int p1), .val (.ref ad2), .val (.int p3), .val (.int (0 : Int32))] [(.ref ad0)]))
  obtain ⟨T13, X13, e13, st13⟩ := getF X6 hx hZ hown (host := "") (Or.inl (hw _ (List.mem_of_getElem? (i := 19) rfl))) Via.refl e6 F_bits_ad0 (g := (mkF m 13 #[.val (.ref ad0), .val (.int p1), .val (.ref ad2), .val (.int p3), .val (.int (0 : Int32))] [(.ref ad0)])) rfl rfl (hb hby d6_13)
  refine own_to st13 ?_
  show own_Fin p e below G (T13.setTop (mkF m 16 #[.val (.ref ad0), .val (.int p1), .val (.ref ad2), .val (.int p3), .val (.int (0 : Int32))] [(.ref bt)]))
  refine own_to (fun _ kz => XS.iloadN X13.here hx rfl (hb hby d6_16) rfl  kz) ?_
  show own_Fin p e below G (T13.setTop (mkF m 17 #[.val (.ref ad0), .val (.int p1), .val (.ref ad2), .val (.int p3), .val (.int (0 : Int32))] [(.int p1), (.ref bt)]))
  refine own_to (fun _ kz => XS.aloadN X13.here hx rfl (hb hby d6_17) rfl (rfl)  kz) ?_
  show own_Fin p e below G (T13.setTop (mkF m 18 #[.val (.ref ad0), .val (.int p1), .val (.ref ad2), .val (.int p3), .val (.int (0 : Int32))] [(.ref ad0), (.int p1), (.ref bt)]))
  obtain ⟨T18, X18, e18, st18⟩ := getF X13 hx hZ hown (host := "") (Or.inl (hw _ (List.mem_of_getElem? (i := 13) rfl))) Via.refl e13 F_words_ad0 (g := (mkF m 18 #[.val (.ref ad0), .val (.int p1), .val (.ref ad2), .val (.int p3), .val (.int (0 : Int32))] [(.ref ad0), (.int p1), (.ref bt)])) rfl rfl (hb hby d6_18)
  refine own_to st18 ?_
  show own_Fin p e below G (T18.setTop (mkF m 21 #[.val (.ref ad0), .val (.int p1), .val (.ref ad2), .val (.int p3), .val (.int (0 : Int32))] [(.int (2 : Int32)), (.int p1), (.ref bt)]))
  refine own_to (fun _ kz => XS.imul X18.here hx rfl (hb hby d6_21) rfl kz) ?_
  show own_Fin p e below G (T18.setTop (mkF m 22 #[.val (.ref ad0), .val (.int p1), .val (.ref ad2), .val (.int p3), .val (.int (0 : Int32))] [(.int (p1 * (2 : Int32))), (.ref bt)]))
  refine own_to (fun _ kz => XS.iload X18.here hx rfl (hb hby d6_22) rfl  kz) ?_
  show own_Fin p e below G (T18.setTop (mkF m 24 #[.val (.ref ad0), .val (.int p1), .val (.ref ad2), .val (.int p3), .val (.int (0 : Int32))] [(.int (0 : Int32)), (.int (p1 * (2 : Int32))), (.ref bt)]))
  refine own_to (fun _ kz => XS.iadd X18.here hx rfl (hb hby d6_24) rfl kz) ?_
  show own_Fin p e below G (T18.setTop (mkF m 25 #[.val (.ref ad0), .val (.int p1), .val (.ref ad2), .val (.int p3), .val (.int (0 : Int32))] [(.int ((p1 * (2 : Int32)) + (0 : Int32))), (.ref bt)]))
  refine own_to (fun _ kz => Jvm.Free.XT.dup2 X18.here hx rfl (hb hby d6_25) rfl rfl rfl kz) ?_
  show own_Fin p e below G (T18.setTop (mkF m 26 #[.val (.ref ad0), .val (.int p1), .val (.ref ad2), .val (.int p3), .val (.int (0 : Int32))] [(.int ((p1 * (2 : Int32)) + (0 : Int32))), (.ref bt), (.int ((p1 * (2 : Int32)) + (0 : Int32))), (.ref bt)]))
  refine own_to (fun _ kz => own_laload X18 hx hZ e18 V_bt (j := ((p1 * (2 : Int32)) + (0 : Int32))) (by rcases h1 with rfl | rfl <;> decide +kernel) rfl (by rcases h1 with rfl | rfl <;> decide +kernel) (g := (mkF m 26 #[.val (.ref ad0), .val (.int p1), .val (.ref ad2), .val (.int p3), .val (.int (0 : Int32))] [(.int ((p1 * (2 : Int32)) + (0 : Int32))), (.ref bt), (.int ((p1 * (2 : Int32)) + (0 : Int32))), (.ref bt)])) rfl rfl (hb hby d6_26) kz) ?_
  show own_Fin p e below G (T18.setTop (mkF m 27 #[.val (.ref ad0), .val (.int p1), .val (.ref ad2), .val (.int p3), .val (.int (0 : Int32))] [(.long (xs ((p1 * (2 : Int32)) + (0 : Int32)).toNatClampNeg)), (.int ((p1 * (2 : Int32)) + (0 : Int32))), (.ref bt)]))
  refine own_to (fun _ kz => XS.aloadN X18.here hx rfl (hb hby d6_27) rfl (rfl)  kz) ?_
  show own_Fin p e below G (T18.setTop (mkF m 28 #[.val (.ref ad0), .val (.int p1), .val (.ref ad2), .val (.int p3), .val (.int (0 : Int32))] [(.ref ad2), (.long (xs ((p1 * (2 : Int32)) + (0 : Int32)).toNatClampNeg)), (.int ((p1 * (2 : Int32)) + (0 : Int32))), (.ref bt)]))
  obtain ⟨T28, X28, e28, st28⟩ := getF X18 hx hZ hown (host := "") (Or.inl (hw _ (List.mem_of_getElem? (i := 19) rfl))) Via.refl e18 F_bits_ad2 (g := (mkF m 28 #[.val (.ref ad0), .val (.int p1), .val (.ref ad2), .val (.int p3), .val (.int (0 : Int32))] [(.ref ad2), (.long (xs ((p1 * (2 : Int32)) + (0 : Int32)).toNatClampNeg)), (.int ((p1 * (2 : Int32)) + (0 : Int32))), (.ref bt)])) rfl rfl (hb hby d6_28)
  refine own_to st28 ?_
  show own_Fin p e below G (T28.setTop (mkF m 31 #[.val (.ref ad0), .val (.int p1), .val (.ref ad2), .val (.int p3), .val (.int (0 : Int32))] [(.ref bo), (.long (xs ((p1 * (2 : Int32)) + (0 : Int32)).toNatClampNeg)), (.int ((p1 * (2 : Int32)) + (0 : Int32))), (.ref bt)]))
  refine own_to (fun _ kz => XS.iloadN X28.here hx rfl (hb hby d6_31) rfl  kz) ?_
  show own_Fin p e below G (T28.setTop (mkF m 32 #[.val (.ref ad0), .val (.int p1), .val (.ref ad2), .val (.int p3), .val (.int (0 : Int32))] [(.int p3), (.ref bo), (.long (xs ((p1 * (2 : Int32)) + (0 : Int32)).toNatClampNeg)), (.int ((p1 * (2 : Int32)) + (0 : Int32))), (.ref bt)]))
  refine own_to (fun _ kz => XS.aloadN X28.here hx rfl (hb hby d6_32) rfl (rfl)  kz) ?_
  show own_Fin p e below G (T28.setTop (mkF m 33 #[.val (.ref ad0), .val (.int p1), .val (.ref ad2), .val (.int p3), .val (.int (0 : Int32))] [(.ref ad0), (.int p3), (.ref bo), (.long (xs ((p1 * (2 : Int32)) + (0 : Int32)).toNatClampNeg)), (.int ((p1 * (2 : Int32)) + (0 : Int32))), (.ref bt)]))
  obtain ⟨T33, X33, e33, st33⟩ := getF X28 hx hZ hown (host := "") (Or.inl (hw _ (List.mem_of_getElem? (i := 13) rfl))) Via.refl e28 F_words_ad0 (g := (mkF m 33 #[.val (.ref ad0), .val (.int p1), .val (.ref ad2), .val (.int p3), .val (.int (0 : Int32))] [(.ref ad0), (.int p3), (.ref bo), (.long (xs ((p1 * (2 : Int32)) + (0 : Int32)).toNatClampNeg)), (.int ((p1 * (2 : Int32)) + (0 : Int32))), (.ref bt)])) rfl rfl (hb hby d6_33)
  refine own_to st33 ?_
  show own_Fin p e below G (T33.setTop (mkF m 36 #[.val (.ref ad0), .val (.int p1), .val (.ref ad2), .val (.int p3), .val (.int (0 : Int32))] [(.int (2 : Int32)), (.int p3), (.ref bo), (.long (xs ((p1 * (2 : Int32)) + (0 : Int32)).toNatClampNeg)), (.int ((p1 * (2 : Int32)) + (0 : Int32))), (.ref bt)]))
  refine own_to (fun _ kz => XS.imul X33.here hx rfl (hb hby d6_36) rfl kz) ?_
  show own_Fin p e below G (T33.setTop (mkF m 37 #[.val (.ref ad0), .val (.int p1), .val (.ref ad2), .val (.int p3), .val (.int (0 : Int32))] [(.int (p3 * (2 : Int32))), (.ref bo), (.long (xs ((p1 * (2 : Int32)) + (0 : Int32)).toNatClampNeg)), (.int ((p1 * (2 : Int32)) + (0 : Int32))), (.ref bt)]))
  refine own_to (fun _ kz => XS.iload X33.here hx rfl (hb hby d6_37) rfl  kz) ?_
  show own_Fin p e below G (T33.setTop (mkF m 39 #[.val (.ref ad0), .val (.int p1), .val (.ref ad2), .val (.int p3), .val (.int (0 : Int32))] [(.int (0 : Int32)), (.int (p3 * (2 : Int32))), (.ref bo), (.long (xs ((p1 * (2 : Int32)) + (0 : Int32)).toNatClampNeg)), (.int ((p1 * (2 : Int32)) + (0 : Int32))), (.ref bt)]))
  refine own_to (fun _ kz => XS.iadd X33.here hx rfl (hb hby d6_39) rfl kz) ?_
  show own_Fin p e below G (T33.setTop (mkF m 40 #[.val (.ref ad0), .val (.int p1), .val (.ref ad2), .val (.int p3), .val (.int (0 : Int32))] [(.int ((p3 * (2 : Int32)) + (0 : Int32))), (.ref bo), (.long (xs ((p1 * (2 : Int32)) + (0 : Int32)).toNatClampNeg)), (.int ((p1 * (2 : Int32)) + (0 : Int32))), (.ref bt)]))
  refine own_to (fun _ kz => own_laload X33 hx hZ e33 V_bo (j := ((p3 * (2 : Int32)) + (0 : Int32))) (by rcases h3 with rfl | rfl <;> decide +kernel) rfl (by rcases h3 with rfl | rfl <;> decide +kernel) (g := (mkF m 40 #[.val (.ref ad0), .val (.int p1), .val (.ref ad2), .val (.int p3), .val (.int (0 : Int32))] [(.int ((p3 * (2 : Int32)) + (0 : Int32))), (.ref bo), (.long (xs ((p1 * (2 : Int32)) + (0 : Int32)).toNatClampNeg)), (.int ((p1 * (2 : Int32)) + (0 : Int32))), (.ref bt)])) rfl rfl (hb hby d6_40) kz) ?_
  show own_Fin p e below G (T33.setTop (mkF m 41 #[.val (.ref ad0), .val (.int p1), .val (.ref ad2), .val (.int p3), .val (.int (0 : Int32))] [(.long (ys ((p3 * (2 : Int32)) + (0 : Int32)).toNatClampNeg)), (.long (xs ((p1 * (2 : Int32)) + (0 : Int32)).toNatClampNeg)), (.int ((p1 * (2 : Int32)) + (0 : Int32))), (.ref bt)]))
  refine own_to (fun _ kz => XS.land X33.here hx rfl (hb hby d6_41) rfl kz) ?_
  show own_Fin p e below G (T33.setTop (mkF m 42 #[.val (.ref ad0), .val (.int p1), .val (.ref ad2), .val (.int p3), .val (.int (0 : Int32))] [(.long ((xs ((p1 * (2 : Int32)) + (0 : Int32)).toNatClampNeg) &&& (ys ((p3 * (2 : Int32)) + (0 : Int32)).toNatClampNeg))), (.int ((p1 * (2 : Int32)) + (0 : Int32))), (.ref bt)]))
  obtain ⟨nn42, cl42, Ar42, Sz42, Hs42⟩ := V_bt
  obtain ⟨T42, h42, X42, e42, W42, st42⟩ := stJ X33 hx hZ e33 Ar42 (j := ((p1 * (2 : Int32)) + (0 : Int32))) (own_in Sz42 (by rcases h1 with rfl | rfl <;> decide +kernel) rfl (by rcases h1 with rfl | rfl <;> decide +kernel)) (g := (mkF m 42 #[.val (.ref ad0), .val (.int p1), .val (.ref ad2), .val (.int p3), .val (.int (0 : Int32))] [(.long ((xs ((p1 * (2 : Int32)) + (0 : Int32)).toNatClampNeg) &&& (ys ((p3 * (2 : Int32)) + (0 : Int32)).toNatClampNeg))), (.int ((p1 * (2 : Int32)) + (0 : Int32))), (.ref bt)])) rfl rfl (hb hby d6_42)
  refine own_to st42 ?_
  have V42 : own_AV Value.long Z h42 bt .long 4 (own_upd xs ((p1 * (2 : Int32)) + (0 : Int32)).toNatClampNeg ((xs ((p1 * (2 : Int32)) + (0 : Int32)).toNatClampNeg) &&& (ys ((p3 * (2 : Int32)) + (0 : Int32)).toNatClampNeg))) := own_AV.set nn42 Ar42 Sz42 Hs42 W42 rfl
  obtain ⟨lo42, X42, N42⟩ : ∃ lo, Stand p l e _ s m _ below meth c T42 lo _ _ ∧ Fr n0 lo := ⟨_, X42, Fr.snoc X42 N0 g_bt⟩
  have Va42 : own_AV Value.long Z h42 bt .long 4 (own_row xs ys p1 p3 (0 : Int32)) := V42
  show own_Fin p e below G (T42.setTop (mkF m 43 #[.val (.ref ad0), .val (.int p1), .val (.ref ad2), .val (.int p3), .val (.int (0 : Int32))] []))
  refine own_to (fun _ kz => XS.iinc X42.here hx rfl (hb hby d6_43) rfl (l' := #[.val (.ref ad0), .val (.int p1), .val (.ref ad2), .val (.int p3), .val (.int ((0 : Int32) + (1 : Int32)))]) rfl kz) ?_
  show own_Fin p e below G (T42.setTop (mkF m 46 #[.val (.ref ad0), .val (.int p1), .val (.ref ad2), .val (.int p3), .val (.int ((0 : Int32) + (1 : Int32)))] []))
  refine own_to (fun _ kz => XS.goto X42.here hx rfl (pc0 := 46) (pc' := 3) rfl (hb hby d6_46) (by decide) (by decide) kz) ?_
  show own_Fin p e below G (T42.setTop (mkF m 3 #[.val (.ref ad0), .val (.int p1), .val (.ref ad2), .val (.int p3), .val (.int ((0 : Int32) + (1 : Int32)))] []))
  refine own_to (fun _ kz => XS.iload X42.here hx rfl (hb hby d6_3) rfl  kz) ?_
  show own_Fin p e below G (T42.setTop (mkF m 5 #[.val (.ref ad0), .val (.int p1), .val (.ref ad2), .val (.int p3), .val (.int ((0 : Int32) + (1 : Int32)))] [(.int ((0 : Int32) + (1 : Int32)))]))
  refine own_to (fun _ kz => XS.aloadN X42.here hx rfl (hb hby d6_5) rfl (rfl)  kz) ?_
  show own_Fin p e below G (T42.setTop (mkF m 6 #[.val (.ref ad0), .val (.int p1), .val (.ref ad2), .val (.int p3), .val (.int ((0 : Int32) + (1 : Int32)))] [(.ref ad0), (.int ((0 : Int32) + (1 : Int32)))]))
  have F_words_ad0_at_6 : Fld Z h42 ad0 "com/example/twigwright/twigwright/PathNodeSets" "words" "I" (.int (2 : Int32)) := (F_words_ad0.other W42 (Or.inl ne_ad0_bt))
  obtain ⟨T6v2, X6v2, e6v2, st6v2⟩ := getF X42 hx hZ hown (host := "") (Or.inl (hw _ (List.mem_of_getElem? (i := 13) rfl))) Via.refl e42 F_words_ad0_at_6 (g := (mkF m 6 #[.val (.ref ad0), .val (.int p1), .val (.ref ad2), .val (.int p3), .val (.int ((0 : Int32) + (1 : Int32)))] [(.ref ad0), (.int ((0 : Int32) + (1 : Int32)))])) rfl rfl (hb hby d6_6)
  refine own_to st6v2 ?_
  show own_Fin p e below G (T6v2.setTop (mkF m 9 #[.val (.ref ad0), .val (.int p1), .val (.ref ad2), .val (.int p3), .val (.int ((0 : Int32) + (1 : Int32)))] [(.int (2 : Int32)), (.int ((0 : Int32) + (1 : Int32)))]))
  have hc9v2 : ((0 : Int32) + (1 : Int32)) < (2 : Int32) := by decide
  refine own_to (fun _ kz => XS.icmpNo X6v2.here hx rfl (hb hby d6_9) rfl (tlt hc9v2).2.1 kz) ?_
  show own_Fin p e below G (T6v2.setTop (mkF m 12 #[.val (.ref ad0), .val (.int p1), .val (.ref ad2), .val (.int p3), .val (.int ((0 : Int32) + (1 : Int32)))] []))
  refine own_to (fun _ kz => XS.aloadN X6v2.here hx rfl (hb hby d6_12) rfl (rfl)  kz) ?_
  show own_Fin p e below G (T6v2.setTop (mkF m 13 #[.val (.ref ad0), .val (.int p1), .val (.ref ad2), .val (.int p3), .val (.int ((0 : Int32) + (1 : Int32)))] [(.ref ad0)]))
  have F_bits_ad0_at_13 : Fld Z h42 ad0 "com/example/twigwright/twigwright/PathNodeSets" "bits" "[J" (.ref bt) := (F_bits_ad0.other W42 (Or.inl ne_ad0_bt))
  obtain ⟨T13v2, X13v2, e13v2, st13v2⟩ := getF X6v2 hx hZ hown (host := "") (Or.inl (hw _ (List.mem_of_getElem? (i := 19) rfl))) Via.refl e6v2 F_bits_ad0_at_13 (g := (mkF m 13 #[.val (.ref ad0), .val (.int p1), .val (.ref ad2), .val (.int p3), .val (.int ((0 : Int32) + (1 : Int32)))] [(.ref ad0)])) rfl rfl (hb hby d6_13)
  refine own_to st13v2 ?_
  show own_Fin p e below G (T13v2.setTop (mkF m 16 #[.val (.ref ad0), .val (.int p1), .val (.ref ad2), .val (.int p3), .val (.int ((0 : Int32) + (1 : Int32)))] [(.ref bt)]))
  refine own_to (fun _ kz => XS.iloadN X13v2.here hx rfl (hb hby d6_16) rfl  kz) ?_
  show own_Fin p e below G (T13v2.setTop (mkF m 17 #[.val (.ref ad0), .val (.int p1), .val (.ref ad2), .val (.int p3), .val (.int ((0 : Int32) + (1 : Int32)))] [(.int p1), (.ref bt)]))
  refine own_to (fun _ kz => XS.aloadN X13v2.here hx rfl (hb hby d6_17) rfl (rfl)  kz) ?_
  show own_Fin p e below G (T13v2.setTop (mkF m 18 #[.val (.ref ad0), .val (.int p1), .val (.ref ad2), .val (.int p3), .val (.int ((0 : Int32) + (1 : Int32)))] [(.ref ad0), (.int p1), (.ref bt)]))
  obtain ⟨T18v2, X18v2, e18v2, st18v2⟩ := getF X13v2 hx hZ hown (host := "") (Or.inl (hw _ (List.mem_of_getElem? (i := 13) rfl))) Via.refl e13v2 F_words_ad0_at_6 (g := (mkF m 18 #[.val (.ref ad0), .val (.int p1), .val (.ref ad2), .val (.int p3), .val (.int ((0 : Int32) + (1 : Int32)))] [(.ref ad0), (.int p1), (.ref bt)])) rfl rfl (hb hby d6_18)
  refine own_to st18v2 ?_
  show own_Fin p e below G (T18v2.setTop (mkF m 21 #[.val (.ref ad0), .val (.int p1), .val (.ref ad2), .val (.int p3), .val (.int ((0 : Int32) + (1 : Int32)))] [(.int (2 : Int32)), (.int p1), (.ref bt)]))
  refine own_to (fun _ kz => XS.imul X18v2.here hx rfl (hb hby d6_21) rfl kz) ?_
  show own_Fin p e below G (T18v2.setTop (mkF m 22 #[.val (.ref ad0), .val (.int p1), .val (.ref ad2), .val (.int p3), .val (.int ((0 : Int32) + (1 : Int32)))] [(.int (p1 * (2 : Int32))), (.ref bt)]))
  refine own_to (fun _ kz => XS.iload X18v2.here hx rfl (hb hby d6_22) rfl  kz) ?_
  show own_Fin p e below G (T18v2.setTop (mkF m 24 #[.val (.ref ad0), .val (.int p1), .val (.ref ad2), .val (.int p3), .val (.int ((0 : Int32) + (1 : Int32)))] [(.int ((0 : Int32) + (1 : Int32))), (.int (p1 * (2 : Int32))), (.ref bt)]))
  refine own_to (fun _ kz => XS.iadd X18v2.here hx rfl (hb hby d6_24) rfl kz) ?_
  show own_Fin p e below G (T18v2.setTop (mkF m 25 #[.val (.ref ad0), .val (.int p1), .val (.ref ad2), .val (.int p3), .val (.int ((0 : Int32) + (1 : Int32)))] [(.int ((p1 * (2 : Int32)) + ((0 : Int32) + (1 : Int32)))), (.ref bt)]))
  refine own_to (fun _ kz => Jvm.Free.XT.dup2 X18v2.here hx rfl (hb hby d6_25) rfl rfl rfl kz) ?_
  show own_Fin p e below G (T18v2.setTop (mkF m 26 #[.val (.ref ad0), .val (.int p1), .val (.ref ad2), .val (.int p3), .val (.int ((0 : Int32) + (1 : Int32)))] [(.int ((p1 * (2 : Int32)) + ((0 : Int32) + (1 : Int32)))), (.ref bt), (.int ((p1 * (2 : Int32)) + ((0 : Int32) + (1 : Int32)))), (.ref bt)]))
  refine own_to (fun _ kz => own_laload X18v2 hx hZ e18v2 Va42 (j := ((p1 * (2 : Int32)) + ((0 : Int32) + (1 : Int32)))) (by rcases h1 with rfl | rfl <;> decide +kernel) rfl (by rcases h1 with rfl | rfl <;> decide +kernel) (g := (mkF m 26 #[.val (.ref ad0), .val (.int p1), .val (.ref ad2), .val (.int p3), .val (.int ((0 : Int32) + (1 : Int32)))] [(.int ((p1 * (2 : Int32)) + ((0 : Int32) + (1 : Int32)))), (.ref bt), (.int ((p1 * (2 : Int32)) + ((0 : Int32) + (1 : Int32)))), (.ref bt)])) rfl rfl (hb hby d6_26) kz) ?_
  show own_Fin p e below G (T18v2.setTop (mkF m 27 #[.val (.ref ad0), .val (.int p1), .val (.ref ad2), .val (.int p3), .val (.int ((0 : Int32) + (1 : Int32)))] [(.long ((own_row xs ys p1 p3 (0 : Int32)) ((p1 * (2 : Int32)) + ((0 : Int32) + (1 : Int32))).toNatClampNeg)), (.int ((p1 * (2 : Int32)) + ((0 : Int32) + (1 : Int32)))), (.ref bt)]))
  refine own_to (fun _ kz => XS.aloadN X18v2.here hx rfl (hb hby d6_27) rfl (rfl)  kz) ?_
  show own_Fin p e below G (T18v2.setTop (mkF m 28 #[.val (.ref ad0), .val (.int p1), .val (.ref ad2), .val (.int p3), .val (.int ((0 : Int32) + (1 : Int32)))] [(.ref ad2), (.long ((own_row xs ys p1 p3 (0 : Int32)) ((p1 * (2 : Int32)) + ((0 : Int32) + (1 : Int32))).toNatClampNeg)), (.int ((p1 * (2 : Int32)) + ((0 : Int32) + (1 : Int32)))), (.ref bt)]))
  have F_bits_ad2_at_28 : Fld Z h42 ad2 "com/example/twigwright/twigwright/PathNodeSets" "bits" "[J" (.ref bo) := (F_bits_ad2.other W42 (Or.inl ne_ad2_bt))
  obtain ⟨T28v2, X28v2, e28v2, st28v2⟩ := getF X18v2 hx hZ hown (host := "") (Or.inl (hw _ (List.mem_of_getElem? (i := 19) rfl))) Via.refl e18v2 F_bits_ad2_at_28 (g := (mkF m 28 #[.val (.ref ad0), .val (.int p1), .val (.ref ad2), .val (.int p3), .val (.int ((0 : Int32) + (1 : Int32)))] [(.ref ad2), (.long ((own_row xs ys p1 p3 (0 : Int32)) ((p1 * (2 : Int32)) + ((0 : Int32) + (1 : Int32))).toNatClampNeg)), (.int ((p1 * (2 : Int32)) + ((0 : Int32) + (1 : Int32)))), (.ref bt)])) rfl rfl (hb hby d6_28)
  refine own_to st28v2 ?_
  show own_Fin p e below G (T28v2.setTop (mkF m 31 #[.val (.ref ad0), .val (.int p1), .val (.ref ad2), .val (.int p3), .val (.int ((0 : Int32) + (1 : Int32)))] [(.ref bo), (.long ((own_row xs ys p1 p3 (0 : Int32)) ((p1 * (2 : Int32)) + ((0 : Int32) + (1 : Int32))).toNatClampNeg)), (.int ((p1 * (2 : Int32)) + ((0 : Int32) + (1 : Int32)))), (.ref bt)]))
  refine own_to (fun _ kz => XS.iloadN X28v2.here hx rfl (hb hby d6_31) rfl  kz) ?_
  show own_Fin p e below G (T28v2.setTop (mkF m 32 #[.val (.ref ad0), .val (.int p1), .val (.ref ad2), .val (.int p3), .val (.int ((0 : Int32) + (1 : Int32)))] [(.int p3), (.ref bo), (.long ((own_row xs ys p1 p3 (0 : Int32)) ((p1 * (2 : Int32)) + ((0 : Int32) + (1 : Int32))).toNatClampNeg)), (.int ((p1 * (2 : Int32)) + ((0 : Int32) + (1 : Int32)))), (.ref bt)]))
  refine own_to (fun _ kz => XS.aloadN X28v2.here hx rfl (hb hby d6_32) rfl (rfl)  kz) ?_
  show own_Fin p e below G (T28v2.setTop (mkF m 33 #[.val (.ref ad0), .val (.int p1), .val (.ref ad2), .val (.int p3), .val (.int ((0 : Int32) + (1 : Int32)))] [(.ref ad0), (.int p3), (.ref bo), (.long ((own_row xs ys p1 p3 (0 : Int32)) ((p1 * (2 : Int32)) + ((0 : Int32) + (1 : Int32))).toNatClampNeg)), (.int ((p1 * (2 : Int32)) + ((0 : Int32) + (1 : Int32)))), (.ref bt)]))
  obtain ⟨T33v2, X33v2, e33v2, st33v2⟩ := getF X28v2 hx hZ hown (host := "") (Or.inl (hw _ (List.mem_of_getElem? (i := 13) rfl))) Via.refl e28v2 F_words_ad0_at_6 (g := (mkF m 33 #[.val (.ref ad0), .val (.int p1), .val (.ref ad2), .val (.int p3), .val (.int ((0 : Int32) + (1 : Int32)))] [(.ref ad0), (.int p3), (.ref bo), (.long ((own_row xs ys p1 p3 (0 : Int32)) ((p1 * (2 : Int32)) + ((0 : Int32) + (1 : Int32))).toNatClampNeg)), (.int ((p1 * (2 : Int32)) + ((0 : Int32) + (1 : Int32)))), (.ref bt)])) rfl rfl (hb hby d6_33)
  refine own_to st33v2 ?_
  show own_Fin p e below G (T33v2.setTop (mkF m 36 #[.val (.ref ad0), .val (.int p1), .val (.ref ad2), .val (.int p3), .val (.int ((0 : Int32) + (1 : Int32)))] [(.int (2 : Int32)), (.int p3), (.ref bo), (.long ((own_row xs ys p1 p3 (0 : Int32)) ((p1 * (2 : Int32)) + ((0 : Int32) + (1 : Int32))).toNatClampNeg)), (.int ((p1 * (2 : Int32)) + ((0 : Int32) + (1 : Int32)))), (.ref bt)]))
  refine own_to (fun _ kz => XS.imul X33v2.here hx rfl (hb hby d6_36) rfl kz) ?_
  show own_Fin p e below G (T33v2.setTop (mkF m 37 #[.val (.ref ad0), .val (.int p1), .val (.ref ad2), .val (.int p3), .val (.int ((0 : Int32) + (1 : Int32)))] [(.int (p3 * (2 : Int32))), (.ref bo), (.long ((own_row xs ys p1 p3 (0 : Int32)) ((p1 * (2 : Int32)) + ((0 : Int32) + (1 : Int32))).toNatClampNeg)), (.int ((p1 * (2 : Int32)) + ((0 : Int32) + (1 : Int32)))), (.ref bt)]))
  refine own_to (fun _ kz => XS.iload X33v2.here hx rfl (hb hby d6_37) rfl  kz) ?_
  show own_Fin p e below G (T33v2.setTop (mkF m 39 #[.val (.ref ad0), .val (.int p1), .val (.ref ad2), .val (.int p3), .val (.int ((0 : Int32) + (1 : Int32)))] [(.int ((0 : Int32) + (1 : Int32))), (.int (p3 * (2 : Int32))), (.ref bo), (.long ((own_row xs ys p1 p3 (0 : Int32)) ((p1 * (2 : Int32)) + ((0 : Int32) + (1 : Int32))).toNatClampNeg)), (.int ((p1 * (2 : Int32)) + ((0 : Int32) + (1 : Int32)))), (.ref bt)]))
  refine own_to (fun _ kz => XS.iadd X33v2.here hx rfl (hb hby d6_39) rfl kz) ?_
  show own_Fin p e below G (T33v2.setTop (mkF m 40 #[.val (.ref ad0), .val (.int p1), .val (.ref ad2), .val (.int p3), .val (.int ((0 : Int32) + (1 : Int32)))] [(.int ((p3 * (2 : Int32)) + ((0 : Int32) + (1 : Int32)))), (.ref bo), (.long ((own_row xs ys p1 p3 (0 : Int32)) ((p1 * (2 : Int32)) + ((0 : Int32) + (1 : Int32))).toNatClampNeg)), (.int ((p1 * (2 : Int32)) + ((0 : Int32) + (1 : Int32)))), (.ref bt)]))
  have V_bo_at_40 : own_AV Value.long Z h42 bo .long 4 ys := (V_bo.other W42 (Ne.symm ne_bt_bo))
  refine own_to (fun _ kz => own_laload X33v2 hx hZ e33v2 V_bo_at_40 (j := ((p3 * (2 : Int32)) + ((0 : Int32) + (1 : Int32)))) (by rcases h3 with rfl | rfl <;> decide +kernel) rfl (by rcases h3 with rfl | rfl <;> decide +kernel) (g := (mkF m 40 #[.val (.ref ad0), .val (.int p1), .val (.ref ad2), .val (.int p3), .val (.int ((0 : Int32) + (1 : Int32)))] [(.int ((p3 * (2 : Int32)) + ((0 : Int32) + (1 : Int32)))), (.ref bo), (.long ((own_row xs ys p1 p3 (0 : Int32)) ((p1 * (2 : Int32)) + ((0 : Int32) + (1 : Int32))).toNatClampNeg)), (.int ((p1 * (2 : Int32)) + ((0 : Int32) + (1 : Int32)))), (.ref bt)])) rfl rfl (hb hby d6_40) kz) ?_
  show own_Fin p e below G (T33v2.setTop (mkF m 41 #[.val (.ref ad0), .val (.int p1), .val (.ref ad2), .val (.int p3), .val (.int ((0 : Int32) + (1 : Int32)))] [(.long (ys ((p3 * (2 : Int32)) + ((0 : Int32) + (1 : Int32))).toNatClampNeg)), (.long ((own_row xs ys p1 p3 (0 : Int32)) ((p1 * (2 : Int32)) + ((0 : Int32) + (1 : Int32))).toNatClampNeg)), (.int ((p1 * (2 : Int32)) + ((0 : Int32) + (1 : Int32)))), (.ref bt)]))
  refine own_to (fun _ kz => XS.land X33v2.here hx rfl (hb hby d6_41) rfl kz) ?_
  show own_Fin p e below G (T33v2.setTop (mkF m 42 #[.val (.ref ad0), .val (.int p1), .val (.ref ad2), .val (.int p3), .val (.int ((0 : Int32) + (1 : Int32)))] [(.long (((own_row xs ys p1 p3 (0 : Int32)) ((p1 * (2 : Int32)) + ((0 : Int32) + (1 : Int32))).toNatClampNeg) &&& (ys ((p3 * (2 : Int32)) + ((0 : Int32) + (1 : Int32))).toNatClampNeg))), (.int ((p1 * (2 : Int32)) + ((0 : Int32) + (1 : Int32)))), (.ref bt)]))
  obtain ⟨nn42v2, cl42v2, Ar42v2, Sz42v2, Hs42v2⟩ := Va42
  obtain ⟨T42v2, h42v2, X42v2, e42v2, W42v2, st42v2⟩ := stJ X33v2 hx hZ e33v2 Ar42v2 (j := ((p1 * (2 : Int32)) + ((0 : Int32) + (1 : Int32)))) (own_in Sz42v2 (by rcases h1 with rfl | rfl <;> decide +kernel) rfl (by rcases h1 with rfl | rfl <;> decide +kernel)) (g := (mkF m 42 #[.val (.ref ad0), .val (.int p1), .val (.ref ad2), .val (.int p3), .val (.int ((0 : Int32) + (1 : Int32)))] [(.long (((own_row xs ys p1 p3 (0 : Int32)) ((p1 * (2 : Int32)) + ((0 : Int32) + (1 : Int32))).toNatClampNeg) &&& (ys ((p3 * (2 : Int32)) + ((0 : Int32) + (1 : Int32))).toNatClampNeg))), (.int ((p1 * (2 : Int32)) + ((0 : Int32) + (1 : Int32)))), (.ref bt)])) rfl rfl (hb hby d6_42)
  refine own_to st42v2 ?_
  have V42v2 : own_AV Value.long Z h42v2 bt .long 4 (own_upd (own_row xs ys p1 p3 (0 : Int32)) ((p1 * (2 : Int32)) + ((0 : Int32) + (1 : Int32))).toNatClampNeg (((own_row xs ys p1 p3 (0 : Int32)) ((p1 * (2 : Int32)) + ((0 : Int32) + (1 : Int32))).toNatClampNeg) &&& (ys ((p3 * (2 : Int32)) + ((0 : Int32) + (1 : Int32))).toNatClampNeg))) := own_AV.set nn42v2 Ar42v2 Sz42v2 Hs42v2 W42v2 rfl
  obtain ⟨lo42v2, X42v2, N42v2⟩ : ∃ lo, Stand p l e _ s m _ below meth c T42v2 lo _ _ ∧ Fr n0 lo := ⟨_, X42v2, Fr.snoc X42v2 N42 g_bt⟩
  have Va42v2 : own_AV Value.long Z h42v2 bt .long 4 (own_all xs ys p1 p3) := V42v2
  show own_Fin p e below G (T42v2.setTop (mkF m 43 #[.val (.ref ad0), .val (.int p1), .val (.ref ad2), .val (.int p3), .val (.int ((0 : Int32) + (1 : Int32)))] []))
  refine own_to (fun _ kz => XS.iinc X42v2.here hx rfl (hb hby d6_43) rfl (l' := #[.val (.ref ad0), .val (.int p1), .val (.ref ad2), .val (.int p3), .val (.int (((0 : Int32) + (1 : Int32)) + (1 : Int32)))]) rfl kz) ?_
  show own_Fin p e below G (T42v2.setTop (mkF m 46 #[.val (.ref ad0), .val (.int p1), .val (.ref ad2), .val (.int p3), .val (.int (((0 : Int32) + (1 : Int32)) + (1 : Int32)))] []))
  refine own_to (fun _ kz => XS.goto X42v2.here hx rfl (pc0 := 46) (pc' := 3) rfl (hb hby d6_46) (by decide) (by decide) kz) ?_
  show own_Fin p e below G (T42v2.setTop (mkF m 3 #[.val (.ref ad0), .val (.int p1), .val (.ref ad2), .val (.int p3), .val (.int (((0 : Int32) + (1 : Int32)) + (1 : Int32)))] []))
  refine own_to (fun _ kz => XS.iload X42v2.here hx rfl (hb hby d6_3) rfl  kz) ?_
  show own_Fin p e below G (T42v2.setTop (mkF m 5 #[.val (.ref ad0), .val (.int p1), .val (.ref ad2), .val (.int p3), .val (.int (((0 : Int32) + (1 : Int32)) + (1 : Int32)))] [(.int (((0 : Int32) + (1 : Int32)) + (1 : Int32)))]))
  refine own_to (fun _ kz => XS.aloadN X42v2.here hx rfl (hb hby d6_5) rfl (rfl)  kz) ?_
  show own_Fin p e below G (T42v2.setTop (mkF m 6 #[.val (.ref ad0), .val (.int p1), .val (.ref ad2), .val (.int p3), .val (.int (((0 : Int32) + (1 : Int32)) + (1 : Int32)))] [(.ref ad0), (.int (((0 : Int32) + (1 : Int32)) + (1 : Int32)))]))
  have F_words_ad0_at_6'1 : Fld Z h42v2 ad0 "com/example/twigwright/twigwright/PathNodeSets" "words" "I" (.int (2 : Int32)) := (F_words_ad0_at_6.other W42v2 (Or.inl ne_ad0_bt))
  obtain ⟨T6v3, X6v3, e6v3, st6v3⟩ := getF X42v2 hx hZ hown (host := "") (Or.inl (hw _ (List.mem_of_getElem? (i := 13) rfl))) Via.refl e42v2 F_words_ad0_at_6'1 (g := (mkF m 6 #[.val (.ref ad0), .val (.int p1), .val (.ref ad2), .val (.int p3), .val (.int (((0 : Int32) + (1 : Int32)) + (1 : Int32)))] [(.ref ad0), (.int (((0 : Int32) + (1 : Int32)) + (1 : Int32)))])) rfl rfl (hb hby d6_6)
  refine own_to st6v3 ?_
  show own_Fin p e below G (T6v3.setTop (mkF m 9 #[.val (.ref ad0), .val (.int p1), .val (.ref ad2), .val (.int p3), .val (.int (((0 : Int32) + (1 : Int32)) + (1 : Int32)))] [(.int (2 : Int32)), (.int (((0 : Int32) + (1 : Int32)) + (1 : Int32)))]))
  have hc9v3 : ¬ ((((0 : Int32) + (1 : Int32)) + (1 : Int32)) < (2 : Int32)) := by decide
  refine own_to (fun _ kz => XS.icmpYes X6v3.here hx rfl (pc0 := 9) (pc' := 49) rfl (hb hby d6_9) rfl (flt hc9v3).2.1 (by decide) (by decide) kz) ?_
  show own_Fin p e below G (T6v3.setTop (mkF m 49 #[.val (.ref ad0), .val (.int p1), .val (.ref ad2), .val (.int p3), .val (.int (((0 : Int32) + (1 : Int32)) + (1 : Int32)))] []))
  have KP_49 : Keep h0 h42v2 [bt] := (((Keep.refl h0 [bt]).wr W42 (Or.inl (List.mem_of_getElem? (i := 0) rfl))).wr W42v2 (Or.inl (List.mem_of_getElem? (i := 0) rfl)))
  exact own_retV X6v3 hx hlk hG Bd.returns (hb hby d6_49) (by decide) (by decide) (by rw [e6v3]; exact ⟨rfl, N42v2, KP_49, Va42v2⟩)
theorem own_tp (n : Int32) (m : Nat) (hm : n.toBitVec.toNat % 64 = m) : ((1 : Int64) <<< (n &&& 0x3f).toInt64).toBitVec = BitVec.twoPow 64 m := by
  have h := sm64 n m hm
  rw [Int64.toBitVec_shiftLeft, h.1]
  show (1#64) <<< ((BitVec.ofNat 64 m).smod 64) = _
  rw [BitVec.shiftLeft_eq', smod64 m h.2]
  rw [BitVec.twoPow_eq]
def own_nm (n : Int32) : Nat := n.toInt.toNat
def own_rg (n : Int32) : Prop := 0 ≤ n.toInt ∧ n.toInt ≤ 127
theorem own_bn {n : Int32} (h : own_rg n) : n.toBitVec.toNat = own_nm n := by
  have a : n.toInt = n.toBitVec.toInt := rfl
  have b := BitVec.toInt_eq_toNat_cond n.toBitVec
  have c := n.toBitVec.isLt
  obtain ⟨h1, h2⟩ := h
  unfold own_nm
  rw [← a] at b
  split at b <;> omega
theorem own_kk {p n : Int32} (hp : p = 0 ∨ p = 1) (h : own_rg n) : (own_ix p n).toInt = (if p = 1 then 2 else 0) + (own_nm n / 64 : Nat) := by
  have e := c_iushr n 6 6 (by decide) (by decide)
  have e6 : ((2 ^ 6 : Nat) : Int) = 64 := by decide
  rw [e6] at e
  have a := c_iadd (p * (2 : Int32)) ((n.toUInt32 >>> ((6 : Int32) &&& 31).toUInt32).toInt32)
  have r := rng32 (own_ix p n)
  obtain ⟨h1, h2⟩ := h
  unfold own_ix own_nm at *
  rcases hp with rfl | rfl
  · have z : ((0 : Int32) * 2).toInt = 0 := by decide
    rw [if_neg (by decide)]; omega
  · have z : ((1 : Int32) * 2).toInt = 2 := by decide
    rw [if_pos rfl]; omega
theorem own_kn {p n : Int32} (hp : p = 0 ∨ p = 1) (h : own_rg n) : (own_ix p n).toNatClampNeg = (if p = 1 then 2 else 0) + own_nm n / 64 := by
  have a := own_kk hp h
  rcases hp with rfl | rfl
  · rw [if_neg (by decide)] at a ⊢
    have b := own_natc (i := own_ix 0 n) (by omega)
    omega
  · rw [if_pos rfl] at a ⊢
    have b := own_natc (i := own_ix 1 n) (by omega)
    omega
theorem own_4 {p n : Int32} (hp : p = 0 ∨ p = 1) (h : own_rg n) : own_in4 p n := by
  have a := own_kk hp h; have b := own_kn hp h
  have c : own_nm n < 128 := by have := h.2; unfold own_nm; omega
  refine ⟨own_nneg (by rw [a]; split <;> omega), ?_⟩
  rw [b]; split <;> omega
def own_mem (xs : Nat → Int64) (p n : Int32) : Bool := (xs (own_ix p n).toNatClampNeg).toBitVec.getLsbD (own_nm n % 64)
theorem own_con {xs : Nat → Int64} {p n : Int32} (h : own_rg n) : f7 p n xs = if own_mem xs p n = true then 1 else 0 := by
  have e : n.toBitVec.toNat % 64 = own_nm n % 64 := by rw [own_bn h]
  have key : ((xs (own_ix p n).toNatClampNeg) &&& ((1 : Int64) <<< (n &&& 0x3f).toInt64)) = 0 ↔ own_mem xs p n = false := by
    rw [← Int64.toBitVec_inj, Int64.toBitVec_and, own_tp n _ e, BitVec.and_twoPow]
    unfold own_mem
    cases hb : (xs (own_ix p n).toNatClampNeg).toBitVec.getLsbD (own_nm n % 64)
    · simp
    · simp only [if_true]
      constructor
      · intro q
        have g := congrArg (fun z => BitVec.getLsbD z (own_nm n % 64)) q
        simp at g
        omega
      · intro q; cases q
  unfold f7
  show (if ((xs (own_ix p n).toNatClampNeg) &&& ((1 : Int64) <<< (n &&& 0x3f).toInt64)) = 0 then (0 : Int32) else 1) = _
  by_cases g : own_mem xs p n = true
  · rw [if_neg (fun q => by rw [key.mp q] at g; cases g), if_pos g]
  · rw [if_pos (key.mpr (by simpa using g)), if_neg g]
theorem own_madd {xs : Nat → Int64} {p p' n x : Int32} (hp : p = 0 ∨ p = 1) (hp' : p' = 0 ∨ p' = 1) (hn : own_rg n) (hx : own_rg x) : own_mem (own_add xs p x) p' n = (own_mem xs p' n || decide (p' = p ∧ n = x)) := by
  have e : x.toBitVec.toNat % 64 = own_nm x % 64 := by rw [own_bn hx]
  have a := own_kn hp hx; have b := own_kn hp' hn
  have eq : n = x ↔ own_nm n = own_nm x := by
    rw [← Int32.toInt_inj]; unfold own_nm; have := hn.1; have := hx.1; omega
  have l1 : own_nm n < 128 := by have := hn.2; unfold own_nm; omega
  have l2 : own_nm x < 128 := by have := hx.2; unfold own_nm; omega
  unfold own_mem own_add own_upd
  by_cases q : (own_ix p' n).toNatClampNeg = (own_ix p x).toNatClampNeg
  · rw [if_pos q, q, Int64.toBitVec_or, own_tp x _ e, BitVec.getLsbD_or, BitVec.getLsbD_twoPow]
    congr 1
    rw [a, b] at q
    rw [show decide (p' = p ∧ n = x) = decide (p' = p ∧ own_nm n = own_nm x) from decide_eq_decide.mpr (by rw [eq])]
    have hl : own_nm x % 64 < 64 := Nat.mod_lt _ (by decide)
    rw [decide_eq_true hl, Bool.true_and]
    apply decide_eq_decide.mpr
    have d01 : ¬ (0 : Int32) = 1 := by decide
    have d10 : ¬ (1 : Int32) = 0 := by decide
    rcases hp with rfl | rfl <;> rcases hp' with rfl | rfl <;> simp only [d01, d10, if_true, if_false, true_and, false_and] at q ⊢
    · omega
    · omega
    · omega
    · omega
  · rw [if_neg q]
    have : ¬ (p' = p ∧ n = x) := fun z => q (by rw [z.1, z.2])
    simp [this]
theorem own_mall {xs ys : Nat → Int64} {p q p' n : Int32} (hp : p = 0 ∨ p = 1) (hq : q = 0 ∨ q = 1) (hp' : p' = 0 ∨ p' = 1) (hn : own_rg n) : own_mem (own_all xs ys p q) p' n = if p' = p then (own_mem xs p n && own_mem ys q n) else own_mem xs p' n := by
  have l1 : own_nm n / 64 = 0 ∨ own_nm n / 64 = 1 := by have := hn.2; have := hn.1; unfold own_nm; omega
  have k0 := own_kn (Or.inl rfl : (0 : Int32) = 0 ∨ (0 : Int32) = 1) hn
  have k1 := own_kn (Or.inr rfl : (1 : Int32) = 0 ∨ (1 : Int32) = 1) hn
  rw [if_neg (by decide)] at k0
  rw [if_pos rfl] at k1
  have i00 : (((0 : Int32) * (2 : Int32)) + (0 : Int32)).toNatClampNeg = 0 := by decide
  have i01 : (((0 : Int32) * (2 : Int32)) + ((0 : Int32) + (1 : Int32))).toNatClampNeg = 1 := by decide
  have i10 : (((1 : Int32) * (2 : Int32)) + (0 : Int32)).toNatClampNeg = 2 := by decide
  have i11 : (((1 : Int32) * (2 : Int32)) + ((0 : Int32) + (1 : Int32))).toNatClampNeg = 3 := by decide
  unfold own_mem
  rcases l1 with l1 | l1 <;> rw [l1] at k0 k1 <;> rcases hp with rfl | rfl <;> rcases hq with rfl | rfl <;> rcases hp' with rfl | rfl <;>
    simp only [k0, k1, own_all, own_row, own_upd, i00, i01, i10, i11] <;> simp [Int64.toBitVec_and]
theorem own_mz {p n : Int32} : own_mem (fun _ => (0 : Int64)) p n = false := by simp [own_mem]
theorem own_b01 (a : Int32) : (a &&& (1 : Int32)) = 0 ∨ (a &&& (1 : Int32)) = 1 := and_one a
theorem own_r127 (a : Int32) : own_rg (a &&& (127 : Int32)) := c_and a 127 (by decide)
theorem own_1m {p : Int32} (h : p = 0 ∨ p = 1) : ((1 : Int32) - p) = 0 ∨ ((1 : Int32) - p) = 1 := by rcases h with rfl | rfl <;> decide
theorem own_1n {p : Int32} (h : p = 0 ∨ p = 1) : ¬ ((1 : Int32) - p) = p ∧ ¬ p = ((1 : Int32) - p) := by rcases h with rfl | rfl <;> decide
theorem own_pd1 : parseMethodDescriptor "(II)V" = some ⟨[.int, .int], none⟩ := by decide +kernel
theorem own_pd2 : parseMethodDescriptor "(ILcom/example/twigwright/twigwright/PathNodeSets;I)V" = some ⟨[.int, (.object "com/example/twigwright/twigwright/PathNodeSets"), .int], none⟩ := by decide +kernel
theorem own_pd3 : parseMethodDescriptor "(II)Z" = some ⟨[.int, .int], some .boolean⟩ := by decide +kernel
theorem own_pn1 : plainName "com/example/twigwright/twigwright/PathNodeSetsRetainAllPinLaw" = true := by first | (simp [plainName, overriddenIn]; done) | decide +kernel
theorem ef0 (m : MethodId) (p0 : Int32) (p1 : Int32) (p2 : Int32) (p3 : Int32) (p4 : Int32) : entryFrame m #[(.int p0), (.int p1), (.int p2), (.int p3), (.int p4)] maxLocals = mkF m 0 #[.val (.int p0), .val (.int p1), .val (.int p2), .val (.int p3), .val (.int p4), .unset, .unset, .unset, .unset, .unset, .unset, .unset, .unset, .unset, .unset, .unset, .unset, .unset] [] := by first | (simp [entryFrame, mkF, argsToLocals, Value.category, maxLocals]; done) | rfl
def f0_238 (p0 : Int32) (p1 : Int32) (p2 : Int32) (p3 : Int32) (p4 : Int32) (v5_38 : Int32) (v6_38 : Int32) (v7_38 : Int32) (v8_38 : Int32) (v9_38 : Int32) (v10_38 : Int32) (t0_141 : Int32) (t0_162 : Int32) (t0_183 : Int32) (t0_204 : Int32) : Int32 := (0 : Int32)
def f0_204 (p0 : Int32) (p1 : Int32) (p2 : Int32) (p3 : Int32) (p4 : Int32) (v5_38 : Int32) (v6_38 : Int32) (v7_38 : Int32) (v8_38 : Int32) (v9_38 : Int32) (v10_38 : Int32) (t0_141 : Int32) (t0_162 : Int32) (t0_183 : Int32) (t0_204 : Int32) : Int32 := if t0_183 = (0 : Int32) then (f0_238 p0 p1 p2 p3 p4 v5_38 v6_38 v7_38 v8_38 v9_38 v10_38 t0_141 t0_162 t0_183 t0_204) else if t0_204 = (0 : Int32) then (f0_238 p0 p1 p2 p3 p4 v5_38 v6_38 v7_38 v8_38 v9_38 v10_38 t0_141 t0_162 t0_183 t0_204) else if (f7 ((1 : Int32) - v5_38) v7_38 (own_all (own_add (own_add (own_add (fun _ => (0 : Int64)) v5_38 v7_38) v5_38 v8_38) ((1 : Int32) - v5_38) v7_38) (own_add (own_add (fun _ => (0 : Int64)) v6_38 v9_38) v6_38 v10_38) v5_38 v6_38)) = (0 : Int32) then (f0_238 p0 p1 p2 p3 p4 v5_38 v6_38 v7_38 v8_38 v9_38 v10_38 t0_141 t0_162 t0_183 t0_204) else (1 : Int32)
def f0_183 (p0 : Int32) (p1 : Int32) (p2 : Int32) (p3 : Int32) (p4 : Int32) (v5_38 : Int32) (v6_38 : Int32) (v7_38 : Int32) (v8_38 : Int32) (v9_38 : Int32) (v10_38 : Int32) (t0_141 : Int32) (t0_162 : Int32) (t0_183 : Int32) : Int32 := if (f7 v5_38 v8_38 (own_all (own_add (own_add (own_add (fun _ => (0 : Int64)) v5_38 v7_38) v5_38 v8_38) ((1 : Int32) - v5_38) v7_38) (own_add (own_add (fun _ => (0 : Int64)) v6_38 v9_38) v6_38 v10_38) v5_38 v6_38)) = t0_162 then (f0_204 p0 p1 p2 p3 p4 v5_38 v6_38 v7_38 v8_38 v9_38 v10_38 t0_141 t0_162 t0_183 (1 : Int32)) else (f0_204 p0 p1 p2 p3 p4 v5_38 v6_38 v7_38 v8_38 v9_38 v10_38 t0_141 t0_162 t0_183 (0 : Int32))
def f0_162 (p0 : Int32) (p1 : Int32) (p2 : Int32) (p3 : Int32) (p4 : Int32) (v5_38 : Int32) (v6_38 : Int32) (v7_38 : Int32) (v8_38 : Int32) (v9_38 : Int32) (v10_38 : Int32) (t0_141 : Int32) (t0_162 : Int32) : Int32 := if (f7 v5_38 v7_38 (own_all (own_add (own_add (own_add (fun _ => (0 : Int64)) v5_38 v7_38) v5_38 v8_38) ((1 : Int32) - v5_38) v7_38) (own_add (own_add (fun _ => (0 : Int64)) v6_38 v9_38) v6_38 v10_38) v5_38 v6_38)) = t0_141 then (f0_183 p0 p1 p2 p3 p4 v5_38 v6_38 v7_38 v8_38 v9_38 v10_38 t0_141 t0_162 (1 : Int32)) else (f0_183 p0 p1 p2 p3 p4 v5_38 v6_38 v7_38 v8_38 v9_38 v10_38 t0_141 t0_162 (0 : Int32))
def f0_157 (p0 : Int32) (p1 : Int32) (p2 : Int32) (p3 : Int32) (p4 : Int32) (v5_38 : Int32) (v6_38 : Int32) (v7_38 : Int32) (v8_38 : Int32) (v9_38 : Int32) (v10_38 : Int32) (t0_141 : Int32) : Int32 := (f0_162 p0 p1 p2 p3 p4 v5_38 v6_38 v7_38 v8_38 v9_38 v10_38 t0_141 (1 : Int32))
def f0_141 (p0 : Int32) (p1 : Int32) (p2 : Int32) (p3 : Int32) (p4 : Int32) (v5_38 : Int32) (v6_38 : Int32) (v7_38 : Int32) (v8_38 : Int32) (v9_38 : Int32) (v10_38 : Int32) (t0_141 : Int32) : Int32 := if v8_38 = v9_38 then (f0_157 p0 p1 p2 p3 p4 v5_38 v6_38 v7_38 v8_38 v9_38 v10_38 t0_141) else if v8_38 = v10_38 then (f0_157 p0 p1 p2 p3 p4 v5_38 v6_38 v7_38 v8_38 v9_38 v10_38 t0_141) else (f0_162 p0 p1 p2 p3 p4 v5_38 v6_38 v7_38 v8_38 v9_38 v10_38 t0_141 (0 : Int32))
def f0_136 (p0 : Int32) (p1 : Int32) (p2 : Int32) (p3 : Int32) (p4 : Int32) (v5_38 : Int32) (v6_38 : Int32) (v7_38 : Int32) (v8_38 : Int32) (v9_38 : Int32) (v10_38 : Int32) : Int32 := (f0_141 p0 p1 p2 p3 p4 v5_38 v6_38 v7_38 v8_38 v9_38 v10_38 (1 : Int32))
def f0_38 (p0 : Int32) (p1 : Int32) (p2 : Int32) (p3 : Int32) (p4 : Int32) (v5_38 : Int32) (v6_38 : Int32) (v7_38 : Int32) (v8_38 : Int32) (v9_38 : Int32) (v10_38 : Int32) : Int32 := if v7_38 = v9_38 then (f0_136 p0 p1 p2 p3 p4 v5_38 v6_38 v7_38 v8_38 v9_38 v10_38) else if v7_38 = v10_38 then (f0_136 p0 p1 p2 p3 p4 v5_38 v6_38 v7_38 v8_38 v9_38 v10_38) else (f0_141 p0 p1 p2 p3 p4 v5_38 v6_38 v7_38 v8_38 v9_38 v10_38 (0 : Int32))
def f0 (p0 : Int32) (p1 : Int32) (p2 : Int32) (p3 : Int32) (p4 : Int32) : Int32 := (f0_38 p0 p1 p2 p3 p4 (p4 &&& (1 : Int32)) (((p4.toUInt32 >>> ((1 : Int32) &&& 31).toUInt32).toInt32) &&& (1 : Int32)) (p0 &&& (127 : Int32)) (p1 &&& (127 : Int32)) (p2 &&& (127 : Int32)) (p3 &&& (127 : Int32)))
def Q0 (Z : State) (p0 : Int32) (p1 : Int32) (p2 : Int32) (p3 : Int32) (p4 : Int32) (h0 : Heap) (n0 : Nat) (v : Option Value) (h : Heap) (L : List Loc) : Prop := v = some (.int (f0 p0 p1 p2 p3 p4)) ∧ Fr n0 L ∧ True
set_option maxRecDepth 65536 in
set_option maxHeartbeats 40000000 in
theorem rm0 (l : Launch) (Z : State) (a0 : Array Value) (hw : ∀ d ∈ tables_1, d.before a0 Z = true) (ws : List Jvm.Cond) (p0 : Int32) (p1 : Int32) (p2 : Int32) (p3 : Int32) (p4 : Int32) (h0 : Heap) (n0 : Nat) (Z0 : n0 ≤ h0.size) :
    MetFree l x (head1 (Jvm.Cond.code x code maxLocals ret :: ws) room_1) (fun a U => a = #[(.int p0), (.int p1), (.int p2), (.int p3), (.int p4)] ∧ Z.Warmed39 U.vm ∧ U.heap = h0) (fun _ _ _ _ _ => True) (fun _ U o U' => ∃ v L, o = .returned v ∧ Q0 Z p0 p1 p2 p3 p4 h0 n0 v U'.heap L ∧ FrameEnd U o U' L room_1.cells room_1.slots) := by
  refine MetFree.of_bodySF (plainFor_of_name own_pn1) hisR ?_
  intro p e s m args below meth c s₁ Bd hml0 hP hK
  obtain ⟨rfl, hZ, hh⟩ := hP
  have hx := Bd.exec
  have hby := Bd.bytes
  have hml : c.maxLocals = 18 := hml0
  have hown : s.vm.findClass "com/example/twigwright/twigwright/PathNodeSetsRetainAllPinLaw" = some m.cls := findClass_of_methodNamed Bd.named
  have hnm := (name_of_methodNamed Bd.named Bd.method).1
  have hlk : meth.locks = false := BodyLoose.notSynchronized Bd
  have X0 : Stand p l e room_1 s m #[(.int p0), (.int p1), (.int p2), (.int p3), (.int p4)] below meth c s₁ [] 0 0 := Stand.of_body Bd
  have e0 : s₁.heap = h0 := by rw [← hh, Bd.state]; rfl
  have N0 := Fr.nil n0
  obtain ⟨G, hG⟩ : ∃ G, G = own_G s (Q0 Z p0 p1 p2 p3 p4 h0 n0) room_1.cells room_1.slots := ⟨_, rfl⟩
  show own_Fin p e below (own_G s (Q0 Z p0 p1 p2 p3 p4 h0 n0) room_1.cells room_1.slots) (s₁.setTop (entryFrame m #[(.int p0), (.int p1), (.int p2), (.int p3), (.int p4)] maxLocals))
  rw [← hG]
  refine own_to (fun _ kz => castTop (ef0 m p0 p1 p2 p3 p4) kz) ?_
  have q0 : (f0 p0 p1 p2 p3 p4) = (f0 p0 p1 p2 p3 p4) := rfl
  show own_Fin p e below G (s₁.setTop (mkF m 0 #[.val (.int p0), .val (.int p1), .val (.int p2), .val (.int p3), .val (.int p4), .unset, .unset, .unset, .unset, .unset, .unset, .unset, .unset, .unset, .unset, .unset, .unset, .unset] []))
  refine own_to (fun _ kz => XS.iload X0.here hx rfl (hb hby at_0) rfl  kz) ?_
  show own_Fin p e below G (s₁.setTop (mkF m 2 #[.val (.int p0), .val (.int p1), .val (.int p2), .val (.int p3), .val (.int p4), .unset, .unset, .unset, .unset, .unset, .unset, .unset, .unset, .unset, .unset, .unset, .unset, .unset] [(.int p4)]))
  refine own_to (fun _ kz => XS.iconst X0.here hx rfl (hb hby at_2) kz) ?_
  show own_Fin p e below G (s₁.setTop (mkF m 3 #[.val (.int p0), .val (.int p1), .val (.int p2), .val (.int p3), .val (.int p4), .unset, .unset, .unset, .unset, .unset, .unset, .unset, .unset, .unset, .unset, .unset, .unset, .unset] [(.int (1 : Int32)), (.int p4)]))
  refine own_to (fun _ kz => XS.iand X0.here hx rfl (hb hby at_3) rfl kz) ?_
  show own_Fin p e below G (s₁.setTop (mkF m 4 #[.val (.int p0), .val (.int p1), .val (.int p2), .val (.int p3), .val (.int p4), .unset, .unset, .unset, .unset, .unset, .unset, .unset, .unset, .unset, .unset, .unset, .unset, .unset] [(.int (p4 &&& (1 : Int32)))]))
  refine own_to (fun _ kz => XS.istore X0.here hx rfl (hb hby at_4) rfl (l' := #[.val (.int p0), .val (.int p1), .val (.int p2), .val (.int p3), .val (.int p4), .val (.int (p4 &&& (1 : Int32))), .unset, .unset, .unset, .unset, .unset, .unset, .unset, .unset, .unset, .unset, .unset, .unset]) rfl kz) ?_
  show own_Fin p e below G (s₁.setTop (mkF m 6 #[.val (.int p0), .val (.int p1), .val (.int p2), .val (.int p3), .val (.int p4), .val (.int (p4 &&& (1 : Int32))), .unset, .unset, .unset, .unset, .unset, .unset, .unset, .unset, .unset, .unset, .unset, .unset] []))
  refine own_to (fun _ kz => XS.iload X0.here hx rfl (hb hby at_6) rfl  kz) ?_
  show own_Fin p e below G (s₁.setTop (mkF m 8 #[.val (.int p0), .val (.int p1), .val (.int p2), .val (.int p3), .val (.int p4), .val (.int (p4 &&& (1 : Int32))), .unset, .unset, .unset, .unset, .unset, .unset, .unset, .unset, .unset, .unset, .unset, .unset] [(.int p4)]))
  refine own_to (fun _ kz => XS.iconst X0.here hx rfl (hb hby at_8) kz) ?_
  show own_Fin p e below G (s₁.setTop (mkF m 9 #[.val (.int p0), .val (.int p1), .val (.int p2), .val (.int p3), .val (.int p4), .val (.int (p4 &&& (1 : Int32))), .unset, .unset, .unset, .unset, .unset, .unset, .unset, .unset, .unset, .unset, .unset, .unset] [(.int (1 : Int32)), (.int p4)]))
  refine own_to (fun _ kz => XS.iushr X0.here hx rfl (hb hby at_9) rfl kz) ?_
  show own_Fin p e below G (s₁.setTop (mkF m 10 #[.val (.int p0), .val (.int p1), .val (.int p2), .val (.int p3), .val (.int p4), .val (.int (p4 &&& (1 : Int32))), .unset, .unset, .unset, .unset, .unset, .unset, .unset, .unset, .unset, .unset, .unset, .unset] [(.int ((p4.toUInt32 >>> ((1 : Int32) &&& 31).toUInt32).toInt32))]))
  refine own_to (fun _ kz => XS.iconst X0.here hx rfl (hb hby at_10) kz) ?_
  show own_Fin p e below G (s₁.setTop (mkF m 11 #[.val (.int p0), .val (.int p1), .val (.int p2), .val (.int p3), .val (.int p4), .val (.int (p4 &&& (1 : Int32))), .unset, .unset, .unset, .unset, .unset, .unset, .unset, .unset, .unset, .unset, .unset, .unset] [(.int (1 : Int32)), (.int ((p4.toUInt32 >>> ((1 : Int32) &&& 31).toUInt32).toInt32))]))
  refine own_to (fun _ kz => XS.iand X0.here hx rfl (hb hby at_11) rfl kz) ?_
  show own_Fin p e below G (s₁.setTop (mkF m 12 #[.val (.int p0), .val (.int p1), .val (.int p2), .val (.int p3), .val (.int p4), .val (.int (p4 &&& (1 : Int32))), .unset, .unset, .unset, .unset, .unset, .unset, .unset, .unset, .unset, .unset, .unset, .unset] [(.int (((p4.toUInt32 >>> ((1 : Int32) &&& 31).toUInt32).toInt32) &&& (1 : Int32)))]))
  refine own_to (fun _ kz => XS.istore X0.here hx rfl (hb hby at_12) rfl (l' := #[.val (.int p0), .val (.int p1), .val (.int p2), .val (.int p3), .val (.int p4), .val (.int (p4 &&& (1 : Int32))), .val (.int (((p4.toUInt32 >>> ((1 : Int32) &&& 31).toUInt32).toInt32) &&& (1 : Int32))), .unset, .unset, .unset, .unset, .unset, .unset, .unset, .unset, .unset, .unset, .unset]) rfl kz) ?_
  show own_Fin p e below G (s₁.setTop (mkF m 14 #[.val (.int p0), .val (.int p1), .val (.int p2), .val (.int p3), .val (.int p4), .val (.int (p4 &&& (1 : Int32))), .val (.int (((p4.toUInt32 >>> ((1 : Int32) &&& 31).toUInt32).toInt32) &&& (1 : Int32))), .unset, .unset, .unset, .unset, .unset, .unset, .unset, .unset, .unset, .unset, .unset] []))
  refine own_to (fun _ kz => XS.iloadN X0.here hx rfl (hb hby at_14) rfl  kz) ?_
  show own_Fin p e below G (s₁.setTop (mkF m 15 #[.val (.int p0), .val (.int p1), .val (.int p2), .val (.int p3), .val (.int p4), .val (.int (p4 &&& (1 : Int32))), .val (.int (((p4.toUInt32 >>> ((1 : Int32) &&& 31).toUInt32).toInt32) &&& (1 : Int32))), .unset, .unset, .unset, .unset, .unset, .unset, .unset, .unset, .unset, .unset, .unset] [(.int p0)]))
  refine own_to (fun _ kz => XS.bipush X0.here hx rfl (hb hby at_15) kz) ?_
  show own_Fin p e below G (s₁.setTop (mkF m 17 #[.val (.int p0), .val (.int p1), .val (.int p2), .val (.int p3), .val (.int p4), .val (.int (p4 &&& (1 : Int32))), .val (.int (((p4.toUInt32 >>> ((1 : Int32) &&& 31).toUInt32).toInt32) &&& (1 : Int32))), .unset, .unset, .unset, .unset, .unset, .unset, .unset, .unset, .unset, .unset, .unset] [(.int (127 : Int32)), (.int p0)]))
  refine own_to (fun _ kz => XS.iand X0.here hx rfl (hb hby at_17) rfl kz) ?_
  show own_Fin p e below G (s₁.setTop (mkF m 18 #[.val (.int p0), .val (.int p1), .val (.int p2), .val (.int p3), .val (.int p4), .val (.int (p4 &&& (1 : Int32))), .val (.int (((p4.toUInt32 >>> ((1 : Int32) &&& 31).toUInt32).toInt32) &&& (1 : Int32))), .unset, .unset, .unset, .unset, .unset, .unset, .unset, .unset, .unset, .unset, .unset] [(.int (p0 &&& (127 : Int32)))]))
  refine own_to (fun _ kz => XS.istore X0.here hx rfl (hb hby at_18) rfl (l' := #[.val (.int p0), .val (.int p1), .val (.int p2), .val (.int p3), .val (.int p4), .val (.int (p4 &&& (1 : Int32))), .val (.int (((p4.toUInt32 >>> ((1 : Int32) &&& 31).toUInt32).toInt32) &&& (1 : Int32))), .val (.int (p0 &&& (127 : Int32))), .unset, .unset, .unset, .unset, .unset, .unset, .unset, .unset, .unset, .unset]) rfl kz) ?_
  show own_Fin p e below G (s₁.setTop (mkF m 20 #[.val (.int p0), .val (.int p1), .val (.int p2), .val (.int p3), .val (.int p4), .val (.int (p4 &&& (1 : Int32))), .val (.int (((p4.toUInt32 >>> ((1 : Int32) &&& 31).toUInt32).toInt32) &&& (1 : Int32))), .val (.int (p0 &&& (127 : Int32))), .unset, .unset, .unset, .unset, .unset, .unset, .unset, .unset, .unset, .unset] []))
  refine own_to (fun _ kz => XS.iloadN X0.here hx rfl (hb hby at_20) rfl  kz) ?_
  show own_Fin p e below G (s₁.setTop (mkF m 21 #[.val (.int p0), .val (.int p1), .val (.int p2), .val (.int p3), .val (.int p4), .val (.int (p4 &&& (1 : Int32))), .val (.int (((p4.toUInt32 >>> ((1 : Int32) &&& 31).toUInt32).toInt32) &&& (1 : Int32))), .val (.int (p0 &&& (127 : Int32))), .unset, .unset, .unset, .unset, .unset, .unset, .unset, .unset, .unset, .unset] [(.int p1)]))
  refine own_to (fun _ kz => XS.bipush X0.here hx rfl (hb hby at_21) kz) ?_
  show own_Fin p e below G (s₁.setTop (mkF m 23 #[.val (.int p0), .val (.int p1), .val (.int p2), .val (.int p3), .val (.int p4), .val (.int (p4 &&& (1 : Int32))), .val (.int (((p4.toUInt32 >>> ((1 : Int32) &&& 31).toUInt32).toInt32) &&& (1 : Int32))), .val (.int (p0 &&& (127 : Int32))), .unset, .unset, .unset, .unset, .unset, .unset, .unset, .unset, .unset, .unset] [(.int (127 : Int32)), (.int p1)]))
  refine own_to (fun _ kz => XS.iand X0.here hx rfl (hb hby at_23) rfl kz) ?_
  show own_Fin p e below G (s₁.setTop (mkF m 24 #[.val (.int p0), .val (.int p1), .val (.int p2), .val (.int p3), .val (.int p4), .val (.int (p4 &&& (1 : Int32))), .val (.int (((p4.toUInt32 >>> ((1 : Int32) &&& 31).toUInt32).toInt32) &&& (1 : Int32))), .val (.int (p0 &&& (127 : Int32))), .unset, .unset, .unset, .unset, .unset, .unset, .unset, .unset, .unset, .unset] [(.int (p1 &&& (127 : Int32)))]))
  refine own_to (fun _ kz => XS.istore X0.here hx rfl (hb hby at_24) rfl (l' := #[.val (.int p0), .val (.int p1), .val (.int p2), .val (.int p3), .val (.int p4), .val (.int (p4 &&& (1 : Int32))), .val (.int (((p4.toUInt32 >>> ((1 : Int32) &&& 31).toUInt32).toInt32) &&& (1 : Int32))), .val (.int (p0 &&& (127 : Int32))), .val (.int (p1 &&& (127 : Int32))), .unset, .unset, .unset, .unset, .unset, .unset, .unset, .unset, .unset]) rfl kz) ?_
  show own_Fin p e below G (s₁.setTop (mkF m 26 #[.val (.int p0), .val (.int p1), .val (.int p2), .val (.int p3), .val (.int p4), .val (.int (p4 &&& (1 : Int32))), .val (.int (((p4.toUInt32 >>> ((1 : Int32) &&& 31).toUInt32).toInt32) &&& (1 : Int32))), .val (.int (p0 &&& (127 : Int32))), .val (.int (p1 &&& (127 : Int32))), .unset, .unset, .unset, .unset, .unset, .unset, .unset, .unset, .unset] []))
  refine own_to (fun _ kz => XS.iloadN X0.here hx rfl (hb hby at_26) rfl  kz) ?_
  show own_Fin p e below G (s₁.setTop (mkF m 27 #[.val (.int p0), .val (.int p1), .val (.int p2), .val (.int p3), .val (.int p4), .val (.int (p4 &&& (1 : Int32))), .val (.int (((p4.toUInt32 >>> ((1 : Int32) &&& 31).toUInt32).toInt32) &&& (1 : Int32))), .val (.int (p0 &&& (127 : Int32))), .val (.int (p1 &&& (127 : Int32))), .unset, .unset, .unset, .unset, .unset, .unset, .unset, .unset, .unset] [(.int p2)]))
  refine own_to (fun _ kz => XS.bipush X0.here hx rfl (hb hby at_27) kz) ?_
  show own_Fin p e below G (s₁.setTop (mkF m 29 #[.val (.int p0), .val (.int p1), .val (.int p2), .val (.int p3), .val (.int p4), .val (.int (p4 &&& (1 : Int32))), .val (.int (((p4.toUInt32 >>> ((1 : Int32) &&& 31).toUInt32).toInt32) &&& (1 : Int32))), .val (.int (p0 &&& (127 : Int32))), .val (.int (p1 &&& (127 : Int32))), .unset, .unset, .unset, .unset, .unset, .unset, .unset, .unset, .unset] [(.int (127 : Int32)), (.int p2)]))
  refine own_to (fun _ kz => XS.iand X0.here hx rfl (hb hby at_29) rfl kz) ?_
  show own_Fin p e below G (s₁.setTop (mkF m 30 #[.val (.int p0), .val (.int p1), .val (.int p2), .val (.int p3), .val (.int p4), .val (.int (p4 &&& (1 : Int32))), .val (.int (((p4.toUInt32 >>> ((1 : Int32) &&& 31).toUInt32).toInt32) &&& (1 : Int32))), .val (.int (p0 &&& (127 : Int32))), .val (.int (p1 &&& (127 : Int32))), .unset, .unset, .unset, .unset, .unset, .unset, .unset, .unset, .unset] [(.int (p2 &&& (127 : Int32)))]))
  refine own_to (fun _ kz => XS.istore X0.here hx rfl (hb hby at_30) rfl (l' := #[.val (.int p0), .val (.int p1), .val (.int p2), .val (.int p3), .val (.int p4), .val (.int (p4 &&& (1 : Int32))), .val (.int (((p4.toUInt32 >>> ((1 : Int32) &&& 31).toUInt32).toInt32) &&& (1 : Int32))), .val (.int (p0 &&& (127 : Int32))), .val (.int (p1 &&& (127 : Int32))), .val (.int (p2 &&& (127 : Int32))), .unset, .unset, .unset, .unset, .unset, .unset, .unset, .unset]) rfl kz) ?_
  show own_Fin p e below G (s₁.setTop (mkF m 32 #[.val (.int p0), .val (.int p1), .val (.int p2), .val (.int p3), .val (.int p4), .val (.int (p4 &&& (1 : Int32))), .val (.int (((p4.toUInt32 >>> ((1 : Int32) &&& 31).toUInt32).toInt32) &&& (1 : Int32))), .val (.int (p0 &&& (127 : Int32))), .val (.int (p1 &&& (127 : Int32))), .val (.int (p2 &&& (127 : Int32))), .unset, .unset, .unset, .unset, .unset, .unset, .unset, .unset] []))
  refine own_to (fun _ kz => XS.iloadN X0.here hx rfl (hb hby at_32) rfl  kz) ?_
  show own_Fin p e below G (s₁.setTop (mkF m 33 #[.val (.int p0), .val (.int p1), .val (.int p2), .val (.int p3), .val (.int p4), .val (.int (p4 &&& (1 : Int32))), .val (.int (((p4.toUInt32 >>> ((1 : Int32) &&& 31).toUInt32).toInt32) &&& (1 : Int32))), .val (.int (p0 &&& (127 : Int32))), .val (.int (p1 &&& (127 : Int32))), .val (.int (p2 &&& (127 : Int32))), .unset, .unset, .unset, .unset, .unset, .unset, .unset, .unset] [(.int p3)]))
  refine own_to (fun _ kz => XS.bipush X0.here hx rfl (hb hby at_33) kz) ?_
  show own_Fin p e below G (s₁.setTop (mkF m 35 #[.val (.int p0), .val (.int p1), .val (.int p2), .val (.int p3), .val (.int p4), .val (.int (p4 &&& (1 : Int32))), .val (.int (((p4.toUInt32 >>> ((1 : Int32) &&& 31).toUInt32).toInt32) &&& (1 : Int32))), .val (.int (p0 &&& (127 : Int32))), .val (.int (p1 &&& (127 : Int32))), .val (.int (p2 &&& (127 : Int32))), .unset, .unset, .unset, .unset, .unset, .unset, .unset, .unset] [(.int (127 : Int32)), (.int p3)]))
  refine own_to (fun _ kz => XS.iand X0.here hx rfl (hb hby at_35) rfl kz) ?_
  show own_Fin p e below G (s₁.setTop (mkF m 36 #[.val (.int p0), .val (.int p1), .val (.int p2), .val (.int p3), .val (.int p4), .val (.int (p4 &&& (1 : Int32))), .val (.int (((p4.toUInt32 >>> ((1 : Int32) &&& 31).toUInt32).toInt32) &&& (1 : Int32))), .val (.int (p0 &&& (127 : Int32))), .val (.int (p1 &&& (127 : Int32))), .val (.int (p2 &&& (127 : Int32))), .unset, .unset, .unset, .unset, .unset, .unset, .unset, .unset] [(.int (p3 &&& (127 : Int32)))]))
  refine own_to (fun _ kz => XS.istore X0.here hx rfl (hb hby at_36) rfl (l' := #[.val (.int p0), .val (.int p1), .val (.int p2), .val (.int p3), .val (.int p4), .val (.int (p4 &&& (1 : Int32))), .val (.int (((p4.toUInt32 >>> ((1 : Int32) &&& 31).toUInt32).toInt32) &&& (1 : Int32))), .val (.int (p0 &&& (127 : Int32))), .val (.int (p1 &&& (127 : Int32))), .val (.int (p2 &&& (127 : Int32))), .val (.int (p3 &&& (127 : Int32))), .unset, .unset, .unset, .unset, .unset, .unset, .unset]) rfl kz) ?_
  show own_Fin p e below G (s₁.setTop (mkF m 38 #[.val (.int p0), .val (.int p1), .val (.int p2), .val (.int p3), .val (.int p4), .val (.int (p4 &&& (1 : Int32))), .val (.int (((p4.toUInt32 >>> ((1 : Int32) &&& 31).toUInt32).toInt32) &&& (1 : Int32))), .val (.int (p0 &&& (127 : Int32))), .val (.int (p1 &&& (127 : Int32))), .val (.int (p2 &&& (127 : Int32))), .val (.int (p3 &&& (127 : Int32))), .unset, .unset, .unset, .unset, .unset, .unset, .unset] []))
  have K38 : ∀ (v5_38 : Int32) (v6_38 : Int32) (v7_38 : Int32) (v8_38 : Int32) (v9_38 : Int32) (v10_38 : Int32) (jh0_38 : v5_38 = 0 ∨ v5_38 = 1) (jh1_38 : v6_38 = 0 ∨ v6_38 = 1) (jh2_38 : own_rg v7_38) (jh3_38 : own_rg v8_38) (jh4_38 : own_rg v9_38) (jh5_38 : own_rg v10_38) (q_j38 : (f0 p0 p1 p2 p3 p4) = (f0_38 p0 p1 p2 p3 p4 v5_38 v6_38 v7_38 v8_38 v9_38 v10_38)), own_Fin p e below G (s₁.setTop (mkF m 38 #[.val (.int p0), .val (.int p1), .val (.int p2), .val (.int p3), .val (.int p4), .val (.int v5_38), .val (.int v6_38), .val (.int v7_38), .val (.int v8_38), .val (.int v9_38), .val (.int v10_38), .unset, .unset, .unset, .unset, .unset, .unset, .unset] [])) := by
    intro v5_38 v6_38 v7_38 v8_38 v9_38 v10_38 jh0_38 jh1_38 jh2_38 jh3_38 jh4_38 jh5_38 q_j38
    obtain ⟨T38, h38, X38, e38, E38, A38, D38, -, st38⟩ := newO X0 hx hZ hown (hw _ (List.mem_of_getElem? (i := 0) rfl)) (hw _ (List.mem_of_getElem? (i := 1) rfl)) (hw _ (List.mem_of_getElem? (i := 2) rfl)) e0 (g := (mkF m 38 #[.val (.int p0), .val (.int p1), .val (.int p2), .val (.int p3), .val (.int p4), .val (.int v5_38), .val (.int v6_38), .val (.int v7_38), .val (.int v8_38), .val (.int v9_38), .val (.int v10_38), .unset, .unset, .unset, .unset, .unset, .unset, .unset] [])) rfl (hb hby at_38) (by decide) (by decide)
    obtain ⟨b38, g38⟩ : ∃ z, z = h0.size := ⟨_, rfl⟩
    rw [← g38] at A38 D38 st38
    refine own_to st38 ?_
    have g_b38 : n0 ≤ b38 := Nat.le_trans Z0 (Nat.le_of_eq g38.symm)
    have F_words_b38 : Fld Z h38 b38 "com/example/twigwright/twigwright/PathNodeSets" "words" "I" (.int (0 : Int32)) := D38 (Or.inr (hw _ (List.mem_of_getElem? (i := 14) rfl))) (ty := .int) (by decide)
    have F_bits_b38 : Fld Z h38 b38 "com/example/twigwright/twigwright/PathNodeSets" "bits" "[J" .null := D38 (Or.inr (hw _ (List.mem_of_getElem? (i := 20) rfl))) (ty := (.array .long)) (by decide)
    show own_Fin p e below G (T38.setTop (mkF m 41 #[.val (.int p0), .val (.int p1), .val (.int p2), .val (.int p3), .val (.int p4), .val (.int v5_38), .val (.int v6_38), .val (.int v7_38), .val (.int v8_38), .val (.int v9_38), .val (.int v10_38), .unset, .unset, .unset, .unset, .unset, .unset, .unset] [(.ref b38)]))
    refine own_to (fun _ kz => XS.dup X38.here hx rfl (hb hby at_41) rfl rfl kz) ?_
    show own_Fin p e below G (T38.setTop (mkF m 42 #[.val (.int p0), .val (.int p1), .val (.int p2), .val (.int p3), .val (.int p4), .val (.int v5_38), .val (.int v6_38), .val (.int v7_38), .val (.int v8_38), .val (.int v9_38), .val (.int v10_38), .unset, .unset, .unset, .unset, .unset, .unset, .unset] [(.ref b38), (.ref b38)]))
    refine own_to (fun _ kz => XS.iconst X38.here hx rfl (hb hby at_42) kz) ?_
    show own_Fin p e below G (T38.setTop (mkF m 43 #[.val (.int p0), .val (.int p1), .val (.int p2), .val (.int p3), .val (.int p4), .val (.int v5_38), .val (.int v6_38), .val (.int v7_38), .val (.int v8_38), .val (.int v9_38), .val (.int v10_38), .unset, .unset, .unset, .unset, .unset, .unset, .unset] [(.int (2 : Int32)), (.ref b38), (.ref b38)]))
    refine own_to (fun _ kz => XS.sipush X38.here hx rfl (hb hby at_43) kz) ?_
    show own_Fin p e below G (T38.setTop (mkF m 46 #[.val (.int p0), .val (.int p1), .val (.int p2), .val (.int p3), .val (.int p4), .val (.int v5_38), .val (.int v6_38), .val (.int v7_38), .val (.int v8_38), .val (.int v9_38), .val (.int v10_38), .unset, .unset, .unset, .unset, .unset, .unset, .unset] [(.int (128 : Int32)), (.int (2 : Int32)), (.ref b38), (.ref b38)]))
    have Zz_46_E38 := Nat.le_trans Z0 E38.1
    have Z_46 : n0 ≤ h38.size := Zz_46_E38
    obtain ⟨_, _, ⟨T46, L46, k46, n46⟩, -, X46, ⟨Lc46, hQ46, l46, y46, z46⟩, st46⟩ := X38.specialBack hx (y := (⟨"com/example/twigwright/twigwright/PathNodeSets", "<init>", "(II)V"⟩ : MethodName)) rfl hown (mvT hZ (hw _ (List.mem_of_getElem? (i := 3) rfl))) (mvT hZ (hw _ (List.mem_of_getElem? (i := 4) rfl))) (mvT hZ (hw _ (List.mem_of_getElem? (i := 5) rfl))) (by decide) (backOf (W := 1) (rm1 l Z a0 hw [] b38 h38 n0 Z_46 A38 F_words_b38 F_bits_b38 g_b38) hZ (hw _ (List.mem_of_getElem? (i := 5) rfl)) (hw _ (List.mem_of_getElem? (i := 2) rfl)) (by decide) (by decide)) (g := (mkF m 46 #[.val (.int p0), .val (.int p1), .val (.int p2), .val (.int p3), .val (.int p4), .val (.int v5_38), .val (.int v6_38), .val (.int v7_38), .val (.int v8_38), .val (.int v9_38), .val (.int v10_38), .unset, .unset, .unset, .unset, .unset, .unset, .unset] [(.int (128 : Int32)), (.int (2 : Int32)), (.ref b38), (.ref b38)])) rfl (by rw [hml]; rfl) (Steps.refl _) (a := b38) (argsL := [(.int (2 : Int32)), (.int (128 : Int32))]) (rest := [(.ref b38)]) (lenOf own_pd1 rfl) rfl (by show 2 * 0 + _ ≤ _; exact Nat.le_of_eq rfl) (hb hby at_46) (fun _ _ => ⟨rfl, e38, (by decide : 1 + 1 ≤ _), (by decide : 2 + 4 ≤ _)⟩)
    dsimp only [Pt.U, Pt.locs, Pt.cells, Pt.slots] at X46 l46 y46 z46 st46 hQ46
    subst l46 y46 z46
    obtain ⟨rfl, N46q, Kp46, PE46, PW46, b46, szq46, PF46, PV46⟩ := hQ46
    have ne_b38_b46 : b38 ≠ b46 := Nat.ne_of_lt (Nat.lt_of_lt_of_le A38.lt szq46)
    have g_b46 : n0 ≤ b46 := Nat.le_trans Z_46 szq46
    obtain ⟨lo46, X46, N46⟩ : ∃ lo, Stand p l e _ s m _ below meth c T46 lo _ _ ∧ Fr n0 lo := ⟨_, X46, Fr.app N0 N46q⟩
    refine own_via st46 ?_
    show own_Fin p e below G (T46.setTop (mkF m 49 #[.val (.int p0), .val (.int p1), .val (.int p2), .val (.int p3), .val (.int p4), .val (.int v5_38), .val (.int v6_38), .val (.int v7_38), .val (.int v8_38), .val (.int v9_38), .val (.int v10_38), .unset, .unset, .unset, .unset, .unset, .unset, .unset] [(.ref b38)]))
    refine own_to (fun _ kz => XS.astore X46.here hx rfl (hb hby at_49) rfl (rfl) (l' := #[.val (.int p0), .val (.int p1), .val (.int p2), .val (.int p3), .val (.int p4), .val (.int v5_38), .val (.int v6_38), .val (.int v7_38), .val (.int v8_38), .val (.int v9_38), .val (.int v10_38), .val (.ref b38), .unset, .unset, .unset, .unset, .unset, .unset]) rfl kz) ?_
    show own_Fin p e below G (T46.setTop (mkF m 51 #[.val (.int p0), .val (.int p1), .val (.int p2), .val (.int p3), .val (.int p4), .val (.int v5_38), .val (.int v6_38), .val (.int v7_38), .val (.int v8_38), .val (.int v9_38), .val (.int v10_38), .val (.ref b38), .unset, .unset, .unset, .unset, .unset, .unset] []))
    have Zz_51_Kp46 := Nat.le_trans Z_46 Kp46.1
    have Z_51 : n0 ≤ T46.heap.size := Zz_51_Kp46
    obtain ⟨T51, h51, X51, e51, E51, A51, D51, -, st51⟩ := newO X46 hx hZ hown (hw _ (List.mem_of_getElem? (i := 0) rfl)) (hw _ (List.mem_of_getElem? (i := 1) rfl)) (hw _ (List.mem_of_getElem? (i := 2) rfl)) rfl (g := (mkF m 51 #[.val (.int p0), .val (.int p1), .val (.int p2), .val (.int p3), .val (.int p4), .val (.int v5_38), .val (.int v6_38), .val (.int v7_38), .val (.int v8_38), .val (.int v9_38), .val (.int v10_38), .val (.ref b38), .unset, .unset, .unset, .unset, .unset, .unset] [])) rfl (hb hby at_51) (by decide) (by decide)
    obtain ⟨b51, g51⟩ : ∃ z, z = T46.heap.size := ⟨_, rfl⟩
    rw [← g51] at A51 D51 st51
    refine own_to st51 ?_
    have ne_b38_b51 : b38 ≠ b51 := Nat.ne_of_lt (Nat.lt_of_lt_of_le PE46.lt (Nat.le_of_eq g51.symm))
    have ne_b46_b51 : b46 ≠ b51 := Nat.ne_of_lt (Nat.lt_of_lt_of_le PV46.lt (Nat.le_of_eq g51.symm))
    have g_b51 : n0 ≤ b51 := Nat.le_trans Z_51 (Nat.le_of_eq g51.symm)
    have F_words_b51 : Fld Z h51 b51 "com/example/twigwright/twigwright/PathNodeSets" "words" "I" (.int (0 : Int32)) := D51 (Or.inr (hw _ (List.mem_of_getElem? (i := 14) rfl))) (ty := .int) (by decide)
    have F_bits_b51 : Fld Z h51 b51 "com/example/twigwright/twigwright/PathNodeSets" "bits" "[J" .null := D51 (Or.inr (hw _ (List.mem_of_getElem? (i := 20) rfl))) (ty := (.array .long)) (by decide)
    show own_Fin p e below G (T51.setTop (mkF m 54 #[.val (.int p0), .val (.int p1), .val (.int p2), .val (.int p3), .val (.int p4), .val (.int v5_38), .val (.int v6_38), .val (.int v7_38), .val (.int v8_38), .val (.int v9_38), .val (.int v10_38), .val (.ref b38), .unset, .unset, .unset, .unset, .unset, .unset] [(.ref b51)]))
    refine own_to (fun _ kz => XS.dup X51.here hx rfl (hb hby at_54) rfl rfl kz) ?_
    show own_Fin p e below G (T51.setTop (mkF m 55 #[.val (.int p0), .val (.int p1), .val (.int p2), .val (.int p3), .val (.int p4), .val (.int v5_38), .val (.int v6_38), .val (.int v7_38), .val (.int v8_38), .val (.int v9_38), .val (.int v10_38), .val (.ref b38), .unset, .unset, .unset, .unset, .unset, .unset] [(.ref b51), (.ref b51)]))
    refine own_to (fun _ kz => XS.iconst X51.here hx rfl (hb hby at_55) kz) ?_
    show own_Fin p e below G (T51.setTop (mkF m 56 #[.val (.int p0), .val (.int p1), .val (.int p2), .val (.int p3), .val (.int p4), .val (.int v5_38), .val (.int v6_38), .val (.int v7_38), .val (.int v8_38), .val (.int v9_38), .val (.int v10_38), .val (.ref b38), .unset, .unset, .unset, .unset, .unset, .unset] [(.int (2 : Int32)), (.ref b51), (.ref b51)]))
    refine own_to (fun _ kz => XS.sipush X51.here hx rfl (hb hby at_56) kz) ?_
    show own_Fin p e below G (T51.setTop (mkF m 59 #[.val (.int p0), .val (.int p1), .val (.int p2), .val (.int p3), .val (.int p4), .val (.int v5_38), .val (.int v6_38), .val (.int v7_38), .val (.int v8_38), .val (.int v9_38), .val (.int v10_38), .val (.ref b38), .unset, .unset, .unset, .unset, .unset, .unset] [(.int (128 : Int32)), (.int (2 : Int32)), (.ref b51), (.ref b51)]))
    have Zz_59_E51 := Nat.le_trans Z_51 E51.1
    have Z_59 : n0 ≤ h51.size := Zz_59_E51
    obtain ⟨_, _, ⟨T59, L59, k59, n59⟩, -, X59, ⟨Lc59, hQ59, l59, y59, z59⟩, st59⟩ := X51.specialBack hx (y := (⟨"com/example/twigwright/twigwright/PathNodeSets", "<init>", "(II)V"⟩ : MethodName)) rfl hown (mvT hZ (hw _ (List.mem_of_getElem? (i := 3) rfl))) (mvT hZ (hw _ (List.mem_of_getElem? (i := 4) rfl))) (mvT hZ (hw _ (List.mem_of_getElem? (i := 5) rfl))) (by decide) (backOf (W := 1) (rm1 l Z a0 hw [] b51 h51 n0 Z_59 A51 F_words_b51 F_bits_b51 g_b51) hZ (hw _ (List.mem_of_getElem? (i := 5) rfl)) (hw _ (List.mem_of_getElem? (i := 2) rfl)) (by decide) (by decide)) (g := (mkF m 59 #[.val (.int p0), .val (.int p1), .val (.int p2), .val (.int p3), .val (.int p4), .val (.int v5_38), .val (.int v6_38), .val (.int v7_38), .val (.int v8_38), .val (.int v9_38), .val (.int v10_38), .val (.ref b38), .unset, .unset, .unset, .unset, .unset, .unset] [(.int (128 : Int32)), (.int (2 : Int32)), (.ref b51), (.ref b51)])) rfl (by rw [hml]; rfl) (Steps.refl _) (a := b51) (argsL := [(.int (2 : Int32)), (.int (128 : Int32))]) (rest := [(.ref b51)]) (lenOf own_pd1 rfl) rfl (by show 2 * 0 + _ ≤ _; exact Nat.le_of_eq rfl) (hb hby at_59) (fun _ _ => ⟨rfl, e51, (by decide : 3 + 1 ≤ _), (by decide : 8 + 4 ≤ _)⟩)
    dsimp only [Pt.U, Pt.locs, Pt.cells, Pt.slots] at X59 l59 y59 z59 st59 hQ59
    subst l59 y59 z59
    obtain ⟨rfl, N59q, Kp59, PE59, PW59, b59, szq59, PF59, PV59⟩ := hQ59
    have ne_b38_b59 : b38 ≠ b59 := Nat.ne_of_lt (Nat.lt_of_lt_of_le (PE46.ext E51).lt szq59)
    have ne_b46_b59 : b46 ≠ b59 := Nat.ne_of_lt (Nat.lt_of_lt_of_le (PV46.ext E51).lt szq59)
    have ne_b51_b59 : b51 ≠ b59 := Nat.ne_of_lt (Nat.lt_of_lt_of_le A51.lt szq59)
    have g_b59 : n0 ≤ b59 := Nat.le_trans Z_59 szq59
    obtain ⟨lo59, X59, N59⟩ : ∃ lo, Stand p l e _ s m _ below meth c T59 lo _ _ ∧ Fr n0 lo := ⟨_, X59, Fr.app N46 N59q⟩
    refine own_via st59 ?_
    show own_Fin p e below G (T59.setTop (mkF m 62 #[.val (.int p0), .val (.int p1), .val (.int p2), .val (.int p3), .val (.int p4), .val (.int v5_38), .val (.int v6_38), .val (.int v7_38), .val (.int v8_38), .val (.int v9_38), .val (.int v10_38), .val (.ref b38), .unset, .unset, .unset, .unset, .unset, .unset] [(.ref b51)]))
    refine own_to (fun _ kz => XS.astore X59.here hx rfl (hb hby at_62) rfl (rfl) (l' := #[.val (.int p0), .val (.int p1), .val (.int p2), .val (.int p3), .val (.int p4), .val (.int v5_38), .val (.int v6_38), .val (.int v7_38), .val (.int v8_38), .val (.int v9_38), .val (.int v10_38), .val (.ref b38), .val (.ref b51), .unset, .unset, .unset, .unset, .unset]) rfl kz) ?_
    show own_Fin p e below G (T59.setTop (mkF m 64 #[.val (.int p0), .val (.int p1), .val (.int p2), .val (.int p3), .val (.int p4), .val (.int v5_38), .val (.int v6_38), .val (.int v7_38), .val (.int v8_38), .val (.int v9_38), .val (.int v10_38), .val (.ref b38), .val (.ref b51), .unset, .unset, .unset, .unset, .unset] []))
    refine own_to (fun _ kz => XS.aload X59.here hx rfl (hb hby at_64) rfl (rfl)  kz) ?_
    show own_Fin p e below G (T59.setTop (mkF m 66 #[.val (.int p0), .val (.int p1), .val (.int p2), .val (.int p3), .val (.int p4), .val (.int v5_38), .val (.int v6_38), .val (.int v7_38), .val (.int v8_38), .val (.int v9_38), .val (.int v10_38), .val (.ref b38), .val (.ref b51), .unset, .unset, .unset, .unset, .unset] [(.ref b38)]))
    refine own_to (fun _ kz => XS.iload X59.here hx rfl (hb hby at_66) rfl  kz) ?_
    show own_Fin p e below G (T59.setTop (mkF m 68 #[.val (.int p0), .val (.int p1), .val (.int p2), .val (.int p3), .val (.int p4), .val (.int v5_38), .val (.int v6_38), .val (.int v7_38), .val (.int v8_38), .val (.int v9_38), .val (.int v10_38), .val (.ref b38), .val (.ref b51), .unset, .unset, .unset, .unset, .unset] [(.int v5_38), (.ref b38)]))
    refine own_to (fun _ kz => XS.iload X59.here hx rfl (hb hby at_68) rfl  kz) ?_
    show own_Fin p e below G (T59.setTop (mkF m 70 #[.val (.int p0), .val (.int p1), .val (.int p2), .val (.int p3), .val (.int p4), .val (.int v5_38), .val (.int v6_38), .val (.int v7_38), .val (.int v8_38), .val (.int v9_38), .val (.int v10_38), .val (.ref b38), .val (.ref b51), .unset, .unset, .unset, .unset, .unset] [(.int v7_38), (.int v5_38), (.ref b38)]))
    have PF46_at_70 : Fld Z T59.heap b38 "com/example/twigwright/twigwright/PathNodeSets" "bits" "[J" (.ref b46) := ((PF46.ext E51).keep Kp59 (ninS ne_b38_b51 nin0))
    have PW46_at_70 : Fld Z T59.heap b38 "com/example/twigwright/twigwright/PathNodeSets" "words" "I" (.int (2 : Int32)) := ((PW46.ext E51).keep Kp59 (ninS ne_b38_b51 nin0))
    have PV46_at_70 : own_AV Value.long Z T59.heap b46 .long 4 (fun _ => (0 : Int64)) := ((PV46.ext E51).keep Kp59 (ninS ne_b46_b51 nin0))
    have Zz_70_Kp59 := Nat.le_trans Z_59 Kp59.1
    have Z_70 : n0 ≤ T59.heap.size := Zz_70_Kp59
    have PE46_at_70 : Exa Z T59.heap b38 "com/example/twigwright/twigwright/PathNodeSets" := ((PE46.ext E51).keep Kp59)
    obtain ⟨cq70, kq70, qa70, qb70, qc70⟩ := isOf hZ rfl PE46_at_70
    obtain ⟨_, _, ⟨T70, L70, k70, n70⟩, -, X70, ⟨Lc70, hQ70, l70, y70, z70⟩, st70⟩ := X59.virtualBack hx (y := (⟨"com/example/twigwright/twigwright/PathNodeSets", "add", "(II)V"⟩ : MethodName)) (z := (⟨"com/example/twigwright/twigwright/PathNodeSets", "add", "(II)V"⟩ : MethodName)) hown (mvT hZ (hw _ (List.mem_of_getElem? (i := 21) rfl))) (mvT hZ (hw _ (List.mem_of_getElem? (i := 22) rfl))) (notFace_of_selects (args := #[]) (mvT hZ (hw _ (List.mem_of_getElem? (i := 24) rfl)))) (mvT hZ (hw _ (List.mem_of_getElem? (i := 24) rfl))) (mvT hZ (hw _ (List.mem_of_getElem? (i := 23) rfl))) (by decide) (backOf (W := 0) (rm5 l Z a0 hw [] b38 v5_38 v7_38 (fun _ => (0 : Int64)) b46 T59.heap n0 Z_70 PF46_at_70 PW46_at_70 PV46_at_70 g_b46 (own_4 jh0_38 jh2_38)) hZ (hw _ (List.mem_of_getElem? (i := 25) rfl)) (hw _ (List.mem_of_getElem? (i := 2) rfl)) (by decide) (by decide)) qa70 qc70 (g := (mkF m 70 #[.val (.int p0), .val (.int p1), .val (.int p2), .val (.int p3), .val (.int p4), .val (.int v5_38), .val (.int v6_38), .val (.int v7_38), .val (.int v8_38), .val (.int v9_38), .val (.int v10_38), .val (.ref b38), .val (.ref b51), .unset, .unset, .unset, .unset, .unset] [(.int v7_38), (.int v5_38), (.ref b38)])) rfl (by rw [hml]; rfl) (Steps.refl _) (argsL := [(.int v5_38), (.int v7_38)]) (rest := []) (lenOf own_pd1 rfl) rfl (by show 2 * 0 + _ ≤ _; exact Nat.le_of_eq rfl) (hb hby at_70) (fun _ _ => ⟨rfl, rfl, (by decide : 4 + 0 ≤ _), (by decide : 12 + 0 ≤ _)⟩)
    dsimp only [Pt.U, Pt.locs, Pt.cells, Pt.slots] at X70 l70 y70 z70 st70 hQ70
    subst l70 y70 z70
    obtain ⟨rfl, N70q, Kp70, P70_0⟩ := hQ70
    obtain ⟨lo70, X70, N70⟩ : ∃ lo, Stand p l e _ s m _ below meth c T70 lo _ _ ∧ Fr n0 lo := ⟨_, X70, Fr.app N59 N70q⟩
    refine own_via st70 ?_
    show own_Fin p e below G (T70.setTop (mkF m 73 #[.val (.int p0), .val (.int p1), .val (.int p2), .val (.int p3), .val (.int p4), .val (.int v5_38), .val (.int v6_38), .val (.int v7_38), .val (.int v8_38), .val (.int v9_38), .val (.int v10_38), .val (.ref b38), .val (.ref b51), .unset, .unset, .unset, .unset, .unset] []))
    refine own_to (fun _ kz => XS.aload X70.here hx rfl (hb hby at_73) rfl (rfl)  kz) ?_
    show own_Fin p e below G (T70.setTop (mkF m 75 #[.val (.int p0), .val (.int p1), .val (.int p2), .val (.int p3), .val (.int p4), .val (.int v5_38), .val (.int v6_38), .val (.int v7_38), .val (.int v8_38), .val (.int v9_38), .val (.int v10_38), .val (.ref b38), .val (.ref b51), .unset, .unset, .unset, .unset, .unset] [(.ref b38)]))
    refine own_to (fun _ kz => XS.iload X70.here hx rfl (hb hby at_75) rfl  kz) ?_
    show own_Fin p e below G (T70.setTop (mkF m 77 #[.val (.int p0), .val (.int p1), .val (.int p2), .val (.int p3), .val (.int p4), .val (.int v5_38), .val (.int v6_38), .val (.int v7_38), .val (.int v8_38), .val (.int v9_38), .val (.int v10_38), .val (.ref b38), .val (.ref b51), .unset, .unset, .unset, .unset, .unset] [(.int v5_38), (.ref b38)]))
    refine own_to (fun _ kz => XS.iload X70.here hx rfl (hb hby at_77) rfl  kz) ?_
    show own_Fin p e below G (T70.setTop (mkF m 79 #[.val (.int p0), .val (.int p1), .val (.int p2), .val (.int p3), .val (.int p4), .val (.int v5_38), .val (.int v6_38), .val (.int v7_38), .val (.int v8_38), .val (.int v9_38), .val (.int v10_38), .val (.ref b38), .val (.ref b51), .unset, .unset, .unset, .unset, .unset] [(.int v8_38), (.int v5_38), (.ref b38)]))
    have PF46_at_79 : Fld Z T70.heap b38 "com/example/twigwright/twigwright/PathNodeSets" "bits" "[J" (.ref b46) := (PF46_at_70.keep Kp70 (ninS ne_b38_b46 nin0))
    have PW46_at_79 : Fld Z T70.heap b38 "com/example/twigwright/twigwright/PathNodeSets" "words" "I" (.int (2 : Int32)) := (PW46_at_70.keep Kp70 (ninS ne_b38_b46 nin0))
    have Zz_79_Kp70 := Nat.le_trans Z_70 Kp70.1
    have Z_79 : n0 ≤ T70.heap.size := Zz_79_Kp70
    have PE46_at_79 : Exa Z T70.heap b38 "com/example/twigwright/twigwright/PathNodeSets" := (PE46_at_70.keep Kp70)
    obtain ⟨cq79, kq79, qa79, qb79, qc79⟩ := isOf hZ rfl PE46_at_79
    obtain ⟨_, _, ⟨T79, L79, k79, n79⟩, -, X79, ⟨Lc79, hQ79, l79, y79, z79⟩, st79⟩ := X70.virtualBack hx (y := (⟨"com/example/twigwright/twigwright/PathNodeSets", "add", "(II)V"⟩ : MethodName)) (z := (⟨"com/example/twigwright/twigwright/PathNodeSets", "add", "(II)V"⟩ : MethodName)) hown (mvT hZ (hw _ (List.mem_of_getElem? (i := 21) rfl))) (mvT hZ (hw _ (List.mem_of_getElem? (i := 22) rfl))) (notFace_of_selects (args := #[]) (mvT hZ (hw _ (List.mem_of_getElem? (i := 24) rfl)))) (mvT hZ (hw _ (List.mem_of_getElem? (i := 24) rfl))) (mvT hZ (hw _ (List.mem_of_getElem? (i := 23) rfl))) (by decide) (backOf (W := 0) (rm5 l Z a0 hw [] b38 v5_38 v8_38 (own_add (fun _ => (0 : Int64)) v5_38 v7_38) b46 T70.heap n0 Z_79 PF46_at_79 PW46_at_79 P70_0 g_b46 (own_4 jh0_38 jh3_38)) hZ (hw _ (List.mem_of_getElem? (i := 25) rfl)) (hw _ (List.mem_of_getElem? (i := 2) rfl)) (by decide) (by decide)) qa79 qc79 (g := (mkF m 79 #[.val (.int p0), .val (.int p1), .val (.int p2), .val (.int p3), .val (.int p4), .val (.int v5_38), .val (.int v6_38), .val (.int v7_38), .val (.int v8_38), .val (.int v9_38), .val (.int v10_38), .val (.ref b38), .val (.ref b51), .unset, .unset, .unset, .unset, .unset] [(.int v8_38), (.int v5_38), (.ref b38)])) rfl (by rw [hml]; rfl) (Steps.refl _) (argsL := [(.int v5_38), (.int v8_38)]) (rest := []) (lenOf own_pd1 rfl) rfl (by show 2 * 0 + _ ≤ _; exact Nat.le_of_eq rfl) (hb hby at_79) (fun _ _ => ⟨rfl, rfl, (by decide : 4 + 0 ≤ _), (by decide : 12 + 0 ≤ _)⟩)
    dsimp only [Pt.U, Pt.locs, Pt.cells, Pt.slots] at X79 l79 y79 z79 st79 hQ79
    subst l79 y79 z79
    obtain ⟨rfl, N79q, Kp79, P79_0⟩ := hQ79
    obtain ⟨lo79, X79, N79⟩ : ∃ lo, Stand p l e _ s m _ below meth c T79 lo _ _ ∧ Fr n0 lo := ⟨_, X79, Fr.app N70 N79q⟩
    refine own_via st79 ?_
    show own_Fin p e below G (T79.setTop (mkF m 82 #[.val (.int p0), .val (.int p1), .val (.int p2), .val (.int p3), .val (.int p4), .val (.int v5_38), .val (.int v6_38), .val (.int v7_38), .val (.int v8_38), .val (.int v9_38), .val (.int v10_38), .val (.ref b38), .val (.ref b51), .unset, .unset, .unset, .unset, .unset] []))
    refine own_to (fun _ kz => XS.aload X79.here hx rfl (hb hby at_82) rfl (rfl)  kz) ?_
    show own_Fin p e below G (T79.setTop (mkF m 84 #[.val (.int p0), .val (.int p1), .val (.int p2), .val (.int p3), .val (.int p4), .val (.int v5_38), .val (.int v6_38), .val (.int v7_38), .val (.int v8_38), .val (.int v9_38), .val (.int v10_38), .val (.ref b38), .val (.ref b51), .unset, .unset, .unset, .unset, .unset] [(.ref b38)]))
    refine own_to (fun _ kz => XS.iconst X79.here hx rfl (hb hby at_84) kz) ?_
    show own_Fin p e below G (T79.setTop (mkF m 85 #[.val (.int p0), .val (.int p1), .val (.int p2), .val (.int p3), .val (.int p4), .val (.int v5_38), .val (.int v6_38), .val (.int v7_38), .val (.int v8_38), .val (.int v9_38), .val (.int v10_38), .val (.ref b38), .val (.ref b51), .unset, .unset, .unset, .unset, .unset] [(.int (1 : Int32)), (.ref b38)]))
    refine own_to (fun _ kz => XS.iload X79.here hx rfl (hb hby at_85) rfl  kz) ?_
    show own_Fin p e below G (T79.setTop (mkF m 87 #[.val (.int p0), .val (.int p1), .val (.int p2), .val (.int p3), .val (.int p4), .val (.int v5_38), .val (.int v6_38), .val (.int v7_38), .val (.int v8_38), .val (.int v9_38), .val (.int v10_38), .val (.ref b38), .val (.ref b51), .unset, .unset, .unset, .unset, .unset] [(.int v5_38), (.int (1 : Int32)), (.ref b38)]))
    refine own_to (fun _ kz => XS.isub X79.here hx rfl (hb hby at_87) rfl kz) ?_
    show own_Fin p e below G (T79.setTop (mkF m 88 #[.val (.int p0), .val (.int p1), .val (.int p2), .val (.int p3), .val (.int p4), .val (.int v5_38), .val (.int v6_38), .val (.int v7_38), .val (.int v8_38), .val (.int v9_38), .val (.int v10_38), .val (.ref b38), .val (.ref b51), .unset, .unset, .unset, .unset, .unset] [(.int ((1 : Int32) - v5_38)), (.ref b38)]))
    refine own_to (fun _ kz => XS.iload X79.here hx rfl (hb hby at_88) rfl  kz) ?_
    show own_Fin p e below G (T79.setTop (mkF m 90 #[.val (.int p0), .val (.int p1), .val (.int p2), .val (.int p3), .val (.int p4), .val (.int v5_38), .val (.int v6_38), .val (.int v7_38), .val (.int v8_38), .val (.int v9_38), .val (.int v10_38), .val (.ref b38), .val (.ref b51), .unset, .unset, .unset, .unset, .unset] [(.int v7_38), (.int ((1 : Int32) - v5_38)), (.ref b38)]))
    have PF46_at_90 : Fld Z T79.heap b38 "com/example/twigwright/twigwright/PathNodeSets" "bits" "[J" (.ref b46) := (PF46_at_79.keep Kp79 (ninS ne_b38_b46 nin0))
    have PW46_at_90 : Fld Z T79.heap b38 "com/example/twigwright/twigwright/PathNodeSets" "words" "I" (.int (2 : Int32)) := (PW46_at_79.keep Kp79 (ninS ne_b38_b46 nin0))
    have Zz_90_Kp79 := Nat.le_trans Z_79 Kp79.1
    have Z_90 : n0 ≤ T79.heap.size := Zz_90_Kp79
    have PE46_at_90 : Exa Z T79.heap b38 "com/example/twigwright/twigwright/PathNodeSets" := (PE46_at_79.keep Kp79)
    obtain ⟨cq90, kq90, qa90, qb90, qc90⟩ := isOf hZ rfl PE46_at_90
    obtain ⟨_, _, ⟨T90, L90, k90, n90⟩, -, X90, ⟨Lc90, hQ90, l90, y90, z90⟩, st90⟩ := X79.virtualBack hx (y := (⟨"com/example/twigwright/twigwright/PathNodeSets", "add", "(II)V"⟩ : MethodName)) (z := (⟨"com/example/twigwright/twigwright/PathNodeSets", "add", "(II)V"⟩ : MethodName)) hown (mvT hZ (hw _ (List.mem_of_getElem? (i := 21) rfl))) (mvT hZ (hw _ (List.mem_of_getElem? (i := 22) rfl))) (notFace_of_selects (args := #[]) (mvT hZ (hw _ (List.mem_of_getElem? (i := 24) rfl)))) (mvT hZ (hw _ (List.mem_of_getElem? (i := 24) rfl))) (mvT hZ (hw _ (List.mem_of_getElem? (i := 23) rfl))) (by decide) (backOf (W := 0) (rm5 l Z a0 hw [] b38 ((1 : Int32) - v5_38) v7_38 (own_add (own_add (fun _ => (0 : Int64)) v5_38 v7_38) v5_38 v8_38) b46 T79.heap n0 Z_90 PF46_at_90 PW46_at_90 P79_0 g_b46 (own_4 (own_1m jh0_38) jh2_38)) hZ (hw _ (List.mem_of_getElem? (i := 25) rfl)) (hw _ (List.mem_of_getElem? (i := 2) rfl)) (by decide) (by decide)) qa90 qc90 (g := (mkF m 90 #[.val (.int p0), .val (.int p1), .val (.int p2), .val (.int p3), .val (.int p4), .val (.int v5_38), .val (.int v6_38), .val (.int v7_38), .val (.int v8_38), .val (.int v9_38), .val (.int v10_38), .val (.ref b38), .val (.ref b51), .unset, .unset, .unset, .unset, .unset] [(.int v7_38), (.int ((1 : Int32) - v5_38)), (.ref b38)])) rfl (by rw [hml]; rfl) (Steps.refl _) (argsL := [(.int ((1 : Int32) - v5_38)), (.int v7_38)]) (rest := []) (lenOf own_pd1 rfl) rfl (by show 2 * 0 + _ ≤ _; exact Nat.le_of_eq rfl) (hb hby at_90) (fun _ _ => ⟨rfl, rfl, (by decide : 4 + 0 ≤ _), (by decide : 12 + 0 ≤ _)⟩)
    dsimp only [Pt.U, Pt.locs, Pt.cells, Pt.slots] at X90 l90 y90 z90 st90 hQ90
    subst l90 y90 z90
    obtain ⟨rfl, N90q, Kp90, P90_0⟩ := hQ90
    obtain ⟨lo90, X90, N90⟩ : ∃ lo, Stand p l e _ s m _ below meth c T90 lo _ _ ∧ Fr n0 lo := ⟨_, X90, Fr.app N79 N90q⟩
    refine own_via st90 ?_
    show own_Fin p e below G (T90.setTop (mkF m 93 #[.val (.int p0), .val (.int p1), .val (.int p2), .val (.int p3), .val (.int p4), .val (.int v5_38), .val (.int v6_38), .val (.int v7_38), .val (.int v8_38), .val (.int v9_38), .val (.int v10_38), .val (.ref b38), .val (.ref b51), .unset, .unset, .unset, .unset, .unset] []))
    refine own_to (fun _ kz => XS.aload X90.here hx rfl (hb hby at_93) rfl (rfl)  kz) ?_
    show own_Fin p e below G (T90.setTop (mkF m 95 #[.val (.int p0), .val (.int p1), .val (.int p2), .val (.int p3), .val (.int p4), .val (.int v5_38), .val (.int v6_38), .val (.int v7_38), .val (.int v8_38), .val (.int v9_38), .val (.int v10_38), .val (.ref b38), .val (.ref b51), .unset, .unset, .unset, .unset, .unset] [(.ref b51)]))
    refine own_to (fun _ kz => XS.iload X90.here hx rfl (hb hby at_95) rfl  kz) ?_
    show own_Fin p e below G (T90.setTop (mkF m 97 #[.val (.int p0), .val (.int p1), .val (.int p2), .val (.int p3), .val (.int p4), .val (.int v5_38), .val (.int v6_38), .val (.int v7_38), .val (.int v8_38), .val (.int v9_38), .val (.int v10_38), .val (.ref b38), .val (.ref b51), .unset, .unset, .unset, .unset, .unset] [(.int v6_38), (.ref b51)]))
    refine own_to (fun _ kz => XS.iload X90.here hx rfl (hb hby at_97) rfl  kz) ?_
    show own_Fin p e below G (T90.setTop (mkF m 99 #[.val (.int p0), .val (.int p1), .val (.int p2), .val (.int p3), .val (.int p4), .val (.int v5_38), .val (.int v6_38), .val (.int v7_38), .val (.int v8_38), .val (.int v9_38), .val (.int v10_38), .val (.ref b38), .val (.ref b51), .unset, .unset, .unset, .unset, .unset] [(.int v9_38), (.int v6_38), (.ref b51)]))
    have PF59_at_99 : Fld Z T90.heap b51 "com/example/twigwright/twigwright/PathNodeSets" "bits" "[J" (.ref b59) := (((PF59.keep Kp70 (ninS (Ne.symm ne_b46_b51) nin0)).keep Kp79 (ninS (Ne.symm ne_b46_b51) nin0)).keep Kp90 (ninS (Ne.symm ne_b46_b51) nin0))
    have PW59_at_99 : Fld Z T90.heap b51 "com/example/twigwright/twigwright/PathNodeSets" "words" "I" (.int (2 : Int32)) := (((PW59.keep Kp70 (ninS (Ne.symm ne_b46_b51) nin0)).keep Kp79 (ninS (Ne.symm ne_b46_b51) nin0)).keep Kp90 (ninS (Ne.symm ne_b46_b51) nin0))
    have PV59_at_99 : own_AV Value.long Z T90.heap b59 .long 4 (fun _ => (0 : Int64)) := (((PV59.keep Kp70 (ninS (Ne.symm ne_b46_b59) nin0)).keep Kp79 (ninS (Ne.symm ne_b46_b59) nin0)).keep Kp90 (ninS (Ne.symm ne_b46_b59) nin0))
    have Zz_99_Kp90 := Nat.le_trans Z_90 Kp90.1
    have Z_99 : n0 ≤ T90.heap.size := Zz_99_Kp90
    have PE59_at_99 : Exa Z T90.heap b51 "com/example/twigwright/twigwright/PathNodeSets" := (((PE59.keep Kp70).keep Kp79).keep Kp90)
    obtain ⟨cq99, kq99, qa99, qb99, qc99⟩ := isOf hZ rfl PE59_at_99
    obtain ⟨_, _, ⟨T99, L99, k99, n99⟩, -, X99, ⟨Lc99, hQ99, l99, y99, z99⟩, st99⟩ := X90.virtualBack hx (y := (⟨"com/example/twigwright/twigwright/PathNodeSets", "add", "(II)V"⟩ : MethodName)) (z := (⟨"com/example/twigwright/twigwright/PathNodeSets", "add", "(II)V"⟩ : MethodName)) hown (mvT hZ (hw _ (List.mem_of_getElem? (i := 21) rfl))) (mvT hZ (hw _ (List.mem_of_getElem? (i := 22) rfl))) (notFace_of_selects (args := #[]) (mvT hZ (hw _ (List.mem_of_getElem? (i := 24) rfl)))) (mvT hZ (hw _ (List.mem_of_getElem? (i := 24) rfl))) (mvT hZ (hw _ (List.mem_of_getElem? (i := 23) rfl))) (by decide) (backOf (W := 0) (rm5 l Z a0 hw [] b51 v6_38 v9_38 (fun _ => (0 : Int64)) b59 T90.heap n0 Z_99 PF59_at_99 PW59_at_99 PV59_at_99 g_b59 (own_4 jh1_38 jh4_38)) hZ (hw _ (List.mem_of_getElem? (i := 25) rfl)) (hw _ (List.mem_of_getElem? (i := 2) rfl)) (by decide) (by decide)) qa99 qc99 (g := (mkF m 99 #[.val (.int p0), .val (.int p1), .val (.int p2), .val (.int p3), .val (.int p4), .val (.int v5_38), .val (.int v6_38), .val (.int v7_38), .val (.int v8_38), .val (.int v9_38), .val (.int v10_38), .val (.ref b38), .val (.ref b51), .unset, .unset, .unset, .unset, .unset] [(.int v9_38), (.int v6_38), (.ref b51)])) rfl (by rw [hml]; rfl) (Steps.refl _) (argsL := [(.int v6_38), (.int v9_38)]) (rest := []) (lenOf own_pd1 rfl) rfl (by show 2 * 0 + _ ≤ _; exact Nat.le_of_eq rfl) (hb hby at_99) (fun _ _ => ⟨rfl, rfl, (by decide : 4 + 0 ≤ _), (by decide : 12 + 0 ≤ _)⟩)
    dsimp only [Pt.U, Pt.locs, Pt.cells, Pt.slots] at X99 l99 y99 z99 st99 hQ99
    subst l99 y99 z99
    obtain ⟨rfl, N99q, Kp99, P99_0⟩ := hQ99
    obtain ⟨lo99, X99, N99⟩ : ∃ lo, Stand p l e _ s m _ below meth c T99 lo _ _ ∧ Fr n0 lo := ⟨_, X99, Fr.app N90 N99q⟩
    refine own_via st99 ?_
    show own_Fin p e below G (T99.setTop (mkF m 102 #[.val (.int p0), .val (.int p1), .val (.int p2), .val (.int p3), .val (.int p4), .val (.int v5_38), .val (.int v6_38), .val (.int v7_38), .val (.int v8_38), .val (.int v9_38), .val (.int v10_38), .val (.ref b38), .val (.ref b51), .unset, .unset, .unset, .unset, .unset] []))
    refine own_to (fun _ kz => XS.aload X99.here hx rfl (hb hby at_102) rfl (rfl)  kz) ?_
    show own_Fin p e below G (T99.setTop (mkF m 104 #[.val (.int p0), .val (.int p1), .val (.int p2), .val (.int p3), .val (.int p4), .val (.int v5_38), .val (.int v6_38), .val (.int v7_38), .val (.int v8_38), .val (.int v9_38), .val (.int v10_38), .val (.ref b38), .val (.ref b51), .unset, .unset, .unset, .unset, .unset] [(.ref b51)]))
    refine own_to (fun _ kz => XS.iload X99.here hx rfl (hb hby at_104) rfl  kz) ?_
    show own_Fin p e below G (T99.setTop (mkF m 106 #[.val (.int p0), .val (.int p1), .val (.int p2), .val (.int p3), .val (.int p4), .val (.int v5_38), .val (.int v6_38), .val (.int v7_38), .val (.int v8_38), .val (.int v9_38), .val (.int v10_38), .val (.ref b38), .val (.ref b51), .unset, .unset, .unset, .unset, .unset] [(.int v6_38), (.ref b51)]))
    refine own_to (fun _ kz => XS.iload X99.here hx rfl (hb hby at_106) rfl  kz) ?_
    show own_Fin p e below G (T99.setTop (mkF m 108 #[.val (.int p0), .val (.int p1), .val (.int p2), .val (.int p3), .val (.int p4), .val (.int v5_38), .val (.int v6_38), .val (.int v7_38), .val (.int v8_38), .val (.int v9_38), .val (.int v10_38), .val (.ref b38), .val (.ref b51), .unset, .unset, .unset, .unset, .unset] [(.int v10_38), (.int v6_38), (.ref b51)]))
    have PF59_at_108 : Fld Z T99.heap b51 "com/example/twigwright/twigwright/PathNodeSets" "bits" "[J" (.ref b59) := (PF59_at_99.keep Kp99 (ninS ne_b51_b59 nin0))
    have PW59_at_108 : Fld Z T99.heap b51 "com/example/twigwright/twigwright/PathNodeSets" "words" "I" (.int (2 : Int32)) := (PW59_at_99.keep Kp99 (ninS ne_b51_b59 nin0))
    have Zz_108_Kp99 := Nat.le_trans Z_99 Kp99.1
    have Z_108 : n0 ≤ T99.heap.size := Zz_108_Kp99
    have PE59_at_108 : Exa Z T99.heap b51 "com/example/twigwright/twigwright/PathNodeSets" := (PE59_at_99.keep Kp99)
    obtain ⟨cq108, kq108, qa108, qb108, qc108⟩ := isOf hZ rfl PE59_at_108
    obtain ⟨_, _, ⟨T108, L108, k108, n108⟩, -, X108, ⟨Lc108, hQ108, l108, y108, z108⟩, st108⟩ := X99.virtualBack hx (y := (⟨"com/example/twigwright/twigwright/PathNodeSets", "add", "(II)V"⟩ : MethodName)) (z := (⟨"com/example/twigwright/twigwright/PathNodeSets", "add", "(II)V"⟩ : MethodName)) hown (mvT hZ (hw _ (List.mem_of_getElem? (i := 21) rfl))) (mvT hZ (hw _ (List.mem_of_getElem? (i := 22) rfl))) (notFace_of_selects (args := #[]) (mvT hZ (hw _ (List.mem_of_getElem? (i := 24) rfl)))) (mvT hZ (hw _ (List.mem_of_getElem? (i := 24) rfl))) (mvT hZ (hw _ (List.mem_of_getElem? (i := 23) rfl))) (by decide) (backOf (W := 0) (rm5 l Z a0 hw [] b51 v6_38 v10_38 (own_add (fun _ => (0 : Int64)) v6_38 v9_38) b59 T99.heap n0 Z_108 PF59_at_108 PW59_at_108 P99_0 g_b59 (own_4 jh1_38 jh5_38)) hZ (hw _ (List.mem_of_getElem? (i := 25) rfl)) (hw _ (List.mem_of_getElem? (i := 2) rfl)) (by decide) (by decide)) qa108 qc108 (g := (mkF m 108 #[.val (.int p0), .val (.int p1), .val (.int p2), .val (.int p3), .val (.int p4), .val (.int v5_38), .val (.int v6_38), .val (.int v7_38), .val (.int v8_38), .val (.int v9_38), .val (.int v10_38), .val (.ref b38), .val (.ref b51), .unset, .unset, .unset, .unset, .unset] [(.int v10_38), (.int v6_38), (.ref b51)])) rfl (by rw [hml]; rfl) (Steps.refl _) (argsL := [(.int v6_38), (.int v10_38)]) (rest := []) (lenOf own_pd1 rfl) rfl (by show 2 * 0 + _ ≤ _; exact Nat.le_of_eq rfl) (hb hby at_108) (fun _ _ => ⟨rfl, rfl, (by decide : 4 + 0 ≤ _), (by decide : 12 + 0 ≤ _)⟩)
    dsimp only [Pt.U, Pt.locs, Pt.cells, Pt.slots] at X108 l108 y108 z108 st108 hQ108
    subst l108 y108 z108
    obtain ⟨rfl, N108q, Kp108, P108_0⟩ := hQ108
    obtain ⟨lo108, X108, N108⟩ : ∃ lo, Stand p l e _ s m _ below meth c T108 lo _ _ ∧ Fr n0 lo := ⟨_, X108, Fr.app N99 N108q⟩
    refine own_via st108 ?_
    show own_Fin p e below G (T108.setTop (mkF m 111 #[.val (.int p0), .val (.int p1), .val (.int p2), .val (.int p3), .val (.int p4), .val (.int v5_38), .val (.int v6_38), .val (.int v7_38), .val (.int v8_38), .val (.int v9_38), .val (.int v10_38), .val (.ref b38), .val (.ref b51), .unset, .unset, .unset, .unset, .unset] []))
    refine own_to (fun _ kz => XS.aload X108.here hx rfl (hb hby at_111) rfl (rfl)  kz) ?_
    show own_Fin p e below G (T108.setTop (mkF m 113 #[.val (.int p0), .val (.int p1), .val (.int p2), .val (.int p3), .val (.int p4), .val (.int v5_38), .val (.int v6_38), .val (.int v7_38), .val (.int v8_38), .val (.int v9_38), .val (.int v10_38), .val (.ref b38), .val (.ref b51), .unset, .unset, .unset, .unset, .unset] [(.ref b38)]))
    refine own_to (fun _ kz => XS.iload X108.here hx rfl (hb hby at_113) rfl  kz) ?_
    show own_Fin p e below G (T108.setTop (mkF m 115 #[.val (.int p0), .val (.int p1), .val (.int p2), .val (.int p3), .val (.int p4), .val (.int v5_38), .val (.int v6_38), .val (.int v7_38), .val (.int v8_38), .val (.int v9_38), .val (.int v10_38), .val (.ref b38), .val (.ref b51), .unset, .unset, .unset, .unset, .unset] [(.int v5_38), (.ref b38)]))
    refine own_to (fun _ kz => XS.aload X108.here hx rfl (hb hby at_115) rfl (rfl)  kz) ?_
    show own_Fin p e below G (T108.setTop (mkF m 117 #[.val (.int p0), .val (.int p1), .val (.int p2), .val (.int p3), .val (.int p4), .val (.int v5_38), .val (.int v6_38), .val (.int v7_38), .val (.int v8_38), .val (.int v9_38), .val (.int v10_38), .val (.ref b38), .val (.ref b51), .unset, .unset, .unset, .unset, .unset] [(.ref b51), (.int v5_38), (.ref b38)]))
    refine own_to (fun _ kz => XS.iload X108.here hx rfl (hb hby at_117) rfl  kz) ?_
    show own_Fin p e below G (T108.setTop (mkF m 119 #[.val (.int p0), .val (.int p1), .val (.int p2), .val (.int p3), .val (.int p4), .val (.int v5_38), .val (.int v6_38), .val (.int v7_38), .val (.int v8_38), .val (.int v9_38), .val (.int v10_38), .val (.ref b38), .val (.ref b51), .unset, .unset, .unset, .unset, .unset] [(.int v6_38), (.ref b51), (.int v5_38), (.ref b38)]))
    have PF46_at_119 : Fld Z T108.heap b38 "com/example/twigwright/twigwright/PathNodeSets" "bits" "[J" (.ref b46) := (((PF46_at_90.keep Kp90 (ninS ne_b38_b46 nin0)).keep Kp99 (ninS ne_b38_b59 nin0)).keep Kp108 (ninS ne_b38_b59 nin0))
    have PW46_at_119 : Fld Z T108.heap b38 "com/example/twigwright/twigwright/PathNodeSets" "words" "I" (.int (2 : Int32)) := (((PW46_at_90.keep Kp90 (ninS ne_b38_b46 nin0)).keep Kp99 (ninS ne_b38_b59 nin0)).keep Kp108 (ninS ne_b38_b59 nin0))
    have P90_0_at_119 : own_AV Value.long Z T108.heap b46 .long 4 (own_add (own_add (own_add (fun _ => (0 : Int64)) v5_38 v7_38) v5_38 v8_38) ((1 : Int32) - v5_38) v7_38) := ((P90_0.keep Kp99 (ninS ne_b46_b59 nin0)).keep Kp108 (ninS ne_b46_b59 nin0))
    have PF59_at_119 : Fld Z T108.heap b51 "com/example/twigwright/twigwright/PathNodeSets" "bits" "[J" (.ref b59) := (PF59_at_108.keep Kp108 (ninS ne_b51_b59 nin0))
    have Zz_119_Kp108 := Nat.le_trans Z_108 Kp108.1
    have Z_119 : n0 ≤ T108.heap.size := Zz_119_Kp108
    have PE46_at_119 : Exa Z T108.heap b38 "com/example/twigwright/twigwright/PathNodeSets" := (((PE46_at_90.keep Kp90).keep Kp99).keep Kp108)
    obtain ⟨cq119, kq119, qa119, qb119, qc119⟩ := isOf hZ rfl PE46_at_119
    obtain ⟨_, _, ⟨T119, L119, k119, n119⟩, -, X119, ⟨Lc119, hQ119, l119, y119, z119⟩, st119⟩ := X108.virtualBack hx (y := (⟨"com/example/twigwright/twigwright/PathNodeSets", "retainAll", "(ILcom/example/twigwright/twigwright/PathNodeSets;I)V"⟩ : MethodName)) (z := (⟨"com/example/twigwright/twigwright/PathNodeSets", "retainAll", "(ILcom/example/twigwright/twigwright/PathNodeSets;I)V"⟩ : MethodName)) hown (mvT hZ (hw _ (List.mem_of_getElem? (i := 26) rfl))) (mvT hZ (hw _ (List.mem_of_getElem? (i := 27) rfl))) (notFace_of_selects (args := #[]) (mvT hZ (hw _ (List.mem_of_getElem? (i := 29) rfl)))) (mvT hZ (hw _ (List.mem_of_getElem? (i := 29) rfl))) (mvT hZ (hw _ (List.mem_of_getElem? (i := 28) rfl))) (by decide) (backOf (W := 0) (rm6 l Z a0 hw [] b38 v5_38 b51 v6_38 (own_add (own_add (own_add (fun _ => (0 : Int64)) v5_38 v7_38) v5_38 v8_38) ((1 : Int32) - v5_38) v7_38) (own_add (own_add (fun _ => (0 : Int64)) v6_38 v9_38) v6_38 v10_38) b46 b59 T108.heap n0 Z_119 PF46_at_119 PW46_at_119 P90_0_at_119 PF59_at_119 P108_0 g_b46 ne_b46_b59 ne_b38_b46 (Ne.symm ne_b46_b51) jh0_38 jh1_38) hZ (hw _ (List.mem_of_getElem? (i := 30) rfl)) (hw _ (List.mem_of_getElem? (i := 2) rfl)) (by decide) (by decide)) qa119 qc119 (g := (mkF m 119 #[.val (.int p0), .val (.int p1), .val (.int p2), .val (.int p3), .val (.int p4), .val (.int v5_38), .val (.int v6_38), .val (.int v7_38), .val (.int v8_38), .val (.int v9_38), .val (.int v10_38), .val (.ref b38), .val (.ref b51), .unset, .unset, .unset, .unset, .unset] [(.int v6_38), (.ref b51), (.int v5_38), (.ref b38)])) rfl (by rw [hml]; rfl) (Steps.refl _) (argsL := [(.int v5_38), (.ref b51), (.int v6_38)]) (rest := []) (lenOf own_pd2 rfl) rfl (by show 2 * 0 + _ ≤ _; exact Nat.le_of_eq rfl) (hb hby at_119) (fun _ _ => ⟨rfl, rfl, (by decide : 4 + 0 ≤ _), (by decide : 12 + 0 ≤ _)⟩)
    dsimp only [Pt.U, Pt.locs, Pt.cells, Pt.slots] at X119 l119 y119 z119 st119 hQ119
    subst l119 y119 z119
    obtain ⟨rfl, N119q, Kp119, P119_0⟩ := hQ119
    obtain ⟨lo119, X119, N119⟩ : ∃ lo, Stand p l e _ s m _ below meth c T119 lo _ _ ∧ Fr n0 lo := ⟨_, X119, Fr.app N108 N119q⟩
    refine own_via st119 ?_
    show own_Fin p e below G (T119.setTop (mkF m 122 #[.val (.int p0), .val (.int p1), .val (.int p2), .val (.int p3), .val (.int p4), .val (.int v5_38), .val (.int v6_38), .val (.int v7_38), .val (.int v8_38), .val (.int v9_38), .val (.int v10_38), .val (.ref b38), .val (.ref b51), .unset, .unset, .unset, .unset, .unset] []))
    refine own_to (fun _ kz => XS.iload X119.here hx rfl (hb hby at_122) rfl  kz) ?_
    show own_Fin p e below G (T119.setTop (mkF m 124 #[.val (.int p0), .val (.int p1), .val (.int p2), .val (.int p3), .val (.int p4), .val (.int v5_38), .val (.int v6_38), .val (.int v7_38), .val (.int v8_38), .val (.int v9_38), .val (.int v10_38), .val (.ref b38), .val (.ref b51), .unset, .unset, .unset, .unset, .unset] [(.int v7_38)]))
    refine own_to (fun _ kz => XS.iload X119.here hx rfl (hb hby at_124) rfl  kz) ?_
    show own_Fin p e below G (T119.setTop (mkF m 126 #[.val (.int p0), .val (.int p1), .val (.int p2), .val (.int p3), .val (.int p4), .val (.int v5_38), .val (.int v6_38), .val (.int v7_38), .val (.int v8_38), .val (.int v9_38), .val (.int v10_38), .val (.ref b38), .val (.ref b51), .unset, .unset, .unset, .unset, .unset] [(.int v9_38), (.int v7_38)]))
    have K141 : ∀ (t0_141 : Int32) (q_j141 : (f0 p0 p1 p2 p3 p4) = (f0_141 p0 p1 p2 p3 p4 v5_38 v6_38 v7_38 v8_38 v9_38 v10_38 t0_141)), own_Fin p e below G (T119.setTop (mkF m 141 #[.val (.int p0), .val (.int p1), .val (.int p2), .val (.int p3), .val (.int p4), .val (.int v5_38), .val (.int v6_38), .val (.int v7_38), .val (.int v8_38), .val (.int v9_38), .val (.int v10_38), .val (.ref b38), .val (.ref b51), .unset, .unset, .unset, .unset, .unset] [(.int t0_141)])) := by
      intro t0_141 q_j141
      refine own_to (fun _ kz => XS.istore X119.here hx rfl (hb hby at_141) rfl (l' := #[.val (.int p0), .val (.int p1), .val (.int p2), .val (.int p3), .val (.int p4), .val (.int v5_38), .val (.int v6_38), .val (.int v7_38), .val (.int v8_38), .val (.int v9_38), .val (.int v10_38), .val (.ref b38), .val (.ref b51), .val (.int t0_141), .unset, .unset, .unset, .unset]) rfl kz) ?_
      show own_Fin p e below G (T119.setTop (mkF m 143 #[.val (.int p0), .val (.int p1), .val (.int p2), .val (.int p3), .val (.int p4), .val (.int v5_38), .val (.int v6_38), .val (.int v7_38), .val (.int v8_38), .val (.int v9_38), .val (.int v10_38), .val (.ref b38), .val (.ref b51), .val (.int t0_141), .unset, .unset, .unset, .unset] []))
      refine own_to (fun _ kz => XS.iload X119.here hx rfl (hb hby at_143) rfl  kz) ?_
      show own_Fin p e below G (T119.setTop (mkF m 145 #[.val (.int p0), .val (.int p1), .val (.int p2), .val (.int p3), .val (.int p4), .val (.int v5_38), .val (.int v6_38), .val (.int v7_38), .val (.int v8_38), .val (.int v9_38), .val (.int v10_38), .val (.ref b38), .val (.ref b51), .val (.int t0_141), .unset, .unset, .unset, .unset] [(.int v8_38)]))
      refine own_to (fun _ kz => XS.iload X119.here hx rfl (hb hby at_145) rfl  kz) ?_
      show own_Fin p e below G (T119.setTop (mkF m 147 #[.val (.int p0), .val (.int p1), .val (.int p2), .val (.int p3), .val (.int p4), .val (.int v5_38), .val (.int v6_38), .val (.int v7_38), .val (.int v8_38), .val (.int v9_38), .val (.int v10_38), .val (.ref b38), .val (.ref b51), .val (.int t0_141), .unset, .unset, .unset, .unset] [(.int v9_38), (.int v8_38)]))
      have K162 : ∀ (t0_162 : Int32) (q_j162 : (f0 p0 p1 p2 p3 p4) = (f0_162 p0 p1 p2 p3 p4 v5_38 v6_38 v7_38 v8_38 v9_38 v10_38 t0_141 t0_162)), own_Fin p e below G (T119.setTop (mkF m 162 #[.val (.int p0), .val (.int p1), .val (.int p2), .val (.int p3), .val (.int p4), .val (.int v5_38), .val (.int v6_38), .val (.int v7_38), .val (.int v8_38), .val (.int v9_38), .val (.int v10_38), .val (.ref b38), .val (.ref b51), .val (.int t0_141), .unset, .unset, .unset, .unset] [(.int t0_162)])) := by
        intro t0_162 q_j162
        refine own_to (fun _ kz => XS.istore X119.here hx rfl (hb hby at_162) rfl (l' := #[.val (.int p0), .val (.int p1), .val (.int p2), .val (.int p3), .val (.int p4), .val (.int v5_38), .val (.int v6_38), .val (.int v7_38), .val (.int v8_38), .val (.int v9_38), .val (.int v10_38), .val (.ref b38), .val (.ref b51), .val (.int t0_141), .val (.int t0_162), .unset, .unset, .unset]) rfl kz) ?_
        show own_Fin p e below G (T119.setTop (mkF m 164 #[.val (.int p0), .val (.int p1), .val (.int p2), .val (.int p3), .val (.int p4), .val (.int v5_38), .val (.int v6_38), .val (.int v7_38), .val (.int v8_38), .val (.int v9_38), .val (.int v10_38), .val (.ref b38), .val (.ref b51), .val (.int t0_141), .val (.int t0_162), .unset, .unset, .unset] []))
        refine own_to (fun _ kz => XS.aload X119.here hx rfl (hb hby at_164) rfl (rfl)  kz) ?_
        show own_Fin p e below G (T119.setTop (mkF m 166 #[.val (.int p0), .val (.int p1), .val (.int p2), .val (.int p3), .val (.int p4), .val (.int v5_38), .val (.int v6_38), .val (.int v7_38), .val (.int v8_38), .val (.int v9_38), .val (.int v10_38), .val (.ref b38), .val (.ref b51), .val (.int t0_141), .val (.int t0_162), .unset, .unset, .unset] [(.ref b38)]))
        refine own_to (fun _ kz => XS.iload X119.here hx rfl (hb hby at_166) rfl  kz) ?_
        show own_Fin p e below G (T119.setTop (mkF m 168 #[.val (.int p0), .val (.int p1), .val (.int p2), .val (.int p3), .val (.int p4), .val (.int v5_38), .val (.int v6_38), .val (.int v7_38), .val (.int v8_38), .val (.int v9_38), .val (.int v10_38), .val (.ref b38), .val (.ref b51), .val (.int t0_141), .val (.int t0_162), .unset, .unset, .unset] [(.int v5_38), (.ref b38)]))
        refine own_to (fun _ kz => XS.iload X119.here hx rfl (hb hby at_168) rfl  kz) ?_
        show own_Fin p e below G (T119.setTop (mkF m 170 #[.val (.int p0), .val (.int p1), .val (.int p2), .val (.int p3), .val (.int p4), .val (.int v5_38), .val (.int v6_38), .val (.int v7_38), .val (.int v8_38), .val (.int v9_38), .val (.int v10_38), .val (.ref b38), .val (.ref b51), .val (.int t0_141), .val (.int t0_162), .unset, .unset, .unset] [(.int v7_38), (.int v5_38), (.ref b38)]))
        have PF46_at_170 : Fld Z T119.heap b38 "com/example/twigwright/twigwright/PathNodeSets" "bits" "[J" (.ref b46) := (PF46_at_119.keep Kp119 (ninS ne_b38_b46 nin0))
        have PW46_at_170 : Fld Z T119.heap b38 "com/example/twigwright/twigwright/PathNodeSets" "words" "I" (.int (2 : Int32)) := (PW46_at_119.keep Kp119 (ninS ne_b38_b46 nin0))
        have Zz_170_Kp119 := Nat.le_trans Z_119 Kp119.1
        have Z_170 : n0 ≤ T119.heap.size := Zz_170_Kp119
        have PE46_at_170 : Exa Z T119.heap b38 "com/example/twigwright/twigwright/PathNodeSets" := (PE46_at_119.keep Kp119)
        obtain ⟨cq170, kq170, qa170, qb170, qc170⟩ := isOf hZ rfl PE46_at_170
        obtain ⟨_, _, ⟨T170, L170, k170, n170⟩, -, X170, ⟨Lc170, hQ170, l170, y170, z170⟩, st170⟩ := X119.virtualBack hx (y := (⟨"com/example/twigwright/twigwright/PathNodeSets", "contains", "(II)Z"⟩ : MethodName)) (z := (⟨"com/example/twigwright/twigwright/PathNodeSets", "contains", "(II)Z"⟩ : MethodName)) hown (mvT hZ (hw _ (List.mem_of_getElem? (i := 31) rfl))) (mvT hZ (hw _ (List.mem_of_getElem? (i := 32) rfl))) (notFace_of_selects (args := #[]) (mvT hZ (hw _ (List.mem_of_getElem? (i := 34) rfl)))) (mvT hZ (hw _ (List.mem_of_getElem? (i := 34) rfl))) (mvT hZ (hw _ (List.mem_of_getElem? (i := 33) rfl))) (by decide) (backOf (W := 0) (rm7 l Z a0 hw [] b38 v5_38 v7_38 (own_all (own_add (own_add (own_add (fun _ => (0 : Int64)) v5_38 v7_38) v5_38 v8_38) ((1 : Int32) - v5_38) v7_38) (own_add (own_add (fun _ => (0 : Int64)) v6_38 v9_38) v6_38 v10_38) v5_38 v6_38) b46 T119.heap n0 Z_170 PF46_at_170 PW46_at_170 P119_0 (own_4 jh0_38 jh2_38)) hZ (hw _ (List.mem_of_getElem? (i := 35) rfl)) (hw _ (List.mem_of_getElem? (i := 2) rfl)) (by decide) (by decide)) qa170 qc170 (g := (mkF m 170 #[.val (.int p0), .val (.int p1), .val (.int p2), .val (.int p3), .val (.int p4), .val (.int v5_38), .val (.int v6_38), .val (.int v7_38), .val (.int v8_38), .val (.int v9_38), .val (.int v10_38), .val (.ref b38), .val (.ref b51), .val (.int t0_141), .val (.int t0_162), .unset, .unset, .unset] [(.int v7_38), (.int v5_38), (.ref b38)])) rfl (by rw [hml]; rfl) (Steps.refl _) (argsL := [(.int v5_38), (.int v7_38)]) (rest := []) (lenOf own_pd3 rfl) rfl (by show 2 * 0 + _ ≤ _; exact Nat.le_of_eq rfl) (hb hby at_170) (fun _ _ => ⟨rfl, rfl, (by decide : 4 + 0 ≤ _), (by decide : 12 + 0 ≤ _)⟩)
        dsimp only [Pt.U, Pt.locs, Pt.cells, Pt.slots] at X170 l170 y170 z170 st170 hQ170
        subst l170 y170 z170
        obtain ⟨rfl, N170q, e170⟩ := hQ170
        obtain ⟨lo170, X170, N170⟩ : ∃ lo, Stand p l e _ s m _ below meth c T170 lo _ _ ∧ Fr n0 lo := ⟨_, X170, Fr.app N119 N170q⟩
        refine own_via st170 ?_
        show own_Fin p e below G (T170.setTop (mkF m 173 #[.val (.int p0), .val (.int p1), .val (.int p2), .val (.int p3), .val (.int p4), .val (.int v5_38), .val (.int v6_38), .val (.int v7_38), .val (.int v8_38), .val (.int v9_38), .val (.int v10_38), .val (.ref b38), .val (.ref b51), .val (.int t0_141), .val (.int t0_162), .unset, .unset, .unset] [(.int (f7 v5_38 v7_38 (own_all (own_add (own_add (own_add (fun _ => (0 : Int64)) v5_38 v7_38) v5_38 v8_38) ((1 : Int32) - v5_38) v7_38) (own_add (own_add (fun _ => (0 : Int64)) v6_38 v9_38) v6_38 v10_38) v5_38 v6_38)))]))
        refine own_to (fun _ kz => XS.iload X170.here hx rfl (hb hby at_173) rfl  kz) ?_
        show own_Fin p e below G (T170.setTop (mkF m 175 #[.val (.int p0), .val (.int p1), .val (.int p2), .val (.int p3), .val (.int p4), .val (.int v5_38), .val (.int v6_38), .val (.int v7_38), .val (.int v8_38), .val (.int v9_38), .val (.int v10_38), .val (.ref b38), .val (.ref b51), .val (.int t0_141), .val (.int t0_162), .unset, .unset, .unset] [(.int t0_141), (.int (f7 v5_38 v7_38 (own_all (own_add (own_add (own_add (fun _ => (0 : Int64)) v5_38 v7_38) v5_38 v8_38) ((1 : Int32) - v5_38) v7_38) (own_add (own_add (fun _ => (0 : Int64)) v6_38 v9_38) v6_38 v10_38) v5_38 v6_38)))]))
        have K183 : ∀ (t0_183 : Int32) (q_j183 : (f0 p0 p1 p2 p3 p4) = (f0_183 p0 p1 p2 p3 p4 v5_38 v6_38 v7_38 v8_38 v9_38 v10_38 t0_141 t0_162 t0_183)), own_Fin p e below G (T170.setTop (mkF m 183 #[.val (.int p0), .val (.int p1), .val (.int p2), .val (.int p3), .val (.int p4), .val (.int v5_38), .val (.int v6_38), .val (.int v7_38), .val (.int v8_38), .val (.int v9_38), .val (.int v10_38), .val (.ref b38), .val (.ref b51), .val (.int t0_141), .val (.int t0_162), .unset, .unset, .unset] [(.int t0_183)])) := by
          intro t0_183 q_j183
          refine own_to (fun _ kz => XS.istore X170.here hx rfl (hb hby at_183) rfl (l' := #[.val (.int p0), .val (.int p1), .val (.int p2), .val (.int p3), .val (.int p4), .val (.int v5_38), .val (.int v6_38), .val (.int v7_38), .val (.int v8_38), .val (.int v9_38), .val (.int v10_38), .val (.ref b38), .val (.ref b51), .val (.int t0_141), .val (.int t0_162), .val (.int t0_183), .unset, .unset]) rfl kz) ?_
          show own_Fin p e below G (T170.setTop (mkF m 185 #[.val (.int p0), .val (.int p1), .val (.int p2), .val (.int p3), .val (.int p4), .val (.int v5_38), .val (.int v6_38), .val (.int v7_38), .val (.int v8_38), .val (.int v9_38), .val (.int v10_38), .val (.ref b38), .val (.ref b51), .val (.int t0_141), .val (.int t0_162), .val (.int t0_183), .unset, .unset] []))
          refine own_to (fun _ kz => XS.aload X170.here hx rfl (hb hby at_185) rfl (rfl)  kz) ?_
          show own_Fin p e below G (T170.setTop (mkF m 187 #[.val (.int p0), .val (.int p1), .val (.int p2), .val (.int p3), .val (.int p4), .val (.int v5_38), .val (.int v6_38), .val (.int v7_38), .val (.int v8_38), .val (.int v9_38), .val (.int v10_38), .val (.ref b38), .val (.ref b51), .val (.int t0_141), .val (.int t0_162), .val (.int t0_183), .unset, .unset] [(.ref b38)]))
          refine own_to (fun _ kz => XS.iload X170.here hx rfl (hb hby at_187) rfl  kz) ?_
          show own_Fin p e below G (T170.setTop (mkF m 189 #[.val (.int p0), .val (.int p1), .val (.int p2), .val (.int p3), .val (.int p4), .val (.int v5_38), .val (.int v6_38), .val (.int v7_38), .val (.int v8_38), .val (.int v9_38), .val (.int v10_38), .val (.ref b38), .val (.ref b51), .val (.int t0_141), .val (.int t0_162), .val (.int t0_183), .unset, .unset] [(.int v5_38), (.ref b38)]))
          refine own_to (fun _ kz => XS.iload X170.here hx rfl (hb hby at_189) rfl  kz) ?_
          show own_Fin p e below G (T170.setTop (mkF m 191 #[.val (.int p0), .val (.int p1), .val (.int p2), .val (.int p3), .val (.int p4), .val (.int v5_38), .val (.int v6_38), .val (.int v7_38), .val (.int v8_38), .val (.int v9_38), .val (.int v10_38), .val (.ref b38), .val (.ref b51), .val (.int t0_141), .val (.int t0_162), .val (.int t0_183), .unset, .unset] [(.int v8_38), (.int v5_38), (.ref b38)]))
          obtain ⟨cq191, kq191, qa191, qb191, qc191⟩ := isOf hZ e170 PE46_at_170
          obtain ⟨_, _, ⟨T191, L191, k191, n191⟩, -, X191, ⟨Lc191, hQ191, l191, y191, z191⟩, st191⟩ := X170.virtualBack hx (y := (⟨"com/example/twigwright/twigwright/PathNodeSets", "contains", "(II)Z"⟩ : MethodName)) (z := (⟨"com/example/twigwright/twigwright/PathNodeSets", "contains", "(II)Z"⟩ : MethodName)) hown (mvT hZ (hw _ (List.mem_of_getElem? (i := 31) rfl))) (mvT hZ (hw _ (List.mem_of_getElem? (i := 32) rfl))) (notFace_of_selects (args := #[]) (mvT hZ (hw _ (List.mem_of_getElem? (i := 34) rfl)))) (mvT hZ (hw _ (List.mem_of_getElem? (i := 34) rfl))) (mvT hZ (hw _ (List.mem_of_getElem? (i := 33) rfl))) (by decide) (backOf (W := 0) (rm7 l Z a0 hw [] b38 v5_38 v8_38 (own_all (own_add (own_add (own_add (fun _ => (0 : Int64)) v5_38 v7_38) v5_38 v8_38) ((1 : Int32) - v5_38) v7_38) (own_add (own_add (fun _ => (0 : Int64)) v6_38 v9_38) v6_38 v10_38) v5_38 v6_38) b46 T119.heap n0 Z_170 PF46_at_170 PW46_at_170 P119_0 (own_4 jh0_38 jh3_38)) hZ (hw _ (List.mem_of_getElem? (i := 35) rfl)) (hw _ (List.mem_of_getElem? (i := 2) rfl)) (by decide) (by decide)) qa191 qc191 (g := (mkF m 191 #[.val (.int p0), .val (.int p1), .val (.int p2), .val (.int p3), .val (.int p4), .val (.int v5_38), .val (.int v6_38), .val (.int v7_38), .val (.int v8_38), .val (.int v9_38), .val (.int v10_38), .val (.ref b38), .val (.ref b51), .val (.int t0_141), .val (.int t0_162), .val (.int t0_183), .unset, .unset] [(.int v8_38), (.int v5_38), (.ref b38)])) rfl (by rw [hml]; rfl) (Steps.refl _) (argsL := [(.int v5_38), (.int v8_38)]) (rest := []) (lenOf own_pd3 rfl) rfl (by show 2 * 0 + _ ≤ _; exact Nat.le_of_eq rfl) (hb hby at_191) (fun _ _ => ⟨rfl, e170, (by decide : 4 + 0 ≤ _), (by decide : 12 + 0 ≤ _)⟩)
          dsimp only [Pt.U, Pt.locs, Pt.cells, Pt.slots] at X191 l191 y191 z191 st191 hQ191
          subst l191 y191 z191
          obtain ⟨rfl, N191q, e191⟩ := hQ191
          obtain ⟨lo191, X191, N191⟩ : ∃ lo, Stand p l e _ s m _ below meth c T191 lo _ _ ∧ Fr n0 lo := ⟨_, X191, Fr.app N170 N191q⟩
          refine own_via st191 ?_
          show own_Fin p e below G (T191.setTop (mkF m 194 #[.val (.int p0), .val (.int p1), .val (.int p2), .val (.int p3), .val (.int p4), .val (.int v5_38), .val (.int v6_38), .val (.int v7_38), .val (.int v8_38), .val (.int v9_38), .val (.int v10_38), .val (.ref b38), .val (.ref b51), .val (.int t0_141), .val (.int t0_162), .val (.int t0_183), .unset, .unset] [(.int (f7 v5_38 v8_38 (own_all (own_add (own_add (own_add (fun _ => (0 : Int64)) v5_38 v7_38) v5_38 v8_38) ((1 : Int32) - v5_38) v7_38) (own_add (own_add (fun _ => (0 : Int64)) v6_38 v9_38) v6_38 v10_38) v5_38 v6_38)))]))
          refine own_to (fun _ kz => XS.iload X191.here hx rfl (hb hby at_194) rfl  kz) ?_
          show own_Fin p e below G (T191.setTop (mkF m 196 #[.val (.int p0), .val (.int p1), .val (.int p2), .val (.int p3), .val (.int p4), .val (.int v5_38), .val (.int v6_38), .val (.int v7_38), .val (.int v8_38), .val (.int v9_38), .val (.int v10_38), .val (.ref b38), .val (.ref b51), .val (.int t0_141), .val (.int t0_162), .val (.int t0_183), .unset, .unset] [(.int t0_162), (.int (f7 v5_38 v8_38 (own_all (own_add (own_add (own_add (fun _ => (0 : Int64)) v5_38 v7_38) v5_38 v8_38) ((1 : Int32) - v5_38) v7_38) (own_add (own_add (fun _ => (0 : Int64)) v6_38 v9_38) v6_38 v10_38) v5_38 v6_38)))]))
          have K204 : ∀ (t0_204 : Int32) (q_j204 : (f0 p0 p1 p2 p3 p4) = (f0_204 p0 p1 p2 p3 p4 v5_38 v6_38 v7_38 v8_38 v9_38 v10_38 t0_141 t0_162 t0_183 t0_204)), own_Fin p e below G (T191.setTop (mkF m 204 #[.val (.int p0), .val (.int p1), .val (.int p2), .val (.int p3), .val (.int p4), .val (.int v5_38), .val (.int v6_38), .val (.int v7_38), .val (.int v8_38), .val (.int v9_38), .val (.int v10_38), .val (.ref b38), .val (.ref b51), .val (.int t0_141), .val (.int t0_162), .val (.int t0_183), .unset, .unset] [(.int t0_204)])) := by
            intro t0_204 q_j204
            refine own_to (fun _ kz => XS.istore X191.here hx rfl (hb hby at_204) rfl (l' := #[.val (.int p0), .val (.int p1), .val (.int p2), .val (.int p3), .val (.int p4), .val (.int v5_38), .val (.int v6_38), .val (.int v7_38), .val (.int v8_38), .val (.int v9_38), .val (.int v10_38), .val (.ref b38), .val (.ref b51), .val (.int t0_141), .val (.int t0_162), .val (.int t0_183), .val (.int t0_204), .unset]) rfl kz) ?_
            show own_Fin p e below G (T191.setTop (mkF m 206 #[.val (.int p0), .val (.int p1), .val (.int p2), .val (.int p3), .val (.int p4), .val (.int v5_38), .val (.int v6_38), .val (.int v7_38), .val (.int v8_38), .val (.int v9_38), .val (.int v10_38), .val (.ref b38), .val (.ref b51), .val (.int t0_141), .val (.int t0_162), .val (.int t0_183), .val (.int t0_204), .unset] []))
            refine own_to (fun _ kz => XS.aload X191.here hx rfl (hb hby at_206) rfl (rfl)  kz) ?_
            show own_Fin p e below G (T191.setTop (mkF m 208 #[.val (.int p0), .val (.int p1), .val (.int p2), .val (.int p3), .val (.int p4), .val (.int v5_38), .val (.int v6_38), .val (.int v7_38), .val (.int v8_38), .val (.int v9_38), .val (.int v10_38), .val (.ref b38), .val (.ref b51), .val (.int t0_141), .val (.int t0_162), .val (.int t0_183), .val (.int t0_204), .unset] [(.ref b38)]))
            refine own_to (fun _ kz => XS.iconst X191.here hx rfl (hb hby at_208) kz) ?_
            show own_Fin p e below G (T191.setTop (mkF m 209 #[.val (.int p0), .val (.int p1), .val (.int p2), .val (.int p3), .val (.int p4), .val (.int v5_38), .val (.int v6_38), .val (.int v7_38), .val (.int v8_38), .val (.int v9_38), .val (.int v10_38), .val (.ref b38), .val (.ref b51), .val (.int t0_141), .val (.int t0_162), .val (.int t0_183), .val (.int t0_204), .unset] [(.int (1 : Int32)), (.ref b38)]))
            refine own_to (fun _ kz => XS.iload X191.here hx rfl (hb hby at_209) rfl  kz) ?_
            show own_Fin p e below G (T191.setTop (mkF m 211 #[.val (.int p0), .val (.int p1), .val (.int p2), .val (.int p3), .val (.int p4), .val (.int v5_38), .val (.int v6_38), .val (.int v7_38), .val (.int v8_38), .val (.int v9_38), .val (.int v10_38), .val (.ref b38), .val (.ref b51), .val (.int t0_141), .val (.int t0_162), .val (.int t0_183), .val (.int t0_204), .unset] [(.int v5_38), (.int (1 : Int32)), (.ref b38)]))
            refine own_to (fun _ kz => XS.isub X191.here hx rfl (hb hby at_211) rfl kz) ?_
            show own_Fin p e below G (T191.setTop (mkF m 212 #[.val (.int p0), .val (.int p1), .val (.int p2), .val (.int p3), .val (.int p4), .val (.int v5_38), .val (.int v6_38), .val (.int v7_38), .val (.int v8_38), .val (.int v9_38), .val (.int v10_38), .val (.ref b38), .val (.ref b51), .val (.int t0_141), .val (.int t0_162), .val (.int t0_183), .val (.int t0_204), .unset] [(.int ((1 : Int32) - v5_38)), (.ref b38)]))
            refine own_to (fun _ kz => XS.iload X191.here hx rfl (hb hby at_212) rfl  kz) ?_
            show own_Fin p e below G (T191.setTop (mkF m 214 #[.val (.int p0), .val (.int p1), .val (.int p2), .val (.int p3), .val (.int p4), .val (.int v5_38), .val (.int v6_38), .val (.int v7_38), .val (.int v8_38), .val (.int v9_38), .val (.int v10_38), .val (.ref b38), .val (.ref b51), .val (.int t0_141), .val (.int t0_162), .val (.int t0_183), .val (.int t0_204), .unset] [(.int v7_38), (.int ((1 : Int32) - v5_38)), (.ref b38)]))
            obtain ⟨cq214, kq214, qa214, qb214, qc214⟩ := isOf hZ e191 PE46_at_170
            obtain ⟨_, _, ⟨T214, L214, k214, n214⟩, -, X214, ⟨Lc214, hQ214, l214, y214, z214⟩, st214⟩ := X191.virtualBack hx (y := (⟨"com/example/twigwright/twigwright/PathNodeSets", "contains", "(II)Z"⟩ : MethodName)) (z := (⟨"com/example/twigwright/twigwright/PathNodeSets", "contains", "(II)Z"⟩ : MethodName)) hown (mvT hZ (hw _ (List.mem_of_getElem? (i := 31) rfl))) (mvT hZ (hw _ (List.mem_of_getElem? (i := 32) rfl))) (notFace_of_selects (args := #[]) (mvT hZ (hw _ (List.mem_of_getElem? (i := 34) rfl)))) (mvT hZ (hw _ (List.mem_of_getElem? (i := 34) rfl))) (mvT hZ (hw _ (List.mem_of_getElem? (i := 33) rfl))) (by decide) (backOf (W := 0) (rm7 l Z a0 hw [] b38 ((1 : Int32) - v5_38) v7_38 (own_all (own_add (own_add (own_add (fun _ => (0 : Int64)) v5_38 v7_38) v5_38 v8_38) ((1 : Int32) - v5_38) v7_38) (own_add (own_add (fun _ => (0 : Int64)) v6_38 v9_38) v6_38 v10_38) v5_38 v6_38) b46 T119.heap n0 Z_170 PF46_at_170 PW46_at_170 P119_0 (own_4 (own_1m jh0_38) jh2_38)) hZ (hw _ (List.mem_of_getElem? (i := 35) rfl)) (hw _ (List.mem_of_getElem? (i := 2) rfl)) (by decide) (by decide)) qa214 qc214 (g := (mkF m 214 #[.val (.int p0), .val (.int p1), .val (.int p2), .val (.int p3), .val (.int p4), .val (.int v5_38), .val (.int v6_38), .val (.int v7_38), .val (.int v8_38), .val (.int v9_38), .val (.int v10_38), .val (.ref b38), .val (.ref b51), .val (.int t0_141), .val (.int t0_162), .val (.int t0_183), .val (.int t0_204), .unset] [(.int v7_38), (.int ((1 : Int32) - v5_38)), (.ref b38)])) rfl (by rw [hml]; rfl) (Steps.refl _) (argsL := [(.int ((1 : Int32) - v5_38)), (.int v7_38)]) (rest := []) (lenOf own_pd3 rfl) rfl (by show 2 * 0 + _ ≤ _; exact Nat.le_of_eq rfl) (hb hby at_214) (fun _ _ => ⟨rfl, e191, (by decide : 4 + 0 ≤ _), (by decide : 12 + 0 ≤ _)⟩)
            dsimp only [Pt.U, Pt.locs, Pt.cells, Pt.slots] at X214 l214 y214 z214 st214 hQ214
            subst l214 y214 z214
            obtain ⟨rfl, N214q, e214⟩ := hQ214
            obtain ⟨lo214, X214, N214⟩ : ∃ lo, Stand p l e _ s m _ below meth c T214 lo _ _ ∧ Fr n0 lo := ⟨_, X214, Fr.app N191 N214q⟩
            refine own_via st214 ?_
            show own_Fin p e below G (T214.setTop (mkF m 217 #[.val (.int p0), .val (.int p1), .val (.int p2), .val (.int p3), .val (.int p4), .val (.int v5_38), .val (.int v6_38), .val (.int v7_38), .val (.int v8_38), .val (.int v9_38), .val (.int v10_38), .val (.ref b38), .val (.ref b51), .val (.int t0_141), .val (.int t0_162), .val (.int t0_183), .val (.int t0_204), .unset] [(.int (f7 ((1 : Int32) - v5_38) v7_38 (own_all (own_add (own_add (own_add (fun _ => (0 : Int64)) v5_38 v7_38) v5_38 v8_38) ((1 : Int32) - v5_38) v7_38) (own_add (own_add (fun _ => (0 : Int64)) v6_38 v9_38) v6_38 v10_38) v5_38 v6_38)))]))
            refine own_to (fun _ kz => XS.istore X214.here hx rfl (hb hby at_217) rfl (l' := #[.val (.int p0), .val (.int p1), .val (.int p2), .val (.int p3), .val (.int p4), .val (.int v5_38), .val (.int v6_38), .val (.int v7_38), .val (.int v8_38), .val (.int v9_38), .val (.int v10_38), .val (.ref b38), .val (.ref b51), .val (.int t0_141), .val (.int t0_162), .val (.int t0_183), .val (.int t0_204), .val (.int (f7 ((1 : Int32) - v5_38) v7_38 (own_all (own_add (own_add (own_add (fun _ => (0 : Int64)) v5_38 v7_38) v5_38 v8_38) ((1 : Int32) - v5_38) v7_38) (own_add (own_add (fun _ => (0 : Int64)) v6_38 v9_38) v6_38 v10_38) v5_38 v6_38)))]) rfl kz) ?_
            show own_Fin p e below G (T214.setTop (mkF m 219 #[.val (.int p0), .val (.int p1), .val (.int p2), .val (.int p3), .val (.int p4), .val (.int v5_38), .val (.int v6_38), .val (.int v7_38), .val (.int v8_38), .val (.int v9_38), .val (.int v10_38), .val (.ref b38), .val (.ref b51), .val (.int t0_141), .val (.int t0_162), .val (.int t0_183), .val (.int t0_204), .val (.int (f7 ((1 : Int32) - v5_38) v7_38 (own_all (own_add (own_add (own_add (fun _ => (0 : Int64)) v5_38 v7_38) v5_38 v8_38) ((1 : Int32) - v5_38) v7_38) (own_add (own_add (fun _ => (0 : Int64)) v6_38 v9_38) v6_38 v10_38) v5_38 v6_38)))] []))
            refine own_to (fun _ kz => XS.iload X214.here hx rfl (hb hby at_219) rfl  kz) ?_
            show own_Fin p e below G (T214.setTop (mkF m 221 #[.val (.int p0), .val (.int p1), .val (.int p2), .val (.int p3), .val (.int p4), .val (.int v5_38), .val (.int v6_38), .val (.int v7_38), .val (.int v8_38), .val (.int v9_38), .val (.int v10_38), .val (.ref b38), .val (.ref b51), .val (.int t0_141), .val (.int t0_162), .val (.int t0_183), .val (.int t0_204), .val (.int (f7 ((1 : Int32) - v5_38) v7_38 (own_all (own_add (own_add (own_add (fun _ => (0 : Int64)) v5_38 v7_38) v5_38 v8_38) ((1 : Int32) - v5_38) v7_38) (own_add (own_add (fun _ => (0 : Int64)) v6_38 v9_38) v6_38 v10_38) v5_38 v6_38)))] [(.int t0_183)]))
            have K238 : ∀ (q_j238 : (f0 p0 p1 p2 p3 p4) = (f0_238 p0 p1 p2 p3 p4 v5_38 v6_38 v7_38 v8_38 v9_38 v10_38 t0_141 t0_162 t0_183 t0_204)), own_Fin p e below G (T214.setTop (mkF m 238 #[.val (.int p0), .val (.int p1), .val (.int p2), .val (.int p3), .val (.int p4), .val (.int v5_38), .val (.int v6_38), .val (.int v7_38), .val (.int v8_38), .val (.int v9_38), .val (.int v10_38), .val (.ref b38), .val (.ref b51), .val (.int t0_141), .val (.int t0_162), .val (.int t0_183), .val (.int t0_204), .val (.int (f7 ((1 : Int32) - v5_38) v7_38 (own_all (own_add (own_add (own_add (fun _ => (0 : Int64)) v5_38 v7_38) v5_38 v8_38) ((1 : Int32) - v5_38) v7_38) (own_add (own_add (fun _ => (0 : Int64)) v6_38 v9_38) v6_38 v10_38) v5_38 v6_38)))] [])) := by
              intro q_j238
              refine own_to (fun _ kz => XS.iconst X214.here hx rfl (hb hby at_238) kz) ?_
              show own_Fin p e below G (T214.setTop (mkF m 239 #[.val (.int p0), .val (.int p1), .val (.int p2), .val (.int p3), .val (.int p4), .val (.int v5_38), .val (.int v6_38), .val (.int v7_38), .val (.int v8_38), .val (.int v9_38), .val (.int v10_38), .val (.ref b38), .val (.ref b51), .val (.int t0_141), .val (.int t0_162), .val (.int t0_183), .val (.int t0_204), .val (.int (f7 ((1 : Int32) - v5_38) v7_38 (own_all (own_add (own_add (own_add (fun _ => (0 : Int64)) v5_38 v7_38) v5_38 v8_38) ((1 : Int32) - v5_38) v7_38) (own_add (own_add (fun _ => (0 : Int64)) v6_38 v9_38) v6_38 v10_38) v5_38 v6_38)))] [(.int (0 : Int32))]))
              exact own_retN X214 hx hlk hG (t := .boolean) Bd.returns (by simp) (hb hby at_239) (by decide) (by decide) (by rw [e214]; exact ⟨(congrArg (fun z => some (Value.int z)) q_j238).symm, N214, trivial⟩)
            by_cases hc221 : t0_183 = (0 : Int32)
            · refine own_to (fun _ kz => XS.ifYes X214.here hx rfl (pc0 := 221) (pc' := 238) rfl (hb hby at_221) rfl ((if0 _ _).trans (teq hc221).1) (by decide) (by decide) kz) ?_
              have q221t := q_j204.trans (if_pos hc221)
              show own_Fin p e below G (T214.setTop (mkF m 238 #[.val (.int p0), .val (.int p1), .val (.int p2), .val (.int p3), .val (.int p4), .val (.int v5_38), .val (.int v6_38), .val (.int v7_38), .val (.int v8_38), .val (.int v9_38), .val (.int v10_38), .val (.ref b38), .val (.ref b51), .val (.int t0_141), .val (.int t0_162), .val (.int t0_183), .val (.int t0_204), .val (.int (f7 ((1 : Int32) - v5_38) v7_38 (own_all (own_add (own_add (own_add (fun _ => (0 : Int64)) v5_38 v7_38) v5_38 v8_38) ((1 : Int32) - v5_38) v7_38) (own_add (own_add (fun _ => (0 : Int64)) v6_38 v9_38) v6_38 v10_38) v5_38 v6_38)))] []))
              exact K238 q221t
            · refine own_to (fun _ kz => XS.ifNo X214.here hx rfl (hb hby at_221) rfl ((if0 _ _).trans (feq hc221).1) kz) ?_
              have q221f := q_j204.trans (if_neg hc221)
              show own_Fin p e below G (T214.setTop (mkF m 224 #[.val (.int p0), .val (.int p1), .val (.int p2), .val (.int p3), .val (.int p4), .val (.int v5_38), .val (.int v6_38), .val (.int v7_38), .val (.int v8_38), .val (.int v9_38), .val (.int v10_38), .val (.ref b38), .val (.ref b51), .val (.int t0_141), .val (.int t0_162), .val (.int t0_183), .val (.int t0_204), .val (.int (f7 ((1 : Int32) - v5_38) v7_38 (own_all (own_add (own_add (own_add (fun _ => (0 : Int64)) v5_38 v7_38) v5_38 v8_38) ((1 : Int32) - v5_38) v7_38) (own_add (own_add (fun _ => (0 : Int64)) v6_38 v9_38) v6_38 v10_38) v5_38 v6_38)))] []))
              refine own_to (fun _ kz => XS.iload X214.here hx rfl (hb hby at_224) rfl  kz) ?_
              show own_Fin p e below G (T214.setTop (mkF m 226 #[.val (.int p0), .val (.int p1), .val (.int p2), .val (.int p3), .val (.int p4), .val (.int v5_38), .val (.int v6_38), .val (.int v7_38), .val (.int v8_38), .val (.int v9_38), .val (.int v10_38), .val (.ref b38), .val (.ref b51), .val (.int t0_141), .val (.int t0_162), .val (.int t0_183), .val (.int t0_204), .val (.int (f7 ((1 : Int32) - v5_38) v7_38 (own_all (own_add (own_add (own_add (fun _ => (0 : Int64)) v5_38 v7_38) v5_38 v8_38) ((1 : Int32) - v5_38) v7_38) (own_add (own_add (fun _ => (0 : Int64)) v6_38 v9_38) v6_38 v10_38) v5_38 v6_38)))] [(.int t0_204)]))
              by_cases hc226 : t0_204 = (0 : Int32)
              · refine own_to (fun _ kz => XS.ifYes X214.here hx rfl (pc0 := 226) (pc' := 238) rfl (hb hby at_226) rfl ((if0 _ _).trans (teq hc226).1) (by decide) (by decide) kz) ?_
                have q226t := q221f.trans (if_pos hc226)
                show own_Fin p e below G (T214.setTop (mkF m 238 #[.val (.int p0), .val (.int p1), .val (.int p2), .val (.int p3), .val (.int p4), .val (.int v5_38), .val (.int v6_38), .val (.int v7_38), .val (.int v8_38), .val (.int v9_38), .val (.int v10_38), .val (.ref b38), .val (.ref b51), .val (.int t0_141), .val (.int t0_162), .val (.int t0_183), .val (.int t0_204), .val (.int (f7 ((1 : Int32) - v5_38) v7_38 (own_all (own_add (own_add (own_add (fun _ => (0 : Int64)) v5_38 v7_38) v5_38 v8_38) ((1 : Int32) - v5_38) v7_38) (own_add (own_add (fun _ => (0 : Int64)) v6_38 v9_38) v6_38 v10_38) v5_38 v6_38)))] []))
                exact K238 q226t
              · refine own_to (fun _ kz => XS.ifNo X214.here hx rfl (hb hby at_226) rfl ((if0 _ _).trans (feq hc226).1) kz) ?_
                have q226f := q221f.trans (if_neg hc226)
                show own_Fin p e below G (T214.setTop (mkF m 229 #[.val (.int p0), .val (.int p1), .val (.int p2), .val (.int p3), .val (.int p4), .val (.int v5_38), .val (.int v6_38), .val (.int v7_38), .val (.int v8_38), .val (.int v9_38), .val (.int v10_38), .val (.ref b38), .val (.ref b51), .val (.int t0_141), .val (.int t0_162), .val (.int t0_183), .val (.int t0_204), .val (.int (f7 ((1 : Int32) - v5_38) v7_38 (own_all (own_add (own_add (own_add (fun _ => (0 : Int64)) v5_38 v7_38) v5_38 v8_38) ((1 : Int32) - v5_38) v7_38) (own_add (own_add (fun _ => (0 : Int64)) v6_38 v9_38) v6_38 v10_38) v5_38 v6_38)))] []))
                refine own_to (fun _ kz => XS.iload X214.here hx rfl (hb hby at_229) rfl  kz) ?_
                show own_Fin p e below G (T214.setTop (mkF m 231 #[.val (.int p0), .val (.int p1), .val (.int p2), .val (.int p3), .val (.int p4), .val (.int v5_38), .val (.int v6_38), .val (.int v7_38), .val (.int v8_38), .val (.int v9_38), .val (.int v10_38), .val (.ref b38), .val (.ref b51), .val (.int t0_141), .val (.int t0_162), .val (.int t0_183), .val (.int t0_204), .val (.int (f7 ((1 : Int32) - v5_38) v7_38 (own_all (own_add (own_add (own_add (fun _ => (0 : Int64)) v5_38 v7_38) v5_38 v8_38) ((1 : Int32) - v5_38) v7_38) (own_add (own_add (fun _ => (0 : Int64)) v6_38 v9_38) v6_38 v10_38) v5_38 v6_38)))] [(.int (f7 ((1 : Int32) - v5_38) v7_38 (own_all (own_add (own_add (own_add (fun _ => (0 : Int64)) v5_38 v7_38) v5_38 v8_38) ((1 : Int32) - v5_38) v7_38) (own_add (own_add (fun _ => (0 : Int64)) v6_38 v9_38) v6_38 v10_38) v5_38 v6_38)))]))
                by_cases hc231 : (f7 ((1 : Int32) - v5_38) v7_38 (own_all (own_add (own_add (own_add (fun _ => (0 : Int64)) v5_38 v7_38) v5_38 v8_38) ((1 : Int32) - v5_38) v7_38) (own_add (own_add (fun _ => (0 : Int64)) v6_38 v9_38) v6_38 v10_38) v5_38 v6_38)) = (0 : Int32)
                · refine own_to (fun _ kz => XS.ifYes X214.here hx rfl (pc0 := 231) (pc' := 238) rfl (hb hby at_231) rfl ((if0 _ _).trans (teq hc231).1) (by decide) (by decide) kz) ?_
                  have q231t := q226f.trans (if_pos hc231)
                  show own_Fin p e below G (T214.setTop (mkF m 238 #[.val (.int p0), .val (.int p1), .val (.int p2), .val (.int p3), .val (.int p4), .val (.int v5_38), .val (.int v6_38), .val (.int v7_38), .val (.int v8_38), .val (.int v9_38), .val (.int v10_38), .val (.ref b38), .val (.ref b51), .val (.int t0_141), .val (.int t0_162), .val (.int t0_183), .val (.int t0_204), .val (.int (f7 ((1 : Int32) - v5_38) v7_38 (own_all (own_add (own_add (own_add (fun _ => (0 : Int64)) v5_38 v7_38) v5_38 v8_38) ((1 : Int32) - v5_38) v7_38) (own_add (own_add (fun _ => (0 : Int64)) v6_38 v9_38) v6_38 v10_38) v5_38 v6_38)))] []))
                  exact K238 q231t
                · refine own_to (fun _ kz => XS.ifNo X214.here hx rfl (hb hby at_231) rfl ((if0 _ _).trans (feq hc231).1) kz) ?_
                  have q231f := q226f.trans (if_neg hc231)
                  show own_Fin p e below G (T214.setTop (mkF m 234 #[.val (.int p0), .val (.int p1), .val (.int p2), .val (.int p3), .val (.int p4), .val (.int v5_38), .val (.int v6_38), .val (.int v7_38), .val (.int v8_38), .val (.int v9_38), .val (.int v10_38), .val (.ref b38), .val (.ref b51), .val (.int t0_141), .val (.int t0_162), .val (.int t0_183), .val (.int t0_204), .val (.int (f7 ((1 : Int32) - v5_38) v7_38 (own_all (own_add (own_add (own_add (fun _ => (0 : Int64)) v5_38 v7_38) v5_38 v8_38) ((1 : Int32) - v5_38) v7_38) (own_add (own_add (fun _ => (0 : Int64)) v6_38 v9_38) v6_38 v10_38) v5_38 v6_38)))] []))
                  refine own_to (fun _ kz => XS.iconst X214.here hx rfl (hb hby at_234) kz) ?_
                  show own_Fin p e below G (T214.setTop (mkF m 235 #[.val (.int p0), .val (.int p1), .val (.int p2), .val (.int p3), .val (.int p4), .val (.int v5_38), .val (.int v6_38), .val (.int v7_38), .val (.int v8_38), .val (.int v9_38), .val (.int v10_38), .val (.ref b38), .val (.ref b51), .val (.int t0_141), .val (.int t0_162), .val (.int t0_183), .val (.int t0_204), .val (.int (f7 ((1 : Int32) - v5_38) v7_38 (own_all (own_add (own_add (own_add (fun _ => (0 : Int64)) v5_38 v7_38) v5_38 v8_38) ((1 : Int32) - v5_38) v7_38) (own_add (own_add (fun _ => (0 : Int64)) v6_38 v9_38) v6_38 v10_38) v5_38 v6_38)))] [(.int (1 : Int32))]))
                  refine own_to (fun _ kz => XS.goto X214.here hx rfl (pc0 := 235) (pc' := 239) rfl (hb hby at_235) (by decide) (by decide) kz) ?_
                  show own_Fin p e below G (T214.setTop (mkF m 239 #[.val (.int p0), .val (.int p1), .val (.int p2), .val (.int p3), .val (.int p4), .val (.int v5_38), .val (.int v6_38), .val (.int v7_38), .val (.int v8_38), .val (.int v9_38), .val (.int v10_38), .val (.ref b38), .val (.ref b51), .val (.int t0_141), .val (.int t0_162), .val (.int t0_183), .val (.int t0_204), .val (.int (f7 ((1 : Int32) - v5_38) v7_38 (own_all (own_add (own_add (own_add (fun _ => (0 : Int64)) v5_38 v7_38) v5_38 v8_38) ((1 : Int32) - v5_38) v7_38) (own_add (own_add (fun _ => (0 : Int64)) v6_38 v9_38) v6_38 v10_38) v5_38 v6_38)))] [(.int (1 : Int32))]))
                  exact own_retN X214 hx hlk hG (t := .boolean) Bd.returns (by simp) (hb hby at_239) (by decide) (by decide) (by rw [e214]; exact ⟨(congrArg (fun z => some (Value.int z)) q231f).symm, N214, trivial⟩)
          by_cases hc196 : (f7 v5_38 v8_38 (own_all (own_add (own_add (own_add (fun _ => (0 : Int64)) v5_38 v7_38) v5_38 v8_38) ((1 : Int32) - v5_38) v7_38) (own_add (own_add (fun _ => (0 : Int64)) v6_38 v9_38) v6_38 v10_38) v5_38 v6_38)) = t0_162
          · refine own_to (fun _ kz => XS.icmpNo X191.here hx rfl (hb hby at_196) rfl (teq hc196).2 kz) ?_
            have q196t := q_j183.trans (if_pos hc196)
            show own_Fin p e below G (T191.setTop (mkF m 199 #[.val (.int p0), .val (.int p1), .val (.int p2), .val (.int p3), .val (.int p4), .val (.int v5_38), .val (.int v6_38), .val (.int v7_38), .val (.int v8_38), .val (.int v9_38), .val (.int v10_38), .val (.ref b38), .val (.ref b51), .val (.int t0_141), .val (.int t0_162), .val (.int t0_183), .unset, .unset] []))
            refine own_to (fun _ kz => XS.iconst X191.here hx rfl (hb hby at_199) kz) ?_
            show own_Fin p e below G (T191.setTop (mkF m 200 #[.val (.int p0), .val (.int p1), .val (.int p2), .val (.int p3), .val (.int p4), .val (.int v5_38), .val (.int v6_38), .val (.int v7_38), .val (.int v8_38), .val (.int v9_38), .val (.int v10_38), .val (.ref b38), .val (.ref b51), .val (.int t0_141), .val (.int t0_162), .val (.int t0_183), .unset, .unset] [(.int (1 : Int32))]))
            refine own_to (fun _ kz => XS.goto X191.here hx rfl (pc0 := 200) (pc' := 204) rfl (hb hby at_200) (by decide) (by decide) kz) ?_
            show own_Fin p e below G (T191.setTop (mkF m 204 #[.val (.int p0), .val (.int p1), .val (.int p2), .val (.int p3), .val (.int p4), .val (.int v5_38), .val (.int v6_38), .val (.int v7_38), .val (.int v8_38), .val (.int v9_38), .val (.int v10_38), .val (.ref b38), .val (.ref b51), .val (.int t0_141), .val (.int t0_162), .val (.int t0_183), .unset, .unset] [(.int (1 : Int32))]))
            exact K204 (1 : Int32) q196t
          · refine own_to (fun _ kz => XS.icmpYes X191.here hx rfl (pc0 := 196) (pc' := 203) rfl (hb hby at_196) rfl (feq hc196).2 (by decide) (by decide) kz) ?_
            have q196f := q_j183.trans (if_neg hc196)
            show own_Fin p e below G (T191.setTop (mkF m 203 #[.val (.int p0), .val (.int p1), .val (.int p2), .val (.int p3), .val (.int p4), .val (.int v5_38), .val (.int v6_38), .val (.int v7_38), .val (.int v8_38), .val (.int v9_38), .val (.int v10_38), .val (.ref b38), .val (.ref b51), .val (.int t0_141), .val (.int t0_162), .val (.int t0_183), .unset, .unset] []))
            refine own_to (fun _ kz => XS.iconst X191.here hx rfl (hb hby at_203) kz) ?_
            show own_Fin p e below G (T191.setTop (mkF m 204 #[.val (.int p0), .val (.int p1), .val (.int p2), .val (.int p3), .val (.int p4), .val (.int v5_38), .val (.int v6_38), .val (.int v7_38), .val (.int v8_38), .val (.int v9_38), .val (.int v10_38), .val (.ref b38), .val (.ref b51), .val (.int t0_141), .val (.int t0_162), .val (.int t0_183), .unset, .unset] [(.int (0 : Int32))]))
            exact K204 (0 : Int32) q196f
        by_cases hc175 : (f7 v5_38 v7_38 (own_all (own_add (own_add (own_add (fun _ => (0 : Int64)) v5_38 v7_38) v5_38 v8_38) ((1 : Int32) - v5_38) v7_38) (own_add (own_add (fun _ => (0 : Int64)) v6_38 v9_38) v6_38 v10_38) v5_38 v6_38)) = t0_141
        · refine own_to (fun _ kz => XS.icmpNo X170.here hx rfl (hb hby at_175) rfl (teq hc175).2 kz) ?_
          have q175t := q_j162.trans (if_pos hc175)
          show own_Fin p e below G (T170.setTop (mkF m 178 #[.val (.int p0), .val (.int p1), .val (.int p2), .val (.int p3), .val (.int p4), .val (.int v5_38), .val (.int v6_38), .val (.int v7_38), .val (.int v8_38), .val (.int v9_38), .val (.int v10_38), .val (.ref b38), .val (.ref b51), .val (.int t0_141), .val (.int t0_162), .unset, .unset, .unset] []))
          refine own_to (fun _ kz => XS.iconst X170.here hx rfl (hb hby at_178) kz) ?_
          show own_Fin p e below G (T170.setTop (mkF m 179 #[.val (.int p0), .val (.int p1), .val (.int p2), .val (.int p3), .val (.int p4), .val (.int v5_38), .val (.int v6_38), .val (.int v7_38), .val (.int v8_38), .val (.int v9_38), .val (.int v10_38), .val (.ref b38), .val (.ref b51), .val (.int t0_141), .val (.int t0_162), .unset, .unset, .unset] [(.int (1 : Int32))]))
          refine own_to (fun _ kz => XS.goto X170.here hx rfl (pc0 := 179) (pc' := 183) rfl (hb hby at_179) (by decide) (by decide) kz) ?_
          show own_Fin p e below G (T170.setTop (mkF m 183 #[.val (.int p0), .val (.int p1), .val (.int p2), .val (.int p3), .val (.int p4), .val (.int v5_38), .val (.int v6_38), .val (.int v7_38), .val (.int v8_38), .val (.int v9_38), .val (.int v10_38), .val (.ref b38), .val (.ref b51), .val (.int t0_141), .val (.int t0_162), .unset, .unset, .unset] [(.int (1 : Int32))]))
          exact K183 (1 : Int32) q175t
        · refine own_to (fun _ kz => XS.icmpYes X170.here hx rfl (pc0 := 175) (pc' := 182) rfl (hb hby at_175) rfl (feq hc175).2 (by decide) (by decide) kz) ?_
          have q175f := q_j162.trans (if_neg hc175)
          show own_Fin p e below G (T170.setTop (mkF m 182 #[.val (.int p0), .val (.int p1), .val (.int p2), .val (.int p3), .val (.int p4), .val (.int v5_38), .val (.int v6_38), .val (.int v7_38), .val (.int v8_38), .val (.int v9_38), .val (.int v10_38), .val (.ref b38), .val (.ref b51), .val (.int t0_141), .val (.int t0_162), .unset, .unset, .unset] []))
          refine own_to (fun _ kz => XS.iconst X170.here hx rfl (hb hby at_182) kz) ?_
          show own_Fin p e below G (T170.setTop (mkF m 183 #[.val (.int p0), .val (.int p1), .val (.int p2), .val (.int p3), .val (.int p4), .val (.int v5_38), .val (.int v6_38), .val (.int v7_38), .val (.int v8_38), .val (.int v9_38), .val (.int v10_38), .val (.ref b38), .val (.ref b51), .val (.int t0_141), .val (.int t0_162), .unset, .unset, .unset] [(.int (0 : Int32))]))
          exact K183 (0 : Int32) q175f
      have K157 : ∀ (q_j157 : (f0 p0 p1 p2 p3 p4) = (f0_157 p0 p1 p2 p3 p4 v5_38 v6_38 v7_38 v8_38 v9_38 v10_38 t0_141)), own_Fin p e below G (T119.setTop (mkF m 157 #[.val (.int p0), .val (.int p1), .val (.int p2), .val (.int p3), .val (.int p4), .val (.int v5_38), .val (.int v6_38), .val (.int v7_38), .val (.int v8_38), .val (.int v9_38), .val (.int v10_38), .val (.ref b38), .val (.ref b51), .val (.int t0_141), .unset, .unset, .unset, .unset] [])) := by
        intro q_j157
        refine own_to (fun _ kz => XS.iconst X119.here hx rfl (hb hby at_157) kz) ?_
        show own_Fin p e below G (T119.setTop (mkF m 158 #[.val (.int p0), .val (.int p1), .val (.int p2), .val (.int p3), .val (.int p4), .val (.int v5_38), .val (.int v6_38), .val (.int v7_38), .val (.int v8_38), .val (.int v9_38), .val (.int v10_38), .val (.ref b38), .val (.ref b51), .val (.int t0_141), .unset, .unset, .unset, .unset] [(.int (1 : Int32))]))
        refine own_to (fun _ kz => XS.goto X119.here hx rfl (pc0 := 158) (pc' := 162) rfl (hb hby at_158) (by decide) (by decide) kz) ?_
        show own_Fin p e below G (T119.setTop (mkF m 162 #[.val (.int p0), .val (.int p1), .val (.int p2), .val (.int p3), .val (.int p4), .val (.int v5_38), .val (.int v6_38), .val (.int v7_38), .val (.int v8_38), .val (.int v9_38), .val (.int v10_38), .val (.ref b38), .val (.ref b51), .val (.int t0_141), .unset, .unset, .unset, .unset] [(.int (1 : Int32))]))
        exact K162 (1 : Int32) q_j157
      by_cases hc147 : v8_38 = v9_38
      · refine own_to (fun _ kz => XS.icmpYes X119.here hx rfl (pc0 := 147) (pc' := 157) rfl (hb hby at_147) rfl (teq hc147).1 (by decide) (by decide) kz) ?_
        have q147t := q_j141.trans (if_pos hc147)
        show own_Fin p e below G (T119.setTop (mkF m 157 #[.val (.int p0), .val (.int p1), .val (.int p2), .val (.int p3), .val (.int p4), .val (.int v5_38), .val (.int v6_38), .val (.int v7_38), .val (.int v8_38), .val (.int v9_38), .val (.int v10_38), .val (.ref b38), .val (.ref b51), .val (.int t0_141), .unset, .unset, .unset, .unset] []))
        exact K157 q147t
      · refine own_to (fun _ kz => XS.icmpNo X119.here hx rfl (hb hby at_147) rfl (feq hc147).1 kz) ?_
        have q147f := q_j141.trans (if_neg hc147)
        show own_Fin p e below G (T119.setTop (mkF m 150 #[.val (.int p0), .val (.int p1), .val (.int p2), .val (.int p3), .val (.int p4), .val (.int v5_38), .val (.int v6_38), .val (.int v7_38), .val (.int v8_38), .val (.int v9_38), .val (.int v10_38), .val (.ref b38), .val (.ref b51), .val (.int t0_141), .unset, .unset, .unset, .unset] []))
        refine own_to (fun _ kz => XS.iload X119.here hx rfl (hb hby at_150) rfl  kz) ?_
        show own_Fin p e below G (T119.setTop (mkF m 152 #[.val (.int p0), .val (.int p1), .val (.int p2), .val (.int p3), .val (.int p4), .val (.int v5_38), .val (.int v6_38), .val (.int v7_38), .val (.int v8_38), .val (.int v9_38), .val (.int v10_38), .val (.ref b38), .val (.ref b51), .val (.int t0_141), .unset, .unset, .unset, .unset] [(.int v8_38)]))
        refine own_to (fun _ kz => XS.iload X119.here hx rfl (hb hby at_152) rfl  kz) ?_
        show own_Fin p e below G (T119.setTop (mkF m 154 #[.val (.int p0), .val (.int p1), .val (.int p2), .val (.int p3), .val (.int p4), .val (.int v5_38), .val (.int v6_38), .val (.int v7_38), .val (.int v8_38), .val (.int v9_38), .val (.int v10_38), .val (.ref b38), .val (.ref b51), .val (.int t0_141), .unset, .unset, .unset, .unset] [(.int v10_38), (.int v8_38)]))
        by_cases hc154 : v8_38 = v10_38
        · refine own_to (fun _ kz => XS.icmpNo X119.here hx rfl (hb hby at_154) rfl (teq hc154).2 kz) ?_
          have q154t := q147f.trans (if_pos hc154)
          show own_Fin p e below G (T119.setTop (mkF m 157 #[.val (.int p0), .val (.int p1), .val (.int p2), .val (.int p3), .val (.int p4), .val (.int v5_38), .val (.int v6_38), .val (.int v7_38), .val (.int v8_38), .val (.int v9_38), .val (.int v10_38), .val (.ref b38), .val (.ref b51), .val (.int t0_141), .unset, .unset, .unset, .unset] []))
          exact K157 q154t
        · refine own_to (fun _ kz => XS.icmpYes X119.here hx rfl (pc0 := 154) (pc' := 161) rfl (hb hby at_154) rfl (feq hc154).2 (by decide) (by decide) kz) ?_
          have q154f := q147f.trans (if_neg hc154)
          show own_Fin p e below G (T119.setTop (mkF m 161 #[.val (.int p0), .val (.int p1), .val (.int p2), .val (.int p3), .val (.int p4), .val (.int v5_38), .val (.int v6_38), .val (.int v7_38), .val (.int v8_38), .val (.int v9_38), .val (.int v10_38), .val (.ref b38), .val (.ref b51), .val (.int t0_141), .unset, .unset, .unset, .unset] []))
          refine own_to (fun _ kz => XS.iconst X119.here hx rfl (hb hby at_161) kz) ?_
          show own_Fin p e below G (T119.setTop (mkF m 162 #[.val (.int p0), .val (.int p1), .val (.int p2), .val (.int p3), .val (.int p4), .val (.int v5_38), .val (.int v6_38), .val (.int v7_38), .val (.int v8_38), .val (.int v9_38), .val (.int v10_38), .val (.ref b38), .val (.ref b51), .val (.int t0_141), .unset, .unset, .unset, .unset] [(.int (0 : Int32))]))
          exact K162 (0 : Int32) q154f
    have K136 : ∀ (q_j136 : (f0 p0 p1 p2 p3 p4) = (f0_136 p0 p1 p2 p3 p4 v5_38 v6_38 v7_38 v8_38 v9_38 v10_38)), own_Fin p e below G (T119.setTop (mkF m 136 #[.val (.int p0), .val (.int p1), .val (.int p2), .val (.int p3), .val (.int p4), .val (.int v5_38), .val (.int v6_38), .val (.int v7_38), .val (.int v8_38), .val (.int v9_38), .val (.int v10_38), .val (.ref b38), .val (.ref b51), .unset, .unset, .unset, .unset, .unset] [])) := by
      intro q_j136
      refine own_to (fun _ kz => XS.iconst X119.here hx rfl (hb hby at_136) kz) ?_
      show own_Fin p e below G (T119.setTop (mkF m 137 #[.val (.int p0), .val (.int p1), .val (.int p2), .val (.int p3), .val (.int p4), .val (.int v5_38), .val (.int v6_38), .val (.int v7_38), .val (.int v8_38), .val (.int v9_38), .val (.int v10_38), .val (.ref b38), .val (.ref b51), .unset, .unset, .unset, .unset, .unset] [(.int (1 : Int32))]))
      refine own_to (fun _ kz => XS.goto X119.here hx rfl (pc0 := 137) (pc' := 141) rfl (hb hby at_137) (by decide) (by decide) kz) ?_
      show own_Fin p e below G (T119.setTop (mkF m 141 #[.val (.int p0), .val (.int p1), .val (.int p2), .val (.int p3), .val (.int p4), .val (.int v5_38), .val (.int v6_38), .val (.int v7_38), .val (.int v8_38), .val (.int v9_38), .val (.int v10_38), .val (.ref b38), .val (.ref b51), .unset, .unset, .unset, .unset, .unset] [(.int (1 : Int32))]))
      exact K141 (1 : Int32) q_j136
    by_cases hc126 : v7_38 = v9_38
    · refine own_to (fun _ kz => XS.icmpYes X119.here hx rfl (pc0 := 126) (pc' := 136) rfl (hb hby at_126) rfl (teq hc126).1 (by decide) (by decide) kz) ?_
      have q126t := q_j38.trans (if_pos hc126)
      show own_Fin p e below G (T119.setTop (mkF m 136 #[.val (.int p0), .val (.int p1), .val (.int p2), .val (.int p3), .val (.int p4), .val (.int v5_38), .val (.int v6_38), .val (.int v7_38), .val (.int v8_38), .val (.int v9_38), .val (.int v10_38), .val (.ref b38), .val (.ref b51), .unset, .unset, .unset, .unset, .unset] []))
      exact K136 q126t
    · refine own_to (fun _ kz => XS.icmpNo X119.here hx rfl (hb hby at_126) rfl (feq hc126).1 kz) ?_
      have q126f := q_j38.trans (if_neg hc126)
      show own_Fin p e below G (T119.setTop (mkF m 129 #[.val (.int p0), .val (.int p1), .val (.int p2), .val (.int p3), .val (.int p4), .val (.int v5_38), .val (.int v6_38), .val (.int v7_38), .val (.int v8_38), .val (.int v9_38), .val (.int v10_38), .val (.ref b38), .val (.ref b51), .unset, .unset, .unset, .unset, .unset] []))
      refine own_to (fun _ kz => XS.iload X119.here hx rfl (hb hby at_129) rfl  kz) ?_
      show own_Fin p e below G (T119.setTop (mkF m 131 #[.val (.int p0), .val (.int p1), .val (.int p2), .val (.int p3), .val (.int p4), .val (.int v5_38), .val (.int v6_38), .val (.int v7_38), .val (.int v8_38), .val (.int v9_38), .val (.int v10_38), .val (.ref b38), .val (.ref b51), .unset, .unset, .unset, .unset, .unset] [(.int v7_38)]))
      refine own_to (fun _ kz => XS.iload X119.here hx rfl (hb hby at_131) rfl  kz) ?_
      show own_Fin p e below G (T119.setTop (mkF m 133 #[.val (.int p0), .val (.int p1), .val (.int p2), .val (.int p3), .val (.int p4), .val (.int v5_38), .val (.int v6_38), .val (.int v7_38), .val (.int v8_38), .val (.int v9_38), .val (.int v10_38), .val (.ref b38), .val (.ref b51), .unset, .unset, .unset, .unset, .unset] [(.int v10_38), (.int v7_38)]))
      by_cases hc133 : v7_38 = v10_38
      · refine own_to (fun _ kz => XS.icmpNo X119.here hx rfl (hb hby at_133) rfl (teq hc133).2 kz) ?_
        have q133t := q126f.trans (if_pos hc133)
        show own_Fin p e below G (T119.setTop (mkF m 136 #[.val (.int p0), .val (.int p1), .val (.int p2), .val (.int p3), .val (.int p4), .val (.int v5_38), .val (.int v6_38), .val (.int v7_38), .val (.int v8_38), .val (.int v9_38), .val (.int v10_38), .val (.ref b38), .val (.ref b51), .unset, .unset, .unset, .unset, .unset] []))
        exact K136 q133t
      · refine own_to (fun _ kz => XS.icmpYes X119.here hx rfl (pc0 := 133) (pc' := 140) rfl (hb hby at_133) rfl (feq hc133).2 (by decide) (by decide) kz) ?_
        have q133f := q126f.trans (if_neg hc133)
        show own_Fin p e below G (T119.setTop (mkF m 140 #[.val (.int p0), .val (.int p1), .val (.int p2), .val (.int p3), .val (.int p4), .val (.int v5_38), .val (.int v6_38), .val (.int v7_38), .val (.int v8_38), .val (.int v9_38), .val (.int v10_38), .val (.ref b38), .val (.ref b51), .unset, .unset, .unset, .unset, .unset] []))
        refine own_to (fun _ kz => XS.iconst X119.here hx rfl (hb hby at_140) kz) ?_
        show own_Fin p e below G (T119.setTop (mkF m 141 #[.val (.int p0), .val (.int p1), .val (.int p2), .val (.int p3), .val (.int p4), .val (.int v5_38), .val (.int v6_38), .val (.int v7_38), .val (.int v8_38), .val (.int v9_38), .val (.int v10_38), .val (.ref b38), .val (.ref b51), .unset, .unset, .unset, .unset, .unset] [(.int (0 : Int32))]))
        exact K141 (0 : Int32) q133f
  exact K38 (p4 &&& (1 : Int32)) (((p4.toUInt32 >>> ((1 : Int32) &&& 31).toUInt32).toInt32) &&& (1 : Int32)) (p0 &&& (127 : Int32)) (p1 &&& (127 : Int32)) (p2 &&& (127 : Int32)) (p3 &&& (127 : Int32)) (own_b01 _) (own_b01 _) (own_r127 _) (own_r127 _) (own_r127 _) (own_r127 _) q0
set_option maxHeartbeats 8000000 in
theorem own_mid (a b c d e p q n1 n2 m1 m2 : Int32) (hp : p = 0 ∨ p = 1) (hq : q = 0 ∨ q = 1) (h1 : own_rg n1) (h2 : own_rg n2) (g1 : own_rg m1) (g2 : own_rg m2) : f0_38 a b c d e p q n1 n2 m1 m2 = 1 := by
  have np := own_1m hp
  simp only [f0_38, f0_136, f0_141, f0_157, f0_162, f0_183, f0_204, f0_238, own_con h1, own_con h2, own_mall hp hq hp h1, own_mall hp hq hp h2, own_mall hp hq np h1, own_madd np hp h1 h1, own_madd np hp h2 h1, own_madd np np h1 h1, own_madd hp hp h1 h2, own_madd hp hp h2 h2, own_madd hp np h1 h2, own_madd hp hp h1 h1, own_madd hp hp h2 h1, own_madd hp np h1 h1, own_madd hq hq h1 g1, own_madd hq hq h1 g2, own_madd hq hq h2 g1, own_madd hq hq h2 g2, own_mz, (own_1n hp).1, (own_1n hp).2, if_true, if_false, true_and, false_and, Bool.false_or, Bool.or_false, decide_false, decide_true, and_self]
  rcases Classical.propComplete (n1 = m1) with e1 | e1 <;> rcases Classical.propComplete (n1 = m2) with e2 | e2 <;> rcases Classical.propComplete (n2 = m1) with e3 | e3 <;> rcases Classical.propComplete (n2 = m2) with e4 | e4 <;> simp [e1, e2, e3, e4]
theorem own_plain (a b c d e : Int32) : f0 a b c d e = 1 := own_mid _ _ _ _ _ _ _ _ _ _ _ (own_b01 _) (own_b01 _) (own_r127 _) (own_r127 _) (own_r127 _) (own_r127 _)
set_option maxRecDepth 65536 in
set_option maxHeartbeats 40000000 in
theorem comes_1 {Post : Tables → Env → Array Value → State → Outcome → State → Prop} (hpost : ∀ tb e args s v u, (limb_1_1.after args s (.returned v) u = true ∧ limb_1_2.after args s (.returned v) u = true ∧ True) → FrameEnd s (.returned v) u (Jvm.fieldLocs frame_1_writes args s ++ Jvm.arrayLocs frame_1_arrays args s ++ Jvm.staticLocs frame_1_statics s) 16 128 → Post tb e args s (.returned v) u) :
    ArmFor flags0 classFile x code maxLocals ret World_1 tables_1 room_1 Calls_1 rest_1 Pre_1 Post := by
  intro l hfl _ _ p e ha hc hk s m args below hf hA hF happ hP
  obtain ⟨hcalls, hrest, hpre⟩ := hP
  obtain ⟨-, -, -, hnamed, -, -, -, hat⟩ := (Spec.applies_iff hf).mp happ
  obtain ⟨hg, hn⟩ := and_e (Cond.before_iff.mp (show (Jvm.Cond.and given_1 narrow_1).before args s = true from hpre))
  obtain ⟨gg1, gg2⟩ := and_e hg
  obtain ⟨gg3, gg4⟩ := and_e gg2
  obtain ⟨gg5, gg6⟩ := and_e gg4
  obtain ⟨gg7, gg8⟩ := and_e gg6
  obtain ⟨gg9, gg10⟩ := and_e gg8
  obtain ⟨w0, w1, w2, w3, w4, rfl⟩ : ∃ w0 w1 w2 w3 w4 : Value, args = #[w0, w1, w2, w3, w4] := by
    have hs : args.size = 5 := by simpa [Cond.value, given_1] using gg1
    obtain ⟨L⟩ := args
    match L, hs with
    | [w0, w1, w2, w3, w4], _ => exact ⟨w0, w1, w2, w3, w4, rfl⟩
  have hw := fun d (hd : d ∈ tables_1) => atoms_spec (ws := Jvm.Cond.code x code maxLocals ret :: tables_1) hat d (List.mem_cons_of_mem _ hd)
  obtain ⟨i0, ei0⟩ := is_v gg3
  obtain rfl : w0 = (.int i0) := Option.some.inj ei0
  obtain ⟨i1, ei1⟩ := is_v gg5
  obtain rfl : w1 = (.int i1) := Option.some.inj ei1
  obtain ⟨i2, ei2⟩ := is_v gg7
  obtain rfl : w2 = (.int i2) := Option.some.inj ei2
  obtain ⟨i3, ei3⟩ := is_v gg9
  obtain rfl : w3 = (.int i3) := Option.some.inj ei3
  obtain ⟨i4, ei4⟩ := is_v gg10
  obtain rfl : w4 = (.int i4) := Option.some.inj ei4
  obtain ⟨n, o, h1, h2, h3, v, L, rfl, ⟨hv, N, -⟩, hq⟩ := rm0 l s _ hw tables_1 i0 i1 i2 i3 i4 s.heap s.heap.size (Nat.le_refl _) p e ha hc hk s m _ below hf ((Spec.applies_iff_loose hf).mp happ).1 ⟨rfl, State.Warmed39.refl s, rfl⟩ trivial
  obtain rfl : v = some (.int 1) := hv.trans (congrArg (fun z => some (Value.int z)) (own_plain i0 i1 i2 i3 i4))
  refine ⟨n, _, h1, h2, h3, hpost _ _ _ _ _ _ ⟨Cond.after_iff.mpr rfl, Cond.after_iff.mpr (eq_i res_at (Term.int_eval (1)) rfl), trivial⟩ ⟨hq.1, hq.2.1, (hq.2.2.sift fun y hy => Or.inr (N y hy)).mono (by decide) (by decide)⟩⟩
theorem main_1_1 : Claimed_1_1 := comes_1 fun _ _ _ _ _ _ h hF => ⟨h.1, hF⟩
theorem main_1_2 : Claimed_1_2 := comes_1 fun _ _ _ _ _ _ h hF => ⟨h.2.1, hF⟩
end Jvm.Pilot.@@N@@
namespace Jvm.Pilot.@@N@@
open Jvm Jvm.ClassFile Sem Op Lib Jvm.Free Jvm.Stand Jvm.Pilot.@@N@@.Jvm.D
/-! MADE BY PROGRAM (witnessworld.py) out of the Statement's table words and the real class files: 12 classes; the members and pool entries that the words name. The judged class is class 1, her method 1. -/
namespace start1
open Jvm.ClassFile
def u (s : String) : CpInfo := .utf8 (stringToUtf16 s)
/-- a pool by its gaps: so many unusable entries, then the entry; so many at the end -/
def gap : Nat → List CpInfo → List CpInfo
  | 0, r => r
  | n + 1, r => .unusable :: gap n r
def poolList (es : List (Nat × CpInfo)) (last : Nat) : List CpInfo := es.foldr (fun e r => gap e.1 (e.2 :: r)) (gap last [])
def pool (es : List (Nat × CpInfo)) (last : Nat) : Array CpInfo := ⟨poolList es last⟩
def fileOf (pool : Array CpInfo) (this : Nat) (attrs : Array Attribute := #[]) (ms : Array MethodInfo := #[]) (fl : Nat := 33) (sup : Nat := 0) (ifs : Array Nat := #[]) (fds : Array FieldInfo := #[]) : ClassFile where
  minorVersion := 0
  majorVersion := 65
  constantPool := pool
  accessFlags := fl
  thisClass := this
  superClass := sup
  interfaces := ifs
  fields := fds
  methods := ms
  attributes := attrs
def plain (name : String) (sup : Option ClassId) : Class where
  name := name
  kind := .ordinary
  loader := none
  accessFlags := 33
  super := sup
  interfaces := #[]
  cf := none
  fields := #[]
  methods := #[]
  instanceTypes := #[]
  staticTypes := #[]
  resolved := #[]
  callSites := []
  init := .initialized
  statics := none
  mirror := none

def pool0 : Array CpInfo := pool [(5, u "<init>"), (0, u "()V"), (1, .class_ 10), (1, u "java/lang/Object")] 113

def k0c0 : Code := { maxStack := 0, maxLocals := 1, code := object_method_1_code, exceptionTable := #[], attributes := #[] }
def k0m0 : Method := { name := "<init>", desc := "()V", sig := { parameters := [], returnType := none }, accessFlags := 1, code := some k0c0 }
/-- java/lang/Object -/
def k0 : Class := { plain "java/lang/Object" none with
  accessFlags := 33
  interfaces := #[]
  cf := some (fileOf pool0 8 #[] #[{ accessFlags := 1, nameIndex := 5, descriptorIndex := 6, attributes := #[] }] 33 0 #[] #[])
  fields := #[]
  methods := #[k0m0]
  instanceTypes := #[]
  staticTypes := #[]
  resolved := Array.replicate 124 none
  statics := none }

def pool1 : Array CpInfo := pool [(2, .class_ 4), (1, u "java/lang/Object"), (0, u "<init>"), (0, u "()V"), (0, .class_ 8), (0, u "com/example/twigwright/twigwright/PathNodeSets"), (0, .methodref 7 10), (0, .nameAndType 5 11), (0, u "(II)V"), (0, .methodref 7 13), (0, .nameAndType 14 11), (0, u "add"), (0, .methodref 7 16), (0, .nameAndType 17 18), (0, u "retainAll"), (0, u "(ILcom/example/twigwright/twigwright/PathNodeSets;I)V"), (0, .methodref 7 20), (0, .nameAndType 21 22), (0, u "contains"), (0, u "(II)Z"), (0, .class_ 24), (0, u "com/example/twigwright/twigwright/PathNodeSetsRetainAllPinLaw"), (2, u "law"), (0, u "(IIIII)Z")] 3

def k1m0 : Method := { name := "<init>", desc := "()V", sig := { parameters := [], returnType := none }, accessFlags := 1, code := none }
def k1c1 : Code := { maxStack := 4, maxLocals := 18, code := code, exceptionTable := #[], attributes := #[] }
def k1m1 : Method := { name := "law", desc := "(IIIII)Z", sig := { parameters := [.int, .int, .int, .int, .int], returnType := some .boolean }, accessFlags := 9, code := some k1c1 }
/-- com/example/twigwright/twigwright/PathNodeSetsRetainAllPinLaw -/
def k1 : Class := { plain "com/example/twigwright/twigwright/PathNodeSetsRetainAllPinLaw" (some 0) with
  accessFlags := 49
  interfaces := #[]
  cf := some (fileOf pool1 23 #[] #[{ accessFlags := 1, nameIndex := 5, descriptorIndex := 6, attributes := #[] }, { accessFlags := 9, nameIndex := 27, descriptorIndex := 28, attributes := #[] }] 49 2 #[] #[])
  fields := #[]
  methods := #[k1m0, k1m1]
  instanceTypes := #[]
  staticTypes := #[]
  resolved := Array.replicate 32 none
  statics := none }

def pool2 : Array CpInfo := pool [(1, .methodref 2 3), (0, .class_ 4), (0, .nameAndType 5 6), (0, u "java/lang/Object"), (0, u "<init>"), (0, u "()V"), (2, .class_ 10), (0, u "com/example/twigwright/twigwright/PathNodeSets"), (0, .methodref 12 13), (0, .class_ 14), (0, .nameAndType 15 16), (0, u "java/lang/Math"), (0, u "max"), (0, u "(II)I"), (0, .fieldref 9 18), (0, .nameAndType 19 20), (0, u "words"), (0, u "I"), (0, .methodref 12 22), (0, .nameAndType 23 16), (0, u "multiplyExact"), (0, .fieldref 9 25), (0, .nameAndType 26 27), (0, u "bits"), (0, u "[J"), (6, u "WORD_SHIFT"), (2, u "(II)V"), (2, u "contains"), (0, u "(II)Z"), (1, u "add"), (2, u "(ILcom/example/twigwright/twigwright/PathNodeSets;I)V"), (0, u "retainAll")] 3

def k2c0 : Code := { maxStack := 4, maxLocals := 3, code := prog_23_method_1_code, exceptionTable := #[], attributes := #[] }
def k2m0 : Method := { name := "<init>", desc := "(II)V", sig := { parameters := [.int, .int], returnType := none }, accessFlags := 0, code := some k2c0 }
def k2c1 : Code := { maxStack := 5, maxLocals := 3, code := prog_23_method_2_code, exceptionTable := #[], attributes := #[] }
def k2m1 : Method := { name := "contains", desc := "(II)Z", sig := { parameters := [.int, .int], returnType := some .boolean }, accessFlags := 0, code := some k2c1 }
def k2c2 : Code := { maxStack := 7, maxLocals := 3, code := prog_23_method_3_code, exceptionTable := #[], attributes := #[] }
def k2m2 : Method := { name := "add", desc := "(II)V", sig := { parameters := [.int, .int], returnType := none }, accessFlags := 0, code := some k2c2 }
def k2c3 : Code := { maxStack := 7, maxLocals := 5, code := prog_23_method_6_code, exceptionTable := #[], attributes := #[] }
def k2m3 : Method := { name := "retainAll", desc := "(ILcom/example/twigwright/twigwright/PathNodeSets;I)V", sig := { parameters := [.int, (.object "com/example/twigwright/twigwright/PathNodeSets"), .int], returnType := none }, accessFlags := 0, code := some k2c3 }
/-- com/example/twigwright/twigwright/PathNodeSets -/
def k2 : Class := { plain "com/example/twigwright/twigwright/PathNodeSets" (some 0) with
  accessFlags := 48
  interfaces := #[]
  cf := some (fileOf pool2 9 #[] #[{ accessFlags := 0, nameIndex := 5, descriptorIndex := 37, attributes := #[] }, { accessFlags := 0, nameIndex := 40, descriptorIndex := 41, attributes := #[] }, { accessFlags := 0, nameIndex := 43, descriptorIndex := 37, attributes := #[] }, { accessFlags := 0, nameIndex := 47, descriptorIndex := 46, attributes := #[] }] 48 2 #[] #[{ accessFlags := 26, nameIndex := 34, descriptorIndex := 20, attributes := #[] }, { accessFlags := 18, nameIndex := 19, descriptorIndex := 20, attributes := #[] }, { accessFlags := 18, nameIndex := 26, descriptorIndex := 27, attributes := #[] }])
  fields := #[{ name := "WORD_SHIFT", type := .int, accessFlags := 26, slot := 0, constantValue := 0 }, { name := "words", type := .int, accessFlags := 18, slot := 0, constantValue := 0 }, { name := "bits", type := (.array .long), accessFlags := 18, slot := 1, constantValue := 0 }]
  methods := #[k2m0, k2m1, k2m2, k2m3]
  instanceTypes := #[.int, (.array .long)]
  staticTypes := #[.int]
  resolved := Array.replicate 51 none
  statics := none }

def pool3 : Array CpInfo := pool [(1, .class_ 2), (0, u "java/lang/Math"), (1, .class_ 6), (1, u "java/lang/Object"), (0, u "<init>"), (0, u "()V"), (89, .class_ 100), (1, u "java/lang/Math$RandomNumberGeneratorHolder"), (19, u "multiplyExact"), (51, u "negativeZeroFloatBits"), (0, u "J"), (2, u "negativeZeroDoubleBits"), (21, u "max"), (46, u "$assertionsDisabled"), (0, u "Z"), (88, u "(II)I"), (2, u "twoToTheDoubleScaleDown"), (0, u "D"), (4, u "twoToTheDoubleScaleUp"), (9, u "E"), (3, u "PI"), (2, u "TAU"), (2, u "DEGREES_TO_RADIANS"), (0, u "RADIANS_TO_DEGREES")] 94

def k3m0 : Method := { name := "<init>", desc := "()V", sig := { parameters := [], returnType := none }, accessFlags := 2, code := none }
def k3c1 : Code := { maxStack := 4, maxLocals := 4, code := jdk_29_method_28_code, exceptionTable := #[], attributes := #[] }
def k3m1 : Method := { name := "multiplyExact", desc := "(II)I", sig := { parameters := [.int, .int], returnType := some .int }, accessFlags := 9, code := some k3c1 }
def k3c2 : Code := { maxStack := 2, maxLocals := 2, code := jdk_29_method_65_code, exceptionTable := #[], attributes := #[] }
def k3m2 : Method := { name := "max", desc := "(II)I", sig := { parameters := [.int, .int], returnType := some .int }, accessFlags := 9, code := some k3c2 }
/-- java/lang/Math -/
def k3 : Class := { plain "java/lang/Math" (some 0) with
  accessFlags := 49
  interfaces := #[]
  cf := some (fileOf pool3 1 #[.nestMembers #[98]] #[{ accessFlags := 2, nameIndex := 7, descriptorIndex := 8, attributes := #[] }, { accessFlags := 9, nameIndex := 120, descriptorIndex := 335, attributes := #[] }, { accessFlags := 9, nameIndex := 198, descriptorIndex := 335, attributes := #[] }] 49 4 #[] #[{ accessFlags := 25, nameIndex := 354, descriptorIndex := 339, attributes := #[] }, { accessFlags := 25, nameIndex := 358, descriptorIndex := 339, attributes := #[] }, { accessFlags := 25, nameIndex := 361, descriptorIndex := 339, attributes := #[] }, { accessFlags := 26, nameIndex := 364, descriptorIndex := 339, attributes := #[] }, { accessFlags := 26, nameIndex := 365, descriptorIndex := 339, attributes := #[] }, { accessFlags := 26, nameIndex := 172, descriptorIndex := 173, attributes := #[] }, { accessFlags := 26, nameIndex := 176, descriptorIndex := 173, attributes := #[] }, { accessFlags := 8, nameIndex := 344, descriptorIndex := 339, attributes := #[] }, { accessFlags := 8, nameIndex := 338, descriptorIndex := 339, attributes := #[] }, { accessFlags := 4120, nameIndex := 245, descriptorIndex := 246, attributes := #[] }])
  fields := #[{ name := "E", type := .double, accessFlags := 25, slot := 0, constantValue := 0 }, { name := "PI", type := .double, accessFlags := 25, slot := 1, constantValue := 0 }, { name := "TAU", type := .double, accessFlags := 25, slot := 2, constantValue := 0 }, { name := "DEGREES_TO_RADIANS", type := .double, accessFlags := 26, slot := 3, constantValue := 0 }, { name := "RADIANS_TO_DEGREES", type := .double, accessFlags := 26, slot := 4, constantValue := 0 }, { name := "negativeZeroFloatBits", type := .long, accessFlags := 26, slot := 5, constantValue := 0 }, { name := "negativeZeroDoubleBits", type := .long, accessFlags := 26, slot := 6, constantValue := 0 }, { name := "twoToTheDoubleScaleUp", type := .double, accessFlags := 8, slot := 7, constantValue := 0 }, { name := "twoToTheDoubleScaleDown", type := .double, accessFlags := 8, slot := 8, constantValue := 0 }, { name := "$assertionsDisabled", type := .boolean, accessFlags := 4120, slot := 9, constantValue := 0 }]
  methods := #[k3m0, k3m1, k3m2]
  instanceTypes := #[]
  staticTypes := #[.double, .double, .double, .double, .double, .long, .long, .double, .double, .boolean]
  resolved := Array.replicate 460 none
  statics := none }

def pool4 : Array CpInfo := pool [(1, u "java/lang/Cloneable"), (0, .class_ 1), (0, u "java/lang/Object"), (0, .class_ 3)] 3

/-- java/lang/Cloneable -/
def k4 : Class := { plain "java/lang/Cloneable" (some 0) with
  accessFlags := 1537
  interfaces := #[]
  cf := some (fileOf pool4 2 #[] #[] 1537 4 #[] #[])
  fields := #[]
  methods := #[]
  instanceTypes := #[]
  staticTypes := #[]
  resolved := Array.replicate 8 none
  statics := none }

def pool5 : Array CpInfo := pool [(1, u "java/io/Serializable"), (0, .class_ 1), (0, u "java/lang/Object"), (0, .class_ 3)] 3

/-- java/io/Serializable -/
def k5 : Class := { plain "java/io/Serializable" (some 0) with
  accessFlags := 1537
  interfaces := #[]
  cf := some (fileOf pool5 2 #[] #[] 1537 4 #[] #[])
  fields := #[]
  methods := #[]
  instanceTypes := #[]
  staticTypes := #[]
  resolved := Array.replicate 8 none
  statics := none }

/-- the primitive byte -/
def k6 : Class := { plain "byte" none with kind := .primitive 'B', accessFlags := 0x411 }
/-- [B -/
def k7 : Class := { plain "[B" (some 0) with kind := .array 6 .byte, interfaces := #[4, 5], accessFlags := 1041 }

/-- the primitive int -/
def k8 : Class := { plain "int" none with kind := .primitive 'I', accessFlags := 0x411 }
/-- [I -/
def k9 : Class := { plain "[I" (some 0) with kind := .array 8 .int, interfaces := #[4, 5], accessFlags := 1041 }

/-- the primitive long -/
def k10 : Class := { plain "long" none with kind := .primitive 'J', accessFlags := 0x411 }
/-- [J -/
def k11 : Class := { plain "[J" (some 0) with kind := .array 10 .long, interfaces := #[4, 5], accessFlags := 1041 }

def heap : Heap := #[]
def classes : Array Class := #[k0, k1, k2, k3, k4, k5, k6, k7, k8, k9, k10, k11]
def interned : List (Array UInt16 × Addr) := []
def slotsUsed : Nat := 0
def theMethod : MethodId := ⟨1, 1⟩
def args0 : Array Value := #[.int 5, .int 6, .int 3, .int 4, .int 3]
def aboutOver (below : List Frame) : State where
  vm := { classes := classes, interned := interned.toArray }
  heap := heap
  slotsUsed := slotsUsed
  threads := #[{ frames := .invoking theMethod args0 :: below }]
def below0 : List Frame := [.native { method := ⟨0, 0⟩, args := #[] }]
def about1 : State := aboutOver below0
def p0 : Program := .bare "" "" ""
def e0 : Env := launch0.env 0 0 0
theorem w_frames : about1.frames = Frame.invoking theMethod args0 :: below0 := rfl
set_option maxRecDepth 65536 in
theorem w_args : argsFit about1.vm theMethod args0 = true := by decide +kernel
set_option maxRecDepth 65536 in
theorem w_heap : heapFits about1 = true := by decide +kernel
set_option maxRecDepth 65536 in
theorem w_runnable : about1.curStatus? = some .runnable := by decide +kernel
set_option maxRecDepth 65536 in
theorem w_alone : about1.alone = true := by decide +kernel
set_option maxRecDepth 65536 in
theorem w_named : about1.methodNamed? x = some theMethod := by decide +kernel
set_option maxRecDepth 65536 in
theorem w_hears : about1.hears theMethod below0 = true := by decide +kernel
set_option maxRecDepth 65536 in
theorem w_ripe : about1.ripe theMethod args0 below0 = true := by decide +kernel
theorem w_running : about1.status = .running := rfl
set_option maxRecDepth 65536 in
theorem w_room : about1.hasRoom e0.platform room_1 = true :=
  launch0.hasRoom_least _ room_1 (by decide +kernel) (by decide +kernel) (by decide +kernel) (by decide +kernel) (by decide +kernel) (by decide +kernel)
theorem allAtoms_all (ts : List Jvm.Cond) (a : Array Jvm.Value) (st : Jvm.State) : (allAtoms ts).before a st = ts.all (fun c => c.before a st) := by
  induction ts with
  | nil => rfl
  | cons c t ih =>
    show (Jvm.Cond.and c (allAtoms t)).before a st = _
    rw [Jvm.Cond.before_and, ih, List.all_cons]
def words1 : List Jvm.Cond := Jvm.Cond.code x code maxLocals ret :: tables_1
/-- a 'code' word, met by the world's own term for the bytes: nothing is compared byte by byte -/
theorem code_word {y : MethodName} {bytes : ByteArray} {mx : Nat} {rt : Option FieldType} {a : Array Value} {s : State} {m : MethodId} {meth : Method} {c : Code} (h1 : s.methodNamed? y = some m) (h2 : s.vm.method? m = some meth) (h3 : meth.code = some c) (h4 : c.code = bytes)
    (h5 : (c.maxLocals == mx && c.exceptionTable.isEmpty && decide (c.maxStack ≤ mostOperands) && decide (meth.sig.returnType = rt) && !meth.locks && decide (parseMethodDescriptor y.desc = some meth.sig)) = true) : (Jvm.Cond.code y bytes mx rt).before a s = true := by
  simp only [Bool.and_eq_true, beq_iff_eq, Bool.not_eq_true', decide_eq_true_eq] at h5
  obtain ⟨⟨⟨⟨⟨g1, g2⟩, g3⟩, g4⟩, g5⟩, g6⟩ := h5
  simp [Cond.before, Cond.holds, Cond.value, h1, h2, h3, h4, g1, g2, g3, g4, g5, g6]
def isCode : Jvm.Cond → Bool
  | .code _ _ _ _ => true
  | _ => false
theorem all_split {L : List Jvm.Cond} {P : Jvm.Cond → Bool} (h1 : L.all (fun c => isCode c || P c) = true) (h2 : ∀ c ∈ L.filter isCode, P c = true) : L.all P = true := by
  refine List.all_eq_true.mpr fun c hc => ?_
  have h := List.all_eq_true.mp h1 c hc
  rcases Bool.eq_false_or_eq_true (isCode c) with hi | hi
  · exact h2 c (List.mem_filter.mpr ⟨hc, hi⟩)
  · simpa [hi] using h
set_option maxRecDepth 65536 in
theorem w_c0 : (Jvm.Cond.code x code maxLocals ret).before args0 about1 = true := code_word (m := ⟨1, 1⟩) (meth := k1m1) (c := k1c1) (by decide +kernel) rfl rfl rfl (by decide +kernel)
set_option maxRecDepth 65536 in
theorem w_c1 : (Jvm.Cond.code ({ cls := "com/example/twigwright/twigwright/PathNodeSets", name := "<init>", desc := "(II)V" } : Jvm.MethodName) prog_23_method_1_code (3 : Nat) (Option.none : Option Jvm.ClassFile.FieldType)).before args0 about1 = true := code_word (m := ⟨2, 0⟩) (meth := k2m0) (c := k2c0) (by decide +kernel) rfl rfl rfl (by decide +kernel)
set_option maxRecDepth 65536 in
theorem w_c2 : (Jvm.Cond.code ({ cls := "java/lang/Object", name := "<init>", desc := "()V" } : Jvm.MethodName) object_method_1_code (1 : Nat) (Option.none : Option Jvm.ClassFile.FieldType)).before args0 about1 = true := code_word (m := ⟨0, 0⟩) (meth := k0m0) (c := k0c0) (by decide +kernel) rfl rfl rfl (by decide +kernel)
set_option maxRecDepth 65536 in
theorem w_c3 : (Jvm.Cond.code ({ cls := "java/lang/Math", name := "max", desc := "(II)I" } : Jvm.MethodName) jdk_29_method_65_code (2 : Nat) (Option.some Jvm.ClassFile.FieldType.int)).before args0 about1 = true := code_word (m := ⟨3, 2⟩) (meth := k3m2) (c := k3c2) (by decide +kernel) rfl rfl rfl (by decide +kernel)
set_option maxRecDepth 65536 in
theorem w_c4 : (Jvm.Cond.code ({ cls := "java/lang/Math", name := "multiplyExact", desc := "(II)I" } : Jvm.MethodName) jdk_29_method_28_code (4 : Nat) (Option.some Jvm.ClassFile.FieldType.int)).before args0 about1 = true := code_word (m := ⟨3, 1⟩) (meth := k3m1) (c := k3c1) (by decide +kernel) rfl rfl rfl (by decide +kernel)
set_option maxRecDepth 65536 in
theorem w_c5 : (Jvm.Cond.code ({ cls := "com/example/twigwright/twigwright/PathNodeSets", name := "add", desc := "(II)V" } : Jvm.MethodName) prog_23_method_3_code (3 : Nat) (Option.none : Option Jvm.ClassFile.FieldType)).before args0 about1 = true := code_word (m := ⟨2, 2⟩) (meth := k2m2) (c := k2c2) (by decide +kernel) rfl rfl rfl (by decide +kernel)
set_option maxRecDepth 65536 in
theorem w_c6 : (Jvm.Cond.code ({ cls := "com/example/twigwright/twigwright/PathNodeSets", name := "retainAll", desc := "(ILcom/example/twigwright/twigwright/PathNodeSets;I)V" } : Jvm.MethodName) prog_23_method_6_code (5 : Nat) (Option.none : Option Jvm.ClassFile.FieldType)).before args0 about1 = true := code_word (m := ⟨2, 3⟩) (meth := k2m3) (c := k2c3) (by decide +kernel) rfl rfl rfl (by decide +kernel)
set_option maxRecDepth 65536 in
theorem w_c7 : (Jvm.Cond.code ({ cls := "com/example/twigwright/twigwright/PathNodeSets", name := "contains", desc := "(II)Z" } : Jvm.MethodName) prog_23_method_2_code (3 : Nat) (Option.some Jvm.ClassFile.FieldType.boolean)).before args0 about1 = true := code_word (m := ⟨2, 1⟩) (meth := k2m1) (c := k2c1) (by decide +kernel) rfl rfl rfl (by decide +kernel)
def codes1 : List Jvm.Cond := [Jvm.Cond.code x code maxLocals ret, Jvm.Cond.code ({ cls := "com/example/twigwright/twigwright/PathNodeSets", name := "<init>", desc := "(II)V" } : Jvm.MethodName) prog_23_method_1_code (3 : Nat) (Option.none : Option Jvm.ClassFile.FieldType), Jvm.Cond.code ({ cls := "java/lang/Object", name := "<init>", desc := "()V" } : Jvm.MethodName) object_method_1_code (1 : Nat) (Option.none : Option Jvm.ClassFile.FieldType), Jvm.Cond.code ({ cls := "java/lang/Math", name := "max", desc := "(II)I" } : Jvm.MethodName) jdk_29_method_65_code (2 : Nat) (Option.some Jvm.ClassFile.FieldType.int), Jvm.Cond.code ({ cls := "java/lang/Math", name := "multiplyExact", desc := "(II)I" } : Jvm.MethodName) jdk_29_method_28_code (4 : Nat) (Option.some Jvm.ClassFile.FieldType.int), Jvm.Cond.code ({ cls := "com/example/twigwright/twigwright/PathNodeSets", name := "add", desc := "(II)V" } : Jvm.MethodName) prog_23_method_3_code (3 : Nat) (Option.none : Option Jvm.ClassFile.FieldType), Jvm.Cond.code ({ cls := "com/example/twigwright/twigwright/PathNodeSets", name := "retainAll", desc := "(ILcom/example/twigwright/twigwright/PathNodeSets;I)V" } : Jvm.MethodName) prog_23_method_6_code (5 : Nat) (Option.none : Option Jvm.ClassFile.FieldType), Jvm.Cond.code ({ cls := "com/example/twigwright/twigwright/PathNodeSets", name := "contains", desc := "(II)Z" } : Jvm.MethodName) prog_23_method_2_code (3 : Nat) (Option.some Jvm.ClassFile.FieldType.boolean)]
set_option maxRecDepth 65536 in
theorem codes_eq : words1.filter isCode = codes1 := rfl
theorem w_codes : ∀ c ∈ words1.filter isCode, c.before args0 about1 = true := by
  rw [codes_eq]
  intro c hc
  simp only [codes1, List.mem_cons, List.not_mem_nil, or_false] at hc
  rcases hc with rfl | rfl | rfl | rfl | rfl | rfl | rfl | rfl
  · exact w_c0
  · exact w_c1
  · exact w_c2
  · exact w_c3
  · exact w_c4
  · exact w_c5
  · exact w_c6
  · exact w_c7
set_option maxRecDepth 65536 in
theorem w_t1 : (words1.take 24).all (fun c => isCode c || c.before args0 about1) = true := by decide +kernel
set_option maxRecDepth 65536 in
theorem w_t2 : (words1.drop 24).all (fun c => isCode c || c.before args0 about1) = true := by decide +kernel
theorem w_tables : (allAtoms (Jvm.Cond.code x code maxLocals ret :: tables_1)).before args0 about1 = true := by
  rw [allAtoms_all]
  show words1.all (fun c => c.before args0 about1) = true
  refine all_split ?_ w_codes
  rw [← List.take_append_drop 24 words1, List.all_append, w_t1, w_t2]
  rfl
set_option maxRecDepth 65536 in
theorem w_case : (Jvm.Cond.and given_1 narrow_1).before args0 about1 = true := by decide +kernel
theorem w_applies : (headSpec (Jvm.Cond.code x code maxLocals ret :: tables_1) room_1).applies x e0.platform about1 = true :=
  (Spec.applies_iff w_frames).mpr ⟨w_running, w_runnable, w_alone, w_named, w_hears, w_ripe, w_room, w_tables⟩
theorem atStart : AtStart classFile x code maxLocals ret World_1 tables_1 room_1 Calls_1 rest_1 Pre_1 launch0 p0 e0 about1 theMethod args0 below0 :=
  ⟨lists_1, trivial, launch0.admits_env _ _ _, launch0.least_env, fairChoices_fair.cas, fairChoices_fair.clock, w_frames, w_args, w_heap, w_applies, trivial, trivial, w_case⟩
end start1
theorem witness_1 : WitnessClaimed_1 := ⟨start1.p0, start1.e0, start1.about1, start1.theMethod, start1.args0, start1.below0, start1.atStart⟩
end Jvm.Pilot.@@N@@
