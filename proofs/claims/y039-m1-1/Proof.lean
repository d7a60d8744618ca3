import JvmDerived
import JvmDerived.Pilot.@@N@@Statement
import JvmDerived.Pilot.@@N@@Code
set_option linter.unusedVariables false
set_option linter.unusedSimpArgs false

namespace Jvm.Pilot.@@N@@
open Jvm Jvm.ClassFile Sem Op Lib Jvm.Free Jvm.Stand Jvm.LawKit Jvm.RoadKit Bundle Jvm.Pilot.@@N@@.Jvm.D

section OwnKit
variable {p : Program} {l : Launch} {e : Env} {R : Room} {s : State} {m : MethodId} {args : Array Value} {below : List Frame} {meth : Method} {c : Code} {T : State} {locs : List Loc} {cells slots : Nat} {G : Outcome → State → Prop} {Q : Option Value → Heap → List Loc → Prop} {C S : Nat} {Z : State} {h h' : Heap}
/-- from the state t the invocation comes to an end of which G holds -/
def own_Fin (p : Program) (e : Env) (below : List Frame) (G : Outcome → State → Prop) (t : State) : Prop := ∃ s₂ o, Steps p.tables e below t s₂ ∧ s₂.status = .running ∧ Ended s₂ below o ∧ G o s₂
def own_G (s : State) (Q : Option Value → Heap → List Loc → Prop) (C S : Nat) (o : Outcome) (U' : State) : Prop := ∃ v L, o = .returned v ∧ Q v U'.heap L ∧ FrameEnd s o U' L C S
theorem own_to {t u : State} (h : ∀ z, Steps p.tables e below u z → Steps p.tables e below t z) (k : own_Fin p e below G u) : own_Fin p e below G t := by
  obtain ⟨a, b, c, d⟩ := k; exact ⟨a, b, h _ c, d⟩
theorem own_via {t u : State} (h : Steps p.tables e below t u) (k : own_Fin p e below G u) : own_Fin p e below G t := own_to (fun _ kz => h.trans kz) k
theorem own_retW (X : Stand p l e R s m args below meth c T locs cells slots) (hx : p.tables.exec = Jvm.exec) (hlk : meth.locks = false) (hG : G = own_G s Q C S) {f : JFrame} {w : Option Value} (hv : meth.sig.returnType = none → w = none)
    (st : ∀ fs, (∀ (f : JFrame) (acts : List Action), f.method = m → f.locked = none → f.entered = [] → (doReturn e (T.setTop f) acts w).1 = T.setFrames fs) → Steps p.tables e below (T.setTop f) (T.setFrames fs))
    (hc : cells ≤ C) (hs : slots ≤ S) (hQ : Q w T.heap locs) : own_Fin p e below G (T.setTop f) := by
  subst hG
  obtain ⟨fs, hr, hrun, hended, hW, hsame⟩ := X.leave (v := w) hv hlk
  exact ⟨_, _, st fs hr, hrun, hended, _, _, rfl, hQ, ⟨_, rfl⟩, hW, hsame.mono hc hs⟩
theorem own_retI (X : Stand p l e R s m args below meth c T locs cells slots) (hx : p.tables.exec = Jvm.exec) (hlk : meth.locks = false) (hG : G = own_G s Q C S) {pc : Nat} {Ls : Array Slot} {z : Int32} {rest : List Value} (hret : meth.sig.returnType = some .int) (hd : decode c.code pc = .ok (.ireturn, 1))
    (hc : cells ≤ C) (hs : slots ≤ S) (hQ : Q (some (.int z)) T.heap locs) : own_Fin p e below G (T.setTop (mkF m pc Ls (.int z :: rest))) :=
  own_retW X hx hlk hG (w := some (.int z)) (fun h => by rw [hret] at h; cases h) (fun fs hr => retOut X hx hret rfl (Or.inl ⟨rfl, Or.inl rfl, z, rfl⟩) hd hr) hc hs hQ
theorem own_retJ (X : Stand p l e R s m args below meth c T locs cells slots) (hx : p.tables.exec = Jvm.exec) (hlk : meth.locks = false) (hG : G = own_G s Q C S) {pc : Nat} {Ls : Array Slot} {z : Int64} {rest : List Value} (hret : meth.sig.returnType = some .long) (hd : decode c.code pc = .ok (.lreturn, 1))
    (hc : cells ≤ C) (hs : slots ≤ S) (hQ : Q (some (.long z)) T.heap locs) : own_Fin p e below G (T.setTop (mkF m pc Ls (.long z :: rest))) :=
  own_retW X hx hlk hG (w := some (.long z)) (fun h => by rw [hret] at h; cases h) (fun fs hr => retOut X hx hret rfl (Or.inr (Or.inl ⟨rfl, rfl, z, rfl⟩)) hd hr) hc hs hQ
theorem own_retA (X : Stand p l e R s m args below meth c T locs cells slots) (hx : p.tables.exec = Jvm.exec) (hlk : meth.locks = false) (hG : G = own_G s Q C S) {pc : Nat} {Ls : Array Slot} {w : Value} {rest : List Value} {t : FieldType} (hret : meth.sig.returnType = some t) (ht : t.isReference = true) (hw : w.isRef = true) (hd : decode c.code pc = .ok (.areturn, 1))
    (hc : cells ≤ C) (hs : slots ≤ S) (hQ : Q (some w) T.heap locs) : own_Fin p e below G (T.setTop (mkF m pc Ls (w :: rest))) :=
  own_retW X hx hlk hG (w := some w) (fun h => by rw [hret] at h; cases h) (fun fs hr => retOut X hx hret (by rcases ref_cases hw with rfl | ⟨a, rfl⟩ <;> cases t <;> first | rfl | (simp [FieldType.isReference] at ht)) (Or.inr (Or.inr (Or.inr (Or.inr ⟨rfl, ht, hw⟩)))) hd hr) hc hs hQ
theorem own_retN (X : Stand p l e R s m args below meth c T locs cells slots) (hx : p.tables.exec = Jvm.exec) (hlk : meth.locks = false) (hG : G = own_G s Q C S) {pc : Nat} {Ls : Array Slot} {z : Int32} {rest : List Value} {t : FieldType} (hret : meth.sig.returnType = some t) (ht : t = .boolean ∨ t = .byte ∨ t = .char ∨ t = .short) (hd : decode c.code pc = .ok (.ireturn, 1))
    (hc : cells ≤ C) (hs : slots ≤ S) (hQ : Q (some (.int (nar t z))) T.heap locs) : own_Fin p e below G (T.setTop (mkF m pc Ls (.int z :: rest))) :=
  own_retW X hx hlk hG (w := some (.int (nar t z))) (fun h => by rw [hret] at h; cases h) (fun fs hr => retN X hx hret ht hd hr) hc hs hQ
theorem own_retV (X : Stand p l e R s m args below meth c T locs cells slots) (hx : p.tables.exec = Jvm.exec) (hlk : meth.locks = false) (hG : G = own_G s Q C S) {pc : Nat} {Ls : Array Slot} (hret : meth.sig.returnType = none) (hd : decode c.code pc = .ok (.return_, 1))
    (hc : cells ≤ C) (hs : slots ≤ S) (hQ : Q none T.heap locs) : own_Fin p e below G (T.setTop (mkF m pc Ls [])) :=
  own_retW X hx hlk hG (w := none) (fun _ => rfl) (fun fs hr => X.returnOut hx hret hd hr) hc hs hQ
theorem own_lrem {g : JFrame} {target : State} (X : Stand p l e R s m args below meth c T locs cells slots) (hx : p.tables.exec = Jvm.exec) (hg : g.method = m) {x y : Int64} {rest : List Value} (hd : decode c.code g.pc = .ok (.lrem, 1)) (hs : g.stack = .long y :: .long x :: rest) (hy : y ≠ 0)
    (hr : Steps p.tables e below (T.setTop { g with pc := g.pc + 1, stack := .long (x % y) :: rest }) target) : Steps p.tables e below (T.setTop g) target := by
  have q : x - x / y * y = x % y := lrem_mod x y
  exact XS.lrem X.here hx hg hd hs hy (by rw [q]; exact hr)
def own_Pair (a b : Slot) : Prop := (a = .unset ∧ b = .unset) ∨ ∃ x, a = .val (.long x) ∧ b = .second
/-- the array at a has n places; place i holds mk (f i) -/
def own_AV {α : Type} (mk : α → Value) (Z : State) (h : Heap) (a : Addr) (ty : FieldType) (n : Nat) (f : Nat → α) : Prop := n < 2 ^ 31 ∧ ∃ c : Cell, Arr Z h a c ty ∧ c.slots.size = n ∧ ∀ i, i < n → c.slots[i]? = some (mk (f i))
def own_upd {α : Type} (f : Nat → α) (k : Nat) (v : α) : Nat → α := fun i => if i = k then v else f i
section
variable {α : Type} {mk : α → Value} {a b : Addr} {ty : FieldType} {n : Nat} {f f' : Nat → α} {ws : List Addr} {sl : Nat} {v : Value}
theorem own_AV.lt (F : own_AV mk Z h a ty n f) : a < h.size := by obtain ⟨_, c, A, -⟩ := F; exact A.lt
theorem own_AV.ext (F : own_AV mk Z h a ty n f) (E : Ext h h') : own_AV mk Z h' a ty n f := by obtain ⟨q, c, A, r⟩ := F; exact ⟨q, c, A.ext E, r⟩
theorem own_AV.other (F : own_AV mk Z h b ty n f) (W : Wr h h' a sl v) (q : b ≠ a) : own_AV mk Z h' b ty n f := by obtain ⟨q', c, A, r⟩ := F; exact ⟨q', c, A.other W q, r⟩
theorem own_AV.keep (F : own_AV mk Z h a ty n f) (K : Keep h h' ws) (q : a ∉ ws) : own_AV mk Z h' a ty n f := by obtain ⟨q', c, A, r⟩ := F; exact ⟨q', c, ⟨K.2.1 a c A.1 q, A.2⟩, r⟩
theorem own_AV.congr (F : own_AV mk Z h a ty n f) (q : ∀ i, i < n → f i = f' i) : own_AV mk Z h a ty n f' := by obtain ⟨q', c, A, r, s⟩ := F; exact ⟨q', c, A, r, fun i hi => by rw [s i hi, q i hi]⟩
theorem own_AV.new {k : ClassId} {z : Int32} (A : Arr Z h a (newA k ty z) ty) (q : ¬ z < 0) (hn : z.toNatClampNeg = n) (hf : ∀ i : Nat, defaultValue ty = mk (f i)) : own_AV mk Z h a ty n f := by
  refine ⟨hn ▸ (back32 q).2, _, A, (sz_new _ _ _).trans hn, fun i hi => ?_⟩
  rw [← hf i]; simp [newA, hn, hi]
theorem own_updr {P : α → Prop} {k : Nat} {w : α} (hv : P w) (hf : ∀ i, P (f i)) : ∀ i, P (own_upd f k w i) := fun i => by
  unfold own_upd; split
  · exact hv
  · exact hf i
theorem own_in {c : Cell} {j : Int32} {k : Nat} (S : c.slots.size = n) (hj : ¬ j < 0) (hk : j.toNatClampNeg = k) (hlt : k < n) : ¬ (j < 0 ∨ c.slots.size ≤ j.toNatClampNeg) := fun q => q.elim hj fun r => by omega
theorem own_AV.set {c : Cell} {j : Int32} {k : Nat} {w : α} (nn : n < 2 ^ 31) (A : Arr Z h a c ty) (S : c.slots.size = n) (H : ∀ i, i < n → c.slots[i]? = some (mk (f i))) (W : Wr h h' a j.toNatClampNeg (mk w)) (hk : j.toNatClampNeg = k) : own_AV mk Z h' a ty n (own_upd f k w) := by
  subst hk
  refine ⟨nn, _, A.same W, by rw [sz_set]; exact S, fun i hi => ?_⟩
  show (c.setSlot j.toNatClampNeg (mk w)).slots[i]? = some (mk (if i = j.toNatClampNeg then w else f i))
  simp only [Cell.setSlot]
  by_cases q : i = j.toNatClampNeg
  · subst q; rw [if_pos rfl]; simp [S, hi]
  · rw [if_neg q, Array.getElem?_setIfInBounds_ne (fun r => q r.symm)]; exact H i hi
theorem own_iaload (X : Stand p l e R s m args below meth c T locs cells slots) (hx : p.tables.exec = Jvm.exec) (hZ : Z.Warmed39 s.vm) (eT : T.heap = h) {f : Nat → Int32} (F : own_AV Value.int Z h a .int n f) {j : Int32} {k : Nat} (hj : ¬ j < 0) (hk : j.toNatClampNeg = k) (hlt : k < n)
    {g : JFrame} (hg : g.method = m) {rest : List Value} (hs : g.stack = .int j :: .ref a :: rest) (hd : decode c.code g.pc = .ok (.iaload, 1)) {target : State} (hr : Steps p.tables e below (T.setTop { g with pc := g.pc + 1, stack := .int (f k) :: rest }) target) : Steps p.tables e below (T.setTop g) target := by
  obtain ⟨_, cl, A, S, H⟩ := F
  exact X.iaload hx (j := j) (v := .int (f k)) (by rw [eT]; exact A.1) (State.isArrayOf_alike hZ.alike A.2.1) A.2.2 (own_in S hj hk hlt) (by rw [hk]; exact H k hlt) hg hs hd _ hr
theorem own_laload (X : Stand p l e R s m args below meth c T locs cells slots) (hx : p.tables.exec = Jvm.exec) (hZ : Z.Warmed39 s.vm) (eT : T.heap = h) {f : Nat → Int64} (F : own_AV Value.long Z h a .long n f) {j : Int32} {k : Nat} (hj : ¬ j < 0) (hk : j.toNatClampNeg = k) (hlt : k < n)
    {g : JFrame} (hg : g.method = m) {rest : List Value} (hs : g.stack = .int j :: .ref a :: rest) (hd : decode c.code g.pc = .ok (.laload, 1)) {target : State} (hr : Steps p.tables e below (T.setTop { g with pc := g.pc + 1, stack := .long (f k) :: rest }) target) : Steps p.tables e below (T.setTop g) target := by
  obtain ⟨_, cl, A, S, H⟩ := F
  exact X.laload hx (j := j) (v := .long (f k)) (by rw [eT]; exact A.1) (State.isArrayOf_alike hZ.alike A.2.1) A.2.2 (own_in S hj hk hlt) (by rw [hk]; exact H k hlt) hg hs hd _ hr
theorem own_baload (X : Stand p l e R s m args below meth c T locs cells slots) (hx : p.tables.exec = Jvm.exec) (hZ : Z.Warmed39 s.vm) (eT : T.heap = h) {f : Nat → Int32} (F : own_AV Value.int Z h a .byte n f) {j : Int32} {k : Nat} (hj : ¬ j < 0) (hk : j.toNatClampNeg = k) (hlt : k < n)
    {g : JFrame} (hg : g.method = m) {rest : List Value} (hs : g.stack = .int j :: .ref a :: rest) (hd : decode c.code g.pc = .ok (.baload, 1)) {target : State} (hr : Steps p.tables e below (T.setTop { g with pc := g.pc + 1, stack := .int (f k) :: rest }) target) : Steps p.tables e below (T.setTop g) target := by
  obtain ⟨_, cl, A, S, H⟩ := F
  exact X.baloadBytes hx (j := j) (v := .int (f k)) (by rw [eT]; exact A.1) (State.isArrayOf_alike hZ.alike A.2.1) A.2.2 (own_in S hj hk hlt) (by rw [hk]; exact H k hlt) hg hs hd _ hr
theorem own_cloneI (X : Stand p l e R s m args below meth c T locs cells slots) (hx : p.tables.exec = Jvm.exec) (hZ : Z.Warmed39 s.vm) {a0 : Array Value} {own ad : String} {index : Nat} (hown : s.vm.findClass own = some m.cls)
    (w1 : (Cond.methodLink own index ⟨ad, "clone", "()Ljava/lang/Object;"⟩).before a0 Z = true) (w2 : (Cond.sameMethod ad "java/lang/Object" "clone" "()Ljava/lang/Object;").before a0 Z = true) (w3 : (Cond.native ⟨"java/lang/Object", "clone", "()Ljava/lang/Object;"⟩).before a0 Z = true)
    (w4 : (Cond.instanceMethod ⟨"java/lang/Object", "clone", "()Ljava/lang/Object;"⟩).before a0 Z = true) (w5 : (Cond.selects ad ⟨ad, "clone", "()Ljava/lang/Object;"⟩ ⟨"java/lang/Object", "clone", "()Ljava/lang/Object;"⟩).before a0 Z = true) (w6 : (Cond.castable ad "java/lang/Cloneable").before a0 Z = true)
    (eT : T.heap = h) {f : Nat → Int32} (F : own_AV Value.int Z h a .int n f) (E : Exa Z h a ad) {g : JFrame} (hg : g.method = m) (hsize : g.locals.size = c.maxLocals) {rest : List Value} (hs : g.stack = .ref a :: rest) (hd : decode c.code g.pc = .ok (.invokevirtual index, 3))
    (hf : 1 ≤ R.frames) {W cap : Nat} (hW : 2 * g.monitorRoom + (rest.map fun v => v.category).sum ≤ W) (hl : W + 14 ≤ R.locals) (hcap : n ≤ cap) (hc : cells + 1 ≤ R.cells) (hsl : slots + cap ≤ R.slots) :
    ∃ T' h', Stand p l e R s m args below meth c T' locs (cells + 1) (slots + cap) ∧ T'.heap = h' ∧ Ext h h' ∧ own_AV Value.int Z h' h.size .int n f ∧ Exa Z h' h.size ad ∧
      ∀ target, Steps p.tables e below (T'.setTop { g with pc := g.pc + 3, stack := .ref h.size :: rest }) target → Steps p.tables e below (T.setTop g) target := by
  obtain ⟨nn, cl, A, S, H⟩ := F
  have FC : FitC Z cl := fitC_of A fun i hi v hv => by rw [H i (S ▸ hi)] at hv; cases hv; rfl
  obtain ⟨T', h', X', e', ex, A', E', st⟩ := cloneA X hx hZ hown w1 w2 w3 w4 w5 w6 eT A E FC hg hsize hs hd hf hW hl (by rw [S]; exact hcap) hc hsl
  exact ⟨T', h', X', e', ex, ⟨nn, cloneOf cl, A', S, H⟩, E', st⟩
theorem own_alen (X : Stand p l e R s m args below meth c T locs cells slots) (hx : p.tables.exec = Jvm.exec) (hZ : Z.Warmed39 s.vm) (eT : T.heap = h) (F : own_AV mk Z h a ty n f) {z : Int32} (hz : n.toInt32 = z)
    {g : JFrame} (hg : g.method = m) {rest : List Value} (hs : g.stack = .ref a :: rest) (hd : decode c.code g.pc = .ok (.arraylength, 1)) {target : State} (hr : Steps p.tables e below (T.setTop { g with pc := g.pc + 1, stack := .int z :: rest }) target) : Steps p.tables e below (T.setTop g) target := by
  obtain ⟨_, cl, A, S, H⟩ := F
  exact X.arraylength hx (by rw [eT]; exact A.1) (State.isArrayOf_alike hZ.alike A.2.1) hg hs hd _ (by rw [S, hz]; exact hr)
end
end OwnKit
def own_sum (f : Nat → Int64) : Nat → Int64
  | 0 => 0
  | k + 1 => own_sum f k + f k
theorem own_z32 : (0 : Int32).toInt = 0 := by decide
theorem own_nneg {i : Int32} (h : 0 ≤ i.toInt) : ¬ i < 0 := by rw [Int32.lt_iff_toInt_lt, own_z32]; omega
theorem own_natc {i : Int32} (h : 0 ≤ i.toInt) : (i.toNatClampNeg : Int) = i.toInt := (nat_of (own_nneg h)).symm
theorem own_ofNat {n : Nat} (h : n < 2 ^ 31) : (Int32.ofNat n).toInt = n := Int32.toInt_ofNat_of_lt h
theorem own_inc {i : Int32} {n : Nat} (hn : n < 2 ^ 31) (h : 0 ≤ i.toInt) (h2 : i.toInt < n) : (i + (1 : Int32)).toInt = i.toInt + 1 := by
  have e := c_iadd i 1; have r := rng32 (i + 1); have o : (1 : Int32).toInt = 1 := by decide
  omega
/-- a turn more: i + 1, the place i -/
theorem own_up {i : Int32} {n : Nat} (hn : n < 2 ^ 31) (hi : 0 ≤ i.toInt ∧ i.toInt ≤ n) (hc : i < Int32.ofNat n) :
    (0 ≤ (i + (1 : Int32)).toInt ∧ (i + (1 : Int32)).toInt ≤ n) ∧ (¬ i < 0 ∧ i.toNatClampNeg < n) ∧ (i + (1 : Int32)).toNatClampNeg = i.toNatClampNeg + 1 := by
  rw [Int32.lt_iff_toInt_lt, own_ofNat hn] at hc
  have e := own_inc hn hi.1 hc
  have a := own_natc hi.1
  have b := own_natc (i := i + 1) (by omega)
  exact ⟨by omega, ⟨own_nneg hi.1, by omega⟩, by omega⟩
theorem own_dec {i : Int32} {n k : Nat} (hn : n < 2 ^ 31) (hi : 0 ≤ i.toInt ∧ i.toInt ≤ n) (hc : i < Int32.ofNat n) (hm : n - i.toNatClampNeg = k) : n - (i + (1 : Int32)).toNatClampNeg < k := by
  have h := own_up hn hi hc
  omega
theorem own_last {i : Int32} {n : Nat} (hn : n < 2 ^ 31) (hi : 0 ≤ i.toInt ∧ i.toInt ≤ n) (hc : ¬ i < Int32.ofNat n) : i.toNatClampNeg = n := by
  rw [Int32.lt_iff_toInt_lt, own_ofNat hn] at hc
  have a := own_natc hi.1
  omega

theorem own_pn0 : plainName "com/example/tabularium/tabularium/io/XmlDocuments" = true := by first | (simp [plainName, overriddenIn]; done) | decide +kernel
theorem d1_0 : decode prog_48_method_11_code 0 = .ok (.iload_n 0, 1) := by decide +kernel
theorem d1_1 : decode prog_48_method_11_code 1 = .ok (.bipush 58, 2) := by decide +kernel
theorem d1_3 : decode prog_48_method_11_code 3 = .ok (.if_icmp .eq 194, 3) := by decide +kernel
theorem d1_6 : decode prog_48_method_11_code 6 = .ok (.iload_n 0, 1) := by decide +kernel
theorem d1_7 : decode prog_48_method_11_code 7 = .ok (.bipush 65, 2) := by decide +kernel
theorem d1_9 : decode prog_48_method_11_code 9 = .ok (.if_icmp .lt 9, 3) := by decide +kernel
theorem d1_12 : decode prog_48_method_11_code 12 = .ok (.iload_n 0, 1) := by decide +kernel
theorem d1_13 : decode prog_48_method_11_code 13 = .ok (.bipush 90, 2) := by decide +kernel
theorem d1_15 : decode prog_48_method_11_code 15 = .ok (.if_icmp .le 182, 3) := by decide +kernel
theorem d1_18 : decode prog_48_method_11_code 18 = .ok (.iload_n 0, 1) := by decide +kernel
theorem d1_19 : decode prog_48_method_11_code 19 = .ok (.bipush 95, 2) := by decide +kernel
theorem d1_21 : decode prog_48_method_11_code 21 = .ok (.if_icmp .eq 176, 3) := by decide +kernel
theorem d1_24 : decode prog_48_method_11_code 24 = .ok (.iload_n 0, 1) := by decide +kernel
theorem d1_25 : decode prog_48_method_11_code 25 = .ok (.bipush 97, 2) := by decide +kernel
theorem d1_27 : decode prog_48_method_11_code 27 = .ok (.if_icmp .lt 9, 3) := by decide +kernel
theorem d1_30 : decode prog_48_method_11_code 30 = .ok (.iload_n 0, 1) := by decide +kernel
theorem d1_31 : decode prog_48_method_11_code 31 = .ok (.bipush 122, 2) := by decide +kernel
theorem d1_33 : decode prog_48_method_11_code 33 = .ok (.if_icmp .le 164, 3) := by decide +kernel
theorem d1_36 : decode prog_48_method_11_code 36 = .ok (.iload_n 0, 1) := by decide +kernel
theorem d1_37 : decode prog_48_method_11_code 37 = .ok (.sipush 192, 3) := by decide +kernel
theorem d1_40 : decode prog_48_method_11_code 40 = .ok (.if_icmp .lt 10, 3) := by decide +kernel
theorem d1_43 : decode prog_48_method_11_code 43 = .ok (.iload_n 0, 1) := by decide +kernel
theorem d1_44 : decode prog_48_method_11_code 44 = .ok (.sipush 214, 3) := by decide +kernel
theorem d1_47 : decode prog_48_method_11_code 47 = .ok (.if_icmp .le 150, 3) := by decide +kernel
theorem d1_50 : decode prog_48_method_11_code 50 = .ok (.iload_n 0, 1) := by decide +kernel
theorem d1_51 : decode prog_48_method_11_code 51 = .ok (.sipush 216, 3) := by decide +kernel
theorem d1_54 : decode prog_48_method_11_code 54 = .ok (.if_icmp .lt 10, 3) := by decide +kernel
theorem d1_57 : decode prog_48_method_11_code 57 = .ok (.iload_n 0, 1) := by decide +kernel
theorem d1_58 : decode prog_48_method_11_code 58 = .ok (.sipush 246, 3) := by decide +kernel
theorem d1_61 : decode prog_48_method_11_code 61 = .ok (.if_icmp .le 136, 3) := by decide +kernel
theorem d1_64 : decode prog_48_method_11_code 64 = .ok (.iload_n 0, 1) := by decide +kernel
theorem d1_65 : decode prog_48_method_11_code 65 = .ok (.sipush 248, 3) := by decide +kernel
theorem d1_68 : decode prog_48_method_11_code 68 = .ok (.if_icmp .lt 10, 3) := by decide +kernel
theorem d1_71 : decode prog_48_method_11_code 71 = .ok (.iload_n 0, 1) := by decide +kernel
theorem d1_72 : decode prog_48_method_11_code 72 = .ok (.sipush 767, 3) := by decide +kernel
theorem d1_75 : decode prog_48_method_11_code 75 = .ok (.if_icmp .le 122, 3) := by decide +kernel
theorem d1_78 : decode prog_48_method_11_code 78 = .ok (.iload_n 0, 1) := by decide +kernel
theorem d1_79 : decode prog_48_method_11_code 79 = .ok (.sipush 880, 3) := by decide +kernel
theorem d1_82 : decode prog_48_method_11_code 82 = .ok (.if_icmp .lt 10, 3) := by decide +kernel
theorem d1_85 : decode prog_48_method_11_code 85 = .ok (.iload_n 0, 1) := by decide +kernel
theorem d1_86 : decode prog_48_method_11_code 86 = .ok (.sipush 893, 3) := by decide +kernel
theorem d1_89 : decode prog_48_method_11_code 89 = .ok (.if_icmp .le 108, 3) := by decide +kernel
theorem d1_92 : decode prog_48_method_11_code 92 = .ok (.iload_n 0, 1) := by decide +kernel
theorem d1_93 : decode prog_48_method_11_code 93 = .ok (.sipush 895, 3) := by decide +kernel
theorem d1_96 : decode prog_48_method_11_code 96 = .ok (.if_icmp .lt 10, 3) := by decide +kernel
theorem d1_99 : decode prog_48_method_11_code 99 = .ok (.iload_n 0, 1) := by decide +kernel
theorem d1_100 : decode prog_48_method_11_code 100 = .ok (.sipush 8191, 3) := by decide +kernel
theorem d1_103 : decode prog_48_method_11_code 103 = .ok (.if_icmp .le 94, 3) := by decide +kernel
theorem d1_106 : decode prog_48_method_11_code 106 = .ok (.iload_n 0, 1) := by decide +kernel
theorem d1_107 : decode prog_48_method_11_code 107 = .ok (.sipush 8204, 3) := by decide +kernel
theorem d1_110 : decode prog_48_method_11_code 110 = .ok (.if_icmp .lt 10, 3) := by decide +kernel
theorem d1_113 : decode prog_48_method_11_code 113 = .ok (.iload_n 0, 1) := by decide +kernel
theorem d1_114 : decode prog_48_method_11_code 114 = .ok (.sipush 8205, 3) := by decide +kernel
theorem d1_117 : decode prog_48_method_11_code 117 = .ok (.if_icmp .le 80, 3) := by decide +kernel
theorem d1_120 : decode prog_48_method_11_code 120 = .ok (.iload_n 0, 1) := by decide +kernel
theorem d1_121 : decode prog_48_method_11_code 121 = .ok (.sipush 8304, 3) := by decide +kernel
theorem d1_124 : decode prog_48_method_11_code 124 = .ok (.if_icmp .lt 10, 3) := by decide +kernel
theorem d1_127 : decode prog_48_method_11_code 127 = .ok (.iload_n 0, 1) := by decide +kernel
theorem d1_128 : decode prog_48_method_11_code 128 = .ok (.sipush 8591, 3) := by decide +kernel
theorem d1_131 : decode prog_48_method_11_code 131 = .ok (.if_icmp .le 66, 3) := by decide +kernel
theorem d1_134 : decode prog_48_method_11_code 134 = .ok (.iload_n 0, 1) := by decide +kernel
theorem d1_135 : decode prog_48_method_11_code 135 = .ok (.sipush 11264, 3) := by decide +kernel
theorem d1_138 : decode prog_48_method_11_code 138 = .ok (.if_icmp .lt 10, 3) := by decide +kernel
theorem d1_141 : decode prog_48_method_11_code 141 = .ok (.iload_n 0, 1) := by decide +kernel
theorem d1_142 : decode prog_48_method_11_code 142 = .ok (.sipush 12271, 3) := by decide +kernel
theorem d1_145 : decode prog_48_method_11_code 145 = .ok (.if_icmp .le 52, 3) := by decide +kernel
theorem d1_148 : decode prog_48_method_11_code 148 = .ok (.iload_n 0, 1) := by decide +kernel
theorem d1_149 : decode prog_48_method_11_code 149 = .ok (.sipush 12289, 3) := by decide +kernel
theorem d1_152 : decode prog_48_method_11_code 152 = .ok (.if_icmp .lt 9, 3) := by decide +kernel
theorem d1_155 : decode prog_48_method_11_code 155 = .ok (.iload_n 0, 1) := by decide +kernel
theorem d1_156 : decode prog_48_method_11_code 156 = .ok (.ldc 164, 2) := by decide +kernel
theorem d1_158 : decode prog_48_method_11_code 158 = .ok (.if_icmp .le 39, 3) := by decide +kernel
theorem d1_161 : decode prog_48_method_11_code 161 = .ok (.iload_n 0, 1) := by decide +kernel
theorem d1_162 : decode prog_48_method_11_code 162 = .ok (.ldc 165, 2) := by decide +kernel
theorem d1_164 : decode prog_48_method_11_code 164 = .ok (.if_icmp .lt 9, 3) := by decide +kernel
theorem d1_167 : decode prog_48_method_11_code 167 = .ok (.iload_n 0, 1) := by decide +kernel
theorem d1_168 : decode prog_48_method_11_code 168 = .ok (.ldc 166, 2) := by decide +kernel
theorem d1_170 : decode prog_48_method_11_code 170 = .ok (.if_icmp .le 27, 3) := by decide +kernel
theorem d1_173 : decode prog_48_method_11_code 173 = .ok (.iload_n 0, 1) := by decide +kernel
theorem d1_174 : decode prog_48_method_11_code 174 = .ok (.ldc 167, 2) := by decide +kernel
theorem d1_176 : decode prog_48_method_11_code 176 = .ok (.if_icmp .lt 9, 3) := by decide +kernel
theorem d1_179 : decode prog_48_method_11_code 179 = .ok (.iload_n 0, 1) := by decide +kernel
theorem d1_180 : decode prog_48_method_11_code 180 = .ok (.ldc 168, 2) := by decide +kernel
theorem d1_182 : decode prog_48_method_11_code 182 = .ok (.if_icmp .le 15, 3) := by decide +kernel
theorem d1_185 : decode prog_48_method_11_code 185 = .ok (.iload_n 0, 1) := by decide +kernel
theorem d1_186 : decode prog_48_method_11_code 186 = .ok (.ldc 169, 2) := by decide +kernel
theorem d1_188 : decode prog_48_method_11_code 188 = .ok (.if_icmp .lt 13, 3) := by decide +kernel
theorem d1_191 : decode prog_48_method_11_code 191 = .ok (.iload_n 0, 1) := by decide +kernel
theorem d1_192 : decode prog_48_method_11_code 192 = .ok (.ldc 170, 2) := by decide +kernel
theorem d1_194 : decode prog_48_method_11_code 194 = .ok (.if_icmp .gt 7, 3) := by decide +kernel
theorem d1_197 : decode prog_48_method_11_code 197 = .ok (.iconst 1, 1) := by decide +kernel
theorem d1_198 : decode prog_48_method_11_code 198 = .ok (.goto 4, 3) := by decide +kernel
theorem d1_201 : decode prog_48_method_11_code 201 = .ok (.iconst 0, 1) := by decide +kernel
theorem d1_202 : decode prog_48_method_11_code 202 = .ok (.ireturn, 1) := by decide +kernel
theorem ef1 (m : MethodId) (p0 : Int32) : entryFrame m #[(.int p0)] 1 = mkF m 0 #[.val (.int p0)] [] := by first | (simp [entryFrame, mkF, argsToLocals, Value.category]; done) | rfl
def f1_201 (p0 : Int32) : Int32 := (0 : Int32)
def f1_197 (p0 : Int32) : Int32 := (1 : Int32)
def f1_185 (p0 : Int32) : Int32 := if p0 < (65536 : Int32) then (f1_201 p0) else if (983039 : Int32) < p0 then (f1_201 p0) else (f1_197 p0)
def f1_173 (p0 : Int32) : Int32 := if p0 < (65008 : Int32) then (f1_185 p0) else if (65533 : Int32) < p0 then (f1_185 p0) else (f1_197 p0)
def f1_161 (p0 : Int32) : Int32 := if p0 < (63744 : Int32) then (f1_173 p0) else if (64975 : Int32) < p0 then (f1_173 p0) else (f1_197 p0)
def f1_148 (p0 : Int32) : Int32 := if p0 < (12289 : Int32) then (f1_161 p0) else if (55295 : Int32) < p0 then (f1_161 p0) else (f1_197 p0)
def f1_134 (p0 : Int32) : Int32 := if p0 < (11264 : Int32) then (f1_148 p0) else if (12271 : Int32) < p0 then (f1_148 p0) else (f1_197 p0)
def f1_120 (p0 : Int32) : Int32 := if p0 < (8304 : Int32) then (f1_134 p0) else if (8591 : Int32) < p0 then (f1_134 p0) else (f1_197 p0)
def f1_106 (p0 : Int32) : Int32 := if p0 < (8204 : Int32) then (f1_120 p0) else if (8205 : Int32) < p0 then (f1_120 p0) else (f1_197 p0)
def f1_92 (p0 : Int32) : Int32 := if p0 < (895 : Int32) then (f1_106 p0) else if (8191 : Int32) < p0 then (f1_106 p0) else (f1_197 p0)
def f1_78 (p0 : Int32) : Int32 := if p0 < (880 : Int32) then (f1_92 p0) else if (893 : Int32) < p0 then (f1_92 p0) else (f1_197 p0)
def f1_64 (p0 : Int32) : Int32 := if p0 < (248 : Int32) then (f1_78 p0) else if (767 : Int32) < p0 then (f1_78 p0) else (f1_197 p0)
def f1_50 (p0 : Int32) : Int32 := if p0 < (216 : Int32) then (f1_64 p0) else if (246 : Int32) < p0 then (f1_64 p0) else (f1_197 p0)
def f1_36 (p0 : Int32) : Int32 := if p0 < (192 : Int32) then (f1_50 p0) else if (214 : Int32) < p0 then (f1_50 p0) else (f1_197 p0)
def f1_18 (p0 : Int32) : Int32 := if p0 = (95 : Int32) then (f1_197 p0) else if p0 < (97 : Int32) then (f1_36 p0) else if (122 : Int32) < p0 then (f1_36 p0) else (f1_197 p0)
def f1 (p0 : Int32) : Int32 := if p0 = (58 : Int32) then (f1_197 p0) else if p0 < (65 : Int32) then (f1_18 p0) else if (90 : Int32) < p0 then (f1_18 p0) else (f1_197 p0)
def Q1 (Z : State) (p0 : Int32) (h0 : Heap) (n0 : Nat) (v : Option Value) (h : Heap) (L : List Loc) : Prop := v = some (.int (f1 p0)) ∧ Fr n0 L ∧ h = h0
set_option maxRecDepth 65536 in
set_option maxHeartbeats 40000000 in
theorem rm1 (l : Launch) (Z : State) (a0 : Array Value) (hw : ∀ d ∈ tables_1, d.before a0 Z = true) (ws : List Jvm.Cond) (p0 : Int32) (h0 : Heap) (n0 : Nat) (Z0 : n0 ≤ h0.size) :
    MetFree l (⟨"com/example/tabularium/tabularium/io/XmlDocuments", "isNameStart", "(I)Z"⟩ : MethodName) (head1 (Jvm.Cond.code (⟨"com/example/tabularium/tabularium/io/XmlDocuments", "isNameStart", "(I)Z"⟩ : MethodName) prog_48_method_11_code 1 (some .boolean) :: ws) ({ frames := 0, cells := 0, slots := 0, locals := 0 } : Room)) (fun a U => a = #[(.int p0)] ∧ Z.Warmed39 U.vm ∧ U.heap = h0) (fun _ _ _ _ _ => True) (fun _ U o U' => ∃ v L, o = .returned v ∧ Q1 Z p0 h0 n0 v U'.heap L ∧ FrameEnd U o U' L ({ frames := 0, cells := 0, slots := 0, locals := 0 } : Room).cells ({ frames := 0, cells := 0, slots := 0, locals := 0 } : Room).slots) := by
  refine MetFree.of_bodySF (plainFor_of_name own_pn0) hisR ?_
  intro p e s m args below meth c s₁ Bd hml0 hP hK
  obtain ⟨rfl, hZ, hh⟩ := hP
  have hx := Bd.exec
  have hby := Bd.bytes
  have hml : c.maxLocals = 1 := hml0
  have hown : s.vm.findClass "com/example/tabularium/tabularium/io/XmlDocuments" = some m.cls := findClass_of_methodNamed Bd.named
  have hnm := (name_of_methodNamed Bd.named Bd.method).1
  have hlk : meth.locks = false := BodyLoose.notSynchronized Bd
  have X0 : Stand p l e ({ frames := 0, cells := 0, slots := 0, locals := 0 } : Room) s m #[(.int p0)] below meth c s₁ [] 0 0 := Stand.of_body Bd
  have e0 : s₁.heap = h0 := by rw [← hh, Bd.state]; rfl
  have N0 := Fr.nil n0
  obtain ⟨G, hG⟩ : ∃ G, G = own_G s (Q1 Z p0 h0 n0) ({ frames := 0, cells := 0, slots := 0, locals := 0 } : Room).cells ({ frames := 0, cells := 0, slots := 0, locals := 0 } : Room).slots := ⟨_, rfl⟩
  show own_Fin p e below (own_G s (Q1 Z p0 h0 n0) ({ frames := 0, cells := 0, slots := 0, locals := 0 } : Room).cells ({ frames := 0, cells := 0, slots := 0, locals := 0 } : Room).slots) (s₁.setTop (entryFrame m #[(.int p0)] 1))
  rw [← hG]
  refine own_to (fun _ kz => castTop (ef1 m p0) kz) ?_
  have q0 : (f1 p0) = (f1 p0) := rfl
  show own_Fin p e below G (s₁.setTop (mkF m 0 #[.val (.int p0)] []))
  refine own_to (fun _ kz => XS.iloadN X0.here hx rfl (hb hby d1_0) rfl  kz) ?_
  show own_Fin p e below G (s₁.setTop (mkF m 1 #[.val (.int p0)] [(.int p0)]))
  refine own_to (fun _ kz => XS.bipush X0.here hx rfl (hb hby d1_1) kz) ?_
  show own_Fin p e below G (s₁.setTop (mkF m 3 #[.val (.int p0)] [(.int (58 : Int32)), (.int p0)]))
  have K197 : ∀ (q_j197 : (f1 p0) = (f1_197 p0)), own_Fin p e below G (s₁.setTop (mkF m 197 #[.val (.int p0)] [])) := by
    intro q_j197
    refine own_to (fun _ kz => XS.iconst X0.here hx rfl (hb hby d1_197) kz) ?_
    show own_Fin p e below G (s₁.setTop (mkF m 198 #[.val (.int p0)] [(.int (1 : Int32))]))
    refine own_to (fun _ kz => XS.goto X0.here hx rfl (pc0 := 198) (pc' := 202) rfl (hb hby d1_198) (by decide) (by decide) kz) ?_
    show own_Fin p e below G (s₁.setTop (mkF m 202 #[.val (.int p0)] [(.int (1 : Int32))]))
    exact own_retN X0 hx hlk hG (t := .boolean) Bd.returns (by simp) (hb hby d1_202) (by decide) (by decide) ⟨(congrArg (fun z => some (Value.int z)) q_j197).symm, N0, e0⟩
  by_cases hc3 : p0 = (58 : Int32)
  · refine own_to (fun _ kz => XS.icmpYes X0.here hx rfl (pc0 := 3) (pc' := 197) rfl (hb hby d1_3) rfl (teq hc3).1 (by decide) (by decide) kz) ?_
    have q3t := q0.trans (if_pos hc3)
    show own_Fin p e below G (s₁.setTop (mkF m 197 #[.val (.int p0)] []))
    exact K197 q3t
  · refine own_to (fun _ kz => XS.icmpNo X0.here hx rfl (hb hby d1_3) rfl (feq hc3).1 kz) ?_
    have q3f := q0.trans (if_neg hc3)
    show own_Fin p e below G (s₁.setTop (mkF m 6 #[.val (.int p0)] []))
    refine own_to (fun _ kz => XS.iloadN X0.here hx rfl (hb hby d1_6) rfl  kz) ?_
    show own_Fin p e below G (s₁.setTop (mkF m 7 #[.val (.int p0)] [(.int p0)]))
    refine own_to (fun _ kz => XS.bipush X0.here hx rfl (hb hby d1_7) kz) ?_
    show own_Fin p e below G (s₁.setTop (mkF m 9 #[.val (.int p0)] [(.int (65 : Int32)), (.int p0)]))
    have K18 : ∀ (q_j18 : (f1 p0) = (f1_18 p0)), own_Fin p e below G (s₁.setTop (mkF m 18 #[.val (.int p0)] [])) := by
      intro q_j18
      refine own_to (fun _ kz => XS.iloadN X0.here hx rfl (hb hby d1_18) rfl  kz) ?_
      show own_Fin p e below G (s₁.setTop (mkF m 19 #[.val (.int p0)] [(.int p0)]))
      refine own_to (fun _ kz => XS.bipush X0.here hx rfl (hb hby d1_19) kz) ?_
      show own_Fin p e below G (s₁.setTop (mkF m 21 #[.val (.int p0)] [(.int (95 : Int32)), (.int p0)]))
      by_cases hc21 : p0 = (95 : Int32)
      · refine own_to (fun _ kz => XS.icmpYes X0.here hx rfl (pc0 := 21) (pc' := 197) rfl (hb hby d1_21) rfl (teq hc21).1 (by decide) (by decide) kz) ?_
        have q21t := q_j18.trans (if_pos hc21)
        show own_Fin p e below G (s₁.setTop (mkF m 197 #[.val (.int p0)] []))
        exact K197 q21t
      · refine own_to (fun _ kz => XS.icmpNo X0.here hx rfl (hb hby d1_21) rfl (feq hc21).1 kz) ?_
        have q21f := q_j18.trans (if_neg hc21)
        show own_Fin p e below G (s₁.setTop (mkF m 24 #[.val (.int p0)] []))
        refine own_to (fun _ kz => XS.iloadN X0.here hx rfl (hb hby d1_24) rfl  kz) ?_
        show own_Fin p e below G (s₁.setTop (mkF m 25 #[.val (.int p0)] [(.int p0)]))
        refine own_to (fun _ kz => XS.bipush X0.here hx rfl (hb hby d1_25) kz) ?_
        show own_Fin p e below G (s₁.setTop (mkF m 27 #[.val (.int p0)] [(.int (97 : Int32)), (.int p0)]))
        have K36 : ∀ (q_j36 : (f1 p0) = (f1_36 p0)), own_Fin p e below G (s₁.setTop (mkF m 36 #[.val (.int p0)] [])) := by
          intro q_j36
          refine own_to (fun _ kz => XS.iloadN X0.here hx rfl (hb hby d1_36) rfl  kz) ?_
          show own_Fin p e below G (s₁.setTop (mkF m 37 #[.val (.int p0)] [(.int p0)]))
          refine own_to (fun _ kz => XS.sipush X0.here hx rfl (hb hby d1_37) kz) ?_
          show own_Fin p e below G (s₁.setTop (mkF m 40 #[.val (.int p0)] [(.int (192 : Int32)), (.int p0)]))
          have K50 : ∀ (q_j50 : (f1 p0) = (f1_50 p0)), own_Fin p e below G (s₁.setTop (mkF m 50 #[.val (.int p0)] [])) := by
            intro q_j50
            refine own_to (fun _ kz => XS.iloadN X0.here hx rfl (hb hby d1_50) rfl  kz) ?_
            show own_Fin p e below G (s₁.setTop (mkF m 51 #[.val (.int p0)] [(.int p0)]))
            refine own_to (fun _ kz => XS.sipush X0.here hx rfl (hb hby d1_51) kz) ?_
            show own_Fin p e below G (s₁.setTop (mkF m 54 #[.val (.int p0)] [(.int (216 : Int32)), (.int p0)]))
            have K64 : ∀ (q_j64 : (f1 p0) = (f1_64 p0)), own_Fin p e below G (s₁.setTop (mkF m 64 #[.val (.int p0)] [])) := by
              intro q_j64
              refine own_to (fun _ kz => XS.iloadN X0.here hx rfl (hb hby d1_64) rfl  kz) ?_
              show own_Fin p e below G (s₁.setTop (mkF m 65 #[.val (.int p0)] [(.int p0)]))
              refine own_to (fun _ kz => XS.sipush X0.here hx rfl (hb hby d1_65) kz) ?_
              show own_Fin p e below G (s₁.setTop (mkF m 68 #[.val (.int p0)] [(.int (248 : Int32)), (.int p0)]))
              have K78 : ∀ (q_j78 : (f1 p0) = (f1_78 p0)), own_Fin p e below G (s₁.setTop (mkF m 78 #[.val (.int p0)] [])) := by
                intro q_j78
                refine own_to (fun _ kz => XS.iloadN X0.here hx rfl (hb hby d1_78) rfl  kz) ?_
                show own_Fin p e below G (s₁.setTop (mkF m 79 #[.val (.int p0)] [(.int p0)]))
                refine own_to (fun _ kz => XS.sipush X0.here hx rfl (hb hby d1_79) kz) ?_
                show own_Fin p e below G (s₁.setTop (mkF m 82 #[.val (.int p0)] [(.int (880 : Int32)), (.int p0)]))
                have K92 : ∀ (q_j92 : (f1 p0) = (f1_92 p0)), own_Fin p e below G (s₁.setTop (mkF m 92 #[.val (.int p0)] [])) := by
                  intro q_j92
                  refine own_to (fun _ kz => XS.iloadN X0.here hx rfl (hb hby d1_92) rfl  kz) ?_
                  show own_Fin p e below G (s₁.setTop (mkF m 93 #[.val (.int p0)] [(.int p0)]))
                  refine own_to (fun _ kz => XS.sipush X0.here hx rfl (hb hby d1_93) kz) ?_
                  show own_Fin p e below G (s₁.setTop (mkF m 96 #[.val (.int p0)] [(.int (895 : Int32)), (.int p0)]))
                  have K106 : ∀ (q_j106 : (f1 p0) = (f1_106 p0)), own_Fin p e below G (s₁.setTop (mkF m 106 #[.val (.int p0)] [])) := by
                    intro q_j106
                    refine own_to (fun _ kz => XS.iloadN X0.here hx rfl (hb hby d1_106) rfl  kz) ?_
                    show own_Fin p e below G (s₁.setTop (mkF m 107 #[.val (.int p0)] [(.int p0)]))
                    refine own_to (fun _ kz => XS.sipush X0.here hx rfl (hb hby d1_107) kz) ?_
                    show own_Fin p e below G (s₁.setTop (mkF m 110 #[.val (.int p0)] [(.int (8204 : Int32)), (.int p0)]))
                    have K120 : ∀ (q_j120 : (f1 p0) = (f1_120 p0)), own_Fin p e below G (s₁.setTop (mkF m 120 #[.val (.int p0)] [])) := by
                      intro q_j120
                      refine own_to (fun _ kz => XS.iloadN X0.here hx rfl (hb hby d1_120) rfl  kz) ?_
                      show own_Fin p e below G (s₁.setTop (mkF m 121 #[.val (.int p0)] [(.int p0)]))
                      refine own_to (fun _ kz => XS.sipush X0.here hx rfl (hb hby d1_121) kz) ?_
                      show own_Fin p e below G (s₁.setTop (mkF m 124 #[.val (.int p0)] [(.int (8304 : Int32)), (.int p0)]))
                      have K134 : ∀ (q_j134 : (f1 p0) = (f1_134 p0)), own_Fin p e below G (s₁.setTop (mkF m 134 #[.val (.int p0)] [])) := by
                        intro q_j134
                        refine own_to (fun _ kz => XS.iloadN X0.here hx rfl (hb hby d1_134) rfl  kz) ?_
                        show own_Fin p e below G (s₁.setTop (mkF m 135 #[.val (.int p0)] [(.int p0)]))
                        refine own_to (fun _ kz => XS.sipush X0.here hx rfl (hb hby d1_135) kz) ?_
                        show own_Fin p e below G (s₁.setTop (mkF m 138 #[.val (.int p0)] [(.int (11264 : Int32)), (.int p0)]))
                        have K148 : ∀ (q_j148 : (f1 p0) = (f1_148 p0)), own_Fin p e below G (s₁.setTop (mkF m 148 #[.val (.int p0)] [])) := by
                          intro q_j148
                          refine own_to (fun _ kz => XS.iloadN X0.here hx rfl (hb hby d1_148) rfl  kz) ?_
                          show own_Fin p e below G (s₁.setTop (mkF m 149 #[.val (.int p0)] [(.int p0)]))
                          refine own_to (fun _ kz => XS.sipush X0.here hx rfl (hb hby d1_149) kz) ?_
                          show own_Fin p e below G (s₁.setTop (mkF m 152 #[.val (.int p0)] [(.int (12289 : Int32)), (.int p0)]))
                          have K161 : ∀ (q_j161 : (f1 p0) = (f1_161 p0)), own_Fin p e below G (s₁.setTop (mkF m 161 #[.val (.int p0)] [])) := by
                            intro q_j161
                            refine own_to (fun _ kz => XS.iloadN X0.here hx rfl (hb hby d1_161) rfl  kz) ?_
                            show own_Fin p e below G (s₁.setTop (mkF m 162 #[.val (.int p0)] [(.int p0)]))
                            refine own_to (fun _ kz => X0.ldcInt hx hown (mvT hZ (hw _ (List.mem_of_getElem? (i := 14) rfl))) (g := (mkF m 162 #[.val (.int p0)] [(.int p0)])) rfl (hb hby d1_162) _ kz) ?_
                            show own_Fin p e below G (s₁.setTop (mkF m 164 #[.val (.int p0)] [(.int (63744 : Int32)), (.int p0)]))
                            have K173 : ∀ (q_j173 : (f1 p0) = (f1_173 p0)), own_Fin p e below G (s₁.setTop (mkF m 173 #[.val (.int p0)] [])) := by
                              intro q_j173
                              refine own_to (fun _ kz => XS.iloadN X0.here hx rfl (hb hby d1_173) rfl  kz) ?_
                              show own_Fin p e below G (s₁.setTop (mkF m 174 #[.val (.int p0)] [(.int p0)]))
                              refine own_to (fun _ kz => X0.ldcInt hx hown (mvT hZ (hw _ (List.mem_of_getElem? (i := 15) rfl))) (g := (mkF m 174 #[.val (.int p0)] [(.int p0)])) rfl (hb hby d1_174) _ kz) ?_
                              show own_Fin p e below G (s₁.setTop (mkF m 176 #[.val (.int p0)] [(.int (65008 : Int32)), (.int p0)]))
                              have K185 : ∀ (q_j185 : (f1 p0) = (f1_185 p0)), own_Fin p e below G (s₁.setTop (mkF m 185 #[.val (.int p0)] [])) := by
                                intro q_j185
                                refine own_to (fun _ kz => XS.iloadN X0.here hx rfl (hb hby d1_185) rfl  kz) ?_
                                show own_Fin p e below G (s₁.setTop (mkF m 186 #[.val (.int p0)] [(.int p0)]))
                                refine own_to (fun _ kz => X0.ldcInt hx hown (mvT hZ (hw _ (List.mem_of_getElem? (i := 16) rfl))) (g := (mkF m 186 #[.val (.int p0)] [(.int p0)])) rfl (hb hby d1_186) _ kz) ?_
                                show own_Fin p e below G (s₁.setTop (mkF m 188 #[.val (.int p0)] [(.int (65536 : Int32)), (.int p0)]))
                                have K201 : ∀ (q_j201 : (f1 p0) = (f1_201 p0)), own_Fin p e below G (s₁.setTop (mkF m 201 #[.val (.int p0)] [])) := by
                                  intro q_j201
                                  refine own_to (fun _ kz => XS.iconst X0.here hx rfl (hb hby d1_201) kz) ?_
                                  show own_Fin p e below G (s₁.setTop (mkF m 202 #[.val (.int p0)] [(.int (0 : Int32))]))
                                  exact own_retN X0 hx hlk hG (t := .boolean) Bd.returns (by simp) (hb hby d1_202) (by decide) (by decide) ⟨(congrArg (fun z => some (Value.int z)) q_j201).symm, N0, e0⟩
                                by_cases hc188 : p0 < (65536 : Int32)
                                · refine own_to (fun _ kz => XS.icmpYes X0.here hx rfl (pc0 := 188) (pc' := 201) rfl (hb hby d1_188) rfl (tlt hc188).1 (by decide) (by decide) kz) ?_
                                  have q188t := q_j185.trans (if_pos hc188)
                                  show own_Fin p e below G (s₁.setTop (mkF m 201 #[.val (.int p0)] []))
                                  exact K201 q188t
                                · refine own_to (fun _ kz => XS.icmpNo X0.here hx rfl (hb hby d1_188) rfl (flt hc188).1 kz) ?_
                                  have q188f := q_j185.trans (if_neg hc188)
                                  show own_Fin p e below G (s₁.setTop (mkF m 191 #[.val (.int p0)] []))
                                  refine own_to (fun _ kz => XS.iloadN X0.here hx rfl (hb hby d1_191) rfl  kz) ?_
                                  show own_Fin p e below G (s₁.setTop (mkF m 192 #[.val (.int p0)] [(.int p0)]))
                                  refine own_to (fun _ kz => X0.ldcInt hx hown (mvT hZ (hw _ (List.mem_of_getElem? (i := 20) rfl))) (g := (mkF m 192 #[.val (.int p0)] [(.int p0)])) rfl (hb hby d1_192) _ kz) ?_
                                  show own_Fin p e below G (s₁.setTop (mkF m 194 #[.val (.int p0)] [(.int (983039 : Int32)), (.int p0)]))
                                  by_cases hc194 : (983039 : Int32) < p0
                                  · refine own_to (fun _ kz => XS.icmpYes X0.here hx rfl (pc0 := 194) (pc' := 201) rfl (hb hby d1_194) rfl (tlt hc194).2.2.1 (by decide) (by decide) kz) ?_
                                    have q194t := q188f.trans (if_pos hc194)
                                    show own_Fin p e below G (s₁.setTop (mkF m 201 #[.val (.int p0)] []))
                                    exact K201 q194t
                                  · refine own_to (fun _ kz => XS.icmpNo X0.here hx rfl (hb hby d1_194) rfl (flt hc194).2.2.1 kz) ?_
                                    have q194f := q188f.trans (if_neg hc194)
                                    show own_Fin p e below G (s₁.setTop (mkF m 197 #[.val (.int p0)] []))
                                    exact K197 q194f
                              by_cases hc176 : p0 < (65008 : Int32)
                              · refine own_to (fun _ kz => XS.icmpYes X0.here hx rfl (pc0 := 176) (pc' := 185) rfl (hb hby d1_176) rfl (tlt hc176).1 (by decide) (by decide) kz) ?_
                                have q176t := q_j173.trans (if_pos hc176)
                                show own_Fin p e below G (s₁.setTop (mkF m 185 #[.val (.int p0)] []))
                                exact K185 q176t
                              · refine own_to (fun _ kz => XS.icmpNo X0.here hx rfl (hb hby d1_176) rfl (flt hc176).1 kz) ?_
                                have q176f := q_j173.trans (if_neg hc176)
                                show own_Fin p e below G (s₁.setTop (mkF m 179 #[.val (.int p0)] []))
                                refine own_to (fun _ kz => XS.iloadN X0.here hx rfl (hb hby d1_179) rfl  kz) ?_
                                show own_Fin p e below G (s₁.setTop (mkF m 180 #[.val (.int p0)] [(.int p0)]))
                                refine own_to (fun _ kz => X0.ldcInt hx hown (mvT hZ (hw _ (List.mem_of_getElem? (i := 19) rfl))) (g := (mkF m 180 #[.val (.int p0)] [(.int p0)])) rfl (hb hby d1_180) _ kz) ?_
                                show own_Fin p e below G (s₁.setTop (mkF m 182 #[.val (.int p0)] [(.int (65533 : Int32)), (.int p0)]))
                                by_cases hc182 : (65533 : Int32) < p0
                                · refine own_to (fun _ kz => XS.icmpNo X0.here hx rfl (hb hby d1_182) rfl (tlt hc182).2.2.2 kz) ?_
                                  have q182t := q176f.trans (if_pos hc182)
                                  show own_Fin p e below G (s₁.setTop (mkF m 185 #[.val (.int p0)] []))
                                  exact K185 q182t
                                · refine own_to (fun _ kz => XS.icmpYes X0.here hx rfl (pc0 := 182) (pc' := 197) rfl (hb hby d1_182) rfl (flt hc182).2.2.2 (by decide) (by decide) kz) ?_
                                  have q182f := q176f.trans (if_neg hc182)
                                  show own_Fin p e below G (s₁.setTop (mkF m 197 #[.val (.int p0)] []))
                                  exact K197 q182f
                            by_cases hc164 : p0 < (63744 : Int32)
                            · refine own_to (fun _ kz => XS.icmpYes X0.here hx rfl (pc0 := 164) (pc' := 173) rfl (hb hby d1_164) rfl (tlt hc164).1 (by decide) (by decide) kz) ?_
                              have q164t := q_j161.trans (if_pos hc164)
                              show own_Fin p e below G (s₁.setTop (mkF m 173 #[.val (.int p0)] []))
                              exact K173 q164t
                            · refine own_to (fun _ kz => XS.icmpNo X0.here hx rfl (hb hby d1_164) rfl (flt hc164).1 kz) ?_
                              have q164f := q_j161.trans (if_neg hc164)
                              show own_Fin p e below G (s₁.setTop (mkF m 167 #[.val (.int p0)] []))
                              refine own_to (fun _ kz => XS.iloadN X0.here hx rfl (hb hby d1_167) rfl  kz) ?_
                              show own_Fin p e below G (s₁.setTop (mkF m 168 #[.val (.int p0)] [(.int p0)]))
                              refine own_to (fun _ kz => X0.ldcInt hx hown (mvT hZ (hw _ (List.mem_of_getElem? (i := 18) rfl))) (g := (mkF m 168 #[.val (.int p0)] [(.int p0)])) rfl (hb hby d1_168) _ kz) ?_
                              show own_Fin p e below G (s₁.setTop (mkF m 170 #[.val (.int p0)] [(.int (64975 : Int32)), (.int p0)]))
                              by_cases hc170 : (64975 : Int32) < p0
                              · refine own_to (fun _ kz => XS.icmpNo X0.here hx rfl (hb hby d1_170) rfl (tlt hc170).2.2.2 kz) ?_
                                have q170t := q164f.trans (if_pos hc170)
                                show own_Fin p e below G (s₁.setTop (mkF m 173 #[.val (.int p0)] []))
                                exact K173 q170t
                              · refine own_to (fun _ kz => XS.icmpYes X0.here hx rfl (pc0 := 170) (pc' := 197) rfl (hb hby d1_170) rfl (flt hc170).2.2.2 (by decide) (by decide) kz) ?_
                                have q170f := q164f.trans (if_neg hc170)
                                show own_Fin p e below G (s₁.setTop (mkF m 197 #[.val (.int p0)] []))
                                exact K197 q170f
                          by_cases hc152 : p0 < (12289 : Int32)
                          · refine own_to (fun _ kz => XS.icmpYes X0.here hx rfl (pc0 := 152) (pc' := 161) rfl (hb hby d1_152) rfl (tlt hc152).1 (by decide) (by decide) kz) ?_
                            have q152t := q_j148.trans (if_pos hc152)
                            show own_Fin p e below G (s₁.setTop (mkF m 161 #[.val (.int p0)] []))
                            exact K161 q152t
                          · refine own_to (fun _ kz => XS.icmpNo X0.here hx rfl (hb hby d1_152) rfl (flt hc152).1 kz) ?_
                            have q152f := q_j148.trans (if_neg hc152)
                            show own_Fin p e below G (s₁.setTop (mkF m 155 #[.val (.int p0)] []))
                            refine own_to (fun _ kz => XS.iloadN X0.here hx rfl (hb hby d1_155) rfl  kz) ?_
                            show own_Fin p e below G (s₁.setTop (mkF m 156 #[.val (.int p0)] [(.int p0)]))
                            refine own_to (fun _ kz => X0.ldcInt hx hown (mvT hZ (hw _ (List.mem_of_getElem? (i := 17) rfl))) (g := (mkF m 156 #[.val (.int p0)] [(.int p0)])) rfl (hb hby d1_156) _ kz) ?_
                            show own_Fin p e below G (s₁.setTop (mkF m 158 #[.val (.int p0)] [(.int (55295 : Int32)), (.int p0)]))
                            by_cases hc158 : (55295 : Int32) < p0
                            · refine own_to (fun _ kz => XS.icmpNo X0.here hx rfl (hb hby d1_158) rfl (tlt hc158).2.2.2 kz) ?_
                              have q158t := q152f.trans (if_pos hc158)
                              show own_Fin p e below G (s₁.setTop (mkF m 161 #[.val (.int p0)] []))
                              exact K161 q158t
                            · refine own_to (fun _ kz => XS.icmpYes X0.here hx rfl (pc0 := 158) (pc' := 197) rfl (hb hby d1_158) rfl (flt hc158).2.2.2 (by decide) (by decide) kz) ?_
                              have q158f := q152f.trans (if_neg hc158)
                              show own_Fin p e below G (s₁.setTop (mkF m 197 #[.val (.int p0)] []))
                              exact K197 q158f
                        by_cases hc138 : p0 < (11264 : Int32)
                        · refine own_to (fun _ kz => XS.icmpYes X0.here hx rfl (pc0 := 138) (pc' := 148) rfl (hb hby d1_138) rfl (tlt hc138).1 (by decide) (by decide) kz) ?_
                          have q138t := q_j134.trans (if_pos hc138)
                          show own_Fin p e below G (s₁.setTop (mkF m 148 #[.val (.int p0)] []))
                          exact K148 q138t
                        · refine own_to (fun _ kz => XS.icmpNo X0.here hx rfl (hb hby d1_138) rfl (flt hc138).1 kz) ?_
                          have q138f := q_j134.trans (if_neg hc138)
                          show own_Fin p e below G (s₁.setTop (mkF m 141 #[.val (.int p0)] []))
                          refine own_to (fun _ kz => XS.iloadN X0.here hx rfl (hb hby d1_141) rfl  kz) ?_
                          show own_Fin p e below G (s₁.setTop (mkF m 142 #[.val (.int p0)] [(.int p0)]))
                          refine own_to (fun _ kz => XS.sipush X0.here hx rfl (hb hby d1_142) kz) ?_
                          show own_Fin p e below G (s₁.setTop (mkF m 145 #[.val (.int p0)] [(.int (12271 : Int32)), (.int p0)]))
                          by_cases hc145 : (12271 : Int32) < p0
                          · refine own_to (fun _ kz => XS.icmpNo X0.here hx rfl (hb hby d1_145) rfl (tlt hc145).2.2.2 kz) ?_
                            have q145t := q138f.trans (if_pos hc145)
                            show own_Fin p e below G (s₁.setTop (mkF m 148 #[.val (.int p0)] []))
                            exact K148 q145t
                          · refine own_to (fun _ kz => XS.icmpYes X0.here hx rfl (pc0 := 145) (pc' := 197) rfl (hb hby d1_145) rfl (flt hc145).2.2.2 (by decide) (by decide) kz) ?_
                            have q145f := q138f.trans (if_neg hc145)
                            show own_Fin p e below G (s₁.setTop (mkF m 197 #[.val (.int p0)] []))
                            exact K197 q145f
                      by_cases hc124 : p0 < (8304 : Int32)
                      · refine own_to (fun _ kz => XS.icmpYes X0.here hx rfl (pc0 := 124) (pc' := 134) rfl (hb hby d1_124) rfl (tlt hc124).1 (by decide) (by decide) kz) ?_
                        have q124t := q_j120.trans (if_pos hc124)
                        show own_Fin p e below G (s₁.setTop (mkF m 134 #[.val (.int p0)] []))
                        exact K134 q124t
                      · refine own_to (fun _ kz => XS.icmpNo X0.here hx rfl (hb hby d1_124) rfl (flt hc124).1 kz) ?_
                        have q124f := q_j120.trans (if_neg hc124)
                        show own_Fin p e below G (s₁.setTop (mkF m 127 #[.val (.int p0)] []))
                        refine own_to (fun _ kz => XS.iloadN X0.here hx rfl (hb hby d1_127) rfl  kz) ?_
                        show own_Fin p e below G (s₁.setTop (mkF m 128 #[.val (.int p0)] [(.int p0)]))
                        refine own_to (fun _ kz => XS.sipush X0.here hx rfl (hb hby d1_128) kz) ?_
                        show own_Fin p e below G (s₁.setTop (mkF m 131 #[.val (.int p0)] [(.int (8591 : Int32)), (.int p0)]))
                        by_cases hc131 : (8591 : Int32) < p0
                        · refine own_to (fun _ kz => XS.icmpNo X0.here hx rfl (hb hby d1_131) rfl (tlt hc131).2.2.2 kz) ?_
                          have q131t := q124f.trans (if_pos hc131)
                          show own_Fin p e below G (s₁.setTop (mkF m 134 #[.val (.int p0)] []))
                          exact K134 q131t
                        · refine own_to (fun _ kz => XS.icmpYes X0.here hx rfl (pc0 := 131) (pc' := 197) rfl (hb hby d1_131) rfl (flt hc131).2.2.2 (by decide) (by decide) kz) ?_
                          have q131f := q124f.trans (if_neg hc131)
                          show own_Fin p e below G (s₁.setTop (mkF m 197 #[.val (.int p0)] []))
                          exact K197 q131f
                    by_cases hc110 : p0 < (8204 : Int32)
                    · refine own_to (fun _ kz => XS.icmpYes X0.here hx rfl (pc0 := 110) (pc' := 120) rfl (hb hby d1_110) rfl (tlt hc110).1 (by decide) (by decide) kz) ?_
                      have q110t := q_j106.trans (if_pos hc110)
                      show own_Fin p e below G (s₁.setTop (mkF m 120 #[.val (.int p0)] []))
                      exact K120 q110t
                    · refine own_to (fun _ kz => XS.icmpNo X0.here hx rfl (hb hby d1_110) rfl (flt hc110).1 kz) ?_
                      have q110f := q_j106.trans (if_neg hc110)
                      show own_Fin p e below G (s₁.setTop (mkF m 113 #[.val (.int p0)] []))
                      refine own_to (fun _ kz => XS.iloadN X0.here hx rfl (hb hby d1_113) rfl  kz) ?_
                      show own_Fin p e below G (s₁.setTop (mkF m 114 #[.val (.int p0)] [(.int p0)]))
                      refine own_to (fun _ kz => XS.sipush X0.here hx rfl (hb hby d1_114) kz) ?_
                      show own_Fin p e below G (s₁.setTop (mkF m 117 #[.val (.int p0)] [(.int (8205 : Int32)), (.int p0)]))
                      by_cases hc117 : (8205 : Int32) < p0
                      · refine own_to (fun _ kz => XS.icmpNo X0.here hx rfl (hb hby d1_117) rfl (tlt hc117).2.2.2 kz) ?_
                        have q117t := q110f.trans (if_pos hc117)
                        show own_Fin p e below G (s₁.setTop (mkF m 120 #[.val (.int p0)] []))
                        exact K120 q117t
                      · refine own_to (fun _ kz => XS.icmpYes X0.here hx rfl (pc0 := 117) (pc' := 197) rfl (hb hby d1_117) rfl (flt hc117).2.2.2 (by decide) (by decide) kz) ?_
                        have q117f := q110f.trans (if_neg hc117)
                        show own_Fin p e below G (s₁.setTop (mkF m 197 #[.val (.int p0)] []))
                        exact K197 q117f
                  by_cases hc96 : p0 < (895 : Int32)
                  · refine own_to (fun _ kz => XS.icmpYes X0.here hx rfl (pc0 := 96) (pc' := 106) rfl (hb hby d1_96) rfl (tlt hc96).1 (by decide) (by decide) kz) ?_
                    have q96t := q_j92.trans (if_pos hc96)
                    show own_Fin p e below G (s₁.setTop (mkF m 106 #[.val (.int p0)] []))
                    exact K106 q96t
                  · refine own_to (fun _ kz => XS.icmpNo X0.here hx rfl (hb hby d1_96) rfl (flt hc96).1 kz) ?_
                    have q96f := q_j92.trans (if_neg hc96)
                    show own_Fin p e below G (s₁.setTop (mkF m 99 #[.val (.int p0)] []))
                    refine own_to (fun _ kz => XS.iloadN X0.here hx rfl (hb hby d1_99) rfl  kz) ?_
                    show own_Fin p e below G (s₁.setTop (mkF m 100 #[.val (.int p0)] [(.int p0)]))
                    refine own_to (fun _ kz => XS.sipush X0.here hx rfl (hb hby d1_100) kz) ?_
                    show own_Fin p e below G (s₁.setTop (mkF m 103 #[.val (.int p0)] [(.int (8191 : Int32)), (.int p0)]))
                    by_cases hc103 : (8191 : Int32) < p0
                    · refine own_to (fun _ kz => XS.icmpNo X0.here hx rfl (hb hby d1_103) rfl (tlt hc103).2.2.2 kz) ?_
                      have q103t := q96f.trans (if_pos hc103)
                      show own_Fin p e below G (s₁.setTop (mkF m 106 #[.val (.int p0)] []))
                      exact K106 q103t
                    · refine own_to (fun _ kz => XS.icmpYes X0.here hx rfl (pc0 := 103) (pc' := 197) rfl (hb hby d1_103) rfl (flt hc103).2.2.2 (by decide) (by decide) kz) ?_
                      have q103f := q96f.trans (if_neg hc103)
                      show own_Fin p e below G (s₁.setTop (mkF m 197 #[.val (.int p0)] []))
                      exact K197 q103f
                by_cases hc82 : p0 < (880 : Int32)
                · refine own_to (fun _ kz => XS.icmpYes X0.here hx rfl (pc0 := 82) (pc' := 92) rfl (hb hby d1_82) rfl (tlt hc82).1 (by decide) (by decide) kz) ?_
                  have q82t := q_j78.trans (if_pos hc82)
                  show own_Fin p e below G (s₁.setTop (mkF m 92 #[.val (.int p0)] []))
                  exact K92 q82t
                · refine own_to (fun _ kz => XS.icmpNo X0.here hx rfl (hb hby d1_82) rfl (flt hc82).1 kz) ?_
                  have q82f := q_j78.trans (if_neg hc82)
                  show own_Fin p e below G (s₁.setTop (mkF m 85 #[.val (.int p0)] []))
                  refine own_to (fun _ kz => XS.iloadN X0.here hx rfl (hb hby d1_85) rfl  kz) ?_
                  show own_Fin p e below G (s₁.setTop (mkF m 86 #[.val (.int p0)] [(.int p0)]))
                  refine own_to (fun _ kz => XS.sipush X0.here hx rfl (hb hby d1_86) kz) ?_
                  show own_Fin p e below G (s₁.setTop (mkF m 89 #[.val (.int p0)] [(.int (893 : Int32)), (.int p0)]))
                  by_cases hc89 : (893 : Int32) < p0
                  · refine own_to (fun _ kz => XS.icmpNo X0.here hx rfl (hb hby d1_89) rfl (tlt hc89).2.2.2 kz) ?_
                    have q89t := q82f.trans (if_pos hc89)
                    show own_Fin p e below G (s₁.setTop (mkF m 92 #[.val (.int p0)] []))
                    exact K92 q89t
                  · refine own_to (fun _ kz => XS.icmpYes X0.here hx rfl (pc0 := 89) (pc' := 197) rfl (hb hby d1_89) rfl (flt hc89).2.2.2 (by decide) (by decide) kz) ?_
                    have q89f := q82f.trans (if_neg hc89)
                    show own_Fin p e below G (s₁.setTop (mkF m 197 #[.val (.int p0)] []))
                    exact K197 q89f
              by_cases hc68 : p0 < (248 : Int32)
              · refine own_to (fun _ kz => XS.icmpYes X0.here hx rfl (pc0 := 68) (pc' := 78) rfl (hb hby d1_68) rfl (tlt hc68).1 (by decide) (by decide) kz) ?_
                have q68t := q_j64.trans (if_pos hc68)
                show own_Fin p e below G (s₁.setTop (mkF m 78 #[.val (.int p0)] []))
                exact K78 q68t
              · refine own_to (fun _ kz => XS.icmpNo X0.here hx rfl (hb hby d1_68) rfl (flt hc68).1 kz) ?_
                have q68f := q_j64.trans (if_neg hc68)
                show own_Fin p e below G (s₁.setTop (mkF m 71 #[.val (.int p0)] []))
                refine own_to (fun _ kz => XS.iloadN X0.here hx rfl (hb hby d1_71) rfl  kz) ?_
                show own_Fin p e below G (s₁.setTop (mkF m 72 #[.val (.int p0)] [(.int p0)]))
                refine own_to (fun _ kz => XS.sipush X0.here hx rfl (hb hby d1_72) kz) ?_
                show own_Fin p e below G (s₁.setTop (mkF m 75 #[.val (.int p0)] [(.int (767 : Int32)), (.int p0)]))
                by_cases hc75 : (767 : Int32) < p0
                · refine own_to (fun _ kz => XS.icmpNo X0.here hx rfl (hb hby d1_75) rfl (tlt hc75).2.2.2 kz) ?_
                  have q75t := q68f.trans (if_pos hc75)
                  show own_Fin p e below G (s₁.setTop (mkF m 78 #[.val (.int p0)] []))
                  exact K78 q75t
                · refine own_to (fun _ kz => XS.icmpYes X0.here hx rfl (pc0 := 75) (pc' := 197) rfl (hb hby d1_75) rfl (flt hc75).2.2.2 (by decide) (by decide) kz) ?_
                  have q75f := q68f.trans (if_neg hc75)
                  show own_Fin p e below G (s₁.setTop (mkF m 197 #[.val (.int p0)] []))
                  exact K197 q75f
            by_cases hc54 : p0 < (216 : Int32)
            · refine own_to (fun _ kz => XS.icmpYes X0.here hx rfl (pc0 := 54) (pc' := 64) rfl (hb hby d1_54) rfl (tlt hc54).1 (by decide) (by decide) kz) ?_
              have q54t := q_j50.trans (if_pos hc54)
              show own_Fin p e below G (s₁.setTop (mkF m 64 #[.val (.int p0)] []))
              exact K64 q54t
            · refine own_to (fun _ kz => XS.icmpNo X0.here hx rfl (hb hby d1_54) rfl (flt hc54).1 kz) ?_
              have q54f := q_j50.trans (if_neg hc54)
              show own_Fin p e below G (s₁.setTop (mkF m 57 #[.val (.int p0)] []))
              refine own_to (fun _ kz => XS.iloadN X0.here hx rfl (hb hby d1_57) rfl  kz) ?_
              show own_Fin p e below G (s₁.setTop (mkF m 58 #[.val (.int p0)] [(.int p0)]))
              refine own_to (fun _ kz => XS.sipush X0.here hx rfl (hb hby d1_58) kz) ?_
              show own_Fin p e below G (s₁.setTop (mkF m 61 #[.val (.int p0)] [(.int (246 : Int32)), (.int p0)]))
              by_cases hc61 : (246 : Int32) < p0
              · refine own_to (fun _ kz => XS.icmpNo X0.here hx rfl (hb hby d1_61) rfl (tlt hc61).2.2.2 kz) ?_
                have q61t := q54f.trans (if_pos hc61)
                show own_Fin p e below G (s₁.setTop (mkF m 64 #[.val (.int p0)] []))
                exact K64 q61t
              · refine own_to (fun _ kz => XS.icmpYes X0.here hx rfl (pc0 := 61) (pc' := 197) rfl (hb hby d1_61) rfl (flt hc61).2.2.2 (by decide) (by decide) kz) ?_
                have q61f := q54f.trans (if_neg hc61)
                show own_Fin p e below G (s₁.setTop (mkF m 197 #[.val (.int p0)] []))
                exact K197 q61f
          by_cases hc40 : p0 < (192 : Int32)
          · refine own_to (fun _ kz => XS.icmpYes X0.here hx rfl (pc0 := 40) (pc' := 50) rfl (hb hby d1_40) rfl (tlt hc40).1 (by decide) (by decide) kz) ?_
            have q40t := q_j36.trans (if_pos hc40)
            show own_Fin p e below G (s₁.setTop (mkF m 50 #[.val (.int p0)] []))
            exact K50 q40t
          · refine own_to (fun _ kz => XS.icmpNo X0.here hx rfl (hb hby d1_40) rfl (flt hc40).1 kz) ?_
            have q40f := q_j36.trans (if_neg hc40)
            show own_Fin p e below G (s₁.setTop (mkF m 43 #[.val (.int p0)] []))
            refine own_to (fun _ kz => XS.iloadN X0.here hx rfl (hb hby d1_43) rfl  kz) ?_
            show own_Fin p e below G (s₁.setTop (mkF m 44 #[.val (.int p0)] [(.int p0)]))
            refine own_to (fun _ kz => XS.sipush X0.here hx rfl (hb hby d1_44) kz) ?_
            show own_Fin p e below G (s₁.setTop (mkF m 47 #[.val (.int p0)] [(.int (214 : Int32)), (.int p0)]))
            by_cases hc47 : (214 : Int32) < p0
            · refine own_to (fun _ kz => XS.icmpNo X0.here hx rfl (hb hby d1_47) rfl (tlt hc47).2.2.2 kz) ?_
              have q47t := q40f.trans (if_pos hc47)
              show own_Fin p e below G (s₁.setTop (mkF m 50 #[.val (.int p0)] []))
              exact K50 q47t
            · refine own_to (fun _ kz => XS.icmpYes X0.here hx rfl (pc0 := 47) (pc' := 197) rfl (hb hby d1_47) rfl (flt hc47).2.2.2 (by decide) (by decide) kz) ?_
              have q47f := q40f.trans (if_neg hc47)
              show own_Fin p e below G (s₁.setTop (mkF m 197 #[.val (.int p0)] []))
              exact K197 q47f
        by_cases hc27 : p0 < (97 : Int32)
        · refine own_to (fun _ kz => XS.icmpYes X0.here hx rfl (pc0 := 27) (pc' := 36) rfl (hb hby d1_27) rfl (tlt hc27).1 (by decide) (by decide) kz) ?_
          have q27t := q21f.trans (if_pos hc27)
          show own_Fin p e below G (s₁.setTop (mkF m 36 #[.val (.int p0)] []))
          exact K36 q27t
        · refine own_to (fun _ kz => XS.icmpNo X0.here hx rfl (hb hby d1_27) rfl (flt hc27).1 kz) ?_
          have q27f := q21f.trans (if_neg hc27)
          show own_Fin p e below G (s₁.setTop (mkF m 30 #[.val (.int p0)] []))
          refine own_to (fun _ kz => XS.iloadN X0.here hx rfl (hb hby d1_30) rfl  kz) ?_
          show own_Fin p e below G (s₁.setTop (mkF m 31 #[.val (.int p0)] [(.int p0)]))
          refine own_to (fun _ kz => XS.bipush X0.here hx rfl (hb hby d1_31) kz) ?_
          show own_Fin p e below G (s₁.setTop (mkF m 33 #[.val (.int p0)] [(.int (122 : Int32)), (.int p0)]))
          by_cases hc33 : (122 : Int32) < p0
          · refine own_to (fun _ kz => XS.icmpNo X0.here hx rfl (hb hby d1_33) rfl (tlt hc33).2.2.2 kz) ?_
            have q33t := q27f.trans (if_pos hc33)
            show own_Fin p e below G (s₁.setTop (mkF m 36 #[.val (.int p0)] []))
            exact K36 q33t
          · refine own_to (fun _ kz => XS.icmpYes X0.here hx rfl (pc0 := 33) (pc' := 197) rfl (hb hby d1_33) rfl (flt hc33).2.2.2 (by decide) (by decide) kz) ?_
            have q33f := q27f.trans (if_neg hc33)
            show own_Fin p e below G (s₁.setTop (mkF m 197 #[.val (.int p0)] []))
            exact K197 q33f
    by_cases hc9 : p0 < (65 : Int32)
    · refine own_to (fun _ kz => XS.icmpYes X0.here hx rfl (pc0 := 9) (pc' := 18) rfl (hb hby d1_9) rfl (tlt hc9).1 (by decide) (by decide) kz) ?_
      have q9t := q3f.trans (if_pos hc9)
      show own_Fin p e below G (s₁.setTop (mkF m 18 #[.val (.int p0)] []))
      exact K18 q9t
    · refine own_to (fun _ kz => XS.icmpNo X0.here hx rfl (hb hby d1_9) rfl (flt hc9).1 kz) ?_
      have q9f := q3f.trans (if_neg hc9)
      show own_Fin p e below G (s₁.setTop (mkF m 12 #[.val (.int p0)] []))
      refine own_to (fun _ kz => XS.iloadN X0.here hx rfl (hb hby d1_12) rfl  kz) ?_
      show own_Fin p e below G (s₁.setTop (mkF m 13 #[.val (.int p0)] [(.int p0)]))
      refine own_to (fun _ kz => XS.bipush X0.here hx rfl (hb hby d1_13) kz) ?_
      show own_Fin p e below G (s₁.setTop (mkF m 15 #[.val (.int p0)] [(.int (90 : Int32)), (.int p0)]))
      by_cases hc15 : (90 : Int32) < p0
      · refine own_to (fun _ kz => XS.icmpNo X0.here hx rfl (hb hby d1_15) rfl (tlt hc15).2.2.2 kz) ?_
        have q15t := q9f.trans (if_pos hc15)
        show own_Fin p e below G (s₁.setTop (mkF m 18 #[.val (.int p0)] []))
        exact K18 q15t
      · refine own_to (fun _ kz => XS.icmpYes X0.here hx rfl (pc0 := 15) (pc' := 197) rfl (hb hby d1_15) rfl (flt hc15).2.2.2 (by decide) (by decide) kz) ?_
        have q15f := q9f.trans (if_neg hc15)
        show own_Fin p e below G (s₁.setTop (mkF m 197 #[.val (.int p0)] []))
        exact K197 q15f
theorem own_e58 : (58 : Int32).toInt = 58 := by decide
theorem own_e65 : (65 : Int32).toInt = 65 := by decide
theorem own_e90 : (90 : Int32).toInt = 90 := by decide
theorem own_e95 : (95 : Int32).toInt = 95 := by decide
theorem own_e97 : (97 : Int32).toInt = 97 := by decide
theorem own_e122 : (122 : Int32).toInt = 122 := by decide
theorem own_e192 : (192 : Int32).toInt = 192 := by decide
theorem own_e214 : (214 : Int32).toInt = 214 := by decide
theorem own_e216 : (216 : Int32).toInt = 216 := by decide
theorem own_e246 : (246 : Int32).toInt = 246 := by decide
theorem own_e248 : (248 : Int32).toInt = 248 := by decide
theorem own_e767 : (767 : Int32).toInt = 767 := by decide
theorem own_e880 : (880 : Int32).toInt = 880 := by decide
theorem own_e893 : (893 : Int32).toInt = 893 := by decide
theorem own_e895 : (895 : Int32).toInt = 895 := by decide
theorem own_e8191 : (8191 : Int32).toInt = 8191 := by decide
theorem own_e8204 : (8204 : Int32).toInt = 8204 := by decide
theorem own_e8205 : (8205 : Int32).toInt = 8205 := by decide
theorem own_e8304 : (8304 : Int32).toInt = 8304 := by decide
theorem own_e8591 : (8591 : Int32).toInt = 8591 := by decide
theorem own_e11264 : (11264 : Int32).toInt = 11264 := by decide
theorem own_e12271 : (12271 : Int32).toInt = 12271 := by decide
theorem own_e12289 : (12289 : Int32).toInt = 12289 := by decide
theorem own_e55295 : (55295 : Int32).toInt = 55295 := by decide
theorem own_e63744 : (63744 : Int32).toInt = 63744 := by decide
theorem own_e64975 : (64975 : Int32).toInt = 64975 := by decide
theorem own_e65008 : (65008 : Int32).toInt = 65008 := by decide
theorem own_e65533 : (65533 : Int32).toInt = 65533 := by decide
theorem own_e65536 : (65536 : Int32).toInt = 65536 := by decide
theorem own_e983039 : (983039 : Int32).toInt = 983039 := by decide
def own_res : List (Int × Int) → Int → Int32
  | [], _ => 0
  | p :: t, z => if p.1 ≤ z ∧ z ≤ p.2 then 1 else own_res t z
theorem own_in1 (z : Int) : ∀ (t : List (Int × Int)) (p : Int × Int), p ∈ t → p.1 ≤ z → z ≤ p.2 → own_res t z = 1
  | [], _, h, _, _ => nomatch h
  | q :: t, p, h, h1, h2 => by
    unfold own_res
    by_cases c : q.1 ≤ z ∧ z ≤ q.2
    · rw [if_pos c]
    · rw [if_neg c]
      rcases List.mem_cons.mp h with rfl | h
      · exact absurd ⟨h1, h2⟩ c
      · exact own_in1 z t p h h1 h2
theorem own_out (z : Int) : ∀ (t : List (Int × Int)), (∀ p ∈ t, z < p.1 ∨ p.2 < z) → own_res t z = 0
  | [], _ => rfl
  | q :: t, h => by
    unfold own_res
    rw [if_neg (fun c => by have := h q (List.mem_cons_self ..); omega)]
    exact own_out z t fun p hp => h p (List.mem_cons_of_mem _ hp)
theorem own_blk {c lo hi : Int32} {A B : Int32} {l h : Int} (e1 : lo.toInt = l) (e2 : hi.toInt = h) (hB : B = 1) : (if c < lo then A else if hi < c then A else B) = if l ≤ c.toInt ∧ c.toInt ≤ h then 1 else A := by
  subst e1 e2 hB
  simp only [Int32.lt_iff_toInt_lt]
  by_cases g1 : c.toInt < lo.toInt
  · rw [if_pos g1, if_neg (by omega)]
  · by_cases g2 : hi.toInt < c.toInt
    · rw [if_neg g1, if_pos g2, if_neg (by omega)]
    · rw [if_neg g1, if_neg g2, if_pos (by omega)]
theorem own_blq {c k : Int32} {A B : Int32} {l : Int} (e1 : k.toInt = l) (hB : B = 1) : (if c = k then B else A) = if l ≤ c.toInt ∧ c.toInt ≤ l then 1 else A := by
  subst e1 hB
  simp only [← Int32.toInt_inj]
  by_cases g : c.toInt = k.toInt
  · rw [if_pos g, if_pos (by omega)]
  · rw [if_neg g, if_neg (by omega)]
def own_tab : List (Int × Int) := [(58, 58), (65, 90), (95, 95), (97, 122), (192, 214), (216, 246), (248, 767), (880, 893), (895, 8191), (8204, 8205), (8304, 8591), (11264, 12271), (12289, 55295), (63744, 64975), (65008, 65533), (65536, 983039)]
theorem own_ite {P : Prop} [Decidable P] {a b c : Int32} (h : b = c) : (if P then a else b) = if P then a else c := by rw [h]
theorem own_f1 (c : Int32) : f1 c = own_res own_tab c.toInt := by
  unfold own_tab
  unfold f1
  rw [own_blq (B := f1_197 c) own_e58 rfl, own_res]
  refine own_ite ?_
  rw [own_blk (B := f1_197 c) own_e65 own_e90 rfl, own_res]
  refine own_ite ?_
  unfold f1_18
  rw [own_blq (B := f1_197 c) own_e95 rfl, own_res]
  refine own_ite ?_
  rw [own_blk (B := f1_197 c) own_e97 own_e122 rfl, own_res]
  refine own_ite ?_
  unfold f1_36
  rw [own_blk (B := f1_197 c) own_e192 own_e214 rfl, own_res]
  refine own_ite ?_
  unfold f1_50
  rw [own_blk (B := f1_197 c) own_e216 own_e246 rfl, own_res]
  refine own_ite ?_
  unfold f1_64
  rw [own_blk (B := f1_197 c) own_e248 own_e767 rfl, own_res]
  refine own_ite ?_
  unfold f1_78
  rw [own_blk (B := f1_197 c) own_e880 own_e893 rfl, own_res]
  refine own_ite ?_
  unfold f1_92
  rw [own_blk (B := f1_197 c) own_e895 own_e8191 rfl, own_res]
  refine own_ite ?_
  unfold f1_106
  rw [own_blk (B := f1_197 c) own_e8204 own_e8205 rfl, own_res]
  refine own_ite ?_
  unfold f1_120
  rw [own_blk (B := f1_197 c) own_e8304 own_e8591 rfl, own_res]
  refine own_ite ?_
  unfold f1_134
  rw [own_blk (B := f1_197 c) own_e11264 own_e12271 rfl, own_res]
  refine own_ite ?_
  unfold f1_148
  rw [own_blk (B := f1_197 c) own_e12289 own_e55295 rfl, own_res]
  refine own_ite ?_
  unfold f1_161
  rw [own_blk (B := f1_197 c) own_e63744 own_e64975 rfl, own_res]
  refine own_ite ?_
  unfold f1_173
  rw [own_blk (B := f1_197 c) own_e65008 own_e65533 rfl, own_res]
  refine own_ite ?_
  unfold f1_185
  rw [own_blk (B := f1_197 c) own_e65536 own_e983039 rfl, own_res]
  refine own_ite ?_
  rfl
def own_lo : Nat → Int32 := fun i => ([58, 65, 95, 97, 192, 216, 248, 880, 895, 8204, 8304, 11264, 12289, 63744, 65008, 65536] : List Int32).getD i 0
def own_hi : Nat → Int32 := fun i => ([58, 90, 95, 122, 214, 246, 767, 893, 8191, 8205, 8591, 12271, 55295, 64975, 65533, 983039] : List Int32).getD i 0
def own_ok (fr to : Int64) (ins : Int32) : Prop := fr.toInt ≤ to.toInt ∧ -2147483648 ≤ fr.toInt ∧ to.toInt < 2147483648 ∧ ∀ c : Int32, fr.toInt ≤ c.toInt → c.toInt ≤ to.toInt → f1 c = ins
def own_c1 (fr to : Int) : Bool := decide (fr ≤ to) && decide (-2147483648 ≤ fr) && decide (to < 2147483648) && own_tab.any fun p => decide (p.1 ≤ fr) && decide (to ≤ p.2)
def own_c0 (fr to : Int) : Bool := decide (fr ≤ to) && decide (-2147483648 ≤ fr) && decide (to < 2147483648) && own_tab.all fun p => decide (to < p.1) || decide (p.2 < fr)
theorem own_ok1 {fr to : Int64} (h : own_c1 fr.toInt to.toInt = true) : own_ok fr to 1 := by
  simp only [own_c1, Bool.and_eq_true, decide_eq_true_eq, List.any_eq_true] at h
  obtain ⟨⟨⟨h1, h2⟩, h3⟩, p, hp, h4, h5⟩ := h
  exact ⟨h1, h2, h3, fun c g1 g2 => by rw [own_f1]; exact own_in1 _ _ p hp (by omega) (by omega)⟩
theorem own_ok0 {fr to : Int64} (h : own_c0 fr.toInt to.toInt = true) : own_ok fr to 0 := by
  simp only [own_c0, Bool.and_eq_true, decide_eq_true_eq, List.all_eq_true, Bool.or_eq_true] at h
  obtain ⟨⟨⟨h1, h2⟩, h3⟩, h4⟩ := h
  exact ⟨h1, h2, h3, fun c g1 g2 => by rw [own_f1]; exact own_out _ _ fun p hp => by have := h4 p hp; omega⟩
theorem own_rem33 (a : Int32) : 0 ≤ ((a &&& (63 : Int32)) % (33 : Int32)).toInt ∧ ((a &&& (63 : Int32)) % (33 : Int32)).toInt ≤ 32 := by
  have h := c_and a 63 (by decide)
  have g := (c_irem (a &&& (63 : Int32)) 33 33 (by decide)).1 h.1
  omega
theorem own_33 {s : Int32} (h0 : 0 ≤ s.toInt ∧ s.toInt ≤ 32) : ∃ k : Fin 33, s = Int32.ofNat k.1 := ⟨⟨s.toInt.toNat, by omega⟩, by
  apply Int32.toInt_inj.mp
  rw [Int32.toInt_ofNat_of_lt (by show s.toInt.toNat < _; omega)]
  show s.toInt = (s.toInt.toNat : Int); omega⟩
def own_g (s : Int32) : Int32 := s >>> ((1 : Int32) &&& 31)
theorem own_o1 {s : Int32} (h : 0 ≤ s.toInt ∧ s.toInt ≤ 32) (h1 : (s &&& (1 : Int32)) = (1 : Int32)) : ¬ (s >>> ((1 : Int32) &&& 31)) < 0 ∧ (s >>> ((1 : Int32) &&& 31)).toNatClampNeg < 16 := by
  obtain ⟨k, rfl⟩ := own_33 h; revert k; decide +kernel
theorem own_o2 {s : Int32} (h : 0 ≤ s.toInt ∧ s.toInt ≤ 32) (h1 : (s &&& (1 : Int32)) = (1 : Int32)) : own_ok (own_lo (s >>> ((1 : Int32) &&& 31)).toNatClampNeg).toInt64 (own_hi (s >>> ((1 : Int32) &&& 31)).toNatClampNeg).toInt64 1 := by
  apply own_ok1
  obtain ⟨k, rfl⟩ := own_33 h; revert k; decide +kernel
theorem own_g1 {s : Int32} (h : 0 ≤ s.toInt ∧ s.toInt ≤ 32) (h1 : ¬ (s >>> ((1 : Int32) &&& 31)) = (0 : Int32)) : ¬ ((s >>> ((1 : Int32) &&& 31)) - (1 : Int32)) < 0 ∧ ((s >>> ((1 : Int32) &&& 31)) - (1 : Int32)).toNatClampNeg < 16 := by
  obtain ⟨k, rfl⟩ := own_33 h; revert k; decide +kernel
theorem own_g2 {s : Int32} (h : 0 ≤ s.toInt ∧ s.toInt ≤ 32) (h1 : ¬ (s >>> ((1 : Int32) &&& 31)) = (16 : Int32)) : ¬ (s >>> ((1 : Int32) &&& 31)) < 0 ∧ (s >>> ((1 : Int32) &&& 31)).toNatClampNeg < 16 := by
  obtain ⟨k, rfl⟩ := own_33 h; revert k; decide +kernel
theorem own_v1 {s : Int32} (h : 0 ≤ s.toInt ∧ s.toInt ≤ 32) (h1 : ¬ (s &&& (1 : Int32)) = (1 : Int32)) (h2 : (s >>> ((1 : Int32) &&& 31)) = (0 : Int32)) (h3 : (s >>> ((1 : Int32) &&& 31)) = (16 : Int32)) : own_ok (-2147483648 : Int64) (2147483647 : Int64) 0 := by
  rw [h2] at h3; exact absurd h3 (by decide)
theorem own_v2 {s : Int32} (h : 0 ≤ s.toInt ∧ s.toInt ≤ 32) (h1 : ¬ (s &&& (1 : Int32)) = (1 : Int32)) (h2 : (s >>> ((1 : Int32) &&& 31)) = (0 : Int32)) (h3 : ¬ (s >>> ((1 : Int32) &&& 31)) = (16 : Int32)) : own_ok (-2147483648 : Int64) ((own_lo (s >>> ((1 : Int32) &&& 31)).toNatClampNeg).toInt64 - (1 : Int64)) 0 := by
  apply own_ok0
  obtain ⟨k, rfl⟩ := own_33 h; revert k; decide +kernel
theorem own_v3 {s : Int32} (h : 0 ≤ s.toInt ∧ s.toInt ≤ 32) (h1 : ¬ (s &&& (1 : Int32)) = (1 : Int32)) (h2 : ¬ (s >>> ((1 : Int32) &&& 31)) = (0 : Int32)) (h3 : (s >>> ((1 : Int32) &&& 31)) = (16 : Int32)) : own_ok ((own_hi ((s >>> ((1 : Int32) &&& 31)) - (1 : Int32)).toNatClampNeg).toInt64 + (1 : Int64)) (2147483647 : Int64) 0 := by
  apply own_ok0
  obtain ⟨k, rfl⟩ := own_33 h; revert k; decide +kernel
theorem own_v4 {s : Int32} (h : 0 ≤ s.toInt ∧ s.toInt ≤ 32) (h1 : ¬ (s &&& (1 : Int32)) = (1 : Int32)) (h2 : ¬ (s >>> ((1 : Int32) &&& 31)) = (0 : Int32)) (h3 : ¬ (s >>> ((1 : Int32) &&& 31)) = (16 : Int32)) : own_ok ((own_hi ((s >>> ((1 : Int32) &&& 31)) - (1 : Int32)).toNatClampNeg).toInt64 + (1 : Int64)) ((own_lo (s >>> ((1 : Int32) &&& 31)).toNatClampNeg).toInt64 - (1 : Int64)) 0 := by
  apply own_ok0
  obtain ⟨k, rfl⟩ := own_33 h; revert k; decide +kernel
theorem own_sz {fr to : Int64} {ins : Int32} (h : own_ok fr to ins) : ((to - fr) + (1 : Int64)).toInt = to.toInt - fr.toInt + 1 := by
  obtain ⟨h1, h2, h3, -⟩ := h
  have a := c_lsub to fr; have b := c_ladd (to - fr) 1
  have r1 := rng64 (to - fr); have r2 := rng64 ((to - fr) + 1)
  have e : (1 : Int64).toInt = 1 := by decide
  omega
theorem own_nz {fr to : Int64} {ins : Int32} (h : own_ok fr to ins) : ((to - fr) + (1 : Int64)) ≠ 0 := fun q => by
  have s := own_sz h; rw [q] at s; have e : (0 : Int64).toInt = 0 := by decide
  have := h.1; omega
theorem own_fin {fr to : Int64} {ins : Int32} (x : Int32) (h : own_ok fr to ins) : f1 ((fr + (((x.toInt64) &&& (4294967295 : Int64)) % ((to - fr) + (1 : Int64)))).toInt32) = ins := by
  have s := own_sz h
  obtain ⟨h1, h2, h3, h4⟩ := h
  have a := c_maskL x.toInt64 4294967295 32 (by decide) (by decide)
  have e : ((2 ^ 32 : Nat) : Int) = 4294967296 := by decide
  rw [e] at a
  have m : (((x.toInt64) &&& (4294967295 : Int64)) % ((to - fr) + (1 : Int64))).toInt = ((x.toInt64) &&& (4294967295 : Int64)).toInt % (to.toInt - fr.toInt + 1) := by
    rw [Int64.toInt_mod, s]; exact Int.tmod_eq_emod_of_nonneg (by omega)
  have m1 := Int.emod_nonneg ((x.toInt64) &&& (4294967295 : Int64)).toInt (b := to.toInt - fr.toInt + 1) (by omega)
  have m2 := Int.emod_lt_of_pos ((x.toInt64) &&& (4294967295 : Int64)).toInt (b := to.toInt - fr.toInt + 1) (by omega)
  have b := c_ladd fr (((x.toInt64) &&& (4294967295 : Int64)) % ((to - fr) + (1 : Int64)))
  have r1 := rng64 (fr + (((x.toInt64) &&& (4294967295 : Int64)) % ((to - fr) + (1 : Int64))))
  have d := c_l2i (fr + (((x.toInt64) &&& (4294967295 : Int64)) % ((to - fr) + (1 : Int64))))
  have r2 := rng32 (fr + (((x.toInt64) &&& (4294967295 : Int64)) % ((to - fr) + (1 : Int64)))).toInt32
  exact h4 _ (by omega) (by omega)
theorem own_pd0 : parseMethodDescriptor "(I)Z" = some ⟨[.int], some .boolean⟩ := by decide +kernel
theorem own_pn1 : plainName "com/example/tabularium/tabularium/io/XmlDocumentsIsNameStartPinLaw" = true := by first | (simp [plainName, overriddenIn]; done) | decide +kernel
theorem ef0 (m : MethodId) (p0 : Int32) (p1 : Int32) : entryFrame m #[(.int p0), (.int p1)] maxLocals = mkF m 0 #[.val (.int p0), .val (.int p1), .unset, .unset, .unset, .unset, .unset, .unset, .unset, .unset, .unset, .unset, .unset] [] := by first | (simp [entryFrame, mkF, argsToLocals, Value.category, maxLocals]; done) | rfl
def Q0 (Z : State) (p0 : Int32) (p1 : Int32) (h0 : Heap) (n0 : Nat) (v : Option Value) (h : Heap) (L : List Loc) : Prop := v = some (.int 1) ∧ Fr n0 L ∧ True
set_option maxRecDepth 65536 in
set_option maxHeartbeats 40000000 in
theorem rm0 (l : Launch) (Z : State) (a0 : Array Value) (hw : ∀ d ∈ tables_1, d.before a0 Z = true) (ws : List Jvm.Cond) (p0 : Int32) (p1 : Int32) (h0 : Heap) (n0 : Nat) (Z0 : n0 ≤ h0.size) :
    MetFree l x (head1 (Jvm.Cond.code x code maxLocals ret :: ws) room_1) (fun a U => a = #[(.int p0), (.int p1)] ∧ Z.Warmed39 U.vm ∧ U.heap = h0) (fun _ _ _ _ _ => True) (fun _ U o U' => ∃ v L, o = .returned v ∧ Q0 Z p0 p1 h0 n0 v U'.heap L ∧ FrameEnd U o U' L room_1.cells room_1.slots) := by
  refine MetFree.of_bodySF (plainFor_of_name own_pn1) hisR ?_
  intro p e s m args below meth c s₁ Bd hml0 hP hK
  obtain ⟨rfl, hZ, hh⟩ := hP
  have hx := Bd.exec
  have hby := Bd.bytes
  have hml : c.maxLocals = 13 := hml0
  have hown : s.vm.findClass "com/example/tabularium/tabularium/io/XmlDocumentsIsNameStartPinLaw" = some m.cls := findClass_of_methodNamed Bd.named
  have hnm := (name_of_methodNamed Bd.named Bd.method).1
  have hlk : meth.locks = false := BodyLoose.notSynchronized Bd
  have X0 : Stand p l e room_1 s m #[(.int p0), (.int p1)] below meth c s₁ [] 0 0 := Stand.of_body Bd
  have e0 : s₁.heap = h0 := by rw [← hh, Bd.state]; rfl
  have N0 := Fr.nil n0
  obtain ⟨G, hG⟩ : ∃ G, G = own_G s (Q0 Z p0 p1 h0 n0) room_1.cells room_1.slots := ⟨_, rfl⟩
  show own_Fin p e below (own_G s (Q0 Z p0 p1 h0 n0) room_1.cells room_1.slots) (s₁.setTop (entryFrame m #[(.int p0), (.int p1)] maxLocals))
  rw [← hG]
  refine own_to (fun _ kz => castTop (ef0 m p0 p1) kz) ?_
  show own_Fin p e below G (s₁.setTop (mkF m 0 #[.val (.int p0), .val (.int p1), .unset, .unset, .unset, .unset, .unset, .unset, .unset, .unset, .unset, .unset, .unset] []))
  refine own_to (fun _ kz => XS.bipush X0.here hx rfl (hb hby at_0) kz) ?_
  show own_Fin p e below G (s₁.setTop (mkF m 2 #[.val (.int p0), .val (.int p1), .unset, .unset, .unset, .unset, .unset, .unset, .unset, .unset, .unset, .unset, .unset] [(.int (16 : Int32))]))
  obtain ⟨T2, h2, k2, X2, e2, E2, A2, st2⟩ := newP X0 hx hZ (hw _ (List.mem_of_getElem? (i := 0) rfl)) e0 (g := (mkF m 2 #[.val (.int p0), .val (.int p1), .unset, .unset, .unset, .unset, .unset, .unset, .unset, .unset, .unset, .unset, .unset] [(.int (16 : Int32))])) rfl (hb hby at_2) rfl (by decide) (cap := 16) (by decide) (by decide) (by decide) (by decide)
  obtain ⟨b2, g2⟩ : ∃ z, z = h0.size := ⟨_, rfl⟩
  rw [← g2] at A2 st2
  refine own_to st2 ?_
  have g_b2 : n0 ≤ b2 := Nat.le_trans Z0 (Nat.le_of_eq g2.symm)
  have V2 : own_AV Value.int Z h2 b2 .int 16 (fun _ => (0 : Int32)) := own_AV.new A2 (by decide) (by decide) (fun _ => rfl)
  show own_Fin p e below G (T2.setTop (mkF m 4 #[.val (.int p0), .val (.int p1), .unset, .unset, .unset, .unset, .unset, .unset, .unset, .unset, .unset, .unset, .unset] [(.ref b2)]))
  refine own_to (fun _ kz => XS.dup X2.here hx rfl (hb hby at_4) rfl rfl kz) ?_
  show own_Fin p e below G (T2.setTop (mkF m 5 #[.val (.int p0), .val (.int p1), .unset, .unset, .unset, .unset, .unset, .unset, .unset, .unset, .unset, .unset, .unset] [(.ref b2), (.ref b2)]))
  refine own_to (fun _ kz => XS.iconst X2.here hx rfl (hb hby at_5) kz) ?_
  show own_Fin p e below G (T2.setTop (mkF m 6 #[.val (.int p0), .val (.int p1), .unset, .unset, .unset, .unset, .unset, .unset, .unset, .unset, .unset, .unset, .unset] [(.int (0 : Int32)), (.ref b2), (.ref b2)]))
  refine own_to (fun _ kz => XS.bipush X2.here hx rfl (hb hby at_6) kz) ?_
  show own_Fin p e below G (T2.setTop (mkF m 8 #[.val (.int p0), .val (.int p1), .unset, .unset, .unset, .unset, .unset, .unset, .unset, .unset, .unset, .unset, .unset] [(.int (58 : Int32)), (.int (0 : Int32)), (.ref b2), (.ref b2)]))
  obtain ⟨nn8, cl8, Ar8, Sz8, Hs8⟩ := V2
  obtain ⟨T8, h8, X8, e8, W8, st8⟩ := stI X2 hx hZ e2 Ar8 (j := (0 : Int32)) (own_in Sz8 (by decide) rfl (by decide)) (g := (mkF m 8 #[.val (.int p0), .val (.int p1), .unset, .unset, .unset, .unset, .unset, .unset, .unset, .unset, .unset, .unset, .unset] [(.int (58 : Int32)), (.int (0 : Int32)), (.ref b2), (.ref b2)])) rfl rfl (hb hby at_8)
  refine own_to st8 ?_
  have V8 : own_AV Value.int Z h8 b2 .int 16 (own_upd (fun _ => (0 : Int32)) 0 (58 : Int32)) := own_AV.set nn8 Ar8 Sz8 Hs8 W8 rfl
  obtain ⟨lo8, X8, N8⟩ : ∃ lo, Stand p l e _ s m _ below meth c T8 lo _ _ ∧ Fr n0 lo := ⟨_, X8, Fr.snoc X8 N0 g_b2⟩
  show own_Fin p e below G (T8.setTop (mkF m 9 #[.val (.int p0), .val (.int p1), .unset, .unset, .unset, .unset, .unset, .unset, .unset, .unset, .unset, .unset, .unset] [(.ref b2)]))
  refine own_to (fun _ kz => XS.dup X8.here hx rfl (hb hby at_9) rfl rfl kz) ?_
  show own_Fin p e below G (T8.setTop (mkF m 10 #[.val (.int p0), .val (.int p1), .unset, .unset, .unset, .unset, .unset, .unset, .unset, .unset, .unset, .unset, .unset] [(.ref b2), (.ref b2)]))
  refine own_to (fun _ kz => XS.iconst X8.here hx rfl (hb hby at_10) kz) ?_
  show own_Fin p e below G (T8.setTop (mkF m 11 #[.val (.int p0), .val (.int p1), .unset, .unset, .unset, .unset, .unset, .unset, .unset, .unset, .unset, .unset, .unset] [(.int (1 : Int32)), (.ref b2), (.ref b2)]))
  refine own_to (fun _ kz => XS.bipush X8.here hx rfl (hb hby at_11) kz) ?_
  show own_Fin p e below G (T8.setTop (mkF m 13 #[.val (.int p0), .val (.int p1), .unset, .unset, .unset, .unset, .unset, .unset, .unset, .unset, .unset, .unset, .unset] [(.int (65 : Int32)), (.int (1 : Int32)), (.ref b2), (.ref b2)]))
  obtain ⟨nn13, cl13, Ar13, Sz13, Hs13⟩ := V8
  obtain ⟨T13, h13, X13, e13, W13, st13⟩ := stI X8 hx hZ e8 Ar13 (j := (1 : Int32)) (own_in Sz13 (by decide) rfl (by decide)) (g := (mkF m 13 #[.val (.int p0), .val (.int p1), .unset, .unset, .unset, .unset, .unset, .unset, .unset, .unset, .unset, .unset, .unset] [(.int (65 : Int32)), (.int (1 : Int32)), (.ref b2), (.ref b2)])) rfl rfl (hb hby at_13)
  refine own_to st13 ?_
  have V13 : own_AV Value.int Z h13 b2 .int 16 (own_upd (own_upd (fun _ => (0 : Int32)) 0 (58 : Int32)) 1 (65 : Int32)) := own_AV.set nn13 Ar13 Sz13 Hs13 W13 rfl
  obtain ⟨lo13, X13, N13⟩ : ∃ lo, Stand p l e _ s m _ below meth c T13 lo _ _ ∧ Fr n0 lo := ⟨_, X13, Fr.snoc X13 N8 g_b2⟩
  show own_Fin p e below G (T13.setTop (mkF m 14 #[.val (.int p0), .val (.int p1), .unset, .unset, .unset, .unset, .unset, .unset, .unset, .unset, .unset, .unset, .unset] [(.ref b2)]))
  refine own_to (fun _ kz => XS.dup X13.here hx rfl (hb hby at_14) rfl rfl kz) ?_
  show own_Fin p e below G (T13.setTop (mkF m 15 #[.val (.int p0), .val (.int p1), .unset, .unset, .unset, .unset, .unset, .unset, .unset, .unset, .unset, .unset, .unset] [(.ref b2), (.ref b2)]))
  refine own_to (fun _ kz => XS.iconst X13.here hx rfl (hb hby at_15) kz) ?_
  show own_Fin p e below G (T13.setTop (mkF m 16 #[.val (.int p0), .val (.int p1), .unset, .unset, .unset, .unset, .unset, .unset, .unset, .unset, .unset, .unset, .unset] [(.int (2 : Int32)), (.ref b2), (.ref b2)]))
  refine own_to (fun _ kz => XS.bipush X13.here hx rfl (hb hby at_16) kz) ?_
  show own_Fin p e below G (T13.setTop (mkF m 18 #[.val (.int p0), .val (.int p1), .unset, .unset, .unset, .unset, .unset, .unset, .unset, .unset, .unset, .unset, .unset] [(.int (95 : Int32)), (.int (2 : Int32)), (.ref b2), (.ref b2)]))
  obtain ⟨nn18, cl18, Ar18, Sz18, Hs18⟩ := V13
  obtain ⟨T18, h18, X18, e18, W18, st18⟩ := stI X13 hx hZ e13 Ar18 (j := (2 : Int32)) (own_in Sz18 (by decide) rfl (by decide)) (g := (mkF m 18 #[.val (.int p0), .val (.int p1), .unset, .unset, .unset, .unset, .unset, .unset, .unset, .unset, .unset, .unset, .unset] [(.int (95 : Int32)), (.int (2 : Int32)), (.ref b2), (.ref b2)])) rfl rfl (hb hby at_18)
  refine own_to st18 ?_
  have V18 : own_AV Value.int Z h18 b2 .int 16 (own_upd (own_upd (own_upd (fun _ => (0 : Int32)) 0 (58 : Int32)) 1 (65 : Int32)) 2 (95 : Int32)) := own_AV.set nn18 Ar18 Sz18 Hs18 W18 rfl
  obtain ⟨lo18, X18, N18⟩ : ∃ lo, Stand p l e _ s m _ below meth c T18 lo _ _ ∧ Fr n0 lo := ⟨_, X18, Fr.snoc X18 N13 g_b2⟩
  show own_Fin p e below G (T18.setTop (mkF m 19 #[.val (.int p0), .val (.int p1), .unset, .unset, .unset, .unset, .unset, .unset, .unset, .unset, .unset, .unset, .unset] [(.ref b2)]))
  refine own_to (fun _ kz => XS.dup X18.here hx rfl (hb hby at_19) rfl rfl kz) ?_
  show own_Fin p e below G (T18.setTop (mkF m 20 #[.val (.int p0), .val (.int p1), .unset, .unset, .unset, .unset, .unset, .unset, .unset, .unset, .unset, .unset, .unset] [(.ref b2), (.ref b2)]))
  refine own_to (fun _ kz => XS.iconst X18.here hx rfl (hb hby at_20) kz) ?_
  show own_Fin p e below G (T18.setTop (mkF m 21 #[.val (.int p0), .val (.int p1), .unset, .unset, .unset, .unset, .unset, .unset, .unset, .unset, .unset, .unset, .unset] [(.int (3 : Int32)), (.ref b2), (.ref b2)]))
  refine own_to (fun _ kz => XS.bipush X18.here hx rfl (hb hby at_21) kz) ?_
  show own_Fin p e below G (T18.setTop (mkF m 23 #[.val (.int p0), .val (.int p1), .unset, .unset, .unset, .unset, .unset, .unset, .unset, .unset, .unset, .unset, .unset] [(.int (97 : Int32)), (.int (3 : Int32)), (.ref b2), (.ref b2)]))
  obtain ⟨nn23, cl23, Ar23, Sz23, Hs23⟩ := V18
  obtain ⟨T23, h23, X23, e23, W23, st23⟩ := stI X18 hx hZ e18 Ar23 (j := (3 : Int32)) (own_in Sz23 (by decide) rfl (by decide)) (g := (mkF m 23 #[.val (.int p0), .val (.int p1), .unset, .unset, .unset, .unset, .unset, .unset, .unset, .unset, .unset, .unset, .unset] [(.int (97 : Int32)), (.int (3 : Int32)), (.ref b2), (.ref b2)])) rfl rfl (hb hby at_23)
  refine own_to st23 ?_
  have V23 : own_AV Value.int Z h23 b2 .int 16 (own_upd (own_upd (own_upd (own_upd (fun _ => (0 : Int32)) 0 (58 : Int32)) 1 (65 : Int32)) 2 (95 : Int32)) 3 (97 : Int32)) := own_AV.set nn23 Ar23 Sz23 Hs23 W23 rfl
  obtain ⟨lo23, X23, N23⟩ : ∃ lo, Stand p l e _ s m _ below meth c T23 lo _ _ ∧ Fr n0 lo := ⟨_, X23, Fr.snoc X23 N18 g_b2⟩
  show own_Fin p e below G (T23.setTop (mkF m 24 #[.val (.int p0), .val (.int p1), .unset, .unset, .unset, .unset, .unset, .unset, .unset, .unset, .unset, .unset, .unset] [(.ref b2)]))
  refine own_to (fun _ kz => XS.dup X23.here hx rfl (hb hby at_24) rfl rfl kz) ?_
  show own_Fin p e below G (T23.setTop (mkF m 25 #[.val (.int p0), .val (.int p1), .unset, .unset, .unset, .unset, .unset, .unset, .unset, .unset, .unset, .unset, .unset] [(.ref b2), (.ref b2)]))
  refine own_to (fun _ kz => XS.iconst X23.here hx rfl (hb hby at_25) kz) ?_
  show own_Fin p e below G (T23.setTop (mkF m 26 #[.val (.int p0), .val (.int p1), .unset, .unset, .unset, .unset, .unset, .unset, .unset, .unset, .unset, .unset, .unset] [(.int (4 : Int32)), (.ref b2), (.ref b2)]))
  refine own_to (fun _ kz => XS.sipush X23.here hx rfl (hb hby at_26) kz) ?_
  show own_Fin p e below G (T23.setTop (mkF m 29 #[.val (.int p0), .val (.int p1), .unset, .unset, .unset, .unset, .unset, .unset, .unset, .unset, .unset, .unset, .unset] [(.int (192 : Int32)), (.int (4 : Int32)), (.ref b2), (.ref b2)]))
  obtain ⟨nn29, cl29, Ar29, Sz29, Hs29⟩ := V23
  obtain ⟨T29, h29, X29, e29, W29, st29⟩ := stI X23 hx hZ e23 Ar29 (j := (4 : Int32)) (own_in Sz29 (by decide) rfl (by decide)) (g := (mkF m 29 #[.val (.int p0), .val (.int p1), .unset, .unset, .unset, .unset, .unset, .unset, .unset, .unset, .unset, .unset, .unset] [(.int (192 : Int32)), (.int (4 : Int32)), (.ref b2), (.ref b2)])) rfl rfl (hb hby at_29)
  refine own_to st29 ?_
  have V29 : own_AV Value.int Z h29 b2 .int 16 (own_upd (own_upd (own_upd (own_upd (own_upd (fun _ => (0 : Int32)) 0 (58 : Int32)) 1 (65 : Int32)) 2 (95 : Int32)) 3 (97 : Int32)) 4 (192 : Int32)) := own_AV.set nn29 Ar29 Sz29 Hs29 W29 rfl
  obtain ⟨lo29, X29, N29⟩ : ∃ lo, Stand p l e _ s m _ below meth c T29 lo _ _ ∧ Fr n0 lo := ⟨_, X29, Fr.snoc X29 N23 g_b2⟩
  show own_Fin p e below G (T29.setTop (mkF m 30 #[.val (.int p0), .val (.int p1), .unset, .unset, .unset, .unset, .unset, .unset, .unset, .unset, .unset, .unset, .unset] [(.ref b2)]))
  refine own_to (fun _ kz => XS.dup X29.here hx rfl (hb hby at_30) rfl rfl kz) ?_
  show own_Fin p e below G (T29.setTop (mkF m 31 #[.val (.int p0), .val (.int p1), .unset, .unset, .unset, .unset, .unset, .unset, .unset, .unset, .unset, .unset, .unset] [(.ref b2), (.ref b2)]))
  refine own_to (fun _ kz => XS.iconst X29.here hx rfl (hb hby at_31) kz) ?_
  show own_Fin p e below G (T29.setTop (mkF m 32 #[.val (.int p0), .val (.int p1), .unset, .unset, .unset, .unset, .unset, .unset, .unset, .unset, .unset, .unset, .unset] [(.int (5 : Int32)), (.ref b2), (.ref b2)]))
  refine own_to (fun _ kz => XS.sipush X29.here hx rfl (hb hby at_32) kz) ?_
  show own_Fin p e below G (T29.setTop (mkF m 35 #[.val (.int p0), .val (.int p1), .unset, .unset, .unset, .unset, .unset, .unset, .unset, .unset, .unset, .unset, .unset] [(.int (216 : Int32)), (.int (5 : Int32)), (.ref b2), (.ref b2)]))
  obtain ⟨nn35, cl35, Ar35, Sz35, Hs35⟩ := V29
  obtain ⟨T35, h35, X35, e35, W35, st35⟩ := stI X29 hx hZ e29 Ar35 (j := (5 : Int32)) (own_in Sz35 (by decide) rfl (by decide)) (g := (mkF m 35 #[.val (.int p0), .val (.int p1), .unset, .unset, .unset, .unset, .unset, .unset, .unset, .unset, .unset, .unset, .unset] [(.int (216 : Int32)), (.int (5 : Int32)), (.ref b2), (.ref b2)])) rfl rfl (hb hby at_35)
  refine own_to st35 ?_
  have V35 : own_AV Value.int Z h35 b2 .int 16 (own_upd (own_upd (own_upd (own_upd (own_upd (own_upd (fun _ => (0 : Int32)) 0 (58 : Int32)) 1 (65 : Int32)) 2 (95 : Int32)) 3 (97 : Int32)) 4 (192 : Int32)) 5 (216 : Int32)) := own_AV.set nn35 Ar35 Sz35 Hs35 W35 rfl
  obtain ⟨lo35, X35, N35⟩ : ∃ lo, Stand p l e _ s m _ below meth c T35 lo _ _ ∧ Fr n0 lo := ⟨_, X35, Fr.snoc X35 N29 g_b2⟩
  show own_Fin p e below G (T35.setTop (mkF m 36 #[.val (.int p0), .val (.int p1), .unset, .unset, .unset, .unset, .unset, .unset, .unset, .unset, .unset, .unset, .unset] [(.ref b2)]))
  refine own_to (fun _ kz => XS.dup X35.here hx rfl (hb hby at_36) rfl rfl kz) ?_
  show own_Fin p e below G (T35.setTop (mkF m 37 #[.val (.int p0), .val (.int p1), .unset, .unset, .unset, .unset, .unset, .unset, .unset, .unset, .unset, .unset, .unset] [(.ref b2), (.ref b2)]))
  refine own_to (fun _ kz => XS.bipush X35.here hx rfl (hb hby at_37) kz) ?_
  show own_Fin p e below G (T35.setTop (mkF m 39 #[.val (.int p0), .val (.int p1), .unset, .unset, .unset, .unset, .unset, .unset, .unset, .unset, .unset, .unset, .unset] [(.int (6 : Int32)), (.ref b2), (.ref b2)]))
  refine own_to (fun _ kz => XS.sipush X35.here hx rfl (hb hby at_39) kz) ?_
  show own_Fin p e below G (T35.setTop (mkF m 42 #[.val (.int p0), .val (.int p1), .unset, .unset, .unset, .unset, .unset, .unset, .unset, .unset, .unset, .unset, .unset] [(.int (248 : Int32)), (.int (6 : Int32)), (.ref b2), (.ref b2)]))
  obtain ⟨nn42, cl42, Ar42, Sz42, Hs42⟩ := V35
  obtain ⟨T42, h42, X42, e42, W42, st42⟩ := stI X35 hx hZ e35 Ar42 (j := (6 : Int32)) (own_in Sz42 (by decide) rfl (by decide)) (g := (mkF m 42 #[.val (.int p0), .val (.int p1), .unset, .unset, .unset, .unset, .unset, .unset, .unset, .unset, .unset, .unset, .unset] [(.int (248 : Int32)), (.int (6 : Int32)), (.ref b2), (.ref b2)])) rfl rfl (hb hby at_42)
  refine own_to st42 ?_
  have V42 : own_AV Value.int Z h42 b2 .int 16 (own_upd (own_upd (own_upd (own_upd (own_upd (own_upd (own_upd (fun _ => (0 : Int32)) 0 (58 : Int32)) 1 (65 : Int32)) 2 (95 : Int32)) 3 (97 : Int32)) 4 (192 : Int32)) 5 (216 : Int32)) 6 (248 : Int32)) := own_AV.set nn42 Ar42 Sz42 Hs42 W42 rfl
  obtain ⟨lo42, X42, N42⟩ : ∃ lo, Stand p l e _ s m _ below meth c T42 lo _ _ ∧ Fr n0 lo := ⟨_, X42, Fr.snoc X42 N35 g_b2⟩
  show own_Fin p e below G (T42.setTop (mkF m 43 #[.val (.int p0), .val (.int p1), .unset, .unset, .unset, .unset, .unset, .unset, .unset, .unset, .unset, .unset, .unset] [(.ref b2)]))
  refine own_to (fun _ kz => XS.dup X42.here hx rfl (hb hby at_43) rfl rfl kz) ?_
  show own_Fin p e below G (T42.setTop (mkF m 44 #[.val (.int p0), .val (.int p1), .unset, .unset, .unset, .unset, .unset, .unset, .unset, .unset, .unset, .unset, .unset] [(.ref b2), (.ref b2)]))
  refine own_to (fun _ kz => XS.bipush X42.here hx rfl (hb hby at_44) kz) ?_
  show own_Fin p e below G (T42.setTop (mkF m 46 #[.val (.int p0), .val (.int p1), .unset, .unset, .unset, .unset, .unset, .unset, .unset, .unset, .unset, .unset, .unset] [(.int (7 : Int32)), (.ref b2), (.ref b2)]))
  refine own_to (fun _ kz => XS.sipush X42.here hx rfl (hb hby at_46) kz) ?_
  show own_Fin p e below G (T42.setTop (mkF m 49 #[.val (.int p0), .val (.int p1), .unset, .unset, .unset, .unset, .unset, .unset, .unset, .unset, .unset, .unset, .unset] [(.int (880 : Int32)), (.int (7 : Int32)), (.ref b2), (.ref b2)]))
  obtain ⟨nn49, cl49, Ar49, Sz49, Hs49⟩ := V42
  obtain ⟨T49, h49, X49, e49, W49, st49⟩ := stI X42 hx hZ e42 Ar49 (j := (7 : Int32)) (own_in Sz49 (by decide) rfl (by decide)) (g := (mkF m 49 #[.val (.int p0), .val (.int p1), .unset, .unset, .unset, .unset, .unset, .unset, .unset, .unset, .unset, .unset, .unset] [(.int (880 : Int32)), (.int (7 : Int32)), (.ref b2), (.ref b2)])) rfl rfl (hb hby at_49)
  refine own_to st49 ?_
  have V49 : own_AV Value.int Z h49 b2 .int 16 (own_upd (own_upd (own_upd (own_upd (own_upd (own_upd (own_upd (own_upd (fun _ => (0 : Int32)) 0 (58 : Int32)) 1 (65 : Int32)) 2 (95 : Int32)) 3 (97 : Int32)) 4 (192 : Int32)) 5 (216 : Int32)) 6 (248 : Int32)) 7 (880 : Int32)) := own_AV.set nn49 Ar49 Sz49 Hs49 W49 rfl
  obtain ⟨lo49, X49, N49⟩ : ∃ lo, Stand p l e _ s m _ below meth c T49 lo _ _ ∧ Fr n0 lo := ⟨_, X49, Fr.snoc X49 N42 g_b2⟩
  show own_Fin p e below G (T49.setTop (mkF m 50 #[.val (.int p0), .val (.int p1), .unset, .unset, .unset, .unset, .unset, .unset, .unset, .unset, .unset, .unset, .unset] [(.ref b2)]))
  refine own_to (fun _ kz => XS.dup X49.here hx rfl (hb hby at_50) rfl rfl kz) ?_
  show own_Fin p e below G (T49.setTop (mkF m 51 #[.val (.int p0), .val (.int p1), .unset, .unset, .unset, .unset, .unset, .unset, .unset, .unset, .unset, .unset, .unset] [(.ref b2), (.ref b2)]))
  refine own_to (fun _ kz => XS.bipush X49.here hx rfl (hb hby at_51) kz) ?_
  show own_Fin p e below G (T49.setTop (mkF m 53 #[.val (.int p0), .val (.int p1), .unset, .unset, .unset, .unset, .unset, .unset, .unset, .unset, .unset, .unset, .unset] [(.int (8 : Int32)), (.ref b2), (.ref b2)]))
  refine own_to (fun _ kz => XS.sipush X49.here hx rfl (hb hby at_53) kz) ?_
  show own_Fin p e below G (T49.setTop (mkF m 56 #[.val (.int p0), .val (.int p1), .unset, .unset, .unset, .unset, .unset, .unset, .unset, .unset, .unset, .unset, .unset] [(.int (895 : Int32)), (.int (8 : Int32)), (.ref b2), (.ref b2)]))
  obtain ⟨nn56, cl56, Ar56, Sz56, Hs56⟩ := V49
  obtain ⟨T56, h56, X56, e56, W56, st56⟩ := stI X49 hx hZ e49 Ar56 (j := (8 : Int32)) (own_in Sz56 (by decide) rfl (by decide)) (g := (mkF m 56 #[.val (.int p0), .val (.int p1), .unset, .unset, .unset, .unset, .unset, .unset, .unset, .unset, .unset, .unset, .unset] [(.int (895 : Int32)), (.int (8 : Int32)), (.ref b2), (.ref b2)])) rfl rfl (hb hby at_56)
  refine own_to st56 ?_
  have V56 : own_AV Value.int Z h56 b2 .int 16 (own_upd (own_upd (own_upd (own_upd (own_upd (own_upd (own_upd (own_upd (own_upd (fun _ => (0 : Int32)) 0 (58 : Int32)) 1 (65 : Int32)) 2 (95 : Int32)) 3 (97 : Int32)) 4 (192 : Int32)) 5 (216 : Int32)) 6 (248 : Int32)) 7 (880 : Int32)) 8 (895 : Int32)) := own_AV.set nn56 Ar56 Sz56 Hs56 W56 rfl
  obtain ⟨lo56, X56, N56⟩ : ∃ lo, Stand p l e _ s m _ below meth c T56 lo _ _ ∧ Fr n0 lo := ⟨_, X56, Fr.snoc X56 N49 g_b2⟩
  show own_Fin p e below G (T56.setTop (mkF m 57 #[.val (.int p0), .val (.int p1), .unset, .unset, .unset, .unset, .unset, .unset, .unset, .unset, .unset, .unset, .unset] [(.ref b2)]))
  refine own_to (fun _ kz => XS.dup X56.here hx rfl (hb hby at_57) rfl rfl kz) ?_
  show own_Fin p e below G (T56.setTop (mkF m 58 #[.val (.int p0), .val (.int p1), .unset, .unset, .unset, .unset, .unset, .unset, .unset, .unset, .unset, .unset, .unset] [(.ref b2), (.ref b2)]))
  refine own_to (fun _ kz => XS.bipush X56.here hx rfl (hb hby at_58) kz) ?_
  show own_Fin p e below G (T56.setTop (mkF m 60 #[.val (.int p0), .val (.int p1), .unset, .unset, .unset, .unset, .unset, .unset, .unset, .unset, .unset, .unset, .unset] [(.int (9 : Int32)), (.ref b2), (.ref b2)]))
  refine own_to (fun _ kz => XS.sipush X56.here hx rfl (hb hby at_60) kz) ?_
  show own_Fin p e below G (T56.setTop (mkF m 63 #[.val (.int p0), .val (.int p1), .unset, .unset, .unset, .unset, .unset, .unset, .unset, .unset, .unset, .unset, .unset] [(.int (8204 : Int32)), (.int (9 : Int32)), (.ref b2), (.ref b2)]))
  obtain ⟨nn63, cl63, Ar63, Sz63, Hs63⟩ := V56
  obtain ⟨T63, h63, X63, e63, W63, st63⟩ := stI X56 hx hZ e56 Ar63 (j := (9 : Int32)) (own_in Sz63 (by decide) rfl (by decide)) (g := (mkF m 63 #[.val (.int p0), .val (.int p1), .unset, .unset, .unset, .unset, .unset, .unset, .unset, .unset, .unset, .unset, .unset] [(.int (8204 : Int32)), (.int (9 : Int32)), (.ref b2), (.ref b2)])) rfl rfl (hb hby at_63)
  refine own_to st63 ?_
  have V63 : own_AV Value.int Z h63 b2 .int 16 (own_upd (own_upd (own_upd (own_upd (own_upd (own_upd (own_upd (own_upd (own_upd (own_upd (fun _ => (0 : Int32)) 0 (58 : Int32)) 1 (65 : Int32)) 2 (95 : Int32)) 3 (97 : Int32)) 4 (192 : Int32)) 5 (216 : Int32)) 6 (248 : Int32)) 7 (880 : Int32)) 8 (895 : Int32)) 9 (8204 : Int32)) := own_AV.set nn63 Ar63 Sz63 Hs63 W63 rfl
  obtain ⟨lo63, X63, N63⟩ : ∃ lo, Stand p l e _ s m _ below meth c T63 lo _ _ ∧ Fr n0 lo := ⟨_, X63, Fr.snoc X63 N56 g_b2⟩
  show own_Fin p e below G (T63.setTop (mkF m 64 #[.val (.int p0), .val (.int p1), .unset, .unset, .unset, .unset, .unset, .unset, .unset, .unset, .unset, .unset, .unset] [(.ref b2)]))
  refine own_to (fun _ kz => XS.dup X63.here hx rfl (hb hby at_64) rfl rfl kz) ?_
  show own_Fin p e below G (T63.setTop (mkF m 65 #[.val (.int p0), .val (.int p1), .unset, .unset, .unset, .unset, .unset, .unset, .unset, .unset, .unset, .unset, .unset] [(.ref b2), (.ref b2)]))
  refine own_to (fun _ kz => XS.bipush X63.here hx rfl (hb hby at_65) kz) ?_
  show own_Fin p e below G (T63.setTop (mkF m 67 #[.val (.int p0), .val (.int p1), .unset, .unset, .unset, .unset, .unset, .unset, .unset, .unset, .unset, .unset, .unset] [(.int (10 : Int32)), (.ref b2), (.ref b2)]))
  refine own_to (fun _ kz => XS.sipush X63.here hx rfl (hb hby at_67) kz) ?_
  show own_Fin p e below G (T63.setTop (mkF m 70 #[.val (.int p0), .val (.int p1), .unset, .unset, .unset, .unset, .unset, .unset, .unset, .unset, .unset, .unset, .unset] [(.int (8304 : Int32)), (.int (10 : Int32)), (.ref b2), (.ref b2)]))
  obtain ⟨nn70, cl70, Ar70, Sz70, Hs70⟩ := V63
  obtain ⟨T70, h70, X70, e70, W70, st70⟩ := stI X63 hx hZ e63 Ar70 (j := (10 : Int32)) (own_in Sz70 (by decide) rfl (by decide)) (g := (mkF m 70 #[.val (.int p0), .val (.int p1), .unset, .unset, .unset, .unset, .unset, .unset, .unset, .unset, .unset, .unset, .unset] [(.int (8304 : Int32)), (.int (10 : Int32)), (.ref b2), (.ref b2)])) rfl rfl (hb hby at_70)
  refine own_to st70 ?_
  have V70 : own_AV Value.int Z h70 b2 .int 16 (own_upd (own_upd (own_upd (own_upd (own_upd (own_upd (own_upd (own_upd (own_upd (own_upd (own_upd (fun _ => (0 : Int32)) 0 (58 : Int32)) 1 (65 : Int32)) 2 (95 : Int32)) 3 (97 : Int32)) 4 (192 : Int32)) 5 (216 : Int32)) 6 (248 : Int32)) 7 (880 : Int32)) 8 (895 : Int32)) 9 (8204 : Int32)) 10 (8304 : Int32)) := own_AV.set nn70 Ar70 Sz70 Hs70 W70 rfl
  obtain ⟨lo70, X70, N70⟩ : ∃ lo, Stand p l e _ s m _ below meth c T70 lo _ _ ∧ Fr n0 lo := ⟨_, X70, Fr.snoc X70 N63 g_b2⟩
  show own_Fin p e below G (T70.setTop (mkF m 71 #[.val (.int p0), .val (.int p1), .unset, .unset, .unset, .unset, .unset, .unset, .unset, .unset, .unset, .unset, .unset] [(.ref b2)]))
  refine own_to (fun _ kz => XS.dup X70.here hx rfl (hb hby at_71) rfl rfl kz) ?_
  show own_Fin p e below G (T70.setTop (mkF m 72 #[.val (.int p0), .val (.int p1), .unset, .unset, .unset, .unset, .unset, .unset, .unset, .unset, .unset, .unset, .unset] [(.ref b2), (.ref b2)]))
  refine own_to (fun _ kz => XS.bipush X70.here hx rfl (hb hby at_72) kz) ?_
  show own_Fin p e below G (T70.setTop (mkF m 74 #[.val (.int p0), .val (.int p1), .unset, .unset, .unset, .unset, .unset, .unset, .unset, .unset, .unset, .unset, .unset] [(.int (11 : Int32)), (.ref b2), (.ref b2)]))
  refine own_to (fun _ kz => XS.sipush X70.here hx rfl (hb hby at_74) kz) ?_
  show own_Fin p e below G (T70.setTop (mkF m 77 #[.val (.int p0), .val (.int p1), .unset, .unset, .unset, .unset, .unset, .unset, .unset, .unset, .unset, .unset, .unset] [(.int (11264 : Int32)), (.int (11 : Int32)), (.ref b2), (.ref b2)]))
  obtain ⟨nn77, cl77, Ar77, Sz77, Hs77⟩ := V70
  obtain ⟨T77, h77, X77, e77, W77, st77⟩ := stI X70 hx hZ e70 Ar77 (j := (11 : Int32)) (own_in Sz77 (by decide) rfl (by decide)) (g := (mkF m 77 #[.val (.int p0), .val (.int p1), .unset, .unset, .unset, .unset, .unset, .unset, .unset, .unset, .unset, .unset, .unset] [(.int (11264 : Int32)), (.int (11 : Int32)), (.ref b2), (.ref b2)])) rfl rfl (hb hby at_77)
  refine own_to st77 ?_
  have V77 : own_AV Value.int Z h77 b2 .int 16 (own_upd (own_upd (own_upd (own_upd (own_upd (own_upd (own_upd (own_upd (own_upd (own_upd (own_upd (own_upd (fun _ => (0 : Int32)) 0 (58 : Int32)) 1 (65 : Int32)) 2 (95 : Int32)) 3 (97 : Int32)) 4 (192 : Int32)) 5 (216 : Int32)) 6 (248 : Int32)) 7 (880 : Int32)) 8 (895 : Int32)) 9 (8204 : Int32)) 10 (8304 : Int32)) 11 (11264 : Int32)) := own_AV.set nn77 Ar77 Sz77 Hs77 W77 rfl
  obtain ⟨lo77, X77, N77⟩ : ∃ lo, Stand p l e _ s m _ below meth c T77 lo _ _ ∧ Fr n0 lo := ⟨_, X77, Fr.snoc X77 N70 g_b2⟩
  show own_Fin p e below G (T77.setTop (mkF m 78 #[.val (.int p0), .val (.int p1), .unset, .unset, .unset, .unset, .unset, .unset, .unset, .unset, .unset, .unset, .unset] [(.ref b2)]))
  refine own_to (fun _ kz => XS.dup X77.here hx rfl (hb hby at_78) rfl rfl kz) ?_
  show own_Fin p e below G (T77.setTop (mkF m 79 #[.val (.int p0), .val (.int p1), .unset, .unset, .unset, .unset, .unset, .unset, .unset, .unset, .unset, .unset, .unset] [(.ref b2), (.ref b2)]))
  refine own_to (fun _ kz => XS.bipush X77.here hx rfl (hb hby at_79) kz) ?_
  show own_Fin p e below G (T77.setTop (mkF m 81 #[.val (.int p0), .val (.int p1), .unset, .unset, .unset, .unset, .unset, .unset, .unset, .unset, .unset, .unset, .unset] [(.int (12 : Int32)), (.ref b2), (.ref b2)]))
  refine own_to (fun _ kz => XS.sipush X77.here hx rfl (hb hby at_81) kz) ?_
  show own_Fin p e below G (T77.setTop (mkF m 84 #[.val (.int p0), .val (.int p1), .unset, .unset, .unset, .unset, .unset, .unset, .unset, .unset, .unset, .unset, .unset] [(.int (12289 : Int32)), (.int (12 : Int32)), (.ref b2), (.ref b2)]))
  obtain ⟨nn84, cl84, Ar84, Sz84, Hs84⟩ := V77
  obtain ⟨T84, h84, X84, e84, W84, st84⟩ := stI X77 hx hZ e77 Ar84 (j := (12 : Int32)) (own_in Sz84 (by decide) rfl (by decide)) (g := (mkF m 84 #[.val (.int p0), .val (.int p1), .unset, .unset, .unset, .unset, .unset, .unset, .unset, .unset, .unset, .unset, .unset] [(.int (12289 : Int32)), (.int (12 : Int32)), (.ref b2), (.ref b2)])) rfl rfl (hb hby at_84)
  refine own_to st84 ?_
  have V84 : own_AV Value.int Z h84 b2 .int 16 (own_upd (own_upd (own_upd (own_upd (own_upd (own_upd (own_upd (own_upd (own_upd (own_upd (own_upd (own_upd (own_upd (fun _ => (0 : Int32)) 0 (58 : Int32)) 1 (65 : Int32)) 2 (95 : Int32)) 3 (97 : Int32)) 4 (192 : Int32)) 5 (216 : Int32)) 6 (248 : Int32)) 7 (880 : Int32)) 8 (895 : Int32)) 9 (8204 : Int32)) 10 (8304 : Int32)) 11 (11264 : Int32)) 12 (12289 : Int32)) := own_AV.set nn84 Ar84 Sz84 Hs84 W84 rfl
  obtain ⟨lo84, X84, N84⟩ : ∃ lo, Stand p l e _ s m _ below meth c T84 lo _ _ ∧ Fr n0 lo := ⟨_, X84, Fr.snoc X84 N77 g_b2⟩
  show own_Fin p e below G (T84.setTop (mkF m 85 #[.val (.int p0), .val (.int p1), .unset, .unset, .unset, .unset, .unset, .unset, .unset, .unset, .unset, .unset, .unset] [(.ref b2)]))
  refine own_to (fun _ kz => XS.dup X84.here hx rfl (hb hby at_85) rfl rfl kz) ?_
  show own_Fin p e below G (T84.setTop (mkF m 86 #[.val (.int p0), .val (.int p1), .unset, .unset, .unset, .unset, .unset, .unset, .unset, .unset, .unset, .unset, .unset] [(.ref b2), (.ref b2)]))
  refine own_to (fun _ kz => XS.bipush X84.here hx rfl (hb hby at_86) kz) ?_
  show own_Fin p e below G (T84.setTop (mkF m 88 #[.val (.int p0), .val (.int p1), .unset, .unset, .unset, .unset, .unset, .unset, .unset, .unset, .unset, .unset, .unset] [(.int (13 : Int32)), (.ref b2), (.ref b2)]))
  refine own_to (fun _ kz => X84.ldcInt hx hown (mvT hZ (hw _ (List.mem_of_getElem? (i := 1) rfl))) (g := (mkF m 88 #[.val (.int p0), .val (.int p1), .unset, .unset, .unset, .unset, .unset, .unset, .unset, .unset, .unset, .unset, .unset] [(.int (13 : Int32)), (.ref b2), (.ref b2)])) rfl (hb hby at_88) _ kz) ?_
  show own_Fin p e below G (T84.setTop (mkF m 90 #[.val (.int p0), .val (.int p1), .unset, .unset, .unset, .unset, .unset, .unset, .unset, .unset, .unset, .unset, .unset] [(.int (63744 : Int32)), (.int (13 : Int32)), (.ref b2), (.ref b2)]))
  obtain ⟨nn90, cl90, Ar90, Sz90, Hs90⟩ := V84
  obtain ⟨T90, h90, X90, e90, W90, st90⟩ := stI X84 hx hZ e84 Ar90 (j := (13 : Int32)) (own_in Sz90 (by decide) rfl (by decide)) (g := (mkF m 90 #[.val (.int p0), .val (.int p1), .unset, .unset, .unset, .unset, .unset, .unset, .unset, .unset, .unset, .unset, .unset] [(.int (63744 : Int32)), (.int (13 : Int32)), (.ref b2), (.ref b2)])) rfl rfl (hb hby at_90)
  refine own_to st90 ?_
  have V90 : own_AV Value.int Z h90 b2 .int 16 (own_upd (own_upd (own_upd (own_upd (own_upd (own_upd (own_upd (own_upd (own_upd (own_upd (own_upd (own_upd (own_upd (own_upd (fun _ => (0 : Int32)) 0 (58 : Int32)) 1 (65 : Int32)) 2 (95 : Int32)) 3 (97 : Int32)) 4 (192 : Int32)) 5 (216 : Int32)) 6 (248 : Int32)) 7 (880 : Int32)) 8 (895 : Int32)) 9 (8204 : Int32)) 10 (8304 : Int32)) 11 (11264 : Int32)) 12 (12289 : Int32)) 13 (63744 : Int32)) := own_AV.set nn90 Ar90 Sz90 Hs90 W90 rfl
  obtain ⟨lo90, X90, N90⟩ : ∃ lo, Stand p l e _ s m _ below meth c T90 lo _ _ ∧ Fr n0 lo := ⟨_, X90, Fr.snoc X90 N84 g_b2⟩
  show own_Fin p e below G (T90.setTop (mkF m 91 #[.val (.int p0), .val (.int p1), .unset, .unset, .unset, .unset, .unset, .unset, .unset, .unset, .unset, .unset, .unset] [(.ref b2)]))
  refine own_to (fun _ kz => XS.dup X90.here hx rfl (hb hby at_91) rfl rfl kz) ?_
  show own_Fin p e below G (T90.setTop (mkF m 92 #[.val (.int p0), .val (.int p1), .unset, .unset, .unset, .unset, .unset, .unset, .unset, .unset, .unset, .unset, .unset] [(.ref b2), (.ref b2)]))
  refine own_to (fun _ kz => XS.bipush X90.here hx rfl (hb hby at_92) kz) ?_
  show own_Fin p e below G (T90.setTop (mkF m 94 #[.val (.int p0), .val (.int p1), .unset, .unset, .unset, .unset, .unset, .unset, .unset, .unset, .unset, .unset, .unset] [(.int (14 : Int32)), (.ref b2), (.ref b2)]))
  refine own_to (fun _ kz => X90.ldcInt hx hown (mvT hZ (hw _ (List.mem_of_getElem? (i := 2) rfl))) (g := (mkF m 94 #[.val (.int p0), .val (.int p1), .unset, .unset, .unset, .unset, .unset, .unset, .unset, .unset, .unset, .unset, .unset] [(.int (14 : Int32)), (.ref b2), (.ref b2)])) rfl (hb hby at_94) _ kz) ?_
  show own_Fin p e below G (T90.setTop (mkF m 96 #[.val (.int p0), .val (.int p1), .unset, .unset, .unset, .unset, .unset, .unset, .unset, .unset, .unset, .unset, .unset] [(.int (65008 : Int32)), (.int (14 : Int32)), (.ref b2), (.ref b2)]))
  obtain ⟨nn96, cl96, Ar96, Sz96, Hs96⟩ := V90
  obtain ⟨T96, h96, X96, e96, W96, st96⟩ := stI X90 hx hZ e90 Ar96 (j := (14 : Int32)) (own_in Sz96 (by decide) rfl (by decide)) (g := (mkF m 96 #[.val (.int p0), .val (.int p1), .unset, .unset, .unset, .unset, .unset, .unset, .unset, .unset, .unset, .unset, .unset] [(.int (65008 : Int32)), (.int (14 : Int32)), (.ref b2), (.ref b2)])) rfl rfl (hb hby at_96)
  refine own_to st96 ?_
  have V96 : own_AV Value.int Z h96 b2 .int 16 (own_upd (own_upd (own_upd (own_upd (own_upd (own_upd (own_upd (own_upd (own_upd (own_upd (own_upd (own_upd (own_upd (own_upd (own_upd (fun _ => (0 : Int32)) 0 (58 : Int32)) 1 (65 : Int32)) 2 (95 : Int32)) 3 (97 : Int32)) 4 (192 : Int32)) 5 (216 : Int32)) 6 (248 : Int32)) 7 (880 : Int32)) 8 (895 : Int32)) 9 (8204 : Int32)) 10 (8304 : Int32)) 11 (11264 : Int32)) 12 (12289 : Int32)) 13 (63744 : Int32)) 14 (65008 : Int32)) := own_AV.set nn96 Ar96 Sz96 Hs96 W96 rfl
  obtain ⟨lo96, X96, N96⟩ : ∃ lo, Stand p l e _ s m _ below meth c T96 lo _ _ ∧ Fr n0 lo := ⟨_, X96, Fr.snoc X96 N90 g_b2⟩
  show own_Fin p e below G (T96.setTop (mkF m 97 #[.val (.int p0), .val (.int p1), .unset, .unset, .unset, .unset, .unset, .unset, .unset, .unset, .unset, .unset, .unset] [(.ref b2)]))
  refine own_to (fun _ kz => XS.dup X96.here hx rfl (hb hby at_97) rfl rfl kz) ?_
  show own_Fin p e below G (T96.setTop (mkF m 98 #[.val (.int p0), .val (.int p1), .unset, .unset, .unset, .unset, .unset, .unset, .unset, .unset, .unset, .unset, .unset] [(.ref b2), (.ref b2)]))
  refine own_to (fun _ kz => XS.bipush X96.here hx rfl (hb hby at_98) kz) ?_
  show own_Fin p e below G (T96.setTop (mkF m 100 #[.val (.int p0), .val (.int p1), .unset, .unset, .unset, .unset, .unset, .unset, .unset, .unset, .unset, .unset, .unset] [(.int (15 : Int32)), (.ref b2), (.ref b2)]))
  refine own_to (fun _ kz => X96.ldcInt hx hown (mvT hZ (hw _ (List.mem_of_getElem? (i := 3) rfl))) (g := (mkF m 100 #[.val (.int p0), .val (.int p1), .unset, .unset, .unset, .unset, .unset, .unset, .unset, .unset, .unset, .unset, .unset] [(.int (15 : Int32)), (.ref b2), (.ref b2)])) rfl (hb hby at_100) _ kz) ?_
  show own_Fin p e below G (T96.setTop (mkF m 102 #[.val (.int p0), .val (.int p1), .unset, .unset, .unset, .unset, .unset, .unset, .unset, .unset, .unset, .unset, .unset] [(.int (65536 : Int32)), (.int (15 : Int32)), (.ref b2), (.ref b2)]))
  obtain ⟨nn102, cl102, Ar102, Sz102, Hs102⟩ := V96
  obtain ⟨T102, h102, X102, e102, W102, st102⟩ := stI X96 hx hZ e96 Ar102 (j := (15 : Int32)) (own_in Sz102 (by decide) rfl (by decide)) (g := (mkF m 102 #[.val (.int p0), .val (.int p1), .unset, .unset, .unset, .unset, .unset, .unset, .unset, .unset, .unset, .unset, .unset] [(.int (65536 : Int32)), (.int (15 : Int32)), (.ref b2), (.ref b2)])) rfl rfl (hb hby at_102)
  refine own_to st102 ?_
  have V102 : own_AV Value.int Z h102 b2 .int 16 (own_upd (own_upd (own_upd (own_upd (own_upd (own_upd (own_upd (own_upd (own_upd (own_upd (own_upd (own_upd (own_upd (own_upd (own_upd (own_upd (fun _ => (0 : Int32)) 0 (58 : Int32)) 1 (65 : Int32)) 2 (95 : Int32)) 3 (97 : Int32)) 4 (192 : Int32)) 5 (216 : Int32)) 6 (248 : Int32)) 7 (880 : Int32)) 8 (895 : Int32)) 9 (8204 : Int32)) 10 (8304 : Int32)) 11 (11264 : Int32)) 12 (12289 : Int32)) 13 (63744 : Int32)) 14 (65008 : Int32)) 15 (65536 : Int32)) := own_AV.set nn102 Ar102 Sz102 Hs102 W102 rfl
  obtain ⟨lo102, X102, N102⟩ : ∃ lo, Stand p l e _ s m _ below meth c T102 lo _ _ ∧ Fr n0 lo := ⟨_, X102, Fr.snoc X102 N96 g_b2⟩
  have Vc102 : own_AV Value.int Z h102 b2 .int 16 own_lo := own_AV.congr V102 (by decide +kernel)
  show own_Fin p e below G (T102.setTop (mkF m 103 #[.val (.int p0), .val (.int p1), .unset, .unset, .unset, .unset, .unset, .unset, .unset, .unset, .unset, .unset, .unset] [(.ref b2)]))
  refine own_to (fun _ kz => XS.astoreN X102.here hx rfl (hb hby at_103) rfl (rfl) (l' := #[.val (.int p0), .val (.int p1), .val (.ref b2), .unset, .unset, .unset, .unset, .unset, .unset, .unset, .unset, .unset, .unset]) rfl kz) ?_
  show own_Fin p e below G (T102.setTop (mkF m 104 #[.val (.int p0), .val (.int p1), .val (.ref b2), .unset, .unset, .unset, .unset, .unset, .unset, .unset, .unset, .unset, .unset] []))
  refine own_to (fun _ kz => XS.bipush X102.here hx rfl (hb hby at_104) kz) ?_
  show own_Fin p e below G (T102.setTop (mkF m 106 #[.val (.int p0), .val (.int p1), .val (.ref b2), .unset, .unset, .unset, .unset, .unset, .unset, .unset, .unset, .unset, .unset] [(.int (16 : Int32))]))
  have Zz_106_E2 := Nat.le_trans Z0 E2.1
  have Zz_106_W8 := Nat.le_trans Zz_106_E2 (Nat.le_of_eq (Wr.size W8).symm)
  have Zz_106_W13 := Nat.le_trans Zz_106_W8 (Nat.le_of_eq (Wr.size W13).symm)
  have Zz_106_W18 := Nat.le_trans Zz_106_W13 (Nat.le_of_eq (Wr.size W18).symm)
  have Zz_106_W23 := Nat.le_trans Zz_106_W18 (Nat.le_of_eq (Wr.size W23).symm)
  have Zz_106_W29 := Nat.le_trans Zz_106_W23 (Nat.le_of_eq (Wr.size W29).symm)
  have Zz_106_W35 := Nat.le_trans Zz_106_W29 (Nat.le_of_eq (Wr.size W35).symm)
  have Zz_106_W42 := Nat.le_trans Zz_106_W35 (Nat.le_of_eq (Wr.size W42).symm)
  have Zz_106_W49 := Nat.le_trans Zz_106_W42 (Nat.le_of_eq (Wr.size W49).symm)
  have Zz_106_W56 := Nat.le_trans Zz_106_W49 (Nat.le_of_eq (Wr.size W56).symm)
  have Zz_106_W63 := Nat.le_trans Zz_106_W56 (Nat.le_of_eq (Wr.size W63).symm)
  have Zz_106_W70 := Nat.le_trans Zz_106_W63 (Nat.le_of_eq (Wr.size W70).symm)
  have Zz_106_W77 := Nat.le_trans Zz_106_W70 (Nat.le_of_eq (Wr.size W77).symm)
  have Zz_106_W84 := Nat.le_trans Zz_106_W77 (Nat.le_of_eq (Wr.size W84).symm)
  have Zz_106_W90 := Nat.le_trans Zz_106_W84 (Nat.le_of_eq (Wr.size W90).symm)
  have Zz_106_W96 := Nat.le_trans Zz_106_W90 (Nat.le_of_eq (Wr.size W96).symm)
  have Zz_106_W102 := Nat.le_trans Zz_106_W96 (Nat.le_of_eq (Wr.size W102).symm)
  have Z_106 : n0 ≤ h102.size := Zz_106_W102
  obtain ⟨T106, h106, k106, X106, e106, E106, A106, st106⟩ := newP X102 hx hZ (hw _ (List.mem_of_getElem? (i := 0) rfl)) e102 (g := (mkF m 106 #[.val (.int p0), .val (.int p1), .val (.ref b2), .unset, .unset, .unset, .unset, .unset, .unset, .unset, .unset, .unset, .unset] [(.int (16 : Int32))])) rfl (hb hby at_106) rfl (by decide) (cap := 16) (by decide) (by decide) (by decide) (by decide)
  obtain ⟨b106, g106⟩ : ∃ z, z = h102.size := ⟨_, rfl⟩
  rw [← g106] at A106 st106
  refine own_to st106 ?_
  have ne_b2_b106 : b2 ≠ b106 := Nat.ne_of_lt (Nat.lt_of_lt_of_le Vc102.lt (Nat.le_of_eq g106.symm))
  have g_b106 : n0 ≤ b106 := Nat.le_trans Z_106 (Nat.le_of_eq g106.symm)
  have V106 : own_AV Value.int Z h106 b106 .int 16 (fun _ => (0 : Int32)) := own_AV.new A106 (by decide) (by decide) (fun _ => rfl)
  show own_Fin p e below G (T106.setTop (mkF m 108 #[.val (.int p0), .val (.int p1), .val (.ref b2), .unset, .unset, .unset, .unset, .unset, .unset, .unset, .unset, .unset, .unset] [(.ref b106)]))
  refine own_to (fun _ kz => XS.dup X106.here hx rfl (hb hby at_108) rfl rfl kz) ?_
  show own_Fin p e below G (T106.setTop (mkF m 109 #[.val (.int p0), .val (.int p1), .val (.ref b2), .unset, .unset, .unset, .unset, .unset, .unset, .unset, .unset, .unset, .unset] [(.ref b106), (.ref b106)]))
  refine own_to (fun _ kz => XS.iconst X106.here hx rfl (hb hby at_109) kz) ?_
  show own_Fin p e below G (T106.setTop (mkF m 110 #[.val (.int p0), .val (.int p1), .val (.ref b2), .unset, .unset, .unset, .unset, .unset, .unset, .unset, .unset, .unset, .unset] [(.int (0 : Int32)), (.ref b106), (.ref b106)]))
  refine own_to (fun _ kz => XS.bipush X106.here hx rfl (hb hby at_110) kz) ?_
  show own_Fin p e below G (T106.setTop (mkF m 112 #[.val (.int p0), .val (.int p1), .val (.ref b2), .unset, .unset, .unset, .unset, .unset, .unset, .unset, .unset, .unset, .unset] [(.int (58 : Int32)), (.int (0 : Int32)), (.ref b106), (.ref b106)]))
  obtain ⟨nn112, cl112, Ar112, Sz112, Hs112⟩ := V106
  obtain ⟨T112, h112, X112, e112, W112, st112⟩ := stI X106 hx hZ e106 Ar112 (j := (0 : Int32)) (own_in Sz112 (by decide) rfl (by decide)) (g := (mkF m 112 #[.val (.int p0), .val (.int p1), .val (.ref b2), .unset, .unset, .unset, .unset, .unset, .unset, .unset, .unset, .unset, .unset] [(.int (58 : Int32)), (.int (0 : Int32)), (.ref b106), (.ref b106)])) rfl rfl (hb hby at_112)
  refine own_to st112 ?_
  have V112 : own_AV Value.int Z h112 b106 .int 16 (own_upd (fun _ => (0 : Int32)) 0 (58 : Int32)) := own_AV.set nn112 Ar112 Sz112 Hs112 W112 rfl
  obtain ⟨lo112, X112, N112⟩ : ∃ lo, Stand p l e _ s m _ below meth c T112 lo _ _ ∧ Fr n0 lo := ⟨_, X112, Fr.snoc X112 N102 g_b106⟩
  show own_Fin p e below G (T112.setTop (mkF m 113 #[.val (.int p0), .val (.int p1), .val (.ref b2), .unset, .unset, .unset, .unset, .unset, .unset, .unset, .unset, .unset, .unset] [(.ref b106)]))
  refine own_to (fun _ kz => XS.dup X112.here hx rfl (hb hby at_113) rfl rfl kz) ?_
  show own_Fin p e below G (T112.setTop (mkF m 114 #[.val (.int p0), .val (.int p1), .val (.ref b2), .unset, .unset, .unset, .unset, .unset, .unset, .unset, .unset, .unset, .unset] [(.ref b106), (.ref b106)]))
  refine own_to (fun _ kz => XS.iconst X112.here hx rfl (hb hby at_114) kz) ?_
  show own_Fin p e below G (T112.setTop (mkF m 115 #[.val (.int p0), .val (.int p1), .val (.ref b2), .unset, .unset, .unset, .unset, .unset, .unset, .unset, .unset, .unset, .unset] [(.int (1 : Int32)), (.ref b106), (.ref b106)]))
  refine own_to (fun _ kz => XS.bipush X112.here hx rfl (hb hby at_115) kz) ?_
  show own_Fin p e below G (T112.setTop (mkF m 117 #[.val (.int p0), .val (.int p1), .val (.ref b2), .unset, .unset, .unset, .unset, .unset, .unset, .unset, .unset, .unset, .unset] [(.int (90 : Int32)), (.int (1 : Int32)), (.ref b106), (.ref b106)]))
  obtain ⟨nn117, cl117, Ar117, Sz117, Hs117⟩ := V112
  obtain ⟨T117, h117, X117, e117, W117, st117⟩ := stI X112 hx hZ e112 Ar117 (j := (1 : Int32)) (own_in Sz117 (by decide) rfl (by decide)) (g := (mkF m 117 #[.val (.int p0), .val (.int p1), .val (.ref b2), .unset, .unset, .unset, .unset, .unset, .unset, .unset, .unset, .unset, .unset] [(.int (90 : Int32)), (.int (1 : Int32)), (.ref b106), (.ref b106)])) rfl rfl (hb hby at_117)
  refine own_to st117 ?_
  have V117 : own_AV Value.int Z h117 b106 .int 16 (own_upd (own_upd (fun _ => (0 : Int32)) 0 (58 : Int32)) 1 (90 : Int32)) := own_AV.set nn117 Ar117 Sz117 Hs117 W117 rfl
  obtain ⟨lo117, X117, N117⟩ : ∃ lo, Stand p l e _ s m _ below meth c T117 lo _ _ ∧ Fr n0 lo := ⟨_, X117, Fr.snoc X117 N112 g_b106⟩
  show own_Fin p e below G (T117.setTop (mkF m 118 #[.val (.int p0), .val (.int p1), .val (.ref b2), .unset, .unset, .unset, .unset, .unset, .unset, .unset, .unset, .unset, .unset] [(.ref b106)]))
  refine own_to (fun _ kz => XS.dup X117.here hx rfl (hb hby at_118) rfl rfl kz) ?_
  show own_Fin p e below G (T117.setTop (mkF m 119 #[.val (.int p0), .val (.int p1), .val (.ref b2), .unset, .unset, .unset, .unset, .unset, .unset, .unset, .unset, .unset, .unset] [(.ref b106), (.ref b106)]))
  refine own_to (fun _ kz => XS.iconst X117.here hx rfl (hb hby at_119) kz) ?_
  show own_Fin p e below G (T117.setTop (mkF m 120 #[.val (.int p0), .val (.int p1), .val (.ref b2), .unset, .unset, .unset, .unset, .unset, .unset, .unset, .unset, .unset, .unset] [(.int (2 : Int32)), (.ref b106), (.ref b106)]))
  refine own_to (fun _ kz => XS.bipush X117.here hx rfl (hb hby at_120) kz) ?_
  show own_Fin p e below G (T117.setTop (mkF m 122 #[.val (.int p0), .val (.int p1), .val (.ref b2), .unset, .unset, .unset, .unset, .unset, .unset, .unset, .unset, .unset, .unset] [(.int (95 : Int32)), (.int (2 : Int32)), (.ref b106), (.ref b106)]))
  obtain ⟨nn122, cl122, Ar122, Sz122, Hs122⟩ := V117
  obtain ⟨T122, h122, X122, e122, W122, st122⟩ := stI X117 hx hZ e117 Ar122 (j := (2 : Int32)) (own_in Sz122 (by decide) rfl (by decide)) (g := (mkF m 122 #[.val (.int p0), .val (.int p1), .val (.ref b2), .unset, .unset, .unset, .unset, .unset, .unset, .unset, .unset, .unset, .unset] [(.int (95 : Int32)), (.int (2 : Int32)), (.ref b106), (.ref b106)])) rfl rfl (hb hby at_122)
  refine own_to st122 ?_
  have V122 : own_AV Value.int Z h122 b106 .int 16 (own_upd (own_upd (own_upd (fun _ => (0 : Int32)) 0 (58 : Int32)) 1 (90 : Int32)) 2 (95 : Int32)) := own_AV.set nn122 Ar122 Sz122 Hs122 W122 rfl
  obtain ⟨lo122, X122, N122⟩ : ∃ lo, Stand p l e _ s m _ below meth c T122 lo _ _ ∧ Fr n0 lo := ⟨_, X122, Fr.snoc X122 N117 g_b106⟩
  show own_Fin p e below G (T122.setTop (mkF m 123 #[.val (.int p0), .val (.int p1), .val (.ref b2), .unset, .unset, .unset, .unset, .unset, .unset, .unset, .unset, .unset, .unset] [(.ref b106)]))
  refine own_to (fun _ kz => XS.dup X122.here hx rfl (hb hby at_123) rfl rfl kz) ?_
  show own_Fin p e below G (T122.setTop (mkF m 124 #[.val (.int p0), .val (.int p1), .val (.ref b2), .unset, .unset, .unset, .unset, .unset, .unset, .unset, .unset, .unset, .unset] [(.ref b106), (.ref b106)]))
  refine own_to (fun _ kz => XS.iconst X122.here hx rfl (hb hby at_124) kz) ?_
  show own_Fin p e below G (T122.setTop (mkF m 125 #[.val (.int p0), .val (.int p1), .val (.ref b2), .unset, .unset, .unset, .unset, .unset, .unset, .unset, .unset, .unset, .unset] [(.int (3 : Int32)), (.ref b106), (.ref b106)]))
  refine own_to (fun _ kz => XS.bipush X122.here hx rfl (hb hby at_125) kz) ?_
  show own_Fin p e below G (T122.setTop (mkF m 127 #[.val (.int p0), .val (.int p1), .val (.ref b2), .unset, .unset, .unset, .unset, .unset, .unset, .unset, .unset, .unset, .unset] [(.int (122 : Int32)), (.int (3 : Int32)), (.ref b106), (.ref b106)]))
  obtain ⟨nn127, cl127, Ar127, Sz127, Hs127⟩ := V122
  obtain ⟨T127, h127, X127, e127, W127, st127⟩ := stI X122 hx hZ e122 Ar127 (j := (3 : Int32)) (own_in Sz127 (by decide) rfl (by decide)) (g := (mkF m 127 #[.val (.int p0), .val (.int p1), .val (.ref b2), .unset, .unset, .unset, .unset, .unset, .unset, .unset, .unset, .unset, .unset] [(.int (122 : Int32)), (.int (3 : Int32)), (.ref b106), (.ref b106)])) rfl rfl (hb hby at_127)
  refine own_to st127 ?_
  have V127 : own_AV Value.int Z h127 b106 .int 16 (own_upd (own_upd (own_upd (own_upd (fun _ => (0 : Int32)) 0 (58 : Int32)) 1 (90 : Int32)) 2 (95 : Int32)) 3 (122 : Int32)) := own_AV.set nn127 Ar127 Sz127 Hs127 W127 rfl
  obtain ⟨lo127, X127, N127⟩ : ∃ lo, Stand p l e _ s m _ below meth c T127 lo _ _ ∧ Fr n0 lo := ⟨_, X127, Fr.snoc X127 N122 g_b106⟩
  show own_Fin p e below G (T127.setTop (mkF m 128 #[.val (.int p0), .val (.int p1), .val (.ref b2), .unset, .unset, .unset, .unset, .unset, .unset, .unset, .unset, .unset, .unset] [(.ref b106)]))
  refine own_to (fun _ kz => XS.dup X127.here hx rfl (hb hby at_128) rfl rfl kz) ?_
  show own_Fin p e below G (T127.setTop (mkF m 129 #[.val (.int p0), .val (.int p1), .val (.ref b2), .unset, .unset, .unset, .unset, .unset, .unset, .unset, .unset, .unset, .unset] [(.ref b106), (.ref b106)]))
  refine own_to (fun _ kz => XS.iconst X127.here hx rfl (hb hby at_129) kz) ?_
  show own_Fin p e below G (T127.setTop (mkF m 130 #[.val (.int p0), .val (.int p1), .val (.ref b2), .unset, .unset, .unset, .unset, .unset, .unset, .unset, .unset, .unset, .unset] [(.int (4 : Int32)), (.ref b106), (.ref b106)]))
  refine own_to (fun _ kz => XS.sipush X127.here hx rfl (hb hby at_130) kz) ?_
  show own_Fin p e below G (T127.setTop (mkF m 133 #[.val (.int p0), .val (.int p1), .val (.ref b2), .unset, .unset, .unset, .unset, .unset, .unset, .unset, .unset, .unset, .unset] [(.int (214 : Int32)), (.int (4 : Int32)), (.ref b106), (.ref b106)]))
  obtain ⟨nn133, cl133, Ar133, Sz133, Hs133⟩ := V127
  obtain ⟨T133, h133, X133, e133, W133, st133⟩ := stI X127 hx hZ e127 Ar133 (j := (4 : Int32)) (own_in Sz133 (by decide) rfl (by decide)) (g := (mkF m 133 #[.val (.int p0), .val (.int p1), .val (.ref b2), .unset, .unset, .unset, .unset, .unset, .unset, .unset, .unset, .unset, .unset] [(.int (214 : Int32)), (.int (4 : Int32)), (.ref b106), (.ref b106)])) rfl rfl (hb hby at_133)
  refine own_to st133 ?_
  have V133 : own_AV Value.int Z h133 b106 .int 16 (own_upd (own_upd (own_upd (own_upd (own_upd (fun _ => (0 : Int32)) 0 (58 : Int32)) 1 (90 : Int32)) 2 (95 : Int32)) 3 (122 : Int32)) 4 (214 : Int32)) := own_AV.set nn133 Ar133 Sz133 Hs133 W133 rfl
  obtain ⟨lo133, X133, N133⟩ : ∃ lo, Stand p l e _ s m _ below meth c T133 lo _ _ ∧ Fr n0 lo := ⟨_, X133, Fr.snoc X133 N127 g_b106⟩
  show own_Fin p e below G (T133.setTop (mkF m 134 #[.val (.int p0), .val (.int p1), .val (.ref b2), .unset, .unset, .unset, .unset, .unset, .unset, .unset, .unset, .unset, .unset] [(.ref b106)]))
  refine own_to (fun _ kz => XS.dup X133.here hx rfl (hb hby at_134) rfl rfl kz) ?_
  show own_Fin p e below G (T133.setTop (mkF m 135 #[.val (.int p0), .val (.int p1), .val (.ref b2), .unset, .unset, .unset, .unset, .unset, .unset, .unset, .unset, .unset, .unset] [(.ref b106), (.ref b106)]))
  refine own_to (fun _ kz => XS.iconst X133.here hx rfl (hb hby at_135) kz) ?_
  show own_Fin p e below G (T133.setTop (mkF m 136 #[.val (.int p0), .val (.int p1), .val (.ref b2), .unset, .unset, .unset, .unset, .unset, .unset, .unset, .unset, .unset, .unset] [(.int (5 : Int32)), (.ref b106), (.ref b106)]))
  refine own_to (fun _ kz => XS.sipush X133.here hx rfl (hb hby at_136) kz) ?_
  show own_Fin p e below G (T133.setTop (mkF m 139 #[.val (.int p0), .val (.int p1), .val (.ref b2), .unset, .unset, .unset, .unset, .unset, .unset, .unset, .unset, .unset, .unset] [(.int (246 : Int32)), (.int (5 : Int32)), (.ref b106), (.ref b106)]))
  obtain ⟨nn139, cl139, Ar139, Sz139, Hs139⟩ := V133
  obtain ⟨T139, h139, X139, e139, W139, st139⟩ := stI X133 hx hZ e133 Ar139 (j := (5 : Int32)) (own_in Sz139 (by decide) rfl (by decide)) (g := (mkF m 139 #[.val (.int p0), .val (.int p1), .val (.ref b2), .unset, .unset, .unset, .unset, .unset, .unset, .unset, .unset, .unset, .unset] [(.int (246 : Int32)), (.int (5 : Int32)), (.ref b106), (.ref b106)])) rfl rfl (hb hby at_139)
  refine own_to st139 ?_
  have V139 : own_AV Value.int Z h139 b106 .int 16 (own_upd (own_upd (own_upd (own_upd (own_upd (own_upd (fun _ => (0 : Int32)) 0 (58 : Int32)) 1 (90 : Int32)) 2 (95 : Int32)) 3 (122 : Int32)) 4 (214 : Int32)) 5 (246 : Int32)) := own_AV.set nn139 Ar139 Sz139 Hs139 W139 rfl
  obtain ⟨lo139, X139, N139⟩ : ∃ lo, Stand p l e _ s m _ below meth c T139 lo _ _ ∧ Fr n0 lo := ⟨_, X139, Fr.snoc X139 N133 g_b106⟩
  show own_Fin p e below G (T139.setTop (mkF m 140 #[.val (.int p0), .val (.int p1), .val (.ref b2), .unset, .unset, .unset, .unset, .unset, .unset, .unset, .unset, .unset, .unset] [(.ref b106)]))
  refine own_to (fun _ kz => XS.dup X139.here hx rfl (hb hby at_140) rfl rfl kz) ?_
  show own_Fin p e below G (T139.setTop (mkF m 141 #[.val (.int p0), .val (.int p1), .val (.ref b2), .unset, .unset, .unset, .unset, .unset, .unset, .unset, .unset, .unset, .unset] [(.ref b106), (.ref b106)]))
  refine own_to (fun _ kz => XS.bipush X139.here hx rfl (hb hby at_141) kz) ?_
  show own_Fin p e below G (T139.setTop (mkF m 143 #[.val (.int p0), .val (.int p1), .val (.ref b2), .unset, .unset, .unset, .unset, .unset, .unset, .unset, .unset, .unset, .unset] [(.int (6 : Int32)), (.ref b106), (.ref b106)]))
  refine own_to (fun _ kz => XS.sipush X139.here hx rfl (hb hby at_143) kz) ?_
  show own_Fin p e below G (T139.setTop (mkF m 146 #[.val (.int p0), .val (.int p1), .val (.ref b2), .unset, .unset, .unset, .unset, .unset, .unset, .unset, .unset, .unset, .unset] [(.int (767 : Int32)), (.int (6 : Int32)), (.ref b106), (.ref b106)]))
  obtain ⟨nn146, cl146, Ar146, Sz146, Hs146⟩ := V139
  obtain ⟨T146, h146, X146, e146, W146, st146⟩ := stI X139 hx hZ e139 Ar146 (j := (6 : Int32)) (own_in Sz146 (by decide) rfl (by decide)) (g := (mkF m 146 #[.val (.int p0), .val (.int p1), .val (.ref b2), .unset, .unset, .unset, .unset, .unset, .unset, .unset, .unset, .unset, .unset] [(.int (767 : Int32)), (.int (6 : Int32)), (.ref b106), (.ref b106)])) rfl rfl (hb hby at_146)
  refine own_to st146 ?_
  have V146 : own_AV Value.int Z h146 b106 .int 16 (own_upd (own_upd (own_upd (own_upd (own_upd (own_upd (own_upd (fun _ => (0 : Int32)) 0 (58 : Int32)) 1 (90 : Int32)) 2 (95 : Int32)) 3 (122 : Int32)) 4 (214 : Int32)) 5 (246 : Int32)) 6 (767 : Int32)) := own_AV.set nn146 Ar146 Sz146 Hs146 W146 rfl
  obtain ⟨lo146, X146, N146⟩ : ∃ lo, Stand p l e _ s m _ below meth c T146 lo _ _ ∧ Fr n0 lo := ⟨_, X146, Fr.snoc X146 N139 g_b106⟩
  show own_Fin p e below G (T146.setTop (mkF m 147 #[.val (.int p0), .val (.int p1), .val (.ref b2), .unset, .unset, .unset, .unset, .unset, .unset, .unset, .unset, .unset, .unset] [(.ref b106)]))
  refine own_to (fun _ kz => XS.dup X146.here hx rfl (hb hby at_147) rfl rfl kz) ?_
  show own_Fin p e below G (T146.setTop (mkF m 148 #[.val (.int p0), .val (.int p1), .val (.ref b2), .unset, .unset, .unset, .unset, .unset, .unset, .unset, .unset, .unset, .unset] [(.ref b106), (.ref b106)]))
  refine own_to (fun _ kz => XS.bipush X146.here hx rfl (hb hby at_148) kz) ?_
  show own_Fin p e below G (T146.setTop (mkF m 150 #[.val (.int p0), .val (.int p1), .val (.ref b2), .unset, .unset, .unset, .unset, .unset, .unset, .unset, .unset, .unset, .unset] [(.int (7 : Int32)), (.ref b106), (.ref b106)]))
  refine own_to (fun _ kz => XS.sipush X146.here hx rfl (hb hby at_150) kz) ?_
  show own_Fin p e below G (T146.setTop (mkF m 153 #[.val (.int p0), .val (.int p1), .val (.ref b2), .unset, .unset, .unset, .unset, .unset, .unset, .unset, .unset, .unset, .unset] [(.int (893 : Int32)), (.int (7 : Int32)), (.ref b106), (.ref b106)]))
  obtain ⟨nn153, cl153, Ar153, Sz153, Hs153⟩ := V146
  obtain ⟨T153, h153, X153, e153, W153, st153⟩ := stI X146 hx hZ e146 Ar153 (j := (7 : Int32)) (own_in Sz153 (by decide) rfl (by decide)) (g := (mkF m 153 #[.val (.int p0), .val (.int p1), .val (.ref b2), .unset, .unset, .unset, .unset, .unset, .unset, .unset, .unset, .unset, .unset] [(.int (893 : Int32)), (.int (7 : Int32)), (.ref b106), (.ref b106)])) rfl rfl (hb hby at_153)
  refine own_to st153 ?_
  have V153 : own_AV Value.int Z h153 b106 .int 16 (own_upd (own_upd (own_upd (own_upd (own_upd (own_upd (own_upd (own_upd (fun _ => (0 : Int32)) 0 (58 : Int32)) 1 (90 : Int32)) 2 (95 : Int32)) 3 (122 : Int32)) 4 (214 : Int32)) 5 (246 : Int32)) 6 (767 : Int32)) 7 (893 : Int32)) := own_AV.set nn153 Ar153 Sz153 Hs153 W153 rfl
  obtain ⟨lo153, X153, N153⟩ : ∃ lo, Stand p l e _ s m _ below meth c T153 lo _ _ ∧ Fr n0 lo := ⟨_, X153, Fr.snoc X153 N146 g_b106⟩
  show own_Fin p e below G (T153.setTop (mkF m 154 #[.val (.int p0), .val (.int p1), .val (.ref b2), .unset, .unset, .unset, .unset, .unset, .unset, .unset, .unset, .unset, .unset] [(.ref b106)]))
  refine own_to (fun _ kz => XS.dup X153.here hx rfl (hb hby at_154) rfl rfl kz) ?_
  show own_Fin p e below G (T153.setTop (mkF m 155 #[.val (.int p0), .val (.int p1), .val (.ref b2), .unset, .unset, .unset, .unset, .unset, .unset, .unset, .unset, .unset, .unset] [(.ref b106), (.ref b106)]))
  refine own_to (fun _ kz => XS.bipush X153.here hx rfl (hb hby at_155) kz) ?_
  show own_Fin p e below G (T153.setTop (mkF m 157 #[.val (.int p0), .val (.int p1), .val (.ref b2), .unset, .unset, .unset, .unset, .unset, .unset, .unset, .unset, .unset, .unset] [(.int (8 : Int32)), (.ref b106), (.ref b106)]))
  refine own_to (fun _ kz => XS.sipush X153.here hx rfl (hb hby at_157) kz) ?_
  show own_Fin p e below G (T153.setTop (mkF m 160 #[.val (.int p0), .val (.int p1), .val (.ref b2), .unset, .unset, .unset, .unset, .unset, .unset, .unset, .unset, .unset, .unset] [(.int (8191 : Int32)), (.int (8 : Int32)), (.ref b106), (.ref b106)]))
  obtain ⟨nn160, cl160, Ar160, Sz160, Hs160⟩ := V153
  obtain ⟨T160, h160, X160, e160, W160, st160⟩ := stI X153 hx hZ e153 Ar160 (j := (8 : Int32)) (own_in Sz160 (by decide) rfl (by decide)) (g := (mkF m 160 #[.val (.int p0), .val (.int p1), .val (.ref b2), .unset, .unset, .unset, .unset, .unset, .unset, .unset, .unset, .unset, .unset] [(.int (8191 : Int32)), (.int (8 : Int32)), (.ref b106), (.ref b106)])) rfl rfl (hb hby at_160)
  refine own_to st160 ?_
  have V160 : own_AV Value.int Z h160 b106 .int 16 (own_upd (own_upd (own_upd (own_upd (own_upd (own_upd (own_upd (own_upd (own_upd (fun _ => (0 : Int32)) 0 (58 : Int32)) 1 (90 : Int32)) 2 (95 : Int32)) 3 (122 : Int32)) 4 (214 : Int32)) 5 (246 : Int32)) 6 (767 : Int32)) 7 (893 : Int32)) 8 (8191 : Int32)) := own_AV.set nn160 Ar160 Sz160 Hs160 W160 rfl
  obtain ⟨lo160, X160, N160⟩ : ∃ lo, Stand p l e _ s m _ below meth c T160 lo _ _ ∧ Fr n0 lo := ⟨_, X160, Fr.snoc X160 N153 g_b106⟩
  show own_Fin p e below G (T160.setTop (mkF m 161 #[.val (.int p0), .val (.int p1), .val (.ref b2), .unset, .unset, .unset, .unset, .unset, .unset, .unset, .unset, .unset, .unset] [(.ref b106)]))
  refine own_to (fun _ kz => XS.dup X160.here hx rfl (hb hby at_161) rfl rfl kz) ?_
  show own_Fin p e below G (T160.setTop (mkF m 162 #[.val (.int p0), .val (.int p1), .val (.ref b2), .unset, .unset, .unset, .unset, .unset, .unset, .unset, .unset, .unset, .unset] [(.ref b106), (.ref b106)]))
  refine own_to (fun _ kz => XS.bipush X160.here hx rfl (hb hby at_162) kz) ?_
  show own_Fin p e below G (T160.setTop (mkF m 164 #[.val (.int p0), .val (.int p1), .val (.ref b2), .unset, .unset, .unset, .unset, .unset, .unset, .unset, .unset, .unset, .unset] [(.int (9 : Int32)), (.ref b106), (.ref b106)]))
  refine own_to (fun _ kz => XS.sipush X160.here hx rfl (hb hby at_164) kz) ?_
  show own_Fin p e below G (T160.setTop (mkF m 167 #[.val (.int p0), .val (.int p1), .val (.ref b2), .unset, .unset, .unset, .unset, .unset, .unset, .unset, .unset, .unset, .unset] [(.int (8205 : Int32)), (.int (9 : Int32)), (.ref b106), (.ref b106)]))
  obtain ⟨nn167, cl167, Ar167, Sz167, Hs167⟩ := V160
  obtain ⟨T167, h167, X167, e167, W167, st167⟩ := stI X160 hx hZ e160 Ar167 (j := (9 : Int32)) (own_in Sz167 (by decide) rfl (by decide)) (g := (mkF m 167 #[.val (.int p0), .val (.int p1), .val (.ref b2), .unset, .unset, .unset, .unset, .unset, .unset, .unset, .unset, .unset, .unset] [(.int (8205 : Int32)), (.int (9 : Int32)), (.ref b106), (.ref b106)])) rfl rfl (hb hby at_167)
  refine own_to st167 ?_
  have V167 : own_AV Value.int Z h167 b106 .int 16 (own_upd (own_upd (own_upd (own_upd (own_upd (own_upd (own_upd (own_upd (own_upd (own_upd (fun _ => (0 : Int32)) 0 (58 : Int32)) 1 (90 : Int32)) 2 (95 : Int32)) 3 (122 : Int32)) 4 (214 : Int32)) 5 (246 : Int32)) 6 (767 : Int32)) 7 (893 : Int32)) 8 (8191 : Int32)) 9 (8205 : Int32)) := own_AV.set nn167 Ar167 Sz167 Hs167 W167 rfl
  obtain ⟨lo167, X167, N167⟩ : ∃ lo, Stand p l e _ s m _ below meth c T167 lo _ _ ∧ Fr n0 lo := ⟨_, X167, Fr.snoc X167 N160 g_b106⟩
  show own_Fin p e below G (T167.setTop (mkF m 168 #[.val (.int p0), .val (.int p1), .val (.ref b2), .unset, .unset, .unset, .unset, .unset, .unset, .unset, .unset, .unset, .unset] [(.ref b106)]))
  refine own_to (fun _ kz => XS.dup X167.here hx rfl (hb hby at_168) rfl rfl kz) ?_
  show own_Fin p e below G (T167.setTop (mkF m 169 #[.val (.int p0), .val (.int p1), .val (.ref b2), .unset, .unset, .unset, .unset, .unset, .unset, .unset, .unset, .unset, .unset] [(.ref b106), (.ref b106)]))
  refine own_to (fun _ kz => XS.bipush X167.here hx rfl (hb hby at_169) kz) ?_
  show own_Fin p e below G (T167.setTop (mkF m 171 #[.val (.int p0), .val (.int p1), .val (.ref b2), .unset, .unset, .unset, .unset, .unset, .unset, .unset, .unset, .unset, .unset] [(.int (10 : Int32)), (.ref b106), (.ref b106)]))
  refine own_to (fun _ kz => XS.sipush X167.here hx rfl (hb hby at_171) kz) ?_
  show own_Fin p e below G (T167.setTop (mkF m 174 #[.val (.int p0), .val (.int p1), .val (.ref b2), .unset, .unset, .unset, .unset, .unset, .unset, .unset, .unset, .unset, .unset] [(.int (8591 : Int32)), (.int (10 : Int32)), (.ref b106), (.ref b106)]))
  obtain ⟨nn174, cl174, Ar174, Sz174, Hs174⟩ := V167
  obtain ⟨T174, h174, X174, e174, W174, st174⟩ := stI X167 hx hZ e167 Ar174 (j := (10 : Int32)) (own_in Sz174 (by decide) rfl (by decide)) (g := (mkF m 174 #[.val (.int p0), .val (.int p1), .val (.ref b2), .unset, .unset, .unset, .unset, .unset, .unset, .unset, .unset, .unset, .unset] [(.int (8591 : Int32)), (.int (10 : Int32)), (.ref b106), (.ref b106)])) rfl rfl (hb hby at_174)
  refine own_to st174 ?_
  have V174 : own_AV Value.int Z h174 b106 .int 16 (own_upd (own_upd (own_upd (own_upd (own_upd (own_upd (own_upd (own_upd (own_upd (own_upd (own_upd (fun _ => (0 : Int32)) 0 (58 : Int32)) 1 (90 : Int32)) 2 (95 : Int32)) 3 (122 : Int32)) 4 (214 : Int32)) 5 (246 : Int32)) 6 (767 : Int32)) 7 (893 : Int32)) 8 (8191 : Int32)) 9 (8205 : Int32)) 10 (8591 : Int32)) := own_AV.set nn174 Ar174 Sz174 Hs174 W174 rfl
  obtain ⟨lo174, X174, N174⟩ : ∃ lo, Stand p l e _ s m _ below meth c T174 lo _ _ ∧ Fr n0 lo := ⟨_, X174, Fr.snoc X174 N167 g_b106⟩
  show own_Fin p e below G (T174.setTop (mkF m 175 #[.val (.int p0), .val (.int p1), .val (.ref b2), .unset, .unset, .unset, .unset, .unset, .unset, .unset, .unset, .unset, .unset] [(.ref b106)]))
  refine own_to (fun _ kz => XS.dup X174.here hx rfl (hb hby at_175) rfl rfl kz) ?_
  show own_Fin p e below G (T174.setTop (mkF m 176 #[.val (.int p0), .val (.int p1), .val (.ref b2), .unset, .unset, .unset, .unset, .unset, .unset, .unset, .unset, .unset, .unset] [(.ref b106), (.ref b106)]))
  refine own_to (fun _ kz => XS.bipush X174.here hx rfl (hb hby at_176) kz) ?_
  show own_Fin p e below G (T174.setTop (mkF m 178 #[.val (.int p0), .val (.int p1), .val (.ref b2), .unset, .unset, .unset, .unset, .unset, .unset, .unset, .unset, .unset, .unset] [(.int (11 : Int32)), (.ref b106), (.ref b106)]))
  refine own_to (fun _ kz => XS.sipush X174.here hx rfl (hb hby at_178) kz) ?_
  show own_Fin p e below G (T174.setTop (mkF m 181 #[.val (.int p0), .val (.int p1), .val (.ref b2), .unset, .unset, .unset, .unset, .unset, .unset, .unset, .unset, .unset, .unset] [(.int (12271 : Int32)), (.int (11 : Int32)), (.ref b106), (.ref b106)]))
  obtain ⟨nn181, cl181, Ar181, Sz181, Hs181⟩ := V174
  obtain ⟨T181, h181, X181, e181, W181, st181⟩ := stI X174 hx hZ e174 Ar181 (j := (11 : Int32)) (own_in Sz181 (by decide) rfl (by decide)) (g := (mkF m 181 #[.val (.int p0), .val (.int p1), .val (.ref b2), .unset, .unset, .unset, .unset, .unset, .unset, .unset, .unset, .unset, .unset] [(.int (12271 : Int32)), (.int (11 : Int32)), (.ref b106), (.ref b106)])) rfl rfl (hb hby at_181)
  refine own_to st181 ?_
  have V181 : own_AV Value.int Z h181 b106 .int 16 (own_upd (own_upd (own_upd (own_upd (own_upd (own_upd (own_upd (own_upd (own_upd (own_upd (own_upd (own_upd (fun _ => (0 : Int32)) 0 (58 : Int32)) 1 (90 : Int32)) 2 (95 : Int32)) 3 (122 : Int32)) 4 (214 : Int32)) 5 (246 : Int32)) 6 (767 : Int32)) 7 (893 : Int32)) 8 (8191 : Int32)) 9 (8205 : Int32)) 10 (8591 : Int32)) 11 (12271 : Int32)) := own_AV.set nn181 Ar181 Sz181 Hs181 W181 rfl
  obtain ⟨lo181, X181, N181⟩ : ∃ lo, Stand p l e _ s m _ below meth c T181 lo _ _ ∧ Fr n0 lo := ⟨_, X181, Fr.snoc X181 N174 g_b106⟩
  show own_Fin p e below G (T181.setTop (mkF m 182 #[.val (.int p0), .val (.int p1), .val (.ref b2), .unset, .unset, .unset, .unset, .unset, .unset, .unset, .unset, .unset, .unset] [(.ref b106)]))
  refine own_to (fun _ kz => XS.dup X181.here hx rfl (hb hby at_182) rfl rfl kz) ?_
  show own_Fin p e below G (T181.setTop (mkF m 183 #[.val (.int p0), .val (.int p1), .val (.ref b2), .unset, .unset, .unset, .unset, .unset, .unset, .unset, .unset, .unset, .unset] [(.ref b106), (.ref b106)]))
  refine own_to (fun _ kz => XS.bipush X181.here hx rfl (hb hby at_183) kz) ?_
  show own_Fin p e below G (T181.setTop (mkF m 185 #[.val (.int p0), .val (.int p1), .val (.ref b2), .unset, .unset, .unset, .unset, .unset, .unset, .unset, .unset, .unset, .unset] [(.int (12 : Int32)), (.ref b106), (.ref b106)]))
  refine own_to (fun _ kz => X181.ldcInt hx hown (mvT hZ (hw _ (List.mem_of_getElem? (i := 4) rfl))) (g := (mkF m 185 #[.val (.int p0), .val (.int p1), .val (.ref b2), .unset, .unset, .unset, .unset, .unset, .unset, .unset, .unset, .unset, .unset] [(.int (12 : Int32)), (.ref b106), (.ref b106)])) rfl (hb hby at_185) _ kz) ?_
  show own_Fin p e below G (T181.setTop (mkF m 187 #[.val (.int p0), .val (.int p1), .val (.ref b2), .unset, .unset, .unset, .unset, .unset, .unset, .unset, .unset, .unset, .unset] [(.int (55295 : Int32)), (.int (12 : Int32)), (.ref b106), (.ref b106)]))
  obtain ⟨nn187, cl187, Ar187, Sz187, Hs187⟩ := V181
  obtain ⟨T187, h187, X187, e187, W187, st187⟩ := stI X181 hx hZ e181 Ar187 (j := (12 : Int32)) (own_in Sz187 (by decide) rfl (by decide)) (g := (mkF m 187 #[.val (.int p0), .val (.int p1), .val (.ref b2), .unset, .unset, .unset, .unset, .unset, .unset, .unset, .unset, .unset, .unset] [(.int (55295 : Int32)), (.int (12 : Int32)), (.ref b106), (.ref b106)])) rfl rfl (hb hby at_187)
  refine own_to st187 ?_
  have V187 : own_AV Value.int Z h187 b106 .int 16 (own_upd (own_upd (own_upd (own_upd (own_upd (own_upd (own_upd (own_upd (own_upd (own_upd (own_upd (own_upd (own_upd (fun _ => (0 : Int32)) 0 (58 : Int32)) 1 (90 : Int32)) 2 (95 : Int32)) 3 (122 : Int32)) 4 (214 : Int32)) 5 (246 : Int32)) 6 (767 : Int32)) 7 (893 : Int32)) 8 (8191 : Int32)) 9 (8205 : Int32)) 10 (8591 : Int32)) 11 (12271 : Int32)) 12 (55295 : Int32)) := own_AV.set nn187 Ar187 Sz187 Hs187 W187 rfl
  obtain ⟨lo187, X187, N187⟩ : ∃ lo, Stand p l e _ s m _ below meth c T187 lo _ _ ∧ Fr n0 lo := ⟨_, X187, Fr.snoc X187 N181 g_b106⟩
  show own_Fin p e below G (T187.setTop (mkF m 188 #[.val (.int p0), .val (.int p1), .val (.ref b2), .unset, .unset, .unset, .unset, .unset, .unset, .unset, .unset, .unset, .unset] [(.ref b106)]))
  refine own_to (fun _ kz => XS.dup X187.here hx rfl (hb hby at_188) rfl rfl kz) ?_
  show own_Fin p e below G (T187.setTop (mkF m 189 #[.val (.int p0), .val (.int p1), .val (.ref b2), .unset, .unset, .unset, .unset, .unset, .unset, .unset, .unset, .unset, .unset] [(.ref b106), (.ref b106)]))
  refine own_to (fun _ kz => XS.bipush X187.here hx rfl (hb hby at_189) kz) ?_
  show own_Fin p e below G (T187.setTop (mkF m 191 #[.val (.int p0), .val (.int p1), .val (.ref b2), .unset, .unset, .unset, .unset, .unset, .unset, .unset, .unset, .unset, .unset] [(.int (13 : Int32)), (.ref b106), (.ref b106)]))
  refine own_to (fun _ kz => X187.ldcInt hx hown (mvT hZ (hw _ (List.mem_of_getElem? (i := 5) rfl))) (g := (mkF m 191 #[.val (.int p0), .val (.int p1), .val (.ref b2), .unset, .unset, .unset, .unset, .unset, .unset, .unset, .unset, .unset, .unset] [(.int (13 : Int32)), (.ref b106), (.ref b106)])) rfl (hb hby at_191) _ kz) ?_
  show own_Fin p e below G (T187.setTop (mkF m 193 #[.val (.int p0), .val (.int p1), .val (.ref b2), .unset, .unset, .unset, .unset, .unset, .unset, .unset, .unset, .unset, .unset] [(.int (64975 : Int32)), (.int (13 : Int32)), (.ref b106), (.ref b106)]))
  obtain ⟨nn193, cl193, Ar193, Sz193, Hs193⟩ := V187
  obtain ⟨T193, h193, X193, e193, W193, st193⟩ := stI X187 hx hZ e187 Ar193 (j := (13 : Int32)) (own_in Sz193 (by decide) rfl (by decide)) (g := (mkF m 193 #[.val (.int p0), .val (.int p1), .val (.ref b2), .unset, .unset, .unset, .unset, .unset, .unset, .unset, .unset, .unset, .unset] [(.int (64975 : Int32)), (.int (13 : Int32)), (.ref b106), (.ref b106)])) rfl rfl (hb hby at_193)
  refine own_to st193 ?_
  have V193 : own_AV Value.int Z h193 b106 .int 16 (own_upd (own_upd (own_upd (own_upd (own_upd (own_upd (own_upd (own_upd (own_upd (own_upd (own_upd (own_upd (own_upd (own_upd (fun _ => (0 : Int32)) 0 (58 : Int32)) 1 (90 : Int32)) 2 (95 : Int32)) 3 (122 : Int32)) 4 (214 : Int32)) 5 (246 : Int32)) 6 (767 : Int32)) 7 (893 : Int32)) 8 (8191 : Int32)) 9 (8205 : Int32)) 10 (8591 : Int32)) 11 (12271 : Int32)) 12 (55295 : Int32)) 13 (64975 : Int32)) := own_AV.set nn193 Ar193 Sz193 Hs193 W193 rfl
  obtain ⟨lo193, X193, N193⟩ : ∃ lo, Stand p l e _ s m _ below meth c T193 lo _ _ ∧ Fr n0 lo := ⟨_, X193, Fr.snoc X193 N187 g_b106⟩
  show own_Fin p e below G (T193.setTop (mkF m 194 #[.val (.int p0), .val (.int p1), .val (.ref b2), .unset, .unset, .unset, .unset, .unset, .unset, .unset, .unset, .unset, .unset] [(.ref b106)]))
  refine own_to (fun _ kz => XS.dup X193.here hx rfl (hb hby at_194) rfl rfl kz) ?_
  show own_Fin p e below G (T193.setTop (mkF m 195 #[.val (.int p0), .val (.int p1), .val (.ref b2), .unset, .unset, .unset, .unset, .unset, .unset, .unset, .unset, .unset, .unset] [(.ref b106), (.ref b106)]))
  refine own_to (fun _ kz => XS.bipush X193.here hx rfl (hb hby at_195) kz) ?_
  show own_Fin p e below G (T193.setTop (mkF m 197 #[.val (.int p0), .val (.int p1), .val (.ref b2), .unset, .unset, .unset, .unset, .unset, .unset, .unset, .unset, .unset, .unset] [(.int (14 : Int32)), (.ref b106), (.ref b106)]))
  refine own_to (fun _ kz => X193.ldcInt hx hown (mvT hZ (hw _ (List.mem_of_getElem? (i := 6) rfl))) (g := (mkF m 197 #[.val (.int p0), .val (.int p1), .val (.ref b2), .unset, .unset, .unset, .unset, .unset, .unset, .unset, .unset, .unset, .unset] [(.int (14 : Int32)), (.ref b106), (.ref b106)])) rfl (hb hby at_197) _ kz) ?_
  show own_Fin p e below G (T193.setTop (mkF m 199 #[.val (.int p0), .val (.int p1), .val (.ref b2), .unset, .unset, .unset, .unset, .unset, .unset, .unset, .unset, .unset, .unset] [(.int (65533 : Int32)), (.int (14 : Int32)), (.ref b106), (.ref b106)]))
  obtain ⟨nn199, cl199, Ar199, Sz199, Hs199⟩ := V193
  obtain ⟨T199, h199, X199, e199, W199, st199⟩ := stI X193 hx hZ e193 Ar199 (j := (14 : Int32)) (own_in Sz199 (by decide) rfl (by decide)) (g := (mkF m 199 #[.val (.int p0), .val (.int p1), .val (.ref b2), .unset, .unset, .unset, .unset, .unset, .unset, .unset, .unset, .unset, .unset] [(.int (65533 : Int32)), (.int (14 : Int32)), (.ref b106), (.ref b106)])) rfl rfl (hb hby at_199)
  refine own_to st199 ?_
  have V199 : own_AV Value.int Z h199 b106 .int 16 (own_upd (own_upd (own_upd (own_upd (own_upd (own_upd (own_upd (own_upd (own_upd (own_upd (own_upd (own_upd (own_upd (own_upd (own_upd (fun _ => (0 : Int32)) 0 (58 : Int32)) 1 (90 : Int32)) 2 (95 : Int32)) 3 (122 : Int32)) 4 (214 : Int32)) 5 (246 : Int32)) 6 (767 : Int32)) 7 (893 : Int32)) 8 (8191 : Int32)) 9 (8205 : Int32)) 10 (8591 : Int32)) 11 (12271 : Int32)) 12 (55295 : Int32)) 13 (64975 : Int32)) 14 (65533 : Int32)) := own_AV.set nn199 Ar199 Sz199 Hs199 W199 rfl
  obtain ⟨lo199, X199, N199⟩ : ∃ lo, Stand p l e _ s m _ below meth c T199 lo _ _ ∧ Fr n0 lo := ⟨_, X199, Fr.snoc X199 N193 g_b106⟩
  show own_Fin p e below G (T199.setTop (mkF m 200 #[.val (.int p0), .val (.int p1), .val (.ref b2), .unset, .unset, .unset, .unset, .unset, .unset, .unset, .unset, .unset, .unset] [(.ref b106)]))
  refine own_to (fun _ kz => XS.dup X199.here hx rfl (hb hby at_200) rfl rfl kz) ?_
  show own_Fin p e below G (T199.setTop (mkF m 201 #[.val (.int p0), .val (.int p1), .val (.ref b2), .unset, .unset, .unset, .unset, .unset, .unset, .unset, .unset, .unset, .unset] [(.ref b106), (.ref b106)]))
  refine own_to (fun _ kz => XS.bipush X199.here hx rfl (hb hby at_201) kz) ?_
  show own_Fin p e below G (T199.setTop (mkF m 203 #[.val (.int p0), .val (.int p1), .val (.ref b2), .unset, .unset, .unset, .unset, .unset, .unset, .unset, .unset, .unset, .unset] [(.int (15 : Int32)), (.ref b106), (.ref b106)]))
  refine own_to (fun _ kz => X199.ldcInt hx hown (mvT hZ (hw _ (List.mem_of_getElem? (i := 7) rfl))) (g := (mkF m 203 #[.val (.int p0), .val (.int p1), .val (.ref b2), .unset, .unset, .unset, .unset, .unset, .unset, .unset, .unset, .unset, .unset] [(.int (15 : Int32)), (.ref b106), (.ref b106)])) rfl (hb hby at_203) _ kz) ?_
  show own_Fin p e below G (T199.setTop (mkF m 205 #[.val (.int p0), .val (.int p1), .val (.ref b2), .unset, .unset, .unset, .unset, .unset, .unset, .unset, .unset, .unset, .unset] [(.int (983039 : Int32)), (.int (15 : Int32)), (.ref b106), (.ref b106)]))
  obtain ⟨nn205, cl205, Ar205, Sz205, Hs205⟩ := V199
  obtain ⟨T205, h205, X205, e205, W205, st205⟩ := stI X199 hx hZ e199 Ar205 (j := (15 : Int32)) (own_in Sz205 (by decide) rfl (by decide)) (g := (mkF m 205 #[.val (.int p0), .val (.int p1), .val (.ref b2), .unset, .unset, .unset, .unset, .unset, .unset, .unset, .unset, .unset, .unset] [(.int (983039 : Int32)), (.int (15 : Int32)), (.ref b106), (.ref b106)])) rfl rfl (hb hby at_205)
  refine own_to st205 ?_
  have V205 : own_AV Value.int Z h205 b106 .int 16 (own_upd (own_upd (own_upd (own_upd (own_upd (own_upd (own_upd (own_upd (own_upd (own_upd (own_upd (own_upd (own_upd (own_upd (own_upd (own_upd (fun _ => (0 : Int32)) 0 (58 : Int32)) 1 (90 : Int32)) 2 (95 : Int32)) 3 (122 : Int32)) 4 (214 : Int32)) 5 (246 : Int32)) 6 (767 : Int32)) 7 (893 : Int32)) 8 (8191 : Int32)) 9 (8205 : Int32)) 10 (8591 : Int32)) 11 (12271 : Int32)) 12 (55295 : Int32)) 13 (64975 : Int32)) 14 (65533 : Int32)) 15 (983039 : Int32)) := own_AV.set nn205 Ar205 Sz205 Hs205 W205 rfl
  obtain ⟨lo205, X205, N205⟩ : ∃ lo, Stand p l e _ s m _ below meth c T205 lo _ _ ∧ Fr n0 lo := ⟨_, X205, Fr.snoc X205 N199 g_b106⟩
  have Vc205 : own_AV Value.int Z h205 b106 .int 16 own_hi := own_AV.congr V205 (by decide +kernel)
  show own_Fin p e below G (T205.setTop (mkF m 206 #[.val (.int p0), .val (.int p1), .val (.ref b2), .unset, .unset, .unset, .unset, .unset, .unset, .unset, .unset, .unset, .unset] [(.ref b106)]))
  refine own_to (fun _ kz => XS.astoreN X205.here hx rfl (hb hby at_206) rfl (rfl) (l' := #[.val (.int p0), .val (.int p1), .val (.ref b2), .val (.ref b106), .unset, .unset, .unset, .unset, .unset, .unset, .unset, .unset, .unset]) rfl kz) ?_
  show own_Fin p e below G (T205.setTop (mkF m 207 #[.val (.int p0), .val (.int p1), .val (.ref b2), .val (.ref b106), .unset, .unset, .unset, .unset, .unset, .unset, .unset, .unset, .unset] []))
  refine own_to (fun _ kz => XS.iloadN X205.here hx rfl (hb hby at_207) rfl  kz) ?_
  show own_Fin p e below G (T205.setTop (mkF m 208 #[.val (.int p0), .val (.int p1), .val (.ref b2), .val (.ref b106), .unset, .unset, .unset, .unset, .unset, .unset, .unset, .unset, .unset] [(.int p0)]))
  refine own_to (fun _ kz => XS.bipush X205.here hx rfl (hb hby at_208) kz) ?_
  show own_Fin p e below G (T205.setTop (mkF m 210 #[.val (.int p0), .val (.int p1), .val (.ref b2), .val (.ref b106), .unset, .unset, .unset, .unset, .unset, .unset, .unset, .unset, .unset] [(.int (63 : Int32)), (.int p0)]))
  refine own_to (fun _ kz => XS.iand X205.here hx rfl (hb hby at_210) rfl kz) ?_
  show own_Fin p e below G (T205.setTop (mkF m 211 #[.val (.int p0), .val (.int p1), .val (.ref b2), .val (.ref b106), .unset, .unset, .unset, .unset, .unset, .unset, .unset, .unset, .unset] [(.int (p0 &&& (63 : Int32)))]))
  refine own_to (fun _ kz => XS.bipush X205.here hx rfl (hb hby at_211) kz) ?_
  show own_Fin p e below G (T205.setTop (mkF m 213 #[.val (.int p0), .val (.int p1), .val (.ref b2), .val (.ref b106), .unset, .unset, .unset, .unset, .unset, .unset, .unset, .unset, .unset] [(.int (33 : Int32)), (.int (p0 &&& (63 : Int32)))]))
  refine own_to (fun _ kz => iremM X205 hx rfl (hb hby at_213) rfl (by decide) kz) ?_
  show own_Fin p e below G (T205.setTop (mkF m 214 #[.val (.int p0), .val (.int p1), .val (.ref b2), .val (.ref b106), .unset, .unset, .unset, .unset, .unset, .unset, .unset, .unset, .unset] [(.int ((p0 &&& (63 : Int32)) % (33 : Int32)))]))
  refine own_to (fun _ kz => XS.istore X205.here hx rfl (hb hby at_214) rfl (l' := #[.val (.int p0), .val (.int p1), .val (.ref b2), .val (.ref b106), .val (.int ((p0 &&& (63 : Int32)) % (33 : Int32))), .unset, .unset, .unset, .unset, .unset, .unset, .unset, .unset]) rfl kz) ?_
  show own_Fin p e below G (T205.setTop (mkF m 216 #[.val (.int p0), .val (.int p1), .val (.ref b2), .val (.ref b106), .val (.int ((p0 &&& (63 : Int32)) % (33 : Int32))), .unset, .unset, .unset, .unset, .unset, .unset, .unset, .unset] []))
  have K216 : ∀ (v4_216 : Int32) (jh0_216 : 0 ≤ v4_216.toInt ∧ v4_216.toInt ≤ 32), own_Fin p e below G (T205.setTop (mkF m 216 #[.val (.int p0), .val (.int p1), .val (.ref b2), .val (.ref b106), .val (.int v4_216), .unset, .unset, .unset, .unset, .unset, .unset, .unset, .unset] [])) := by
    intro v4_216 jh0_216
    refine own_to (fun _ kz => XS.iload X205.here hx rfl (hb hby at_216) rfl  kz) ?_
    show own_Fin p e below G (T205.setTop (mkF m 218 #[.val (.int p0), .val (.int p1), .val (.ref b2), .val (.ref b106), .val (.int v4_216), .unset, .unset, .unset, .unset, .unset, .unset, .unset, .unset] [(.int v4_216)]))
    refine own_to (fun _ kz => XS.iconst X205.here hx rfl (hb hby at_218) kz) ?_
    show own_Fin p e below G (T205.setTop (mkF m 219 #[.val (.int p0), .val (.int p1), .val (.ref b2), .val (.ref b106), .val (.int v4_216), .unset, .unset, .unset, .unset, .unset, .unset, .unset, .unset] [(.int (1 : Int32)), (.int v4_216)]))
    refine own_to (fun _ kz => XS.iand X205.here hx rfl (hb hby at_219) rfl kz) ?_
    show own_Fin p e below G (T205.setTop (mkF m 220 #[.val (.int p0), .val (.int p1), .val (.ref b2), .val (.ref b106), .val (.int v4_216), .unset, .unset, .unset, .unset, .unset, .unset, .unset, .unset] [(.int (v4_216 &&& (1 : Int32)))]))
    refine own_to (fun _ kz => XS.iconst X205.here hx rfl (hb hby at_220) kz) ?_
    show own_Fin p e below G (T205.setTop (mkF m 221 #[.val (.int p0), .val (.int p1), .val (.ref b2), .val (.ref b106), .val (.int v4_216), .unset, .unset, .unset, .unset, .unset, .unset, .unset, .unset] [(.int (1 : Int32)), (.int (v4_216 &&& (1 : Int32)))]))
    have K307 : ∀ (w5_307 : Int64) (w7_307 : Int64) (v9_307 : Int32) (jh0_307 : own_ok w5_307 w7_307 v9_307), own_Fin p e below G (T205.setTop (mkF m 307 #[.val (.int p0), .val (.int p1), .val (.ref b2), .val (.ref b106), .val (.int v4_216), .val (.long w5_307), .second, .val (.long w7_307), .second, .val (.int v9_307), .val (.int (v4_216 >>> ((1 : Int32) &&& 31))), .unset, .unset] [])) := by
      intro w5_307 w7_307 v9_307 jh0_307
      refine own_to (fun _ kz => XS.lload X205.here hx rfl (hb hby at_307) rfl  kz) ?_
      show own_Fin p e below G (T205.setTop (mkF m 309 #[.val (.int p0), .val (.int p1), .val (.ref b2), .val (.ref b106), .val (.int v4_216), .val (.long w5_307), .second, .val (.long w7_307), .second, .val (.int v9_307), .val (.int (v4_216 >>> ((1 : Int32) &&& 31))), .unset, .unset] [(.long w7_307)]))
      refine own_to (fun _ kz => XS.lload X205.here hx rfl (hb hby at_309) rfl  kz) ?_
      show own_Fin p e below G (T205.setTop (mkF m 311 #[.val (.int p0), .val (.int p1), .val (.ref b2), .val (.ref b106), .val (.int v4_216), .val (.long w5_307), .second, .val (.long w7_307), .second, .val (.int v9_307), .val (.int (v4_216 >>> ((1 : Int32) &&& 31))), .unset, .unset] [(.long w5_307), (.long w7_307)]))
      refine own_to (fun _ kz => XS.lsub X205.here hx rfl (hb hby at_311) rfl kz) ?_
      show own_Fin p e below G (T205.setTop (mkF m 312 #[.val (.int p0), .val (.int p1), .val (.ref b2), .val (.ref b106), .val (.int v4_216), .val (.long w5_307), .second, .val (.long w7_307), .second, .val (.int v9_307), .val (.int (v4_216 >>> ((1 : Int32) &&& 31))), .unset, .unset] [(.long (w7_307 - w5_307))]))
      refine own_to (fun _ kz => XS.lconst X205.here hx rfl (hb hby at_312) kz) ?_
      show own_Fin p e below G (T205.setTop (mkF m 313 #[.val (.int p0), .val (.int p1), .val (.ref b2), .val (.ref b106), .val (.int v4_216), .val (.long w5_307), .second, .val (.long w7_307), .second, .val (.int v9_307), .val (.int (v4_216 >>> ((1 : Int32) &&& 31))), .unset, .unset] [(.long (1 : Int64)), (.long (w7_307 - w5_307))]))
      refine own_to (fun _ kz => XS.ladd X205.here hx rfl (hb hby at_313) rfl kz) ?_
      show own_Fin p e below G (T205.setTop (mkF m 314 #[.val (.int p0), .val (.int p1), .val (.ref b2), .val (.ref b106), .val (.int v4_216), .val (.long w5_307), .second, .val (.long w7_307), .second, .val (.int v9_307), .val (.int (v4_216 >>> ((1 : Int32) &&& 31))), .unset, .unset] [(.long ((w7_307 - w5_307) + (1 : Int64)))]))
      refine own_to (fun _ kz => XS.lstore X205.here hx rfl (hb hby at_314) rfl (l' := #[.val (.int p0), .val (.int p1), .val (.ref b2), .val (.ref b106), .val (.int v4_216), .val (.long w5_307), .second, .val (.long w7_307), .second, .val (.int v9_307), .val (.long ((w7_307 - w5_307) + (1 : Int64))), .second, .unset]) rfl kz) ?_
      show own_Fin p e below G (T205.setTop (mkF m 316 #[.val (.int p0), .val (.int p1), .val (.ref b2), .val (.ref b106), .val (.int v4_216), .val (.long w5_307), .second, .val (.long w7_307), .second, .val (.int v9_307), .val (.long ((w7_307 - w5_307) + (1 : Int64))), .second, .unset] []))
      refine own_to (fun _ kz => XS.lload X205.here hx rfl (hb hby at_316) rfl  kz) ?_
      show own_Fin p e below G (T205.setTop (mkF m 318 #[.val (.int p0), .val (.int p1), .val (.ref b2), .val (.ref b106), .val (.int v4_216), .val (.long w5_307), .second, .val (.long w7_307), .second, .val (.int v9_307), .val (.long ((w7_307 - w5_307) + (1 : Int64))), .second, .unset] [(.long w5_307)]))
      refine own_to (fun _ kz => XS.iloadN X205.here hx rfl (hb hby at_318) rfl  kz) ?_
      show own_Fin p e below G (T205.setTop (mkF m 319 #[.val (.int p0), .val (.int p1), .val (.ref b2), .val (.ref b106), .val (.int v4_216), .val (.long w5_307), .second, .val (.long w7_307), .second, .val (.int v9_307), .val (.long ((w7_307 - w5_307) + (1 : Int64))), .second, .unset] [(.int p1), (.long w5_307)]))
      refine own_to (fun _ kz => XS.i2l X205.here hx rfl (hb hby at_319) rfl kz) ?_
      show own_Fin p e below G (T205.setTop (mkF m 320 #[.val (.int p0), .val (.int p1), .val (.ref b2), .val (.ref b106), .val (.int v4_216), .val (.long w5_307), .second, .val (.long w7_307), .second, .val (.int v9_307), .val (.long ((w7_307 - w5_307) + (1 : Int64))), .second, .unset] [(.long (p1.toInt64)), (.long w5_307)]))
      refine own_to (fun _ kz => X205.ldc2Long hx hown (mvT hZ (hw _ (List.mem_of_getElem? (i := 9) rfl))) (g := (mkF m 320 #[.val (.int p0), .val (.int p1), .val (.ref b2), .val (.ref b106), .val (.int v4_216), .val (.long w5_307), .second, .val (.long w7_307), .second, .val (.int v9_307), .val (.long ((w7_307 - w5_307) + (1 : Int64))), .second, .unset] [(.long (p1.toInt64)), (.long w5_307)])) rfl (hb hby at_320) _ kz) ?_
      show own_Fin p e below G (T205.setTop (mkF m 323 #[.val (.int p0), .val (.int p1), .val (.ref b2), .val (.ref b106), .val (.int v4_216), .val (.long w5_307), .second, .val (.long w7_307), .second, .val (.int v9_307), .val (.long ((w7_307 - w5_307) + (1 : Int64))), .second, .unset] [(.long (4294967295 : Int64)), (.long (p1.toInt64)), (.long w5_307)]))
      refine own_to (fun _ kz => XS.land X205.here hx rfl (hb hby at_323) rfl kz) ?_
      show own_Fin p e below G (T205.setTop (mkF m 324 #[.val (.int p0), .val (.int p1), .val (.ref b2), .val (.ref b106), .val (.int v4_216), .val (.long w5_307), .second, .val (.long w7_307), .second, .val (.int v9_307), .val (.long ((w7_307 - w5_307) + (1 : Int64))), .second, .unset] [(.long ((p1.toInt64) &&& (4294967295 : Int64))), (.long w5_307)]))
      refine own_to (fun _ kz => XS.lload X205.here hx rfl (hb hby at_324) rfl  kz) ?_
      show own_Fin p e below G (T205.setTop (mkF m 326 #[.val (.int p0), .val (.int p1), .val (.ref b2), .val (.ref b106), .val (.int v4_216), .val (.long w5_307), .second, .val (.long w7_307), .second, .val (.int v9_307), .val (.long ((w7_307 - w5_307) + (1 : Int64))), .second, .unset] [(.long ((w7_307 - w5_307) + (1 : Int64))), (.long ((p1.toInt64) &&& (4294967295 : Int64))), (.long w5_307)]))
      refine own_to (fun _ kz => own_lrem X205 hx rfl (hb hby at_326) rfl (own_nz jh0_307) kz) ?_
      show own_Fin p e below G (T205.setTop (mkF m 327 #[.val (.int p0), .val (.int p1), .val (.ref b2), .val (.ref b106), .val (.int v4_216), .val (.long w5_307), .second, .val (.long w7_307), .second, .val (.int v9_307), .val (.long ((w7_307 - w5_307) + (1 : Int64))), .second, .unset] [(.long (((p1.toInt64) &&& (4294967295 : Int64)) % ((w7_307 - w5_307) + (1 : Int64)))), (.long w5_307)]))
      refine own_to (fun _ kz => XS.ladd X205.here hx rfl (hb hby at_327) rfl kz) ?_
      show own_Fin p e below G (T205.setTop (mkF m 328 #[.val (.int p0), .val (.int p1), .val (.ref b2), .val (.ref b106), .val (.int v4_216), .val (.long w5_307), .second, .val (.long w7_307), .second, .val (.int v9_307), .val (.long ((w7_307 - w5_307) + (1 : Int64))), .second, .unset] [(.long (w5_307 + (((p1.toInt64) &&& (4294967295 : Int64)) % ((w7_307 - w5_307) + (1 : Int64)))))]))
      refine own_to (fun _ kz => XS.l2i X205.here hx rfl (hb hby at_328) rfl kz) ?_
      show own_Fin p e below G (T205.setTop (mkF m 329 #[.val (.int p0), .val (.int p1), .val (.ref b2), .val (.ref b106), .val (.int v4_216), .val (.long w5_307), .second, .val (.long w7_307), .second, .val (.int v9_307), .val (.long ((w7_307 - w5_307) + (1 : Int64))), .second, .unset] [(.int ((w5_307 + (((p1.toInt64) &&& (4294967295 : Int64)) % ((w7_307 - w5_307) + (1 : Int64)))).toInt32))]))
      refine own_to (fun _ kz => XS.istore X205.here hx rfl (hb hby at_329) rfl (l' := #[.val (.int p0), .val (.int p1), .val (.ref b2), .val (.ref b106), .val (.int v4_216), .val (.long w5_307), .second, .val (.long w7_307), .second, .val (.int v9_307), .val (.long ((w7_307 - w5_307) + (1 : Int64))), .second, .val (.int ((w5_307 + (((p1.toInt64) &&& (4294967295 : Int64)) % ((w7_307 - w5_307) + (1 : Int64)))).toInt32))]) rfl kz) ?_
      show own_Fin p e below G (T205.setTop (mkF m 331 #[.val (.int p0), .val (.int p1), .val (.ref b2), .val (.ref b106), .val (.int v4_216), .val (.long w5_307), .second, .val (.long w7_307), .second, .val (.int v9_307), .val (.long ((w7_307 - w5_307) + (1 : Int64))), .second, .val (.int ((w5_307 + (((p1.toInt64) &&& (4294967295 : Int64)) % ((w7_307 - w5_307) + (1 : Int64)))).toInt32))] []))
      refine own_to (fun _ kz => XS.iload X205.here hx rfl (hb hby at_331) rfl  kz) ?_
      show own_Fin p e below G (T205.setTop (mkF m 333 #[.val (.int p0), .val (.int p1), .val (.ref b2), .val (.ref b106), .val (.int v4_216), .val (.long w5_307), .second, .val (.long w7_307), .second, .val (.int v9_307), .val (.long ((w7_307 - w5_307) + (1 : Int64))), .second, .val (.int ((w5_307 + (((p1.toInt64) &&& (4294967295 : Int64)) % ((w7_307 - w5_307) + (1 : Int64)))).toInt32))] [(.int ((w5_307 + (((p1.toInt64) &&& (4294967295 : Int64)) % ((w7_307 - w5_307) + (1 : Int64)))).toInt32))]))
      have Zz_333_E106 := Nat.le_trans Z_106 E106.1
      have Zz_333_W112 := Nat.le_trans Zz_333_E106 (Nat.le_of_eq (Wr.size W112).symm)
      have Zz_333_W117 := Nat.le_trans Zz_333_W112 (Nat.le_of_eq (Wr.size W117).symm)
      have Zz_333_W122 := Nat.le_trans Zz_333_W117 (Nat.le_of_eq (Wr.size W122).symm)
      have Zz_333_W127 := Nat.le_trans Zz_333_W122 (Nat.le_of_eq (Wr.size W127).symm)
      have Zz_333_W133 := Nat.le_trans Zz_333_W127 (Nat.le_of_eq (Wr.size W133).symm)
      have Zz_333_W139 := Nat.le_trans Zz_333_W133 (Nat.le_of_eq (Wr.size W139).symm)
      have Zz_333_W146 := Nat.le_trans Zz_333_W139 (Nat.le_of_eq (Wr.size W146).symm)
      have Zz_333_W153 := Nat.le_trans Zz_333_W146 (Nat.le_of_eq (Wr.size W153).symm)
      have Zz_333_W160 := Nat.le_trans Zz_333_W153 (Nat.le_of_eq (Wr.size W160).symm)
      have Zz_333_W167 := Nat.le_trans Zz_333_W160 (Nat.le_of_eq (Wr.size W167).symm)
      have Zz_333_W174 := Nat.le_trans Zz_333_W167 (Nat.le_of_eq (Wr.size W174).symm)
      have Zz_333_W181 := Nat.le_trans Zz_333_W174 (Nat.le_of_eq (Wr.size W181).symm)
      have Zz_333_W187 := Nat.le_trans Zz_333_W181 (Nat.le_of_eq (Wr.size W187).symm)
      have Zz_333_W193 := Nat.le_trans Zz_333_W187 (Nat.le_of_eq (Wr.size W193).symm)
      have Zz_333_W199 := Nat.le_trans Zz_333_W193 (Nat.le_of_eq (Wr.size W199).symm)
      have Zz_333_W205 := Nat.le_trans Zz_333_W199 (Nat.le_of_eq (Wr.size W205).symm)
      have Z_333 : n0 ≤ h205.size := Zz_333_W205
      obtain ⟨_, _, ⟨T333, L333, k333, n333⟩, -, X333, ⟨Lc333, hQ333, l333, y333, z333⟩, st333⟩ := Jvm.LawKit.callS X205 hx (y := (⟨"com/example/tabularium/tabularium/io/XmlDocuments", "isNameStart", "(I)Z"⟩ : MethodName)) hown (mvT hZ (hw _ (List.mem_of_getElem? (i := 10) rfl))) (mvT hZ (hw _ (List.mem_of_getElem? (i := 11) rfl))) (mvT hZ (hw _ (List.mem_of_getElem? (i := 12) rfl))) (mvT hZ (hw _ (List.mem_of_getElem? (i := 13) rfl))) (by decide) (backOf (W := 0) (rm1 l Z a0 hw [] ((w5_307 + (((p1.toInt64) &&& (4294967295 : Int64)) % ((w7_307 - w5_307) + (1 : Int64)))).toInt32) h205 n0 Z_333) hZ (hw _ (List.mem_of_getElem? (i := 13) rfl)) (hw _ (List.mem_of_getElem? (i := 12) rfl)) (by decide) (by decide)) (g := (mkF m 333 #[.val (.int p0), .val (.int p1), .val (.ref b2), .val (.ref b106), .val (.int v4_216), .val (.long w5_307), .second, .val (.long w7_307), .second, .val (.int v9_307), .val (.long ((w7_307 - w5_307) + (1 : Int64))), .second, .val (.int ((w5_307 + (((p1.toInt64) &&& (4294967295 : Int64)) % ((w7_307 - w5_307) + (1 : Int64)))).toInt32))] [(.int ((w5_307 + (((p1.toInt64) &&& (4294967295 : Int64)) % ((w7_307 - w5_307) + (1 : Int64)))).toInt32))])) rfl (by rw [hml]; rfl) (argsL := [(.int ((w5_307 + (((p1.toInt64) &&& (4294967295 : Int64)) % ((w7_307 - w5_307) + (1 : Int64)))).toInt32))]) (rest := []) (lenOf own_pd0 rfl) rfl (by show 2 * 0 + _ ≤ _; exact Nat.le_of_eq rfl) (hb hby at_333) (fun _ _ => ⟨rfl, e205, (by decide : 2 + 0 ≤ _), (by decide : 32 + 0 ≤ _)⟩)
      dsimp only [Pt.U, Pt.locs, Pt.cells, Pt.slots] at X333 l333 y333 z333 st333 hQ333
      subst l333 y333 z333
      obtain ⟨rfl, N333q, e333⟩ := hQ333
      obtain ⟨lo333, X333, N333⟩ : ∃ lo, Stand p l e _ s m _ below meth c T333 lo _ _ ∧ Fr n0 lo := ⟨_, X333, Fr.app N205 N333q⟩
      refine own_to st333 ?_
      show own_Fin p e below G (T333.setTop (mkF m 336 #[.val (.int p0), .val (.int p1), .val (.ref b2), .val (.ref b106), .val (.int v4_216), .val (.long w5_307), .second, .val (.long w7_307), .second, .val (.int v9_307), .val (.long ((w7_307 - w5_307) + (1 : Int64))), .second, .val (.int ((w5_307 + (((p1.toInt64) &&& (4294967295 : Int64)) % ((w7_307 - w5_307) + (1 : Int64)))).toInt32))] [(.int (f1 ((w5_307 + (((p1.toInt64) &&& (4294967295 : Int64)) % ((w7_307 - w5_307) + (1 : Int64)))).toInt32)))]))
      refine own_to (fun _ kz => XS.iload X333.here hx rfl (hb hby at_336) rfl  kz) ?_
      show own_Fin p e below G (T333.setTop (mkF m 338 #[.val (.int p0), .val (.int p1), .val (.ref b2), .val (.ref b106), .val (.int v4_216), .val (.long w5_307), .second, .val (.long w7_307), .second, .val (.int v9_307), .val (.long ((w7_307 - w5_307) + (1 : Int64))), .second, .val (.int ((w5_307 + (((p1.toInt64) &&& (4294967295 : Int64)) % ((w7_307 - w5_307) + (1 : Int64)))).toInt32))] [(.int v9_307), (.int (f1 ((w5_307 + (((p1.toInt64) &&& (4294967295 : Int64)) % ((w7_307 - w5_307) + (1 : Int64)))).toInt32)))]))
      have hc338 : (f1 ((w5_307 + (((p1.toInt64) &&& (4294967295 : Int64)) % ((w7_307 - w5_307) + (1 : Int64)))).toInt32)) = v9_307 := own_fin _ jh0_307
      refine own_to (fun _ kz => XS.icmpNo X333.here hx rfl (hb hby at_338) rfl (teq hc338).2 kz) ?_
      show own_Fin p e below G (T333.setTop (mkF m 341 #[.val (.int p0), .val (.int p1), .val (.ref b2), .val (.ref b106), .val (.int v4_216), .val (.long w5_307), .second, .val (.long w7_307), .second, .val (.int v9_307), .val (.long ((w7_307 - w5_307) + (1 : Int64))), .second, .val (.int ((w5_307 + (((p1.toInt64) &&& (4294967295 : Int64)) % ((w7_307 - w5_307) + (1 : Int64)))).toInt32))] []))
      refine own_to (fun _ kz => XS.iconst X333.here hx rfl (hb hby at_341) kz) ?_
      show own_Fin p e below G (T333.setTop (mkF m 342 #[.val (.int p0), .val (.int p1), .val (.ref b2), .val (.ref b106), .val (.int v4_216), .val (.long w5_307), .second, .val (.long w7_307), .second, .val (.int v9_307), .val (.long ((w7_307 - w5_307) + (1 : Int64))), .second, .val (.int ((w5_307 + (((p1.toInt64) &&& (4294967295 : Int64)) % ((w7_307 - w5_307) + (1 : Int64)))).toInt32))] [(.int (1 : Int32))]))
      refine own_to (fun _ kz => XS.goto X333.here hx rfl (pc0 := 342) (pc' := 346) rfl (hb hby at_342) (by decide) (by decide) kz) ?_
      show own_Fin p e below G (T333.setTop (mkF m 346 #[.val (.int p0), .val (.int p1), .val (.ref b2), .val (.ref b106), .val (.int v4_216), .val (.long w5_307), .second, .val (.long w7_307), .second, .val (.int v9_307), .val (.long ((w7_307 - w5_307) + (1 : Int64))), .second, .val (.int ((w5_307 + (((p1.toInt64) &&& (4294967295 : Int64)) % ((w7_307 - w5_307) + (1 : Int64)))).toInt32))] [(.int (1 : Int32))]))
      exact own_retN X333 hx hlk hG (t := .boolean) Bd.returns (by simp) (hb hby at_346) (by decide) (by decide) (by rw [e333]; exact ⟨rfl, N333, trivial⟩)
    by_cases hc221 : (v4_216 &&& (1 : Int32)) = (1 : Int32)
    · refine own_to (fun _ kz => XS.icmpNo X205.here hx rfl (hb hby at_221) rfl (teq hc221).2 kz) ?_
      show own_Fin p e below G (T205.setTop (mkF m 224 #[.val (.int p0), .val (.int p1), .val (.ref b2), .val (.ref b106), .val (.int v4_216), .unset, .unset, .unset, .unset, .unset, .unset, .unset, .unset] []))
      refine own_to (fun _ kz => XS.iload X205.here hx rfl (hb hby at_224) rfl  kz) ?_
      show own_Fin p e below G (T205.setTop (mkF m 226 #[.val (.int p0), .val (.int p1), .val (.ref b2), .val (.ref b106), .val (.int v4_216), .unset, .unset, .unset, .unset, .unset, .unset, .unset, .unset] [(.int v4_216)]))
      refine own_to (fun _ kz => XS.iconst X205.here hx rfl (hb hby at_226) kz) ?_
      show own_Fin p e below G (T205.setTop (mkF m 227 #[.val (.int p0), .val (.int p1), .val (.ref b2), .val (.ref b106), .val (.int v4_216), .unset, .unset, .unset, .unset, .unset, .unset, .unset, .unset] [(.int (1 : Int32)), (.int v4_216)]))
      refine own_to (fun _ kz => XS.ishr X205.here hx rfl (hb hby at_227) rfl kz) ?_
      show own_Fin p e below G (T205.setTop (mkF m 228 #[.val (.int p0), .val (.int p1), .val (.ref b2), .val (.ref b106), .val (.int v4_216), .unset, .unset, .unset, .unset, .unset, .unset, .unset, .unset] [(.int (v4_216 >>> ((1 : Int32) &&& 31)))]))
      refine own_to (fun _ kz => XS.istore X205.here hx rfl (hb hby at_228) rfl (l' := #[.val (.int p0), .val (.int p1), .val (.ref b2), .val (.ref b106), .val (.int v4_216), .unset, .unset, .unset, .unset, .unset, .val (.int (v4_216 >>> ((1 : Int32) &&& 31))), .unset, .unset]) rfl kz) ?_
      show own_Fin p e below G (T205.setTop (mkF m 230 #[.val (.int p0), .val (.int p1), .val (.ref b2), .val (.ref b106), .val (.int v4_216), .unset, .unset, .unset, .unset, .unset, .val (.int (v4_216 >>> ((1 : Int32) &&& 31))), .unset, .unset] []))
      refine own_to (fun _ kz => XS.aloadN X205.here hx rfl (hb hby at_230) rfl (rfl)  kz) ?_
      show own_Fin p e below G (T205.setTop (mkF m 231 #[.val (.int p0), .val (.int p1), .val (.ref b2), .val (.ref b106), .val (.int v4_216), .unset, .unset, .unset, .unset, .unset, .val (.int (v4_216 >>> ((1 : Int32) &&& 31))), .unset, .unset] [(.ref b2)]))
      refine own_to (fun _ kz => XS.iload X205.here hx rfl (hb hby at_231) rfl  kz) ?_
      show own_Fin p e below G (T205.setTop (mkF m 233 #[.val (.int p0), .val (.int p1), .val (.ref b2), .val (.ref b106), .val (.int v4_216), .unset, .unset, .unset, .unset, .unset, .val (.int (v4_216 >>> ((1 : Int32) &&& 31))), .unset, .unset] [(.int (v4_216 >>> ((1 : Int32) &&& 31))), (.ref b2)]))
      have Vc102_at_233 : own_AV Value.int Z h205 b2 .int 16 own_lo := (((((((((((((((((Vc102.ext E106).other W112 ne_b2_b106).other W117 ne_b2_b106).other W122 ne_b2_b106).other W127 ne_b2_b106).other W133 ne_b2_b106).other W139 ne_b2_b106).other W146 ne_b2_b106).other W153 ne_b2_b106).other W160 ne_b2_b106).other W167 ne_b2_b106).other W174 ne_b2_b106).other W181 ne_b2_b106).other W187 ne_b2_b106).other W193 ne_b2_b106).other W199 ne_b2_b106).other W205 ne_b2_b106)
      refine own_to (fun _ kz => own_iaload X205 hx hZ e205 Vc102_at_233 (j := (v4_216 >>> ((1 : Int32) &&& 31))) (own_o1 jh0_216 hc221).1 rfl (own_o1 jh0_216 hc221).2 (g := (mkF m 233 #[.val (.int p0), .val (.int p1), .val (.ref b2), .val (.ref b106), .val (.int v4_216), .unset, .unset, .unset, .unset, .unset, .val (.int (v4_216 >>> ((1 : Int32) &&& 31))), .unset, .unset] [(.int (v4_216 >>> ((1 : Int32) &&& 31))), (.ref b2)])) rfl rfl (hb hby at_233) kz) ?_
      show own_Fin p e below G (T205.setTop (mkF m 234 #[.val (.int p0), .val (.int p1), .val (.ref b2), .val (.ref b106), .val (.int v4_216), .unset, .unset, .unset, .unset, .unset, .val (.int (v4_216 >>> ((1 : Int32) &&& 31))), .unset, .unset] [(.int (own_lo (v4_216 >>> ((1 : Int32) &&& 31)).toNatClampNeg))]))
      refine own_to (fun _ kz => XS.i2l X205.here hx rfl (hb hby at_234) rfl kz) ?_
      show own_Fin p e below G (T205.setTop (mkF m 235 #[.val (.int p0), .val (.int p1), .val (.ref b2), .val (.ref b106), .val (.int v4_216), .unset, .unset, .unset, .unset, .unset, .val (.int (v4_216 >>> ((1 : Int32) &&& 31))), .unset, .unset] [(.long ((own_lo (v4_216 >>> ((1 : Int32) &&& 31)).toNatClampNeg).toInt64))]))
      refine own_to (fun _ kz => XS.lstore X205.here hx rfl (hb hby at_235) rfl (l' := #[.val (.int p0), .val (.int p1), .val (.ref b2), .val (.ref b106), .val (.int v4_216), .val (.long ((own_lo (v4_216 >>> ((1 : Int32) &&& 31)).toNatClampNeg).toInt64)), .second, .unset, .unset, .unset, .val (.int (v4_216 >>> ((1 : Int32) &&& 31))), .unset, .unset]) rfl kz) ?_
      show own_Fin p e below G (T205.setTop (mkF m 237 #[.val (.int p0), .val (.int p1), .val (.ref b2), .val (.ref b106), .val (.int v4_216), .val (.long ((own_lo (v4_216 >>> ((1 : Int32) &&& 31)).toNatClampNeg).toInt64)), .second, .unset, .unset, .unset, .val (.int (v4_216 >>> ((1 : Int32) &&& 31))), .unset, .unset] []))
      refine own_to (fun _ kz => XS.aloadN X205.here hx rfl (hb hby at_237) rfl (rfl)  kz) ?_
      show own_Fin p e below G (T205.setTop (mkF m 238 #[.val (.int p0), .val (.int p1), .val (.ref b2), .val (.ref b106), .val (.int v4_216), .val (.long ((own_lo (v4_216 >>> ((1 : Int32) &&& 31)).toNatClampNeg).toInt64)), .second, .unset, .unset, .unset, .val (.int (v4_216 >>> ((1 : Int32) &&& 31))), .unset, .unset] [(.ref b106)]))
      refine own_to (fun _ kz => XS.iload X205.here hx rfl (hb hby at_238) rfl  kz) ?_
      show own_Fin p e below G (T205.setTop (mkF m 240 #[.val (.int p0), .val (.int p1), .val (.ref b2), .val (.ref b106), .val (.int v4_216), .val (.long ((own_lo (v4_216 >>> ((1 : Int32) &&& 31)).toNatClampNeg).toInt64)), .second, .unset, .unset, .unset, .val (.int (v4_216 >>> ((1 : Int32) &&& 31))), .unset, .unset] [(.int (v4_216 >>> ((1 : Int32) &&& 31))), (.ref b106)]))
      refine own_to (fun _ kz => own_iaload X205 hx hZ e205 Vc205 (j := (v4_216 >>> ((1 : Int32) &&& 31))) (own_o1 jh0_216 hc221).1 rfl (own_o1 jh0_216 hc221).2 (g := (mkF m 240 #[.val (.int p0), .val (.int p1), .val (.ref b2), .val (.ref b106), .val (.int v4_216), .val (.long ((own_lo (v4_216 >>> ((1 : Int32) &&& 31)).toNatClampNeg).toInt64)), .second, .unset, .unset, .unset, .val (.int (v4_216 >>> ((1 : Int32) &&& 31))), .unset, .unset] [(.int (v4_216 >>> ((1 : Int32) &&& 31))), (.ref b106)])) rfl rfl (hb hby at_240) kz) ?_
      show own_Fin p e below G (T205.setTop (mkF m 241 #[.val (.int p0), .val (.int p1), .val (.ref b2), .val (.ref b106), .val (.int v4_216), .val (.long ((own_lo (v4_216 >>> ((1 : Int32) &&& 31)).toNatClampNeg).toInt64)), .second, .unset, .unset, .unset, .val (.int (v4_216 >>> ((1 : Int32) &&& 31))), .unset, .unset] [(.int (own_hi (v4_216 >>> ((1 : Int32) &&& 31)).toNatClampNeg))]))
      refine own_to (fun _ kz => XS.i2l X205.here hx rfl (hb hby at_241) rfl kz) ?_
      show own_Fin p e below G (T205.setTop (mkF m 242 #[.val (.int p0), .val (.int p1), .val (.ref b2), .val (.ref b106), .val (.int v4_216), .val (.long ((own_lo (v4_216 >>> ((1 : Int32) &&& 31)).toNatClampNeg).toInt64)), .second, .unset, .unset, .unset, .val (.int (v4_216 >>> ((1 : Int32) &&& 31))), .unset, .unset] [(.long ((own_hi (v4_216 >>> ((1 : Int32) &&& 31)).toNatClampNeg).toInt64))]))
      refine own_to (fun _ kz => XS.lstore X205.here hx rfl (hb hby at_242) rfl (l' := #[.val (.int p0), .val (.int p1), .val (.ref b2), .val (.ref b106), .val (.int v4_216), .val (.long ((own_lo (v4_216 >>> ((1 : Int32) &&& 31)).toNatClampNeg).toInt64)), .second, .val (.long ((own_hi (v4_216 >>> ((1 : Int32) &&& 31)).toNatClampNeg).toInt64)), .second, .unset, .val (.int (v4_216 >>> ((1 : Int32) &&& 31))), .unset, .unset]) rfl kz) ?_
      show own_Fin p e below G (T205.setTop (mkF m 244 #[.val (.int p0), .val (.int p1), .val (.ref b2), .val (.ref b106), .val (.int v4_216), .val (.long ((own_lo (v4_216 >>> ((1 : Int32) &&& 31)).toNatClampNeg).toInt64)), .second, .val (.long ((own_hi (v4_216 >>> ((1 : Int32) &&& 31)).toNatClampNeg).toInt64)), .second, .unset, .val (.int (v4_216 >>> ((1 : Int32) &&& 31))), .unset, .unset] []))
      refine own_to (fun _ kz => XS.iconst X205.here hx rfl (hb hby at_244) kz) ?_
      show own_Fin p e below G (T205.setTop (mkF m 245 #[.val (.int p0), .val (.int p1), .val (.ref b2), .val (.ref b106), .val (.int v4_216), .val (.long ((own_lo (v4_216 >>> ((1 : Int32) &&& 31)).toNatClampNeg).toInt64)), .second, .val (.long ((own_hi (v4_216 >>> ((1 : Int32) &&& 31)).toNatClampNeg).toInt64)), .second, .unset, .val (.int (v4_216 >>> ((1 : Int32) &&& 31))), .unset, .unset] [(.int (1 : Int32))]))
      refine own_to (fun _ kz => XS.istore X205.here hx rfl (hb hby at_245) rfl (l' := #[.val (.int p0), .val (.int p1), .val (.ref b2), .val (.ref b106), .val (.int v4_216), .val (.long ((own_lo (v4_216 >>> ((1 : Int32) &&& 31)).toNatClampNeg).toInt64)), .second, .val (.long ((own_hi (v4_216 >>> ((1 : Int32) &&& 31)).toNatClampNeg).toInt64)), .second, .val (.int (1 : Int32)), .val (.int (v4_216 >>> ((1 : Int32) &&& 31))), .unset, .unset]) rfl kz) ?_
      show own_Fin p e below G (T205.setTop (mkF m 247 #[.val (.int p0), .val (.int p1), .val (.ref b2), .val (.ref b106), .val (.int v4_216), .val (.long ((own_lo (v4_216 >>> ((1 : Int32) &&& 31)).toNatClampNeg).toInt64)), .second, .val (.long ((own_hi (v4_216 >>> ((1 : Int32) &&& 31)).toNatClampNeg).toInt64)), .second, .val (.int (1 : Int32)), .val (.int (v4_216 >>> ((1 : Int32) &&& 31))), .unset, .unset] []))
      refine own_to (fun _ kz => XS.goto X205.here hx rfl (pc0 := 247) (pc' := 307) rfl (hb hby at_247) (by decide) (by decide) kz) ?_
      show own_Fin p e below G (T205.setTop (mkF m 307 #[.val (.int p0), .val (.int p1), .val (.ref b2), .val (.ref b106), .val (.int v4_216), .val (.long ((own_lo (v4_216 >>> ((1 : Int32) &&& 31)).toNatClampNeg).toInt64)), .second, .val (.long ((own_hi (v4_216 >>> ((1 : Int32) &&& 31)).toNatClampNeg).toInt64)), .second, .val (.int (1 : Int32)), .val (.int (v4_216 >>> ((1 : Int32) &&& 31))), .unset, .unset] []))
      exact K307 ((own_lo (v4_216 >>> ((1 : Int32) &&& 31)).toNatClampNeg).toInt64) ((own_hi (v4_216 >>> ((1 : Int32) &&& 31)).toNatClampNeg).toInt64) (1 : Int32) (own_o2 jh0_216 hc221)
    · refine own_to (fun _ kz => XS.icmpYes X205.here hx rfl (pc0 := 221) (pc' := 250) rfl (hb hby at_221) rfl (feq hc221).2 (by decide) (by decide) kz) ?_
      show own_Fin p e below G (T205.setTop (mkF m 250 #[.val (.int p0), .val (.int p1), .val (.ref b2), .val (.ref b106), .val (.int v4_216), .unset, .unset, .unset, .unset, .unset, .unset, .unset, .unset] []))
      refine own_to (fun _ kz => XS.iload X205.here hx rfl (hb hby at_250) rfl  kz) ?_
      show own_Fin p e below G (T205.setTop (mkF m 252 #[.val (.int p0), .val (.int p1), .val (.ref b2), .val (.ref b106), .val (.int v4_216), .unset, .unset, .unset, .unset, .unset, .unset, .unset, .unset] [(.int v4_216)]))
      refine own_to (fun _ kz => XS.iconst X205.here hx rfl (hb hby at_252) kz) ?_
      show own_Fin p e below G (T205.setTop (mkF m 253 #[.val (.int p0), .val (.int p1), .val (.ref b2), .val (.ref b106), .val (.int v4_216), .unset, .unset, .unset, .unset, .unset, .unset, .unset, .unset] [(.int (1 : Int32)), (.int v4_216)]))
      refine own_to (fun _ kz => XS.ishr X205.here hx rfl (hb hby at_253) rfl kz) ?_
      show own_Fin p e below G (T205.setTop (mkF m 254 #[.val (.int p0), .val (.int p1), .val (.ref b2), .val (.ref b106), .val (.int v4_216), .unset, .unset, .unset, .unset, .unset, .unset, .unset, .unset] [(.int (v4_216 >>> ((1 : Int32) &&& 31)))]))
      refine own_to (fun _ kz => XS.istore X205.here hx rfl (hb hby at_254) rfl (l' := #[.val (.int p0), .val (.int p1), .val (.ref b2), .val (.ref b106), .val (.int v4_216), .unset, .unset, .unset, .unset, .unset, .val (.int (v4_216 >>> ((1 : Int32) &&& 31))), .unset, .unset]) rfl kz) ?_
      show own_Fin p e below G (T205.setTop (mkF m 256 #[.val (.int p0), .val (.int p1), .val (.ref b2), .val (.ref b106), .val (.int v4_216), .unset, .unset, .unset, .unset, .unset, .val (.int (v4_216 >>> ((1 : Int32) &&& 31))), .unset, .unset] []))
      refine own_to (fun _ kz => XS.iload X205.here hx rfl (hb hby at_256) rfl  kz) ?_
      show own_Fin p e below G (T205.setTop (mkF m 258 #[.val (.int p0), .val (.int p1), .val (.ref b2), .val (.ref b106), .val (.int v4_216), .unset, .unset, .unset, .unset, .unset, .val (.int (v4_216 >>> ((1 : Int32) &&& 31))), .unset, .unset] [(.int (v4_216 >>> ((1 : Int32) &&& 31)))]))
      by_cases hc258 : (v4_216 >>> ((1 : Int32) &&& 31)) = (0 : Int32)
      · refine own_to (fun _ kz => XS.ifNo X205.here hx rfl (hb hby at_258) rfl ((if0 _ _).trans (teq hc258).2) kz) ?_
        show own_Fin p e below G (T205.setTop (mkF m 261 #[.val (.int p0), .val (.int p1), .val (.ref b2), .val (.ref b106), .val (.int v4_216), .unset, .unset, .unset, .unset, .unset, .val (.int (v4_216 >>> ((1 : Int32) &&& 31))), .unset, .unset] []))
        refine own_to (fun _ kz => X205.ldc2Long hx hown (mvT hZ (hw _ (List.mem_of_getElem? (i := 8) rfl))) (g := (mkF m 261 #[.val (.int p0), .val (.int p1), .val (.ref b2), .val (.ref b106), .val (.int v4_216), .unset, .unset, .unset, .unset, .unset, .val (.int (v4_216 >>> ((1 : Int32) &&& 31))), .unset, .unset] [])) rfl (hb hby at_261) _ kz) ?_
        show own_Fin p e below G (T205.setTop (mkF m 264 #[.val (.int p0), .val (.int p1), .val (.ref b2), .val (.ref b106), .val (.int v4_216), .unset, .unset, .unset, .unset, .unset, .val (.int (v4_216 >>> ((1 : Int32) &&& 31))), .unset, .unset] [(.long (-2147483648 : Int64))]))
        refine own_to (fun _ kz => XS.lstore X205.here hx rfl (hb hby at_264) rfl (l' := #[.val (.int p0), .val (.int p1), .val (.ref b2), .val (.ref b106), .val (.int v4_216), .val (.long (-2147483648 : Int64)), .second, .unset, .unset, .unset, .val (.int (v4_216 >>> ((1 : Int32) &&& 31))), .unset, .unset]) rfl kz) ?_
        show own_Fin p e below G (T205.setTop (mkF m 266 #[.val (.int p0), .val (.int p1), .val (.ref b2), .val (.ref b106), .val (.int v4_216), .val (.long (-2147483648 : Int64)), .second, .unset, .unset, .unset, .val (.int (v4_216 >>> ((1 : Int32) &&& 31))), .unset, .unset] []))
        refine own_to (fun _ kz => XS.goto X205.here hx rfl (pc0 := 266) (pc' := 280) rfl (hb hby at_266) (by decide) (by decide) kz) ?_
        show own_Fin p e below G (T205.setTop (mkF m 280 #[.val (.int p0), .val (.int p1), .val (.ref b2), .val (.ref b106), .val (.int v4_216), .val (.long (-2147483648 : Int64)), .second, .unset, .unset, .unset, .val (.int (v4_216 >>> ((1 : Int32) &&& 31))), .unset, .unset] []))
        refine own_to (fun _ kz => XS.iload X205.here hx rfl (hb hby at_280) rfl  kz) ?_
        show own_Fin p e below G (T205.setTop (mkF m 282 #[.val (.int p0), .val (.int p1), .val (.ref b2), .val (.ref b106), .val (.int v4_216), .val (.long (-2147483648 : Int64)), .second, .unset, .unset, .unset, .val (.int (v4_216 >>> ((1 : Int32) &&& 31))), .unset, .unset] [(.int (v4_216 >>> ((1 : Int32) &&& 31)))]))
        refine own_to (fun _ kz => XS.bipush X205.here hx rfl (hb hby at_282) kz) ?_
        show own_Fin p e below G (T205.setTop (mkF m 284 #[.val (.int p0), .val (.int p1), .val (.ref b2), .val (.ref b106), .val (.int v4_216), .val (.long (-2147483648 : Int64)), .second, .unset, .unset, .unset, .val (.int (v4_216 >>> ((1 : Int32) &&& 31))), .unset, .unset] [(.int (16 : Int32)), (.int (v4_216 >>> ((1 : Int32) &&& 31)))]))
        by_cases hc284 : (v4_216 >>> ((1 : Int32) &&& 31)) = (16 : Int32)
        · refine own_to (fun _ kz => XS.icmpNo X205.here hx rfl (hb hby at_284) rfl (teq hc284).2 kz) ?_
          show own_Fin p e below G (T205.setTop (mkF m 287 #[.val (.int p0), .val (.int p1), .val (.ref b2), .val (.ref b106), .val (.int v4_216), .val (.long (-2147483648 : Int64)), .second, .unset, .unset, .unset, .val (.int (v4_216 >>> ((1 : Int32) &&& 31))), .unset, .unset] []))
          refine own_to (fun _ kz => X205.ldc2Long hx hown (mvT hZ (hw _ (List.mem_of_getElem? (i := 21) rfl))) (g := (mkF m 287 #[.val (.int p0), .val (.int p1), .val (.ref b2), .val (.ref b106), .val (.int v4_216), .val (.long (-2147483648 : Int64)), .second, .unset, .unset, .unset, .val (.int (v4_216 >>> ((1 : Int32) &&& 31))), .unset, .unset] [])) rfl (hb hby at_287) _ kz) ?_
          show own_Fin p e below G (T205.setTop (mkF m 290 #[.val (.int p0), .val (.int p1), .val (.ref b2), .val (.ref b106), .val (.int v4_216), .val (.long (-2147483648 : Int64)), .second, .unset, .unset, .unset, .val (.int (v4_216 >>> ((1 : Int32) &&& 31))), .unset, .unset] [(.long (2147483647 : Int64))]))
          refine own_to (fun _ kz => XS.lstore X205.here hx rfl (hb hby at_290) rfl (l' := #[.val (.int p0), .val (.int p1), .val (.ref b2), .val (.ref b106), .val (.int v4_216), .val (.long (-2147483648 : Int64)), .second, .val (.long (2147483647 : Int64)), .second, .unset, .val (.int (v4_216 >>> ((1 : Int32) &&& 31))), .unset, .unset]) rfl kz) ?_
          show own_Fin p e below G (T205.setTop (mkF m 292 #[.val (.int p0), .val (.int p1), .val (.ref b2), .val (.ref b106), .val (.int v4_216), .val (.long (-2147483648 : Int64)), .second, .val (.long (2147483647 : Int64)), .second, .unset, .val (.int (v4_216 >>> ((1 : Int32) &&& 31))), .unset, .unset] []))
          refine own_to (fun _ kz => XS.goto X205.here hx rfl (pc0 := 292) (pc' := 304) rfl (hb hby at_292) (by decide) (by decide) kz) ?_
          show own_Fin p e below G (T205.setTop (mkF m 304 #[.val (.int p0), .val (.int p1), .val (.ref b2), .val (.ref b106), .val (.int v4_216), .val (.long (-2147483648 : Int64)), .second, .val (.long (2147483647 : Int64)), .second, .unset, .val (.int (v4_216 >>> ((1 : Int32) &&& 31))), .unset, .unset] []))
          refine own_to (fun _ kz => XS.iconst X205.here hx rfl (hb hby at_304) kz) ?_
          show own_Fin p e below G (T205.setTop (mkF m 305 #[.val (.int p0), .val (.int p1), .val (.ref b2), .val (.ref b106), .val (.int v4_216), .val (.long (-2147483648 : Int64)), .second, .val (.long (2147483647 : Int64)), .second, .unset, .val (.int (v4_216 >>> ((1 : Int32) &&& 31))), .unset, .unset] [(.int (0 : Int32))]))
          refine own_to (fun _ kz => XS.istore X205.here hx rfl (hb hby at_305) rfl (l' := #[.val (.int p0), .val (.int p1), .val (.ref b2), .val (.ref b106), .val (.int v4_216), .val (.long (-2147483648 : Int64)), .second, .val (.long (2147483647 : Int64)), .second, .val (.int (0 : Int32)), .val (.int (v4_216 >>> ((1 : Int32) &&& 31))), .unset, .unset]) rfl kz) ?_
          show own_Fin p e below G (T205.setTop (mkF m 307 #[.val (.int p0), .val (.int p1), .val (.ref b2), .val (.ref b106), .val (.int v4_216), .val (.long (-2147483648 : Int64)), .second, .val (.long (2147483647 : Int64)), .second, .val (.int (0 : Int32)), .val (.int (v4_216 >>> ((1 : Int32) &&& 31))), .unset, .unset] []))
          exact K307 (-2147483648 : Int64) (2147483647 : Int64) (0 : Int32) (own_v1 jh0_216 hc221 hc258 hc284)
        · refine own_to (fun _ kz => XS.icmpYes X205.here hx rfl (pc0 := 284) (pc' := 295) rfl (hb hby at_284) rfl (feq hc284).2 (by decide) (by decide) kz) ?_
          show own_Fin p e below G (T205.setTop (mkF m 295 #[.val (.int p0), .val (.int p1), .val (.ref b2), .val (.ref b106), .val (.int v4_216), .val (.long (-2147483648 : Int64)), .second, .unset, .unset, .unset, .val (.int (v4_216 >>> ((1 : Int32) &&& 31))), .unset, .unset] []))
          refine own_to (fun _ kz => XS.aloadN X205.here hx rfl (hb hby at_295) rfl (rfl)  kz) ?_
          show own_Fin p e below G (T205.setTop (mkF m 296 #[.val (.int p0), .val (.int p1), .val (.ref b2), .val (.ref b106), .val (.int v4_216), .val (.long (-2147483648 : Int64)), .second, .unset, .unset, .unset, .val (.int (v4_216 >>> ((1 : Int32) &&& 31))), .unset, .unset] [(.ref b2)]))
          refine own_to (fun _ kz => XS.iload X205.here hx rfl (hb hby at_296) rfl  kz) ?_
          show own_Fin p e below G (T205.setTop (mkF m 298 #[.val (.int p0), .val (.int p1), .val (.ref b2), .val (.ref b106), .val (.int v4_216), .val (.long (-2147483648 : Int64)), .second, .unset, .unset, .unset, .val (.int (v4_216 >>> ((1 : Int32) &&& 31))), .unset, .unset] [(.int (v4_216 >>> ((1 : Int32) &&& 31))), (.ref b2)]))
          have Vc102_at_298 : own_AV Value.int Z h205 b2 .int 16 own_lo := (((((((((((((((((Vc102.ext E106).other W112 ne_b2_b106).other W117 ne_b2_b106).other W122 ne_b2_b106).other W127 ne_b2_b106).other W133 ne_b2_b106).other W139 ne_b2_b106).other W146 ne_b2_b106).other W153 ne_b2_b106).other W160 ne_b2_b106).other W167 ne_b2_b106).other W174 ne_b2_b106).other W181 ne_b2_b106).other W187 ne_b2_b106).other W193 ne_b2_b106).other W199 ne_b2_b106).other W205 ne_b2_b106)
          refine own_to (fun _ kz => own_iaload X205 hx hZ e205 Vc102_at_298 (j := (v4_216 >>> ((1 : Int32) &&& 31))) (own_g2 jh0_216 hc284).1 rfl (own_g2 jh0_216 hc284).2 (g := (mkF m 298 #[.val (.int p0), .val (.int p1), .val (.ref b2), .val (.ref b106), .val (.int v4_216), .val (.long (-2147483648 : Int64)), .second, .unset, .unset, .unset, .val (.int (v4_216 >>> ((1 : Int32) &&& 31))), .unset, .unset] [(.int (v4_216 >>> ((1 : Int32) &&& 31))), (.ref b2)])) rfl rfl (hb hby at_298) kz) ?_
          show own_Fin p e below G (T205.setTop (mkF m 299 #[.val (.int p0), .val (.int p1), .val (.ref b2), .val (.ref b106), .val (.int v4_216), .val (.long (-2147483648 : Int64)), .second, .unset, .unset, .unset, .val (.int (v4_216 >>> ((1 : Int32) &&& 31))), .unset, .unset] [(.int (own_lo (v4_216 >>> ((1 : Int32) &&& 31)).toNatClampNeg))]))
          refine own_to (fun _ kz => XS.i2l X205.here hx rfl (hb hby at_299) rfl kz) ?_
          show own_Fin p e below G (T205.setTop (mkF m 300 #[.val (.int p0), .val (.int p1), .val (.ref b2), .val (.ref b106), .val (.int v4_216), .val (.long (-2147483648 : Int64)), .second, .unset, .unset, .unset, .val (.int (v4_216 >>> ((1 : Int32) &&& 31))), .unset, .unset] [(.long ((own_lo (v4_216 >>> ((1 : Int32) &&& 31)).toNatClampNeg).toInt64))]))
          refine own_to (fun _ kz => XS.lconst X205.here hx rfl (hb hby at_300) kz) ?_
          show own_Fin p e below G (T205.setTop (mkF m 301 #[.val (.int p0), .val (.int p1), .val (.ref b2), .val (.ref b106), .val (.int v4_216), .val (.long (-2147483648 : Int64)), .second, .unset, .unset, .unset, .val (.int (v4_216 >>> ((1 : Int32) &&& 31))), .unset, .unset] [(.long (1 : Int64)), (.long ((own_lo (v4_216 >>> ((1 : Int32) &&& 31)).toNatClampNeg).toInt64))]))
          refine own_to (fun _ kz => XS.lsub X205.here hx rfl (hb hby at_301) rfl kz) ?_
          show own_Fin p e below G (T205.setTop (mkF m 302 #[.val (.int p0), .val (.int p1), .val (.ref b2), .val (.ref b106), .val (.int v4_216), .val (.long (-2147483648 : Int64)), .second, .unset, .unset, .unset, .val (.int (v4_216 >>> ((1 : Int32) &&& 31))), .unset, .unset] [(.long (((own_lo (v4_216 >>> ((1 : Int32) &&& 31)).toNatClampNeg).toInt64) - (1 : Int64)))]))
          refine own_to (fun _ kz => XS.lstore X205.here hx rfl (hb hby at_302) rfl (l' := #[.val (.int p0), .val (.int p1), .val (.ref b2), .val (.ref b106), .val (.int v4_216), .val (.long (-2147483648 : Int64)), .second, .val (.long (((own_lo (v4_216 >>> ((1 : Int32) &&& 31)).toNatClampNeg).toInt64) - (1 : Int64))), .second, .unset, .val (.int (v4_216 >>> ((1 : Int32) &&& 31))), .unset, .unset]) rfl kz) ?_
          show own_Fin p e below G (T205.setTop (mkF m 304 #[.val (.int p0), .val (.int p1), .val (.ref b2), .val (.ref b106), .val (.int v4_216), .val (.long (-2147483648 : Int64)), .second, .val (.long (((own_lo (v4_216 >>> ((1 : Int32) &&& 31)).toNatClampNeg).toInt64) - (1 : Int64))), .second, .unset, .val (.int (v4_216 >>> ((1 : Int32) &&& 31))), .unset, .unset] []))
          refine own_to (fun _ kz => XS.iconst X205.here hx rfl (hb hby at_304) kz) ?_
          show own_Fin p e below G (T205.setTop (mkF m 305 #[.val (.int p0), .val (.int p1), .val (.ref b2), .val (.ref b106), .val (.int v4_216), .val (.long (-2147483648 : Int64)), .second, .val (.long (((own_lo (v4_216 >>> ((1 : Int32) &&& 31)).toNatClampNeg).toInt64) - (1 : Int64))), .second, .unset, .val (.int (v4_216 >>> ((1 : Int32) &&& 31))), .unset, .unset] [(.int (0 : Int32))]))
          refine own_to (fun _ kz => XS.istore X205.here hx rfl (hb hby at_305) rfl (l' := #[.val (.int p0), .val (.int p1), .val (.ref b2), .val (.ref b106), .val (.int v4_216), .val (.long (-2147483648 : Int64)), .second, .val (.long (((own_lo (v4_216 >>> ((1 : Int32) &&& 31)).toNatClampNeg).toInt64) - (1 : Int64))), .second, .val (.int (0 : Int32)), .val (.int (v4_216 >>> ((1 : Int32) &&& 31))), .unset, .unset]) rfl kz) ?_
          show own_Fin p e below G (T205.setTop (mkF m 307 #[.val (.int p0), .val (.int p1), .val (.ref b2), .val (.ref b106), .val (.int v4_216), .val (.long (-2147483648 : Int64)), .second, .val (.long (((own_lo (v4_216 >>> ((1 : Int32) &&& 31)).toNatClampNeg).toInt64) - (1 : Int64))), .second, .val (.int (0 : Int32)), .val (.int (v4_216 >>> ((1 : Int32) &&& 31))), .unset, .unset] []))
          exact K307 (-2147483648 : Int64) (((own_lo (v4_216 >>> ((1 : Int32) &&& 31)).toNatClampNeg).toInt64) - (1 : Int64)) (0 : Int32) (own_v2 jh0_216 hc221 hc258 hc284)
      · refine own_to (fun _ kz => XS.ifYes X205.here hx rfl (pc0 := 258) (pc' := 269) rfl (hb hby at_258) rfl ((if0 _ _).trans (feq hc258).2) (by decide) (by decide) kz) ?_
        show own_Fin p e below G (T205.setTop (mkF m 269 #[.val (.int p0), .val (.int p1), .val (.ref b2), .val (.ref b106), .val (.int v4_216), .unset, .unset, .unset, .unset, .unset, .val (.int (v4_216 >>> ((1 : Int32) &&& 31))), .unset, .unset] []))
        refine own_to (fun _ kz => XS.aloadN X205.here hx rfl (hb hby at_269) rfl (rfl)  kz) ?_
        show own_Fin p e below G (T205.setTop (mkF m 270 #[.val (.int p0), .val (.int p1), .val (.ref b2), .val (.ref b106), .val (.int v4_216), .unset, .unset, .unset, .unset, .unset, .val (.int (v4_216 >>> ((1 : Int32) &&& 31))), .unset, .unset] [(.ref b106)]))
        refine own_to (fun _ kz => XS.iload X205.here hx rfl (hb hby at_270) rfl  kz) ?_
        show own_Fin p e below G (T205.setTop (mkF m 272 #[.val (.int p0), .val (.int p1), .val (.ref b2), .val (.ref b106), .val (.int v4_216), .unset, .unset, .unset, .unset, .unset, .val (.int (v4_216 >>> ((1 : Int32) &&& 31))), .unset, .unset] [(.int (v4_216 >>> ((1 : Int32) &&& 31))), (.ref b106)]))
        refine own_to (fun _ kz => XS.iconst X205.here hx rfl (hb hby at_272) kz) ?_
        show own_Fin p e below G (T205.setTop (mkF m 273 #[.val (.int p0), .val (.int p1), .val (.ref b2), .val (.ref b106), .val (.int v4_216), .unset, .unset, .unset, .unset, .unset, .val (.int (v4_216 >>> ((1 : Int32) &&& 31))), .unset, .unset] [(.int (1 : Int32)), (.int (v4_216 >>> ((1 : Int32) &&& 31))), (.ref b106)]))
        refine own_to (fun _ kz => XS.isub X205.here hx rfl (hb hby at_273) rfl kz) ?_
        show own_Fin p e below G (T205.setTop (mkF m 274 #[.val (.int p0), .val (.int p1), .val (.ref b2), .val (.ref b106), .val (.int v4_216), .unset, .unset, .unset, .unset, .unset, .val (.int (v4_216 >>> ((1 : Int32) &&& 31))), .unset, .unset] [(.int ((v4_216 >>> ((1 : Int32) &&& 31)) - (1 : Int32))), (.ref b106)]))
        refine own_to (fun _ kz => own_iaload X205 hx hZ e205 Vc205 (j := ((v4_216 >>> ((1 : Int32) &&& 31)) - (1 : Int32))) (own_g1 jh0_216 hc258).1 rfl (own_g1 jh0_216 hc258).2 (g := (mkF m 274 #[.val (.int p0), .val (.int p1), .val (.ref b2), .val (.ref b106), .val (.int v4_216), .unset, .unset, .unset, .unset, .unset, .val (.int (v4_216 >>> ((1 : Int32) &&& 31))), .unset, .unset] [(.int ((v4_216 >>> ((1 : Int32) &&& 31)) - (1 : Int32))), (.ref b106)])) rfl rfl (hb hby at_274) kz) ?_
        show own_Fin p e below G (T205.setTop (mkF m 275 #[.val (.int p0), .val (.int p1), .val (.ref b2), .val (.ref b106), .val (.int v4_216), .unset, .unset, .unset, .unset, .unset, .val (.int (v4_216 >>> ((1 : Int32) &&& 31))), .unset, .unset] [(.int (own_hi ((v4_216 >>> ((1 : Int32) &&& 31)) - (1 : Int32)).toNatClampNeg))]))
        refine own_to (fun _ kz => XS.i2l X205.here hx rfl (hb hby at_275) rfl kz) ?_
        show own_Fin p e below G (T205.setTop (mkF m 276 #[.val (.int p0), .val (.int p1), .val (.ref b2), .val (.ref b106), .val (.int v4_216), .unset, .unset, .unset, .unset, .unset, .val (.int (v4_216 >>> ((1 : Int32) &&& 31))), .unset, .unset] [(.long ((own_hi ((v4_216 >>> ((1 : Int32) &&& 31)) - (1 : Int32)).toNatClampNeg).toInt64))]))
        refine own_to (fun _ kz => XS.lconst X205.here hx rfl (hb hby at_276) kz) ?_
        show own_Fin p e below G (T205.setTop (mkF m 277 #[.val (.int p0), .val (.int p1), .val (.ref b2), .val (.ref b106), .val (.int v4_216), .unset, .unset, .unset, .unset, .unset, .val (.int (v4_216 >>> ((1 : Int32) &&& 31))), .unset, .unset] [(.long (1 : Int64)), (.long ((own_hi ((v4_216 >>> ((1 : Int32) &&& 31)) - (1 : Int32)).toNatClampNeg).toInt64))]))
        refine own_to (fun _ kz => XS.ladd X205.here hx rfl (hb hby at_277) rfl kz) ?_
        show own_Fin p e below G (T205.setTop (mkF m 278 #[.val (.int p0), .val (.int p1), .val (.ref b2), .val (.ref b106), .val (.int v4_216), .unset, .unset, .unset, .unset, .unset, .val (.int (v4_216 >>> ((1 : Int32) &&& 31))), .unset, .unset] [(.long (((own_hi ((v4_216 >>> ((1 : Int32) &&& 31)) - (1 : Int32)).toNatClampNeg).toInt64) + (1 : Int64)))]))
        refine own_to (fun _ kz => XS.lstore X205.here hx rfl (hb hby at_278) rfl (l' := #[.val (.int p0), .val (.int p1), .val (.ref b2), .val (.ref b106), .val (.int v4_216), .val (.long (((own_hi ((v4_216 >>> ((1 : Int32) &&& 31)) - (1 : Int32)).toNatClampNeg).toInt64) + (1 : Int64))), .second, .unset, .unset, .unset, .val (.int (v4_216 >>> ((1 : Int32) &&& 31))), .unset, .unset]) rfl kz) ?_
        show own_Fin p e below G (T205.setTop (mkF m 280 #[.val (.int p0), .val (.int p1), .val (.ref b2), .val (.ref b106), .val (.int v4_216), .val (.long (((own_hi ((v4_216 >>> ((1 : Int32) &&& 31)) - (1 : Int32)).toNatClampNeg).toInt64) + (1 : Int64))), .second, .unset, .unset, .unset, .val (.int (v4_216 >>> ((1 : Int32) &&& 31))), .unset, .unset] []))
        refine own_to (fun _ kz => XS.iload X205.here hx rfl (hb hby at_280) rfl  kz) ?_
        show own_Fin p e below G (T205.setTop (mkF m 282 #[.val (.int p0), .val (.int p1), .val (.ref b2), .val (.ref b106), .val (.int v4_216), .val (.long (((own_hi ((v4_216 >>> ((1 : Int32) &&& 31)) - (1 : Int32)).toNatClampNeg).toInt64) + (1 : Int64))), .second, .unset, .unset, .unset, .val (.int (v4_216 >>> ((1 : Int32) &&& 31))), .unset, .unset] [(.int (v4_216 >>> ((1 : Int32) &&& 31)))]))
        refine own_to (fun _ kz => XS.bipush X205.here hx rfl (hb hby at_282) kz) ?_
        show own_Fin p e below G (T205.setTop (mkF m 284 #[.val (.int p0), .val (.int p1), .val (.ref b2), .val (.ref b106), .val (.int v4_216), .val (.long (((own_hi ((v4_216 >>> ((1 : Int32) &&& 31)) - (1 : Int32)).toNatClampNeg).toInt64) + (1 : Int64))), .second, .unset, .unset, .unset, .val (.int (v4_216 >>> ((1 : Int32) &&& 31))), .unset, .unset] [(.int (16 : Int32)), (.int (v4_216 >>> ((1 : Int32) &&& 31)))]))
        by_cases hc284 : (v4_216 >>> ((1 : Int32) &&& 31)) = (16 : Int32)
        · refine own_to (fun _ kz => XS.icmpNo X205.here hx rfl (hb hby at_284) rfl (teq hc284).2 kz) ?_
          show own_Fin p e below G (T205.setTop (mkF m 287 #[.val (.int p0), .val (.int p1), .val (.ref b2), .val (.ref b106), .val (.int v4_216), .val (.long (((own_hi ((v4_216 >>> ((1 : Int32) &&& 31)) - (1 : Int32)).toNatClampNeg).toInt64) + (1 : Int64))), .second, .unset, .unset, .unset, .val (.int (v4_216 >>> ((1 : Int32) &&& 31))), .unset, .unset] []))
          refine own_to (fun _ kz => X205.ldc2Long hx hown (mvT hZ (hw _ (List.mem_of_getElem? (i := 21) rfl))) (g := (mkF m 287 #[.val (.int p0), .val (.int p1), .val (.ref b2), .val (.ref b106), .val (.int v4_216), .val (.long (((own_hi ((v4_216 >>> ((1 : Int32) &&& 31)) - (1 : Int32)).toNatClampNeg).toInt64) + (1 : Int64))), .second, .unset, .unset, .unset, .val (.int (v4_216 >>> ((1 : Int32) &&& 31))), .unset, .unset] [])) rfl (hb hby at_287) _ kz) ?_
          show own_Fin p e below G (T205.setTop (mkF m 290 #[.val (.int p0), .val (.int p1), .val (.ref b2), .val (.ref b106), .val (.int v4_216), .val (.long (((own_hi ((v4_216 >>> ((1 : Int32) &&& 31)) - (1 : Int32)).toNatClampNeg).toInt64) + (1 : Int64))), .second, .unset, .unset, .unset, .val (.int (v4_216 >>> ((1 : Int32) &&& 31))), .unset, .unset] [(.long (2147483647 : Int64))]))
          refine own_to (fun _ kz => XS.lstore X205.here hx rfl (hb hby at_290) rfl (l' := #[.val (.int p0), .val (.int p1), .val (.ref b2), .val (.ref b106), .val (.int v4_216), .val (.long (((own_hi ((v4_216 >>> ((1 : Int32) &&& 31)) - (1 : Int32)).toNatClampNeg).toInt64) + (1 : Int64))), .second, .val (.long (2147483647 : Int64)), .second, .unset, .val (.int (v4_216 >>> ((1 : Int32) &&& 31))), .unset, .unset]) rfl kz) ?_
          show own_Fin p e below G (T205.setTop (mkF m 292 #[.val (.int p0), .val (.int p1), .val (.ref b2), .val (.ref b106), .val (.int v4_216), .val (.long (((own_hi ((v4_216 >>> ((1 : Int32) &&& 31)) - (1 : Int32)).toNatClampNeg).toInt64) + (1 : Int64))), .second, .val (.long (2147483647 : Int64)), .second, .unset, .val (.int (v4_216 >>> ((1 : Int32) &&& 31))), .unset, .unset] []))
          refine own_to (fun _ kz => XS.goto X205.here hx rfl (pc0 := 292) (pc' := 304) rfl (hb hby at_292) (by decide) (by decide) kz) ?_
          show own_Fin p e below G (T205.setTop (mkF m 304 #[.val (.int p0), .val (.int p1), .val (.ref b2), .val (.ref b106), .val (.int v4_216), .val (.long (((own_hi ((v4_216 >>> ((1 : Int32) &&& 31)) - (1 : Int32)).toNatClampNeg).toInt64) + (1 : Int64))), .second, .val (.long (2147483647 : Int64)), .second, .unset, .val (.int (v4_216 >>> ((1 : Int32) &&& 31))), .unset, .unset] []))
          refine own_to (fun _ kz => XS.iconst X205.here hx rfl (hb hby at_304) kz) ?_
          show own_Fin p e below G (T205.setTop (mkF m 305 #[.val (.int p0), .val (.int p1), .val (.ref b2), .val (.ref b106), .val (.int v4_216), .val (.long (((own_hi ((v4_216 >>> ((1 : Int32) &&& 31)) - (1 : Int32)).toNatClampNeg).toInt64) + (1 : Int64))), .second, .val (.long (2147483647 : Int64)), .second, .unset, .val (.int (v4_216 >>> ((1 : Int32) &&& 31))), .unset, .unset] [(.int (0 : Int32))]))
          refine own_to (fun _ kz => XS.istore X205.here hx rfl (hb hby at_305) rfl (l' := #[.val (.int p0), .val (.int p1), .val (.ref b2), .val (.ref b106), .val (.int v4_216), .val (.long (((own_hi ((v4_216 >>> ((1 : Int32) &&& 31)) - (1 : Int32)).toNatClampNeg).toInt64) + (1 : Int64))), .second, .val (.long (2147483647 : Int64)), .second, .val (.int (0 : Int32)), .val (.int (v4_216 >>> ((1 : Int32) &&& 31))), .unset, .unset]) rfl kz) ?_
          show own_Fin p e below G (T205.setTop (mkF m 307 #[.val (.int p0), .val (.int p1), .val (.ref b2), .val (.ref b106), .val (.int v4_216), .val (.long (((own_hi ((v4_216 >>> ((1 : Int32) &&& 31)) - (1 : Int32)).toNatClampNeg).toInt64) + (1 : Int64))), .second, .val (.long (2147483647 : Int64)), .second, .val (.int (0 : Int32)), .val (.int (v4_216 >>> ((1 : Int32) &&& 31))), .unset, .unset] []))
          exact K307 (((own_hi ((v4_216 >>> ((1 : Int32) &&& 31)) - (1 : Int32)).toNatClampNeg).toInt64) + (1 : Int64)) (2147483647 : Int64) (0 : Int32) (own_v3 jh0_216 hc221 hc258 hc284)
        · refine own_to (fun _ kz => XS.icmpYes X205.here hx rfl (pc0 := 284) (pc' := 295) rfl (hb hby at_284) rfl (feq hc284).2 (by decide) (by decide) kz) ?_
          show own_Fin p e below G (T205.setTop (mkF m 295 #[.val (.int p0), .val (.int p1), .val (.ref b2), .val (.ref b106), .val (.int v4_216), .val (.long (((own_hi ((v4_216 >>> ((1 : Int32) &&& 31)) - (1 : Int32)).toNatClampNeg).toInt64) + (1 : Int64))), .second, .unset, .unset, .unset, .val (.int (v4_216 >>> ((1 : Int32) &&& 31))), .unset, .unset] []))
          refine own_to (fun _ kz => XS.aloadN X205.here hx rfl (hb hby at_295) rfl (rfl)  kz) ?_
          show own_Fin p e below G (T205.setTop (mkF m 296 #[.val (.int p0), .val (.int p1), .val (.ref b2), .val (.ref b106), .val (.int v4_216), .val (.long (((own_hi ((v4_216 >>> ((1 : Int32) &&& 31)) - (1 : Int32)).toNatClampNeg).toInt64) + (1 : Int64))), .second, .unset, .unset, .unset, .val (.int (v4_216 >>> ((1 : Int32) &&& 31))), .unset, .unset] [(.ref b2)]))
          refine own_to (fun _ kz => XS.iload X205.here hx rfl (hb hby at_296) rfl  kz) ?_
          show own_Fin p e below G (T205.setTop (mkF m 298 #[.val (.int p0), .val (.int p1), .val (.ref b2), .val (.ref b106), .val (.int v4_216), .val (.long (((own_hi ((v4_216 >>> ((1 : Int32) &&& 31)) - (1 : Int32)).toNatClampNeg).toInt64) + (1 : Int64))), .second, .unset, .unset, .unset, .val (.int (v4_216 >>> ((1 : Int32) &&& 31))), .unset, .unset] [(.int (v4_216 >>> ((1 : Int32) &&& 31))), (.ref b2)]))
          have Vc102_at_298'1 : own_AV Value.int Z h205 b2 .int 16 own_lo := (((((((((((((((((Vc102.ext E106).other W112 ne_b2_b106).other W117 ne_b2_b106).other W122 ne_b2_b106).other W127 ne_b2_b106).other W133 ne_b2_b106).other W139 ne_b2_b106).other W146 ne_b2_b106).other W153 ne_b2_b106).other W160 ne_b2_b106).other W167 ne_b2_b106).other W174 ne_b2_b106).other W181 ne_b2_b106).other W187 ne_b2_b106).other W193 ne_b2_b106).other W199 ne_b2_b106).other W205 ne_b2_b106)
          refine own_to (fun _ kz => own_iaload X205 hx hZ e205 Vc102_at_298'1 (j := (v4_216 >>> ((1 : Int32) &&& 31))) (own_g2 jh0_216 hc284).1 rfl (own_g2 jh0_216 hc284).2 (g := (mkF m 298 #[.val (.int p0), .val (.int p1), .val (.ref b2), .val (.ref b106), .val (.int v4_216), .val (.long (((own_hi ((v4_216 >>> ((1 : Int32) &&& 31)) - (1 : Int32)).toNatClampNeg).toInt64) + (1 : Int64))), .second, .unset, .unset, .unset, .val (.int (v4_216 >>> ((1 : Int32) &&& 31))), .unset, .unset] [(.int (v4_216 >>> ((1 : Int32) &&& 31))), (.ref b2)])) rfl rfl (hb hby at_298) kz) ?_
          show own_Fin p e below G (T205.setTop (mkF m 299 #[.val (.int p0), .val (.int p1), .val (.ref b2), .val (.ref b106), .val (.int v4_216), .val (.long (((own_hi ((v4_216 >>> ((1 : Int32) &&& 31)) - (1 : Int32)).toNatClampNeg).toInt64) + (1 : Int64))), .second, .unset, .unset, .unset, .val (.int (v4_216 >>> ((1 : Int32) &&& 31))), .unset, .unset] [(.int (own_lo (v4_216 >>> ((1 : Int32) &&& 31)).toNatClampNeg))]))
          refine own_to (fun _ kz => XS.i2l X205.here hx rfl (hb hby at_299) rfl kz) ?_
          show own_Fin p e below G (T205.setTop (mkF m 300 #[.val (.int p0), .val (.int p1), .val (.ref b2), .val (.ref b106), .val (.int v4_216), .val (.long (((own_hi ((v4_216 >>> ((1 : Int32) &&& 31)) - (1 : Int32)).toNatClampNeg).toInt64) + (1 : Int64))), .second, .unset, .unset, .unset, .val (.int (v4_216 >>> ((1 : Int32) &&& 31))), .unset, .unset] [(.long ((own_lo (v4_216 >>> ((1 : Int32) &&& 31)).toNatClampNeg).toInt64))]))
          refine own_to (fun _ kz => XS.lconst X205.here hx rfl (hb hby at_300) kz) ?_
          show own_Fin p e below G (T205.setTop (mkF m 301 #[.val (.int p0), .val (.int p1), .val (.ref b2), .val (.ref b106), .val (.int v4_216), .val (.long (((own_hi ((v4_216 >>> ((1 : Int32) &&& 31)) - (1 : Int32)).toNatClampNeg).toInt64) + (1 : Int64))), .second, .unset, .unset, .unset, .val (.int (v4_216 >>> ((1 : Int32) &&& 31))), .unset, .unset] [(.long (1 : Int64)), (.long ((own_lo (v4_216 >>> ((1 : Int32) &&& 31)).toNatClampNeg).toInt64))]))
          refine own_to (fun _ kz => XS.lsub X205.here hx rfl (hb hby at_301) rfl kz) ?_
          show own_Fin p e below G (T205.setTop (mkF m 302 #[.val (.int p0), .val (.int p1), .val (.ref b2), .val (.ref b106), .val (.int v4_216), .val (.long (((own_hi ((v4_216 >>> ((1 : Int32) &&& 31)) - (1 : Int32)).toNatClampNeg).toInt64) + (1 : Int64))), .second, .unset, .unset, .unset, .val (.int (v4_216 >>> ((1 : Int32) &&& 31))), .unset, .unset] [(.long (((own_lo (v4_216 >>> ((1 : Int32) &&& 31)).toNatClampNeg).toInt64) - (1 : Int64)))]))
          refine own_to (fun _ kz => XS.lstore X205.here hx rfl (hb hby at_302) rfl (l' := #[.val (.int p0), .val (.int p1), .val (.ref b2), .val (.ref b106), .val (.int v4_216), .val (.long (((own_hi ((v4_216 >>> ((1 : Int32) &&& 31)) - (1 : Int32)).toNatClampNeg).toInt64) + (1 : Int64))), .second, .val (.long (((own_lo (v4_216 >>> ((1 : Int32) &&& 31)).toNatClampNeg).toInt64) - (1 : Int64))), .second, .unset, .val (.int (v4_216 >>> ((1 : Int32) &&& 31))), .unset, .unset]) rfl kz) ?_
          show own_Fin p e below G (T205.setTop (mkF m 304 #[.val (.int p0), .val (.int p1), .val (.ref b2), .val (.ref b106), .val (.int v4_216), .val (.long (((own_hi ((v4_216 >>> ((1 : Int32) &&& 31)) - (1 : Int32)).toNatClampNeg).toInt64) + (1 : Int64))), .second, .val (.long (((own_lo (v4_216 >>> ((1 : Int32) &&& 31)).toNatClampNeg).toInt64) - (1 : Int64))), .second, .unset, .val (.int (v4_216 >>> ((1 : Int32) &&& 31))), .unset, .unset] []))
          refine own_to (fun _ kz => XS.iconst X205.here hx rfl (hb hby at_304) kz) ?_
          show own_Fin p e below G (T205.setTop (mkF m 305 #[.val (.int p0), .val (.int p1), .val (.ref b2), .val (.ref b106), .val (.int v4_216), .val (.long (((own_hi ((v4_216 >>> ((1 : Int32) &&& 31)) - (1 : Int32)).toNatClampNeg).toInt64) + (1 : Int64))), .second, .val (.long (((own_lo (v4_216 >>> ((1 : Int32) &&& 31)).toNatClampNeg).toInt64) - (1 : Int64))), .second, .unset, .val (.int (v4_216 >>> ((1 : Int32) &&& 31))), .unset, .unset] [(.int (0 : Int32))]))
          refine own_to (fun _ kz => XS.istore X205.here hx rfl (hb hby at_305) rfl (l' := #[.val (.int p0), .val (.int p1), .val (.ref b2), .val (.ref b106), .val (.int v4_216), .val (.long (((own_hi ((v4_216 >>> ((1 : Int32) &&& 31)) - (1 : Int32)).toNatClampNeg).toInt64) + (1 : Int64))), .second, .val (.long (((own_lo (v4_216 >>> ((1 : Int32) &&& 31)).toNatClampNeg).toInt64) - (1 : Int64))), .second, .val (.int (0 : Int32)), .val (.int (v4_216 >>> ((1 : Int32) &&& 31))), .unset, .unset]) rfl kz) ?_
          show own_Fin p e below G (T205.setTop (mkF m 307 #[.val (.int p0), .val (.int p1), .val (.ref b2), .val (.ref b106), .val (.int v4_216), .val (.long (((own_hi ((v4_216 >>> ((1 : Int32) &&& 31)) - (1 : Int32)).toNatClampNeg).toInt64) + (1 : Int64))), .second, .val (.long (((own_lo (v4_216 >>> ((1 : Int32) &&& 31)).toNatClampNeg).toInt64) - (1 : Int64))), .second, .val (.int (0 : Int32)), .val (.int (v4_216 >>> ((1 : Int32) &&& 31))), .unset, .unset] []))
          exact K307 (((own_hi ((v4_216 >>> ((1 : Int32) &&& 31)) - (1 : Int32)).toNatClampNeg).toInt64) + (1 : Int64)) (((own_lo (v4_216 >>> ((1 : Int32) &&& 31)).toNatClampNeg).toInt64) - (1 : Int64)) (0 : Int32) (own_v4 jh0_216 hc221 hc258 hc284)
  exact K216 ((p0 &&& (63 : Int32)) % (33 : Int32)) (own_rem33 _)
set_option maxRecDepth 65536 in
set_option maxHeartbeats 40000000 in
theorem comes_1 {Post : Tables → Env → Array Value → State → Outcome → State → Prop} (hpost : ∀ tb e args s v u, (limb_1_1.after args s (.returned v) u = true ∧ limb_1_2.after args s (.returned v) u = true ∧ True) → FrameEnd s (.returned v) u (Jvm.fieldLocs frame_1_writes args s ++ Jvm.arrayLocs frame_1_arrays args s ++ Jvm.staticLocs frame_1_statics s) 16 128 → Post tb e args s (.returned v) u) :
    ArmFor flags0 classFile x code maxLocals ret World_1 tables_1 room_1 Calls_1 rest_1 Pre_1 Post := by
  intro l hfl _ _ p e ha hc hk s m args below hf hA hF happ hP
  obtain ⟨hcalls, hrest, hpre⟩ := hP
  obtain ⟨-, -, -, hnamed, -, -, -, hat⟩ := (Spec.applies_iff hf).mp happ
  obtain ⟨hg, hn⟩ := and_e (Cond.before_iff.mp (show (Jvm.Cond.and given_1 narrow_1).before args s = true from hpre))
  obtain ⟨gg1, gg2⟩ := and_e hg
  obtain ⟨gg3, gg4⟩ := and_e gg2
  obtain ⟨w0, w1, rfl⟩ : ∃ w0 w1 : Value, args = #[w0, w1] := by
    have hs : args.size = 2 := by simpa [Cond.value, given_1] using gg1
    obtain ⟨L⟩ := args
    match L, hs with
    | [w0, w1], _ => exact ⟨w0, w1, rfl⟩
  have hw := fun d (hd : d ∈ tables_1) => atoms_spec (ws := Jvm.Cond.code x code maxLocals ret :: tables_1) hat d (List.mem_cons_of_mem _ hd)
  obtain ⟨i0, ei0⟩ := is_v gg3
  obtain rfl : w0 = (.int i0) := Option.some.inj ei0
  obtain ⟨i1, ei1⟩ := is_v gg4
  obtain rfl : w1 = (.int i1) := Option.some.inj ei1
  obtain ⟨n, o, h1, h2, h3, v, L, rfl, ⟨hv, N, -⟩, hq⟩ := rm0 l s _ hw tables_1 i0 i1 s.heap s.heap.size (Nat.le_refl _) p e ha hc hk s m _ below hf ((Spec.applies_iff_loose hf).mp happ).1 ⟨rfl, State.Warmed39.refl s, rfl⟩ trivial
  obtain rfl : v = some (.int 1) := hv
  refine ⟨n, _, h1, h2, h3, hpost _ _ _ _ _ _ ⟨Cond.after_iff.mpr rfl, Cond.after_iff.mpr (eq_i res_at (Term.int_eval (1)) rfl), trivial⟩ ⟨hq.1, hq.2.1, (hq.2.2.sift fun y hy => Or.inr (N y hy)).mono (by decide) (by decide)⟩⟩
theorem main_1_1 : Claimed_1_1 := comes_1 fun _ _ _ _ _ _ h hF => ⟨h.1, hF⟩
theorem main_1_2 : Claimed_1_2 := comes_1 fun _ _ _ _ _ _ h hF => ⟨h.2.1, hF⟩
end Jvm.Pilot.@@N@@
namespace Jvm.Pilot.@@N@@
open Jvm Jvm.ClassFile Sem Op Lib Jvm.Free Jvm.Stand Jvm.Pilot.@@N@@.Jvm.D
/-! MADE BY PROGRAM (witnessworld.py) out of the Statement's table words and the real class files: 9 classes; the members and pool entries that the words name. The judged class is class 1, her method 1. -/
namespace start1
open Jvm.ClassFile
def u (s : String) : CpInfo := .utf8 (stringToUtf16 s)
/-- a pool by its gaps: so many unusable entries, then the entry; so many at the end -/
def gap : Nat → List CpInfo → List CpInfo
  | 0, r => r
  | n + 1, r => .unusable :: gap n r
def poolList (es : List (Nat × CpInfo)) (last : Nat) : List CpInfo := es.foldr (fun e r => gap e.1 (e.2 :: r)) (gap last [])
def pool (es : List (Nat × CpInfo)) (last : Nat) : Array CpInfo := ⟨poolList es last⟩
def fileOf (pool : Array CpInfo) (this : Nat) (attrs : Array Attribute := #[]) (ms : Array MethodInfo := #[]) (fl : Nat := 33) (sup : Nat := 0) (ifs : Array Nat := #[]) (fds : Array FieldInfo := #[]) : ClassFile where
  minorVersion := 0
  majorVersion := 65
  constantPool := pool
  accessFlags := fl
  thisClass := this
  superClass := sup
  interfaces := ifs
  fields := fds
  methods := ms
  attributes := attrs
def plain (name : String) (sup : Option ClassId) : Class where
  name := name
  kind := .ordinary
  loader := none
  accessFlags := 33
  super := sup
  interfaces := #[]
  cf := none
  fields := #[]
  methods := #[]
  instanceTypes := #[]
  staticTypes := #[]
  resolved := #[]
  callSites := []
  init := .initialized
  statics := none
  mirror := none

def pool0 : Array CpInfo := pool [(5, u "<init>"), (0, u "()V"), (1, .class_ 10), (1, u "java/lang/Object")] 113

def k0m0 : Method := { name := "<init>", desc := "()V", sig := { parameters := [], returnType := none }, accessFlags := 1, code := none }
/-- java/lang/Object -/
def k0 : Class := { plain "java/lang/Object" none with
  accessFlags := 33
  interfaces := #[]
  cf := some (fileOf pool0 8 #[] #[{ accessFlags := 1, nameIndex := 5, descriptorIndex := 6, attributes := #[] }] 33 0 #[] #[])
  fields := #[]
  methods := #[k0m0]
  instanceTypes := #[]
  staticTypes := #[]
  resolved := Array.replicate 124 none
  statics := none }

def pool1 : Array CpInfo := pool [(2, .class_ 4), (1, u "java/lang/Object"), (0, u "<init>"), (0, u "()V"), (0, .integer 63744), (0, .integer 65008), (0, .integer 65536), (0, .integer 55295), (0, .integer 64975), (0, .integer 65533), (0, .integer 983039), (2, .long 18446744071562067968), (1, .long 2147483647), (1, .long 4294967295), (1, .methodref 23 24), (0, .class_ 25), (0, .nameAndType 26 27), (0, u "com/example/tabularium/tabularium/io/XmlDocuments"), (0, u "isNameStart"), (0, u "(I)Z"), (0, .class_ 29), (0, u "com/example/tabularium/tabularium/io/XmlDocumentsIsNameStartPinLaw"), (2, u "law"), (0, u "(II)Z")] 5

def k1m0 : Method := { name := "<init>", desc := "()V", sig := { parameters := [], returnType := none }, accessFlags := 1, code := none }
def k1c1 : Code := { maxStack := 6, maxLocals := 13, code := code, exceptionTable := #[], attributes := #[] }
def k1m1 : Method := { name := "law", desc := "(II)Z", sig := { parameters := [.int, .int], returnType := some .boolean }, accessFlags := 9, code := some k1c1 }
/-- com/example/tabularium/tabularium/io/XmlDocumentsIsNameStartPinLaw -/
def k1 : Class := { plain "com/example/tabularium/tabularium/io/XmlDocumentsIsNameStartPinLaw" (some 0) with
  accessFlags := 49
  interfaces := #[]
  cf := some (fileOf pool1 28 #[] #[{ accessFlags := 1, nameIndex := 5, descriptorIndex := 6, attributes := #[] }, { accessFlags := 9, nameIndex := 32, descriptorIndex := 33, attributes := #[] }] 49 2 #[] #[])
  fields := #[]
  methods := #[k1m0, k1m1]
  instanceTypes := #[]
  staticTypes := #[]
  resolved := Array.replicate 39 none
  statics := none }

def pool2 : Array CpInfo := pool [(2, .class_ 4), (1, u "java/lang/Object"), (0, u "<init>"), (0, u "()V"), (0, .class_ 8), (0, u "com/example/tabularium/tabularium/io/XmlDocuments"), (146, u "isNameStart"), (0, u "(I)Z"), (7, .integer 55295), (0, .integer 63744), (0, .integer 64975), (0, .integer 65008), (0, .integer 65533), (0, .integer 65536), (0, .integer 983039), (64, u "PROPERTIES"), (0, u "Ljava/util/Map;"), (25, .class_ 263), (0, u "com/example/tabularium/tabularium/io/XmlDocuments$Strict"), (63, u "MAX_ELEMENT_DEPTH"), (0, u "I"), (2, u "LOAD_EXTERNAL_DTD"), (0, u "Ljava/lang/String;"), (0, u "EXTERNAL_GENERAL_ENTITIES"), (0, u "EXTERNAL_PARAMETER_ENTITIES"), (0, u "DECLARATION_HANDLER"), (0, u "CARRIED_DTD"), (27, .class_ 365), (0, u "com/example/tabularium/tabularium/io/XmlDocuments$StandaloneHandler")] 34

def k2m0 : Method := { name := "<init>", desc := "()V", sig := { parameters := [], returnType := none }, accessFlags := 2, code := none }
def k2c1 : Code := { maxStack := 2, maxLocals := 1, code := prog_48_method_11_code, exceptionTable := #[], attributes := #[] }
def k2m1 : Method := { name := "isNameStart", desc := "(I)Z", sig := { parameters := [.int], returnType := some .boolean }, accessFlags := 8, code := some k2c1 }
/-- com/example/tabularium/tabularium/io/XmlDocuments -/
def k2 : Class := { plain "com/example/tabularium/tabularium/io/XmlDocuments" (some 0) with
  accessFlags := 49
  interfaces := #[]
  cf := some (fileOf pool2 7 #[.nestMembers #[262, 364]] #[{ accessFlags := 2, nameIndex := 5, descriptorIndex := 6, attributes := #[] }, { accessFlags := 8, nameIndex := 155, descriptorIndex := 156, attributes := #[] }] 49 2 #[] #[{ accessFlags := 26, nameIndex := 327, descriptorIndex := 328, attributes := #[] }, { accessFlags := 26, nameIndex := 331, descriptorIndex := 332, attributes := #[] }, { accessFlags := 26, nameIndex := 333, descriptorIndex := 332, attributes := #[] }, { accessFlags := 26, nameIndex := 334, descriptorIndex := 332, attributes := #[] }, { accessFlags := 26, nameIndex := 335, descriptorIndex := 332, attributes := #[] }, { accessFlags := 26, nameIndex := 336, descriptorIndex := 332, attributes := #[] }, { accessFlags := 26, nameIndex := 235, descriptorIndex := 236, attributes := #[] }])
  fields := #[{ name := "MAX_ELEMENT_DEPTH", type := .int, accessFlags := 26, slot := 0, constantValue := 0 }, { name := "LOAD_EXTERNAL_DTD", type := (.object "java/lang/String"), accessFlags := 26, slot := 1, constantValue := 0 }, { name := "EXTERNAL_GENERAL_ENTITIES", type := (.object "java/lang/String"), accessFlags := 26, slot := 2, constantValue := 0 }, { name := "EXTERNAL_PARAMETER_ENTITIES", type := (.object "java/lang/String"), accessFlags := 26, slot := 3, constantValue := 0 }, { name := "DECLARATION_HANDLER", type := (.object "java/lang/String"), accessFlags := 26, slot := 4, constantValue := 0 }, { name := "CARRIED_DTD", type := (.object "java/lang/String"), accessFlags := 26, slot := 5, constantValue := 0 }, { name := "PROPERTIES", type := (.object "java/util/Map"), accessFlags := 26, slot := 6, constantValue := 0 }]
  methods := #[k2m0, k2m1]
  instanceTypes := #[]
  staticTypes := #[.int, (.object "java/lang/String"), (.object "java/lang/String"), (.object "java/lang/String"), (.object "java/lang/String"), (.object "java/lang/String"), (.object "java/util/Map")]
  resolved := Array.replicate 400 none
  statics := none }

def pool3 : Array CpInfo := pool [(1, u "java/lang/Cloneable"), (0, .class_ 1), (0, u "java/lang/Object"), (0, .class_ 3)] 3

/-- java/lang/Cloneable -/
def k3 : Class := { plain "java/lang/Cloneable" (some 0) with
  accessFlags := 1537
  interfaces := #[]
  cf := some (fileOf pool3 2 #[] #[] 1537 4 #[] #[])
  fields := #[]
  methods := #[]
  instanceTypes := #[]
  staticTypes := #[]
  resolved := Array.replicate 8 none
  statics := none }

def pool4 : Array CpInfo := pool [(1, u "java/io/Serializable"), (0, .class_ 1), (0, u "java/lang/Object"), (0, .class_ 3)] 3

/-- java/io/Serializable -/
def k4 : Class := { plain "java/io/Serializable" (some 0) with
  accessFlags := 1537
  interfaces := #[]
  cf := some (fileOf pool4 2 #[] #[] 1537 4 #[] #[])
  fields := #[]
  methods := #[]
  instanceTypes := #[]
  staticTypes := #[]
  resolved := Array.replicate 8 none
  statics := none }

/-- the primitive byte -/
def k5 : Class := { plain "byte" none with kind := .primitive 'B', accessFlags := 0x411 }
/-- [B -/
def k6 : Class := { plain "[B" (some 0) with kind := .array 5 .byte, interfaces := #[3, 4], accessFlags := 1041 }

/-- the primitive int -/
def k7 : Class := { plain "int" none with kind := .primitive 'I', accessFlags := 0x411 }
/-- [I -/
def k8 : Class := { plain "[I" (some 0) with kind := .array 7 .int, interfaces := #[3, 4], accessFlags := 1041 }

def heap : Heap := #[]
def classes : Array Class := #[k0, k1, k2, k3, k4, k5, k6, k7, k8]
def interned : List (Array UInt16 × Addr) := []
def slotsUsed : Nat := 0
def theMethod : MethodId := ⟨1, 1⟩
def args0 : Array Value := #[.int 5, .int 6]
def aboutOver (below : List Frame) : State where
  vm := { classes := classes, interned := interned.toArray }
  heap := heap
  slotsUsed := slotsUsed
  threads := #[{ frames := .invoking theMethod args0 :: below }]
def below0 : List Frame := [.native { method := ⟨0, 0⟩, args := #[] }]
def about1 : State := aboutOver below0
def p0 : Program := .bare "" "" ""
def e0 : Env := launch0.env 0 0 0
theorem w_frames : about1.frames = Frame.invoking theMethod args0 :: below0 := rfl
set_option maxRecDepth 65536 in
theorem w_args : argsFit about1.vm theMethod args0 = true := by decide +kernel
set_option maxRecDepth 65536 in
theorem w_heap : heapFits about1 = true := by decide +kernel
set_option maxRecDepth 65536 in
theorem w_runnable : about1.curStatus? = some .runnable := by decide +kernel
set_option maxRecDepth 65536 in
theorem w_alone : about1.alone = true := by decide +kernel
set_option maxRecDepth 65536 in
theorem w_named : about1.methodNamed? x = some theMethod := by decide +kernel
set_option maxRecDepth 65536 in
theorem w_hears : about1.hears theMethod below0 = true := by decide +kernel
set_option maxRecDepth 65536 in
theorem w_ripe : about1.ripe theMethod args0 below0 = true := by decide +kernel
theorem w_running : about1.status = .running := rfl
set_option maxRecDepth 65536 in
theorem w_room : about1.hasRoom e0.platform room_1 = true :=
  launch0.hasRoom_least _ room_1 (by decide +kernel) (by decide +kernel) (by decide +kernel) (by decide +kernel) (by decide +kernel) (by decide +kernel)
theorem allAtoms_all (ts : List Jvm.Cond) (a : Array Jvm.Value) (st : Jvm.State) : (allAtoms ts).before a st = ts.all (fun c => c.before a st) := by
  induction ts with
  | nil => rfl
  | cons c t ih =>
    show (Jvm.Cond.and c (allAtoms t)).before a st = _
    rw [Jvm.Cond.before_and, ih, List.all_cons]
def words1 : List Jvm.Cond := Jvm.Cond.code x code maxLocals ret :: tables_1
/-- a 'code' word, met by the world's own term for the bytes: nothing is compared byte by byte -/
theorem code_word {y : MethodName} {bytes : ByteArray} {mx : Nat} {rt : Option FieldType} {a : Array Value} {s : State} {m : MethodId} {meth : Method} {c : Code} (h1 : s.methodNamed? y = some m) (h2 : s.vm.method? m = some meth) (h3 : meth.code = some c) (h4 : c.code = bytes)
    (h5 : (c.maxLocals == mx && c.exceptionTable.isEmpty && decide (c.maxStack ≤ mostOperands) && decide (meth.sig.returnType = rt) && !meth.locks && decide (parseMethodDescriptor y.desc = some meth.sig)) = true) : (Jvm.Cond.code y bytes mx rt).before a s = true := by
  simp only [Bool.and_eq_true, beq_iff_eq, Bool.not_eq_true', decide_eq_true_eq] at h5
  obtain ⟨⟨⟨⟨⟨g1, g2⟩, g3⟩, g4⟩, g5⟩, g6⟩ := h5
  simp [Cond.before, Cond.holds, Cond.value, h1, h2, h3, h4, g1, g2, g3, g4, g5, g6]
def isCode : Jvm.Cond → Bool
  | .code _ _ _ _ => true
  | _ => false
theorem all_split {L : List Jvm.Cond} {P : Jvm.Cond → Bool} (h1 : L.all (fun c => isCode c || P c) = true) (h2 : ∀ c ∈ L.filter isCode, P c = true) : L.all P = true := by
  refine List.all_eq_true.mpr fun c hc => ?_
  have h := List.all_eq_true.mp h1 c hc
  rcases Bool.eq_false_or_eq_true (isCode c) with hi | hi
  · exact h2 c (List.mem_filter.mpr ⟨hc, hi⟩)
  · simpa [hi] using h
set_option maxRecDepth 65536 in
theorem w_c0 : (Jvm.Cond.code x code maxLocals ret).before args0 about1 = true := code_word (m := ⟨1, 1⟩) (meth := k1m1) (c := k1c1) (by decide +kernel) rfl rfl rfl (by decide +kernel)
set_option maxRecDepth 65536 in
theorem w_c1 : (Jvm.Cond.code ({ cls := "com/example/tabularium/tabularium/io/XmlDocuments", name := "isNameStart", desc := "(I)Z" } : Jvm.MethodName) prog_48_method_11_code (1 : Nat) (Option.some Jvm.ClassFile.FieldType.boolean)).before args0 about1 = true := code_word (m := ⟨2, 1⟩) (meth := k2m1) (c := k2c1) (by decide +kernel) rfl rfl rfl (by decide +kernel)
def codes1 : List Jvm.Cond := [Jvm.Cond.code x code maxLocals ret, Jvm.Cond.code ({ cls := "com/example/tabularium/tabularium/io/XmlDocuments", name := "isNameStart", desc := "(I)Z" } : Jvm.MethodName) prog_48_method_11_code (1 : Nat) (Option.some Jvm.ClassFile.FieldType.boolean)]
set_option maxRecDepth 65536 in
theorem codes_eq : words1.filter isCode = codes1 := rfl
theorem w_codes : ∀ c ∈ words1.filter isCode, c.before args0 about1 = true := by
  rw [codes_eq]
  intro c hc
  simp only [codes1, List.mem_cons, List.not_mem_nil, or_false] at hc
  rcases hc with rfl | rfl
  · exact w_c0
  · exact w_c1
set_option maxRecDepth 65536 in
theorem w_t1 : words1.all (fun c => isCode c || c.before args0 about1) = true := by decide +kernel
theorem w_tables : (allAtoms (Jvm.Cond.code x code maxLocals ret :: tables_1)).before args0 about1 = true := by
  rw [allAtoms_all]
  show words1.all (fun c => c.before args0 about1) = true
  refine all_split ?_ w_codes
  rw [w_t1]
set_option maxRecDepth 65536 in
theorem w_case : (Jvm.Cond.and given_1 narrow_1).before args0 about1 = true := by decide +kernel
theorem w_applies : (headSpec (Jvm.Cond.code x code maxLocals ret :: tables_1) room_1).applies x e0.platform about1 = true :=
  (Spec.applies_iff w_frames).mpr ⟨w_running, w_runnable, w_alone, w_named, w_hears, w_ripe, w_room, w_tables⟩
theorem atStart : AtStart classFile x code maxLocals ret World_1 tables_1 room_1 Calls_1 rest_1 Pre_1 launch0 p0 e0 about1 theMethod args0 below0 :=
  ⟨lists_1, trivial, launch0.admits_env _ _ _, launch0.least_env, fairChoices_fair.cas, fairChoices_fair.clock, w_frames, w_args, w_heap, w_applies, trivial, trivial, w_case⟩
end start1
theorem witness_1 : WitnessClaimed_1 := ⟨start1.p0, start1.e0, start1.about1, start1.theMethod, start1.args0, start1.below0, start1.atStart⟩
end Jvm.Pilot.@@N@@
