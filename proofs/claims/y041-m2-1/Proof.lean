import JvmDerived
import JvmDerived.Pilot.@@N@@Statement
import JvmDerived.Pilot.@@N@@Code
set_option linter.unusedVariables false
set_option linter.unusedSimpArgs false

namespace Jvm.Pilot.@@N@@
open Jvm Jvm.ClassFile Sem Op Lib Jvm.Free Jvm.Stand Jvm.LawKit Jvm.RoadKit Bundle Jvm.Pilot.@@N@@.Jvm.D

section OwnKit
variable {p : Program} {l : Launch} {e : Env} {R : Room} {s : State} {m : MethodId} {args : Array Value} {below : List Frame} {meth : Method} {c : Code} {T : State} {locs : List Loc} {cells slots : Nat} {G : Outcome → State → Prop} {Q : Option Value → Heap → List Loc → Prop} {C S : Nat} {Z : State} {h h' : Heap}
/-- from the state t the invocation comes to an end of which G holds -/
def own_Fin (p : Program) (e : Env) (below : List Frame) (G : Outcome → State → Prop) (t : State) : Prop := ∃ s₂ o, Steps p.tables e below t s₂ ∧ s₂.status = .running ∧ Ended s₂ below o ∧ G o s₂
def own_G (s : State) (Q : Option Value → Heap → List Loc → Prop) (C S : Nat) (o : Outcome) (U' : State) : Prop := ∃ v L, o = .returned v ∧ Q v U'.heap L ∧ FrameEnd s o U' L C S
theorem own_to {t u : State} (h : ∀ z, Steps p.tables e below u z → Steps p.tables e below t z) (k : own_Fin p e below G u) : own_Fin p e below G t := by
  obtain ⟨a, b, c, d⟩ := k; exact ⟨a, b, h _ c, d⟩
theorem own_via {t u : State} (h : Steps p.tables e below t u) (k : own_Fin p e below G u) : own_Fin p e below G t := own_to (fun _ kz => h.trans kz) k
theorem own_retW (X : Stand p l e R s m args below meth c T locs cells slots) (hx : p.tables.exec = Jvm.exec) (hlk : meth.locks = false) (hG : G = own_G s Q C S) {f : JFrame} {w : Option Value} (hv : meth.sig.returnType = none → w = none)
    (st : ∀ fs, (∀ (f : JFrame) (acts : List Action), f.method = m → f.locked = none → f.entered = [] → (doReturn e (T.setTop f) acts w).1 = T.setFrames fs) → Steps p.tables e below (T.setTop f) (T.setFrames fs))
    (hc : cells ≤ C) (hs : slots ≤ S) (hQ : Q w T.heap locs) : own_Fin p e below G (T.setTop f) := by
  subst hG
  obtain ⟨fs, hr, hrun, hended, hW, hsame⟩ := X.leave (v := w) hv hlk
  exact ⟨_, _, st fs hr, hrun, hended, _, _, rfl, hQ, ⟨_, rfl⟩, hW, hsame.mono hc hs⟩
theorem own_retI (X : Stand p l e R s m args below meth c T locs cells slots) (hx : p.tables.exec = Jvm.exec) (hlk : meth.locks = false) (hG : G = own_G s Q C S) {pc : Nat} {Ls : Array Slot} {z : Int32} {rest : List Value} (hret : meth.sig.returnType = some .int) (hd : decode c.code pc = .ok (.ireturn, 1))
    (hc : cells ≤ C) (hs : slots ≤ S) (hQ : Q (some (.int z)) T.heap locs) : own_Fin p e below G (T.setTop (mkF m pc Ls (.int z :: rest))) :=
  own_retW X hx hlk hG (w := some (.int z)) (fun h => by rw [hret] at h; cases h) (fun fs hr => retOut X hx hret rfl (Or.inl ⟨rfl, Or.inl rfl, z, rfl⟩) hd hr) hc hs hQ
theorem own_retJ (X : Stand p l e R s m args below meth c T locs cells slots) (hx : p.tables.exec = Jvm.exec) (hlk : meth.locks = false) (hG : G = own_G s Q C S) {pc : Nat} {Ls : Array Slot} {z : Int64} {rest : List Value} (hret : meth.sig.returnType = some .long) (hd : decode c.code pc = .ok (.lreturn, 1))
    (hc : cells ≤ C) (hs : slots ≤ S) (hQ : Q (some (.long z)) T.heap locs) : own_Fin p e below G (T.setTop (mkF m pc Ls (.long z :: rest))) :=
  own_retW X hx hlk hG (w := some (.long z)) (fun h => by rw [hret] at h; cases h) (fun fs hr => retOut X hx hret rfl (Or.inr (Or.inl ⟨rfl, rfl, z, rfl⟩)) hd hr) hc hs hQ
theorem own_retA (X : Stand p l e R s m args below meth c T locs cells slots) (hx : p.tables.exec = Jvm.exec) (hlk : meth.locks = false) (hG : G = own_G s Q C S) {pc : Nat} {Ls : Array Slot} {w : Value} {rest : List Value} {t : FieldType} (hret : meth.sig.returnType = some t) (ht : t.isReference = true) (hw : w.isRef = true) (hd : decode c.code pc = .ok (.areturn, 1))
    (hc : cells ≤ C) (hs : slots ≤ S) (hQ : Q (some w) T.heap locs) : own_Fin p e below G (T.setTop (mkF m pc Ls (w :: rest))) :=
  own_retW X hx hlk hG (w := some w) (fun h => by rw [hret] at h; cases h) (fun fs hr => retOut X hx hret (by rcases ref_cases hw with rfl | ⟨a, rfl⟩ <;> cases t <;> first | rfl | (simp [FieldType.isReference] at ht)) (Or.inr (Or.inr (Or.inr (Or.inr ⟨rfl, ht, hw⟩)))) hd hr) hc hs hQ
theorem own_retN (X : Stand p l e R s m args below meth c T locs cells slots) (hx : p.tables.exec = Jvm.exec) (hlk : meth.locks = false) (hG : G = own_G s Q C S) {pc : Nat} {Ls : Array Slot} {z : Int32} {rest : List Value} {t : FieldType} (hret : meth.sig.returnType = some t) (ht : t = .boolean ∨ t = .byte ∨ t = .char ∨ t = .short) (hd : decode c.code pc = .ok (.ireturn, 1))
    (hc : cells ≤ C) (hs : slots ≤ S) (hQ : Q (some (.int (nar t z))) T.heap locs) : own_Fin p e below G (T.setTop (mkF m pc Ls (.int z :: rest))) :=
  own_retW X hx hlk hG (w := some (.int (nar t z))) (fun h => by rw [hret] at h; cases h) (fun fs hr => retN X hx hret ht hd hr) hc hs hQ
theorem own_retV (X : Stand p l e R s m args below meth c T locs cells slots) (hx : p.tables.exec = Jvm.exec) (hlk : meth.locks = false) (hG : G = own_G s Q C S) {pc : Nat} {Ls : Array Slot} (hret : meth.sig.returnType = none) (hd : decode c.code pc = .ok (.return_, 1))
    (hc : cells ≤ C) (hs : slots ≤ S) (hQ : Q none T.heap locs) : own_Fin p e below G (T.setTop (mkF m pc Ls [])) :=
  own_retW X hx hlk hG (w := none) (fun _ => rfl) (fun fs hr => X.returnOut hx hret hd hr) hc hs hQ
theorem own_lrem {g : JFrame} {target : State} (X : Stand p l e R s m args below meth c T locs cells slots) (hx : p.tables.exec = Jvm.exec) (hg : g.method = m) {x y : Int64} {rest : List Value} (hd : decode c.code g.pc = .ok (.lrem, 1)) (hs : g.stack = .long y :: .long x :: rest) (hy : y ≠ 0)
    (hr : Steps p.tables e below (T.setTop { g with pc := g.pc + 1, stack := .long (x % y) :: rest }) target) : Steps p.tables e below (T.setTop g) target := by
  have q : x - x / y * y = x % y := lrem_mod x y
  exact XS.lrem X.here hx hg hd hs hy (by rw [q]; exact hr)
def own_Pair (a b : Slot) : Prop := (a = .unset ∧ b = .unset) ∨ ∃ x, a = .val (.long x) ∧ b = .second
/-- the array at a has n places; place i holds mk (f i) -/
def own_AV {α : Type} (mk : α → Value) (Z : State) (h : Heap) (a : Addr) (ty : FieldType) (n : Nat) (f : Nat → α) : Prop := n < 2 ^ 31 ∧ ∃ c : Cell, Arr Z h a c ty ∧ c.slots.size = n ∧ ∀ i, i < n → c.slots[i]? = some (mk (f i))
def own_upd {α : Type} (f : Nat → α) (k : Nat) (v : α) : Nat → α := fun i => if i = k then v else f i
section
variable {α : Type} {mk : α → Value} {a b : Addr} {ty : FieldType} {n : Nat} {f f' : Nat → α} {ws : List Addr} {sl : Nat} {v : Value}
theorem own_AV.lt (F : own_AV mk Z h a ty n f) : a < h.size := by obtain ⟨_, c, A, -⟩ := F; exact A.lt
theorem own_AV.ext (F : own_AV mk Z h a ty n f) (E : Ext h h') : own_AV mk Z h' a ty n f := by obtain ⟨q, c, A, r⟩ := F; exact ⟨q, c, A.ext E, r⟩
theorem own_AV.other (F : own_AV mk Z h b ty n f) (W : Wr h h' a sl v) (q : b ≠ a) : own_AV mk Z h' b ty n f := by obtain ⟨q', c, A, r⟩ := F; exact ⟨q', c, A.other W q, r⟩
theorem own_AV.keep (F : own_AV mk Z h a ty n f) (K : Keep h h' ws) (q : a ∉ ws) : own_AV mk Z h' a ty n f := by obtain ⟨q', c, A, r⟩ := F; exact ⟨q', c, ⟨K.2.1 a c A.1 q, A.2⟩, r⟩
theorem own_AV.congr (F : own_AV mk Z h a ty n f) (q : ∀ i, i < n → f i = f' i) : own_AV mk Z h a ty n f' := by obtain ⟨q', c, A, r, s⟩ := F; exact ⟨q', c, A, r, fun i hi => by rw [s i hi, q i hi]⟩
theorem own_AV.new {k : ClassId} {z : Int32} (A : Arr Z h a (newA k ty z) ty) (q : ¬ z < 0) (hn : z.toNatClampNeg = n) (hf : ∀ i : Nat, defaultValue ty = mk (f i)) : own_AV mk Z h a ty n f := by
  refine ⟨hn ▸ (back32 q).2, _, A, (sz_new _ _ _).trans hn, fun i hi => ?_⟩
  rw [← hf i]; simp [newA, hn, hi]
theorem own_in {c : Cell} {j : Int32} {k : Nat} (S : c.slots.size = n) (hj : ¬ j < 0) (hk : j.toNatClampNeg = k) (hlt : k < n) : ¬ (j < 0 ∨ c.slots.size ≤ j.toNatClampNeg) := fun q => q.elim hj fun r => by omega
theorem own_AV.set {c : Cell} {j : Int32} {k : Nat} {w : α} (nn : n < 2 ^ 31) (A : Arr Z h a c ty) (S : c.slots.size = n) (H : ∀ i, i < n → c.slots[i]? = some (mk (f i))) (W : Wr h h' a j.toNatClampNeg (mk w)) (hk : j.toNatClampNeg = k) : own_AV mk Z h' a ty n (own_upd f k w) := by
  subst hk
  refine ⟨nn, _, A.same W, by rw [sz_set]; exact S, fun i hi => ?_⟩
  show (c.setSlot j.toNatClampNeg (mk w)).slots[i]? = some (mk (if i = j.toNatClampNeg then w else f i))
  simp only [Cell.setSlot]
  by_cases q : i = j.toNatClampNeg
  · subst q; rw [if_pos rfl]; simp [S, hi]
  · rw [if_neg q, Array.getElem?_setIfInBounds_ne (fun r => q r.symm)]; exact H i hi
theorem own_iaload (X : Stand p l e R s m args below meth c T locs cells slots) (hx : p.tables.exec = Jvm.exec) (hZ : Z.Warmed39 s.vm) (eT : T.heap = h) {f : Nat → Int32} (F : own_AV Value.int Z h a .int n f) {j : Int32} {k : Nat} (hj : ¬ j < 0) (hk : j.toNatClampNeg = k) (hlt : k < n)
    {g : JFrame} (hg : g.method = m) {rest : List Value} (hs : g.stack = .int j :: .ref a :: rest) (hd : decode c.code g.pc = .ok (.iaload, 1)) {target : State} (hr : Steps p.tables e below (T.setTop { g with pc := g.pc + 1, stack := .int (f k) :: rest }) target) : Steps p.tables e below (T.setTop g) target := by
  obtain ⟨_, cl, A, S, H⟩ := F
  exact X.iaload hx (j := j) (v := .int (f k)) (by rw [eT]; exact A.1) (State.isArrayOf_alike hZ.alike A.2.1) A.2.2 (own_in S hj hk hlt) (by rw [hk]; exact H k hlt) hg hs hd _ hr
theorem own_laload (X : Stand p l e R s m args below meth c T locs cells slots) (hx : p.tables.exec = Jvm.exec) (hZ : Z.Warmed39 s.vm) (eT : T.heap = h) {f : Nat → Int64} (F : own_AV Value.long Z h a .long n f) {j : Int32} {k : Nat} (hj : ¬ j < 0) (hk : j.toNatClampNeg = k) (hlt : k < n)
    {g : JFrame} (hg : g.method = m) {rest : List Value} (hs : g.stack = .int j :: .ref a :: rest) (hd : decode c.code g.pc = .ok (.laload, 1)) {target : State} (hr : Steps p.tables e below (T.setTop { g with pc := g.pc + 1, stack := .long (f k) :: rest }) target) : Steps p.tables e below (T.setTop g) target := by
  obtain ⟨_, cl, A, S, H⟩ := F
  exact X.laload hx (j := j) (v := .long (f k)) (by rw [eT]; exact A.1) (State.isArrayOf_alike hZ.alike A.2.1) A.2.2 (own_in S hj hk hlt) (by rw [hk]; exact H k hlt) hg hs hd _ hr
theorem own_baload (X : Stand p l e R s m args below meth c T locs cells slots) (hx : p.tables.exec = Jvm.exec) (hZ : Z.Warmed39 s.vm) (eT : T.heap = h) {f : Nat → Int32} (F : own_AV Value.int Z h a .byte n f) {j : Int32} {k : Nat} (hj : ¬ j < 0) (hk : j.toNatClampNeg = k) (hlt : k < n)
    {g : JFrame} (hg : g.method = m) {rest : List Value} (hs : g.stack = .int j :: .ref a :: rest) (hd : decode c.code g.pc = .ok (.baload, 1)) {target : State} (hr : Steps p.tables e below (T.setTop { g with pc := g.pc + 1, stack := .int (f k) :: rest }) target) : Steps p.tables e below (T.setTop g) target := by
  obtain ⟨_, cl, A, S, H⟩ := F
  exact X.baloadBytes hx (j := j) (v := .int (f k)) (by rw [eT]; exact A.1) (State.isArrayOf_alike hZ.alike A.2.1) A.2.2 (own_in S hj hk hlt) (by rw [hk]; exact H k hlt) hg hs hd _ hr
theorem own_cloneI (X : Stand p l e R s m args below meth c T locs cells slots) (hx : p.tables.exec = Jvm.exec) (hZ : Z.Warmed39 s.vm) {a0 : Array Value} {own ad : String} {index : Nat} (hown : s.vm.findClass own = some m.cls)
    (w1 : (Cond.methodLink own index ⟨ad, "clone", "()Ljava/lang/Object;"⟩).before a0 Z = true) (w2 : (Cond.sameMethod ad "java/lang/Object" "clone" "()Ljava/lang/Object;").before a0 Z = true) (w3 : (Cond.native ⟨"java/lang/Object", "clone", "()Ljava/lang/Object;"⟩).before a0 Z = true)
    (w4 : (Cond.instanceMethod ⟨"java/lang/Object", "clone", "()Ljava/lang/Object;"⟩).before a0 Z = true) (w5 : (Cond.selects ad ⟨ad, "clone", "()Ljava/lang/Object;"⟩ ⟨"java/lang/Object", "clone", "()Ljava/lang/Object;"⟩).before a0 Z = true) (w6 : (Cond.castable ad "java/lang/Cloneable").before a0 Z = true)
    (eT : T.heap = h) {f : Nat → Int32} (F : own_AV Value.int Z h a .int n f) (E : Exa Z h a ad) {g : JFrame} (hg : g.method = m) (hsize : g.locals.size = c.maxLocals) {rest : List Value} (hs : g.stack = .ref a :: rest) (hd : decode c.code g.pc = .ok (.invokevirtual index, 3))
    (hf : 1 ≤ R.frames) {W cap : Nat} (hW : 2 * g.monitorRoom + (rest.map fun v => v.category).sum ≤ W) (hl : W + 14 ≤ R.locals) (hcap : n ≤ cap) (hc : cells + 1 ≤ R.cells) (hsl : slots + cap ≤ R.slots) :
    ∃ T' h', Stand p l e R s m args below meth c T' locs (cells + 1) (slots + cap) ∧ T'.heap = h' ∧ Ext h h' ∧ own_AV Value.int Z h' h.size .int n f ∧ Exa Z h' h.size ad ∧
      ∀ target, Steps p.tables e below (T'.setTop { g with pc := g.pc + 3, stack := .ref h.size :: rest }) target → Steps p.tables e below (T.setTop g) target := by
  obtain ⟨nn, cl, A, S, H⟩ := F
  have FC : FitC Z cl := fitC_of A fun i hi v hv => by rw [H i (S ▸ hi)] at hv; cases hv; rfl
  obtain ⟨T', h', X', e', ex, A', E', st⟩ := cloneA X hx hZ hown w1 w2 w3 w4 w5 w6 eT A E FC hg hsize hs hd hf hW hl (by rw [S]; exact hcap) hc hsl
  exact ⟨T', h', X', e', ex, ⟨nn, cloneOf cl, A', S, H⟩, E', st⟩
theorem own_alen (X : Stand p l e R s m args below meth c T locs cells slots) (hx : p.tables.exec = Jvm.exec) (hZ : Z.Warmed39 s.vm) (eT : T.heap = h) (F : own_AV mk Z h a ty n f) {z : Int32} (hz : n.toInt32 = z)
    {g : JFrame} (hg : g.method = m) {rest : List Value} (hs : g.stack = .ref a :: rest) (hd : decode c.code g.pc = .ok (.arraylength, 1)) {target : State} (hr : Steps p.tables e below (T.setTop { g with pc := g.pc + 1, stack := .int z :: rest }) target) : Steps p.tables e below (T.setTop g) target := by
  obtain ⟨_, cl, A, S, H⟩ := F
  exact X.arraylength hx (by rw [eT]; exact A.1) (State.isArrayOf_alike hZ.alike A.2.1) hg hs hd _ (by rw [S, hz]; exact hr)
end
end OwnKit
def own_sum (f : Nat → Int64) : Nat → Int64
  | 0 => 0
  | k + 1 => own_sum f k + f k
theorem own_z32 : (0 : Int32).toInt = 0 := by decide
theorem own_nneg {i : Int32} (h : 0 ≤ i.toInt) : ¬ i < 0 := by rw [Int32.lt_iff_toInt_lt, own_z32]; omega
theorem own_natc {i : Int32} (h : 0 ≤ i.toInt) : (i.toNatClampNeg : Int) = i.toInt := (nat_of (own_nneg h)).symm
theorem own_ofNat {n : Nat} (h : n < 2 ^ 31) : (Int32.ofNat n).toInt = n := Int32.toInt_ofNat_of_lt h
theorem own_inc {i : Int32} {n : Nat} (hn : n < 2 ^ 31) (h : 0 ≤ i.toInt) (h2 : i.toInt < n) : (i + (1 : Int32)).toInt = i.toInt + 1 := by
  have e := c_iadd i 1; have r := rng32 (i + 1); have o : (1 : Int32).toInt = 1 := by decide
  omega
/-- a turn more: i + 1, the place i -/
theorem own_up {i : Int32} {n : Nat} (hn : n < 2 ^ 31) (hi : 0 ≤ i.toInt ∧ i.toInt ≤ n) (hc : i < Int32.ofNat n) :
    (0 ≤ (i + (1 : Int32)).toInt ∧ (i + (1 : Int32)).toInt ≤ n) ∧ (¬ i < 0 ∧ i.toNatClampNeg < n) ∧ (i + (1 : Int32)).toNatClampNeg = i.toNatClampNeg + 1 := by
  rw [Int32.lt_iff_toInt_lt, own_ofNat hn] at hc
  have e := own_inc hn hi.1 hc
  have a := own_natc hi.1
  have b := own_natc (i := i + 1) (by omega)
  exact ⟨by omega, ⟨own_nneg hi.1, by omega⟩, by omega⟩
theorem own_dec {i : Int32} {n k : Nat} (hn : n < 2 ^ 31) (hi : 0 ≤ i.toInt ∧ i.toInt ≤ n) (hc : i < Int32.ofNat n) (hm : n - i.toNatClampNeg = k) : n - (i + (1 : Int32)).toNatClampNeg < k := by
  have h := own_up hn hi hc
  omega
theorem own_last {i : Int32} {n : Nat} (hn : n < 2 ^ 31) (hi : 0 ≤ i.toInt ∧ i.toInt ≤ n) (hc : ¬ i < Int32.ofNat n) : i.toNatClampNeg = n := by
  rw [Int32.lt_iff_toInt_lt, own_ofNat hn] at hc
  have a := own_natc hi.1
  omega

theorem own_pn0 : plainName "java/lang/Record" = true := by first | (simp [plainName, overriddenIn]; done) | decide +kernel
theorem d3_0 : decode jdk_30_method_1_code 0 = .ok (.aload_n 0, 1) := by decide +kernel
theorem d3_1 : decode jdk_30_method_1_code 1 = .ok (.invokespecial 1, 3) := by decide +kernel
theorem d3_4 : decode jdk_30_method_1_code 4 = .ok (.return_, 1) := by decide +kernel
theorem ef3 (m : MethodId) (ad0 : Addr) : entryFrame m #[(.ref ad0)] 1 = mkF m 0 #[.val (.ref ad0)] [] := by first | (simp [entryFrame, mkF, argsToLocals, Value.category]; done) | rfl
def Q3 (Z : State) (ad0 : Addr) (h0 : Heap) (n0 : Nat) (v : Option Value) (h : Heap) (L : List Loc) : Prop := v = none ∧ Fr n0 L ∧ h = h0
set_option maxRecDepth 65536 in
set_option maxHeartbeats 40000000 in
theorem rm3 (l : Launch) (Z : State) (a0 : Array Value) (hw : ∀ d ∈ tables_1, d.before a0 Z = true) (ws : List Jvm.Cond) (ad0 : Addr) (h0 : Heap) (n0 : Nat) (Z0 : n0 ≤ h0.size) :
    MetFree l (⟨"java/lang/Record", "<init>", "()V"⟩ : MethodName) (head1 (Jvm.Cond.code (⟨"java/lang/Record", "<init>", "()V"⟩ : MethodName) jdk_30_method_1_code 1 none :: ws) ({ frames := 1, cells := 0, slots := 0, locals := 12 } : Room)) (fun a U => a = #[(.ref ad0)] ∧ Z.Warmed39 U.vm ∧ U.heap = h0) (fun _ _ _ _ _ => True) (fun _ U o U' => ∃ v L, o = .returned v ∧ Q3 Z ad0 h0 n0 v U'.heap L ∧ FrameEnd U o U' L ({ frames := 1, cells := 0, slots := 0, locals := 12 } : Room).cells ({ frames := 1, cells := 0, slots := 0, locals := 12 } : Room).slots) := by
  refine MetFree.of_bodySF (plainFor_of_name own_pn0) hisR ?_
  intro p e s m args below meth c s₁ Bd hml0 hP hK
  obtain ⟨rfl, hZ, hh⟩ := hP
  have hx := Bd.exec
  have hby := Bd.bytes
  have hml : c.maxLocals = 1 := hml0
  have hown : s.vm.findClass "java/lang/Record" = some m.cls := findClass_of_methodNamed Bd.named
  have hnm := (name_of_methodNamed Bd.named Bd.method).1
  have hlk : meth.locks = false := BodyLoose.notSynchronized Bd
  have X0 : Stand p l e ({ frames := 1, cells := 0, slots := 0, locals := 12 } : Room) s m #[(.ref ad0)] below meth c s₁ [] 0 0 := Stand.of_body Bd
  have e0 : s₁.heap = h0 := by rw [← hh, Bd.state]; rfl
  have N0 := Fr.nil n0
  obtain ⟨G, hG⟩ : ∃ G, G = own_G s (Q3 Z ad0 h0 n0) ({ frames := 1, cells := 0, slots := 0, locals := 12 } : Room).cells ({ frames := 1, cells := 0, slots := 0, locals := 12 } : Room).slots := ⟨_, rfl⟩
  show own_Fin p e below (own_G s (Q3 Z ad0 h0 n0) ({ frames := 1, cells := 0, slots := 0, locals := 12 } : Room).cells ({ frames := 1, cells := 0, slots := 0, locals := 12 } : Room).slots) (s₁.setTop (entryFrame m #[(.ref ad0)] 1))
  rw [← hG]
  refine own_to (fun _ kz => castTop (ef3 m ad0) kz) ?_
  show own_Fin p e below G (s₁.setTop (mkF m 0 #[.val (.ref ad0)] []))
  refine own_to (fun _ kz => XS.aloadN X0.here hx rfl (hb hby d3_0) rfl (rfl)  kz) ?_
  show own_Fin p e below G (s₁.setTop (mkF m 1 #[.val (.ref ad0)] [(.ref ad0)]))
  obtain ⟨T1, X1, e1, st1⟩ := initO X0 hx hZ hown (hw _ (List.mem_of_getElem? (i := 17) rfl)) (hw _ (List.mem_of_getElem? (i := 18) rfl)) (hw _ (List.mem_of_getElem? (i := 19) rfl)) e0 (g := (mkF m 1 #[.val (.ref ad0)] [(.ref ad0)])) rfl (by rw [hml]; rfl) rfl (hb hby d3_1) (by decide) (W := 0) (by show 2 * 0 + _ ≤ _; exact Nat.le_of_eq rfl) (by decide)
  refine own_to st1 ?_
  show own_Fin p e below G (T1.setTop (mkF m 4 #[.val (.ref ad0)] []))
  exact own_retV X1 hx hlk hG Bd.returns (hb hby d3_4) (by decide) (by decide) ⟨rfl, N0, e1⟩
theorem own_pd0 : parseMethodDescriptor "()V" = some ⟨[], none⟩ := by decide +kernel
theorem own_pn1 : plainName "wavegauge/simulate/Measurement" = true := by first | (simp [plainName, overriddenIn]; done) | decide +kernel
theorem d2_0 : decode prog_34_method_1_code 0 = .ok (.aload_n 0, 1) := by decide +kernel
theorem d2_1 : decode prog_34_method_1_code 1 = .ok (.invokespecial 1, 3) := by decide +kernel
theorem d2_4 : decode prog_34_method_1_code 4 = .ok (.aload_n 0, 1) := by decide +kernel
theorem d2_5 : decode prog_34_method_1_code 5 = .ok (.aload_n 1, 1) := by decide +kernel
theorem d2_6 : decode prog_34_method_1_code 6 = .ok (.putfield 7, 3) := by decide +kernel
theorem d2_9 : decode prog_34_method_1_code 9 = .ok (.aload_n 0, 1) := by decide +kernel
theorem d2_10 : decode prog_34_method_1_code 10 = .ok (.aload_n 2, 1) := by decide +kernel
theorem d2_11 : decode prog_34_method_1_code 11 = .ok (.putfield 13, 3) := by decide +kernel
theorem d2_14 : decode prog_34_method_1_code 14 = .ok (.aload_n 0, 1) := by decide +kernel
theorem d2_15 : decode prog_34_method_1_code 15 = .ok (.aload_n 3, 1) := by decide +kernel
theorem d2_16 : decode prog_34_method_1_code 16 = .ok (.putfield 16, 3) := by decide +kernel
theorem d2_19 : decode prog_34_method_1_code 19 = .ok (.aload_n 0, 1) := by decide +kernel
theorem d2_20 : decode prog_34_method_1_code 20 = .ok (.aload 4, 2) := by decide +kernel
theorem d2_22 : decode prog_34_method_1_code 22 = .ok (.putfield 20, 3) := by decide +kernel
theorem d2_25 : decode prog_34_method_1_code 25 = .ok (.aload_n 0, 1) := by decide +kernel
theorem d2_26 : decode prog_34_method_1_code 26 = .ok (.dload 5, 2) := by decide +kernel
theorem d2_28 : decode prog_34_method_1_code 28 = .ok (.putfield 23, 3) := by decide +kernel
theorem d2_31 : decode prog_34_method_1_code 31 = .ok (.aload_n 0, 1) := by decide +kernel
theorem d2_32 : decode prog_34_method_1_code 32 = .ok (.dload 7, 2) := by decide +kernel
theorem d2_34 : decode prog_34_method_1_code 34 = .ok (.putfield 27, 3) := by decide +kernel
theorem d2_37 : decode prog_34_method_1_code 37 = .ok (.aload_n 0, 1) := by decide +kernel
theorem d2_38 : decode prog_34_method_1_code 38 = .ok (.iload 9, 2) := by decide +kernel
theorem d2_40 : decode prog_34_method_1_code 40 = .ok (.putfield 30, 3) := by decide +kernel
theorem d2_43 : decode prog_34_method_1_code 43 = .ok (.return_, 1) := by decide +kernel
theorem ef2 (m : MethodId) (ad0 : Addr) (ad1 : Addr) (ad2 : Addr) (ad3 : Addr) (ad4 : Addr) (d5 : UInt64) (d6 : UInt64) (p7 : Int32) : entryFrame m #[(.ref ad0), (.ref ad1), (.ref ad2), (.ref ad3), (.ref ad4), (.double d5), (.double d6), (.int p7)] 10 = mkF m 0 #[.val (.ref ad0), .val (.ref ad1), .val (.ref ad2), .val (.ref ad3), .val (.ref ad4), .val (.double d5), .second, .val (.double d6), .second, .val (.int p7)] [] := by first | (simp [entryFrame, mkF, argsToLocals, Value.category]; done) | rfl
def Q2 (Z : State) (ad0 : Addr) (ad1 : Addr) (ad2 : Addr) (ad3 : Addr) (ad4 : Addr) (d5 : UInt64) (d6 : UInt64) (p7 : Int32) (h0 : Heap) (n0 : Nat) (v : Option Value) (h : Heap) (L : List Loc) : Prop := v = none ∧ Fr n0 L ∧ Keep h0 h [ad0] ∧ Exa Z h ad0 "wavegauge/simulate/Measurement" ∧ Fld Z h ad0 "wavegauge/simulate/Measurement" "blocking" "[D" (.ref ad1) ∧ Fld Z h ad0 "wavegauge/simulate/Measurement" "halfWidth" "[D" (.ref ad2) ∧ Fld Z h ad0 "wavegauge/simulate/Measurement" "attempts" "[J" (.ref ad3) ∧ Fld Z h ad0 "wavegauge/simulate/Measurement" "blocked" "[J" (.ref ad4) ∧ Fld Z h ad0 "wavegauge/simulate/Measurement" "networkBlocking" "D" (.double d5) ∧ Fld Z h ad0 "wavegauge/simulate/Measurement" "networkHalfWidth" "D" (.double d6) ∧ Fld Z h ad0 "wavegauge/simulate/Measurement" "stoppedByRule" "Z" (.int (nar .boolean p7))
set_option maxRecDepth 65536 in
set_option maxHeartbeats 40000000 in
theorem rm2 (l : Launch) (Z : State) (a0 : Array Value) (hw : ∀ d ∈ tables_1, d.before a0 Z = true) (ws : List Jvm.Cond) (ad0 : Addr) (ad1 : Addr) (ad2 : Addr) (ad3 : Addr) (ad4 : Addr) (d5 : UInt64) (d6 : UInt64) (p7 : Int32) (h0 : Heap) (n0 : Nat) (Z0 : n0 ≤ h0.size) (E_ad0 : Exa Z h0 ad0 "wavegauge/simulate/Measurement") (F_blocking_ad0 : Fld Z h0 ad0 "wavegauge/simulate/Measurement" "blocking" "[D" .null) (F_halfWidth_ad0 : Fld Z h0 ad0 "wavegauge/simulate/Measurement" "halfWidth" "[D" .null) (F_attempts_ad0 : Fld Z h0 ad0 "wavegauge/simulate/Measurement" "attempts" "[J" .null) (F_blocked_ad0 : Fld Z h0 ad0 "wavegauge/simulate/Measurement" "blocked" "[J" .null) (F_networkBlocking_ad0 : Fld Z h0 ad0 "wavegauge/simulate/Measurement" "networkBlocking" "D" (.double (0 : UInt64))) (F_networkHalfWidth_ad0 : Fld Z h0 ad0 "wavegauge/simulate/Measurement" "networkHalfWidth" "D" (.double (0 : UInt64))) (F_stoppedByRule_ad0 : Fld Z h0 ad0 "wavegauge/simulate/Measurement" "stoppedByRule" "Z" (.int (0 : Int32))) (g_ad0 : n0 ≤ ad0) :
    MetFree l (⟨"wavegauge/simulate/Measurement", "<init>", "([D[D[J[JDDZ)V"⟩ : MethodName) (head1 (Jvm.Cond.code (⟨"wavegauge/simulate/Measurement", "<init>", "([D[D[J[JDDZ)V"⟩ : MethodName) prog_34_method_1_code 10 none :: ws) ({ frames := 2, cells := 0, slots := 0, locals := 24 } : Room)) (fun a U => a = #[(.ref ad0), (.ref ad1), (.ref ad2), (.ref ad3), (.ref ad4), (.double d5), (.double d6), (.int p7)] ∧ Z.Warmed39 U.vm ∧ U.heap = h0) (fun _ _ _ _ _ => True) (fun _ U o U' => ∃ v L, o = .returned v ∧ Q2 Z ad0 ad1 ad2 ad3 ad4 d5 d6 p7 h0 n0 v U'.heap L ∧ FrameEnd U o U' L ({ frames := 2, cells := 0, slots := 0, locals := 24 } : Room).cells ({ frames := 2, cells := 0, slots := 0, locals := 24 } : Room).slots) := by
  refine MetFree.of_bodySF (plainFor_of_name own_pn1) hisR ?_
  intro p e s m args below meth c s₁ Bd hml0 hP hK
  obtain ⟨rfl, hZ, hh⟩ := hP
  have hx := Bd.exec
  have hby := Bd.bytes
  have hml : c.maxLocals = 10 := hml0
  have hown : s.vm.findClass "wavegauge/simulate/Measurement" = some m.cls := findClass_of_methodNamed Bd.named
  have hnm := (name_of_methodNamed Bd.named Bd.method).1
  have hlk : meth.locks = false := BodyLoose.notSynchronized Bd
  have X0 : Stand p l e ({ frames := 2, cells := 0, slots := 0, locals := 24 } : Room) s m #[(.ref ad0), (.ref ad1), (.ref ad2), (.ref ad3), (.ref ad4), (.double d5), (.double d6), (.int p7)] below meth c s₁ [] 0 0 := Stand.of_body Bd
  have e0 : s₁.heap = h0 := by rw [← hh, Bd.state]; rfl
  have N0 := Fr.nil n0
  obtain ⟨G, hG⟩ : ∃ G, G = own_G s (Q2 Z ad0 ad1 ad2 ad3 ad4 d5 d6 p7 h0 n0) ({ frames := 2, cells := 0, slots := 0, locals := 24 } : Room).cells ({ frames := 2, cells := 0, slots := 0, locals := 24 } : Room).slots := ⟨_, rfl⟩
  show own_Fin p e below (own_G s (Q2 Z ad0 ad1 ad2 ad3 ad4 d5 d6 p7 h0 n0) ({ frames := 2, cells := 0, slots := 0, locals := 24 } : Room).cells ({ frames := 2, cells := 0, slots := 0, locals := 24 } : Room).slots) (s₁.setTop (entryFrame m #[(.ref ad0), (.ref ad1), (.ref ad2), (.ref ad3), (.ref ad4), (.double d5), (.double d6), (.int p7)] 10))
  rw [← hG]
  refine own_to (fun _ kz => castTop (ef2 m ad0 ad1 ad2 ad3 ad4 d5 d6 p7) kz) ?_
  show own_Fin p e below G (s₁.setTop (mkF m 0 #[.val (.ref ad0), .val (.ref ad1), .val (.ref ad2), .val (.ref ad3), .val (.ref ad4), .val (.double d5), .second, .val (.double d6), .second, .val (.int p7)] []))
  refine own_to (fun _ kz => XS.aloadN X0.here hx rfl (hb hby d2_0) rfl (rfl)  kz) ?_
  show own_Fin p e below G (s₁.setTop (mkF m 1 #[.val (.ref ad0), .val (.ref ad1), .val (.ref ad2), .val (.ref ad3), .val (.ref ad4), .val (.double d5), .second, .val (.double d6), .second, .val (.int p7)] [(.ref ad0)]))
  obtain ⟨_, _, ⟨T1, L1, k1, n1⟩, -, X1, ⟨Lc1, hQ1, l1, y1, z1⟩, st1⟩ := X0.specialBack hx (y := (⟨"java/lang/Record", "<init>", "()V"⟩ : MethodName)) rfl hown (mvT hZ (hw _ (List.mem_of_getElem? (i := 12) rfl))) (mvT hZ (hw _ (List.mem_of_getElem? (i := 13) rfl))) (mvT hZ (hw _ (List.mem_of_getElem? (i := 16) rfl))) (by decide) (backOf (W := 0) (rm3 l Z a0 hw [] ad0 h0 n0 Z0 ) hZ (hw _ (List.mem_of_getElem? (i := 16) rfl)) (hw _ (List.mem_of_getElem? (i := 15) rfl)) (by decide) (by decide)) (g := (mkF m 1 #[.val (.ref ad0), .val (.ref ad1), .val (.ref ad2), .val (.ref ad3), .val (.ref ad4), .val (.double d5), .second, .val (.double d6), .second, .val (.int p7)] [(.ref ad0)])) rfl (by rw [hml]; rfl) (Steps.refl _) (a := ad0) (argsL := []) (rest := []) (lenOf own_pd0 rfl) rfl (by show 2 * 0 + _ ≤ _; exact Nat.le_of_eq rfl) (hb hby d2_1) (fun _ _ => ⟨rfl, e0, (by decide : 0 + 0 ≤ _), (by decide : 0 + 0 ≤ _)⟩)
  dsimp only [Pt.U, Pt.locs, Pt.cells, Pt.slots] at X1 l1 y1 z1 st1 hQ1
  subst l1 y1 z1
  obtain ⟨rfl, N1q, e1⟩ := hQ1
  have N1 := Fr.app N0 N1q
  refine own_via st1 ?_
  show own_Fin p e below G (T1.setTop (mkF m 4 #[.val (.ref ad0), .val (.ref ad1), .val (.ref ad2), .val (.ref ad3), .val (.ref ad4), .val (.double d5), .second, .val (.double d6), .second, .val (.int p7)] []))
  refine own_to (fun _ kz => XS.aloadN X1.here hx rfl (hb hby d2_4) rfl (rfl)  kz) ?_
  show own_Fin p e below G (T1.setTop (mkF m 5 #[.val (.ref ad0), .val (.ref ad1), .val (.ref ad2), .val (.ref ad3), .val (.ref ad4), .val (.double d5), .second, .val (.double d6), .second, .val (.int p7)] [(.ref ad0)]))
  refine own_to (fun _ kz => XS.aloadN X1.here hx rfl (hb hby d2_5) rfl (rfl)  kz) ?_
  show own_Fin p e below G (T1.setTop (mkF m 6 #[.val (.ref ad0), .val (.ref ad1), .val (.ref ad2), .val (.ref ad3), .val (.ref ad4), .val (.double d5), .second, .val (.double d6), .second, .val (.int p7)] [(.ref ad1), (.ref ad0)]))
  obtain ⟨T6, h6, X6, e6, W6, st6⟩ := putF X1 hx hZ hown (host := "") (Or.inl (hw _ (List.mem_of_getElem? (i := 20) rfl))) Via.refl e1 F_blocking_ad0 E_ad0 (Or.inr ⟨(hw _ (List.mem_of_getElem? (i := 21) rfl)), rfl, hnm⟩) (hw _ (List.mem_of_getElem? (i := 6) rfl)) (ty := (.array .double)) (by decide) rfl rfl (g := (mkF m 6 #[.val (.ref ad0), .val (.ref ad1), .val (.ref ad2), .val (.ref ad3), .val (.ref ad4), .val (.double d5), .second, .val (.double d6), .second, .val (.int p7)] [(.ref ad1), (.ref ad0)])) rfl rfl (hb hby d2_6)
  refine own_to st6 ?_
  have Fw6 : Fld Z h6 ad0 "wavegauge/simulate/Measurement" "blocking" "[D" (.ref ad1) := Fld.same W6 F_blocking_ad0
  have N6 := Fr.snoc X6 N1 g_ad0
  show own_Fin p e below G (T6.setTop (mkF m 9 #[.val (.ref ad0), .val (.ref ad1), .val (.ref ad2), .val (.ref ad3), .val (.ref ad4), .val (.double d5), .second, .val (.double d6), .second, .val (.int p7)] []))
  refine own_to (fun _ kz => XS.aloadN X6.here hx rfl (hb hby d2_9) rfl (rfl)  kz) ?_
  show own_Fin p e below G (T6.setTop (mkF m 10 #[.val (.ref ad0), .val (.ref ad1), .val (.ref ad2), .val (.ref ad3), .val (.ref ad4), .val (.double d5), .second, .val (.double d6), .second, .val (.int p7)] [(.ref ad0)]))
  refine own_to (fun _ kz => XS.aloadN X6.here hx rfl (hb hby d2_10) rfl (rfl)  kz) ?_
  show own_Fin p e below G (T6.setTop (mkF m 11 #[.val (.ref ad0), .val (.ref ad1), .val (.ref ad2), .val (.ref ad3), .val (.ref ad4), .val (.double d5), .second, .val (.double d6), .second, .val (.int p7)] [(.ref ad2), (.ref ad0)]))
  have E_ad0_at_11 : Exa Z h6 ad0 "wavegauge/simulate/Measurement" := (E_ad0.wr W6)
  have F_halfWidth_ad0_at_11 : Fld Z h6 ad0 "wavegauge/simulate/Measurement" "halfWidth" "[D" .null := (F_halfWidth_ad0.other W6 (Or.inr (slot_ne (Or.inr (hw _ (List.mem_of_getElem? (i := 23) rfl))) (Or.inr (hw _ (List.mem_of_getElem? (i := 21) rfl))) (by decide) (t := (.array .double)) (t' := (.array .double)) (by decide) (by decide))))
  obtain ⟨T11, h11, X11, e11, W11, st11⟩ := putF X6 hx hZ hown (host := "") (Or.inl (hw _ (List.mem_of_getElem? (i := 22) rfl))) Via.refl e6 F_halfWidth_ad0_at_11 E_ad0_at_11 (Or.inr ⟨(hw _ (List.mem_of_getElem? (i := 23) rfl)), rfl, hnm⟩) (hw _ (List.mem_of_getElem? (i := 6) rfl)) (ty := (.array .double)) (by decide) rfl rfl (g := (mkF m 11 #[.val (.ref ad0), .val (.ref ad1), .val (.ref ad2), .val (.ref ad3), .val (.ref ad4), .val (.double d5), .second, .val (.double d6), .second, .val (.int p7)] [(.ref ad2), (.ref ad0)])) rfl rfl (hb hby d2_11)
  refine own_to st11 ?_
  have Fw11 : Fld Z h11 ad0 "wavegauge/simulate/Measurement" "halfWidth" "[D" (.ref ad2) := Fld.same W11 F_halfWidth_ad0_at_11
  have N11 := Fr.snoc X11 N6 g_ad0
  show own_Fin p e below G (T11.setTop (mkF m 14 #[.val (.ref ad0), .val (.ref ad1), .val (.ref ad2), .val (.ref ad3), .val (.ref ad4), .val (.double d5), .second, .val (.double d6), .second, .val (.int p7)] []))
  refine own_to (fun _ kz => XS.aloadN X11.here hx rfl (hb hby d2_14) rfl (rfl)  kz) ?_
  show own_Fin p e below G (T11.setTop (mkF m 15 #[.val (.ref ad0), .val (.ref ad1), .val (.ref ad2), .val (.ref ad3), .val (.ref ad4), .val (.double d5), .second, .val (.double d6), .second, .val (.int p7)] [(.ref ad0)]))
  refine own_to (fun _ kz => XS.aloadN X11.here hx rfl (hb hby d2_15) rfl (rfl)  kz) ?_
  show own_Fin p e below G (T11.setTop (mkF m 16 #[.val (.ref ad0), .val (.ref ad1), .val (.ref ad2), .val (.ref ad3), .val (.ref ad4), .val (.double d5), .second, .val (.double d6), .second, .val (.int p7)] [(.ref ad3), (.ref ad0)]))
  have E_ad0_at_16 : Exa Z h11 ad0 "wavegauge/simulate/Measurement" := (E_ad0_at_11.wr W11)
  have F_at_16 : Fld Z h11 ad0 "wavegauge/simulate/Measurement" "attempts" "[J" .null := ((F_attempts_ad0.other W6 (Or.inr (slot_ne (Or.inr (hw _ (List.mem_of_getElem? (i := 25) rfl))) (Or.inr (hw _ (List.mem_of_getElem? (i := 21) rfl))) (by decide) (t := (.array .long)) (t' := (.array .double)) (by decide) (by decide)))).other W11 (Or.inr (slot_ne (Or.inr (hw _ (List.mem_of_getElem? (i := 25) rfl))) (Or.inr (hw _ (List.mem_of_getElem? (i := 23) rfl))) (by decide) (t := (.array .long)) (t' := (.array .double)) (by decide) (by decide))))
  obtain ⟨T16, h16, X16, e16, W16, st16⟩ := putF X11 hx hZ hown (host := "") (Or.inl (hw _ (List.mem_of_getElem? (i := 24) rfl))) Via.refl e11 F_at_16 E_ad0_at_16 (Or.inr ⟨(hw _ (List.mem_of_getElem? (i := 25) rfl)), rfl, hnm⟩) (hw _ (List.mem_of_getElem? (i := 6) rfl)) (ty := (.array .long)) (by decide) rfl rfl (g := (mkF m 16 #[.val (.ref ad0), .val (.ref ad1), .val (.ref ad2), .val (.ref ad3), .val (.ref ad4), .val (.double d5), .second, .val (.double d6), .second, .val (.int p7)] [(.ref ad3), (.ref ad0)])) rfl rfl (hb hby d2_16)
  refine own_to st16 ?_
  have Fw16 : Fld Z h16 ad0 "wavegauge/simulate/Measurement" "attempts" "[J" (.ref ad3) := Fld.same W16 F_at_16
  have N16 := Fr.snoc X16 N11 g_ad0
  show own_Fin p e below G (T16.setTop (mkF m 19 #[.val (.ref ad0), .val (.ref ad1), .val (.ref ad2), .val (.ref ad3), .val (.ref ad4), .val (.double d5), .second, .val (.double d6), .second, .val (.int p7)] []))
  refine own_to (fun _ kz => XS.aloadN X16.here hx rfl (hb hby d2_19) rfl (rfl)  kz) ?_
  show own_Fin p e below G (T16.setTop (mkF m 20 #[.val (.ref ad0), .val (.ref ad1), .val (.ref ad2), .val (.ref ad3), .val (.ref ad4), .val (.double d5), .second, .val (.double d6), .second, .val (.int p7)] [(.ref ad0)]))
  refine own_to (fun _ kz => XS.aload X16.here hx rfl (hb hby d2_20) rfl (rfl)  kz) ?_
  show own_Fin p e below G (T16.setTop (mkF m 22 #[.val (.ref ad0), .val (.ref ad1), .val (.ref ad2), .val (.ref ad3), .val (.ref ad4), .val (.double d5), .second, .val (.double d6), .second, .val (.int p7)] [(.ref ad4), (.ref ad0)]))
  have E_ad0_at_22 : Exa Z h16 ad0 "wavegauge/simulate/Measurement" := (E_ad0_at_16.wr W16)
  have F_blocked_ad0_at_22 : Fld Z h16 ad0 "wavegauge/simulate/Measurement" "blocked" "[J" .null := (((F_blocked_ad0.other W6 (Or.inr (slot_ne (Or.inr (hw _ (List.mem_of_getElem? (i := 27) rfl))) (Or.inr (hw _ (List.mem_of_getElem? (i := 21) rfl))) (by decide) (t := (.array .long)) (t' := (.array .double)) (by decide) (by decide)))).other W11 (Or.inr (slot_ne (Or.inr (hw _ (List.mem_of_getElem? (i := 27) rfl))) (Or.inr (hw _ (List.mem_of_getElem? (i := 23) rfl))) (by decide) (t := (.array .long)) (t' := (.array .double)) (by decide) (by decide)))).other W16 (Or.inr (slot_ne (Or.inr (hw _ (List.mem_of_getElem? (i := 27) rfl))) (Or.inr (hw _ (List.mem_of_getElem? (i := 25) rfl))) (by decide) (t := (.array .long)) (t' := (.array .long)) (by decide) (by decide))))
  obtain ⟨T22, h22, X22, e22, W22, st22⟩ := putF X16 hx hZ hown (host := "") (Or.inl (hw _ (List.mem_of_getElem? (i := 26) rfl))) Via.refl e16 F_blocked_ad0_at_22 E_ad0_at_22 (Or.inr ⟨(hw _ (List.mem_of_getElem? (i := 27) rfl)), rfl, hnm⟩) (hw _ (List.mem_of_getElem? (i := 6) rfl)) (ty := (.array .long)) (by decide) rfl rfl (g := (mkF m 22 #[.val (.ref ad0), .val (.ref ad1), .val (.ref ad2), .val (.ref ad3), .val (.ref ad4), .val (.double d5), .second, .val (.double d6), .second, .val (.int p7)] [(.ref ad4), (.ref ad0)])) rfl rfl (hb hby d2_22)
  refine own_to st22 ?_
  have Fw22 : Fld Z h22 ad0 "wavegauge/simulate/Measurement" "blocked" "[J" (.ref ad4) := Fld.same W22 F_blocked_ad0_at_22
  have N22 := Fr.snoc X22 N16 g_ad0
  show own_Fin p e below G (T22.setTop (mkF m 25 #[.val (.ref ad0), .val (.ref ad1), .val (.ref ad2), .val (.ref ad3), .val (.ref ad4), .val (.double d5), .second, .val (.double d6), .second, .val (.int p7)] []))
  refine own_to (fun _ kz => XS.aloadN X22.here hx rfl (hb hby d2_25) rfl (rfl)  kz) ?_
  show own_Fin p e below G (T22.setTop (mkF m 26 #[.val (.ref ad0), .val (.ref ad1), .val (.ref ad2), .val (.ref ad3), .val (.ref ad4), .val (.double d5), .second, .val (.double d6), .second, .val (.int p7)] [(.ref ad0)]))
  refine own_to (fun _ kz => XS.dload X22.here hx rfl (hb hby d2_26) rfl  kz) ?_
  show own_Fin p e below G (T22.setTop (mkF m 28 #[.val (.ref ad0), .val (.ref ad1), .val (.ref ad2), .val (.ref ad3), .val (.ref ad4), .val (.double d5), .second, .val (.double d6), .second, .val (.int p7)] [(.double d5), (.ref ad0)]))
  have E_ad0_at_28 : Exa Z h22 ad0 "wavegauge/simulate/Measurement" := (E_ad0_at_22.wr W22)
  have F_networkBlocking_ad0_at_28 : Fld Z h22 ad0 "wavegauge/simulate/Measurement" "networkBlocking" "D" (.double (0 : UInt64)) := ((((F_networkBlocking_ad0.other W6 (Or.inr (slot_ne (Or.inr (hw _ (List.mem_of_getElem? (i := 29) rfl))) (Or.inr (hw _ (List.mem_of_getElem? (i := 21) rfl))) (by decide) (t := .double) (t' := (.array .double)) (by decide) (by decide)))).other W11 (Or.inr (slot_ne (Or.inr (hw _ (List.mem_of_getElem? (i := 29) rfl))) (Or.inr (hw _ (List.mem_of_getElem? (i := 23) rfl))) (by decide) (t := .double) (t' := (.array .double)) (by decide) (by decide)))).other W16 (Or.inr (slot_ne (Or.inr (hw _ (List.mem_of_getElem? (i := 29) rfl))) (Or.inr (hw _ (List.mem_of_getElem? (i := 25) rfl))) (by decide) (t := .double) (t' := (.array .long)) (by decide) (by decide)))).other W22 (Or.inr (slot_ne (Or.inr (hw _ (List.mem_of_getElem? (i := 29) rfl))) (Or.inr (hw _ (List.mem_of_getElem? (i := 27) rfl))) (by decide) (t := .double) (t' := (.array .long)) (by decide) (by decide))))
  obtain ⟨T28, h28, X28, e28, W28, st28⟩ := putF X22 hx hZ hown (host := "") (Or.inl (hw _ (List.mem_of_getElem? (i := 28) rfl))) Via.refl e22 F_networkBlocking_ad0_at_28 E_ad0_at_28 (Or.inr ⟨(hw _ (List.mem_of_getElem? (i := 29) rfl)), rfl, hnm⟩) (hw _ (List.mem_of_getElem? (i := 6) rfl)) (ty := .double) (by decide) rfl rfl (g := (mkF m 28 #[.val (.ref ad0), .val (.ref ad1), .val (.ref ad2), .val (.ref ad3), .val (.ref ad4), .val (.double d5), .second, .val (.double d6), .second, .val (.int p7)] [(.double d5), (.ref ad0)])) rfl rfl (hb hby d2_28)
  refine own_to st28 ?_
  have Fw28 : Fld Z h28 ad0 "wavegauge/simulate/Measurement" "networkBlocking" "D" (.double d5) := Fld.same W28 F_networkBlocking_ad0_at_28
  have N28 := Fr.snoc X28 N22 g_ad0
  show own_Fin p e below G (T28.setTop (mkF m 31 #[.val (.ref ad0), .val (.ref ad1), .val (.ref ad2), .val (.ref ad3), .val (.ref ad4), .val (.double d5), .second, .val (.double d6), .second, .val (.int p7)] []))
  refine own_to (fun _ kz => XS.aloadN X28.here hx rfl (hb hby d2_31) rfl (rfl)  kz) ?_
  show own_Fin p e below G (T28.setTop (mkF m 32 #[.val (.ref ad0), .val (.ref ad1), .val (.ref ad2), .val (.ref ad3), .val (.ref ad4), .val (.double d5), .second, .val (.double d6), .second, .val (.int p7)] [(.ref ad0)]))
  refine own_to (fun _ kz => XS.dload X28.here hx rfl (hb hby d2_32) rfl  kz) ?_
  show own_Fin p e below G (T28.setTop (mkF m 34 #[.val (.ref ad0), .val (.ref ad1), .val (.ref ad2), .val (.ref ad3), .val (.ref ad4), .val (.double d5), .second, .val (.double d6), .second, .val (.int p7)] [(.double d6), (.ref ad0)]))
  have E_ad0_at_34 : Exa Z h28 ad0 "wavegauge/simulate/Measurement" := (E_ad0_at_28.wr W28)
  have F_networkHalfWidth_ad0_at_34 : Fld Z h28 ad0 "wavegauge/simulate/Measurement" "networkHalfWidth" "D" (.double (0 : UInt64)) := (((((F_networkHalfWidth_ad0.other W6 (Or.inr (slot_ne (Or.inr (hw _ (List.mem_of_getElem? (i := 31) rfl))) (Or.inr (hw _ (List.mem_of_getElem? (i := 21) rfl))) (by decide) (t := .double) (t' := (.array .double)) (by decide) (by decide)))).other W11 (Or.inr (slot_ne (Or.inr (hw _ (List.mem_of_getElem? (i := 31) rfl))) (Or.inr (hw _ (List.mem_of_getElem? (i := 23) rfl))) (by decide) (t := .double) (t' := (.array .double)) (by decide) (by decide)))).other W16 (Or.inr (slot_ne (Or.inr (hw _ (List.mem_of_getElem? (i := 31) rfl))) (Or.inr (hw _ (List.mem_of_getElem? (i := 25) rfl))) (by decide) (t := .double) (t' := (.array .long)) (by decide) (by decide)))).other W22 (Or.inr (slot_ne (Or.inr (hw _ (List.mem_of_getElem? (i := 31) rfl))) (Or.inr (hw _ (List.mem_of_getElem? (i := 27) rfl))) (by decide) (t := .double) (t' := (.array .long)) (by decide) (by decide)))).other W28 (Or.inr (slot_ne (Or.inr (hw _ (List.mem_of_getElem? (i := 31) rfl))) (Or.inr (hw _ (List.mem_of_getElem? (i := 29) rfl))) (by decide) (t := .double) (t' := .double) (by decide) (by decide))))
  obtain ⟨T34, h34, X34, e34, W34, st34⟩ := putF X28 hx hZ hown (host := "") (Or.inl (hw _ (List.mem_of_getElem? (i := 30) rfl))) Via.refl e28 F_networkHalfWidth_ad0_at_34 E_ad0_at_34 (Or.inr ⟨(hw _ (List.mem_of_getElem? (i := 31) rfl)), rfl, hnm⟩) (hw _ (List.mem_of_getElem? (i := 6) rfl)) (ty := .double) (by decide) rfl rfl (g := (mkF m 34 #[.val (.ref ad0), .val (.ref ad1), .val (.ref ad2), .val (.ref ad3), .val (.ref ad4), .val (.double d5), .second, .val (.double d6), .second, .val (.int p7)] [(.double d6), (.ref ad0)])) rfl rfl (hb hby d2_34)
  refine own_to st34 ?_
  have Fw34 : Fld Z h34 ad0 "wavegauge/simulate/Measurement" "networkHalfWidth" "D" (.double d6) := Fld.same W34 F_networkHalfWidth_ad0_at_34
  have N34 := Fr.snoc X34 N28 g_ad0
  show own_Fin p e below G (T34.setTop (mkF m 37 #[.val (.ref ad0), .val (.ref ad1), .val (.ref ad2), .val (.ref ad3), .val (.ref ad4), .val (.double d5), .second, .val (.double d6), .second, .val (.int p7)] []))
  refine own_to (fun _ kz => XS.aloadN X34.here hx rfl (hb hby d2_37) rfl (rfl)  kz) ?_
  show own_Fin p e below G (T34.setTop (mkF m 38 #[.val (.ref ad0), .val (.ref ad1), .val (.ref ad2), .val (.ref ad3), .val (.ref ad4), .val (.double d5), .second, .val (.double d6), .second, .val (.int p7)] [(.ref ad0)]))
  refine own_to (fun _ kz => XS.iload X34.here hx rfl (hb hby d2_38) rfl  kz) ?_
  show own_Fin p e below G (T34.setTop (mkF m 40 #[.val (.ref ad0), .val (.ref ad1), .val (.ref ad2), .val (.ref ad3), .val (.ref ad4), .val (.double d5), .second, .val (.double d6), .second, .val (.int p7)] [(.int p7), (.ref ad0)]))
  have E_ad0_at_40 : Exa Z h34 ad0 "wavegauge/simulate/Measurement" := (E_ad0_at_34.wr W34)
  have F_stoppedByRule_ad0_at_40 : Fld Z h34 ad0 "wavegauge/simulate/Measurement" "stoppedByRule" "Z" (.int (0 : Int32)) := ((((((F_stoppedByRule_ad0.other W6 (Or.inr (slot_ne (Or.inr (hw _ (List.mem_of_getElem? (i := 33) rfl))) (Or.inr (hw _ (List.mem_of_getElem? (i := 21) rfl))) (by decide) (t := .boolean) (t' := (.array .double)) (by decide) (by decide)))).other W11 (Or.inr (slot_ne (Or.inr (hw _ (List.mem_of_getElem? (i := 33) rfl))) (Or.inr (hw _ (List.mem_of_getElem? (i := 23) rfl))) (by decide) (t := .boolean) (t' := (.array .double)) (by decide) (by decide)))).other W16 (Or.inr (slot_ne (Or.inr (hw _ (List.mem_of_getElem? (i := 33) rfl))) (Or.inr (hw _ (List.mem_of_getElem? (i := 25) rfl))) (by decide) (t := .boolean) (t' := (.array .long)) (by decide) (by decide)))).other W22 (Or.inr (slot_ne (Or.inr (hw _ (List.mem_of_getElem? (i := 33) rfl))) (Or.inr (hw _ (List.mem_of_getElem? (i := 27) rfl))) (by decide) (t := .boolean) (t' := (.array .long)) (by decide) (by decide)))).other W28 (Or.inr (slot_ne (Or.inr (hw _ (List.mem_of_getElem? (i := 33) rfl))) (Or.inr (hw _ (List.mem_of_getElem? (i := 29) rfl))) (by decide) (t := .boolean) (t' := .double) (by decide) (by decide)))).other W34 (Or.inr (slot_ne (Or.inr (hw _ (List.mem_of_getElem? (i := 33) rfl))) (Or.inr (hw _ (List.mem_of_getElem? (i := 31) rfl))) (by decide) (t := .boolean) (t' := .double) (by decide) (by decide))))
  obtain ⟨T40, h40, X40, e40, W40, st40⟩ := putFN X34 hx hZ hown (hw _ (List.mem_of_getElem? (i := 32) rfl)) Via.refl e34 F_stoppedByRule_ad0_at_40 E_ad0_at_40 (Or.inr ⟨(hw _ (List.mem_of_getElem? (i := 33) rfl)), rfl, hnm⟩) (hw _ (List.mem_of_getElem? (i := 6) rfl)) (ty := .boolean) (v' := (.int (nar .boolean p7))) (by decide) rfl (fits_nar_bool _) (g := (mkF m 40 #[.val (.ref ad0), .val (.ref ad1), .val (.ref ad2), .val (.ref ad3), .val (.ref ad4), .val (.double d5), .second, .val (.double d6), .second, .val (.int p7)] [(.int p7), (.ref ad0)])) rfl rfl (hb hby d2_40)
  refine own_to st40 ?_
  have Fw40 : Fld Z h40 ad0 "wavegauge/simulate/Measurement" "stoppedByRule" "Z" (.int (nar .boolean p7)) := Fld.same W40 F_stoppedByRule_ad0_at_40
  have N40 := Fr.snoc X40 N34 g_ad0
  show own_Fin p e below G (T40.setTop (mkF m 43 #[.val (.ref ad0), .val (.ref ad1), .val (.ref ad2), .val (.ref ad3), .val (.ref ad4), .val (.double d5), .second, .val (.double d6), .second, .val (.int p7)] []))
  have KP_43 : Keep h0 h40 [ad0] := ((((((((Keep.refl h0 [ad0]).wr W6 (Or.inl (List.mem_of_getElem? (i := 0) rfl))).wr W11 (Or.inl (List.mem_of_getElem? (i := 0) rfl))).wr W16 (Or.inl (List.mem_of_getElem? (i := 0) rfl))).wr W22 (Or.inl (List.mem_of_getElem? (i := 0) rfl))).wr W28 (Or.inl (List.mem_of_getElem? (i := 0) rfl))).wr W34 (Or.inl (List.mem_of_getElem? (i := 0) rfl))).wr W40 (Or.inl (List.mem_of_getElem? (i := 0) rfl)))
  have E_ad0_at_43 : Exa Z h40 ad0 "wavegauge/simulate/Measurement" := (E_ad0_at_40.wr W40)
  have Fw6_at_43 : Fld Z h40 ad0 "wavegauge/simulate/Measurement" "blocking" "[D" (.ref ad1) := ((((((Fw6.other W11 (Or.inr (slot_ne (Or.inr (hw _ (List.mem_of_getElem? (i := 21) rfl))) (Or.inr (hw _ (List.mem_of_getElem? (i := 23) rfl))) (by decide) (t := (.array .double)) (t' := (.array .double)) (by decide) (by decide)))).other W16 (Or.inr (slot_ne (Or.inr (hw _ (List.mem_of_getElem? (i := 21) rfl))) (Or.inr (hw _ (List.mem_of_getElem? (i := 25) rfl))) (by decide) (t := (.array .double)) (t' := (.array .long)) (by decide) (by decide)))).other W22 (Or.inr (slot_ne (Or.inr (hw _ (List.mem_of_getElem? (i := 21) rfl))) (Or.inr (hw _ (List.mem_of_getElem? (i := 27) rfl))) (by decide) (t := (.array .double)) (t' := (.array .long)) (by decide) (by decide)))).other W28 (Or.inr (slot_ne (Or.inr (hw _ (List.mem_of_getElem? (i := 21) rfl))) (Or.inr (hw _ (List.mem_of_getElem? (i := 29) rfl))) (by decide) (t := (.array .double)) (t' := .double) (by decide) (by decide)))).other W34 (Or.inr (slot_ne (Or.inr (hw _ (List.mem_of_getElem? (i := 21) rfl))) (Or.inr (hw _ (List.mem_of_getElem? (i := 31) rfl))) (by decide) (t := (.array .double)) (t' := .double) (by decide) (by decide)))).other W40 (Or.inr (slot_ne (Or.inr (hw _ (List.mem_of_getElem? (i := 21) rfl))) (Or.inr (hw _ (List.mem_of_getElem? (i := 33) rfl))) (by decide) (t := (.array .double)) (t' := .boolean) (by decide) (by decide))))
  have Fw11_at_43 : Fld Z h40 ad0 "wavegauge/simulate/Measurement" "halfWidth" "[D" (.ref ad2) := (((((Fw11.other W16 (Or.inr (slot_ne (Or.inr (hw _ (List.mem_of_getElem? (i := 23) rfl))) (Or.inr (hw _ (List.mem_of_getElem? (i := 25) rfl))) (by decide) (t := (.array .double)) (t' := (.array .long)) (by decide) (by decide)))).other W22 (Or.inr (slot_ne (Or.inr (hw _ (List.mem_of_getElem? (i := 23) rfl))) (Or.inr (hw _ (List.mem_of_getElem? (i := 27) rfl))) (by decide) (t := (.array .double)) (t' := (.array .long)) (by decide) (by decide)))).other W28 (Or.inr (slot_ne (Or.inr (hw _ (List.mem_of_getElem? (i := 23) rfl))) (Or.inr (hw _ (List.mem_of_getElem? (i := 29) rfl))) (by decide) (t := (.array .double)) (t' := .double) (by decide) (by decide)))).other W34 (Or.inr (slot_ne (Or.inr (hw _ (List.mem_of_getElem? (i := 23) rfl))) (Or.inr (hw _ (List.mem_of_getElem? (i := 31) rfl))) (by decide) (t := (.array .double)) (t' := .double) (by decide) (by decide)))).other W40 (Or.inr (slot_ne (Or.inr (hw _ (List.mem_of_getElem? (i := 23) rfl))) (Or.inr (hw _ (List.mem_of_getElem? (i := 33) rfl))) (by decide) (t := (.array .double)) (t' := .boolean) (by decide) (by decide))))
  have Fw16_at_43 : Fld Z h40 ad0 "wavegauge/simulate/Measurement" "attempts" "[J" (.ref ad3) := ((((Fw16.other W22 (Or.inr (slot_ne (Or.inr (hw _ (List.mem_of_getElem? (i := 25) rfl))) (Or.inr (hw _ (List.mem_of_getElem? (i := 27) rfl))) (by decide) (t := (.array .long)) (t' := (.array .long)) (by decide) (by decide)))).other W28 (Or.inr (slot_ne (Or.inr (hw _ (List.mem_of_getElem? (i := 25) rfl))) (Or.inr (hw _ (List.mem_of_getElem? (i := 29) rfl))) (by decide) (t := (.array .long)) (t' := .double) (by decide) (by decide)))).other W34 (Or.inr (slot_ne (Or.inr (hw _ (List.mem_of_getElem? (i := 25) rfl))) (Or.inr (hw _ (List.mem_of_getElem? (i := 31) rfl))) (by decide) (t := (.array .long)) (t' := .double) (by decide) (by decide)))).other W40 (Or.inr (slot_ne (Or.inr (hw _ (List.mem_of_getElem? (i := 25) rfl))) (Or.inr (hw _ (List.mem_of_getElem? (i := 33) rfl))) (by decide) (t := (.array .long)) (t' := .boolean) (by decide) (by decide))))
  have Fw22_at_43 : Fld Z h40 ad0 "wavegauge/simulate/Measurement" "blocked" "[J" (.ref ad4) := (((Fw22.other W28 (Or.inr (slot_ne (Or.inr (hw _ (List.mem_of_getElem? (i := 27) rfl))) (Or.inr (hw _ (List.mem_of_getElem? (i := 29) rfl))) (by decide) (t := (.array .long)) (t' := .double) (by decide) (by decide)))).other W34 (Or.inr (slot_ne (Or.inr (hw _ (List.mem_of_getElem? (i := 27) rfl))) (Or.inr (hw _ (List.mem_of_getElem? (i := 31) rfl))) (by decide) (t := (.array .long)) (t' := .double) (by decide) (by decide)))).other W40 (Or.inr (slot_ne (Or.inr (hw _ (List.mem_of_getElem? (i := 27) rfl))) (Or.inr (hw _ (List.mem_of_getElem? (i := 33) rfl))) (by decide) (t := (.array .long)) (t' := .boolean) (by decide) (by decide))))
  have Fw28_at_43 : Fld Z h40 ad0 "wavegauge/simulate/Measurement" "networkBlocking" "D" (.double d5) := ((Fw28.other W34 (Or.inr (slot_ne (Or.inr (hw _ (List.mem_of_getElem? (i := 29) rfl))) (Or.inr (hw _ (List.mem_of_getElem? (i := 31) rfl))) (by decide) (t := .double) (t' := .double) (by decide) (by decide)))).other W40 (Or.inr (slot_ne (Or.inr (hw _ (List.mem_of_getElem? (i := 29) rfl))) (Or.inr (hw _ (List.mem_of_getElem? (i := 33) rfl))) (by decide) (t := .double) (t' := .boolean) (by decide) (by decide))))
  have Fw34_at_43 : Fld Z h40 ad0 "wavegauge/simulate/Measurement" "networkHalfWidth" "D" (.double d6) := (Fw34.other W40 (Or.inr (slot_ne (Or.inr (hw _ (List.mem_of_getElem? (i := 31) rfl))) (Or.inr (hw _ (List.mem_of_getElem? (i := 33) rfl))) (by decide) (t := .double) (t' := .boolean) (by decide) (by decide))))
  exact own_retV X40 hx hlk hG Bd.returns (hb hby d2_43) (by decide) (by decide) (by rw [e40]; exact ⟨rfl, N40, KP_43, E_ad0_at_43, Fw6_at_43, Fw11_at_43, Fw16_at_43, Fw22_at_43, Fw28_at_43, Fw34_at_43, Fw40⟩)
theorem d5_0 : decode prog_34_method_2_code 0 = .ok (.lconst 0, 1) := by decide +kernel
theorem d5_1 : decode prog_34_method_2_code 1 = .ok (.lstore_n 1, 1) := by decide +kernel
theorem d5_2 : decode prog_34_method_2_code 2 = .ok (.aload_n 0, 1) := by decide +kernel
theorem d5_3 : decode prog_34_method_2_code 3 = .ok (.getfield 16, 3) := by decide +kernel
theorem d5_6 : decode prog_34_method_2_code 6 = .ok (.astore_n 3, 1) := by decide +kernel
theorem d5_7 : decode prog_34_method_2_code 7 = .ok (.aload_n 3, 1) := by decide +kernel
theorem d5_8 : decode prog_34_method_2_code 8 = .ok (.arraylength, 1) := by decide +kernel
theorem d5_9 : decode prog_34_method_2_code 9 = .ok (.istore 4, 2) := by decide +kernel
theorem d5_11 : decode prog_34_method_2_code 11 = .ok (.iconst 0, 1) := by decide +kernel
theorem d5_12 : decode prog_34_method_2_code 12 = .ok (.istore 5, 2) := by decide +kernel
theorem d5_14 : decode prog_34_method_2_code 14 = .ok (.iload 5, 2) := by decide +kernel
theorem d5_16 : decode prog_34_method_2_code 16 = .ok (.iload 4, 2) := by decide +kernel
theorem d5_18 : decode prog_34_method_2_code 18 = .ok (.if_icmp .ge 20, 3) := by decide +kernel
theorem d5_21 : decode prog_34_method_2_code 21 = .ok (.aload_n 3, 1) := by decide +kernel
theorem d5_22 : decode prog_34_method_2_code 22 = .ok (.iload 5, 2) := by decide +kernel
theorem d5_24 : decode prog_34_method_2_code 24 = .ok (.laload, 1) := by decide +kernel
theorem d5_25 : decode prog_34_method_2_code 25 = .ok (.lstore 6, 2) := by decide +kernel
theorem d5_27 : decode prog_34_method_2_code 27 = .ok (.lload_n 1, 1) := by decide +kernel
theorem d5_28 : decode prog_34_method_2_code 28 = .ok (.lload 6, 2) := by decide +kernel
theorem d5_30 : decode prog_34_method_2_code 30 = .ok (.ladd, 1) := by decide +kernel
theorem d5_31 : decode prog_34_method_2_code 31 = .ok (.lstore_n 1, 1) := by decide +kernel
theorem d5_32 : decode prog_34_method_2_code 32 = .ok (.iinc 5 1, 3) := by decide +kernel
theorem d5_35 : decode prog_34_method_2_code 35 = .ok (.goto (-21), 3) := by decide +kernel
theorem d5_38 : decode prog_34_method_2_code 38 = .ok (.lload_n 1, 1) := by decide +kernel
theorem d5_39 : decode prog_34_method_2_code 39 = .ok (.lreturn, 1) := by decide +kernel
theorem ef5 (m : MethodId) (ad0 : Addr) : entryFrame m #[(.ref ad0)] 8 = mkF m 0 #[.val (.ref ad0), .unset, .unset, .unset, .unset, .unset, .unset, .unset] [] := by first | (simp [entryFrame, mkF, argsToLocals, Value.category]; done) | rfl
def Q5 (Z : State) (ad0 : Addr) (n : Nat) (xs : Nat → Int64) (at_ : Addr) (h0 : Heap) (n0 : Nat) (v : Option Value) (h : Heap) (L : List Loc) : Prop := v = some (.long (own_sum xs n)) ∧ Fr n0 L ∧ h = h0
theorem own_os5_25 {z0 : Addr} {z1 : Int64} {z3 : Addr} {z4 : Int32} {z5 : Int32} {s6 : Slot} {s7 : Slot} {v : Int64} (h : own_Pair s6 s7) : storeLocals #[.val (.ref z0), .val (.long z1), .second, .val (.ref z3), .val (.int z4), .val (.int z5), s6, s7] 6 (.long v) = some #[.val (.ref z0), .val (.long z1), .second, .val (.ref z3), .val (.int z4), .val (.int z5), .val (.long v), .second] := by
  rcases h with ⟨rfl, rfl⟩ | ⟨x, rfl, rfl⟩ <;> rfl
set_option maxRecDepth 65536 in
set_option maxHeartbeats 40000000 in
theorem rm5 (l : Launch) (Z : State) (a0 : Array Value) (hw : ∀ d ∈ tables_1, d.before a0 Z = true) (ws : List Jvm.Cond) (ad0 : Addr) (n : Nat) (xs : Nat → Int64) (at_ : Addr) (h0 : Heap) (n0 : Nat) (Z0 : n0 ≤ h0.size) (F_attempts_ad0 : Fld Z h0 ad0 "wavegauge/simulate/Measurement" "attempts" "[J" (.ref at_)) (V_at_ : own_AV Value.long Z h0 at_ .long n xs) :
    MetFree l (⟨"wavegauge/simulate/Measurement", "totalAttempts", "()J"⟩ : MethodName) (head1 (Jvm.Cond.code (⟨"wavegauge/simulate/Measurement", "totalAttempts", "()J"⟩ : MethodName) prog_34_method_2_code 8 (some .long) :: ws) ({ frames := 0, cells := 0, slots := 0, locals := 0 } : Room)) (fun a U => a = #[(.ref ad0)] ∧ Z.Warmed39 U.vm ∧ U.heap = h0) (fun _ _ _ _ _ => True) (fun _ U o U' => ∃ v L, o = .returned v ∧ Q5 Z ad0 n xs at_ h0 n0 v U'.heap L ∧ FrameEnd U o U' L ({ frames := 0, cells := 0, slots := 0, locals := 0 } : Room).cells ({ frames := 0, cells := 0, slots := 0, locals := 0 } : Room).slots) := by
  refine MetFree.of_bodySF (plainFor_of_name own_pn1) hisR ?_
  intro p e s m args below meth c s₁ Bd hml0 hP hK
  obtain ⟨rfl, hZ, hh⟩ := hP
  have hx := Bd.exec
  have hby := Bd.bytes
  have hml : c.maxLocals = 8 := hml0
  have hown : s.vm.findClass "wavegauge/simulate/Measurement" = some m.cls := findClass_of_methodNamed Bd.named
  have hnm := (name_of_methodNamed Bd.named Bd.method).1
  have hlk : meth.locks = false := BodyLoose.notSynchronized Bd
  have X0 : Stand p l e ({ frames := 0, cells := 0, slots := 0, locals := 0 } : Room) s m #[(.ref ad0)] below meth c s₁ [] 0 0 := Stand.of_body Bd
  have e0 : s₁.heap = h0 := by rw [← hh, Bd.state]; rfl
  have N0 := Fr.nil n0
  obtain ⟨G, hG⟩ : ∃ G, G = own_G s (Q5 Z ad0 n xs at_ h0 n0) ({ frames := 0, cells := 0, slots := 0, locals := 0 } : Room).cells ({ frames := 0, cells := 0, slots := 0, locals := 0 } : Room).slots := ⟨_, rfl⟩
  show own_Fin p e below (own_G s (Q5 Z ad0 n xs at_ h0 n0) ({ frames := 0, cells := 0, slots := 0, locals := 0 } : Room).cells ({ frames := 0, cells := 0, slots := 0, locals := 0 } : Room).slots) (s₁.setTop (entryFrame m #[(.ref ad0)] 8))
  rw [← hG]
  refine own_to (fun _ kz => castTop (ef5 m ad0) kz) ?_
  show own_Fin p e below G (s₁.setTop (mkF m 0 #[.val (.ref ad0), .unset, .unset, .unset, .unset, .unset, .unset, .unset] []))
  refine own_to (fun _ kz => XS.lconst X0.here hx rfl (hb hby d5_0) kz) ?_
  show own_Fin p e below G (s₁.setTop (mkF m 1 #[.val (.ref ad0), .unset, .unset, .unset, .unset, .unset, .unset, .unset] [(.long (0 : Int64))]))
  refine own_to (fun _ kz => XS.lstoreN X0.here hx rfl (hb hby d5_1) rfl (l' := #[.val (.ref ad0), .val (.long (0 : Int64)), .second, .unset, .unset, .unset, .unset, .unset]) rfl kz) ?_
  show own_Fin p e below G (s₁.setTop (mkF m 2 #[.val (.ref ad0), .val (.long (0 : Int64)), .second, .unset, .unset, .unset, .unset, .unset] []))
  refine own_to (fun _ kz => XS.aloadN X0.here hx rfl (hb hby d5_2) rfl (rfl)  kz) ?_
  show own_Fin p e below G (s₁.setTop (mkF m 3 #[.val (.ref ad0), .val (.long (0 : Int64)), .second, .unset, .unset, .unset, .unset, .unset] [(.ref ad0)]))
  obtain ⟨T3, X3, e3, st3⟩ := getF X0 hx hZ hown (host := "") (Or.inl (hw _ (List.mem_of_getElem? (i := 24) rfl))) Via.refl e0 F_attempts_ad0 (g := (mkF m 3 #[.val (.ref ad0), .val (.long (0 : Int64)), .second, .unset, .unset, .unset, .unset, .unset] [(.ref ad0)])) rfl rfl (hb hby d5_3)
  refine own_to st3 ?_
  show own_Fin p e below G (T3.setTop (mkF m 6 #[.val (.ref ad0), .val (.long (0 : Int64)), .second, .unset, .unset, .unset, .unset, .unset] [(.ref at_)]))
  refine own_to (fun _ kz => XS.astoreN X3.here hx rfl (hb hby d5_6) rfl (rfl) (l' := #[.val (.ref ad0), .val (.long (0 : Int64)), .second, .val (.ref at_), .unset, .unset, .unset, .unset]) rfl kz) ?_
  show own_Fin p e below G (T3.setTop (mkF m 7 #[.val (.ref ad0), .val (.long (0 : Int64)), .second, .val (.ref at_), .unset, .unset, .unset, .unset] []))
  refine own_to (fun _ kz => XS.aloadN X3.here hx rfl (hb hby d5_7) rfl (rfl)  kz) ?_
  show own_Fin p e below G (T3.setTop (mkF m 8 #[.val (.ref ad0), .val (.long (0 : Int64)), .second, .val (.ref at_), .unset, .unset, .unset, .unset] [(.ref at_)]))
  refine own_to (fun _ kz => own_alen X3 hx hZ e3 V_at_ (z := (Int32.ofNat n)) rfl (g := (mkF m 8 #[.val (.ref ad0), .val (.long (0 : Int64)), .second, .val (.ref at_), .unset, .unset, .unset, .unset] [(.ref at_)])) rfl rfl (hb hby d5_8) kz) ?_
  show own_Fin p e below G (T3.setTop (mkF m 9 #[.val (.ref ad0), .val (.long (0 : Int64)), .second, .val (.ref at_), .unset, .unset, .unset, .unset] [(.int (Int32.ofNat n))]))
  refine own_to (fun _ kz => XS.istore X3.here hx rfl (hb hby d5_9) rfl (l' := #[.val (.ref ad0), .val (.long (0 : Int64)), .second, .val (.ref at_), .val (.int (Int32.ofNat n)), .unset, .unset, .unset]) rfl kz) ?_
  show own_Fin p e below G (T3.setTop (mkF m 11 #[.val (.ref ad0), .val (.long (0 : Int64)), .second, .val (.ref at_), .val (.int (Int32.ofNat n)), .unset, .unset, .unset] []))
  refine own_to (fun _ kz => XS.iconst X3.here hx rfl (hb hby d5_11) kz) ?_
  show own_Fin p e below G (T3.setTop (mkF m 12 #[.val (.ref ad0), .val (.long (0 : Int64)), .second, .val (.ref at_), .val (.int (Int32.ofNat n)), .unset, .unset, .unset] [(.int (0 : Int32))]))
  refine own_to (fun _ kz => XS.istore X3.here hx rfl (hb hby d5_12) rfl (l' := #[.val (.ref ad0), .val (.long (0 : Int64)), .second, .val (.ref at_), .val (.int (Int32.ofNat n)), .val (.int (0 : Int32)), .unset, .unset]) rfl kz) ?_
  show own_Fin p e below G (T3.setTop (mkF m 14 #[.val (.ref ad0), .val (.long (0 : Int64)), .second, .val (.ref at_), .val (.int (Int32.ofNat n)), .val (.int (0 : Int32)), .unset, .unset] []))
  have K14 : ∀ (k_14 : Nat) (i : Int32) (S : Int64) (s6 : Slot) (s7 : Slot) (T_j14 : State) (locs_j14 : List Loc) (N_j14 : Fr n0 locs_j14) (X_j14 : Stand p l e ({ frames := 0, cells := 0, slots := 0, locals := 0 } : Room) s m #[(.ref ad0)] below meth c T_j14 locs_j14 0 0) (e_j14 : T_j14.heap = h0) (hm_14 : n - i.toNatClampNeg = k_14) (hi : 0 ≤ i.toInt ∧ i.toInt ≤ n) (hS : S = own_sum xs i.toNatClampNeg) (hp : own_Pair s6 s7), own_Fin p e below G (T_j14.setTop (mkF m 14 #[.val (.ref ad0), .val (.long S), .second, .val (.ref at_), .val (.int (Int32.ofNat n)), .val (.int i), s6, s7] [])) := by
    intro k_14
    induction k_14 using Nat.strongRecOn with
    | _ k_14 ih_14 =>
      intro i S s6 s7 T_j14 locs_j14 N_j14 X_j14 e_j14 hm_14 hi hS hp
      refine own_to (fun _ kz => XS.iload X_j14.here hx rfl (hb hby d5_14) rfl  kz) ?_
      show own_Fin p e below G (T_j14.setTop (mkF m 16 #[.val (.ref ad0), .val (.long S), .second, .val (.ref at_), .val (.int (Int32.ofNat n)), .val (.int i), s6, s7] [(.int i)]))
      refine own_to (fun _ kz => XS.iload X_j14.here hx rfl (hb hby d5_16) rfl  kz) ?_
      show own_Fin p e below G (T_j14.setTop (mkF m 18 #[.val (.ref ad0), .val (.long S), .second, .val (.ref at_), .val (.int (Int32.ofNat n)), .val (.int i), s6, s7] [(.int (Int32.ofNat n)), (.int i)]))
      by_cases hc18 : i < (Int32.ofNat n)
      · refine own_to (fun _ kz => XS.icmpNo X_j14.here hx rfl (hb hby d5_18) rfl (tlt hc18).2.1 kz) ?_
        show own_Fin p e below G (T_j14.setTop (mkF m 21 #[.val (.ref ad0), .val (.long S), .second, .val (.ref at_), .val (.int (Int32.ofNat n)), .val (.int i), s6, s7] []))
        refine own_to (fun _ kz => XS.aloadN X_j14.here hx rfl (hb hby d5_21) rfl (rfl)  kz) ?_
        show own_Fin p e below G (T_j14.setTop (mkF m 22 #[.val (.ref ad0), .val (.long S), .second, .val (.ref at_), .val (.int (Int32.ofNat n)), .val (.int i), s6, s7] [(.ref at_)]))
        refine own_to (fun _ kz => XS.iload X_j14.here hx rfl (hb hby d5_22) rfl  kz) ?_
        show own_Fin p e below G (T_j14.setTop (mkF m 24 #[.val (.ref ad0), .val (.long S), .second, .val (.ref at_), .val (.int (Int32.ofNat n)), .val (.int i), s6, s7] [(.int i), (.ref at_)]))
        refine own_to (fun _ kz => own_laload X_j14 hx hZ e_j14 V_at_ (j := i) (own_up V_at_.1 hi hc18).2.1.1 rfl (own_up V_at_.1 hi hc18).2.1.2 (g := (mkF m 24 #[.val (.ref ad0), .val (.long S), .second, .val (.ref at_), .val (.int (Int32.ofNat n)), .val (.int i), s6, s7] [(.int i), (.ref at_)])) rfl rfl (hb hby d5_24) kz) ?_
        show own_Fin p e below G (T_j14.setTop (mkF m 25 #[.val (.ref ad0), .val (.long S), .second, .val (.ref at_), .val (.int (Int32.ofNat n)), .val (.int i), s6, s7] [(.long (xs i.toNatClampNeg))]))
        refine own_to (fun _ kz => XS.lstore X_j14.here hx rfl (hb hby d5_25) rfl (l' := #[.val (.ref ad0), .val (.long S), .second, .val (.ref at_), .val (.int (Int32.ofNat n)), .val (.int i), .val (.long (xs i.toNatClampNeg)), .second]) (own_os5_25 hp) kz) ?_
        show own_Fin p e below G (T_j14.setTop (mkF m 27 #[.val (.ref ad0), .val (.long S), .second, .val (.ref at_), .val (.int (Int32.ofNat n)), .val (.int i), .val (.long (xs i.toNatClampNeg)), .second] []))
        refine own_to (fun _ kz => XS.lloadN X_j14.here hx rfl (hb hby d5_27) rfl  kz) ?_
        show own_Fin p e below G (T_j14.setTop (mkF m 28 #[.val (.ref ad0), .val (.long S), .second, .val (.ref at_), .val (.int (Int32.ofNat n)), .val (.int i), .val (.long (xs i.toNatClampNeg)), .second] [(.long S)]))
        refine own_to (fun _ kz => XS.lload X_j14.here hx rfl (hb hby d5_28) rfl  kz) ?_
        show own_Fin p e below G (T_j14.setTop (mkF m 30 #[.val (.ref ad0), .val (.long S), .second, .val (.ref at_), .val (.int (Int32.ofNat n)), .val (.int i), .val (.long (xs i.toNatClampNeg)), .second] [(.long (xs i.toNatClampNeg)), (.long S)]))
        refine own_to (fun _ kz => XS.ladd X_j14.here hx rfl (hb hby d5_30) rfl kz) ?_
        show own_Fin p e below G (T_j14.setTop (mkF m 31 #[.val (.ref ad0), .val (.long S), .second, .val (.ref at_), .val (.int (Int32.ofNat n)), .val (.int i), .val (.long (xs i.toNatClampNeg)), .second] [(.long (S + (xs i.toNatClampNeg)))]))
        refine own_to (fun _ kz => XS.lstoreN X_j14.here hx rfl (hb hby d5_31) rfl (l' := #[.val (.ref ad0), .val (.long (S + (xs i.toNatClampNeg))), .second, .val (.ref at_), .val (.int (Int32.ofNat n)), .val (.int i), .val (.long (xs i.toNatClampNeg)), .second]) rfl kz) ?_
        show own_Fin p e below G (T_j14.setTop (mkF m 32 #[.val (.ref ad0), .val (.long (S + (xs i.toNatClampNeg))), .second, .val (.ref at_), .val (.int (Int32.ofNat n)), .val (.int i), .val (.long (xs i.toNatClampNeg)), .second] []))
        refine own_to (fun _ kz => XS.iinc X_j14.here hx rfl (hb hby d5_32) rfl (l' := #[.val (.ref ad0), .val (.long (S + (xs i.toNatClampNeg))), .second, .val (.ref at_), .val (.int (Int32.ofNat n)), .val (.int (i + (1 : Int32))), .val (.long (xs i.toNatClampNeg)), .second]) rfl kz) ?_
        show own_Fin p e below G (T_j14.setTop (mkF m 35 #[.val (.ref ad0), .val (.long (S + (xs i.toNatClampNeg))), .second, .val (.ref at_), .val (.int (Int32.ofNat n)), .val (.int (i + (1 : Int32))), .val (.long (xs i.toNatClampNeg)), .second] []))
        refine own_to (fun _ kz => XS.goto X_j14.here hx rfl (pc0 := 35) (pc' := 14) rfl (hb hby d5_35) (by decide) (by decide) kz) ?_
        show own_Fin p e below G (T_j14.setTop (mkF m 14 #[.val (.ref ad0), .val (.long (S + (xs i.toNatClampNeg))), .second, .val (.ref at_), .val (.int (Int32.ofNat n)), .val (.int (i + (1 : Int32))), .val (.long (xs i.toNatClampNeg)), .second] []))
        exact ih_14 _ (own_dec V_at_.1 hi hc18 hm_14) (i + (1 : Int32)) (S + (xs i.toNatClampNeg)) (.val (.long (xs i.toNatClampNeg))) .second _ _ N_j14 X_j14 e_j14 rfl (own_up V_at_.1 hi hc18).1 (by rw [(own_up V_at_.1 hi hc18).2.2, hS]; rfl) (Or.inr ⟨_, rfl, rfl⟩)
      · refine own_to (fun _ kz => XS.icmpYes X_j14.here hx rfl (pc0 := 18) (pc' := 38) rfl (hb hby d5_18) rfl (flt hc18).2.1 (by decide) (by decide) kz) ?_
        show own_Fin p e below G (T_j14.setTop (mkF m 38 #[.val (.ref ad0), .val (.long S), .second, .val (.ref at_), .val (.int (Int32.ofNat n)), .val (.int i), s6, s7] []))
        refine own_to (fun _ kz => XS.lloadN X_j14.here hx rfl (hb hby d5_38) rfl  kz) ?_
        show own_Fin p e below G (T_j14.setTop (mkF m 39 #[.val (.ref ad0), .val (.long S), .second, .val (.ref at_), .val (.int (Int32.ofNat n)), .val (.int i), s6, s7] [(.long S)]))
        exact own_retJ X_j14 hx hlk hG Bd.returns (hb hby d5_39) (by decide) (by decide) ⟨(by rw [hS, own_last V_at_.1 hi hc18]), N_j14, e_j14⟩
  exact K14 _ (0 : Int32) (0 : Int64) .unset .unset _ _ N0 X3 e3 rfl ⟨by decide, Int.natCast_nonneg n⟩ rfl (Or.inl ⟨rfl, rfl⟩)
def own_want (k : Int32) (a b c e : Int64) : Int64 := if k = 0 then 0 else if k = 1 then a else if k = 2 then a + b else if k = 3 then a + b + c else a + b + c + e
theorem own_pn2 : plainName "wavegauge/simulate/MeasurementTotalAttemptsPinLaw" = true := by first | (simp [plainName, overriddenIn]; done) | decide +kernel
theorem d1_0 : decode method_2_code 0 = .ok (.iload_n 0, 1) := by decide +kernel
theorem d1_1 : decode method_2_code 1 = .ok (.ifCond .ne 7, 3) := by decide +kernel
theorem d1_4 : decode method_2_code 4 = .ok (.iconst 0, 1) := by decide +kernel
theorem d1_5 : decode method_2_code 5 = .ok (.newarray .long, 2) := by decide +kernel
theorem d1_7 : decode method_2_code 7 = .ok (.areturn, 1) := by decide +kernel
theorem d1_8 : decode method_2_code 8 = .ok (.iload_n 0, 1) := by decide +kernel
theorem d1_9 : decode method_2_code 9 = .ok (.iconst 1, 1) := by decide +kernel
theorem d1_10 : decode method_2_code 10 = .ok (.if_icmp .ne 11, 3) := by decide +kernel
theorem d1_13 : decode method_2_code 13 = .ok (.iconst 1, 1) := by decide +kernel
theorem d1_14 : decode method_2_code 14 = .ok (.newarray .long, 2) := by decide +kernel
theorem d1_16 : decode method_2_code 16 = .ok (.dup, 1) := by decide +kernel
theorem d1_17 : decode method_2_code 17 = .ok (.iconst 0, 1) := by decide +kernel
theorem d1_18 : decode method_2_code 18 = .ok (.lload_n 1, 1) := by decide +kernel
theorem d1_19 : decode method_2_code 19 = .ok (.lastore, 1) := by decide +kernel
theorem d1_20 : decode method_2_code 20 = .ok (.areturn, 1) := by decide +kernel
theorem d1_21 : decode method_2_code 21 = .ok (.iload_n 0, 1) := by decide +kernel
theorem d1_22 : decode method_2_code 22 = .ok (.iconst 2, 1) := by decide +kernel
theorem d1_23 : decode method_2_code 23 = .ok (.if_icmp .ne 15, 3) := by decide +kernel
theorem d1_26 : decode method_2_code 26 = .ok (.iconst 2, 1) := by decide +kernel
theorem d1_27 : decode method_2_code 27 = .ok (.newarray .long, 2) := by decide +kernel
theorem d1_29 : decode method_2_code 29 = .ok (.dup, 1) := by decide +kernel
theorem d1_30 : decode method_2_code 30 = .ok (.iconst 0, 1) := by decide +kernel
theorem d1_31 : decode method_2_code 31 = .ok (.lload_n 1, 1) := by decide +kernel
theorem d1_32 : decode method_2_code 32 = .ok (.lastore, 1) := by decide +kernel
theorem d1_33 : decode method_2_code 33 = .ok (.dup, 1) := by decide +kernel
theorem d1_34 : decode method_2_code 34 = .ok (.iconst 1, 1) := by decide +kernel
theorem d1_35 : decode method_2_code 35 = .ok (.lload_n 3, 1) := by decide +kernel
theorem d1_36 : decode method_2_code 36 = .ok (.lastore, 1) := by decide +kernel
theorem d1_37 : decode method_2_code 37 = .ok (.areturn, 1) := by decide +kernel
theorem d1_38 : decode method_2_code 38 = .ok (.iload_n 0, 1) := by decide +kernel
theorem d1_39 : decode method_2_code 39 = .ok (.iconst 3, 1) := by decide +kernel
theorem d1_40 : decode method_2_code 40 = .ok (.if_icmp .ne 20, 3) := by decide +kernel
theorem d1_43 : decode method_2_code 43 = .ok (.iconst 3, 1) := by decide +kernel
theorem d1_44 : decode method_2_code 44 = .ok (.newarray .long, 2) := by decide +kernel
theorem d1_46 : decode method_2_code 46 = .ok (.dup, 1) := by decide +kernel
theorem d1_47 : decode method_2_code 47 = .ok (.iconst 0, 1) := by decide +kernel
theorem d1_48 : decode method_2_code 48 = .ok (.lload_n 1, 1) := by decide +kernel
theorem d1_49 : decode method_2_code 49 = .ok (.lastore, 1) := by decide +kernel
theorem d1_50 : decode method_2_code 50 = .ok (.dup, 1) := by decide +kernel
theorem d1_51 : decode method_2_code 51 = .ok (.iconst 1, 1) := by decide +kernel
theorem d1_52 : decode method_2_code 52 = .ok (.lload_n 3, 1) := by decide +kernel
theorem d1_53 : decode method_2_code 53 = .ok (.lastore, 1) := by decide +kernel
theorem d1_54 : decode method_2_code 54 = .ok (.dup, 1) := by decide +kernel
theorem d1_55 : decode method_2_code 55 = .ok (.iconst 2, 1) := by decide +kernel
theorem d1_56 : decode method_2_code 56 = .ok (.lload 5, 2) := by decide +kernel
theorem d1_58 : decode method_2_code 58 = .ok (.lastore, 1) := by decide +kernel
theorem d1_59 : decode method_2_code 59 = .ok (.areturn, 1) := by decide +kernel
theorem d1_60 : decode method_2_code 60 = .ok (.iconst 4, 1) := by decide +kernel
theorem d1_61 : decode method_2_code 61 = .ok (.newarray .long, 2) := by decide +kernel
theorem d1_63 : decode method_2_code 63 = .ok (.dup, 1) := by decide +kernel
theorem d1_64 : decode method_2_code 64 = .ok (.iconst 0, 1) := by decide +kernel
theorem d1_65 : decode method_2_code 65 = .ok (.lload_n 1, 1) := by decide +kernel
theorem d1_66 : decode method_2_code 66 = .ok (.lastore, 1) := by decide +kernel
theorem d1_67 : decode method_2_code 67 = .ok (.dup, 1) := by decide +kernel
theorem d1_68 : decode method_2_code 68 = .ok (.iconst 1, 1) := by decide +kernel
theorem d1_69 : decode method_2_code 69 = .ok (.lload_n 3, 1) := by decide +kernel
theorem d1_70 : decode method_2_code 70 = .ok (.lastore, 1) := by decide +kernel
theorem d1_71 : decode method_2_code 71 = .ok (.dup, 1) := by decide +kernel
theorem d1_72 : decode method_2_code 72 = .ok (.iconst 2, 1) := by decide +kernel
theorem d1_73 : decode method_2_code 73 = .ok (.lload 5, 2) := by decide +kernel
theorem d1_75 : decode method_2_code 75 = .ok (.lastore, 1) := by decide +kernel
theorem d1_76 : decode method_2_code 76 = .ok (.dup, 1) := by decide +kernel
theorem d1_77 : decode method_2_code 77 = .ok (.iconst 3, 1) := by decide +kernel
theorem d1_78 : decode method_2_code 78 = .ok (.lload 7, 2) := by decide +kernel
theorem d1_80 : decode method_2_code 80 = .ok (.lastore, 1) := by decide +kernel
theorem d1_81 : decode method_2_code 81 = .ok (.areturn, 1) := by decide +kernel
theorem ef1 (m : MethodId) (p0 : Int32) (x1 : Int64) (x2 : Int64) (x3 : Int64) (x4 : Int64) : entryFrame m #[(.int p0), (.long x1), (.long x2), (.long x3), (.long x4)] 9 = mkF m 0 #[.val (.int p0), .val (.long x1), .second, .val (.long x2), .second, .val (.long x3), .second, .val (.long x4), .second] [] := by first | (simp [entryFrame, mkF, argsToLocals, Value.category]; done) | rfl
def Q1 (Z : State) (p0 : Int32) (x1 : Int64) (x2 : Int64) (x3 : Int64) (x4 : Int64) (h0 : Heap) (n0 : Nat) (v : Option Value) (h : Heap) (L : List Loc) : Prop := ∃ (b : Addr) (nb : Nat) (fb : Nat → Int64), v = some (.ref b) ∧ Fr n0 L ∧ h0.size ≤ b ∧ Keep h0 h [] ∧ own_AV Value.long Z h b .long nb fb ∧ own_sum fb nb = own_want p0 x1 x2 x3 x4
set_option maxRecDepth 65536 in
set_option maxHeartbeats 40000000 in
theorem rm1 (l : Launch) (Z : State) (a0 : Array Value) (hw : ∀ d ∈ tables_1, d.before a0 Z = true) (ws : List Jvm.Cond) (p0 : Int32) (x1 : Int64) (x2 : Int64) (x3 : Int64) (x4 : Int64) (h0 : Heap) (n0 : Nat) (Z0 : n0 ≤ h0.size) :
    MetFree l (⟨"wavegauge/simulate/MeasurementTotalAttemptsPinLaw", "build", "(IJJJJ)[J"⟩ : MethodName) (head1 (Jvm.Cond.code (⟨"wavegauge/simulate/MeasurementTotalAttemptsPinLaw", "build", "(IJJJJ)[J"⟩ : MethodName) method_2_code 9 (some (.array .long)) :: ws) ({ frames := 0, cells := 1, slots := 4, locals := 0 } : Room)) (fun a U => a = #[(.int p0), (.long x1), (.long x2), (.long x3), (.long x4)] ∧ Z.Warmed39 U.vm ∧ U.heap = h0) (fun _ _ _ _ _ => True) (fun _ U o U' => ∃ v L, o = .returned v ∧ Q1 Z p0 x1 x2 x3 x4 h0 n0 v U'.heap L ∧ FrameEnd U o U' L ({ frames := 0, cells := 1, slots := 4, locals := 0 } : Room).cells ({ frames := 0, cells := 1, slots := 4, locals := 0 } : Room).slots) := by
  refine MetFree.of_bodySF (plainFor_of_name own_pn2) hisR ?_
  intro p e s m args below meth c s₁ Bd hml0 hP hK
  obtain ⟨rfl, hZ, hh⟩ := hP
  have hx := Bd.exec
  have hby := Bd.bytes
  have hml : c.maxLocals = 9 := hml0
  have hown : s.vm.findClass "wavegauge/simulate/MeasurementTotalAttemptsPinLaw" = some m.cls := findClass_of_methodNamed Bd.named
  have hnm := (name_of_methodNamed Bd.named Bd.method).1
  have hlk : meth.locks = false := BodyLoose.notSynchronized Bd
  have X0 : Stand p l e ({ frames := 0, cells := 1, slots := 4, locals := 0 } : Room) s m #[(.int p0), (.long x1), (.long x2), (.long x3), (.long x4)] below meth c s₁ [] 0 0 := Stand.of_body Bd
  have e0 : s₁.heap = h0 := by rw [← hh, Bd.state]; rfl
  have N0 := Fr.nil n0
  obtain ⟨G, hG⟩ : ∃ G, G = own_G s (Q1 Z p0 x1 x2 x3 x4 h0 n0) ({ frames := 0, cells := 1, slots := 4, locals := 0 } : Room).cells ({ frames := 0, cells := 1, slots := 4, locals := 0 } : Room).slots := ⟨_, rfl⟩
  show own_Fin p e below (own_G s (Q1 Z p0 x1 x2 x3 x4 h0 n0) ({ frames := 0, cells := 1, slots := 4, locals := 0 } : Room).cells ({ frames := 0, cells := 1, slots := 4, locals := 0 } : Room).slots) (s₁.setTop (entryFrame m #[(.int p0), (.long x1), (.long x2), (.long x3), (.long x4)] 9))
  rw [← hG]
  refine own_to (fun _ kz => castTop (ef1 m p0 x1 x2 x3 x4) kz) ?_
  show own_Fin p e below G (s₁.setTop (mkF m 0 #[.val (.int p0), .val (.long x1), .second, .val (.long x2), .second, .val (.long x3), .second, .val (.long x4), .second] []))
  refine own_to (fun _ kz => XS.iloadN X0.here hx rfl (hb hby d1_0) rfl  kz) ?_
  show own_Fin p e below G (s₁.setTop (mkF m 1 #[.val (.int p0), .val (.long x1), .second, .val (.long x2), .second, .val (.long x3), .second, .val (.long x4), .second] [(.int p0)]))
  by_cases hc1 : p0 = (0 : Int32)
  · refine own_to (fun _ kz => XS.ifNo X0.here hx rfl (hb hby d1_1) rfl ((if0 _ _).trans (teq hc1).2) kz) ?_
    show own_Fin p e below G (s₁.setTop (mkF m 4 #[.val (.int p0), .val (.long x1), .second, .val (.long x2), .second, .val (.long x3), .second, .val (.long x4), .second] []))
    refine own_to (fun _ kz => XS.iconst X0.here hx rfl (hb hby d1_4) kz) ?_
    show own_Fin p e below G (s₁.setTop (mkF m 5 #[.val (.int p0), .val (.long x1), .second, .val (.long x2), .second, .val (.long x3), .second, .val (.long x4), .second] [(.int (0 : Int32))]))
    obtain ⟨T5, h5, k5, X5, e5, E5, A5, st5⟩ := newP X0 hx hZ (hw _ (List.mem_of_getElem? (i := 4) rfl)) e0 (g := (mkF m 5 #[.val (.int p0), .val (.long x1), .second, .val (.long x2), .second, .val (.long x3), .second, .val (.long x4), .second] [(.int (0 : Int32))])) rfl (hb hby d1_5) rfl (by decide) (cap := 0) (by decide) (by decide) (by decide) (by decide)
    obtain ⟨b5, g5⟩ : ∃ z, z = h0.size := ⟨_, rfl⟩
    rw [← g5] at A5 st5
    refine own_to st5 ?_
    have g_b5 : n0 ≤ b5 := Nat.le_trans Z0 (Nat.le_of_eq g5.symm)
    have sz_b5 : h0.size ≤ b5 := Nat.le_trans (Keep.refl h0 []).1 (Nat.le_of_eq g5.symm)
    have V5 : own_AV Value.long Z h5 b5 .long 0 (fun _ => (0 : Int64)) := own_AV.new A5 (by decide) (by decide) (fun _ => rfl)
    show own_Fin p e below G (T5.setTop (mkF m 7 #[.val (.int p0), .val (.long x1), .second, .val (.long x2), .second, .val (.long x3), .second, .val (.long x4), .second] [(.ref b5)]))
    have KP_7 : Keep h0 h5 [] := ((Keep.refl h0 []).ext E5)
    exact own_retA X5 hx hlk hG Bd.returns rfl rfl (hb hby d1_7) (by decide) (by decide) (by rw [e5]; exact ⟨b5, _, _, rfl, N0, sz_b5, KP_7, V5, by simp [own_want, own_sum, own_upd, *]⟩)
  · refine own_to (fun _ kz => XS.ifYes X0.here hx rfl (pc0 := 1) (pc' := 8) rfl (hb hby d1_1) rfl ((if0 _ _).trans (feq hc1).2) (by decide) (by decide) kz) ?_
    show own_Fin p e below G (s₁.setTop (mkF m 8 #[.val (.int p0), .val (.long x1), .second, .val (.long x2), .second, .val (.long x3), .second, .val (.long x4), .second] []))
    refine own_to (fun _ kz => XS.iloadN X0.here hx rfl (hb hby d1_8) rfl  kz) ?_
    show own_Fin p e below G (s₁.setTop (mkF m 9 #[.val (.int p0), .val (.long x1), .second, .val (.long x2), .second, .val (.long x3), .second, .val (.long x4), .second] [(.int p0)]))
    refine own_to (fun _ kz => XS.iconst X0.here hx rfl (hb hby d1_9) kz) ?_
    show own_Fin p e below G (s₁.setTop (mkF m 10 #[.val (.int p0), .val (.long x1), .second, .val (.long x2), .second, .val (.long x3), .second, .val (.long x4), .second] [(.int (1 : Int32)), (.int p0)]))
    by_cases hc10 : p0 = (1 : Int32)
    · refine own_to (fun _ kz => XS.icmpNo X0.here hx rfl (hb hby d1_10) rfl (teq hc10).2 kz) ?_
      show own_Fin p e below G (s₁.setTop (mkF m 13 #[.val (.int p0), .val (.long x1), .second, .val (.long x2), .second, .val (.long x3), .second, .val (.long x4), .second] []))
      refine own_to (fun _ kz => XS.iconst X0.here hx rfl (hb hby d1_13) kz) ?_
      show own_Fin p e below G (s₁.setTop (mkF m 14 #[.val (.int p0), .val (.long x1), .second, .val (.long x2), .second, .val (.long x3), .second, .val (.long x4), .second] [(.int (1 : Int32))]))
      obtain ⟨T14, h14, k14, X14, e14, E14, A14, st14⟩ := newP X0 hx hZ (hw _ (List.mem_of_getElem? (i := 4) rfl)) e0 (g := (mkF m 14 #[.val (.int p0), .val (.long x1), .second, .val (.long x2), .second, .val (.long x3), .second, .val (.long x4), .second] [(.int (1 : Int32))])) rfl (hb hby d1_14) rfl (by decide) (cap := 1) (by decide) (by decide) (by decide) (by decide)
      obtain ⟨b14, g14⟩ : ∃ z, z = h0.size := ⟨_, rfl⟩
      rw [← g14] at A14 st14
      refine own_to st14 ?_
      have g_b14 : n0 ≤ b14 := Nat.le_trans Z0 (Nat.le_of_eq g14.symm)
      have sz_b14 : h0.size ≤ b14 := Nat.le_trans (Keep.refl h0 []).1 (Nat.le_of_eq g14.symm)
      have V14 : own_AV Value.long Z h14 b14 .long 1 (fun _ => (0 : Int64)) := own_AV.new A14 (by decide) (by decide) (fun _ => rfl)
      show own_Fin p e below G (T14.setTop (mkF m 16 #[.val (.int p0), .val (.long x1), .second, .val (.long x2), .second, .val (.long x3), .second, .val (.long x4), .second] [(.ref b14)]))
      refine own_to (fun _ kz => XS.dup X14.here hx rfl (hb hby d1_16) rfl rfl kz) ?_
      show own_Fin p e below G (T14.setTop (mkF m 17 #[.val (.int p0), .val (.long x1), .second, .val (.long x2), .second, .val (.long x3), .second, .val (.long x4), .second] [(.ref b14), (.ref b14)]))
      refine own_to (fun _ kz => XS.iconst X14.here hx rfl (hb hby d1_17) kz) ?_
      show own_Fin p e below G (T14.setTop (mkF m 18 #[.val (.int p0), .val (.long x1), .second, .val (.long x2), .second, .val (.long x3), .second, .val (.long x4), .second] [(.int (0 : Int32)), (.ref b14), (.ref b14)]))
      refine own_to (fun _ kz => XS.lloadN X14.here hx rfl (hb hby d1_18) rfl  kz) ?_
      show own_Fin p e below G (T14.setTop (mkF m 19 #[.val (.int p0), .val (.long x1), .second, .val (.long x2), .second, .val (.long x3), .second, .val (.long x4), .second] [(.long x1), (.int (0 : Int32)), (.ref b14), (.ref b14)]))
      obtain ⟨nn19, cl19, Ar19, Sz19, Hs19⟩ := V14
      obtain ⟨T19, h19, X19, e19, W19, st19⟩ := stJ X14 hx hZ e14 Ar19 (j := (0 : Int32)) (own_in Sz19 (by decide) rfl (by decide)) (g := (mkF m 19 #[.val (.int p0), .val (.long x1), .second, .val (.long x2), .second, .val (.long x3), .second, .val (.long x4), .second] [(.long x1), (.int (0 : Int32)), (.ref b14), (.ref b14)])) rfl rfl (hb hby d1_19)
      refine own_to st19 ?_
      have V19 : own_AV Value.long Z h19 b14 .long 1 (own_upd (fun _ => (0 : Int64)) 0 x1) := own_AV.set nn19 Ar19 Sz19 Hs19 W19 rfl
      have N19 := Fr.snoc X19 N0 g_b14
      show own_Fin p e below G (T19.setTop (mkF m 20 #[.val (.int p0), .val (.long x1), .second, .val (.long x2), .second, .val (.long x3), .second, .val (.long x4), .second] [(.ref b14)]))
      have KP_20 : Keep h0 h19 [] := (((Keep.refl h0 []).ext E14).wr W19 (Or.inr sz_b14))
      exact own_retA X19 hx hlk hG Bd.returns rfl rfl (hb hby d1_20) (by decide) (by decide) (by rw [e19]; exact ⟨b14, _, _, rfl, N19, sz_b14, KP_20, V19, by simp [own_want, own_sum, own_upd, *]⟩)
    · refine own_to (fun _ kz => XS.icmpYes X0.here hx rfl (pc0 := 10) (pc' := 21) rfl (hb hby d1_10) rfl (feq hc10).2 (by decide) (by decide) kz) ?_
      show own_Fin p e below G (s₁.setTop (mkF m 21 #[.val (.int p0), .val (.long x1), .second, .val (.long x2), .second, .val (.long x3), .second, .val (.long x4), .second] []))
      refine own_to (fun _ kz => XS.iloadN X0.here hx rfl (hb hby d1_21) rfl  kz) ?_
      show own_Fin p e below G (s₁.setTop (mkF m 22 #[.val (.int p0), .val (.long x1), .second, .val (.long x2), .second, .val (.long x3), .second, .val (.long x4), .second] [(.int p0)]))
      refine own_to (fun _ kz => XS.iconst X0.here hx rfl (hb hby d1_22) kz) ?_
      show own_Fin p e below G (s₁.setTop (mkF m 23 #[.val (.int p0), .val (.long x1), .second, .val (.long x2), .second, .val (.long x3), .second, .val (.long x4), .second] [(.int (2 : Int32)), (.int p0)]))
      by_cases hc23 : p0 = (2 : Int32)
      · refine own_to (fun _ kz => XS.icmpNo X0.here hx rfl (hb hby d1_23) rfl (teq hc23).2 kz) ?_
        show own_Fin p e below G (s₁.setTop (mkF m 26 #[.val (.int p0), .val (.long x1), .second, .val (.long x2), .second, .val (.long x3), .second, .val (.long x4), .second] []))
        refine own_to (fun _ kz => XS.iconst X0.here hx rfl (hb hby d1_26) kz) ?_
        show own_Fin p e below G (s₁.setTop (mkF m 27 #[.val (.int p0), .val (.long x1), .second, .val (.long x2), .second, .val (.long x3), .second, .val (.long x4), .second] [(.int (2 : Int32))]))
        obtain ⟨T27, h27, k27, X27, e27, E27, A27, st27⟩ := newP X0 hx hZ (hw _ (List.mem_of_getElem? (i := 4) rfl)) e0 (g := (mkF m 27 #[.val (.int p0), .val (.long x1), .second, .val (.long x2), .second, .val (.long x3), .second, .val (.long x4), .second] [(.int (2 : Int32))])) rfl (hb hby d1_27) rfl (by decide) (cap := 2) (by decide) (by decide) (by decide) (by decide)
        obtain ⟨b27, g27⟩ : ∃ z, z = h0.size := ⟨_, rfl⟩
        rw [← g27] at A27 st27
        refine own_to st27 ?_
        have g_b27 : n0 ≤ b27 := Nat.le_trans Z0 (Nat.le_of_eq g27.symm)
        have sz_b27 : h0.size ≤ b27 := Nat.le_trans (Keep.refl h0 []).1 (Nat.le_of_eq g27.symm)
        have V27 : own_AV Value.long Z h27 b27 .long 2 (fun _ => (0 : Int64)) := own_AV.new A27 (by decide) (by decide) (fun _ => rfl)
        show own_Fin p e below G (T27.setTop (mkF m 29 #[.val (.int p0), .val (.long x1), .second, .val (.long x2), .second, .val (.long x3), .second, .val (.long x4), .second] [(.ref b27)]))
        refine own_to (fun _ kz => XS.dup X27.here hx rfl (hb hby d1_29) rfl rfl kz) ?_
        show own_Fin p e below G (T27.setTop (mkF m 30 #[.val (.int p0), .val (.long x1), .second, .val (.long x2), .second, .val (.long x3), .second, .val (.long x4), .second] [(.ref b27), (.ref b27)]))
        refine own_to (fun _ kz => XS.iconst X27.here hx rfl (hb hby d1_30) kz) ?_
        show own_Fin p e below G (T27.setTop (mkF m 31 #[.val (.int p0), .val (.long x1), .second, .val (.long x2), .second, .val (.long x3), .second, .val (.long x4), .second] [(.int (0 : Int32)), (.ref b27), (.ref b27)]))
        refine own_to (fun _ kz => XS.lloadN X27.here hx rfl (hb hby d1_31) rfl  kz) ?_
        show own_Fin p e below G (T27.setTop (mkF m 32 #[.val (.int p0), .val (.long x1), .second, .val (.long x2), .second, .val (.long x3), .second, .val (.long x4), .second] [(.long x1), (.int (0 : Int32)), (.ref b27), (.ref b27)]))
        obtain ⟨nn32, cl32, Ar32, Sz32, Hs32⟩ := V27
        obtain ⟨T32, h32, X32, e32, W32, st32⟩ := stJ X27 hx hZ e27 Ar32 (j := (0 : Int32)) (own_in Sz32 (by decide) rfl (by decide)) (g := (mkF m 32 #[.val (.int p0), .val (.long x1), .second, .val (.long x2), .second, .val (.long x3), .second, .val (.long x4), .second] [(.long x1), (.int (0 : Int32)), (.ref b27), (.ref b27)])) rfl rfl (hb hby d1_32)
        refine own_to st32 ?_
        have V32 : own_AV Value.long Z h32 b27 .long 2 (own_upd (fun _ => (0 : Int64)) 0 x1) := own_AV.set nn32 Ar32 Sz32 Hs32 W32 rfl
        have N32 := Fr.snoc X32 N0 g_b27
        show own_Fin p e below G (T32.setTop (mkF m 33 #[.val (.int p0), .val (.long x1), .second, .val (.long x2), .second, .val (.long x3), .second, .val (.long x4), .second] [(.ref b27)]))
        refine own_to (fun _ kz => XS.dup X32.here hx rfl (hb hby d1_33) rfl rfl kz) ?_
        show own_Fin p e below G (T32.setTop (mkF m 34 #[.val (.int p0), .val (.long x1), .second, .val (.long x2), .second, .val (.long x3), .second, .val (.long x4), .second] [(.ref b27), (.ref b27)]))
        refine own_to (fun _ kz => XS.iconst X32.here hx rfl (hb hby d1_34) kz) ?_
        show own_Fin p e below G (T32.setTop (mkF m 35 #[.val (.int p0), .val (.long x1), .second, .val (.long x2), .second, .val (.long x3), .second, .val (.long x4), .second] [(.int (1 : Int32)), (.ref b27), (.ref b27)]))
        refine own_to (fun _ kz => XS.lloadN X32.here hx rfl (hb hby d1_35) rfl  kz) ?_
        show own_Fin p e below G (T32.setTop (mkF m 36 #[.val (.int p0), .val (.long x1), .second, .val (.long x2), .second, .val (.long x3), .second, .val (.long x4), .second] [(.long x2), (.int (1 : Int32)), (.ref b27), (.ref b27)]))
        obtain ⟨nn36, cl36, Ar36, Sz36, Hs36⟩ := V32
        obtain ⟨T36, h36, X36, e36, W36, st36⟩ := stJ X32 hx hZ e32 Ar36 (j := (1 : Int32)) (own_in Sz36 (by decide) rfl (by decide)) (g := (mkF m 36 #[.val (.int p0), .val (.long x1), .second, .val (.long x2), .second, .val (.long x3), .second, .val (.long x4), .second] [(.long x2), (.int (1 : Int32)), (.ref b27), (.ref b27)])) rfl rfl (hb hby d1_36)
        refine own_to st36 ?_
        have V36 : own_AV Value.long Z h36 b27 .long 2 (own_upd (own_upd (fun _ => (0 : Int64)) 0 x1) 1 x2) := own_AV.set nn36 Ar36 Sz36 Hs36 W36 rfl
        have N36 := Fr.snoc X36 N32 g_b27
        show own_Fin p e below G (T36.setTop (mkF m 37 #[.val (.int p0), .val (.long x1), .second, .val (.long x2), .second, .val (.long x3), .second, .val (.long x4), .second] [(.ref b27)]))
        have KP_37 : Keep h0 h36 [] := ((((Keep.refl h0 []).ext E27).wr W32 (Or.inr sz_b27)).wr W36 (Or.inr sz_b27))
        exact own_retA X36 hx hlk hG Bd.returns rfl rfl (hb hby d1_37) (by decide) (by decide) (by rw [e36]; exact ⟨b27, _, _, rfl, N36, sz_b27, KP_37, V36, by simp [own_want, own_sum, own_upd, *]⟩)
      · refine own_to (fun _ kz => XS.icmpYes X0.here hx rfl (pc0 := 23) (pc' := 38) rfl (hb hby d1_23) rfl (feq hc23).2 (by decide) (by decide) kz) ?_
        show own_Fin p e below G (s₁.setTop (mkF m 38 #[.val (.int p0), .val (.long x1), .second, .val (.long x2), .second, .val (.long x3), .second, .val (.long x4), .second] []))
        refine own_to (fun _ kz => XS.iloadN X0.here hx rfl (hb hby d1_38) rfl  kz) ?_
        show own_Fin p e below G (s₁.setTop (mkF m 39 #[.val (.int p0), .val (.long x1), .second, .val (.long x2), .second, .val (.long x3), .second, .val (.long x4), .second] [(.int p0)]))
        refine own_to (fun _ kz => XS.iconst X0.here hx rfl (hb hby d1_39) kz) ?_
        show own_Fin p e below G (s₁.setTop (mkF m 40 #[.val (.int p0), .val (.long x1), .second, .val (.long x2), .second, .val (.long x3), .second, .val (.long x4), .second] [(.int (3 : Int32)), (.int p0)]))
        by_cases hc40 : p0 = (3 : Int32)
        · refine own_to (fun _ kz => XS.icmpNo X0.here hx rfl (hb hby d1_40) rfl (teq hc40).2 kz) ?_
          show own_Fin p e below G (s₁.setTop (mkF m 43 #[.val (.int p0), .val (.long x1), .second, .val (.long x2), .second, .val (.long x3), .second, .val (.long x4), .second] []))
          refine own_to (fun _ kz => XS.iconst X0.here hx rfl (hb hby d1_43) kz) ?_
          show own_Fin p e below G (s₁.setTop (mkF m 44 #[.val (.int p0), .val (.long x1), .second, .val (.long x2), .second, .val (.long x3), .second, .val (.long x4), .second] [(.int (3 : Int32))]))
          obtain ⟨T44, h44, k44, X44, e44, E44, A44, st44⟩ := newP X0 hx hZ (hw _ (List.mem_of_getElem? (i := 4) rfl)) e0 (g := (mkF m 44 #[.val (.int p0), .val (.long x1), .second, .val (.long x2), .second, .val (.long x3), .second, .val (.long x4), .second] [(.int (3 : Int32))])) rfl (hb hby d1_44) rfl (by decide) (cap := 3) (by decide) (by decide) (by decide) (by decide)
          obtain ⟨b44, g44⟩ : ∃ z, z = h0.size := ⟨_, rfl⟩
          rw [← g44] at A44 st44
          refine own_to st44 ?_
          have g_b44 : n0 ≤ b44 := Nat.le_trans Z0 (Nat.le_of_eq g44.symm)
          have sz_b44 : h0.size ≤ b44 := Nat.le_trans (Keep.refl h0 []).1 (Nat.le_of_eq g44.symm)
          have V44 : own_AV Value.long Z h44 b44 .long 3 (fun _ => (0 : Int64)) := own_AV.new A44 (by decide) (by decide) (fun _ => rfl)
          show own_Fin p e below G (T44.setTop (mkF m 46 #[.val (.int p0), .val (.long x1), .second, .val (.long x2), .second, .val (.long x3), .second, .val (.long x4), .second] [(.ref b44)]))
          refine own_to (fun _ kz => XS.dup X44.here hx rfl (hb hby d1_46) rfl rfl kz) ?_
          show own_Fin p e below G (T44.setTop (mkF m 47 #[.val (.int p0), .val (.long x1), .second, .val (.long x2), .second, .val (.long x3), .second, .val (.long x4), .second] [(.ref b44), (.ref b44)]))
          refine own_to (fun _ kz => XS.iconst X44.here hx rfl (hb hby d1_47) kz) ?_
          show own_Fin p e below G (T44.setTop (mkF m 48 #[.val (.int p0), .val (.long x1), .second, .val (.long x2), .second, .val (.long x3), .second, .val (.long x4), .second] [(.int (0 : Int32)), (.ref b44), (.ref b44)]))
          refine own_to (fun _ kz => XS.lloadN X44.here hx rfl (hb hby d1_48) rfl  kz) ?_
          show own_Fin p e below G (T44.setTop (mkF m 49 #[.val (.int p0), .val (.long x1), .second, .val (.long x2), .second, .val (.long x3), .second, .val (.long x4), .second] [(.long x1), (.int (0 : Int32)), (.ref b44), (.ref b44)]))
          obtain ⟨nn49, cl49, Ar49, Sz49, Hs49⟩ := V44
          obtain ⟨T49, h49, X49, e49, W49, st49⟩ := stJ X44 hx hZ e44 Ar49 (j := (0 : Int32)) (own_in Sz49 (by decide) rfl (by decide)) (g := (mkF m 49 #[.val (.int p0), .val (.long x1), .second, .val (.long x2), .second, .val (.long x3), .second, .val (.long x4), .second] [(.long x1), (.int (0 : Int32)), (.ref b44), (.ref b44)])) rfl rfl (hb hby d1_49)
          refine own_to st49 ?_
          have V49 : own_AV Value.long Z h49 b44 .long 3 (own_upd (fun _ => (0 : Int64)) 0 x1) := own_AV.set nn49 Ar49 Sz49 Hs49 W49 rfl
          have N49 := Fr.snoc X49 N0 g_b44
          show own_Fin p e below G (T49.setTop (mkF m 50 #[.val (.int p0), .val (.long x1), .second, .val (.long x2), .second, .val (.long x3), .second, .val (.long x4), .second] [(.ref b44)]))
          refine own_to (fun _ kz => XS.dup X49.here hx rfl (hb hby d1_50) rfl rfl kz) ?_
          show own_Fin p e below G (T49.setTop (mkF m 51 #[.val (.int p0), .val (.long x1), .second, .val (.long x2), .second, .val (.long x3), .second, .val (.long x4), .second] [(.ref b44), (.ref b44)]))
          refine own_to (fun _ kz => XS.iconst X49.here hx rfl (hb hby d1_51) kz) ?_
          show own_Fin p e below G (T49.setTop (mkF m 52 #[.val (.int p0), .val (.long x1), .second, .val (.long x2), .second, .val (.long x3), .second, .val (.long x4), .second] [(.int (1 : Int32)), (.ref b44), (.ref b44)]))
          refine own_to (fun _ kz => XS.lloadN X49.here hx rfl (hb hby d1_52) rfl  kz) ?_
          show own_Fin p e below G (T49.setTop (mkF m 53 #[.val (.int p0), .val (.long x1), .second, .val (.long x2), .second, .val (.long x3), .second, .val (.long x4), .second] [(.long x2), (.int (1 : Int32)), (.ref b44), (.ref b44)]))
          obtain ⟨nn53, cl53, Ar53, Sz53, Hs53⟩ := V49
          obtain ⟨T53, h53, X53, e53, W53, st53⟩ := stJ X49 hx hZ e49 Ar53 (j := (1 : Int32)) (own_in Sz53 (by decide) rfl (by decide)) (g := (mkF m 53 #[.val (.int p0), .val (.long x1), .second, .val (.long x2), .second, .val (.long x3), .second, .val (.long x4), .second] [(.long x2), (.int (1 : Int32)), (.ref b44), (.ref b44)])) rfl rfl (hb hby d1_53)
          refine own_to st53 ?_
          have V53 : own_AV Value.long Z h53 b44 .long 3 (own_upd (own_upd (fun _ => (0 : Int64)) 0 x1) 1 x2) := own_AV.set nn53 Ar53 Sz53 Hs53 W53 rfl
          have N53 := Fr.snoc X53 N49 g_b44
          show own_Fin p e below G (T53.setTop (mkF m 54 #[.val (.int p0), .val (.long x1), .second, .val (.long x2), .second, .val (.long x3), .second, .val (.long x4), .second] [(.ref b44)]))
          refine own_to (fun _ kz => XS.dup X53.here hx rfl (hb hby d1_54) rfl rfl kz) ?_
          show own_Fin p e below G (T53.setTop (mkF m 55 #[.val (.int p0), .val (.long x1), .second, .val (.long x2), .second, .val (.long x3), .second, .val (.long x4), .second] [(.ref b44), (.ref b44)]))
          refine own_to (fun _ kz => XS.iconst X53.here hx rfl (hb hby d1_55) kz) ?_
          show own_Fin p e below G (T53.setTop (mkF m 56 #[.val (.int p0), .val (.long x1), .second, .val (.long x2), .second, .val (.long x3), .second, .val (.long x4), .second] [(.int (2 : Int32)), (.ref b44), (.ref b44)]))
          refine own_to (fun _ kz => XS.lload X53.here hx rfl (hb hby d1_56) rfl  kz) ?_
          show own_Fin p e below G (T53.setTop (mkF m 58 #[.val (.int p0), .val (.long x1), .second, .val (.long x2), .second, .val (.long x3), .second, .val (.long x4), .second] [(.long x3), (.int (2 : Int32)), (.ref b44), (.ref b44)]))
          obtain ⟨nn58, cl58, Ar58, Sz58, Hs58⟩ := V53
          obtain ⟨T58, h58, X58, e58, W58, st58⟩ := stJ X53 hx hZ e53 Ar58 (j := (2 : Int32)) (own_in Sz58 (by decide) rfl (by decide)) (g := (mkF m 58 #[.val (.int p0), .val (.long x1), .second, .val (.long x2), .second, .val (.long x3), .second, .val (.long x4), .second] [(.long x3), (.int (2 : Int32)), (.ref b44), (.ref b44)])) rfl rfl (hb hby d1_58)
          refine own_to st58 ?_
          have V58 : own_AV Value.long Z h58 b44 .long 3 (own_upd (own_upd (own_upd (fun _ => (0 : Int64)) 0 x1) 1 x2) 2 x3) := own_AV.set nn58 Ar58 Sz58 Hs58 W58 rfl
          have N58 := Fr.snoc X58 N53 g_b44
          show own_Fin p e below G (T58.setTop (mkF m 59 #[.val (.int p0), .val (.long x1), .second, .val (.long x2), .second, .val (.long x3), .second, .val (.long x4), .second] [(.ref b44)]))
          have KP_59 : Keep h0 h58 [] := (((((Keep.refl h0 []).ext E44).wr W49 (Or.inr sz_b44)).wr W53 (Or.inr sz_b44)).wr W58 (Or.inr sz_b44))
          exact own_retA X58 hx hlk hG Bd.returns rfl rfl (hb hby d1_59) (by decide) (by decide) (by rw [e58]; exact ⟨b44, _, _, rfl, N58, sz_b44, KP_59, V58, by simp [own_want, own_sum, own_upd, *]⟩)
        · refine own_to (fun _ kz => XS.icmpYes X0.here hx rfl (pc0 := 40) (pc' := 60) rfl (hb hby d1_40) rfl (feq hc40).2 (by decide) (by decide) kz) ?_
          show own_Fin p e below G (s₁.setTop (mkF m 60 #[.val (.int p0), .val (.long x1), .second, .val (.long x2), .second, .val (.long x3), .second, .val (.long x4), .second] []))
          refine own_to (fun _ kz => XS.iconst X0.here hx rfl (hb hby d1_60) kz) ?_
          show own_Fin p e below G (s₁.setTop (mkF m 61 #[.val (.int p0), .val (.long x1), .second, .val (.long x2), .second, .val (.long x3), .second, .val (.long x4), .second] [(.int (4 : Int32))]))
          obtain ⟨T61, h61, k61, X61, e61, E61, A61, st61⟩ := newP X0 hx hZ (hw _ (List.mem_of_getElem? (i := 4) rfl)) e0 (g := (mkF m 61 #[.val (.int p0), .val (.long x1), .second, .val (.long x2), .second, .val (.long x3), .second, .val (.long x4), .second] [(.int (4 : Int32))])) rfl (hb hby d1_61) rfl (by decide) (cap := 4) (by decide) (by decide) (by decide) (by decide)
          obtain ⟨b61, g61⟩ : ∃ z, z = h0.size := ⟨_, rfl⟩
          rw [← g61] at A61 st61
          refine own_to st61 ?_
          have g_b61 : n0 ≤ b61 := Nat.le_trans Z0 (Nat.le_of_eq g61.symm)
          have sz_b61 : h0.size ≤ b61 := Nat.le_trans (Keep.refl h0 []).1 (Nat.le_of_eq g61.symm)
          have V61 : own_AV Value.long Z h61 b61 .long 4 (fun _ => (0 : Int64)) := own_AV.new A61 (by decide) (by decide) (fun _ => rfl)
          show own_Fin p e below G (T61.setTop (mkF m 63 #[.val (.int p0), .val (.long x1), .second, .val (.long x2), .second, .val (.long x3), .second, .val (.long x4), .second] [(.ref b61)]))
          refine own_to (fun _ kz => XS.dup X61.here hx rfl (hb hby d1_63) rfl rfl kz) ?_
          show own_Fin p e below G (T61.setTop (mkF m 64 #[.val (.int p0), .val (.long x1), .second, .val (.long x2), .second, .val (.long x3), .second, .val (.long x4), .second] [(.ref b61), (.ref b61)]))
          refine own_to (fun _ kz => XS.iconst X61.here hx rfl (hb hby d1_64) kz) ?_
          show own_Fin p e below G (T61.setTop (mkF m 65 #[.val (.int p0), .val (.long x1), .second, .val (.long x2), .second, .val (.long x3), .second, .val (.long x4), .second] [(.int (0 : Int32)), (.ref b61), (.ref b61)]))
          refine own_to (fun _ kz => XS.lloadN X61.here hx rfl (hb hby d1_65) rfl  kz) ?_
          show own_Fin p e below G (T61.setTop (mkF m 66 #[.val (.int p0), .val (.long x1), .second, .val (.long x2), .second, .val (.long x3), .second, .val (.long x4), .second] [(.long x1), (.int (0 : Int32)), (.ref b61), (.ref b61)]))
          obtain ⟨nn66, cl66, Ar66, Sz66, Hs66⟩ := V61
          obtain ⟨T66, h66, X66, e66, W66, st66⟩ := stJ X61 hx hZ e61 Ar66 (j := (0 : Int32)) (own_in Sz66 (by decide) rfl (by decide)) (g := (mkF m 66 #[.val (.int p0), .val (.long x1), .second, .val (.long x2), .second, .val (.long x3), .second, .val (.long x4), .second] [(.long x1), (.int (0 : Int32)), (.ref b61), (.ref b61)])) rfl rfl (hb hby d1_66)
          refine own_to st66 ?_
          have V66 : own_AV Value.long Z h66 b61 .long 4 (own_upd (fun _ => (0 : Int64)) 0 x1) := own_AV.set nn66 Ar66 Sz66 Hs66 W66 rfl
          have N66 := Fr.snoc X66 N0 g_b61
          show own_Fin p e below G (T66.setTop (mkF m 67 #[.val (.int p0), .val (.long x1), .second, .val (.long x2), .second, .val (.long x3), .second, .val (.long x4), .second] [(.ref b61)]))
          refine own_to (fun _ kz => XS.dup X66.here hx rfl (hb hby d1_67) rfl rfl kz) ?_
          show own_Fin p e below G (T66.setTop (mkF m 68 #[.val (.int p0), .val (.long x1), .second, .val (.long x2), .second, .val (.long x3), .second, .val (.long x4), .second] [(.ref b61), (.ref b61)]))
          refine own_to (fun _ kz => XS.iconst X66.here hx rfl (hb hby d1_68) kz) ?_
          show own_Fin p e below G (T66.setTop (mkF m 69 #[.val (.int p0), .val (.long x1), .second, .val (.long x2), .second, .val (.long x3), .second, .val (.long x4), .second] [(.int (1 : Int32)), (.ref b61), (.ref b61)]))
          refine own_to (fun _ kz => XS.lloadN X66.here hx rfl (hb hby d1_69) rfl  kz) ?_
          show own_Fin p e below G (T66.setTop (mkF m 70 #[.val (.int p0), .val (.long x1), .second, .val (.long x2), .second, .val (.long x3), .second, .val (.long x4), .second] [(.long x2), (.int (1 : Int32)), (.ref b61), (.ref b61)]))
          obtain ⟨nn70, cl70, Ar70, Sz70, Hs70⟩ := V66
          obtain ⟨T70, h70, X70, e70, W70, st70⟩ := stJ X66 hx hZ e66 Ar70 (j := (1 : Int32)) (own_in Sz70 (by decide) rfl (by decide)) (g := (mkF m 70 #[.val (.int p0), .val (.long x1), .second, .val (.long x2), .second, .val (.long x3), .second, .val (.long x4), .second] [(.long x2), (.int (1 : Int32)), (.ref b61), (.ref b61)])) rfl rfl (hb hby d1_70)
          refine own_to st70 ?_
          have V70 : own_AV Value.long Z h70 b61 .long 4 (own_upd (own_upd (fun _ => (0 : Int64)) 0 x1) 1 x2) := own_AV.set nn70 Ar70 Sz70 Hs70 W70 rfl
          have N70 := Fr.snoc X70 N66 g_b61
          show own_Fin p e below G (T70.setTop (mkF m 71 #[.val (.int p0), .val (.long x1), .second, .val (.long x2), .second, .val (.long x3), .second, .val (.long x4), .second] [(.ref b61)]))
          refine own_to (fun _ kz => XS.dup X70.here hx rfl (hb hby d1_71) rfl rfl kz) ?_
          show own_Fin p e below G (T70.setTop (mkF m 72 #[.val (.int p0), .val (.long x1), .second, .val (.long x2), .second, .val (.long x3), .second, .val (.long x4), .second] [(.ref b61), (.ref b61)]))
          refine own_to (fun _ kz => XS.iconst X70.here hx rfl (hb hby d1_72) kz) ?_
          show own_Fin p e below G (T70.setTop (mkF m 73 #[.val (.int p0), .val (.long x1), .second, .val (.long x2), .second, .val (.long x3), .second, .val (.long x4), .second] [(.int (2 : Int32)), (.ref b61), (.ref b61)]))
          refine own_to (fun _ kz => XS.lload X70.here hx rfl (hb hby d1_73) rfl  kz) ?_
          show own_Fin p e below G (T70.setTop (mkF m 75 #[.val (.int p0), .val (.long x1), .second, .val (.long x2), .second, .val (.long x3), .second, .val (.long x4), .second] [(.long x3), (.int (2 : Int32)), (.ref b61), (.ref b61)]))
          obtain ⟨nn75, cl75, Ar75, Sz75, Hs75⟩ := V70
          obtain ⟨T75, h75, X75, e75, W75, st75⟩ := stJ X70 hx hZ e70 Ar75 (j := (2 : Int32)) (own_in Sz75 (by decide) rfl (by decide)) (g := (mkF m 75 #[.val (.int p0), .val (.long x1), .second, .val (.long x2), .second, .val (.long x3), .second, .val (.long x4), .second] [(.long x3), (.int (2 : Int32)), (.ref b61), (.ref b61)])) rfl rfl (hb hby d1_75)
          refine own_to st75 ?_
          have V75 : own_AV Value.long Z h75 b61 .long 4 (own_upd (own_upd (own_upd (fun _ => (0 : Int64)) 0 x1) 1 x2) 2 x3) := own_AV.set nn75 Ar75 Sz75 Hs75 W75 rfl
          have N75 := Fr.snoc X75 N70 g_b61
          show own_Fin p e below G (T75.setTop (mkF m 76 #[.val (.int p0), .val (.long x1), .second, .val (.long x2), .second, .val (.long x3), .second, .val (.long x4), .second] [(.ref b61)]))
          refine own_to (fun _ kz => XS.dup X75.here hx rfl (hb hby d1_76) rfl rfl kz) ?_
          show own_Fin p e below G (T75.setTop (mkF m 77 #[.val (.int p0), .val (.long x1), .second, .val (.long x2), .second, .val (.long x3), .second, .val (.long x4), .second] [(.ref b61), (.ref b61)]))
          refine own_to (fun _ kz => XS.iconst X75.here hx rfl (hb hby d1_77) kz) ?_
          show own_Fin p e below G (T75.setTop (mkF m 78 #[.val (.int p0), .val (.long x1), .second, .val (.long x2), .second, .val (.long x3), .second, .val (.long x4), .second] [(.int (3 : Int32)), (.ref b61), (.ref b61)]))
          refine own_to (fun _ kz => XS.lload X75.here hx rfl (hb hby d1_78) rfl  kz) ?_
          show own_Fin p e below G (T75.setTop (mkF m 80 #[.val (.int p0), .val (.long x1), .second, .val (.long x2), .second, .val (.long x3), .second, .val (.long x4), .second] [(.long x4), (.int (3 : Int32)), (.ref b61), (.ref b61)]))
          obtain ⟨nn80, cl80, Ar80, Sz80, Hs80⟩ := V75
          obtain ⟨T80, h80, X80, e80, W80, st80⟩ := stJ X75 hx hZ e75 Ar80 (j := (3 : Int32)) (own_in Sz80 (by decide) rfl (by decide)) (g := (mkF m 80 #[.val (.int p0), .val (.long x1), .second, .val (.long x2), .second, .val (.long x3), .second, .val (.long x4), .second] [(.long x4), (.int (3 : Int32)), (.ref b61), (.ref b61)])) rfl rfl (hb hby d1_80)
          refine own_to st80 ?_
          have V80 : own_AV Value.long Z h80 b61 .long 4 (own_upd (own_upd (own_upd (own_upd (fun _ => (0 : Int64)) 0 x1) 1 x2) 2 x3) 3 x4) := own_AV.set nn80 Ar80 Sz80 Hs80 W80 rfl
          have N80 := Fr.snoc X80 N75 g_b61
          show own_Fin p e below G (T80.setTop (mkF m 81 #[.val (.int p0), .val (.long x1), .second, .val (.long x2), .second, .val (.long x3), .second, .val (.long x4), .second] [(.ref b61)]))
          have KP_81 : Keep h0 h80 [] := ((((((Keep.refl h0 []).ext E61).wr W66 (Or.inr sz_b61)).wr W70 (Or.inr sz_b61)).wr W75 (Or.inr sz_b61)).wr W80 (Or.inr sz_b61))
          exact own_retA X80 hx hlk hG Bd.returns rfl rfl (hb hby d1_81) (by decide) (by decide) (by rw [e80]; exact ⟨b61, _, _, rfl, N80, sz_b61, KP_81, V80, by simp [own_want, own_sum, own_upd, *]⟩)
theorem own_rem5 (a : Int32) : 0 ≤ ((a &&& (7 : Int32)) % (5 : Int32)).toInt ∧ ((a &&& (7 : Int32)) % (5 : Int32)).toInt ≤ 4 := by
  have h := c_and a 7 (by decide)
  have g := (c_irem (a &&& (7 : Int32)) 5 5 (by decide)).1 h.1
  omega
theorem own_pd1 : parseMethodDescriptor "(IJJJJ)[J" = some ⟨[.int, .long, .long, .long, .long], some (.array .long)⟩ := by decide +kernel
theorem own_pd2 : parseMethodDescriptor "([D[D[J[JDDZ)V" = some ⟨[(.array .double), (.array .double), (.array .long), (.array .long), .double, .double, .boolean], none⟩ := by decide +kernel
theorem own_pd3 : parseMethodDescriptor "()J" = some ⟨[], some .long⟩ := by decide +kernel
theorem ef0 (m : MethodId) (p0 : Int32) (x1 : Int64) (x2 : Int64) (x3 : Int64) (x4 : Int64) (x5 : Int64) : entryFrame m #[(.int p0), (.long x1), (.long x2), (.long x3), (.long x4), (.long x5)] maxLocals = mkF m 0 #[.val (.int p0), .val (.long x1), .second, .val (.long x2), .second, .val (.long x3), .second, .val (.long x4), .second, .val (.long x5), .second, .unset, .unset, .unset, .unset, .unset, .unset] [] := by first | (simp [entryFrame, mkF, argsToLocals, Value.category, maxLocals]; done) | rfl
def f0_84 (p0 : Int32) (x1 : Int64) (x2 : Int64) (x3 : Int64) (x4 : Int64) (x5 : Int64) (v11_8 : Int32) (w14_46 : Int64) (w14_58 : Int64) (w14_71 : Int64) (w14_84 : Int64) : Int32 := if (own_want v11_8 x1 x2 x3 x4) = w14_84 then (1 : Int32) else (0 : Int32)
def f0_71 (p0 : Int32) (x1 : Int64) (x2 : Int64) (x3 : Int64) (x4 : Int64) (x5 : Int64) (v11_8 : Int32) (w14_46 : Int64) (w14_58 : Int64) (w14_71 : Int64) : Int32 := if v11_8 < (4 : Int32) then (f0_84 p0 x1 x2 x3 x4 x5 v11_8 w14_46 w14_58 w14_71 w14_71) else (f0_84 p0 x1 x2 x3 x4 x5 v11_8 w14_46 w14_58 w14_71 (w14_71 + x4))
def f0_58 (p0 : Int32) (x1 : Int64) (x2 : Int64) (x3 : Int64) (x4 : Int64) (x5 : Int64) (v11_8 : Int32) (w14_46 : Int64) (w14_58 : Int64) : Int32 := if v11_8 < (3 : Int32) then (f0_71 p0 x1 x2 x3 x4 x5 v11_8 w14_46 w14_58 w14_58) else (f0_71 p0 x1 x2 x3 x4 x5 v11_8 w14_46 w14_58 (w14_58 + x3))
def f0_46 (p0 : Int32) (x1 : Int64) (x2 : Int64) (x3 : Int64) (x4 : Int64) (x5 : Int64) (v11_8 : Int32) (w14_46 : Int64) : Int32 := if v11_8 < (2 : Int32) then (f0_58 p0 x1 x2 x3 x4 x5 v11_8 w14_46 w14_46) else (f0_58 p0 x1 x2 x3 x4 x5 v11_8 w14_46 (w14_46 + x2))
def f0_8 (p0 : Int32) (x1 : Int64) (x2 : Int64) (x3 : Int64) (x4 : Int64) (x5 : Int64) (v11_8 : Int32) : Int32 := if v11_8 < (1 : Int32) then (f0_46 p0 x1 x2 x3 x4 x5 v11_8 (0 : Int64)) else (f0_46 p0 x1 x2 x3 x4 x5 v11_8 ((0 : Int64) + x1))
def f0 (p0 : Int32) (x1 : Int64) (x2 : Int64) (x3 : Int64) (x4 : Int64) (x5 : Int64) : Int32 := (f0_8 p0 x1 x2 x3 x4 x5 ((p0 &&& (7 : Int32)) % (5 : Int32)))
def Q0 (Z : State) (p0 : Int32) (x1 : Int64) (x2 : Int64) (x3 : Int64) (x4 : Int64) (x5 : Int64) (h0 : Heap) (n0 : Nat) (v : Option Value) (h : Heap) (L : List Loc) : Prop := v = some (.int (f0 p0 x1 x2 x3 x4 x5)) ∧ Fr n0 L ∧ True
set_option maxRecDepth 65536 in
set_option maxHeartbeats 40000000 in
theorem rm0 (l : Launch) (Z : State) (a0 : Array Value) (hw : ∀ d ∈ tables_1, d.before a0 Z = true) (ws : List Jvm.Cond) (p0 : Int32) (x1 : Int64) (x2 : Int64) (x3 : Int64) (x4 : Int64) (x5 : Int64) (h0 : Heap) (n0 : Nat) (Z0 : n0 ≤ h0.size) :
    MetFree l x (head1 (Jvm.Cond.code x code maxLocals ret :: ws) room_1) (fun a U => a = #[(.int p0), (.long x1), (.long x2), (.long x3), (.long x4), (.long x5)] ∧ Z.Warmed39 U.vm ∧ U.heap = h0) (fun _ _ _ _ _ => True) (fun _ U o U' => ∃ v L, o = .returned v ∧ Q0 Z p0 x1 x2 x3 x4 x5 h0 n0 v U'.heap L ∧ FrameEnd U o U' L room_1.cells room_1.slots) := by
  refine MetFree.of_bodySF (plainFor_of_name own_pn2) hisR ?_
  intro p e s m args below meth c s₁ Bd hml0 hP hK
  obtain ⟨rfl, hZ, hh⟩ := hP
  have hx := Bd.exec
  have hby := Bd.bytes
  have hml : c.maxLocals = 17 := hml0
  have hown : s.vm.findClass "wavegauge/simulate/MeasurementTotalAttemptsPinLaw" = some m.cls := findClass_of_methodNamed Bd.named
  have hnm := (name_of_methodNamed Bd.named Bd.method).1
  have hlk : meth.locks = false := BodyLoose.notSynchronized Bd
  have X0 : Stand p l e room_1 s m #[(.int p0), (.long x1), (.long x2), (.long x3), (.long x4), (.long x5)] below meth c s₁ [] 0 0 := Stand.of_body Bd
  have e0 : s₁.heap = h0 := by rw [← hh, Bd.state]; rfl
  have N0 := Fr.nil n0
  obtain ⟨G, hG⟩ : ∃ G, G = own_G s (Q0 Z p0 x1 x2 x3 x4 x5 h0 n0) room_1.cells room_1.slots := ⟨_, rfl⟩
  show own_Fin p e below (own_G s (Q0 Z p0 x1 x2 x3 x4 x5 h0 n0) room_1.cells room_1.slots) (s₁.setTop (entryFrame m #[(.int p0), (.long x1), (.long x2), (.long x3), (.long x4), (.long x5)] maxLocals))
  rw [← hG]
  refine own_to (fun _ kz => castTop (ef0 m p0 x1 x2 x3 x4 x5) kz) ?_
  have q0 : (f0 p0 x1 x2 x3 x4 x5) = (f0 p0 x1 x2 x3 x4 x5) := rfl
  show own_Fin p e below G (s₁.setTop (mkF m 0 #[.val (.int p0), .val (.long x1), .second, .val (.long x2), .second, .val (.long x3), .second, .val (.long x4), .second, .val (.long x5), .second, .unset, .unset, .unset, .unset, .unset, .unset] []))
  refine own_to (fun _ kz => XS.iloadN X0.here hx rfl (hb hby at_0) rfl  kz) ?_
  show own_Fin p e below G (s₁.setTop (mkF m 1 #[.val (.int p0), .val (.long x1), .second, .val (.long x2), .second, .val (.long x3), .second, .val (.long x4), .second, .val (.long x5), .second, .unset, .unset, .unset, .unset, .unset, .unset] [(.int p0)]))
  refine own_to (fun _ kz => XS.bipush X0.here hx rfl (hb hby at_1) kz) ?_
  show own_Fin p e below G (s₁.setTop (mkF m 3 #[.val (.int p0), .val (.long x1), .second, .val (.long x2), .second, .val (.long x3), .second, .val (.long x4), .second, .val (.long x5), .second, .unset, .unset, .unset, .unset, .unset, .unset] [(.int (7 : Int32)), (.int p0)]))
  refine own_to (fun _ kz => XS.iand X0.here hx rfl (hb hby at_3) rfl kz) ?_
  show own_Fin p e below G (s₁.setTop (mkF m 4 #[.val (.int p0), .val (.long x1), .second, .val (.long x2), .second, .val (.long x3), .second, .val (.long x4), .second, .val (.long x5), .second, .unset, .unset, .unset, .unset, .unset, .unset] [(.int (p0 &&& (7 : Int32)))]))
  refine own_to (fun _ kz => XS.iconst X0.here hx rfl (hb hby at_4) kz) ?_
  show own_Fin p e below G (s₁.setTop (mkF m 5 #[.val (.int p0), .val (.long x1), .second, .val (.long x2), .second, .val (.long x3), .second, .val (.long x4), .second, .val (.long x5), .second, .unset, .unset, .unset, .unset, .unset, .unset] [(.int (5 : Int32)), (.int (p0 &&& (7 : Int32)))]))
  refine own_to (fun _ kz => iremM X0 hx rfl (hb hby at_5) rfl (by decide) kz) ?_
  show own_Fin p e below G (s₁.setTop (mkF m 6 #[.val (.int p0), .val (.long x1), .second, .val (.long x2), .second, .val (.long x3), .second, .val (.long x4), .second, .val (.long x5), .second, .unset, .unset, .unset, .unset, .unset, .unset] [(.int ((p0 &&& (7 : Int32)) % (5 : Int32)))]))
  refine own_to (fun _ kz => XS.istore X0.here hx rfl (hb hby at_6) rfl (l' := #[.val (.int p0), .val (.long x1), .second, .val (.long x2), .second, .val (.long x3), .second, .val (.long x4), .second, .val (.long x5), .second, .val (.int ((p0 &&& (7 : Int32)) % (5 : Int32))), .unset, .unset, .unset, .unset, .unset]) rfl kz) ?_
  show own_Fin p e below G (s₁.setTop (mkF m 8 #[.val (.int p0), .val (.long x1), .second, .val (.long x2), .second, .val (.long x3), .second, .val (.long x4), .second, .val (.long x5), .second, .val (.int ((p0 &&& (7 : Int32)) % (5 : Int32))), .unset, .unset, .unset, .unset, .unset] []))
  have K8 : ∀ (v11_8 : Int32) (jh0_8 : 0 ≤ v11_8.toInt ∧ v11_8.toInt ≤ 4) (q_j8 : (f0 p0 x1 x2 x3 x4 x5) = (f0_8 p0 x1 x2 x3 x4 x5 v11_8)), own_Fin p e below G (s₁.setTop (mkF m 8 #[.val (.int p0), .val (.long x1), .second, .val (.long x2), .second, .val (.long x3), .second, .val (.long x4), .second, .val (.long x5), .second, .val (.int v11_8), .unset, .unset, .unset, .unset, .unset] [])) := by
    intro v11_8 jh0_8 q_j8
    refine own_to (fun _ kz => XS.iload X0.here hx rfl (hb hby at_8) rfl  kz) ?_
    show own_Fin p e below G (s₁.setTop (mkF m 10 #[.val (.int p0), .val (.long x1), .second, .val (.long x2), .second, .val (.long x3), .second, .val (.long x4), .second, .val (.long x5), .second, .val (.int v11_8), .unset, .unset, .unset, .unset, .unset] [(.int v11_8)]))
    refine own_to (fun _ kz => XS.lloadN X0.here hx rfl (hb hby at_10) rfl  kz) ?_
    show own_Fin p e below G (s₁.setTop (mkF m 11 #[.val (.int p0), .val (.long x1), .second, .val (.long x2), .second, .val (.long x3), .second, .val (.long x4), .second, .val (.long x5), .second, .val (.int v11_8), .unset, .unset, .unset, .unset, .unset] [(.long x1), (.int v11_8)]))
    refine own_to (fun _ kz => XS.lloadN X0.here hx rfl (hb hby at_11) rfl  kz) ?_
    show own_Fin p e below G (s₁.setTop (mkF m 12 #[.val (.int p0), .val (.long x1), .second, .val (.long x2), .second, .val (.long x3), .second, .val (.long x4), .second, .val (.long x5), .second, .val (.int v11_8), .unset, .unset, .unset, .unset, .unset] [(.long x2), (.long x1), (.int v11_8)]))
    refine own_to (fun _ kz => XS.lload X0.here hx rfl (hb hby at_12) rfl  kz) ?_
    show own_Fin p e below G (s₁.setTop (mkF m 14 #[.val (.int p0), .val (.long x1), .second, .val (.long x2), .second, .val (.long x3), .second, .val (.long x4), .second, .val (.long x5), .second, .val (.int v11_8), .unset, .unset, .unset, .unset, .unset] [(.long x3), (.long x2), (.long x1), (.int v11_8)]))
    refine own_to (fun _ kz => XS.lload X0.here hx rfl (hb hby at_14) rfl  kz) ?_
    show own_Fin p e below G (s₁.setTop (mkF m 16 #[.val (.int p0), .val (.long x1), .second, .val (.long x2), .second, .val (.long x3), .second, .val (.long x4), .second, .val (.long x5), .second, .val (.int v11_8), .unset, .unset, .unset, .unset, .unset] [(.long x4), (.long x3), (.long x2), (.long x1), (.int v11_8)]))
    obtain ⟨_, _, ⟨T16, L16, k16, n16⟩, -, X16, ⟨Lc16, hQ16, l16, y16, z16⟩, st16⟩ := Jvm.LawKit.callS X0 hx (y := (⟨"wavegauge/simulate/MeasurementTotalAttemptsPinLaw", "build", "(IJJJJ)[J"⟩ : MethodName)) hown (mvT hZ (hw _ (List.mem_of_getElem? (i := 0) rfl))) (mvT hZ (hw _ (List.mem_of_getElem? (i := 1) rfl))) (mvT hZ (hw _ (List.mem_of_getElem? (i := 2) rfl))) (mvT hZ (hw _ (List.mem_of_getElem? (i := 3) rfl))) (by decide) (backOf (W := 0) (rm1 l Z a0 hw [] v11_8 x1 x2 x3 x4 h0 n0 Z0 ) hZ (hw _ (List.mem_of_getElem? (i := 3) rfl)) (hw _ (List.mem_of_getElem? (i := 2) rfl)) (by decide) (by decide)) (g := (mkF m 16 #[.val (.int p0), .val (.long x1), .second, .val (.long x2), .second, .val (.long x3), .second, .val (.long x4), .second, .val (.long x5), .second, .val (.int v11_8), .unset, .unset, .unset, .unset, .unset] [(.long x4), (.long x3), (.long x2), (.long x1), (.int v11_8)])) rfl (by rw [hml]; rfl) (argsL := [(.int v11_8), (.long x1), (.long x2), (.long x3), (.long x4)]) (rest := []) (lenOf own_pd1 rfl) rfl (by show 2 * 0 + _ ≤ _; exact Nat.le_of_eq rfl) (hb hby at_16) (fun _ _ => ⟨rfl, e0, (by decide : 0 + 1 ≤ _), (by decide : 0 + 4 ≤ _)⟩)
    dsimp only [Pt.U, Pt.locs, Pt.cells, Pt.slots] at X16 l16 y16 z16 st16 hQ16
    subst l16 y16 z16
    obtain ⟨b16, nb16, fb16, rfl, N16q, szq16, Kp16, V16, hs16⟩ := hQ16
    have g_b16 : n0 ≤ b16 := Nat.le_trans Z0 szq16
    have N16 := Fr.app N0 N16q
    refine own_to st16 ?_
    show own_Fin p e below G (T16.setTop (mkF m 19 #[.val (.int p0), .val (.long x1), .second, .val (.long x2), .second, .val (.long x3), .second, .val (.long x4), .second, .val (.long x5), .second, .val (.int v11_8), .unset, .unset, .unset, .unset, .unset] [(.ref b16)]))
    refine own_to (fun _ kz => XS.astore X16.here hx rfl (hb hby at_19) rfl (rfl) (l' := #[.val (.int p0), .val (.long x1), .second, .val (.long x2), .second, .val (.long x3), .second, .val (.long x4), .second, .val (.long x5), .second, .val (.int v11_8), .val (.ref b16), .unset, .unset, .unset, .unset]) rfl kz) ?_
    show own_Fin p e below G (T16.setTop (mkF m 21 #[.val (.int p0), .val (.long x1), .second, .val (.long x2), .second, .val (.long x3), .second, .val (.long x4), .second, .val (.long x5), .second, .val (.int v11_8), .val (.ref b16), .unset, .unset, .unset, .unset] []))
    refine own_to (fun _ kz => XS.iconst X16.here hx rfl (hb hby at_21) kz) ?_
    show own_Fin p e below G (T16.setTop (mkF m 22 #[.val (.int p0), .val (.long x1), .second, .val (.long x2), .second, .val (.long x3), .second, .val (.long x4), .second, .val (.long x5), .second, .val (.int v11_8), .val (.ref b16), .unset, .unset, .unset, .unset] [(.int (1 : Int32))]))
    have Z_22 : n0 ≤ T16.heap.size := (Nat.le_trans Z0 Kp16.1)
    obtain ⟨T22, h22, k22, X22, e22, E22, A22, st22⟩ := newP X16 hx hZ (hw _ (List.mem_of_getElem? (i := 4) rfl)) rfl (g := (mkF m 22 #[.val (.int p0), .val (.long x1), .second, .val (.long x2), .second, .val (.long x3), .second, .val (.long x4), .second, .val (.long x5), .second, .val (.int v11_8), .val (.ref b16), .unset, .unset, .unset, .unset] [(.int (1 : Int32))])) rfl (hb hby at_22) rfl (by decide) (cap := 1) (by decide) (by decide) (by decide) (by decide)
    obtain ⟨b22, g22⟩ : ∃ z, z = T16.heap.size := ⟨_, rfl⟩
    rw [← g22] at A22 st22
    refine own_to st22 ?_
    have ne_b16_b22 : b16 ≠ b22 := Nat.ne_of_lt (Nat.lt_of_lt_of_le V16.lt (Nat.le_of_eq g22.symm))
    have g_b22 : n0 ≤ b22 := Nat.le_trans Z_22 (Nat.le_of_eq g22.symm)
    have V22 : own_AV Value.long Z h22 b22 .long 1 (fun _ => (0 : Int64)) := own_AV.new A22 (by decide) (by decide) (fun _ => rfl)
    show own_Fin p e below G (T22.setTop (mkF m 24 #[.val (.int p0), .val (.long x1), .second, .val (.long x2), .second, .val (.long x3), .second, .val (.long x4), .second, .val (.long x5), .second, .val (.int v11_8), .val (.ref b16), .unset, .unset, .unset, .unset] [(.ref b22)]))
    refine own_to (fun _ kz => XS.dup X22.here hx rfl (hb hby at_24) rfl rfl kz) ?_
    show own_Fin p e below G (T22.setTop (mkF m 25 #[.val (.int p0), .val (.long x1), .second, .val (.long x2), .second, .val (.long x3), .second, .val (.long x4), .second, .val (.long x5), .second, .val (.int v11_8), .val (.ref b16), .unset, .unset, .unset, .unset] [(.ref b22), (.ref b22)]))
    refine own_to (fun _ kz => XS.iconst X22.here hx rfl (hb hby at_25) kz) ?_
    show own_Fin p e below G (T22.setTop (mkF m 26 #[.val (.int p0), .val (.long x1), .second, .val (.long x2), .second, .val (.long x3), .second, .val (.long x4), .second, .val (.long x5), .second, .val (.int v11_8), .val (.ref b16), .unset, .unset, .unset, .unset] [(.int (0 : Int32)), (.ref b22), (.ref b22)]))
    refine own_to (fun _ kz => XS.lload X22.here hx rfl (hb hby at_26) rfl  kz) ?_
    show own_Fin p e below G (T22.setTop (mkF m 28 #[.val (.int p0), .val (.long x1), .second, .val (.long x2), .second, .val (.long x3), .second, .val (.long x4), .second, .val (.long x5), .second, .val (.int v11_8), .val (.ref b16), .unset, .unset, .unset, .unset] [(.long x5), (.int (0 : Int32)), (.ref b22), (.ref b22)]))
    obtain ⟨nn28, cl28, Ar28, Sz28, Hs28⟩ := V22
    obtain ⟨T28, h28, X28, e28, W28, st28⟩ := stJ X22 hx hZ e22 Ar28 (j := (0 : Int32)) (own_in Sz28 (by decide) rfl (by decide)) (g := (mkF m 28 #[.val (.int p0), .val (.long x1), .second, .val (.long x2), .second, .val (.long x3), .second, .val (.long x4), .second, .val (.long x5), .second, .val (.int v11_8), .val (.ref b16), .unset, .unset, .unset, .unset] [(.long x5), (.int (0 : Int32)), (.ref b22), (.ref b22)])) rfl rfl (hb hby at_28)
    refine own_to st28 ?_
    have V28 : own_AV Value.long Z h28 b22 .long 1 (own_upd (fun _ => (0 : Int64)) 0 x5) := own_AV.set nn28 Ar28 Sz28 Hs28 W28 rfl
    have N28 := Fr.snoc X28 N16 g_b22
    show own_Fin p e below G (T28.setTop (mkF m 29 #[.val (.int p0), .val (.long x1), .second, .val (.long x2), .second, .val (.long x3), .second, .val (.long x4), .second, .val (.long x5), .second, .val (.int v11_8), .val (.ref b16), .unset, .unset, .unset, .unset] [(.ref b22)]))
    refine own_to (fun _ kz => XS.astore X28.here hx rfl (hb hby at_29) rfl (rfl) (l' := #[.val (.int p0), .val (.long x1), .second, .val (.long x2), .second, .val (.long x3), .second, .val (.long x4), .second, .val (.long x5), .second, .val (.int v11_8), .val (.ref b16), .val (.ref b22), .unset, .unset, .unset]) rfl kz) ?_
    show own_Fin p e below G (T28.setTop (mkF m 31 #[.val (.int p0), .val (.long x1), .second, .val (.long x2), .second, .val (.long x3), .second, .val (.long x4), .second, .val (.long x5), .second, .val (.int v11_8), .val (.ref b16), .val (.ref b22), .unset, .unset, .unset] []))
    refine own_to (fun _ kz => XS.lconst X28.here hx rfl (hb hby at_31) kz) ?_
    show own_Fin p e below G (T28.setTop (mkF m 32 #[.val (.int p0), .val (.long x1), .second, .val (.long x2), .second, .val (.long x3), .second, .val (.long x4), .second, .val (.long x5), .second, .val (.int v11_8), .val (.ref b16), .val (.ref b22), .unset, .unset, .unset] [(.long (0 : Int64))]))
    refine own_to (fun _ kz => XS.lstore X28.here hx rfl (hb hby at_32) rfl (l' := #[.val (.int p0), .val (.long x1), .second, .val (.long x2), .second, .val (.long x3), .second, .val (.long x4), .second, .val (.long x5), .second, .val (.int v11_8), .val (.ref b16), .val (.ref b22), .val (.long (0 : Int64)), .second, .unset]) rfl kz) ?_
    show own_Fin p e below G (T28.setTop (mkF m 34 #[.val (.int p0), .val (.long x1), .second, .val (.long x2), .second, .val (.long x3), .second, .val (.long x4), .second, .val (.long x5), .second, .val (.int v11_8), .val (.ref b16), .val (.ref b22), .val (.long (0 : Int64)), .second, .unset] []))
    refine own_to (fun _ kz => XS.iload X28.here hx rfl (hb hby at_34) rfl  kz) ?_
    show own_Fin p e below G (T28.setTop (mkF m 36 #[.val (.int p0), .val (.long x1), .second, .val (.long x2), .second, .val (.long x3), .second, .val (.long x4), .second, .val (.long x5), .second, .val (.int v11_8), .val (.ref b16), .val (.ref b22), .val (.long (0 : Int64)), .second, .unset] [(.int v11_8)]))
    refine own_to (fun _ kz => XS.iconst X28.here hx rfl (hb hby at_36) kz) ?_
    show own_Fin p e below G (T28.setTop (mkF m 37 #[.val (.int p0), .val (.long x1), .second, .val (.long x2), .second, .val (.long x3), .second, .val (.long x4), .second, .val (.long x5), .second, .val (.int v11_8), .val (.ref b16), .val (.ref b22), .val (.long (0 : Int64)), .second, .unset] [(.int (1 : Int32)), (.int v11_8)]))
    have K46 : ∀ (w14_46 : Int64) (q_j46 : (f0 p0 x1 x2 x3 x4 x5) = (f0_46 p0 x1 x2 x3 x4 x5 v11_8 w14_46)), own_Fin p e below G (T28.setTop (mkF m 46 #[.val (.int p0), .val (.long x1), .second, .val (.long x2), .second, .val (.long x3), .second, .val (.long x4), .second, .val (.long x5), .second, .val (.int v11_8), .val (.ref b16), .val (.ref b22), .val (.long w14_46), .second, .unset] [])) := by
      intro w14_46 q_j46
      refine own_to (fun _ kz => XS.iload X28.here hx rfl (hb hby at_46) rfl  kz) ?_
      show own_Fin p e below G (T28.setTop (mkF m 48 #[.val (.int p0), .val (.long x1), .second, .val (.long x2), .second, .val (.long x3), .second, .val (.long x4), .second, .val (.long x5), .second, .val (.int v11_8), .val (.ref b16), .val (.ref b22), .val (.long w14_46), .second, .unset] [(.int v11_8)]))
      refine own_to (fun _ kz => XS.iconst X28.here hx rfl (hb hby at_48) kz) ?_
      show own_Fin p e below G (T28.setTop (mkF m 49 #[.val (.int p0), .val (.long x1), .second, .val (.long x2), .second, .val (.long x3), .second, .val (.long x4), .second, .val (.long x5), .second, .val (.int v11_8), .val (.ref b16), .val (.ref b22), .val (.long w14_46), .second, .unset] [(.int (2 : Int32)), (.int v11_8)]))
      have K58 : ∀ (w14_58 : Int64) (q_j58 : (f0 p0 x1 x2 x3 x4 x5) = (f0_58 p0 x1 x2 x3 x4 x5 v11_8 w14_46 w14_58)), own_Fin p e below G (T28.setTop (mkF m 58 #[.val (.int p0), .val (.long x1), .second, .val (.long x2), .second, .val (.long x3), .second, .val (.long x4), .second, .val (.long x5), .second, .val (.int v11_8), .val (.ref b16), .val (.ref b22), .val (.long w14_58), .second, .unset] [])) := by
        intro w14_58 q_j58
        refine own_to (fun _ kz => XS.iload X28.here hx rfl (hb hby at_58) rfl  kz) ?_
        show own_Fin p e below G (T28.setTop (mkF m 60 #[.val (.int p0), .val (.long x1), .second, .val (.long x2), .second, .val (.long x3), .second, .val (.long x4), .second, .val (.long x5), .second, .val (.int v11_8), .val (.ref b16), .val (.ref b22), .val (.long w14_58), .second, .unset] [(.int v11_8)]))
        refine own_to (fun _ kz => XS.iconst X28.here hx rfl (hb hby at_60) kz) ?_
        show own_Fin p e below G (T28.setTop (mkF m 61 #[.val (.int p0), .val (.long x1), .second, .val (.long x2), .second, .val (.long x3), .second, .val (.long x4), .second, .val (.long x5), .second, .val (.int v11_8), .val (.ref b16), .val (.ref b22), .val (.long w14_58), .second, .unset] [(.int (3 : Int32)), (.int v11_8)]))
        have K71 : ∀ (w14_71 : Int64) (q_j71 : (f0 p0 x1 x2 x3 x4 x5) = (f0_71 p0 x1 x2 x3 x4 x5 v11_8 w14_46 w14_58 w14_71)), own_Fin p e below G (T28.setTop (mkF m 71 #[.val (.int p0), .val (.long x1), .second, .val (.long x2), .second, .val (.long x3), .second, .val (.long x4), .second, .val (.long x5), .second, .val (.int v11_8), .val (.ref b16), .val (.ref b22), .val (.long w14_71), .second, .unset] [])) := by
          intro w14_71 q_j71
          refine own_to (fun _ kz => XS.iload X28.here hx rfl (hb hby at_71) rfl  kz) ?_
          show own_Fin p e below G (T28.setTop (mkF m 73 #[.val (.int p0), .val (.long x1), .second, .val (.long x2), .second, .val (.long x3), .second, .val (.long x4), .second, .val (.long x5), .second, .val (.int v11_8), .val (.ref b16), .val (.ref b22), .val (.long w14_71), .second, .unset] [(.int v11_8)]))
          refine own_to (fun _ kz => XS.iconst X28.here hx rfl (hb hby at_73) kz) ?_
          show own_Fin p e below G (T28.setTop (mkF m 74 #[.val (.int p0), .val (.long x1), .second, .val (.long x2), .second, .val (.long x3), .second, .val (.long x4), .second, .val (.long x5), .second, .val (.int v11_8), .val (.ref b16), .val (.ref b22), .val (.long w14_71), .second, .unset] [(.int (4 : Int32)), (.int v11_8)]))
          have K84 : ∀ (w14_84 : Int64) (q_j84 : (f0 p0 x1 x2 x3 x4 x5) = (f0_84 p0 x1 x2 x3 x4 x5 v11_8 w14_46 w14_58 w14_71 w14_84)), own_Fin p e below G (T28.setTop (mkF m 84 #[.val (.int p0), .val (.long x1), .second, .val (.long x2), .second, .val (.long x3), .second, .val (.long x4), .second, .val (.long x5), .second, .val (.int v11_8), .val (.ref b16), .val (.ref b22), .val (.long w14_84), .second, .unset] [])) := by
            intro w14_84 q_j84
            have Z_84 : n0 ≤ h28.size := (Nat.le_trans (Nat.le_trans Z_22 E22.1) (Keep.of_wr W28).1)
            obtain ⟨T84, h84, X84, e84, E84, A84, D84, -, st84⟩ := newO X28 hx hZ hown (hw _ (List.mem_of_getElem? (i := 5) rfl)) (hw _ (List.mem_of_getElem? (i := 6) rfl)) (hw _ (List.mem_of_getElem? (i := 7) rfl)) e28 (g := (mkF m 84 #[.val (.int p0), .val (.long x1), .second, .val (.long x2), .second, .val (.long x3), .second, .val (.long x4), .second, .val (.long x5), .second, .val (.int v11_8), .val (.ref b16), .val (.ref b22), .val (.long w14_84), .second, .unset] [])) rfl (hb hby at_84) (by decide) (by decide)
            obtain ⟨b84, g84⟩ : ∃ z, z = h28.size := ⟨_, rfl⟩
            rw [← g84] at A84 D84 st84
            refine own_to st84 ?_
            have ne_b16_b84 : b16 ≠ b84 := Nat.ne_of_lt (Nat.lt_of_lt_of_le ((V16.ext E22).other W28 ne_b16_b22).lt (Nat.le_of_eq g84.symm))
            have ne_b22_b84 : b22 ≠ b84 := Nat.ne_of_lt (Nat.lt_of_lt_of_le V28.lt (Nat.le_of_eq g84.symm))
            have g_b84 : n0 ≤ b84 := Nat.le_trans Z_84 (Nat.le_of_eq g84.symm)
            have F_blocking_b84 : Fld Z h84 b84 "wavegauge/simulate/Measurement" "blocking" "[D" .null := D84 (Or.inr (hw _ (List.mem_of_getElem? (i := 21) rfl))) (ty := (.array .double)) (by decide)
            have F_halfWidth_b84 : Fld Z h84 b84 "wavegauge/simulate/Measurement" "halfWidth" "[D" .null := D84 (Or.inr (hw _ (List.mem_of_getElem? (i := 23) rfl))) (ty := (.array .double)) (by decide)
            have F_attempts_b84 : Fld Z h84 b84 "wavegauge/simulate/Measurement" "attempts" "[J" .null := D84 (Or.inr (hw _ (List.mem_of_getElem? (i := 25) rfl))) (ty := (.array .long)) (by decide)
            have F_blocked_b84 : Fld Z h84 b84 "wavegauge/simulate/Measurement" "blocked" "[J" .null := D84 (Or.inr (hw _ (List.mem_of_getElem? (i := 27) rfl))) (ty := (.array .long)) (by decide)
            have F_networkBlocking_b84 : Fld Z h84 b84 "wavegauge/simulate/Measurement" "networkBlocking" "D" (.double 0) := D84 (Or.inr (hw _ (List.mem_of_getElem? (i := 29) rfl))) (ty := .double) (by decide)
            have F_networkHalfWidth_b84 : Fld Z h84 b84 "wavegauge/simulate/Measurement" "networkHalfWidth" "D" (.double 0) := D84 (Or.inr (hw _ (List.mem_of_getElem? (i := 31) rfl))) (ty := .double) (by decide)
            have F_stoppedByRule_b84 : Fld Z h84 b84 "wavegauge/simulate/Measurement" "stoppedByRule" "Z" (.int (0 : Int32)) := D84 (Or.inr (hw _ (List.mem_of_getElem? (i := 33) rfl))) (ty := .boolean) (by decide)
            show own_Fin p e below G (T84.setTop (mkF m 87 #[.val (.int p0), .val (.long x1), .second, .val (.long x2), .second, .val (.long x3), .second, .val (.long x4), .second, .val (.long x5), .second, .val (.int v11_8), .val (.ref b16), .val (.ref b22), .val (.long w14_84), .second, .unset] [(.ref b84)]))
            refine own_to (fun _ kz => XS.dup X84.here hx rfl (hb hby at_87) rfl rfl kz) ?_
            show own_Fin p e below G (T84.setTop (mkF m 88 #[.val (.int p0), .val (.long x1), .second, .val (.long x2), .second, .val (.long x3), .second, .val (.long x4), .second, .val (.long x5), .second, .val (.int v11_8), .val (.ref b16), .val (.ref b22), .val (.long w14_84), .second, .unset] [(.ref b84), (.ref b84)]))
            refine own_to (fun _ kz => XS.iconst X84.here hx rfl (hb hby at_88) kz) ?_
            show own_Fin p e below G (T84.setTop (mkF m 89 #[.val (.int p0), .val (.long x1), .second, .val (.long x2), .second, .val (.long x3), .second, .val (.long x4), .second, .val (.long x5), .second, .val (.int v11_8), .val (.ref b16), .val (.ref b22), .val (.long w14_84), .second, .unset] [(.int (0 : Int32)), (.ref b84), (.ref b84)]))
            have Z_89 : n0 ≤ h84.size := (Nat.le_trans Z_84 E84.1)
            obtain ⟨T89, h89, k89, X89, e89, E89, A89, st89⟩ := newP X84 hx hZ (hw _ (List.mem_of_getElem? (i := 8) rfl)) e84 (g := (mkF m 89 #[.val (.int p0), .val (.long x1), .second, .val (.long x2), .second, .val (.long x3), .second, .val (.long x4), .second, .val (.long x5), .second, .val (.int v11_8), .val (.ref b16), .val (.ref b22), .val (.long w14_84), .second, .unset] [(.int (0 : Int32)), (.ref b84), (.ref b84)])) rfl (hb hby at_89) rfl (by decide) (cap := 0) (by decide) (by decide) (by decide) (by decide)
            obtain ⟨b89, g89⟩ : ∃ z, z = h84.size := ⟨_, rfl⟩
            rw [← g89] at A89 st89
            refine own_to st89 ?_
            have ne_b16_b89 : b16 ≠ b89 := Nat.ne_of_lt (Nat.lt_of_lt_of_le (((V16.ext E22).other W28 ne_b16_b22).ext E84).lt (Nat.le_of_eq g89.symm))
            have ne_b22_b89 : b22 ≠ b89 := Nat.ne_of_lt (Nat.lt_of_lt_of_le (V28.ext E84).lt (Nat.le_of_eq g89.symm))
            have ne_b84_b89 : b84 ≠ b89 := Nat.ne_of_lt (Nat.lt_of_lt_of_le A84.lt (Nat.le_of_eq g89.symm))
            have g_b89 : n0 ≤ b89 := Nat.le_trans Z_89 (Nat.le_of_eq g89.symm)
            have V89 : own_AV Value.double Z h89 b89 .double 0 (fun _ => (0 : UInt64)) := own_AV.new A89 (by decide) (by decide) (fun _ => rfl)
            show own_Fin p e below G (T89.setTop (mkF m 91 #[.val (.int p0), .val (.long x1), .second, .val (.long x2), .second, .val (.long x3), .second, .val (.long x4), .second, .val (.long x5), .second, .val (.int v11_8), .val (.ref b16), .val (.ref b22), .val (.long w14_84), .second, .unset] [(.ref b89), (.ref b84), (.ref b84)]))
            refine own_to (fun _ kz => XS.iconst X89.here hx rfl (hb hby at_91) kz) ?_
            show own_Fin p e below G (T89.setTop (mkF m 92 #[.val (.int p0), .val (.long x1), .second, .val (.long x2), .second, .val (.long x3), .second, .val (.long x4), .second, .val (.long x5), .second, .val (.int v11_8), .val (.ref b16), .val (.ref b22), .val (.long w14_84), .second, .unset] [(.int (0 : Int32)), (.ref b89), (.ref b84), (.ref b84)]))
            have Z_92 : n0 ≤ h89.size := (Nat.le_trans Z_89 E89.1)
            obtain ⟨T92, h92, k92, X92, e92, E92, A92, st92⟩ := newP X89 hx hZ (hw _ (List.mem_of_getElem? (i := 8) rfl)) e89 (g := (mkF m 92 #[.val (.int p0), .val (.long x1), .second, .val (.long x2), .second, .val (.long x3), .second, .val (.long x4), .second, .val (.long x5), .second, .val (.int v11_8), .val (.ref b16), .val (.ref b22), .val (.long w14_84), .second, .unset] [(.int (0 : Int32)), (.ref b89), (.ref b84), (.ref b84)])) rfl (hb hby at_92) rfl (by decide) (cap := 0) (by decide) (by decide) (by decide) (by decide)
            obtain ⟨b92, g92⟩ : ∃ z, z = h89.size := ⟨_, rfl⟩
            rw [← g92] at A92 st92
            refine own_to st92 ?_
            have ne_b16_b92 : b16 ≠ b92 := Nat.ne_of_lt (Nat.lt_of_lt_of_le ((((V16.ext E22).other W28 ne_b16_b22).ext E84).ext E89).lt (Nat.le_of_eq g92.symm))
            have ne_b22_b92 : b22 ≠ b92 := Nat.ne_of_lt (Nat.lt_of_lt_of_le ((V28.ext E84).ext E89).lt (Nat.le_of_eq g92.symm))
            have ne_b84_b92 : b84 ≠ b92 := Nat.ne_of_lt (Nat.lt_of_lt_of_le (A84.ext E89).lt (Nat.le_of_eq g92.symm))
            have ne_b89_b92 : b89 ≠ b92 := Nat.ne_of_lt (Nat.lt_of_lt_of_le V89.lt (Nat.le_of_eq g92.symm))
            have g_b92 : n0 ≤ b92 := Nat.le_trans Z_92 (Nat.le_of_eq g92.symm)
            have V92 : own_AV Value.double Z h92 b92 .double 0 (fun _ => (0 : UInt64)) := own_AV.new A92 (by decide) (by decide) (fun _ => rfl)
            show own_Fin p e below G (T92.setTop (mkF m 94 #[.val (.int p0), .val (.long x1), .second, .val (.long x2), .second, .val (.long x3), .second, .val (.long x4), .second, .val (.long x5), .second, .val (.int v11_8), .val (.ref b16), .val (.ref b22), .val (.long w14_84), .second, .unset] [(.ref b92), (.ref b89), (.ref b84), (.ref b84)]))
            refine own_to (fun _ kz => XS.aload X92.here hx rfl (hb hby at_94) rfl (rfl)  kz) ?_
            show own_Fin p e below G (T92.setTop (mkF m 96 #[.val (.int p0), .val (.long x1), .second, .val (.long x2), .second, .val (.long x3), .second, .val (.long x4), .second, .val (.long x5), .second, .val (.int v11_8), .val (.ref b16), .val (.ref b22), .val (.long w14_84), .second, .unset] [(.ref b16), (.ref b92), (.ref b89), (.ref b84), (.ref b84)]))
            refine own_to (fun _ kz => XS.aload X92.here hx rfl (hb hby at_96) rfl (rfl)  kz) ?_
            show own_Fin p e below G (T92.setTop (mkF m 98 #[.val (.int p0), .val (.long x1), .second, .val (.long x2), .second, .val (.long x3), .second, .val (.long x4), .second, .val (.long x5), .second, .val (.int v11_8), .val (.ref b16), .val (.ref b22), .val (.long w14_84), .second, .unset] [(.ref b22), (.ref b16), (.ref b92), (.ref b89), (.ref b84), (.ref b84)]))
            refine own_to (fun _ kz => XS.dconst0 X92.here hx rfl (hb hby at_98) rfl kz) ?_
            show own_Fin p e below G (T92.setTop (mkF m 99 #[.val (.int p0), .val (.long x1), .second, .val (.long x2), .second, .val (.long x3), .second, .val (.long x4), .second, .val (.long x5), .second, .val (.int v11_8), .val (.ref b16), .val (.ref b22), .val (.long w14_84), .second, .unset] [(.double FP.dconst0), (.ref b22), (.ref b16), (.ref b92), (.ref b89), (.ref b84), (.ref b84)]))
            refine own_to (fun _ kz => XS.dconst0 X92.here hx rfl (hb hby at_99) rfl kz) ?_
            show own_Fin p e below G (T92.setTop (mkF m 100 #[.val (.int p0), .val (.long x1), .second, .val (.long x2), .second, .val (.long x3), .second, .val (.long x4), .second, .val (.long x5), .second, .val (.int v11_8), .val (.ref b16), .val (.ref b22), .val (.long w14_84), .second, .unset] [(.double FP.dconst0), (.double FP.dconst0), (.ref b22), (.ref b16), (.ref b92), (.ref b89), (.ref b84), (.ref b84)]))
            refine own_to (fun _ kz => XS.iconst X92.here hx rfl (hb hby at_100) kz) ?_
            show own_Fin p e below G (T92.setTop (mkF m 101 #[.val (.int p0), .val (.long x1), .second, .val (.long x2), .second, .val (.long x3), .second, .val (.long x4), .second, .val (.long x5), .second, .val (.int v11_8), .val (.ref b16), .val (.ref b22), .val (.long w14_84), .second, .unset] [(.int (0 : Int32)), (.double FP.dconst0), (.double FP.dconst0), (.ref b22), (.ref b16), (.ref b92), (.ref b89), (.ref b84), (.ref b84)]))
            have A84_at_101 : Exa Z h92 b84 "wavegauge/simulate/Measurement" := ((A84.ext E89).ext E92)
            have F_blocking_b84_at_101 : Fld Z h92 b84 "wavegauge/simulate/Measurement" "blocking" "[D" .null := ((F_blocking_b84.ext E89).ext E92)
            have F_halfWidth_b84_at_101 : Fld Z h92 b84 "wavegauge/simulate/Measurement" "halfWidth" "[D" .null := ((F_halfWidth_b84.ext E89).ext E92)
            have F_at_101 : Fld Z h92 b84 "wavegauge/simulate/Measurement" "attempts" "[J" .null := ((F_attempts_b84.ext E89).ext E92)
            have F_blocked_b84_at_101 : Fld Z h92 b84 "wavegauge/simulate/Measurement" "blocked" "[J" .null := ((F_blocked_b84.ext E89).ext E92)
            have F_networkBlocking_b84_at_101 : Fld Z h92 b84 "wavegauge/simulate/Measurement" "networkBlocking" "D" (.double 0) := ((F_networkBlocking_b84.ext E89).ext E92)
            have F_networkHalfWidth_b84_at_101 : Fld Z h92 b84 "wavegauge/simulate/Measurement" "networkHalfWidth" "D" (.double 0) := ((F_networkHalfWidth_b84.ext E89).ext E92)
            have F_stoppedByRule_b84_at_101 : Fld Z h92 b84 "wavegauge/simulate/Measurement" "stoppedByRule" "Z" (.int (0 : Int32)) := ((F_stoppedByRule_b84.ext E89).ext E92)
            have Z_101 : n0 ≤ h92.size := (Nat.le_trans Z_92 E92.1)
            obtain ⟨_, _, ⟨T101, L101, k101, n101⟩, -, X101, ⟨Lc101, hQ101, l101, y101, z101⟩, st101⟩ := X92.specialBack hx (y := (⟨"wavegauge/simulate/Measurement", "<init>", "([D[D[J[JDDZ)V"⟩ : MethodName)) rfl hown (mvT hZ (hw _ (List.mem_of_getElem? (i := 9) rfl))) (mvT hZ (hw _ (List.mem_of_getElem? (i := 10) rfl))) (mvT hZ (hw _ (List.mem_of_getElem? (i := 11) rfl))) (by decide) (backOf (W := 1) (rm2 l Z a0 hw [] b84 b89 b92 b16 b22 FP.dconst0 FP.dconst0 (0 : Int32) h92 n0 Z_101 A84_at_101 F_blocking_b84_at_101 F_halfWidth_b84_at_101 F_at_101 F_blocked_b84_at_101 F_networkBlocking_b84_at_101 F_networkHalfWidth_b84_at_101 F_stoppedByRule_b84_at_101 g_b84) hZ (hw _ (List.mem_of_getElem? (i := 11) rfl)) (hw _ (List.mem_of_getElem? (i := 7) rfl)) (by decide) (by decide)) (g := (mkF m 101 #[.val (.int p0), .val (.long x1), .second, .val (.long x2), .second, .val (.long x3), .second, .val (.long x4), .second, .val (.long x5), .second, .val (.int v11_8), .val (.ref b16), .val (.ref b22), .val (.long w14_84), .second, .unset] [(.int (0 : Int32)), (.double FP.dconst0), (.double FP.dconst0), (.ref b22), (.ref b16), (.ref b92), (.ref b89), (.ref b84), (.ref b84)])) rfl (by rw [hml]; rfl) (Steps.refl _) (a := b84) (argsL := [(.ref b89), (.ref b92), (.ref b16), (.ref b22), (.double FP.dconst0), (.double FP.dconst0), (.int (0 : Int32))]) (rest := [(.ref b84)]) (lenOf own_pd2 rfl) rfl (by show 2 * 0 + _ ≤ _; exact Nat.le_of_eq rfl) (hb hby at_101) (fun _ _ => ⟨rfl, e92, (by decide : 5 + 0 ≤ _), (by decide : 12 + 0 ≤ _)⟩)
            dsimp only [Pt.U, Pt.locs, Pt.cells, Pt.slots] at X101 l101 y101 z101 st101 hQ101
            subst l101 y101 z101
            obtain ⟨rfl, N101q, Kp101, P101_0, P101_1, P101_2, P101_3, P101_4, P101_5, P101_6, P101_7⟩ := hQ101
            have N101 := Fr.app N28 N101q
            refine own_via st101 ?_
            show own_Fin p e below G (T101.setTop (mkF m 104 #[.val (.int p0), .val (.long x1), .second, .val (.long x2), .second, .val (.long x3), .second, .val (.long x4), .second, .val (.long x5), .second, .val (.int v11_8), .val (.ref b16), .val (.ref b22), .val (.long w14_84), .second, .unset] [(.ref b84)]))
            refine own_to (fun _ kz => XS.astore X101.here hx rfl (hb hby at_104) rfl (rfl) (l' := #[.val (.int p0), .val (.long x1), .second, .val (.long x2), .second, .val (.long x3), .second, .val (.long x4), .second, .val (.long x5), .second, .val (.int v11_8), .val (.ref b16), .val (.ref b22), .val (.long w14_84), .second, .val (.ref b84)]) rfl kz) ?_
            show own_Fin p e below G (T101.setTop (mkF m 106 #[.val (.int p0), .val (.long x1), .second, .val (.long x2), .second, .val (.long x3), .second, .val (.long x4), .second, .val (.long x5), .second, .val (.int v11_8), .val (.ref b16), .val (.ref b22), .val (.long w14_84), .second, .val (.ref b84)] []))
            refine own_to (fun _ kz => XS.aload X101.here hx rfl (hb hby at_106) rfl (rfl)  kz) ?_
            show own_Fin p e below G (T101.setTop (mkF m 108 #[.val (.int p0), .val (.long x1), .second, .val (.long x2), .second, .val (.long x3), .second, .val (.long x4), .second, .val (.long x5), .second, .val (.int v11_8), .val (.ref b16), .val (.ref b22), .val (.long w14_84), .second, .val (.ref b84)] [(.ref b84)]))
            have V16_at_108 : own_AV Value.long Z T101.heap b16 .long nb16 fb16 := ((((((V16.ext E22).other W28 ne_b16_b22).ext E84).ext E89).ext E92).keep Kp101 (ninS ne_b16_b84 nin0))
            have Z_108 : n0 ≤ T101.heap.size := (Nat.le_trans Z_101 Kp101.1)
            obtain ⟨cq108, kq108, qa108, qb108, qc108⟩ := isOf hZ rfl P101_0
            obtain ⟨_, _, ⟨T108, L108, k108, n108⟩, -, X108, ⟨Lc108, hQ108, l108, y108, z108⟩, st108⟩ := X101.virtualBack hx (y := (⟨"wavegauge/simulate/Measurement", "totalAttempts", "()J"⟩ : MethodName)) (z := (⟨"wavegauge/simulate/Measurement", "totalAttempts", "()J"⟩ : MethodName)) hown (mvT hZ (hw _ (List.mem_of_getElem? (i := 34) rfl))) (mvT hZ (hw _ (List.mem_of_getElem? (i := 35) rfl))) (notFace_of_selects (args := #[]) (mvT hZ (hw _ (List.mem_of_getElem? (i := 37) rfl)))) (mvT hZ (hw _ (List.mem_of_getElem? (i := 37) rfl))) (mvT hZ (hw _ (List.mem_of_getElem? (i := 36) rfl))) (by decide) (backOf (W := 0) (rm5 l Z a0 hw [] b84 nb16 fb16 b16 T101.heap n0 Z_108 P101_3 V16_at_108) hZ (hw _ (List.mem_of_getElem? (i := 38) rfl)) (hw _ (List.mem_of_getElem? (i := 7) rfl)) (by decide) (by decide)) qa108 qc108 (g := (mkF m 108 #[.val (.int p0), .val (.long x1), .second, .val (.long x2), .second, .val (.long x3), .second, .val (.long x4), .second, .val (.long x5), .second, .val (.int v11_8), .val (.ref b16), .val (.ref b22), .val (.long w14_84), .second, .val (.ref b84)] [(.ref b84)])) rfl (by rw [hml]; rfl) (Steps.refl _) (argsL := []) (rest := []) (lenOf own_pd3 rfl) rfl (by show 2 * 0 + _ ≤ _; exact Nat.le_of_eq rfl) (hb hby at_108) (fun _ _ => ⟨rfl, rfl, (by decide : 5 + 0 ≤ _), (by decide : 12 + 0 ≤ _)⟩)
            dsimp only [Pt.U, Pt.locs, Pt.cells, Pt.slots] at X108 l108 y108 z108 st108 hQ108
            subst l108 y108 z108
            obtain ⟨hv108, N108q, e108⟩ := hQ108
            rw [hs16] at hv108
            subst hv108
            have N108 := Fr.app N101 N108q
            refine own_via st108 ?_
            show own_Fin p e below G (T108.setTop (mkF m 111 #[.val (.int p0), .val (.long x1), .second, .val (.long x2), .second, .val (.long x3), .second, .val (.long x4), .second, .val (.long x5), .second, .val (.int v11_8), .val (.ref b16), .val (.ref b22), .val (.long w14_84), .second, .val (.ref b84)] [(.long (own_want v11_8 x1 x2 x3 x4))]))
            refine own_to (fun _ kz => XS.lload X108.here hx rfl (hb hby at_111) rfl  kz) ?_
            show own_Fin p e below G (T108.setTop (mkF m 113 #[.val (.int p0), .val (.long x1), .second, .val (.long x2), .second, .val (.long x3), .second, .val (.long x4), .second, .val (.long x5), .second, .val (.int v11_8), .val (.ref b16), .val (.ref b22), .val (.long w14_84), .second, .val (.ref b84)] [(.long w14_84), (.long (own_want v11_8 x1 x2 x3 x4))]))
            refine own_to (fun _ kz => XS.lcmp X108.here hx rfl (hb hby at_113) rfl kz) ?_
            show own_Fin p e below G (T108.setTop (mkF m 114 #[.val (.int p0), .val (.long x1), .second, .val (.long x2), .second, .val (.long x3), .second, .val (.long x4), .second, .val (.long x5), .second, .val (.int v11_8), .val (.ref b16), .val (.ref b22), .val (.long w14_84), .second, .val (.ref b84)] [(.int (lcmpW (own_want v11_8 x1 x2 x3 x4) w14_84))]))
            by_cases hc114 : (own_want v11_8 x1 x2 x3 x4) = w14_84
            · refine own_to (fun _ kz => XS.ifNo X108.here hx rfl (hb hby at_114) rfl ((if0 _ _).trans (teq ((lw_eq _ _).mpr hc114)).2) kz) ?_
              have q114t := q_j84.trans (if_pos hc114)
              show own_Fin p e below G (T108.setTop (mkF m 117 #[.val (.int p0), .val (.long x1), .second, .val (.long x2), .second, .val (.long x3), .second, .val (.long x4), .second, .val (.long x5), .second, .val (.int v11_8), .val (.ref b16), .val (.ref b22), .val (.long w14_84), .second, .val (.ref b84)] []))
              refine own_to (fun _ kz => XS.iconst X108.here hx rfl (hb hby at_117) kz) ?_
              show own_Fin p e below G (T108.setTop (mkF m 118 #[.val (.int p0), .val (.long x1), .second, .val (.long x2), .second, .val (.long x3), .second, .val (.long x4), .second, .val (.long x5), .second, .val (.int v11_8), .val (.ref b16), .val (.ref b22), .val (.long w14_84), .second, .val (.ref b84)] [(.int (1 : Int32))]))
              refine own_to (fun _ kz => XS.goto X108.here hx rfl (pc0 := 118) (pc' := 122) rfl (hb hby at_118) (by decide) (by decide) kz) ?_
              show own_Fin p e below G (T108.setTop (mkF m 122 #[.val (.int p0), .val (.long x1), .second, .val (.long x2), .second, .val (.long x3), .second, .val (.long x4), .second, .val (.long x5), .second, .val (.int v11_8), .val (.ref b16), .val (.ref b22), .val (.long w14_84), .second, .val (.ref b84)] [(.int (1 : Int32))]))
              exact own_retN X108 hx hlk hG (t := .boolean) Bd.returns (by simp) (hb hby at_122) (by decide) (by decide) (by rw [e108]; exact ⟨(congrArg (fun z => some (Value.int z)) q114t).symm, N108, trivial⟩)
            · refine own_to (fun _ kz => XS.ifYes X108.here hx rfl (pc0 := 114) (pc' := 121) rfl (hb hby at_114) rfl ((if0 _ _).trans (feq (fun q => hc114 ((lw_eq _ _).mp q))).2) (by decide) (by decide) kz) ?_
              have q114f := q_j84.trans (if_neg hc114)
              show own_Fin p e below G (T108.setTop (mkF m 121 #[.val (.int p0), .val (.long x1), .second, .val (.long x2), .second, .val (.long x3), .second, .val (.long x4), .second, .val (.long x5), .second, .val (.int v11_8), .val (.ref b16), .val (.ref b22), .val (.long w14_84), .second, .val (.ref b84)] []))
              refine own_to (fun _ kz => XS.iconst X108.here hx rfl (hb hby at_121) kz) ?_
              show own_Fin p e below G (T108.setTop (mkF m 122 #[.val (.int p0), .val (.long x1), .second, .val (.long x2), .second, .val (.long x3), .second, .val (.long x4), .second, .val (.long x5), .second, .val (.int v11_8), .val (.ref b16), .val (.ref b22), .val (.long w14_84), .second, .val (.ref b84)] [(.int (0 : Int32))]))
              exact own_retN X108 hx hlk hG (t := .boolean) Bd.returns (by simp) (hb hby at_122) (by decide) (by decide) (by rw [e108]; exact ⟨(congrArg (fun z => some (Value.int z)) q114f).symm, N108, trivial⟩)
          by_cases hc74 : v11_8 < (4 : Int32)
          · refine own_to (fun _ kz => XS.icmpYes X28.here hx rfl (pc0 := 74) (pc' := 84) rfl (hb hby at_74) rfl (tlt hc74).1 (by decide) (by decide) kz) ?_
            have q74t := q_j71.trans (if_pos hc74)
            show own_Fin p e below G (T28.setTop (mkF m 84 #[.val (.int p0), .val (.long x1), .second, .val (.long x2), .second, .val (.long x3), .second, .val (.long x4), .second, .val (.long x5), .second, .val (.int v11_8), .val (.ref b16), .val (.ref b22), .val (.long w14_71), .second, .unset] []))
            exact K84 w14_71 q74t
          · refine own_to (fun _ kz => XS.icmpNo X28.here hx rfl (hb hby at_74) rfl (flt hc74).1 kz) ?_
            have q74f := q_j71.trans (if_neg hc74)
            show own_Fin p e below G (T28.setTop (mkF m 77 #[.val (.int p0), .val (.long x1), .second, .val (.long x2), .second, .val (.long x3), .second, .val (.long x4), .second, .val (.long x5), .second, .val (.int v11_8), .val (.ref b16), .val (.ref b22), .val (.long w14_71), .second, .unset] []))
            refine own_to (fun _ kz => XS.lload X28.here hx rfl (hb hby at_77) rfl  kz) ?_
            show own_Fin p e below G (T28.setTop (mkF m 79 #[.val (.int p0), .val (.long x1), .second, .val (.long x2), .second, .val (.long x3), .second, .val (.long x4), .second, .val (.long x5), .second, .val (.int v11_8), .val (.ref b16), .val (.ref b22), .val (.long w14_71), .second, .unset] [(.long w14_71)]))
            refine own_to (fun _ kz => XS.lload X28.here hx rfl (hb hby at_79) rfl  kz) ?_
            show own_Fin p e below G (T28.setTop (mkF m 81 #[.val (.int p0), .val (.long x1), .second, .val (.long x2), .second, .val (.long x3), .second, .val (.long x4), .second, .val (.long x5), .second, .val (.int v11_8), .val (.ref b16), .val (.ref b22), .val (.long w14_71), .second, .unset] [(.long x4), (.long w14_71)]))
            refine own_to (fun _ kz => XS.ladd X28.here hx rfl (hb hby at_81) rfl kz) ?_
            show own_Fin p e below G (T28.setTop (mkF m 82 #[.val (.int p0), .val (.long x1), .second, .val (.long x2), .second, .val (.long x3), .second, .val (.long x4), .second, .val (.long x5), .second, .val (.int v11_8), .val (.ref b16), .val (.ref b22), .val (.long w14_71), .second, .unset] [(.long (w14_71 + x4))]))
            refine own_to (fun _ kz => XS.lstore X28.here hx rfl (hb hby at_82) rfl (l' := #[.val (.int p0), .val (.long x1), .second, .val (.long x2), .second, .val (.long x3), .second, .val (.long x4), .second, .val (.long x5), .second, .val (.int v11_8), .val (.ref b16), .val (.ref b22), .val (.long (w14_71 + x4)), .second, .unset]) rfl kz) ?_
            show own_Fin p e below G (T28.setTop (mkF m 84 #[.val (.int p0), .val (.long x1), .second, .val (.long x2), .second, .val (.long x3), .second, .val (.long x4), .second, .val (.long x5), .second, .val (.int v11_8), .val (.ref b16), .val (.ref b22), .val (.long (w14_71 + x4)), .second, .unset] []))
            exact K84 (w14_71 + x4) q74f
        by_cases hc61 : v11_8 < (3 : Int32)
        · refine own_to (fun _ kz => XS.icmpYes X28.here hx rfl (pc0 := 61) (pc' := 71) rfl (hb hby at_61) rfl (tlt hc61).1 (by decide) (by decide) kz) ?_
          have q61t := q_j58.trans (if_pos hc61)
          show own_Fin p e below G (T28.setTop (mkF m 71 #[.val (.int p0), .val (.long x1), .second, .val (.long x2), .second, .val (.long x3), .second, .val (.long x4), .second, .val (.long x5), .second, .val (.int v11_8), .val (.ref b16), .val (.ref b22), .val (.long w14_58), .second, .unset] []))
          exact K71 w14_58 q61t
        · refine own_to (fun _ kz => XS.icmpNo X28.here hx rfl (hb hby at_61) rfl (flt hc61).1 kz) ?_
          have q61f := q_j58.trans (if_neg hc61)
          show own_Fin p e below G (T28.setTop (mkF m 64 #[.val (.int p0), .val (.long x1), .second, .val (.long x2), .second, .val (.long x3), .second, .val (.long x4), .second, .val (.long x5), .second, .val (.int v11_8), .val (.ref b16), .val (.ref b22), .val (.long w14_58), .second, .unset] []))
          refine own_to (fun _ kz => XS.lload X28.here hx rfl (hb hby at_64) rfl  kz) ?_
          show own_Fin p e below G (T28.setTop (mkF m 66 #[.val (.int p0), .val (.long x1), .second, .val (.long x2), .second, .val (.long x3), .second, .val (.long x4), .second, .val (.long x5), .second, .val (.int v11_8), .val (.ref b16), .val (.ref b22), .val (.long w14_58), .second, .unset] [(.long w14_58)]))
          refine own_to (fun _ kz => XS.lload X28.here hx rfl (hb hby at_66) rfl  kz) ?_
          show own_Fin p e below G (T28.setTop (mkF m 68 #[.val (.int p0), .val (.long x1), .second, .val (.long x2), .second, .val (.long x3), .second, .val (.long x4), .second, .val (.long x5), .second, .val (.int v11_8), .val (.ref b16), .val (.ref b22), .val (.long w14_58), .second, .unset] [(.long x3), (.long w14_58)]))
          refine own_to (fun _ kz => XS.ladd X28.here hx rfl (hb hby at_68) rfl kz) ?_
          show own_Fin p e below G (T28.setTop (mkF m 69 #[.val (.int p0), .val (.long x1), .second, .val (.long x2), .second, .val (.long x3), .second, .val (.long x4), .second, .val (.long x5), .second, .val (.int v11_8), .val (.ref b16), .val (.ref b22), .val (.long w14_58), .second, .unset] [(.long (w14_58 + x3))]))
          refine own_to (fun _ kz => XS.lstore X28.here hx rfl (hb hby at_69) rfl (l' := #[.val (.int p0), .val (.long x1), .second, .val (.long x2), .second, .val (.long x3), .second, .val (.long x4), .second, .val (.long x5), .second, .val (.int v11_8), .val (.ref b16), .val (.ref b22), .val (.long (w14_58 + x3)), .second, .unset]) rfl kz) ?_
          show own_Fin p e below G (T28.setTop (mkF m 71 #[.val (.int p0), .val (.long x1), .second, .val (.long x2), .second, .val (.long x3), .second, .val (.long x4), .second, .val (.long x5), .second, .val (.int v11_8), .val (.ref b16), .val (.ref b22), .val (.long (w14_58 + x3)), .second, .unset] []))
          exact K71 (w14_58 + x3) q61f
      by_cases hc49 : v11_8 < (2 : Int32)
      · refine own_to (fun _ kz => XS.icmpYes X28.here hx rfl (pc0 := 49) (pc' := 58) rfl (hb hby at_49) rfl (tlt hc49).1 (by decide) (by decide) kz) ?_
        have q49t := q_j46.trans (if_pos hc49)
        show own_Fin p e below G (T28.setTop (mkF m 58 #[.val (.int p0), .val (.long x1), .second, .val (.long x2), .second, .val (.long x3), .second, .val (.long x4), .second, .val (.long x5), .second, .val (.int v11_8), .val (.ref b16), .val (.ref b22), .val (.long w14_46), .second, .unset] []))
        exact K58 w14_46 q49t
      · refine own_to (fun _ kz => XS.icmpNo X28.here hx rfl (hb hby at_49) rfl (flt hc49).1 kz) ?_
        have q49f := q_j46.trans (if_neg hc49)
        show own_Fin p e below G (T28.setTop (mkF m 52 #[.val (.int p0), .val (.long x1), .second, .val (.long x2), .second, .val (.long x3), .second, .val (.long x4), .second, .val (.long x5), .second, .val (.int v11_8), .val (.ref b16), .val (.ref b22), .val (.long w14_46), .second, .unset] []))
        refine own_to (fun _ kz => XS.lload X28.here hx rfl (hb hby at_52) rfl  kz) ?_
        show own_Fin p e below G (T28.setTop (mkF m 54 #[.val (.int p0), .val (.long x1), .second, .val (.long x2), .second, .val (.long x3), .second, .val (.long x4), .second, .val (.long x5), .second, .val (.int v11_8), .val (.ref b16), .val (.ref b22), .val (.long w14_46), .second, .unset] [(.long w14_46)]))
        refine own_to (fun _ kz => XS.lloadN X28.here hx rfl (hb hby at_54) rfl  kz) ?_
        show own_Fin p e below G (T28.setTop (mkF m 55 #[.val (.int p0), .val (.long x1), .second, .val (.long x2), .second, .val (.long x3), .second, .val (.long x4), .second, .val (.long x5), .second, .val (.int v11_8), .val (.ref b16), .val (.ref b22), .val (.long w14_46), .second, .unset] [(.long x2), (.long w14_46)]))
        refine own_to (fun _ kz => XS.ladd X28.here hx rfl (hb hby at_55) rfl kz) ?_
        show own_Fin p e below G (T28.setTop (mkF m 56 #[.val (.int p0), .val (.long x1), .second, .val (.long x2), .second, .val (.long x3), .second, .val (.long x4), .second, .val (.long x5), .second, .val (.int v11_8), .val (.ref b16), .val (.ref b22), .val (.long w14_46), .second, .unset] [(.long (w14_46 + x2))]))
        refine own_to (fun _ kz => XS.lstore X28.here hx rfl (hb hby at_56) rfl (l' := #[.val (.int p0), .val (.long x1), .second, .val (.long x2), .second, .val (.long x3), .second, .val (.long x4), .second, .val (.long x5), .second, .val (.int v11_8), .val (.ref b16), .val (.ref b22), .val (.long (w14_46 + x2)), .second, .unset]) rfl kz) ?_
        show own_Fin p e below G (T28.setTop (mkF m 58 #[.val (.int p0), .val (.long x1), .second, .val (.long x2), .second, .val (.long x3), .second, .val (.long x4), .second, .val (.long x5), .second, .val (.int v11_8), .val (.ref b16), .val (.ref b22), .val (.long (w14_46 + x2)), .second, .unset] []))
        exact K58 (w14_46 + x2) q49f
    by_cases hc37 : v11_8 < (1 : Int32)
    · refine own_to (fun _ kz => XS.icmpYes X28.here hx rfl (pc0 := 37) (pc' := 46) rfl (hb hby at_37) rfl (tlt hc37).1 (by decide) (by decide) kz) ?_
      have q37t := q_j8.trans (if_pos hc37)
      show own_Fin p e below G (T28.setTop (mkF m 46 #[.val (.int p0), .val (.long x1), .second, .val (.long x2), .second, .val (.long x3), .second, .val (.long x4), .second, .val (.long x5), .second, .val (.int v11_8), .val (.ref b16), .val (.ref b22), .val (.long (0 : Int64)), .second, .unset] []))
      exact K46 (0 : Int64) q37t
    · refine own_to (fun _ kz => XS.icmpNo X28.here hx rfl (hb hby at_37) rfl (flt hc37).1 kz) ?_
      have q37f := q_j8.trans (if_neg hc37)
      show own_Fin p e below G (T28.setTop (mkF m 40 #[.val (.int p0), .val (.long x1), .second, .val (.long x2), .second, .val (.long x3), .second, .val (.long x4), .second, .val (.long x5), .second, .val (.int v11_8), .val (.ref b16), .val (.ref b22), .val (.long (0 : Int64)), .second, .unset] []))
      refine own_to (fun _ kz => XS.lload X28.here hx rfl (hb hby at_40) rfl  kz) ?_
      show own_Fin p e below G (T28.setTop (mkF m 42 #[.val (.int p0), .val (.long x1), .second, .val (.long x2), .second, .val (.long x3), .second, .val (.long x4), .second, .val (.long x5), .second, .val (.int v11_8), .val (.ref b16), .val (.ref b22), .val (.long (0 : Int64)), .second, .unset] [(.long (0 : Int64))]))
      refine own_to (fun _ kz => XS.lloadN X28.here hx rfl (hb hby at_42) rfl  kz) ?_
      show own_Fin p e below G (T28.setTop (mkF m 43 #[.val (.int p0), .val (.long x1), .second, .val (.long x2), .second, .val (.long x3), .second, .val (.long x4), .second, .val (.long x5), .second, .val (.int v11_8), .val (.ref b16), .val (.ref b22), .val (.long (0 : Int64)), .second, .unset] [(.long x1), (.long (0 : Int64))]))
      refine own_to (fun _ kz => XS.ladd X28.here hx rfl (hb hby at_43) rfl kz) ?_
      show own_Fin p e below G (T28.setTop (mkF m 44 #[.val (.int p0), .val (.long x1), .second, .val (.long x2), .second, .val (.long x3), .second, .val (.long x4), .second, .val (.long x5), .second, .val (.int v11_8), .val (.ref b16), .val (.ref b22), .val (.long (0 : Int64)), .second, .unset] [(.long ((0 : Int64) + x1))]))
      refine own_to (fun _ kz => XS.lstore X28.here hx rfl (hb hby at_44) rfl (l' := #[.val (.int p0), .val (.long x1), .second, .val (.long x2), .second, .val (.long x3), .second, .val (.long x4), .second, .val (.long x5), .second, .val (.int v11_8), .val (.ref b16), .val (.ref b22), .val (.long ((0 : Int64) + x1)), .second, .unset]) rfl kz) ?_
      show own_Fin p e below G (T28.setTop (mkF m 46 #[.val (.int p0), .val (.long x1), .second, .val (.long x2), .second, .val (.long x3), .second, .val (.long x4), .second, .val (.long x5), .second, .val (.int v11_8), .val (.ref b16), .val (.ref b22), .val (.long ((0 : Int64) + x1)), .second, .unset] []))
      exact K46 ((0 : Int64) + x1) q37f
  exact K8 ((p0 &&& (7 : Int32)) % (5 : Int32)) (own_rem5 _) q0
theorem own_5 {s : Int32} (h0 : 0 ≤ s.toInt ∧ s.toInt ≤ 4) : s = 0 ∨ s = 1 ∨ s = 2 ∨ s = 3 ∨ s = 4 := by
  have e : ∀ k : Int32, s.toInt = k.toInt → s = k := fun k h => Int32.toInt_inj.mp h
  have : s.toInt = 0 ∨ s.toInt = 1 ∨ s.toInt = 2 ∨ s.toInt = 3 ∨ s.toInt = 4 := by omega
  rcases this with h | h | h | h | h
  · exact Or.inl (e 0 h)
  · exact Or.inr (Or.inl (e 1 h))
  · exact Or.inr (Or.inr (Or.inl (e 2 h)))
  · exact Or.inr (Or.inr (Or.inr (Or.inl (e 3 h))))
  · exact Or.inr (Or.inr (Or.inr (Or.inr (e 4 h))))
theorem own_mid (p : Int32) (a b c e d : Int64) (k : Int32) (h : 0 ≤ k.toInt ∧ k.toInt ≤ 4) : f0_8 p a b c e d k = 1 := by
  rcases own_5 h with rfl | rfl | rfl | rfl | rfl <;> simp [f0_8, f0_46, f0_58, f0_71, f0_84, f0, own_want]
theorem own_plain (p : Int32) (a b c e d : Int64) : f0 p a b c e d = 1 := own_mid _ _ _ _ _ _ _ (own_rem5 _)
set_option maxRecDepth 65536 in
set_option maxHeartbeats 40000000 in
theorem comes_1 {Post : Tables → Env → Array Value → State → Outcome → State → Prop} (hpost : ∀ tb e args s v u, (limb_1_1.after args s (.returned v) u = true ∧ limb_1_2.after args s (.returned v) u = true ∧ True) → FrameEnd s (.returned v) u (Jvm.fieldLocs frame_1_writes args s ++ Jvm.arrayLocs frame_1_arrays args s ++ Jvm.staticLocs frame_1_statics s) 24 128 → Post tb e args s (.returned v) u) :
    ArmFor flags0 classFile x code maxLocals ret World_1 tables_1 room_1 Calls_1 rest_1 Pre_1 Post := by
  intro l hfl _ _ p e ha hc hk s m args below hf hA hF happ hP
  obtain ⟨hcalls, hrest, hpre⟩ := hP
  obtain ⟨-, -, -, hnamed, -, -, -, hat⟩ := (Spec.applies_iff hf).mp happ
  obtain ⟨hg, hn⟩ := and_e (Cond.before_iff.mp (show (Jvm.Cond.and given_1 narrow_1).before args s = true from hpre))
  obtain ⟨gg1, gg2⟩ := and_e hg
  obtain ⟨gg3, gg4⟩ := and_e gg2
  obtain ⟨gg5, gg6⟩ := and_e gg4
  obtain ⟨gg7, gg8⟩ := and_e gg6
  obtain ⟨gg9, gg10⟩ := and_e gg8
  obtain ⟨gg11, gg12⟩ := and_e gg10
  obtain ⟨w0, w1, w2, w3, w4, w5, rfl⟩ : ∃ w0 w1 w2 w3 w4 w5 : Value, args = #[w0, w1, w2, w3, w4, w5] := by
    have hs : args.size = 6 := by simpa [Cond.value, given_1] using gg1
    obtain ⟨L⟩ := args
    match L, hs with
    | [w0, w1, w2, w3, w4, w5], _ => exact ⟨w0, w1, w2, w3, w4, w5, rfl⟩
  have hw := fun d (hd : d ∈ tables_1) => atoms_spec (ws := Jvm.Cond.code x code maxLocals ret :: tables_1) hat d (List.mem_cons_of_mem _ hd)
  obtain ⟨i0, ei0⟩ := is_v gg3
  obtain rfl : w0 = (.int i0) := Option.some.inj ei0
  obtain ⟨i1, ei1⟩ := isL_v gg5
  obtain rfl : w1 = (.long i1) := Option.some.inj ei1
  obtain ⟨i2, ei2⟩ := isL_v gg7
  obtain rfl : w2 = (.long i2) := Option.some.inj ei2
  obtain ⟨i3, ei3⟩ := isL_v gg9
  obtain rfl : w3 = (.long i3) := Option.some.inj ei3
  obtain ⟨i4, ei4⟩ := isL_v gg11
  obtain rfl : w4 = (.long i4) := Option.some.inj ei4
  obtain ⟨i5, ei5⟩ := isL_v gg12
  obtain rfl : w5 = (.long i5) := Option.some.inj ei5
  obtain ⟨n, o, h1, h2, h3, v, L, rfl, ⟨hv, N, -⟩, hq⟩ := rm0 l s _ hw tables_1 i0 i1 i2 i3 i4 i5 s.heap s.heap.size (Nat.le_refl _) p e ha hc hk s m _ below hf ((Spec.applies_iff_loose hf).mp happ).1 ⟨rfl, State.Warmed39.refl s, rfl⟩ trivial
  obtain rfl : v = some (.int 1) := hv.trans (congrArg (fun z => some (Value.int z)) (own_plain i0 i1 i2 i3 i4 i5))
  refine ⟨n, _, h1, h2, h3, hpost _ _ _ _ _ _ ⟨Cond.after_iff.mpr rfl, Cond.after_iff.mpr (eq_i res_at (Term.int_eval (1)) rfl), trivial⟩ ⟨hq.1, hq.2.1, (hq.2.2.sift fun y hy => Or.inr (N y hy)).mono (by decide) (by decide)⟩⟩
theorem main_1_1 : Claimed_1_1 := comes_1 fun _ _ _ _ _ _ h hF => ⟨h.1, hF⟩
theorem main_1_2 : Claimed_1_2 := comes_1 fun _ _ _ _ _ _ h hF => ⟨h.2.1, hF⟩
end Jvm.Pilot.@@N@@
namespace Jvm.Pilot.@@N@@
open Jvm Jvm.ClassFile Sem Op Lib Jvm.Free Jvm.Stand Jvm.Pilot.@@N@@.Jvm.D
/-! MADE BY PROGRAM (witnessworld.py) out of the Statement's table words and the real class files: 12 classes; the members and pool entries that the words name. The judged class is class 1, her method 2. -/
namespace start1
open Jvm.ClassFile
def u (s : String) : CpInfo := .utf8 (stringToUtf16 s)
/-- a pool by its gaps: so many unusable entries, then the entry; so many at the end -/
def gap : Nat → List CpInfo → List CpInfo
  | 0, r => r
  | n + 1, r => .unusable :: gap n r
def poolList (es : List (Nat × CpInfo)) (last : Nat) : List CpInfo := es.foldr (fun e r => gap e.1 (e.2 :: r)) (gap last [])
def pool (es : List (Nat × CpInfo)) (last : Nat) : Array CpInfo := ⟨poolList es last⟩
def fileOf (pool : Array CpInfo) (this : Nat) (attrs : Array Attribute := #[]) (ms : Array MethodInfo := #[]) (fl : Nat := 33) (sup : Nat := 0) (ifs : Array Nat := #[]) (fds : Array FieldInfo := #[]) : ClassFile where
  minorVersion := 0
  majorVersion := 65
  constantPool := pool
  accessFlags := fl
  thisClass := this
  superClass := sup
  interfaces := ifs
  fields := fds
  methods := ms
  attributes := attrs
def plain (name : String) (sup : Option ClassId) : Class where
  name := name
  kind := .ordinary
  loader := none
  accessFlags := 33
  super := sup
  interfaces := #[]
  cf := none
  fields := #[]
  methods := #[]
  instanceTypes := #[]
  staticTypes := #[]
  resolved := #[]
  callSites := []
  init := .initialized
  statics := none
  mirror := none

def pool0 : Array CpInfo := pool [(5, u "<init>"), (0, u "()V"), (1, .class_ 10), (1, u "java/lang/Object")] 113

def k0c0 : Code := { maxStack := 0, maxLocals := 1, code := object_method_1_code, exceptionTable := #[], attributes := #[] }
def k0m0 : Method := { name := "<init>", desc := "()V", sig := { parameters := [], returnType := none }, accessFlags := 1, code := some k0c0 }
/-- java/lang/Object -/
def k0 : Class := { plain "java/lang/Object" none with
  accessFlags := 33
  interfaces := #[]
  cf := some (fileOf pool0 8 #[] #[{ accessFlags := 1, nameIndex := 5, descriptorIndex := 6, attributes := #[] }] 33 0 #[] #[])
  fields := #[]
  methods := #[k0m0]
  instanceTypes := #[]
  staticTypes := #[]
  resolved := Array.replicate 124 none
  statics := none }

def pool1 : Array CpInfo := pool [(2, .class_ 4), (1, u "java/lang/Object"), (0, u "<init>"), (0, u "()V"), (0, .methodref 8 9), (0, .class_ 10), (0, .nameAndType 11 12), (0, u "wavegauge/simulate/MeasurementTotalAttemptsPinLaw"), (0, u "build"), (0, u "(IJJJJ)[J"), (0, .class_ 14), (0, u "wavegauge/simulate/Measurement"), (0, .methodref 13 16), (0, .nameAndType 5 17), (0, u "([D[D[J[JDDZ)V"), (0, .methodref 13 19), (0, .nameAndType 20 21), (0, u "totalAttempts"), (0, u "()J"), (3, u "law"), (0, u "(IJJJJJ)Z")] 4

def k1m0 : Method := { name := "<init>", desc := "()V", sig := { parameters := [], returnType := none }, accessFlags := 1, code := none }
def k1c1 : Code := { maxStack := 5, maxLocals := 9, code := method_2_code, exceptionTable := #[], attributes := #[] }
def k1m1 : Method := { name := "build", desc := "(IJJJJ)[J", sig := { parameters := [.int, .long, .long, .long, .long], returnType := some (.array .long) }, accessFlags := 10, code := some k1c1 }
def k1c2 : Code := { maxStack := 11, maxLocals := 17, code := code, exceptionTable := #[], attributes := #[] }
def k1m2 : Method := { name := "law", desc := "(IJJJJJ)Z", sig := { parameters := [.int, .long, .long, .long, .long, .long], returnType := some .boolean }, accessFlags := 9, code := some k1c2 }
/-- wavegauge/simulate/MeasurementTotalAttemptsPinLaw -/
def k1 : Class := { plain "wavegauge/simulate/MeasurementTotalAttemptsPinLaw" (some 0) with
  accessFlags := 49
  interfaces := #[]
  cf := some (fileOf pool1 8 #[] #[{ accessFlags := 1, nameIndex := 5, descriptorIndex := 6, attributes := #[] }, { accessFlags := 10, nameIndex := 11, descriptorIndex := 12, attributes := #[] }, { accessFlags := 9, nameIndex := 25, descriptorIndex := 26, attributes := #[] }] 49 2 #[] #[])
  fields := #[]
  methods := #[k1m0, k1m1, k1m2]
  instanceTypes := #[]
  staticTypes := #[]
  resolved := Array.replicate 31 none
  statics := none }

def pool2 : Array CpInfo := pool [(1, .methodref 2 3), (0, .class_ 4), (0, .nameAndType 5 6), (0, u "java/lang/Object"), (0, u "<init>"), (0, u "()V"), (0, .class_ 8), (0, u "java/lang/Record")] 13

def k2c0 : Code := { maxStack := 1, maxLocals := 1, code := jdk_30_method_1_code, exceptionTable := #[], attributes := #[] }
def k2m0 : Method := { name := "<init>", desc := "()V", sig := { parameters := [], returnType := none }, accessFlags := 4, code := some k2c0 }
/-- java/lang/Record -/
def k2 : Class := { plain "java/lang/Record" (some 0) with
  accessFlags := 1057
  interfaces := #[]
  cf := some (fileOf pool2 7 #[] #[{ accessFlags := 4, nameIndex := 5, descriptorIndex := 6, attributes := #[] }] 1057 2 #[] #[])
  fields := #[]
  methods := #[k2m0]
  instanceTypes := #[]
  staticTypes := #[]
  resolved := Array.replicate 22 none
  statics := none }

def pool3 : Array CpInfo := pool [(1, .methodref 2 3), (0, .class_ 4), (0, .nameAndType 5 6), (0, u "java/lang/Record"), (0, u "<init>"), (0, u "()V"), (0, .fieldref 8 9), (0, .class_ 10), (0, .nameAndType 11 12), (0, u "wavegauge/simulate/Measurement"), (0, u "blocking"), (0, u "[D"), (0, .fieldref 8 14), (0, .nameAndType 15 12), (0, u "halfWidth"), (0, .fieldref 8 17), (0, .nameAndType 18 19), (0, u "attempts"), (0, u "[J"), (0, .fieldref 8 21), (0, .nameAndType 22 19), (0, u "blocked"), (0, .fieldref 8 24), (0, .nameAndType 25 26), (0, u "networkBlocking"), (0, u "D"), (0, .fieldref 8 28), (0, .nameAndType 29 26), (0, u "networkHalfWidth"), (0, .fieldref 8 31), (0, .nameAndType 32 33), (0, u "stoppedByRule"), (0, u "Z"), (12, u "([D[D[J[JDDZ)V"), (3, u "totalAttempts"), (0, u "()J")] 36

def k3c0 : Code := { maxStack := 3, maxLocals := 10, code := prog_34_method_1_code, exceptionTable := #[], attributes := #[] }
def k3m0 : Method := { name := "<init>", desc := "([D[D[J[JDDZ)V", sig := { parameters := [(.array .double), (.array .double), (.array .long), (.array .long), .double, .double, .boolean], returnType := none }, accessFlags := 1, code := some k3c0 }
def k3c1 : Code := { maxStack := 4, maxLocals := 8, code := prog_34_method_2_code, exceptionTable := #[], attributes := #[] }
def k3m1 : Method := { name := "totalAttempts", desc := "()J", sig := { parameters := [], returnType := some .long }, accessFlags := 1, code := some k3c1 }
/-- wavegauge/simulate/Measurement -/
def k3 : Class := { plain "wavegauge/simulate/Measurement" (some 2) with
  accessFlags := 49
  interfaces := #[]
  cf := some (fileOf pool3 8 #[] #[{ accessFlags := 1, nameIndex := 5, descriptorIndex := 46, attributes := #[] }, { accessFlags := 1, nameIndex := 50, descriptorIndex := 51, attributes := #[] }] 49 2 #[] #[{ accessFlags := 18, nameIndex := 11, descriptorIndex := 12, attributes := #[] }, { accessFlags := 18, nameIndex := 15, descriptorIndex := 12, attributes := #[] }, { accessFlags := 18, nameIndex := 18, descriptorIndex := 19, attributes := #[] }, { accessFlags := 18, nameIndex := 22, descriptorIndex := 19, attributes := #[] }, { accessFlags := 18, nameIndex := 25, descriptorIndex := 26, attributes := #[] }, { accessFlags := 18, nameIndex := 29, descriptorIndex := 26, attributes := #[] }, { accessFlags := 18, nameIndex := 32, descriptorIndex := 33, attributes := #[] }])
  fields := #[{ name := "blocking", type := (.array .double), accessFlags := 18, slot := 0, constantValue := 0 }, { name := "halfWidth", type := (.array .double), accessFlags := 18, slot := 1, constantValue := 0 }, { name := "attempts", type := (.array .long), accessFlags := 18, slot := 2, constantValue := 0 }, { name := "blocked", type := (.array .long), accessFlags := 18, slot := 3, constantValue := 0 }, { name := "networkBlocking", type := .double, accessFlags := 18, slot := 4, constantValue := 0 }, { name := "networkHalfWidth", type := .double, accessFlags := 18, slot := 5, constantValue := 0 }, { name := "stoppedByRule", type := .boolean, accessFlags := 18, slot := 6, constantValue := 0 }]
  methods := #[k3m0, k3m1]
  instanceTypes := #[(.array .double), (.array .double), (.array .long), (.array .long), .double, .double, .boolean]
  staticTypes := #[]
  resolved := Array.replicate 88 none
  statics := none }

def pool4 : Array CpInfo := pool [(1, u "java/lang/Cloneable"), (0, .class_ 1), (0, u "java/lang/Object"), (0, .class_ 3)] 3

/-- java/lang/Cloneable -/
def k4 : Class := { plain "java/lang/Cloneable" (some 0) with
  accessFlags := 1537
  interfaces := #[]
  cf := some (fileOf pool4 2 #[] #[] 1537 4 #[] #[])
  fields := #[]
  methods := #[]
  instanceTypes := #[]
  staticTypes := #[]
  resolved := Array.replicate 8 none
  statics := none }

def pool5 : Array CpInfo := pool [(1, u "java/io/Serializable"), (0, .class_ 1), (0, u "java/lang/Object"), (0, .class_ 3)] 3

/-- java/io/Serializable -/
def k5 : Class := { plain "java/io/Serializable" (some 0) with
  accessFlags := 1537
  interfaces := #[]
  cf := some (fileOf pool5 2 #[] #[] 1537 4 #[] #[])
  fields := #[]
  methods := #[]
  instanceTypes := #[]
  staticTypes := #[]
  resolved := Array.replicate 8 none
  statics := none }

/-- the primitive byte -/
def k6 : Class := { plain "byte" none with kind := .primitive 'B', accessFlags := 0x411 }
/-- [B -/
def k7 : Class := { plain "[B" (some 0) with kind := .array 6 .byte, interfaces := #[4, 5], accessFlags := 1041 }

/-- the primitive int -/
def k8 : Class := { plain "int" none with kind := .primitive 'I', accessFlags := 0x411 }
/-- [I -/
def k9 : Class := { plain "[I" (some 0) with kind := .array 8 .int, interfaces := #[4, 5], accessFlags := 1041 }

/-- the primitive long -/
def k10 : Class := { plain "long" none with kind := .primitive 'J', accessFlags := 0x411 }
/-- [J -/
def k11 : Class := { plain "[J" (some 0) with kind := .array 10 .long, interfaces := #[4, 5], accessFlags := 1041 }

/-- the primitive double -/
def k12 : Class := { plain "double" none with kind := .primitive 'D', accessFlags := 0x411 }
/-- [D -/
def k13 : Class := { plain "[D" (some 0) with kind := .array 12 .double, interfaces := #[4, 5], accessFlags := 1041 }

def heap : Heap := #[]
def classes : Array Class := #[k0, k1, k2, k3, k4, k5, k6, k7, k8, k9, k10, k11, k12, k13]
def interned : List (Array UInt16 × Addr) := []
def slotsUsed : Nat := 0
def theMethod : MethodId := ⟨1, 2⟩
def args0 : Array Value := #[.int 3, .long 6, .long 7, .long 6, .long 7, .long 7]
def aboutOver (below : List Frame) : State where
  vm := { classes := classes, interned := interned.toArray }
  heap := heap
  slotsUsed := slotsUsed
  threads := #[{ frames := .invoking theMethod args0 :: below }]
def below0 : List Frame := [.native { method := ⟨0, 0⟩, args := #[] }]
def about1 : State := aboutOver below0
def p0 : Program := .bare "" "" ""
def e0 : Env := launch0.env 0 0 0
theorem w_frames : about1.frames = Frame.invoking theMethod args0 :: below0 := rfl
set_option maxRecDepth 65536 in
theorem w_args : argsFit about1.vm theMethod args0 = true := by decide +kernel
set_option maxRecDepth 65536 in
theorem w_heap : heapFits about1 = true := by decide +kernel
set_option maxRecDepth 65536 in
theorem w_runnable : about1.curStatus? = some .runnable := by decide +kernel
set_option maxRecDepth 65536 in
theorem w_alone : about1.alone = true := by decide +kernel
set_option maxRecDepth 65536 in
theorem w_named : about1.methodNamed? x = some theMethod := by decide +kernel
set_option maxRecDepth 65536 in
theorem w_hears : about1.hears theMethod below0 = true := by decide +kernel
set_option maxRecDepth 65536 in
theorem w_ripe : about1.ripe theMethod args0 below0 = true := by decide +kernel
theorem w_running : about1.status = .running := rfl
set_option maxRecDepth 65536 in
theorem w_room : about1.hasRoom e0.platform room_1 = true :=
  launch0.hasRoom_least _ room_1 (by decide +kernel) (by decide +kernel) (by decide +kernel) (by decide +kernel) (by decide +kernel) (by decide +kernel)
theorem allAtoms_all (ts : List Jvm.Cond) (a : Array Jvm.Value) (st : Jvm.State) : (allAtoms ts).before a st = ts.all (fun c => c.before a st) := by
  induction ts with
  | nil => rfl
  | cons c t ih =>
    show (Jvm.Cond.and c (allAtoms t)).before a st = _
    rw [Jvm.Cond.before_and, ih, List.all_cons]
def words1 : List Jvm.Cond := Jvm.Cond.code x code maxLocals ret :: tables_1
/-- a 'code' word, met by the world's own term for the bytes: nothing is compared byte by byte -/
theorem code_word {y : MethodName} {bytes : ByteArray} {mx : Nat} {rt : Option FieldType} {a : Array Value} {s : State} {m : MethodId} {meth : Method} {c : Code} (h1 : s.methodNamed? y = some m) (h2 : s.vm.method? m = some meth) (h3 : meth.code = some c) (h4 : c.code = bytes)
    (h5 : (c.maxLocals == mx && c.exceptionTable.isEmpty && decide (c.maxStack ≤ mostOperands) && decide (meth.sig.returnType = rt) && !meth.locks && decide (parseMethodDescriptor y.desc = some meth.sig)) = true) : (Jvm.Cond.code y bytes mx rt).before a s = true := by
  simp only [Bool.and_eq_true, beq_iff_eq, Bool.not_eq_true', decide_eq_true_eq] at h5
  obtain ⟨⟨⟨⟨⟨g1, g2⟩, g3⟩, g4⟩, g5⟩, g6⟩ := h5
  simp [Cond.before, Cond.holds, Cond.value, h1, h2, h3, h4, g1, g2, g3, g4, g5, g6]
def isCode : Jvm.Cond → Bool
  | .code _ _ _ _ => true
  | _ => false
theorem all_split {L : List Jvm.Cond} {P : Jvm.Cond → Bool} (h1 : L.all (fun c => isCode c || P c) = true) (h2 : ∀ c ∈ L.filter isCode, P c = true) : L.all P = true := by
  refine List.all_eq_true.mpr fun c hc => ?_
  have h := List.all_eq_true.mp h1 c hc
  rcases Bool.eq_false_or_eq_true (isCode c) with hi | hi
  · exact h2 c (List.mem_filter.mpr ⟨hc, hi⟩)
  · simpa [hi] using h
set_option maxRecDepth 65536 in
theorem w_c0 : (Jvm.Cond.code x code maxLocals ret).before args0 about1 = true := code_word (m := ⟨1, 2⟩) (meth := k1m2) (c := k1c2) (by decide +kernel) rfl rfl rfl (by decide +kernel)
set_option maxRecDepth 65536 in
theorem w_c1 : (Jvm.Cond.code ({ cls := "wavegauge/simulate/MeasurementTotalAttemptsPinLaw", name := "build", desc := "(IJJJJ)[J" } : Jvm.MethodName) method_2_code (9 : Nat) (Option.some (Jvm.ClassFile.FieldType.array Jvm.ClassFile.FieldType.long))).before args0 about1 = true := code_word (m := ⟨1, 1⟩) (meth := k1m1) (c := k1c1) (by decide +kernel) rfl rfl rfl (by decide +kernel)
set_option maxRecDepth 65536 in
theorem w_c2 : (Jvm.Cond.code ({ cls := "wavegauge/simulate/Measurement", name := "<init>", desc := "([D[D[J[JDDZ)V" } : Jvm.MethodName) prog_34_method_1_code (10 : Nat) (Option.none : Option Jvm.ClassFile.FieldType)).before args0 about1 = true := code_word (m := ⟨3, 0⟩) (meth := k3m0) (c := k3c0) (by decide +kernel) rfl rfl rfl (by decide +kernel)
set_option maxRecDepth 65536 in
theorem w_c3 : (Jvm.Cond.code ({ cls := "java/lang/Record", name := "<init>", desc := "()V" } : Jvm.MethodName) jdk_30_method_1_code (1 : Nat) (Option.none : Option Jvm.ClassFile.FieldType)).before args0 about1 = true := code_word (m := ⟨2, 0⟩) (meth := k2m0) (c := k2c0) (by decide +kernel) rfl rfl rfl (by decide +kernel)
set_option maxRecDepth 65536 in
theorem w_c4 : (Jvm.Cond.code ({ cls := "java/lang/Object", name := "<init>", desc := "()V" } : Jvm.MethodName) object_method_1_code (1 : Nat) (Option.none : Option Jvm.ClassFile.FieldType)).before args0 about1 = true := code_word (m := ⟨0, 0⟩) (meth := k0m0) (c := k0c0) (by decide +kernel) rfl rfl rfl (by decide +kernel)
set_option maxRecDepth 65536 in
theorem w_c5 : (Jvm.Cond.code ({ cls := "wavegauge/simulate/Measurement", name := "totalAttempts", desc := "()J" } : Jvm.MethodName) prog_34_method_2_code (8 : Nat) (Option.some Jvm.ClassFile.FieldType.long)).before args0 about1 = true := code_word (m := ⟨3, 1⟩) (meth := k3m1) (c := k3c1) (by decide +kernel) rfl rfl rfl (by decide +kernel)
def codes1 : List Jvm.Cond := [Jvm.Cond.code x code maxLocals ret, Jvm.Cond.code ({ cls := "wavegauge/simulate/MeasurementTotalAttemptsPinLaw", name := "build", desc := "(IJJJJ)[J" } : Jvm.MethodName) method_2_code (9 : Nat) (Option.some (Jvm.ClassFile.FieldType.array Jvm.ClassFile.FieldType.long)), Jvm.Cond.code ({ cls := "wavegauge/simulate/Measurement", name := "<init>", desc := "([D[D[J[JDDZ)V" } : Jvm.MethodName) prog_34_method_1_code (10 : Nat) (Option.none : Option Jvm.ClassFile.FieldType), Jvm.Cond.code ({ cls := "java/lang/Record", name := "<init>", desc := "()V" } : Jvm.MethodName) jdk_30_method_1_code (1 : Nat) (Option.none : Option Jvm.ClassFile.FieldType), Jvm.Cond.code ({ cls := "java/lang/Object", name := "<init>", desc := "()V" } : Jvm.MethodName) object_method_1_code (1 : Nat) (Option.none : Option Jvm.ClassFile.FieldType), Jvm.Cond.code ({ cls := "wavegauge/simulate/Measurement", name := "totalAttempts", desc := "()J" } : Jvm.MethodName) prog_34_method_2_code (8 : Nat) (Option.some Jvm.ClassFile.FieldType.long)]
set_option maxRecDepth 65536 in
theorem codes_eq : words1.filter isCode = codes1 := rfl
theorem w_codes : ∀ c ∈ words1.filter isCode, c.before args0 about1 = true := by
  rw [codes_eq]
  intro c hc
  simp only [codes1, List.mem_cons, List.not_mem_nil, or_false] at hc
  rcases hc with rfl | rfl | rfl | rfl | rfl | rfl
  · exact w_c0
  · exact w_c1
  · exact w_c2
  · exact w_c3
  · exact w_c4
  · exact w_c5
set_option maxRecDepth 65536 in
theorem w_t1 : (words1.take 24).all (fun c => isCode c || c.before args0 about1) = true := by decide +kernel
set_option maxRecDepth 65536 in
theorem w_t2 : (words1.drop 24).all (fun c => isCode c || c.before args0 about1) = true := by decide +kernel
theorem w_tables : (allAtoms (Jvm.Cond.code x code maxLocals ret :: tables_1)).before args0 about1 = true := by
  rw [allAtoms_all]
  show words1.all (fun c => c.before args0 about1) = true
  refine all_split ?_ w_codes
  rw [← List.take_append_drop 24 words1, List.all_append, w_t1, w_t2]
  rfl
set_option maxRecDepth 65536 in
theorem w_case : (Jvm.Cond.and given_1 narrow_1).before args0 about1 = true := by decide +kernel
theorem w_applies : (headSpec (Jvm.Cond.code x code maxLocals ret :: tables_1) room_1).applies x e0.platform about1 = true :=
  (Spec.applies_iff w_frames).mpr ⟨w_running, w_runnable, w_alone, w_named, w_hears, w_ripe, w_room, w_tables⟩
theorem atStart : AtStart classFile x code maxLocals ret World_1 tables_1 room_1 Calls_1 rest_1 Pre_1 launch0 p0 e0 about1 theMethod args0 below0 :=
  ⟨lists_1, trivial, launch0.admits_env _ _ _, launch0.least_env, fairChoices_fair.cas, fairChoices_fair.clock, w_frames, w_args, w_heap, w_applies, trivial, trivial, w_case⟩
end start1
theorem witness_1 : WitnessClaimed_1 := ⟨start1.p0, start1.e0, start1.about1, start1.theMethod, start1.args0, start1.below0, start1.atStart⟩
end Jvm.Pilot.@@N@@
