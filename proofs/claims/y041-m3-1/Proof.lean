import JvmDerived
import JvmDerived.Pilot.@@N@@Statement
import JvmDerived.Pilot.@@N@@Code
set_option linter.unusedVariables false
set_option linter.unusedSimpArgs false

namespace Jvm.Pilot.@@N@@
open Jvm Jvm.ClassFile Sem Op Lib Jvm.Free Jvm.Stand Jvm.LawKit Jvm.RoadKit Bundle Jvm.Pilot.@@N@@.Jvm.D

section OwnKit
variable {p : Program} {l : Launch} {e : Env} {R : Room} {s : State} {m : MethodId} {args : Array Value} {below : List Frame} {meth : Method} {c : Code} {T : State} {locs : List Loc} {cells slots : Nat} {G : Outcome → State → Prop} {Q : Option Value → Heap → List Loc → Prop} {C S : Nat} {Z : State} {h h' : Heap}
/-- from the state t the invocation comes to an end of which G holds -/
def own_Fin (p : Program) (e : Env) (below : List Frame) (G : Outcome → State → Prop) (t : State) : Prop := ∃ s₂ o, Steps p.tables e below t s₂ ∧ s₂.status = .running ∧ Ended s₂ below o ∧ G o s₂
def own_G (s : State) (Q : Option Value → Heap → List Loc → Prop) (C S : Nat) (o : Outcome) (U' : State) : Prop := ∃ v L, o = .returned v ∧ Q v U'.heap L ∧ FrameEnd s o U' L C S
theorem own_to {t u : State} (h : ∀ z, Steps p.tables e below u z → Steps p.tables e below t z) (k : own_Fin p e below G u) : own_Fin p e below G t := by
  obtain ⟨a, b, c, d⟩ := k; exact ⟨a, b, h _ c, d⟩
theorem own_via {t u : State} (h : Steps p.tables e below t u) (k : own_Fin p e below G u) : own_Fin p e below G t := own_to (fun _ kz => h.trans kz) k
theorem own_retW (X : Stand p l e R s m args below meth c T locs cells slots) (hx : p.tables.exec = Jvm.exec) (hlk : meth.locks = false) (hG : G = own_G s Q C S) {f : JFrame} {w : Option Value} (hv : meth.sig.returnType = none → w = none)
    (st : ∀ fs, (∀ (f : JFrame) (acts : List Action), f.method = m → f.locked = none → f.entered = [] → (doReturn e (T.setTop f) acts w).1 = T.setFrames fs) → Steps p.tables e below (T.setTop f) (T.setFrames fs))
    (hc : cells ≤ C) (hs : slots ≤ S) (hQ : Q w T.heap locs) : own_Fin p e below G (T.setTop f) := by
  subst hG
  obtain ⟨fs, hr, hrun, hended, hW, hsame⟩ := X.leave (v := w) hv hlk
  exact ⟨_, _, st fs hr, hrun, hended, _, _, rfl, hQ, ⟨_, rfl⟩, hW, hsame.mono hc hs⟩
theorem own_retI (X : Stand p l e R s m args below meth c T locs cells slots) (hx : p.tables.exec = Jvm.exec) (hlk : meth.locks = false) (hG : G = own_G s Q C S) {pc : Nat} {Ls : Array Slot} {z : Int32} {rest : List Value} (hret : meth.sig.returnType = some .int) (hd : decode c.code pc = .ok (.ireturn, 1))
    (hc : cells ≤ C) (hs : slots ≤ S) (hQ : Q (some (.int z)) T.heap locs) : own_Fin p e below G (T.setTop (mkF m pc Ls (.int z :: rest))) :=
  own_retW X hx hlk hG (w := some (.int z)) (fun h => by rw [hret] at h; cases h) (fun fs hr => retOut X hx hret rfl (Or.inl ⟨rfl, Or.inl rfl, z, rfl⟩) hd hr) hc hs hQ
theorem own_retJ (X : Stand p l e R s m args below meth c T locs cells slots) (hx : p.tables.exec = Jvm.exec) (hlk : meth.locks = false) (hG : G = own_G s Q C S) {pc : Nat} {Ls : Array Slot} {z : Int64} {rest : List Value} (hret : meth.sig.returnType = some .long) (hd : decode c.code pc = .ok (.lreturn, 1))
    (hc : cells ≤ C) (hs : slots ≤ S) (hQ : Q (some (.long z)) T.heap locs) : own_Fin p e below G (T.setTop (mkF m pc Ls (.long z :: rest))) :=
  own_retW X hx hlk hG (w := some (.long z)) (fun h => by rw [hret] at h; cases h) (fun fs hr => retOut X hx hret rfl (Or.inr (Or.inl ⟨rfl, rfl, z, rfl⟩)) hd hr) hc hs hQ
theorem own_retA (X : Stand p l e R s m args below meth c T locs cells slots) (hx : p.tables.exec = Jvm.exec) (hlk : meth.locks = false) (hG : G = own_G s Q C S) {pc : Nat} {Ls : Array Slot} {w : Value} {rest : List Value} {t : FieldType} (hret : meth.sig.returnType = some t) (ht : t.isReference = true) (hw : w.isRef = true) (hd : decode c.code pc = .ok (.areturn, 1))
    (hc : cells ≤ C) (hs : slots ≤ S) (hQ : Q (some w) T.heap locs) : own_Fin p e below G (T.setTop (mkF m pc Ls (w :: rest))) :=
  own_retW X hx hlk hG (w := some w) (fun h => by rw [hret] at h; cases h) (fun fs hr => retOut X hx hret (by rcases ref_cases hw with rfl | ⟨a, rfl⟩ <;> cases t <;> first | rfl | (simp [FieldType.isReference] at ht)) (Or.inr (Or.inr (Or.inr (Or.inr ⟨rfl, ht, hw⟩)))) hd hr) hc hs hQ
theorem own_retN (X : Stand p l e R s m args below meth c T locs cells slots) (hx : p.tables.exec = Jvm.exec) (hlk : meth.locks = false) (hG : G = own_G s Q C S) {pc : Nat} {Ls : Array Slot} {z : Int32} {rest : List Value} {t : FieldType} (hret : meth.sig.returnType = some t) (ht : t = .boolean ∨ t = .byte ∨ t = .char ∨ t = .short) (hd : decode c.code pc = .ok (.ireturn, 1))
    (hc : cells ≤ C) (hs : slots ≤ S) (hQ : Q (some (.int (nar t z))) T.heap locs) : own_Fin p e below G (T.setTop (mkF m pc Ls (.int z :: rest))) :=
  own_retW X hx hlk hG (w := some (.int (nar t z))) (fun h => by rw [hret] at h; cases h) (fun fs hr => retN X hx hret ht hd hr) hc hs hQ
theorem own_retV (X : Stand p l e R s m args below meth c T locs cells slots) (hx : p.tables.exec = Jvm.exec) (hlk : meth.locks = false) (hG : G = own_G s Q C S) {pc : Nat} {Ls : Array Slot} (hret : meth.sig.returnType = none) (hd : decode c.code pc = .ok (.return_, 1))
    (hc : cells ≤ C) (hs : slots ≤ S) (hQ : Q none T.heap locs) : own_Fin p e below G (T.setTop (mkF m pc Ls [])) :=
  own_retW X hx hlk hG (w := none) (fun _ => rfl) (fun fs hr => X.returnOut hx hret hd hr) hc hs hQ
theorem own_lrem {g : JFrame} {target : State} (X : Stand p l e R s m args below meth c T locs cells slots) (hx : p.tables.exec = Jvm.exec) (hg : g.method = m) {x y : Int64} {rest : List Value} (hd : decode c.code g.pc = .ok (.lrem, 1)) (hs : g.stack = .long y :: .long x :: rest) (hy : y ≠ 0)
    (hr : Steps p.tables e below (T.setTop { g with pc := g.pc + 1, stack := .long (x % y) :: rest }) target) : Steps p.tables e below (T.setTop g) target := by
  have q : x - x / y * y = x % y := lrem_mod x y
  exact XS.lrem X.here hx hg hd hs hy (by rw [q]; exact hr)
def own_Pair (a b : Slot) : Prop := (a = .unset ∧ b = .unset) ∨ ∃ x, a = .val (.long x) ∧ b = .second
/-- the array at a has n places; place i holds mk (f i) -/
def own_AV {α : Type} (mk : α → Value) (Z : State) (h : Heap) (a : Addr) (ty : FieldType) (n : Nat) (f : Nat → α) : Prop := n < 2 ^ 31 ∧ ∃ c : Cell, Arr Z h a c ty ∧ c.slots.size = n ∧ ∀ i, i < n → c.slots[i]? = some (mk (f i))
def own_upd {α : Type} (f : Nat → α) (k : Nat) (v : α) : Nat → α := fun i => if i = k then v else f i
section
variable {α : Type} {mk : α → Value} {a b : Addr} {ty : FieldType} {n : Nat} {f f' : Nat → α} {ws : List Addr} {sl : Nat} {v : Value}
theorem own_AV.lt (F : own_AV mk Z h a ty n f) : a < h.size := by obtain ⟨_, c, A, -⟩ := F; exact A.lt
theorem own_AV.ext (F : own_AV mk Z h a ty n f) (E : Ext h h') : own_AV mk Z h' a ty n f := by obtain ⟨q, c, A, r⟩ := F; exact ⟨q, c, A.ext E, r⟩
theorem own_AV.other (F : own_AV mk Z h b ty n f) (W : Wr h h' a sl v) (q : b ≠ a) : own_AV mk Z h' b ty n f := by obtain ⟨q', c, A, r⟩ := F; exact ⟨q', c, A.other W q, r⟩
theorem own_AV.keep (F : own_AV mk Z h a ty n f) (K : Keep h h' ws) (q : a ∉ ws) : own_AV mk Z h' a ty n f := by obtain ⟨q', c, A, r⟩ := F; exact ⟨q', c, ⟨K.2.1 a c A.1 q, A.2⟩, r⟩
theorem own_AV.congr (F : own_AV mk Z h a ty n f) (q : ∀ i, i < n → f i = f' i) : own_AV mk Z h a ty n f' := by obtain ⟨q', c, A, r, s⟩ := F; exact ⟨q', c, A, r, fun i hi => by rw [s i hi, q i hi]⟩
theorem own_AV.new {k : ClassId} {z : Int32} (A : Arr Z h a (newA k ty z) ty) (q : ¬ z < 0) (hn : z.toNatClampNeg = n) (hf : ∀ i : Nat, defaultValue ty = mk (f i)) : own_AV mk Z h a ty n f := by
  refine ⟨hn ▸ (back32 q).2, _, A, (sz_new _ _ _).trans hn, fun i hi => ?_⟩
  rw [← hf i]; simp [newA, hn, hi]
theorem own_in {c : Cell} {j : Int32} {k : Nat} (S : c.slots.size = n) (hj : ¬ j < 0) (hk : j.toNatClampNeg = k) (hlt : k < n) : ¬ (j < 0 ∨ c.slots.size ≤ j.toNatClampNeg) := fun q => q.elim hj fun r => by omega
theorem own_AV.set {c : Cell} {j : Int32} {k : Nat} {w : α} (nn : n < 2 ^ 31) (A : Arr Z h a c ty) (S : c.slots.size = n) (H : ∀ i, i < n → c.slots[i]? = some (mk (f i))) (W : Wr h h' a j.toNatClampNeg (mk w)) (hk : j.toNatClampNeg = k) : own_AV mk Z h' a ty n (own_upd f k w) := by
  subst hk
  refine ⟨nn, _, A.same W, by rw [sz_set]; exact S, fun i hi => ?_⟩
  show (c.setSlot j.toNatClampNeg (mk w)).slots[i]? = some (mk (if i = j.toNatClampNeg then w else f i))
  simp only [Cell.setSlot]
  by_cases q : i = j.toNatClampNeg
  · subst q; rw [if_pos rfl]; simp [S, hi]
  · rw [if_neg q, Array.getElem?_setIfInBounds_ne (fun r => q r.symm)]; exact H i hi
theorem own_iaload (X : Stand p l e R s m args below meth c T locs cells slots) (hx : p.tables.exec = Jvm.exec) (hZ : Z.Warmed39 s.vm) (eT : T.heap = h) {f : Nat → Int32} (F : own_AV Value.int Z h a .int n f) {j : Int32} {k : Nat} (hj : ¬ j < 0) (hk : j.toNatClampNeg = k) (hlt : k < n)
    {g : JFrame} (hg : g.method = m) {rest : List Value} (hs : g.stack = .int j :: .ref a :: rest) (hd : decode c.code g.pc = .ok (.iaload, 1)) {target : State} (hr : Steps p.tables e below (T.setTop { g with pc := g.pc + 1, stack := .int (f k) :: rest }) target) : Steps p.tables e below (T.setTop g) target := by
  obtain ⟨_, cl, A, S, H⟩ := F
  exact X.iaload hx (j := j) (v := .int (f k)) (by rw [eT]; exact A.1) (State.isArrayOf_alike hZ.alike A.2.1) A.2.2 (own_in S hj hk hlt) (by rw [hk]; exact H k hlt) hg hs hd _ hr
theorem own_laload (X : Stand p l e R s m args below meth c T locs cells slots) (hx : p.tables.exec = Jvm.exec) (hZ : Z.Warmed39 s.vm) (eT : T.heap = h) {f : Nat → Int64} (F : own_AV Value.long Z h a .long n f) {j : Int32} {k : Nat} (hj : ¬ j < 0) (hk : j.toNatClampNeg = k) (hlt : k < n)
    {g : JFrame} (hg : g.method = m) {rest : List Value} (hs : g.stack = .int j :: .ref a :: rest) (hd : decode c.code g.pc = .ok (.laload, 1)) {target : State} (hr : Steps p.tables e below (T.setTop { g with pc := g.pc + 1, stack := .long (f k) :: rest }) target) : Steps p.tables e below (T.setTop g) target := by
  obtain ⟨_, cl, A, S, H⟩ := F
  exact X.laload hx (j := j) (v := .long (f k)) (by rw [eT]; exact A.1) (State.isArrayOf_alike hZ.alike A.2.1) A.2.2 (own_in S hj hk hlt) (by rw [hk]; exact H k hlt) hg hs hd _ hr
theorem own_baload (X : Stand p l e R s m args below meth c T locs cells slots) (hx : p.tables.exec = Jvm.exec) (hZ : Z.Warmed39 s.vm) (eT : T.heap = h) {f : Nat → Int32} (F : own_AV Value.int Z h a .byte n f) {j : Int32} {k : Nat} (hj : ¬ j < 0) (hk : j.toNatClampNeg = k) (hlt : k < n)
    {g : JFrame} (hg : g.method = m) {rest : List Value} (hs : g.stack = .int j :: .ref a :: rest) (hd : decode c.code g.pc = .ok (.baload, 1)) {target : State} (hr : Steps p.tables e below (T.setTop { g with pc := g.pc + 1, stack := .int (f k) :: rest }) target) : Steps p.tables e below (T.setTop g) target := by
  obtain ⟨_, cl, A, S, H⟩ := F
  exact X.baloadBytes hx (j := j) (v := .int (f k)) (by rw [eT]; exact A.1) (State.isArrayOf_alike hZ.alike A.2.1) A.2.2 (own_in S hj hk hlt) (by rw [hk]; exact H k hlt) hg hs hd _ hr
theorem own_cloneI (X : Stand p l e R s m args below meth c T locs cells slots) (hx : p.tables.exec = Jvm.exec) (hZ : Z.Warmed39 s.vm) {a0 : Array Value} {own ad : String} {index : Nat} (hown : s.vm.findClass own = some m.cls)
    (w1 : (Cond.methodLink own index ⟨ad, "clone", "()Ljava/lang/Object;"⟩).before a0 Z = true) (w2 : (Cond.sameMethod ad "java/lang/Object" "clone" "()Ljava/lang/Object;").before a0 Z = true) (w3 : (Cond.native ⟨"java/lang/Object", "clone", "()Ljava/lang/Object;"⟩).before a0 Z = true)
    (w4 : (Cond.instanceMethod ⟨"java/lang/Object", "clone", "()Ljava/lang/Object;"⟩).before a0 Z = true) (w5 : (Cond.selects ad ⟨ad, "clone", "()Ljava/lang/Object;"⟩ ⟨"java/lang/Object", "clone", "()Ljava/lang/Object;"⟩).before a0 Z = true) (w6 : (Cond.castable ad "java/lang/Cloneable").before a0 Z = true)
    (eT : T.heap = h) {f : Nat → Int32} (F : own_AV Value.int Z h a .int n f) (E : Exa Z h a ad) {g : JFrame} (hg : g.method = m) (hsize : g.locals.size = c.maxLocals) {rest : List Value} (hs : g.stack = .ref a :: rest) (hd : decode c.code g.pc = .ok (.invokevirtual index, 3))
    (hf : 1 ≤ R.frames) {W cap : Nat} (hW : 2 * g.monitorRoom + (rest.map fun v => v.category).sum ≤ W) (hl : W + 14 ≤ R.locals) (hcap : n ≤ cap) (hc : cells + 1 ≤ R.cells) (hsl : slots + cap ≤ R.slots) :
    ∃ T' h', Stand p l e R s m args below meth c T' locs (cells + 1) (slots + cap) ∧ T'.heap = h' ∧ Ext h h' ∧ own_AV Value.int Z h' h.size .int n f ∧ Exa Z h' h.size ad ∧
      ∀ target, Steps p.tables e below (T'.setTop { g with pc := g.pc + 3, stack := .ref h.size :: rest }) target → Steps p.tables e below (T.setTop g) target := by
  obtain ⟨nn, cl, A, S, H⟩ := F
  have FC : FitC Z cl := fitC_of A fun i hi v hv => by rw [H i (S ▸ hi)] at hv; cases hv; rfl
  obtain ⟨T', h', X', e', ex, A', E', st⟩ := cloneA X hx hZ hown w1 w2 w3 w4 w5 w6 eT A E FC hg hsize hs hd hf hW hl (by rw [S]; exact hcap) hc hsl
  exact ⟨T', h', X', e', ex, ⟨nn, cloneOf cl, A', S, H⟩, E', st⟩
theorem own_alen (X : Stand p l e R s m args below meth c T locs cells slots) (hx : p.tables.exec = Jvm.exec) (hZ : Z.Warmed39 s.vm) (eT : T.heap = h) (F : own_AV mk Z h a ty n f) {z : Int32} (hz : n.toInt32 = z)
    {g : JFrame} (hg : g.method = m) {rest : List Value} (hs : g.stack = .ref a :: rest) (hd : decode c.code g.pc = .ok (.arraylength, 1)) {target : State} (hr : Steps p.tables e below (T.setTop { g with pc := g.pc + 1, stack := .int z :: rest }) target) : Steps p.tables e below (T.setTop g) target := by
  obtain ⟨_, cl, A, S, H⟩ := F
  exact X.arraylength hx (by rw [eT]; exact A.1) (State.isArrayOf_alike hZ.alike A.2.1) hg hs hd _ (by rw [S, hz]; exact hr)
end
end OwnKit
def own_sum (f : Nat → Int64) : Nat → Int64
  | 0 => 0
  | k + 1 => own_sum f k + f k
theorem own_z32 : (0 : Int32).toInt = 0 := by decide
theorem own_nneg {i : Int32} (h : 0 ≤ i.toInt) : ¬ i < 0 := by rw [Int32.lt_iff_toInt_lt, own_z32]; omega
theorem own_natc {i : Int32} (h : 0 ≤ i.toInt) : (i.toNatClampNeg : Int) = i.toInt := (nat_of (own_nneg h)).symm
theorem own_ofNat {n : Nat} (h : n < 2 ^ 31) : (Int32.ofNat n).toInt = n := Int32.toInt_ofNat_of_lt h
theorem own_inc {i : Int32} {n : Nat} (hn : n < 2 ^ 31) (h : 0 ≤ i.toInt) (h2 : i.toInt < n) : (i + (1 : Int32)).toInt = i.toInt + 1 := by
  have e := c_iadd i 1; have r := rng32 (i + 1); have o : (1 : Int32).toInt = 1 := by decide
  omega
/-- a turn more: i + 1, the place i -/
theorem own_up {i : Int32} {n : Nat} (hn : n < 2 ^ 31) (hi : 0 ≤ i.toInt ∧ i.toInt ≤ n) (hc : i < Int32.ofNat n) :
    (0 ≤ (i + (1 : Int32)).toInt ∧ (i + (1 : Int32)).toInt ≤ n) ∧ (¬ i < 0 ∧ i.toNatClampNeg < n) ∧ (i + (1 : Int32)).toNatClampNeg = i.toNatClampNeg + 1 := by
  rw [Int32.lt_iff_toInt_lt, own_ofNat hn] at hc
  have e := own_inc hn hi.1 hc
  have a := own_natc hi.1
  have b := own_natc (i := i + 1) (by omega)
  exact ⟨by omega, ⟨own_nneg hi.1, by omega⟩, by omega⟩
theorem own_dec {i : Int32} {n k : Nat} (hn : n < 2 ^ 31) (hi : 0 ≤ i.toInt ∧ i.toInt ≤ n) (hc : i < Int32.ofNat n) (hm : n - i.toNatClampNeg = k) : n - (i + (1 : Int32)).toNatClampNeg < k := by
  have h := own_up hn hi hc
  omega
theorem own_last {i : Int32} {n : Nat} (hn : n < 2 ^ 31) (hi : 0 ≤ i.toInt ∧ i.toInt ≤ n) (hc : ¬ i < Int32.ofNat n) : i.toNatClampNeg = n := by
  rw [Int32.lt_iff_toInt_lt, own_ofNat hn] at hc
  have a := own_natc hi.1
  omega

theorem own_pn0 : plainName "java/lang/Record" = true := by first | (simp [plainName, overriddenIn]; done) | decide +kernel
theorem d3_0 : decode jdk_30_method_1_code 0 = .ok (.aload_n 0, 1) := by decide +kernel
theorem d3_1 : decode jdk_30_method_1_code 1 = .ok (.invokespecial 1, 3) := by decide +kernel
theorem d3_4 : decode jdk_30_method_1_code 4 = .ok (.return_, 1) := by decide +kernel
theorem ef3 (m : MethodId) (ad0 : Addr) : entryFrame m #[(.ref ad0)] 1 = mkF m 0 #[.val (.ref ad0)] [] := by first | (simp [entryFrame, mkF, argsToLocals, Value.category]; done) | rfl
def Q3 (Z : State) (ad0 : Addr) (h0 : Heap) (n0 : Nat) (v : Option Value) (h : Heap) (L : List Loc) : Prop := v = none ∧ Fr n0 L ∧ h = h0
set_option maxRecDepth 65536 in
set_option maxHeartbeats 40000000 in
theorem rm3 (l : Launch) (Z : State) (a0 : Array Value) (hw : ∀ d ∈ tables_1, d.before a0 Z = true) (ws : List Jvm.Cond) (ad0 : Addr) (h0 : Heap) (n0 : Nat) (Z0 : n0 ≤ h0.size) :
    MetFree l (⟨"java/lang/Record", "<init>", "()V"⟩ : MethodName) (head1 (Jvm.Cond.code (⟨"java/lang/Record", "<init>", "()V"⟩ : MethodName) jdk_30_method_1_code 1 none :: ws) ({ frames := 1, cells := 0, slots := 0, locals := 12 } : Room)) (fun a U => a = #[(.ref ad0)] ∧ Z.Warmed39 U.vm ∧ U.heap = h0) (fun _ _ _ _ _ => True) (fun _ U o U' => ∃ v L, o = .returned v ∧ Q3 Z ad0 h0 n0 v U'.heap L ∧ FrameEnd U o U' L ({ frames := 1, cells := 0, slots := 0, locals := 12 } : Room).cells ({ frames := 1, cells := 0, slots := 0, locals := 12 } : Room).slots) := by
  refine MetFree.of_bodySF (plainFor_of_name own_pn0) hisR ?_
  intro p e s m args below meth c s₁ Bd hml0 hP hK
  obtain ⟨rfl, hZ, hh⟩ := hP
  have hx := Bd.exec
  have hby := Bd.bytes
  have hml : c.maxLocals = 1 := hml0
  have hown : s.vm.findClass "java/lang/Record" = some m.cls := findClass_of_methodNamed Bd.named
  have hnm := (name_of_methodNamed Bd.named Bd.method).1
  have hlk : meth.locks = false := BodyLoose.notSynchronized Bd
  have X0 : Stand p l e ({ frames := 1, cells := 0, slots := 0, locals := 12 } : Room) s m #[(.ref ad0)] below meth c s₁ [] 0 0 := Stand.of_body Bd
  have e0 : s₁.heap = h0 := by rw [← hh, Bd.state]; rfl
  have N0 := Fr.nil n0
  obtain ⟨G, hG⟩ : ∃ G, G = own_G s (Q3 Z ad0 h0 n0) ({ frames := 1, cells := 0, slots := 0, locals := 12 } : Room).cells ({ frames := 1, cells := 0, slots := 0, locals := 12 } : Room).slots := ⟨_, rfl⟩
  show own_Fin p e below (own_G s (Q3 Z ad0 h0 n0) ({ frames := 1, cells := 0, slots := 0, locals := 12 } : Room).cells ({ frames := 1, cells := 0, slots := 0, locals := 12 } : Room).slots) (s₁.setTop (entryFrame m #[(.ref ad0)] 1))
  rw [← hG]
  refine own_to (fun _ kz => castTop (ef3 m ad0) kz) ?_
  show own_Fin p e below G (s₁.setTop (mkF m 0 #[.val (.ref ad0)] []))
  refine own_to (fun _ kz => XS.aloadN X0.here hx rfl (hb hby d3_0) rfl (rfl)  kz) ?_
  show own_Fin p e below G (s₁.setTop (mkF m 1 #[.val (.ref ad0)] [(.ref ad0)]))
  obtain ⟨T1, X1, e1, st1⟩ := initO X0 hx hZ hown (hw _ (List.mem_of_getElem? (i := 17) rfl)) (hw _ (List.mem_of_getElem? (i := 18) rfl)) (hw _ (List.mem_of_getElem? (i := 19) rfl)) e0 (g := (mkF m 1 #[.val (.ref ad0)] [(.ref ad0)])) rfl (by rw [hml]; rfl) rfl (hb hby d3_1) (by decide) (W := 0) (by show 2 * 0 + _ ≤ _; exact Nat.le_of_eq rfl) (by decide)
  refine own_to st1 ?_
  show own_Fin p e below G (T1.setTop (mkF m 4 #[.val (.ref ad0)] []))
  exact own_retV X1 hx hlk hG Bd.returns (hb hby d3_4) (by decide) (by decide) ⟨rfl, N0, e1⟩
theorem own_pd0 : parseMethodDescriptor "()V" = some ⟨[], none⟩ := by decide +kernel
theorem own_pn1 : plainName "wavegauge/simulate/Measurement" = true := by first | (simp [plainName, overriddenIn]; done) | decide +kernel
theorem d2_0 : decode prog_34_method_1_code 0 = .ok (.aload_n 0, 1) := by decide +kernel
theorem d2_1 : decode prog_34_method_1_code 1 = .ok (.invokespecial 1, 3) := by decide +kernel
theorem d2_4 : decode prog_34_method_1_code 4 = .ok (.aload_n 0, 1) := by decide +kernel
theorem d2_5 : decode prog_34_method_1_code 5 = .ok (.aload_n 1, 1) := by decide +kernel
theorem d2_6 : decode prog_34_method_1_code 6 = .ok (.putfield 7, 3) := by decide +kernel
theorem d2_9 : decode prog_34_method_1_code 9 = .ok (.aload_n 0, 1) := by decide +kernel
theorem d2_10 : decode prog_34_method_1_code 10 = .ok (.aload_n 2, 1) := by decide +kernel
theorem d2_11 : decode prog_34_method_1_code 11 = .ok (.putfield 13, 3) := by decide +kernel
theorem d2_14 : decode prog_34_method_1_code 14 = .ok (.aload_n 0, 1) := by decide +kernel
theorem d2_15 : decode prog_34_method_1_code 15 = .ok (.aload_n 3, 1) := by decide +kernel
theorem d2_16 : decode prog_34_method_1_code 16 = .ok (.putfield 16, 3) := by decide +kernel
theorem d2_19 : decode prog_34_method_1_code 19 = .ok (.aload_n 0, 1) := by decide +kernel
theorem d2_20 : decode prog_34_method_1_code 20 = .ok (.aload 4, 2) := by decide +kernel
theorem d2_22 : decode prog_34_method_1_code 22 = .ok (.putfield 20, 3) := by decide +kernel
theorem d2_25 : decode prog_34_method_1_code 25 = .ok (.aload_n 0, 1) := by decide +kernel
theorem d2_26 : decode prog_34_method_1_code 26 = .ok (.dload 5, 2) := by decide +kernel
theorem d2_28 : decode prog_34_method_1_code 28 = .ok (.putfield 23, 3) := by decide +kernel
theorem d2_31 : decode prog_34_method_1_code 31 = .ok (.aload_n 0, 1) := by decide +kernel
theorem d2_32 : decode prog_34_method_1_code 32 = .ok (.dload 7, 2) := by decide +kernel
theorem d2_34 : decode prog_34_method_1_code 34 = .ok (.putfield 27, 3) := by decide +kernel
theorem d2_37 : decode prog_34_method_1_code 37 = .ok (.aload_n 0, 1) := by decide +kernel
theorem d2_38 : decode prog_34_method_1_code 38 = .ok (.iload 9, 2) := by decide +kernel
theorem d2_40 : decode prog_34_method_1_code 40 = .ok (.putfield 30, 3) := by decide +kernel
theorem d2_43 : decode prog_34_method_1_code 43 = .ok (.return_, 1) := by decide +kernel
theorem ef2 (m : MethodId) (ad0 : Addr) (ad1 : Addr) (ad2 : Addr) (ad3 : Addr) (ad4 : Addr) (d5 : UInt64) (d6 : UInt64) (p7 : Int32) : entryFrame m #[(.ref ad0), (.ref ad1), (.ref ad2), (.ref ad3), (.ref ad4), (.double d5), (.double d6), (.int p7)] 10 = mkF m 0 #[.val (.ref ad0), .val (.ref ad1), .val (.ref ad2), .val (.ref ad3), .val (.ref ad4), .val (.double d5), .second, .val (.double d6), .second, .val (.int p7)] [] := by first | (simp [entryFrame, mkF, argsToLocals, Value.category]; done) | rfl
def Q2 (Z : State) (ad0 : Addr) (ad1 : Addr) (ad2 : Addr) (ad3 : Addr) (ad4 : Addr) (d5 : UInt64) (d6 : UInt64) (p7 : Int32) (h0 : Heap) (n0 : Nat) (v : Option Value) (h : Heap) (L : List Loc) : Prop := v = none ∧ Fr n0 L ∧ Keep h0 h [ad0] ∧ Exa Z h ad0 "wavegauge/simulate/Measurement" ∧ Fld Z h ad0 "wavegauge/simulate/Measurement" "blocking" "[D" (.ref ad1) ∧ Fld Z h ad0 "wavegauge/simulate/Measurement" "halfWidth" "[D" (.ref ad2) ∧ Fld Z h ad0 "wavegauge/simulate/Measurement" "attempts" "[J" (.ref ad3) ∧ Fld Z h ad0 "wavegauge/simulate/Measurement" "blocked" "[J" (.ref ad4) ∧ Fld Z h ad0 "wavegauge/simulate/Measurement" "networkBlocking" "D" (.double d5) ∧ Fld Z h ad0 "wavegauge/simulate/Measurement" "networkHalfWidth" "D" (.double d6) ∧ Fld Z h ad0 "wavegauge/simulate/Measurement" "stoppedByRule" "Z" (.int (nar .boolean p7))
set_option maxRecDepth 65536 in
set_option maxHeartbeats 40000000 in
theorem rm2 (l : Launch) (Z : State) (a0 : Array Value) (hw : ∀ d ∈ tables_1, d.before a0 Z = true) (ws : List Jvm.Cond) (ad0 : Addr) (ad1 : Addr) (ad2 : Addr) (ad3 : Addr) (ad4 : Addr) (d5 : UInt64) (d6 : UInt64) (p7 : Int32) (h0 : Heap) (n0 : Nat) (Z0 : n0 ≤ h0.size) (E_ad0 : Exa Z h0 ad0 "wavegauge/simulate/Measurement") (F_blocking_ad0 : Fld Z h0 ad0 "wavegauge/simulate/Measurement" "blocking" "[D" .null) (F_halfWidth_ad0 : Fld Z h0 ad0 "wavegauge/simulate/Measurement" "halfWidth" "[D" .null) (F_attempts_ad0 : Fld Z h0 ad0 "wavegauge/simulate/Measurement" "attempts" "[J" .null) (F_blocked_ad0 : Fld Z h0 ad0 "wavegauge/simulate/Measurement" "blocked" "[J" .null) (F_networkBlocking_ad0 : Fld Z h0 ad0 "wavegauge/simulate/Measurement" "networkBlocking" "D" (.double (0 : UInt64))) (F_networkHalfWidth_ad0 : Fld Z h0 ad0 "wavegauge/simulate/Measurement" "networkHalfWidth" "D" (.double (0 : UInt64))) (F_stoppedByRule_ad0 : Fld Z h0 ad0 "wavegauge/simulate/Measurement" "stoppedByRule" "Z" (.int (0 : Int32))) (g_ad0 : n0 ≤ ad0) :
    MetFree l (⟨"wavegauge/simulate/Measurement", "<init>", "([D[D[J[JDDZ)V"⟩ : MethodName) (head1 (Jvm.Cond.code (⟨"wavegauge/simulate/Measurement", "<init>", "([D[D[J[JDDZ)V"⟩ : MethodName) prog_34_method_1_code 10 none :: ws) ({ frames := 2, cells := 0, slots := 0, locals := 24 } : Room)) (fun a U => a = #[(.ref ad0), (.ref ad1), (.ref ad2), (.ref ad3), (.ref ad4), (.double d5), (.double d6), (.int p7)] ∧ Z.Warmed39 U.vm ∧ U.heap = h0) (fun _ _ _ _ _ => True) (fun _ U o U' => ∃ v L, o = .returned v ∧ Q2 Z ad0 ad1 ad2 ad3 ad4 d5 d6 p7 h0 n0 v U'.heap L ∧ FrameEnd U o U' L ({ frames := 2, cells := 0, slots := 0, locals := 24 } : Room).cells ({ frames := 2, cells := 0, slots := 0, locals := 24 } : Room).slots) := by
  refine MetFree.of_bodySF (plainFor_of_name own_pn1) hisR ?_
  intro p e s m args below meth c s₁ Bd hml0 hP hK
  obtain ⟨rfl, hZ, hh⟩ := hP
  have hx := Bd.exec
  have hby := Bd.bytes
  have hml : c.maxLocals = 10 := hml0
  have hown : s.vm.findClass "wavegauge/simulate/Measurement" = some m.cls := findClass_of_methodNamed Bd.named
  have hnm := (name_of_methodNamed Bd.named Bd.method).1
  have hlk : meth.locks = false := BodyLoose.notSynchronized Bd
  have X0 : Stand p l e ({ frames := 2, cells := 0, slots := 0, locals := 24 } : Room) s m #[(.ref ad0), (.ref ad1), (.ref ad2), (.ref ad3), (.ref ad4), (.double d5), (.double d6), (.int p7)] below meth c s₁ [] 0 0 := Stand.of_body Bd
  have e0 : s₁.heap = h0 := by rw [← hh, Bd.state]; rfl
  have N0 := Fr.nil n0
  obtain ⟨G, hG⟩ : ∃ G, G = own_G s (Q2 Z ad0 ad1 ad2 ad3 ad4 d5 d6 p7 h0 n0) ({ frames := 2, cells := 0, slots := 0, locals := 24 } : Room).cells ({ frames := 2, cells := 0, slots := 0, locals := 24 } : Room).slots := ⟨_, rfl⟩
  show own_Fin p e below (own_G s (Q2 Z ad0 ad1 ad2 ad3 ad4 d5 d6 p7 h0 n0) ({ frames := 2, cells := 0, slots := 0, locals := 24 } : Room).cells ({ frames := 2, cells := 0, slots := 0, locals := 24 } : Room).slots) (s₁.setTop (entryFrame m #[(.ref ad0), (.ref ad1), (.ref ad2), (.ref ad3), (.ref ad4), (.double d5), (.double d6), (.int p7)] 10))
  rw [← hG]
  refine own_to (fun _ kz => castTop (ef2 m ad0 ad1 ad2 ad3 ad4 d5 d6 p7) kz) ?_
  show own_Fin p e below G (s₁.setTop (mkF m 0 #[.val (.ref ad0), .val (.ref ad1), .val (.ref ad2), .val (.ref ad3), .val (.ref ad4), .val (.double d5), .second, .val (.double d6), .second, .val (.int p7)] []))
  refine own_to (fun _ kz => XS.aloadN X0.here hx rfl (hb hby d2_0) rfl (rfl)  kz) ?_
  show own_Fin p e below G (s₁.setTop (mkF m 1 #[.val (.ref ad0), .val (.ref ad1), .val (.ref ad2), .val (.ref ad3), .val (.ref ad4), .val (.double d5), .second, .val (.double d6), .second, .val (.int p7)] [(.ref ad0)]))
  obtain ⟨_, _, ⟨T1, L1, k1, n1⟩, -, X1, ⟨Lc1, hQ1, l1, y1, z1⟩, st1⟩ := X0.specialBack hx (y := (⟨"java/lang/Record", "<init>", "()V"⟩ : MethodName)) rfl hown (mvT hZ (hw _ (List.mem_of_getElem? (i := 12) rfl))) (mvT hZ (hw _ (List.mem_of_getElem? (i := 13) rfl))) (mvT hZ (hw _ (List.mem_of_getElem? (i := 16) rfl))) (by decide) (backOf (W := 0) (rm3 l Z a0 hw [] ad0 h0 n0 Z0 ) hZ (hw _ (List.mem_of_getElem? (i := 16) rfl)) (hw _ (List.mem_of_getElem? (i := 15) rfl)) (by decide) (by decide)) (g := (mkF m 1 #[.val (.ref ad0), .val (.ref ad1), .val (.ref ad2), .val (.ref ad3), .val (.ref ad4), .val (.double d5), .second, .val (.double d6), .second, .val (.int p7)] [(.ref ad0)])) rfl (by rw [hml]; rfl) (Steps.refl _) (a := ad0) (argsL := []) (rest := []) (lenOf own_pd0 rfl) rfl (by show 2 * 0 + _ ≤ _; exact Nat.le_of_eq rfl) (hb hby d2_1) (fun _ _ => ⟨rfl, e0, (by decide : 0 + 0 ≤ _), (by decide : 0 + 0 ≤ _)⟩)
  dsimp only [Pt.U, Pt.locs, Pt.cells, Pt.slots] at X1 l1 y1 z1 st1 hQ1
  subst l1 y1 z1
  obtain ⟨rfl, N1q, e1⟩ := hQ1
  have N1 := Fr.app N0 N1q
  refine own_via st1 ?_
  show own_Fin p e below G (T1.setTop (mkF m 4 #[.val (.ref ad0), .val (.ref ad1), .val (.ref ad2), .val (.ref ad3), .val (.ref ad4), .val (.double d5), .second, .val (.double d6), .second, .val (.int p7)] []))
  refine own_to (fun _ kz => XS.aloadN X1.here hx rfl (hb hby d2_4) rfl (rfl)  kz) ?_
  show own_Fin p e below G (T1.setTop (mkF m 5 #[.val (.ref ad0), .val (.ref ad1), .val (.ref ad2), .val (.ref ad3), .val (.ref ad4), .val (.double d5), .second, .val (.double d6), .second, .val (.int p7)] [(.ref ad0)]))
  refine own_to (fun _ kz => XS.aloadN X1.here hx rfl (hb hby d2_5) rfl (rfl)  kz) ?_
  show own_Fin p e below G (T1.setTop (mkF m 6 #[.val (.ref ad0), .val (.ref ad1), .val (.ref ad2), .val (.ref ad3), .val (.ref ad4), .val (.double d5), .second, .val (.double d6), .second, .val (.int p7)] [(.ref ad1), (.ref ad0)]))
  obtain ⟨T6, h6, X6, e6, W6, st6⟩ := putF X1 hx hZ hown (host := "") (Or.inl (hw _ (List.mem_of_getElem? (i := 20) rfl))) Via.refl e1 F_blocking_ad0 E_ad0 (Or.inr ⟨(hw _ (List.mem_of_getElem? (i := 21) rfl)), rfl, hnm⟩) (hw _ (List.mem_of_getElem? (i := 7) rfl)) (ty := (.array .double)) (by decide) rfl rfl (g := (mkF m 6 #[.val (.ref ad0), .val (.ref ad1), .val (.ref ad2), .val (.ref ad3), .val (.ref ad4), .val (.double d5), .second, .val (.double d6), .second, .val (.int p7)] [(.ref ad1), (.ref ad0)])) rfl rfl (hb hby d2_6)
  refine own_to st6 ?_
  have Fw6 : Fld Z h6 ad0 "wavegauge/simulate/Measurement" "blocking" "[D" (.ref ad1) := Fld.same W6 F_blocking_ad0
  have N6 := Fr.snoc X6 N1 g_ad0
  show own_Fin p e below G (T6.setTop (mkF m 9 #[.val (.ref ad0), .val (.ref ad1), .val (.ref ad2), .val (.ref ad3), .val (.ref ad4), .val (.double d5), .second, .val (.double d6), .second, .val (.int p7)] []))
  refine own_to (fun _ kz => XS.aloadN X6.here hx rfl (hb hby d2_9) rfl (rfl)  kz) ?_
  show own_Fin p e below G (T6.setTop (mkF m 10 #[.val (.ref ad0), .val (.ref ad1), .val (.ref ad2), .val (.ref ad3), .val (.ref ad4), .val (.double d5), .second, .val (.double d6), .second, .val (.int p7)] [(.ref ad0)]))
  refine own_to (fun _ kz => XS.aloadN X6.here hx rfl (hb hby d2_10) rfl (rfl)  kz) ?_
  show own_Fin p e below G (T6.setTop (mkF m 11 #[.val (.ref ad0), .val (.ref ad1), .val (.ref ad2), .val (.ref ad3), .val (.ref ad4), .val (.double d5), .second, .val (.double d6), .second, .val (.int p7)] [(.ref ad2), (.ref ad0)]))
  have E_ad0_at_11 : Exa Z h6 ad0 "wavegauge/simulate/Measurement" := (E_ad0.wr W6)
  have F_halfWidth_ad0_at_11 : Fld Z h6 ad0 "wavegauge/simulate/Measurement" "halfWidth" "[D" .null := (F_halfWidth_ad0.other W6 (Or.inr (slot_ne (Or.inr (hw _ (List.mem_of_getElem? (i := 23) rfl))) (Or.inr (hw _ (List.mem_of_getElem? (i := 21) rfl))) (by decide) (t := (.array .double)) (t' := (.array .double)) (by decide) (by decide))))
  obtain ⟨T11, h11, X11, e11, W11, st11⟩ := putF X6 hx hZ hown (host := "") (Or.inl (hw _ (List.mem_of_getElem? (i := 22) rfl))) Via.refl e6 F_halfWidth_ad0_at_11 E_ad0_at_11 (Or.inr ⟨(hw _ (List.mem_of_getElem? (i := 23) rfl)), rfl, hnm⟩) (hw _ (List.mem_of_getElem? (i := 7) rfl)) (ty := (.array .double)) (by decide) rfl rfl (g := (mkF m 11 #[.val (.ref ad0), .val (.ref ad1), .val (.ref ad2), .val (.ref ad3), .val (.ref ad4), .val (.double d5), .second, .val (.double d6), .second, .val (.int p7)] [(.ref ad2), (.ref ad0)])) rfl rfl (hb hby d2_11)
  refine own_to st11 ?_
  have Fw11 : Fld Z h11 ad0 "wavegauge/simulate/Measurement" "halfWidth" "[D" (.ref ad2) := Fld.same W11 F_halfWidth_ad0_at_11
  have N11 := Fr.snoc X11 N6 g_ad0
  show own_Fin p e below G (T11.setTop (mkF m 14 #[.val (.ref ad0), .val (.ref ad1), .val (.ref ad2), .val (.ref ad3), .val (.ref ad4), .val (.double d5), .second, .val (.double d6), .second, .val (.int p7)] []))
  refine own_to (fun _ kz => XS.aloadN X11.here hx rfl (hb hby d2_14) rfl (rfl)  kz) ?_
  show own_Fin p e below G (T11.setTop (mkF m 15 #[.val (.ref ad0), .val (.ref ad1), .val (.ref ad2), .val (.ref ad3), .val (.ref ad4), .val (.double d5), .second, .val (.double d6), .second, .val (.int p7)] [(.ref ad0)]))
  refine own_to (fun _ kz => XS.aloadN X11.here hx rfl (hb hby d2_15) rfl (rfl)  kz) ?_
  show own_Fin p e below G (T11.setTop (mkF m 16 #[.val (.ref ad0), .val (.ref ad1), .val (.ref ad2), .val (.ref ad3), .val (.ref ad4), .val (.double d5), .second, .val (.double d6), .second, .val (.int p7)] [(.ref ad3), (.ref ad0)]))
  have E_ad0_at_16 : Exa Z h11 ad0 "wavegauge/simulate/Measurement" := (E_ad0_at_11.wr W11)
  have F_at_16 : Fld Z h11 ad0 "wavegauge/simulate/Measurement" "attempts" "[J" .null := ((F_attempts_ad0.other W6 (Or.inr (slot_ne (Or.inr (hw _ (List.mem_of_getElem? (i := 25) rfl))) (Or.inr (hw _ (List.mem_of_getElem? (i := 21) rfl))) (by decide) (t := (.array .long)) (t' := (.array .double)) (by decide) (by decide)))).other W11 (Or.inr (slot_ne (Or.inr (hw _ (List.mem_of_getElem? (i := 25) rfl))) (Or.inr (hw _ (List.mem_of_getElem? (i := 23) rfl))) (by decide) (t := (.array .long)) (t' := (.array .double)) (by decide) (by decide))))
  obtain ⟨T16, h16, X16, e16, W16, st16⟩ := putF X11 hx hZ hown (host := "") (Or.inl (hw _ (List.mem_of_getElem? (i := 24) rfl))) Via.refl e11 F_at_16 E_ad0_at_16 (Or.inr ⟨(hw _ (List.mem_of_getElem? (i := 25) rfl)), rfl, hnm⟩) (hw _ (List.mem_of_getElem? (i := 7) rfl)) (ty := (.array .long)) (by decide) rfl rfl (g := (mkF m 16 #[.val (.ref ad0), .val (.ref ad1), .val (.ref ad2), .val (.ref ad3), .val (.ref ad4), .val (.double d5), .second, .val (.double d6), .second, .val (.int p7)] [(.ref ad3), (.ref ad0)])) rfl rfl (hb hby d2_16)
  refine own_to st16 ?_
  have Fw16 : Fld Z h16 ad0 "wavegauge/simulate/Measurement" "attempts" "[J" (.ref ad3) := Fld.same W16 F_at_16
  have N16 := Fr.snoc X16 N11 g_ad0
  show own_Fin p e below G (T16.setTop (mkF m 19 #[.val (.ref ad0), .val (.ref ad1), .val (.ref ad2), .val (.ref ad3), .val (.ref ad4), .val (.double d5), .second, .val (.double d6), .second, .val (.int p7)] []))
  refine own_to (fun _ kz => XS.aloadN X16.here hx rfl (hb hby d2_19) rfl (rfl)  kz) ?_
  show own_Fin p e below G (T16.setTop (mkF m 20 #[.val (.ref ad0), .val (.ref ad1), .val (.ref ad2), .val (.ref ad3), .val (.ref ad4), .val (.double d5), .second, .val (.double d6), .second, .val (.int p7)] [(.ref ad0)]))
  refine own_to (fun _ kz => XS.aload X16.here hx rfl (hb hby d2_20) rfl (rfl)  kz) ?_
  show own_Fin p e below G (T16.setTop (mkF m 22 #[.val (.ref ad0), .val (.ref ad1), .val (.ref ad2), .val (.ref ad3), .val (.ref ad4), .val (.double d5), .second, .val (.double d6), .second, .val (.int p7)] [(.ref ad4), (.ref ad0)]))
  have E_ad0_at_22 : Exa Z h16 ad0 "wavegauge/simulate/Measurement" := (E_ad0_at_16.wr W16)
  have F_blocked_ad0_at_22 : Fld Z h16 ad0 "wavegauge/simulate/Measurement" "blocked" "[J" .null := (((F_blocked_ad0.other W6 (Or.inr (slot_ne (Or.inr (hw _ (List.mem_of_getElem? (i := 27) rfl))) (Or.inr (hw _ (List.mem_of_getElem? (i := 21) rfl))) (by decide) (t := (.array .long)) (t' := (.array .double)) (by decide) (by decide)))).other W11 (Or.inr (slot_ne (Or.inr (hw _ (List.mem_of_getElem? (i := 27) rfl))) (Or.inr (hw _ (List.mem_of_getElem? (i := 23) rfl))) (by decide) (t := (.array .long)) (t' := (.array .double)) (by decide) (by decide)))).other W16 (Or.inr (slot_ne (Or.inr (hw _ (List.mem_of_getElem? (i := 27) rfl))) (Or.inr (hw _ (List.mem_of_getElem? (i := 25) rfl))) (by decide) (t := (.array .long)) (t' := (.array .long)) (by decide) (by decide))))
  obtain ⟨T22, h22, X22, e22, W22, st22⟩ := putF X16 hx hZ hown (host := "") (Or.inl (hw _ (List.mem_of_getElem? (i := 26) rfl))) Via.refl e16 F_blocked_ad0_at_22 E_ad0_at_22 (Or.inr ⟨(hw _ (List.mem_of_getElem? (i := 27) rfl)), rfl, hnm⟩) (hw _ (List.mem_of_getElem? (i := 7) rfl)) (ty := (.array .long)) (by decide) rfl rfl (g := (mkF m 22 #[.val (.ref ad0), .val (.ref ad1), .val (.ref ad2), .val (.ref ad3), .val (.ref ad4), .val (.double d5), .second, .val (.double d6), .second, .val (.int p7)] [(.ref ad4), (.ref ad0)])) rfl rfl (hb hby d2_22)
  refine own_to st22 ?_
  have Fw22 : Fld Z h22 ad0 "wavegauge/simulate/Measurement" "blocked" "[J" (.ref ad4) := Fld.same W22 F_blocked_ad0_at_22
  have N22 := Fr.snoc X22 N16 g_ad0
  show own_Fin p e below G (T22.setTop (mkF m 25 #[.val (.ref ad0), .val (.ref ad1), .val (.ref ad2), .val (.ref ad3), .val (.ref ad4), .val (.double d5), .second, .val (.double d6), .second, .val (.int p7)] []))
  refine own_to (fun _ kz => XS.aloadN X22.here hx rfl (hb hby d2_25) rfl (rfl)  kz) ?_
  show own_Fin p e below G (T22.setTop (mkF m 26 #[.val (.ref ad0), .val (.ref ad1), .val (.ref ad2), .val (.ref ad3), .val (.ref ad4), .val (.double d5), .second, .val (.double d6), .second, .val (.int p7)] [(.ref ad0)]))
  refine own_to (fun _ kz => XS.dload X22.here hx rfl (hb hby d2_26) rfl  kz) ?_
  show own_Fin p e below G (T22.setTop (mkF m 28 #[.val (.ref ad0), .val (.ref ad1), .val (.ref ad2), .val (.ref ad3), .val (.ref ad4), .val (.double d5), .second, .val (.double d6), .second, .val (.int p7)] [(.double d5), (.ref ad0)]))
  have E_ad0_at_28 : Exa Z h22 ad0 "wavegauge/simulate/Measurement" := (E_ad0_at_22.wr W22)
  have F_networkBlocking_ad0_at_28 : Fld Z h22 ad0 "wavegauge/simulate/Measurement" "networkBlocking" "D" (.double (0 : UInt64)) := ((((F_networkBlocking_ad0.other W6 (Or.inr (slot_ne (Or.inr (hw _ (List.mem_of_getElem? (i := 29) rfl))) (Or.inr (hw _ (List.mem_of_getElem? (i := 21) rfl))) (by decide) (t := .double) (t' := (.array .double)) (by decide) (by decide)))).other W11 (Or.inr (slot_ne (Or.inr (hw _ (List.mem_of_getElem? (i := 29) rfl))) (Or.inr (hw _ (List.mem_of_getElem? (i := 23) rfl))) (by decide) (t := .double) (t' := (.array .double)) (by decide) (by decide)))).other W16 (Or.inr (slot_ne (Or.inr (hw _ (List.mem_of_getElem? (i := 29) rfl))) (Or.inr (hw _ (List.mem_of_getElem? (i := 25) rfl))) (by decide) (t := .double) (t' := (.array .long)) (by decide) (by decide)))).other W22 (Or.inr (slot_ne (Or.inr (hw _ (List.mem_of_getElem? (i := 29) rfl))) (Or.inr (hw _ (List.mem_of_getElem? (i := 27) rfl))) (by decide) (t := .double) (t' := (.array .long)) (by decide) (by decide))))
  obtain ⟨T28, h28, X28, e28, W28, st28⟩ := putF X22 hx hZ hown (host := "") (Or.inl (hw _ (List.mem_of_getElem? (i := 28) rfl))) Via.refl e22 F_networkBlocking_ad0_at_28 E_ad0_at_28 (Or.inr ⟨(hw _ (List.mem_of_getElem? (i := 29) rfl)), rfl, hnm⟩) (hw _ (List.mem_of_getElem? (i := 7) rfl)) (ty := .double) (by decide) rfl rfl (g := (mkF m 28 #[.val (.ref ad0), .val (.ref ad1), .val (.ref ad2), .val (.ref ad3), .val (.ref ad4), .val (.double d5), .second, .val (.double d6), .second, .val (.int p7)] [(.double d5), (.ref ad0)])) rfl rfl (hb hby d2_28)
  refine own_to st28 ?_
  have Fw28 : Fld Z h28 ad0 "wavegauge/simulate/Measurement" "networkBlocking" "D" (.double d5) := Fld.same W28 F_networkBlocking_ad0_at_28
  have N28 := Fr.snoc X28 N22 g_ad0
  show own_Fin p e below G (T28.setTop (mkF m 31 #[.val (.ref ad0), .val (.ref ad1), .val (.ref ad2), .val (.ref ad3), .val (.ref ad4), .val (.double d5), .second, .val (.double d6), .second, .val (.int p7)] []))
  refine own_to (fun _ kz => XS.aloadN X28.here hx rfl (hb hby d2_31) rfl (rfl)  kz) ?_
  show own_Fin p e below G (T28.setTop (mkF m 32 #[.val (.ref ad0), .val (.ref ad1), .val (.ref ad2), .val (.ref ad3), .val (.ref ad4), .val (.double d5), .second, .val (.double d6), .second, .val (.int p7)] [(.ref ad0)]))
  refine own_to (fun _ kz => XS.dload X28.here hx rfl (hb hby d2_32) rfl  kz) ?_
  show own_Fin p e below G (T28.setTop (mkF m 34 #[.val (.ref ad0), .val (.ref ad1), .val (.ref ad2), .val (.ref ad3), .val (.ref ad4), .val (.double d5), .second, .val (.double d6), .second, .val (.int p7)] [(.double d6), (.ref ad0)]))
  have E_ad0_at_34 : Exa Z h28 ad0 "wavegauge/simulate/Measurement" := (E_ad0_at_28.wr W28)
  have F_networkHalfWidth_ad0_at_34 : Fld Z h28 ad0 "wavegauge/simulate/Measurement" "networkHalfWidth" "D" (.double (0 : UInt64)) := (((((F_networkHalfWidth_ad0.other W6 (Or.inr (slot_ne (Or.inr (hw _ (List.mem_of_getElem? (i := 31) rfl))) (Or.inr (hw _ (List.mem_of_getElem? (i := 21) rfl))) (by decide) (t := .double) (t' := (.array .double)) (by decide) (by decide)))).other W11 (Or.inr (slot_ne (Or.inr (hw _ (List.mem_of_getElem? (i := 31) rfl))) (Or.inr (hw _ (List.mem_of_getElem? (i := 23) rfl))) (by decide) (t := .double) (t' := (.array .double)) (by decide) (by decide)))).other W16 (Or.inr (slot_ne (Or.inr (hw _ (List.mem_of_getElem? (i := 31) rfl))) (Or.inr (hw _ (List.mem_of_getElem? (i := 25) rfl))) (by decide) (t := .double) (t' := (.array .long)) (by decide) (by decide)))).other W22 (Or.inr (slot_ne (Or.inr (hw _ (List.mem_of_getElem? (i := 31) rfl))) (Or.inr (hw _ (List.mem_of_getElem? (i := 27) rfl))) (by decide) (t := .double) (t' := (.array .long)) (by decide) (by decide)))).other W28 (Or.inr (slot_ne (Or.inr (hw _ (List.mem_of_getElem? (i := 31) rfl))) (Or.inr (hw _ (List.mem_of_getElem? (i := 29) rfl))) (by decide) (t := .double) (t' := .double) (by decide) (by decide))))
  obtain ⟨T34, h34, X34, e34, W34, st34⟩ := putF X28 hx hZ hown (host := "") (Or.inl (hw _ (List.mem_of_getElem? (i := 30) rfl))) Via.refl e28 F_networkHalfWidth_ad0_at_34 E_ad0_at_34 (Or.inr ⟨(hw _ (List.mem_of_getElem? (i := 31) rfl)), rfl, hnm⟩) (hw _ (List.mem_of_getElem? (i := 7) rfl)) (ty := .double) (by decide) rfl rfl (g := (mkF m 34 #[.val (.ref ad0), .val (.ref ad1), .val (.ref ad2), .val (.ref ad3), .val (.ref ad4), .val (.double d5), .second, .val (.double d6), .second, .val (.int p7)] [(.double d6), (.ref ad0)])) rfl rfl (hb hby d2_34)
  refine own_to st34 ?_
  have Fw34 : Fld Z h34 ad0 "wavegauge/simulate/Measurement" "networkHalfWidth" "D" (.double d6) := Fld.same W34 F_networkHalfWidth_ad0_at_34
  have N34 := Fr.snoc X34 N28 g_ad0
  show own_Fin p e below G (T34.setTop (mkF m 37 #[.val (.ref ad0), .val (.ref ad1), .val (.ref ad2), .val (.ref ad3), .val (.ref ad4), .val (.double d5), .second, .val (.double d6), .second, .val (.int p7)] []))
  refine own_to (fun _ kz => XS.aloadN X34.here hx rfl (hb hby d2_37) rfl (rfl)  kz) ?_
  show own_Fin p e below G (T34.setTop (mkF m 38 #[.val (.ref ad0), .val (.ref ad1), .val (.ref ad2), .val (.ref ad3), .val (.ref ad4), .val (.double d5), .second, .val (.double d6), .second, .val (.int p7)] [(.ref ad0)]))
  refine own_to (fun _ kz => XS.iload X34.here hx rfl (hb hby d2_38) rfl  kz) ?_
  show own_Fin p e below G (T34.setTop (mkF m 40 #[.val (.ref ad0), .val (.ref ad1), .val (.ref ad2), .val (.ref ad3), .val (.ref ad4), .val (.double d5), .second, .val (.double d6), .second, .val (.int p7)] [(.int p7), (.ref ad0)]))
  have E_ad0_at_40 : Exa Z h34 ad0 "wavegauge/simulate/Measurement" := (E_ad0_at_34.wr W34)
  have F_stoppedByRule_ad0_at_40 : Fld Z h34 ad0 "wavegauge/simulate/Measurement" "stoppedByRule" "Z" (.int (0 : Int32)) := ((((((F_stoppedByRule_ad0.other W6 (Or.inr (slot_ne (Or.inr (hw _ (List.mem_of_getElem? (i := 33) rfl))) (Or.inr (hw _ (List.mem_of_getElem? (i := 21) rfl))) (by decide) (t := .boolean) (t' := (.array .double)) (by decide) (by decide)))).other W11 (Or.inr (slot_ne (Or.inr (hw _ (List.mem_of_getElem? (i := 33) rfl))) (Or.inr (hw _ (List.mem_of_getElem? (i := 23) rfl))) (by decide) (t := .boolean) (t' := (.array .double)) (by decide) (by decide)))).other W16 (Or.inr (slot_ne (Or.inr (hw _ (List.mem_of_getElem? (i := 33) rfl))) (Or.inr (hw _ (List.mem_of_getElem? (i := 25) rfl))) (by decide) (t := .boolean) (t' := (.array .long)) (by decide) (by decide)))).other W22 (Or.inr (slot_ne (Or.inr (hw _ (List.mem_of_getElem? (i := 33) rfl))) (Or.inr (hw _ (List.mem_of_getElem? (i := 27) rfl))) (by decide) (t := .boolean) (t' := (.array .long)) (by decide) (by decide)))).other W28 (Or.inr (slot_ne (Or.inr (hw _ (List.mem_of_getElem? (i := 33) rfl))) (Or.inr (hw _ (List.mem_of_getElem? (i := 29) rfl))) (by decide) (t := .boolean) (t' := .double) (by decide) (by decide)))).other W34 (Or.inr (slot_ne (Or.inr (hw _ (List.mem_of_getElem? (i := 33) rfl))) (Or.inr (hw _ (List.mem_of_getElem? (i := 31) rfl))) (by decide) (t := .boolean) (t' := .double) (by decide) (by decide))))
  obtain ⟨T40, h40, X40, e40, W40, st40⟩ := putFN X34 hx hZ hown (hw _ (List.mem_of_getElem? (i := 32) rfl)) Via.refl e34 F_stoppedByRule_ad0_at_40 E_ad0_at_40 (Or.inr ⟨(hw _ (List.mem_of_getElem? (i := 33) rfl)), rfl, hnm⟩) (hw _ (List.mem_of_getElem? (i := 7) rfl)) (ty := .boolean) (v' := (.int (nar .boolean p7))) (by decide) rfl (fits_nar_bool _) (g := (mkF m 40 #[.val (.ref ad0), .val (.ref ad1), .val (.ref ad2), .val (.ref ad3), .val (.ref ad4), .val (.double d5), .second, .val (.double d6), .second, .val (.int p7)] [(.int p7), (.ref ad0)])) rfl rfl (hb hby d2_40)
  refine own_to st40 ?_
  have Fw40 : Fld Z h40 ad0 "wavegauge/simulate/Measurement" "stoppedByRule" "Z" (.int (nar .boolean p7)) := Fld.same W40 F_stoppedByRule_ad0_at_40
  have N40 := Fr.snoc X40 N34 g_ad0
  show own_Fin p e below G (T40.setTop (mkF m 43 #[.val (.ref ad0), .val (.ref ad1), .val (.ref ad2), .val (.ref ad3), .val (.ref ad4), .val (.double d5), .second, .val (.double d6), .second, .val (.int p7)] []))
  have KP_43 : Keep h0 h40 [ad0] := ((((((((Keep.refl h0 [ad0]).wr W6 (Or.inl (List.mem_of_getElem? (i := 0) rfl))).wr W11 (Or.inl (List.mem_of_getElem? (i := 0) rfl))).wr W16 (Or.inl (List.mem_of_getElem? (i := 0) rfl))).wr W22 (Or.inl (List.mem_of_getElem? (i := 0) rfl))).wr W28 (Or.inl (List.mem_of_getElem? (i := 0) rfl))).wr W34 (Or.inl (List.mem_of_getElem? (i := 0) rfl))).wr W40 (Or.inl (List.mem_of_getElem? (i := 0) rfl)))
  have E_ad0_at_43 : Exa Z h40 ad0 "wavegauge/simulate/Measurement" := (E_ad0_at_40.wr W40)
  have Fw6_at_43 : Fld Z h40 ad0 "wavegauge/simulate/Measurement" "blocking" "[D" (.ref ad1) := ((((((Fw6.other W11 (Or.inr (slot_ne (Or.inr (hw _ (List.mem_of_getElem? (i := 21) rfl))) (Or.inr (hw _ (List.mem_of_getElem? (i := 23) rfl))) (by decide) (t := (.array .double)) (t' := (.array .double)) (by decide) (by decide)))).other W16 (Or.inr (slot_ne (Or.inr (hw _ (List.mem_of_getElem? (i := 21) rfl))) (Or.inr (hw _ (List.mem_of_getElem? (i := 25) rfl))) (by decide) (t := (.array .double)) (t' := (.array .long)) (by decide) (by decide)))).other W22 (Or.inr (slot_ne (Or.inr (hw _ (List.mem_of_getElem? (i := 21) rfl))) (Or.inr (hw _ (List.mem_of_getElem? (i := 27) rfl))) (by decide) (t := (.array .double)) (t' := (.array .long)) (by decide) (by decide)))).other W28 (Or.inr (slot_ne (Or.inr (hw _ (List.mem_of_getElem? (i := 21) rfl))) (Or.inr (hw _ (List.mem_of_getElem? (i := 29) rfl))) (by decide) (t := (.array .double)) (t' := .double) (by decide) (by decide)))).other W34 (Or.inr (slot_ne (Or.inr (hw _ (List.mem_of_getElem? (i := 21) rfl))) (Or.inr (hw _ (List.mem_of_getElem? (i := 31) rfl))) (by decide) (t := (.array .double)) (t' := .double) (by decide) (by decide)))).other W40 (Or.inr (slot_ne (Or.inr (hw _ (List.mem_of_getElem? (i := 21) rfl))) (Or.inr (hw _ (List.mem_of_getElem? (i := 33) rfl))) (by decide) (t := (.array .double)) (t' := .boolean) (by decide) (by decide))))
  have Fw11_at_43 : Fld Z h40 ad0 "wavegauge/simulate/Measurement" "halfWidth" "[D" (.ref ad2) := (((((Fw11.other W16 (Or.inr (slot_ne (Or.inr (hw _ (List.mem_of_getElem? (i := 23) rfl))) (Or.inr (hw _ (List.mem_of_getElem? (i := 25) rfl))) (by decide) (t := (.array .double)) (t' := (.array .long)) (by decide) (by decide)))).other W22 (Or.inr (slot_ne (Or.inr (hw _ (List.mem_of_getElem? (i := 23) rfl))) (Or.inr (hw _ (List.mem_of_getElem? (i := 27) rfl))) (by decide) (t := (.array .double)) (t' := (.array .long)) (by decide) (by decide)))).other W28 (Or.inr (slot_ne (Or.inr (hw _ (List.mem_of_getElem? (i := 23) rfl))) (Or.inr (hw _ (List.mem_of_getElem? (i := 29) rfl))) (by decide) (t := (.array .double)) (t' := .double) (by decide) (by decide)))).other W34 (Or.inr (slot_ne (Or.inr (hw _ (List.mem_of_getElem? (i := 23) rfl))) (Or.inr (hw _ (List.mem_of_getElem? (i := 31) rfl))) (by decide) (t := (.array .double)) (t' := .double) (by decide) (by decide)))).other W40 (Or.inr (slot_ne (Or.inr (hw _ (List.mem_of_getElem? (i := 23) rfl))) (Or.inr (hw _ (List.mem_of_getElem? (i := 33) rfl))) (by decide) (t := (.array .double)) (t' := .boolean) (by decide) (by decide))))
  have Fw16_at_43 : Fld Z h40 ad0 "wavegauge/simulate/Measurement" "attempts" "[J" (.ref ad3) := ((((Fw16.other W22 (Or.inr (slot_ne (Or.inr (hw _ (List.mem_of_getElem? (i := 25) rfl))) (Or.inr (hw _ (List.mem_of_getElem? (i := 27) rfl))) (by decide) (t := (.array .long)) (t' := (.array .long)) (by decide) (by decide)))).other W28 (Or.inr (slot_ne (Or.inr (hw _ (List.mem_of_getElem? (i := 25) rfl))) (Or.inr (hw _ (List.mem_of_getElem? (i := 29) rfl))) (by decide) (t := (.array .long)) (t' := .double) (by decide) (by decide)))).other W34 (Or.inr (slot_ne (Or.inr (hw _ (List.mem_of_getElem? (i := 25) rfl))) (Or.inr (hw _ (List.mem_of_getElem? (i := 31) rfl))) (by decide) (t := (.array .long)) (t' := .double) (by decide) (by decide)))).other W40 (Or.inr (slot_ne (Or.inr (hw _ (List.mem_of_getElem? (i := 25) rfl))) (Or.inr (hw _ (List.mem_of_getElem? (i := 33) rfl))) (by decide) (t := (.array .long)) (t' := .boolean) (by decide) (by decide))))
  have Fw22_at_43 : Fld Z h40 ad0 "wavegauge/simulate/Measurement" "blocked" "[J" (.ref ad4) := (((Fw22.other W28 (Or.inr (slot_ne (Or.inr (hw _ (List.mem_of_getElem? (i := 27) rfl))) (Or.inr (hw _ (List.mem_of_getElem? (i := 29) rfl))) (by decide) (t := (.array .long)) (t' := .double) (by decide) (by decide)))).other W34 (Or.inr (slot_ne (Or.inr (hw _ (List.mem_of_getElem? (i := 27) rfl))) (Or.inr (hw _ (List.mem_of_getElem? (i := 31) rfl))) (by decide) (t := (.array .long)) (t' := .double) (by decide) (by decide)))).other W40 (Or.inr (slot_ne (Or.inr (hw _ (List.mem_of_getElem? (i := 27) rfl))) (Or.inr (hw _ (List.mem_of_getElem? (i := 33) rfl))) (by decide) (t := (.array .long)) (t' := .boolean) (by decide) (by decide))))
  have Fw28_at_43 : Fld Z h40 ad0 "wavegauge/simulate/Measurement" "networkBlocking" "D" (.double d5) := ((Fw28.other W34 (Or.inr (slot_ne (Or.inr (hw _ (List.mem_of_getElem? (i := 29) rfl))) (Or.inr (hw _ (List.mem_of_getElem? (i := 31) rfl))) (by decide) (t := .double) (t' := .double) (by decide) (by decide)))).other W40 (Or.inr (slot_ne (Or.inr (hw _ (List.mem_of_getElem? (i := 29) rfl))) (Or.inr (hw _ (List.mem_of_getElem? (i := 33) rfl))) (by decide) (t := .double) (t' := .boolean) (by decide) (by decide))))
  have Fw34_at_43 : Fld Z h40 ad0 "wavegauge/simulate/Measurement" "networkHalfWidth" "D" (.double d6) := (Fw34.other W40 (Or.inr (slot_ne (Or.inr (hw _ (List.mem_of_getElem? (i := 31) rfl))) (Or.inr (hw _ (List.mem_of_getElem? (i := 33) rfl))) (by decide) (t := .double) (t' := .boolean) (by decide) (by decide))))
  exact own_retV X40 hx hlk hG Bd.returns (hb hby d2_43) (by decide) (by decide) (by rw [e40]; exact ⟨rfl, N40, KP_43, E_ad0_at_43, Fw6_at_43, Fw11_at_43, Fw16_at_43, Fw22_at_43, Fw28_at_43, Fw34_at_43, Fw40⟩)
theorem d5_0 : decode prog_34_method_3_code 0 = .ok (.lconst 0, 1) := by decide +kernel
theorem d5_1 : decode prog_34_method_3_code 1 = .ok (.lstore_n 1, 1) := by decide +kernel
theorem d5_2 : decode prog_34_method_3_code 2 = .ok (.aload_n 0, 1) := by decide +kernel
theorem d5_3 : decode prog_34_method_3_code 3 = .ok (.getfield 20, 3) := by decide +kernel
theorem d5_6 : decode prog_34_method_3_code 6 = .ok (.astore_n 3, 1) := by decide +kernel
theorem d5_7 : decode prog_34_method_3_code 7 = .ok (.aload_n 3, 1) := by decide +kernel
theorem d5_8 : decode prog_34_method_3_code 8 = .ok (.arraylength, 1) := by decide +kernel
theorem d5_9 : decode prog_34_method_3_code 9 = .ok (.istore 4, 2) := by decide +kernel
theorem d5_11 : decode prog_34_method_3_code 11 = .ok (.iconst 0, 1) := by decide +kernel
theorem d5_12 : decode prog_34_method_3_code 12 = .ok (.istore 5, 2) := by decide +kernel
theorem d5_14 : decode prog_34_method_3_code 14 = .ok (.iload 5, 2) := by decide +kernel
theorem d5_16 : decode prog_34_method_3_code 16 = .ok (.iload 4, 2) := by decide +kernel
theorem d5_18 : decode prog_34_method_3_code 18 = .ok (.if_icmp .ge 20, 3) := by decide +kernel
theorem d5_21 : decode prog_34_method_3_code 21 = .ok (.aload_n 3, 1) := by decide +kernel
theorem d5_22 : decode prog_34_method_3_code 22 = .ok (.iload 5, 2) := by decide +kernel
theorem d5_24 : decode prog_34_method_3_code 24 = .ok (.laload, 1) := by decide +kernel
theorem d5_25 : decode prog_34_method_3_code 25 = .ok (.lstore 6, 2) := by decide +kernel
theorem d5_27 : decode prog_34_method_3_code 27 = .ok (.lload_n 1, 1) := by decide +kernel
theorem d5_28 : decode prog_34_method_3_code 28 = .ok (.lload 6, 2) := by decide +kernel
theorem d5_30 : decode prog_34_method_3_code 30 = .ok (.ladd, 1) := by decide +kernel
theorem d5_31 : decode prog_34_method_3_code 31 = .ok (.lstore_n 1, 1) := by decide +kernel
theorem d5_32 : decode prog_34_method_3_code 32 = .ok (.iinc 5 1, 3) := by decide +kernel
theorem d5_35 : decode prog_34_method_3_code 35 = .ok (.goto (-21), 3) := by decide +kernel
theorem d5_38 : decode prog_34_method_3_code 38 = .ok (.lload_n 1, 1) := by decide +kernel
theorem d5_39 : decode prog_34_method_3_code 39 = .ok (.lreturn, 1) := by decide +kernel
theorem ef5 (m : MethodId) (ad0 : Addr) : entryFrame m #[(.ref ad0)] 8 = mkF m 0 #[.val (.ref ad0), .unset, .unset, .unset, .unset, .unset, .unset, .unset] [] := by first | (simp [entryFrame, mkF, argsToLocals, Value.category]; done) | rfl
def Q5 (Z : State) (ad0 : Addr) (n : Nat) (xs : Nat → Int64) (at_ : Addr) (h0 : Heap) (n0 : Nat) (v : Option Value) (h : Heap) (L : List Loc) : Prop := v = some (.long (own_sum xs n)) ∧ Fr n0 L ∧ h = h0
theorem own_os5_25 {z0 : Addr} {z1 : Int64} {z3 : Addr} {z4 : Int32} {z5 : Int32} {s6 : Slot} {s7 : Slot} {v : Int64} (h : own_Pair s6 s7) : storeLocals #[.val (.ref z0), .val (.long z1), .second, .val (.ref z3), .val (.int z4), .val (.int z5), s6, s7] 6 (.long v) = some #[.val (.ref z0), .val (.long z1), .second, .val (.ref z3), .val (.int z4), .val (.int z5), .val (.long v), .second] := by
  rcases h with ⟨rfl, rfl⟩ | ⟨x, rfl, rfl⟩ <;> rfl
set_option maxRecDepth 65536 in
set_option maxHeartbeats 40000000 in
theorem rm5 (l : Launch) (Z : State) (a0 : Array Value) (hw : ∀ d ∈ tables_1, d.before a0 Z = true) (ws : List Jvm.Cond) (ad0 : Addr) (n : Nat) (xs : Nat → Int64) (at_ : Addr) (h0 : Heap) (n0 : Nat) (Z0 : n0 ≤ h0.size) (F_blocked_ad0 : Fld Z h0 ad0 "wavegauge/simulate/Measurement" "blocked" "[J" (.ref at_)) (V_at_ : own_AV Value.long Z h0 at_ .long n xs) :
    MetFree l (⟨"wavegauge/simulate/Measurement", "totalBlocked", "()J"⟩ : MethodName) (head1 (Jvm.Cond.code (⟨"wavegauge/simulate/Measurement", "totalBlocked", "()J"⟩ : MethodName) prog_34_method_3_code 8 (some .long) :: ws) ({ frames := 0, cells := 0, slots := 0, locals := 0 } : Room)) (fun a U => a = #[(.ref ad0)] ∧ Z.Warmed39 U.vm ∧ U.heap = h0) (fun _ _ _ _ _ => True) (fun _ U o U' => ∃ v L, o = .returned v ∧ Q5 Z ad0 n xs at_ h0 n0 v U'.heap L ∧ FrameEnd U o U' L ({ frames := 0, cells := 0, slots := 0, locals := 0 } : Room).cells ({ frames := 0, cells := 0, slots := 0, locals := 0 } : Room).slots) := by
  refine MetFree.of_bodySF (plainFor_of_name own_pn1) hisR ?_
  intro p e s m args below meth c s₁ Bd hml0 hP hK
  obtain ⟨rfl, hZ, hh⟩ := hP
  have hx := Bd.exec
  have hby := Bd.bytes
  have hml : c.maxLocals = 8 := hml0
  have hown : s.vm.findClass "wavegauge/simulate/Measurement" = some m.cls := findClass_of_methodNamed Bd.named
  have hnm := (name_of_methodNamed Bd.named Bd.method).1
  have hlk : meth.locks = false := BodyLoose.notSynchronized Bd
  have X0 : Stand p l e ({ frames := 0, cells := 0, slots := 0, locals := 0 } : Room) s m #[(.ref ad0)] below meth c s₁ [] 0 0 := Stand.of_body Bd
  have e0 : s₁.heap = h0 := by rw [← hh, Bd.state]; rfl
  have N0 := Fr.nil n0
  obtain ⟨G, hG⟩ : ∃ G, G = own_G s (Q5 Z ad0 n xs at_ h0 n0) ({ frames := 0, cells := 0, slots := 0, locals := 0 } : Room).cells ({ frames := 0, cells := 0, slots := 0, locals := 0 } : Room).slots := ⟨_, rfl⟩
  show own_Fin p e below (own_G s (Q5 Z ad0 n xs at_ h0 n0) ({ frames := 0, cells := 0, slots := 0, locals := 0 } : Room).cells ({ frames := 0, cells := 0, slots := 0, locals := 0 } : Room).slots) (s₁.setTop (entryFrame m #[(.ref ad0)] 8))
  rw [← hG]
  refine own_to (fun _ kz => castTop (ef5 m ad0) kz) ?_
  show own_Fin p e below G (s₁.setTop (mkF m 0 #[.val (.ref ad0), .unset, .unset, .unset, .unset, .unset, .unset, .unset] []))
  refine own_to (fun _ kz => XS.lconst X0.here hx rfl (hb hby d5_0) kz) ?_
  show own_Fin p e below G (s₁.setTop (mkF m 1 #[.val (.ref ad0), .unset, .unset, .unset, .unset, .unset, .unset, .unset] [(.long (0 : Int64))]))
  refine own_to (fun _ kz => XS.lstoreN X0.here hx rfl (hb hby d5_1) rfl (l' := #[.val (.ref ad0), .val (.long (0 : Int64)), .second, .unset, .unset, .unset, .unset, .unset]) rfl kz) ?_
  show own_Fin p e below G (s₁.setTop (mkF m 2 #[.val (.ref ad0), .val (.long (0 : Int64)), .second, .unset, .unset, .unset, .unset, .unset] []))
  refine own_to (fun _ kz => XS.aloadN X0.here hx rfl (hb hby d5_2) rfl (rfl)  kz) ?_
  show own_Fin p e below G (s₁.setTop (mkF m 3 #[.val (.ref ad0), .val (.long (0 : Int64)), .second, .unset, .unset, .unset, .unset, .unset] [(.ref ad0)]))
  obtain ⟨T3, X3, e3, st3⟩ := getF X0 hx hZ hown (host := "") (Or.inl (hw _ (List.mem_of_getElem? (i := 26) rfl))) Via.refl e0 F_blocked_ad0 (g := (mkF m 3 #[.val (.ref ad0), .val (.long (0 : Int64)), .second, .unset, .unset, .unset, .unset, .unset] [(.ref ad0)])) rfl rfl (hb hby d5_3)
  refine own_to st3 ?_
  show own_Fin p e below G (T3.setTop (mkF m 6 #[.val (.ref ad0), .val (.long (0 : Int64)), .second, .unset, .unset, .unset, .unset, .unset] [(.ref at_)]))
  refine own_to (fun _ kz => XS.astoreN X3.here hx rfl (hb hby d5_6) rfl (rfl) (l' := #[.val (.ref ad0), .val (.long (0 : Int64)), .second, .val (.ref at_), .unset, .unset, .unset, .unset]) rfl kz) ?_
  show own_Fin p e below G (T3.setTop (mkF m 7 #[.val (.ref ad0), .val (.long (0 : Int64)), .second, .val (.ref at_), .unset, .unset, .unset, .unset] []))
  refine own_to (fun _ kz => XS.aloadN X3.here hx rfl (hb hby d5_7) rfl (rfl)  kz) ?_
  show own_Fin p e below G (T3.setTop (mkF m 8 #[.val (.ref ad0), .val (.long (0 : Int64)), .second, .val (.ref at_), .unset, .unset, .unset, .unset] [(.ref at_)]))
  refine own_to (fun _ kz => own_alen X3 hx hZ e3 V_at_ (z := (Int32.ofNat n)) rfl (g := (mkF m 8 #[.val (.ref ad0), .val (.long (0 : Int64)), .second, .val (.ref at_), .unset, .unset, .unset, .unset] [(.ref at_)])) rfl rfl (hb hby d5_8) kz) ?_
  show own_Fin p e below G (T3.setTop (mkF m 9 #[.val (.ref ad0), .val (.long (0 : Int64)), .second, .val (.ref at_), .unset, .unset, .unset, .unset] [(.int (Int32.ofNat n))]))
  refine own_to (fun _ kz => XS.istore X3.here hx rfl (hb hby d5_9) rfl (l' := #[.val (.ref ad0), .val (.long (0 : Int64)), .second, .val (.ref at_), .val (.int (Int32.ofNat n)), .unset, .unset, .unset]) rfl kz) ?_
  show own_Fin p e below G (T3.setTop (mkF m 11 #[.val (.ref ad0), .val (.long (0 : Int64)), .second, .val (.ref at_), .val (.int (Int32.ofNat n)), .unset, .unset, .unset] []))
  refine own_to (fun _ kz => XS.iconst X3.here hx rfl (hb hby d5_11) kz) ?_
  show own_Fin p e below G (T3.setTop (mkF m 12 #[.val (.ref ad0), .val (.long (0 : Int64)), .second, .val (.ref at_), .val (.int (Int32.ofNat n)), .unset, .unset, .unset] [(.int (0 : Int32))]))
  refine own_to (fun _ kz => XS.istore X3.here hx rfl (hb hby d5_12) rfl (l' := #[.val (.ref ad0), .val (.long (0 : Int64)), .second, .val (.ref at_), .val (.int (Int32.ofNat n)), .val (.int (0 : Int32)), .unset, .unset]) rfl kz) ?_
  show own_Fin p e below G (T3.setTop (mkF m 14 #[.val (.ref ad0), .val (.long (0 : Int64)), .second, .val (.ref at_), .val (.int (Int32.ofNat n)), .val (.int (0 : Int32)), .unset, .unset] []))
  have K14 : ∀ (k_14 : Nat) (i : Int32) (S : Int64) (s6 : Slot) (s7 : Slot) (T_j14 : State) (locs_j14 : List Loc) (N_j14 : Fr n0 locs_j14) (X_j14 : Stand p l e ({ frames := 0, cells := 0, slots := 0, locals := 0 } : Room) s m #[(.ref ad0)] below meth c T_j14 locs_j14 0 0) (e_j14 : T_j14.heap = h0) (hm_14 : n - i.toNatClampNeg = k_14) (hi : 0 ≤ i.toInt ∧ i.toInt ≤ n) (hS : S = own_sum xs i.toNatClampNeg) (hp : own_Pair s6 s7), own_Fin p e below G (T_j14.setTop (mkF m 14 #[.val (.ref ad0), .val (.long S), .second, .val (.ref at_), .val (.int (Int32.ofNat n)), .val (.int i), s6, s7] [])) := by
    intro k_14
    induction k_14 using Nat.strongRecOn with
    | _ k_14 ih_14 =>
      intro i S s6 s7 T_j14 locs_j14 N_j14 X_j14 e_j14 hm_14 hi hS hp
      refine own_to (fun _ kz => XS.iload X_j14.here hx rfl (hb hby d5_14) rfl  kz) ?_
      show own_Fin p e below G (T_j14.setTop (mkF m 16 #[.val (.ref ad0), .val (.long S), .second, .val (.ref at_), .val (.int (Int32.ofNat n)), .val (.int i), s6, s7] [(.int i)]))
      refine own_to (fun _ kz => XS.iload X_j14.here hx rfl (hb hby d5_16) rfl  kz) ?_
      show own_Fin p e below G (T_j14.setTop (mkF m 18 #[.val (.ref ad0), .val (.long S), .second, .val (.ref at_), .val (.int (Int32.ofNat n)), .val (.int i), s6, s7] [(.int (Int32.ofNat n)), (.int i)]))
      by_cases hc18 : i < (Int32.ofNat n)
      · refine own_to (fun _ kz => XS.icmpNo X_j14.here hx rfl (hb hby d5_18) rfl (tlt hc18).2.1 kz) ?_
        show own_Fin p e below G (T_j14.setTop (mkF m 21 #[.val (.ref ad0), .val (.long S), .second, .val (.ref at_), .val (.int (Int32.ofNat n)), .val (.int i), s6, s7] []))
        refine own_to (fun _ kz => XS.aloadN X_j14.here hx rfl (hb hby d5_21) rfl (rfl)  kz) ?_
        show own_Fin p e below G (T_j14.setTop (mkF m 22 #[.val (.ref ad0), .val (.long S), .second, .val (.ref at_), .val (.int (Int32.ofNat n)), .val (.int i), s6, s7] [(.ref at_)]))
        refine own_to (fun _ kz => XS.iload X_j14.here hx rfl (hb hby d5_22) rfl  kz) ?_
        show own_Fin p e below G (T_j14.setTop (mkF m 24 #[.val (.ref ad0), .val (.long S), .second, .val (.ref at_), .val (.int (Int32.ofNat n)), .val (.int i), s6, s7] [(.int i), (.ref at_)]))
        refine own_to (fun _ kz => own_laload X_j14 hx hZ e_j14 V_at_ (j := i) (own_up V_at_.1 hi hc18).2.1.1 rfl (own_up V_at_.1 hi hc18).2.1.2 (g := (mkF m 24 #[.val (.ref ad0), .val (.long S), .second, .val (.ref at_), .val (.int (Int32.ofNat n)), .val (.int i), s6, s7] [(.int i), (.ref at_)])) rfl rfl (hb hby d5_24) kz) ?_
        show own_Fin p e below G (T_j14.setTop (mkF m 25 #[.val (.ref ad0), .val (.long S), .second, .val (.ref at_), .val (.int (Int32.ofNat n)), .val (.int i), s6, s7] [(.long (xs i.toNatClampNeg))]))
        refine own_to (fun _ kz => XS.lstore X_j14.here hx rfl (hb hby d5_25) rfl (l' := #[.val (.ref ad0), .val (.long S), .second, .val (.ref at_), .val (.int (Int32.ofNat n)), .val (.int i), .val (.long (xs i.toNatClampNeg)), .second]) (own_os5_25 hp) kz) ?_
        show own_Fin p e below G (T_j14.setTop (mkF m 27 #[.val (.ref ad0), .val (.long S), .second, .val (.ref at_), .val (.int (Int32.ofNat n)), .val (.int i), .val (.long (xs i.toNatClampNeg)), .second] []))
        refine own_to (fun _ kz => XS.lloadN X_j14.here hx rfl (hb hby d5_27) rfl  kz) ?_
        show own_Fin p e below G (T_j14.setTop (mkF m 28 #[.val (.ref ad0), .val (.long S), .second, .val (.ref at_), .val (.int (Int32.ofNat n)), .val (.int i), .val (.long (xs i.toNatClampNeg)), .second] [(.long S)]))
        refine own_to (fun _ kz => XS.lload X_j14.here hx rfl (hb hby d5_28) rfl  kz) ?_
        show own_Fin p e below G (T_j14.setTop (mkF m 30 #[.val (.ref ad0), .val (.long S), .second, .val (.ref at_), .val (.int (Int32.ofNat n)), .val (.int i), .val (.long (xs i.toNatClampNeg)), .second] [(.long (xs i.toNatClampNeg)), (.long S)]))
        refine own_to (fun _ kz => XS.ladd X_j14.here hx rfl (hb hby d5_30) rfl kz) ?_
        show own_Fin p e below G (T_j14.setTop (mkF m 31 #[.val (.ref ad0), .val (.long S), .second, .val (.ref at_), .val (.int (Int32.ofNat n)), .val (.int i), .val (.long (xs i.toNatClampNeg)), .second] [(.long (S + (xs i.toNatClampNeg)))]))
        refine own_to (fun _ kz => XS.lstoreN X_j14.here hx rfl (hb hby d5_31) rfl (l' := #[.val (.ref ad0), .val (.long (S + (xs i.toNatClampNeg))), .second, .val (.ref at_), .val (.int (Int32.ofNat n)), .val (.int i), .val (.long (xs i.toNatClampNeg)), .second]) rfl kz) ?_
        show own_Fin p e below G (T_j14.setTop (mkF m 32 #[.val (.ref ad0), .val (.long (S + (xs i.toNatClampNeg))), .second, .val (.ref at_), .val (.int (Int32.ofNat n)), .val (.int i), .val (.long (xs i.toNatClampNeg)), .second] []))
        refine own_to (fun _ kz => XS.iinc X_j14.here hx rfl (hb hby d5_32) rfl (l' := #[.val (.ref ad0), .val (.long (S + (xs i.toNatClampNeg))), .second, .val (.ref at_), .val (.int (Int32.ofNat n)), .val (.int (i + (1 : Int32))), .val (.long (xs i.toNatClampNeg)), .second]) rfl kz) ?_
        show own_Fin p e below G (T_j14.setTop (mkF m 35 #[.val (.ref ad0), .val (.long (S + (xs i.toNatClampNeg))), .second, .val (.ref at_), .val (.int (Int32.ofNat n)), .val (.int (i + (1 : Int32))), .val (.long (xs i.toNatClampNeg)), .second] []))
        refine own_to (fun _ kz => XS.goto X_j14.here hx rfl (pc0 := 35) (pc' := 14) rfl (hb hby d5_35) (by decide) (by decide) kz) ?_
        show own_Fin p e below G (T_j14.setTop (mkF m 14 #[.val (.ref ad0), .val (.long (S + (xs i.toNatClampNeg))), .second, .val (.ref at_), .val (.int (Int32.ofNat n)), .val (.int (i + (1 : Int32))), .val (.long (xs i.toNatClampNeg)), .second] []))
        exact ih_14 _ (own_dec V_at_.1 hi hc18 hm_14) (i + (1 : Int32)) (S + (xs i.toNatClampNeg)) (.val (.long (xs i.toNatClampNeg))) .second _ _ N_j14 X_j14 e_j14 rfl (own_up V_at_.1 hi hc18).1 (by rw [(own_up V_at_.1 hi hc18).2.2, hS]; rfl) (Or.inr ⟨_, rfl, rfl⟩)
      · refine own_to (fun _ kz => XS.icmpYes X_j14.here hx rfl (pc0 := 18) (pc' := 38) rfl (hb hby d5_18) rfl (flt hc18).2.1 (by decide) (by decide) kz) ?_
        show own_Fin p e below G (T_j14.setTop (mkF m 38 #[.val (.ref ad0), .val (.long S), .second, .val (.ref at_), .val (.int (Int32.ofNat n)), .val (.int i), s6, s7] []))
        refine own_to (fun _ kz => XS.lloadN X_j14.here hx rfl (hb hby d5_38) rfl  kz) ?_
        show own_Fin p e below G (T_j14.setTop (mkF m 39 #[.val (.ref ad0), .val (.long S), .second, .val (.ref at_), .val (.int (Int32.ofNat n)), .val (.int i), s6, s7] [(.long S)]))
        exact own_retJ X_j14 hx hlk hG Bd.returns (hb hby d5_39) (by decide) (by decide) ⟨(by rw [hS, own_last V_at_.1 hi hc18]), N_j14, e_j14⟩
  exact K14 _ (0 : Int32) (0 : Int64) .unset .unset _ _ N0 X3 e3 rfl ⟨by decide, Int.natCast_nonneg n⟩ rfl (Or.inl ⟨rfl, rfl⟩)
def own_want (k : Int32) (a b c : Int64) : Int64 := if k = 0 then 0 else if k = 1 then a else if k = 2 then a + b else a + b + c
theorem own_pn2 : plainName "wavegauge/simulate/MeasurementTotalBlockedPinLaw" = true := by first | (simp [plainName, overriddenIn]; done) | decide +kernel
theorem d1_0 : decode method_2_code 0 = .ok (.iload_n 0, 1) := by decide +kernel
theorem d1_1 : decode method_2_code 1 = .ok (.ifCond .ne 7, 3) := by decide +kernel
theorem d1_4 : decode method_2_code 4 = .ok (.iconst 0, 1) := by decide +kernel
theorem d1_5 : decode method_2_code 5 = .ok (.newarray .long, 2) := by decide +kernel
theorem d1_7 : decode method_2_code 7 = .ok (.areturn, 1) := by decide +kernel
theorem d1_8 : decode method_2_code 8 = .ok (.iload_n 0, 1) := by decide +kernel
theorem d1_9 : decode method_2_code 9 = .ok (.iconst 1, 1) := by decide +kernel
theorem d1_10 : decode method_2_code 10 = .ok (.if_icmp .ne 11, 3) := by decide +kernel
theorem d1_13 : decode method_2_code 13 = .ok (.iconst 1, 1) := by decide +kernel
theorem d1_14 : decode method_2_code 14 = .ok (.newarray .long, 2) := by decide +kernel
theorem d1_16 : decode method_2_code 16 = .ok (.dup, 1) := by decide +kernel
theorem d1_17 : decode method_2_code 17 = .ok (.iconst 0, 1) := by decide +kernel
theorem d1_18 : decode method_2_code 18 = .ok (.lload_n 1, 1) := by decide +kernel
theorem d1_19 : decode method_2_code 19 = .ok (.lastore, 1) := by decide +kernel
theorem d1_20 : decode method_2_code 20 = .ok (.areturn, 1) := by decide +kernel
theorem d1_21 : decode method_2_code 21 = .ok (.iload_n 0, 1) := by decide +kernel
theorem d1_22 : decode method_2_code 22 = .ok (.iconst 2, 1) := by decide +kernel
theorem d1_23 : decode method_2_code 23 = .ok (.if_icmp .ne 15, 3) := by decide +kernel
theorem d1_26 : decode method_2_code 26 = .ok (.iconst 2, 1) := by decide +kernel
theorem d1_27 : decode method_2_code 27 = .ok (.newarray .long, 2) := by decide +kernel
theorem d1_29 : decode method_2_code 29 = .ok (.dup, 1) := by decide +kernel
theorem d1_30 : decode method_2_code 30 = .ok (.iconst 0, 1) := by decide +kernel
theorem d1_31 : decode method_2_code 31 = .ok (.lload_n 1, 1) := by decide +kernel
theorem d1_32 : decode method_2_code 32 = .ok (.lastore, 1) := by decide +kernel
theorem d1_33 : decode method_2_code 33 = .ok (.dup, 1) := by decide +kernel
theorem d1_34 : decode method_2_code 34 = .ok (.iconst 1, 1) := by decide +kernel
theorem d1_35 : decode method_2_code 35 = .ok (.lload_n 3, 1) := by decide +kernel
theorem d1_36 : decode method_2_code 36 = .ok (.lastore, 1) := by decide +kernel
theorem d1_37 : decode method_2_code 37 = .ok (.areturn, 1) := by decide +kernel
theorem d1_38 : decode method_2_code 38 = .ok (.iconst 3, 1) := by decide +kernel
theorem d1_39 : decode method_2_code 39 = .ok (.newarray .long, 2) := by decide +kernel
theorem d1_41 : decode method_2_code 41 = .ok (.dup, 1) := by decide +kernel
theorem d1_42 : decode method_2_code 42 = .ok (.iconst 0, 1) := by decide +kernel
theorem d1_43 : decode method_2_code 43 = .ok (.lload_n 1, 1) := by decide +kernel
theorem d1_44 : decode method_2_code 44 = .ok (.lastore, 1) := by decide +kernel
theorem d1_45 : decode method_2_code 45 = .ok (.dup, 1) := by decide +kernel
theorem d1_46 : decode method_2_code 46 = .ok (.iconst 1, 1) := by decide +kernel
theorem d1_47 : decode method_2_code 47 = .ok (.lload_n 3, 1) := by decide +kernel
theorem d1_48 : decode method_2_code 48 = .ok (.lastore, 1) := by decide +kernel
theorem d1_49 : decode method_2_code 49 = .ok (.dup, 1) := by decide +kernel
theorem d1_50 : decode method_2_code 50 = .ok (.iconst 2, 1) := by decide +kernel
theorem d1_51 : decode method_2_code 51 = .ok (.lload 5, 2) := by decide +kernel
theorem d1_53 : decode method_2_code 53 = .ok (.lastore, 1) := by decide +kernel
theorem d1_54 : decode method_2_code 54 = .ok (.areturn, 1) := by decide +kernel
theorem ef1 (m : MethodId) (p0 : Int32) (x1 : Int64) (x2 : Int64) (x3 : Int64) : entryFrame m #[(.int p0), (.long x1), (.long x2), (.long x3)] 7 = mkF m 0 #[.val (.int p0), .val (.long x1), .second, .val (.long x2), .second, .val (.long x3), .second] [] := by first | (simp [entryFrame, mkF, argsToLocals, Value.category]; done) | rfl
def Q1 (Z : State) (p0 : Int32) (x1 : Int64) (x2 : Int64) (x3 : Int64) (h0 : Heap) (n0 : Nat) (v : Option Value) (h : Heap) (L : List Loc) : Prop := ∃ (b : Addr) (nb : Nat) (fb : Nat → Int64), v = some (.ref b) ∧ Fr n0 L ∧ h0.size ≤ b ∧ Keep h0 h [] ∧ own_AV Value.long Z h b .long nb fb ∧ own_sum fb nb = own_want p0 x1 x2 x3
set_option maxRecDepth 65536 in
set_option maxHeartbeats 40000000 in
theorem rm1 (l : Launch) (Z : State) (a0 : Array Value) (hw : ∀ d ∈ tables_1, d.before a0 Z = true) (ws : List Jvm.Cond) (p0 : Int32) (x1 : Int64) (x2 : Int64) (x3 : Int64) (h0 : Heap) (n0 : Nat) (Z0 : n0 ≤ h0.size) :
    MetFree l (⟨"wavegauge/simulate/MeasurementTotalBlockedPinLaw", "drawn", "(IJJJ)[J"⟩ : MethodName) (head1 (Jvm.Cond.code (⟨"wavegauge/simulate/MeasurementTotalBlockedPinLaw", "drawn", "(IJJJ)[J"⟩ : MethodName) method_2_code 7 (some (.array .long)) :: ws) ({ frames := 0, cells := 1, slots := 3, locals := 0 } : Room)) (fun a U => a = #[(.int p0), (.long x1), (.long x2), (.long x3)] ∧ Z.Warmed39 U.vm ∧ U.heap = h0) (fun _ _ _ _ _ => True) (fun _ U o U' => ∃ v L, o = .returned v ∧ Q1 Z p0 x1 x2 x3 h0 n0 v U'.heap L ∧ FrameEnd U o U' L ({ frames := 0, cells := 1, slots := 3, locals := 0 } : Room).cells ({ frames := 0, cells := 1, slots := 3, locals := 0 } : Room).slots) := by
  refine MetFree.of_bodySF (plainFor_of_name own_pn2) hisR ?_
  intro p e s m args below meth c s₁ Bd hml0 hP hK
  obtain ⟨rfl, hZ, hh⟩ := hP
  have hx := Bd.exec
  have hby := Bd.bytes
  have hml : c.maxLocals = 7 := hml0
  have hown : s.vm.findClass "wavegauge/simulate/MeasurementTotalBlockedPinLaw" = some m.cls := findClass_of_methodNamed Bd.named
  have hnm := (name_of_methodNamed Bd.named Bd.method).1
  have hlk : meth.locks = false := BodyLoose.notSynchronized Bd
  have X0 : Stand p l e ({ frames := 0, cells := 1, slots := 3, locals := 0 } : Room) s m #[(.int p0), (.long x1), (.long x2), (.long x3)] below meth c s₁ [] 0 0 := Stand.of_body Bd
  have e0 : s₁.heap = h0 := by rw [← hh, Bd.state]; rfl
  have N0 := Fr.nil n0
  obtain ⟨G, hG⟩ : ∃ G, G = own_G s (Q1 Z p0 x1 x2 x3 h0 n0) ({ frames := 0, cells := 1, slots := 3, locals := 0 } : Room).cells ({ frames := 0, cells := 1, slots := 3, locals := 0 } : Room).slots := ⟨_, rfl⟩
  show own_Fin p e below (own_G s (Q1 Z p0 x1 x2 x3 h0 n0) ({ frames := 0, cells := 1, slots := 3, locals := 0 } : Room).cells ({ frames := 0, cells := 1, slots := 3, locals := 0 } : Room).slots) (s₁.setTop (entryFrame m #[(.int p0), (.long x1), (.long x2), (.long x3)] 7))
  rw [← hG]
  refine own_to (fun _ kz => castTop (ef1 m p0 x1 x2 x3) kz) ?_
  show own_Fin p e below G (s₁.setTop (mkF m 0 #[.val (.int p0), .val (.long x1), .second, .val (.long x2), .second, .val (.long x3), .second] []))
  refine own_to (fun _ kz => XS.iloadN X0.here hx rfl (hb hby d1_0) rfl  kz) ?_
  show own_Fin p e below G (s₁.setTop (mkF m 1 #[.val (.int p0), .val (.long x1), .second, .val (.long x2), .second, .val (.long x3), .second] [(.int p0)]))
  by_cases hc1 : p0 = (0 : Int32)
  · refine own_to (fun _ kz => XS.ifNo X0.here hx rfl (hb hby d1_1) rfl ((if0 _ _).trans (teq hc1).2) kz) ?_
    show own_Fin p e below G (s₁.setTop (mkF m 4 #[.val (.int p0), .val (.long x1), .second, .val (.long x2), .second, .val (.long x3), .second] []))
    refine own_to (fun _ kz => XS.iconst X0.here hx rfl (hb hby d1_4) kz) ?_
    show own_Fin p e below G (s₁.setTop (mkF m 5 #[.val (.int p0), .val (.long x1), .second, .val (.long x2), .second, .val (.long x3), .second] [(.int (0 : Int32))]))
    obtain ⟨T5, h5, k5, X5, e5, E5, A5, st5⟩ := newP X0 hx hZ (hw _ (List.mem_of_getElem? (i := 4) rfl)) e0 (g := (mkF m 5 #[.val (.int p0), .val (.long x1), .second, .val (.long x2), .second, .val (.long x3), .second] [(.int (0 : Int32))])) rfl (hb hby d1_5) rfl (by decide) (cap := 0) (by decide) (by decide) (by decide) (by decide)
    obtain ⟨b5, g5⟩ : ∃ z, z = h0.size := ⟨_, rfl⟩
    rw [← g5] at A5 st5
    refine own_to st5 ?_
    have g_b5 : n0 ≤ b5 := Nat.le_trans Z0 (Nat.le_of_eq g5.symm)
    have sz_b5 : h0.size ≤ b5 := Nat.le_trans (Keep.refl h0 []).1 (Nat.le_of_eq g5.symm)
    have V5 : own_AV Value.long Z h5 b5 .long 0 (fun _ => (0 : Int64)) := own_AV.new A5 (by decide) (by decide) (fun _ => rfl)
    show own_Fin p e below G (T5.setTop (mkF m 7 #[.val (.int p0), .val (.long x1), .second, .val (.long x2), .second, .val (.long x3), .second] [(.ref b5)]))
    have KP_7 : Keep h0 h5 [] := ((Keep.refl h0 []).ext E5)
    exact own_retA X5 hx hlk hG Bd.returns rfl rfl (hb hby d1_7) (by decide) (by decide) (by rw [e5]; exact ⟨b5, _, _, rfl, N0, sz_b5, KP_7, V5, by simp [own_want, own_sum, own_upd, *]⟩)
  · refine own_to (fun _ kz => XS.ifYes X0.here hx rfl (pc0 := 1) (pc' := 8) rfl (hb hby d1_1) rfl ((if0 _ _).trans (feq hc1).2) (by decide) (by decide) kz) ?_
    show own_Fin p e below G (s₁.setTop (mkF m 8 #[.val (.int p0), .val (.long x1), .second, .val (.long x2), .second, .val (.long x3), .second] []))
    refine own_to (fun _ kz => XS.iloadN X0.here hx rfl (hb hby d1_8) rfl  kz) ?_
    show own_Fin p e below G (s₁.setTop (mkF m 9 #[.val (.int p0), .val (.long x1), .second, .val (.long x2), .second, .val (.long x3), .second] [(.int p0)]))
    refine own_to (fun _ kz => XS.iconst X0.here hx rfl (hb hby d1_9) kz) ?_
    show own_Fin p e below G (s₁.setTop (mkF m 10 #[.val (.int p0), .val (.long x1), .second, .val (.long x2), .second, .val (.long x3), .second] [(.int (1 : Int32)), (.int p0)]))
    by_cases hc10 : p0 = (1 : Int32)
    · refine own_to (fun _ kz => XS.icmpNo X0.here hx rfl (hb hby d1_10) rfl (teq hc10).2 kz) ?_
      show own_Fin p e below G (s₁.setTop (mkF m 13 #[.val (.int p0), .val (.long x1), .second, .val (.long x2), .second, .val (.long x3), .second] []))
      refine own_to (fun _ kz => XS.iconst X0.here hx rfl (hb hby d1_13) kz) ?_
      show own_Fin p e below G (s₁.setTop (mkF m 14 #[.val (.int p0), .val (.long x1), .second, .val (.long x2), .second, .val (.long x3), .second] [(.int (1 : Int32))]))
      obtain ⟨T14, h14, k14, X14, e14, E14, A14, st14⟩ := newP X0 hx hZ (hw _ (List.mem_of_getElem? (i := 4) rfl)) e0 (g := (mkF m 14 #[.val (.int p0), .val (.long x1), .second, .val (.long x2), .second, .val (.long x3), .second] [(.int (1 : Int32))])) rfl (hb hby d1_14) rfl (by decide) (cap := 1) (by decide) (by decide) (by decide) (by decide)
      obtain ⟨b14, g14⟩ : ∃ z, z = h0.size := ⟨_, rfl⟩
      rw [← g14] at A14 st14
      refine own_to st14 ?_
      have g_b14 : n0 ≤ b14 := Nat.le_trans Z0 (Nat.le_of_eq g14.symm)
      have sz_b14 : h0.size ≤ b14 := Nat.le_trans (Keep.refl h0 []).1 (Nat.le_of_eq g14.symm)
      have V14 : own_AV Value.long Z h14 b14 .long 1 (fun _ => (0 : Int64)) := own_AV.new A14 (by decide) (by decide) (fun _ => rfl)
      show own_Fin p e below G (T14.setTop (mkF m 16 #[.val (.int p0), .val (.long x1), .second, .val (.long x2), .second, .val (.long x3), .second] [(.ref b14)]))
      refine own_to (fun _ kz => XS.dup X14.here hx rfl (hb hby d1_16) rfl rfl kz) ?_
      show own_Fin p e below G (T14.setTop (mkF m 17 #[.val (.int p0), .val (.long x1), .second, .val (.long x2), .second, .val (.long x3), .second] [(.ref b14), (.ref b14)]))
      refine own_to (fun _ kz => XS.iconst X14.here hx rfl (hb hby d1_17) kz) ?_
      show own_Fin p e below G (T14.setTop (mkF m 18 #[.val (.int p0), .val (.long x1), .second, .val (.long x2), .second, .val (.long x3), .second] [(.int (0 : Int32)), (.ref b14), (.ref b14)]))
      refine own_to (fun _ kz => XS.lloadN X14.here hx rfl (hb hby d1_18) rfl  kz) ?_
      show own_Fin p e below G (T14.setTop (mkF m 19 #[.val (.int p0), .val (.long x1), .second, .val (.long x2), .second, .val (.long x3), .second] [(.long x1), (.int (0 : Int32)), (.ref b14), (.ref b14)]))
      obtain ⟨nn19, cl19, Ar19, Sz19, Hs19⟩ := V14
      obtain ⟨T19, h19, X19, e19, W19, st19⟩ := stJ X14 hx hZ e14 Ar19 (j := (0 : Int32)) (own_in Sz19 (by decide) rfl (by decide)) (g := (mkF m 19 #[.val (.int p0), .val (.long x1), .second, .val (.long x2), .second, .val (.long x3), .second] [(.long x1), (.int (0 : Int32)), (.ref b14), (.ref b14)])) rfl rfl (hb hby d1_19)
      refine own_to st19 ?_
      have V19 : own_AV Value.long Z h19 b14 .long 1 (own_upd (fun _ => (0 : Int64)) 0 x1) := own_AV.set nn19 Ar19 Sz19 Hs19 W19 rfl
      have N19 := Fr.snoc X19 N0 g_b14
      show own_Fin p e below G (T19.setTop (mkF m 20 #[.val (.int p0), .val (.long x1), .second, .val (.long x2), .second, .val (.long x3), .second] [(.ref b14)]))
      have KP_20 : Keep h0 h19 [] := (((Keep.refl h0 []).ext E14).wr W19 (Or.inr sz_b14))
      exact own_retA X19 hx hlk hG Bd.returns rfl rfl (hb hby d1_20) (by decide) (by decide) (by rw [e19]; exact ⟨b14, _, _, rfl, N19, sz_b14, KP_20, V19, by simp [own_want, own_sum, own_upd, *]⟩)
    · refine own_to (fun _ kz => XS.icmpYes X0.here hx rfl (pc0 := 10) (pc' := 21) rfl (hb hby d1_10) rfl (feq hc10).2 (by decide) (by decide) kz) ?_
      show own_Fin p e below G (s₁.setTop (mkF m 21 #[.val (.int p0), .val (.long x1), .second, .val (.long x2), .second, .val (.long x3), .second] []))
      refine own_to (fun _ kz => XS.iloadN X0.here hx rfl (hb hby d1_21) rfl  kz) ?_
      show own_Fin p e below G (s₁.setTop (mkF m 22 #[.val (.int p0), .val (.long x1), .second, .val (.long x2), .second, .val (.long x3), .second] [(.int p0)]))
      refine own_to (fun _ kz => XS.iconst X0.here hx rfl (hb hby d1_22) kz) ?_
      show own_Fin p e below G (s₁.setTop (mkF m 23 #[.val (.int p0), .val (.long x1), .second, .val (.long x2), .second, .val (.long x3), .second] [(.int (2 : Int32)), (.int p0)]))
      by_cases hc23 : p0 = (2 : Int32)
      · refine own_to (fun _ kz => XS.icmpNo X0.here hx rfl (hb hby d1_23) rfl (teq hc23).2 kz) ?_
        show own_Fin p e below G (s₁.setTop (mkF m 26 #[.val (.int p0), .val (.long x1), .second, .val (.long x2), .second, .val (.long x3), .second] []))
        refine own_to (fun _ kz => XS.iconst X0.here hx rfl (hb hby d1_26) kz) ?_
        show own_Fin p e below G (s₁.setTop (mkF m 27 #[.val (.int p0), .val (.long x1), .second, .val (.long x2), .second, .val (.long x3), .second] [(.int (2 : Int32))]))
        obtain ⟨T27, h27, k27, X27, e27, E27, A27, st27⟩ := newP X0 hx hZ (hw _ (List.mem_of_getElem? (i := 4) rfl)) e0 (g := (mkF m 27 #[.val (.int p0), .val (.long x1), .second, .val (.long x2), .second, .val (.long x3), .second] [(.int (2 : Int32))])) rfl (hb hby d1_27) rfl (by decide) (cap := 2) (by decide) (by decide) (by decide) (by decide)
        obtain ⟨b27, g27⟩ : ∃ z, z = h0.size := ⟨_, rfl⟩
        rw [← g27] at A27 st27
        refine own_to st27 ?_
        have g_b27 : n0 ≤ b27 := Nat.le_trans Z0 (Nat.le_of_eq g27.symm)
        have sz_b27 : h0.size ≤ b27 := Nat.le_trans (Keep.refl h0 []).1 (Nat.le_of_eq g27.symm)
        have V27 : own_AV Value.long Z h27 b27 .long 2 (fun _ => (0 : Int64)) := own_AV.new A27 (by decide) (by decide) (fun _ => rfl)
        show own_Fin p e below G (T27.setTop (mkF m 29 #[.val (.int p0), .val (.long x1), .second, .val (.long x2), .second, .val (.long x3), .second] [(.ref b27)]))
        refine own_to (fun _ kz => XS.dup X27.here hx rfl (hb hby d1_29) rfl rfl kz) ?_
        show own_Fin p e below G (T27.setTop (mkF m 30 #[.val (.int p0), .val (.long x1), .second, .val (.long x2), .second, .val (.long x3), .second] [(.ref b27), (.ref b27)]))
        refine own_to (fun _ kz => XS.iconst X27.here hx rfl (hb hby d1_30) kz) ?_
        show own_Fin p e below G (T27.setTop (mkF m 31 #[.val (.int p0), .val (.long x1), .second, .val (.long x2), .second, .val (.long x3), .second] [(.int (0 : Int32)), (.ref b27), (.ref b27)]))
        refine own_to (fun _ kz => XS.lloadN X27.here hx rfl (hb hby d1_31) rfl  kz) ?_
        show own_Fin p e below G (T27.setTop (mkF m 32 #[.val (.int p0), .val (.long x1), .second, .val (.long x2), .second, .val (.long x3), .second] [(.long x1), (.int (0 : Int32)), (.ref b27), (.ref b27)]))
        obtain ⟨nn32, cl32, Ar32, Sz32, Hs32⟩ := V27
        obtain ⟨T32, h32, X32, e32, W32, st32⟩ := stJ X27 hx hZ e27 Ar32 (j := (0 : Int32)) (own_in Sz32 (by decide) rfl (by decide)) (g := (mkF m 32 #[.val (.int p0), .val (.long x1), .second, .val (.long x2), .second, .val (.long x3), .second] [(.long x1), (.int (0 : Int32)), (.ref b27), (.ref b27)])) rfl rfl (hb hby d1_32)
        refine own_to st32 ?_
        have V32 : own_AV Value.long Z h32 b27 .long 2 (own_upd (fun _ => (0 : Int64)) 0 x1) := own_AV.set nn32 Ar32 Sz32 Hs32 W32 rfl
        have N32 := Fr.snoc X32 N0 g_b27
        show own_Fin p e below G (T32.setTop (mkF m 33 #[.val (.int p0), .val (.long x1), .second, .val (.long x2), .second, .val (.long x3), .second] [(.ref b27)]))
        refine own_to (fun _ kz => XS.dup X32.here hx rfl (hb hby d1_33) rfl rfl kz) ?_
        show own_Fin p e below G (T32.setTop (mkF m 34 #[.val (.int p0), .val (.long x1), .second, .val (.long x2), .second, .val (.long x3), .second] [(.ref b27), (.ref b27)]))
        refine own_to (fun _ kz => XS.iconst X32.here hx rfl (hb hby d1_34) kz) ?_
        show own_Fin p e below G (T32.setTop (mkF m 35 #[.val (.int p0), .val (.long x1), .second, .val (.long x2), .second, .val (.long x3), .second] [(.int (1 : Int32)), (.ref b27), (.ref b27)]))
        refine own_to (fun _ kz => XS.lloadN X32.here hx rfl (hb hby d1_35) rfl  kz) ?_
        show own_Fin p e below G (T32.setTop (mkF m 36 #[.val (.int p0), .val (.long x1), .second, .val (.long x2), .second, .val (.long x3), .second] [(.long x2), (.int (1 : Int32)), (.ref b27), (.ref b27)]))
        obtain ⟨nn36, cl36, Ar36, Sz36, Hs36⟩ := V32
        obtain ⟨T36, h36, X36, e36, W36, st36⟩ := stJ X32 hx hZ e32 Ar36 (j := (1 : Int32)) (own_in Sz36 (by decide) rfl (by decide)) (g := (mkF m 36 #[.val (.int p0), .val (.long x1), .second, .val (.long x2), .second, .val (.long x3), .second] [(.long x2), (.int (1 : Int32)), (.ref b27), (.ref b27)])) rfl rfl (hb hby d1_36)
        refine own_to st36 ?_
        have V36 : own_AV Value.long Z h36 b27 .long 2 (own_upd (own_upd (fun _ => (0 : Int64)) 0 x1) 1 x2) := own_AV.set nn36 Ar36 Sz36 Hs36 W36 rfl
        have N36 := Fr.snoc X36 N32 g_b27
        show own_Fin p e below G (T36.setTop (mkF m 37 #[.val (.int p0), .val (.long x1), .second, .val (.long x2), .second, .val (.long x3), .second] [(.ref b27)]))
        have KP_37 : Keep h0 h36 [] := ((((Keep.refl h0 []).ext E27).wr W32 (Or.inr sz_b27)).wr W36 (Or.inr sz_b27))
        exact own_retA X36 hx hlk hG Bd.returns rfl rfl (hb hby d1_37) (by decide) (by decide) (by rw [e36]; exact ⟨b27, _, _, rfl, N36, sz_b27, KP_37, V36, by simp [own_want, own_sum, own_upd, *]⟩)
      · refine own_to (fun _ kz => XS.icmpYes X0.here hx rfl (pc0 := 23) (pc' := 38) rfl (hb hby d1_23) rfl (feq hc23).2 (by decide) (by decide) kz) ?_
        show own_Fin p e below G (s₁.setTop (mkF m 38 #[.val (.int p0), .val (.long x1), .second, .val (.long x2), .second, .val (.long x3), .second] []))
        refine own_to (fun _ kz => XS.iconst X0.here hx rfl (hb hby d1_38) kz) ?_
        show own_Fin p e below G (s₁.setTop (mkF m 39 #[.val (.int p0), .val (.long x1), .second, .val (.long x2), .second, .val (.long x3), .second] [(.int (3 : Int32))]))
        obtain ⟨T39, h39, k39, X39, e39, E39, A39, st39⟩ := newP X0 hx hZ (hw _ (List.mem_of_getElem? (i := 4) rfl)) e0 (g := (mkF m 39 #[.val (.int p0), .val (.long x1), .second, .val (.long x2), .second, .val (.long x3), .second] [(.int (3 : Int32))])) rfl (hb hby d1_39) rfl (by decide) (cap := 3) (by decide) (by decide) (by decide) (by decide)
        obtain ⟨b39, g39⟩ : ∃ z, z = h0.size := ⟨_, rfl⟩
        rw [← g39] at A39 st39
        refine own_to st39 ?_
        have g_b39 : n0 ≤ b39 := Nat.le_trans Z0 (Nat.le_of_eq g39.symm)
        have sz_b39 : h0.size ≤ b39 := Nat.le_trans (Keep.refl h0 []).1 (Nat.le_of_eq g39.symm)
        have V39 : own_AV Value.long Z h39 b39 .long 3 (fun _ => (0 : Int64)) := own_AV.new A39 (by decide) (by decide) (fun _ => rfl)
        show own_Fin p e below G (T39.setTop (mkF m 41 #[.val (.int p0), .val (.long x1), .second, .val (.long x2), .second, .val (.long x3), .second] [(.ref b39)]))
        refine own_to (fun _ kz => XS.dup X39.here hx rfl (hb hby d1_41) rfl rfl kz) ?_
        show own_Fin p e below G (T39.setTop (mkF m 42 #[.val (.int p0), .val (.long x1), .second, .val (.long x2), .second, .val (.long x3), .second] [(.ref b39), (.ref b39)]))
        refine own_to (fun _ kz => XS.iconst X39.here hx rfl (hb hby d1_42) kz) ?_
        show own_Fin p e below G (T39.setTop (mkF m 43 #[.val (.int p0), .val (.long x1), .second, .val (.long x2), .second, .val (.long x3), .second] [(.int (0 : Int32)), (.ref b39), (.ref b39)]))
        refine own_to (fun _ kz => XS.lloadN X39.here hx rfl (hb hby d1_43) rfl  kz) ?_
        show own_Fin p e below G (T39.setTop (mkF m 44 #[.val (.int p0), .val (.long x1), .second, .val (.long x2), .second, .val (.long x3), .second] [(.long x1), (.int (0 : Int32)), (.ref b39), (.ref b39)]))
        obtain ⟨nn44, cl44, Ar44, Sz44, Hs44⟩ := V39
        obtain ⟨T44, h44, X44, e44, W44, st44⟩ := stJ X39 hx hZ e39 Ar44 (j := (0 : Int32)) (own_in Sz44 (by decide) rfl (by decide)) (g := (mkF m 44 #[.val (.int p0), .val (.long x1), .second, .val (.long x2), .second, .val (.long x3), .second] [(.long x1), (.int (0 : Int32)), (.ref b39), (.ref b39)])) rfl rfl (hb hby d1_44)
        refine own_to st44 ?_
        have V44 : own_AV Value.long Z h44 b39 .long 3 (own_upd (fun _ => (0 : Int64)) 0 x1) := own_AV.set nn44 Ar44 Sz44 Hs44 W44 rfl
        have N44 := Fr.snoc X44 N0 g_b39
        show own_Fin p e below G (T44.setTop (mkF m 45 #[.val (.int p0), .val (.long x1), .second, .val (.long x2), .second, .val (.long x3), .second] [(.ref b39)]))
        refine own_to (fun _ kz => XS.dup X44.here hx rfl (hb hby d1_45) rfl rfl kz) ?_
        show own_Fin p e below G (T44.setTop (mkF m 46 #[.val (.int p0), .val (.long x1), .second, .val (.long x2), .second, .val (.long x3), .second] [(.ref b39), (.ref b39)]))
        refine own_to (fun _ kz => XS.iconst X44.here hx rfl (hb hby d1_46) kz) ?_
        show own_Fin p e below G (T44.setTop (mkF m 47 #[.val (.int p0), .val (.long x1), .second, .val (.long x2), .second, .val (.long x3), .second] [(.int (1 : Int32)), (.ref b39), (.ref b39)]))
        refine own_to (fun _ kz => XS.lloadN X44.here hx rfl (hb hby d1_47) rfl  kz) ?_
        show own_Fin p e below G (T44.setTop (mkF m 48 #[.val (.int p0), .val (.long x1), .second, .val (.long x2), .second, .val (.long x3), .second] [(.long x2), (.int (1 : Int32)), (.ref b39), (.ref b39)]))
        obtain ⟨nn48, cl48, Ar48, Sz48, Hs48⟩ := V44
        obtain ⟨T48, h48, X48, e48, W48, st48⟩ := stJ X44 hx hZ e44 Ar48 (j := (1 : Int32)) (own_in Sz48 (by decide) rfl (by decide)) (g := (mkF m 48 #[.val (.int p0), .val (.long x1), .second, .val (.long x2), .second, .val (.long x3), .second] [(.long x2), (.int (1 : Int32)), (.ref b39), (.ref b39)])) rfl rfl (hb hby d1_48)
        refine own_to st48 ?_
        have V48 : own_AV Value.long Z h48 b39 .long 3 (own_upd (own_upd (fun _ => (0 : Int64)) 0 x1) 1 x2) := own_AV.set nn48 Ar48 Sz48 Hs48 W48 rfl
        have N48 := Fr.snoc X48 N44 g_b39
        show own_Fin p e below G (T48.setTop (mkF m 49 #[.val (.int p0), .val (.long x1), .second, .val (.long x2), .second, .val (.long x3), .second] [(.ref b39)]))
        refine own_to (fun _ kz => XS.dup X48.here hx rfl (hb hby d1_49) rfl rfl kz) ?_
        show own_Fin p e below G (T48.setTop (mkF m 50 #[.val (.int p0), .val (.long x1), .second, .val (.long x2), .second, .val (.long x3), .second] [(.ref b39), (.ref b39)]))
        refine own_to (fun _ kz => XS.iconst X48.here hx rfl (hb hby d1_50) kz) ?_
        show own_Fin p e below G (T48.setTop (mkF m 51 #[.val (.int p0), .val (.long x1), .second, .val (.long x2), .second, .val (.long x3), .second] [(.int (2 : Int32)), (.ref b39), (.ref b39)]))
        refine own_to (fun _ kz => XS.lload X48.here hx rfl (hb hby d1_51) rfl  kz) ?_
        show own_Fin p e below G (T48.setTop (mkF m 53 #[.val (.int p0), .val (.long x1), .second, .val (.long x2), .second, .val (.long x3), .second] [(.long x3), (.int (2 : Int32)), (.ref b39), (.ref b39)]))
        obtain ⟨nn53, cl53, Ar53, Sz53, Hs53⟩ := V48
        obtain ⟨T53, h53, X53, e53, W53, st53⟩ := stJ X48 hx hZ e48 Ar53 (j := (2 : Int32)) (own_in Sz53 (by decide) rfl (by decide)) (g := (mkF m 53 #[.val (.int p0), .val (.long x1), .second, .val (.long x2), .second, .val (.long x3), .second] [(.long x3), (.int (2 : Int32)), (.ref b39), (.ref b39)])) rfl rfl (hb hby d1_53)
        refine own_to st53 ?_
        have V53 : own_AV Value.long Z h53 b39 .long 3 (own_upd (own_upd (own_upd (fun _ => (0 : Int64)) 0 x1) 1 x2) 2 x3) := own_AV.set nn53 Ar53 Sz53 Hs53 W53 rfl
        have N53 := Fr.snoc X53 N48 g_b39
        show own_Fin p e below G (T53.setTop (mkF m 54 #[.val (.int p0), .val (.long x1), .second, .val (.long x2), .second, .val (.long x3), .second] [(.ref b39)]))
        have KP_54 : Keep h0 h53 [] := (((((Keep.refl h0 []).ext E39).wr W44 (Or.inr sz_b39)).wr W48 (Or.inr sz_b39)).wr W53 (Or.inr sz_b39))
        exact own_retA X53 hx hlk hG Bd.returns rfl rfl (hb hby d1_54) (by decide) (by decide) (by rw [e53]; exact ⟨b39, _, _, rfl, N53, sz_b39, KP_54, V53, by simp [own_want, own_sum, own_upd, *]⟩)
theorem d6_0 : decode method_3_code 0 = .ok (.iload_n 0, 1) := by decide +kernel
theorem d6_1 : decode method_3_code 1 = .ok (.ifCond .ne 5, 3) := by decide +kernel
theorem d6_4 : decode method_3_code 4 = .ok (.lconst 0, 1) := by decide +kernel
theorem d6_5 : decode method_3_code 5 = .ok (.lreturn, 1) := by decide +kernel
theorem d6_6 : decode method_3_code 6 = .ok (.iload_n 0, 1) := by decide +kernel
theorem d6_7 : decode method_3_code 7 = .ok (.iconst 1, 1) := by decide +kernel
theorem d6_8 : decode method_3_code 8 = .ok (.if_icmp .ne 5, 3) := by decide +kernel
theorem d6_11 : decode method_3_code 11 = .ok (.lload_n 1, 1) := by decide +kernel
theorem d6_12 : decode method_3_code 12 = .ok (.lreturn, 1) := by decide +kernel
theorem d6_13 : decode method_3_code 13 = .ok (.iload_n 0, 1) := by decide +kernel
theorem d6_14 : decode method_3_code 14 = .ok (.iconst 2, 1) := by decide +kernel
theorem d6_15 : decode method_3_code 15 = .ok (.if_icmp .ne 7, 3) := by decide +kernel
theorem d6_18 : decode method_3_code 18 = .ok (.lload_n 1, 1) := by decide +kernel
theorem d6_19 : decode method_3_code 19 = .ok (.lload_n 3, 1) := by decide +kernel
theorem d6_20 : decode method_3_code 20 = .ok (.ladd, 1) := by decide +kernel
theorem d6_21 : decode method_3_code 21 = .ok (.lreturn, 1) := by decide +kernel
theorem d6_22 : decode method_3_code 22 = .ok (.lload_n 1, 1) := by decide +kernel
theorem d6_23 : decode method_3_code 23 = .ok (.lload_n 3, 1) := by decide +kernel
theorem d6_24 : decode method_3_code 24 = .ok (.ladd, 1) := by decide +kernel
theorem d6_25 : decode method_3_code 25 = .ok (.lload 5, 2) := by decide +kernel
theorem d6_27 : decode method_3_code 27 = .ok (.ladd, 1) := by decide +kernel
theorem d6_28 : decode method_3_code 28 = .ok (.lreturn, 1) := by decide +kernel
theorem ef6 (m : MethodId) (p0 : Int32) (x1 : Int64) (x2 : Int64) (x3 : Int64) : entryFrame m #[(.int p0), (.long x1), (.long x2), (.long x3)] 7 = mkF m 0 #[.val (.int p0), .val (.long x1), .second, .val (.long x2), .second, .val (.long x3), .second] [] := by first | (simp [entryFrame, mkF, argsToLocals, Value.category]; done) | rfl
def f6 (p0 : Int32) (x1 : Int64) (x2 : Int64) (x3 : Int64) : Int64 := if p0 = (0 : Int32) then (0 : Int64) else if p0 = (1 : Int32) then x1 else if p0 = (2 : Int32) then (x1 + x2) else ((x1 + x2) + x3)
def Q6 (Z : State) (p0 : Int32) (x1 : Int64) (x2 : Int64) (x3 : Int64) (h0 : Heap) (n0 : Nat) (v : Option Value) (h : Heap) (L : List Loc) : Prop := v = some (.long (f6 p0 x1 x2 x3)) ∧ Fr n0 L ∧ h = h0
set_option maxRecDepth 65536 in
set_option maxHeartbeats 40000000 in
theorem rm6 (l : Launch) (Z : State) (a0 : Array Value) (hw : ∀ d ∈ tables_1, d.before a0 Z = true) (ws : List Jvm.Cond) (p0 : Int32) (x1 : Int64) (x2 : Int64) (x3 : Int64) (h0 : Heap) (n0 : Nat) (Z0 : n0 ≤ h0.size) :
    MetFree l (⟨"wavegauge/simulate/MeasurementTotalBlockedPinLaw", "expected", "(IJJJ)J"⟩ : MethodName) (head1 (Jvm.Cond.code (⟨"wavegauge/simulate/MeasurementTotalBlockedPinLaw", "expected", "(IJJJ)J"⟩ : MethodName) method_3_code 7 (some .long) :: ws) ({ frames := 0, cells := 0, slots := 0, locals := 0 } : Room)) (fun a U => a = #[(.int p0), (.long x1), (.long x2), (.long x3)] ∧ Z.Warmed39 U.vm ∧ U.heap = h0) (fun _ _ _ _ _ => True) (fun _ U o U' => ∃ v L, o = .returned v ∧ Q6 Z p0 x1 x2 x3 h0 n0 v U'.heap L ∧ FrameEnd U o U' L ({ frames := 0, cells := 0, slots := 0, locals := 0 } : Room).cells ({ frames := 0, cells := 0, slots := 0, locals := 0 } : Room).slots) := by
  refine MetFree.of_bodySF (plainFor_of_name own_pn2) hisR ?_
  intro p e s m args below meth c s₁ Bd hml0 hP hK
  obtain ⟨rfl, hZ, hh⟩ := hP
  have hx := Bd.exec
  have hby := Bd.bytes
  have hml : c.maxLocals = 7 := hml0
  have hown : s.vm.findClass "wavegauge/simulate/MeasurementTotalBlockedPinLaw" = some m.cls := findClass_of_methodNamed Bd.named
  have hnm := (name_of_methodNamed Bd.named Bd.method).1
  have hlk : meth.locks = false := BodyLoose.notSynchronized Bd
  have X0 : Stand p l e ({ frames := 0, cells := 0, slots := 0, locals := 0 } : Room) s m #[(.int p0), (.long x1), (.long x2), (.long x3)] below meth c s₁ [] 0 0 := Stand.of_body Bd
  have e0 : s₁.heap = h0 := by rw [← hh, Bd.state]; rfl
  have N0 := Fr.nil n0
  obtain ⟨G, hG⟩ : ∃ G, G = own_G s (Q6 Z p0 x1 x2 x3 h0 n0) ({ frames := 0, cells := 0, slots := 0, locals := 0 } : Room).cells ({ frames := 0, cells := 0, slots := 0, locals := 0 } : Room).slots := ⟨_, rfl⟩
  show own_Fin p e below (own_G s (Q6 Z p0 x1 x2 x3 h0 n0) ({ frames := 0, cells := 0, slots := 0, locals := 0 } : Room).cells ({ frames := 0, cells := 0, slots := 0, locals := 0 } : Room).slots) (s₁.setTop (entryFrame m #[(.int p0), (.long x1), (.long x2), (.long x3)] 7))
  rw [← hG]
  refine own_to (fun _ kz => castTop (ef6 m p0 x1 x2 x3) kz) ?_
  have q0 : (f6 p0 x1 x2 x3) = (f6 p0 x1 x2 x3) := rfl
  show own_Fin p e below G (s₁.setTop (mkF m 0 #[.val (.int p0), .val (.long x1), .second, .val (.long x2), .second, .val (.long x3), .second] []))
  refine own_to (fun _ kz => XS.iloadN X0.here hx rfl (hb hby d6_0) rfl  kz) ?_
  show own_Fin p e below G (s₁.setTop (mkF m 1 #[.val (.int p0), .val (.long x1), .second, .val (.long x2), .second, .val (.long x3), .second] [(.int p0)]))
  by_cases hc1 : p0 = (0 : Int32)
  · refine own_to (fun _ kz => XS.ifNo X0.here hx rfl (hb hby d6_1) rfl ((if0 _ _).trans (teq hc1).2) kz) ?_
    have q1t := q0.trans (if_pos hc1)
    show own_Fin p e below G (s₁.setTop (mkF m 4 #[.val (.int p0), .val (.long x1), .second, .val (.long x2), .second, .val (.long x3), .second] []))
    refine own_to (fun _ kz => XS.lconst X0.here hx rfl (hb hby d6_4) kz) ?_
    show own_Fin p e below G (s₁.setTop (mkF m 5 #[.val (.int p0), .val (.long x1), .second, .val (.long x2), .second, .val (.long x3), .second] [(.long (0 : Int64))]))
    exact own_retJ X0 hx hlk hG Bd.returns (hb hby d6_5) (by decide) (by decide) ⟨(congrArg (fun z => some (Value.long z)) q1t).symm, N0, e0⟩
  · refine own_to (fun _ kz => XS.ifYes X0.here hx rfl (pc0 := 1) (pc' := 6) rfl (hb hby d6_1) rfl ((if0 _ _).trans (feq hc1).2) (by decide) (by decide) kz) ?_
    have q1f := q0.trans (if_neg hc1)
    show own_Fin p e below G (s₁.setTop (mkF m 6 #[.val (.int p0), .val (.long x1), .second, .val (.long x2), .second, .val (.long x3), .second] []))
    refine own_to (fun _ kz => XS.iloadN X0.here hx rfl (hb hby d6_6) rfl  kz) ?_
    show own_Fin p e below G (s₁.setTop (mkF m 7 #[.val (.int p0), .val (.long x1), .second, .val (.long x2), .second, .val (.long x3), .second] [(.int p0)]))
    refine own_to (fun _ kz => XS.iconst X0.here hx rfl (hb hby d6_7) kz) ?_
    show own_Fin p e below G (s₁.setTop (mkF m 8 #[.val (.int p0), .val (.long x1), .second, .val (.long x2), .second, .val (.long x3), .second] [(.int (1 : Int32)), (.int p0)]))
    by_cases hc8 : p0 = (1 : Int32)
    · refine own_to (fun _ kz => XS.icmpNo X0.here hx rfl (hb hby d6_8) rfl (teq hc8).2 kz) ?_
      have q8t := q1f.trans (if_pos hc8)
      show own_Fin p e below G (s₁.setTop (mkF m 11 #[.val (.int p0), .val (.long x1), .second, .val (.long x2), .second, .val (.long x3), .second] []))
      refine own_to (fun _ kz => XS.lloadN X0.here hx rfl (hb hby d6_11) rfl  kz) ?_
      show own_Fin p e below G (s₁.setTop (mkF m 12 #[.val (.int p0), .val (.long x1), .second, .val (.long x2), .second, .val (.long x3), .second] [(.long x1)]))
      exact own_retJ X0 hx hlk hG Bd.returns (hb hby d6_12) (by decide) (by decide) ⟨(congrArg (fun z => some (Value.long z)) q8t).symm, N0, e0⟩
    · refine own_to (fun _ kz => XS.icmpYes X0.here hx rfl (pc0 := 8) (pc' := 13) rfl (hb hby d6_8) rfl (feq hc8).2 (by decide) (by decide) kz) ?_
      have q8f := q1f.trans (if_neg hc8)
      show own_Fin p e below G (s₁.setTop (mkF m 13 #[.val (.int p0), .val (.long x1), .second, .val (.long x2), .second, .val (.long x3), .second] []))
      refine own_to (fun _ kz => XS.iloadN X0.here hx rfl (hb hby d6_13) rfl  kz) ?_
      show own_Fin p e below G (s₁.setTop (mkF m 14 #[.val (.int p0), .val (.long x1), .second, .val (.long x2), .second, .val (.long x3), .second] [(.int p0)]))
      refine own_to (fun _ kz => XS.iconst X0.here hx rfl (hb hby d6_14) kz) ?_
      show own_Fin p e below G (s₁.setTop (mkF m 15 #[.val (.int p0), .val (.long x1), .second, .val (.long x2), .second, .val (.long x3), .second] [(.int (2 : Int32)), (.int p0)]))
      by_cases hc15 : p0 = (2 : Int32)
      · refine own_to (fun _ kz => XS.icmpNo X0.here hx rfl (hb hby d6_15) rfl (teq hc15).2 kz) ?_
        have q15t := q8f.trans (if_pos hc15)
        show own_Fin p e below G (s₁.setTop (mkF m 18 #[.val (.int p0), .val (.long x1), .second, .val (.long x2), .second, .val (.long x3), .second] []))
        refine own_to (fun _ kz => XS.lloadN X0.here hx rfl (hb hby d6_18) rfl  kz) ?_
        show own_Fin p e below G (s₁.setTop (mkF m 19 #[.val (.int p0), .val (.long x1), .second, .val (.long x2), .second, .val (.long x3), .second] [(.long x1)]))
        refine own_to (fun _ kz => XS.lloadN X0.here hx rfl (hb hby d6_19) rfl  kz) ?_
        show own_Fin p e below G (s₁.setTop (mkF m 20 #[.val (.int p0), .val (.long x1), .second, .val (.long x2), .second, .val (.long x3), .second] [(.long x2), (.long x1)]))
        refine own_to (fun _ kz => XS.ladd X0.here hx rfl (hb hby d6_20) rfl kz) ?_
        show own_Fin p e below G (s₁.setTop (mkF m 21 #[.val (.int p0), .val (.long x1), .second, .val (.long x2), .second, .val (.long x3), .second] [(.long (x1 + x2))]))
        exact own_retJ X0 hx hlk hG Bd.returns (hb hby d6_21) (by decide) (by decide) ⟨(congrArg (fun z => some (Value.long z)) q15t).symm, N0, e0⟩
      · refine own_to (fun _ kz => XS.icmpYes X0.here hx rfl (pc0 := 15) (pc' := 22) rfl (hb hby d6_15) rfl (feq hc15).2 (by decide) (by decide) kz) ?_
        have q15f := q8f.trans (if_neg hc15)
        show own_Fin p e below G (s₁.setTop (mkF m 22 #[.val (.int p0), .val (.long x1), .second, .val (.long x2), .second, .val (.long x3), .second] []))
        refine own_to (fun _ kz => XS.lloadN X0.here hx rfl (hb hby d6_22) rfl  kz) ?_
        show own_Fin p e below G (s₁.setTop (mkF m 23 #[.val (.int p0), .val (.long x1), .second, .val (.long x2), .second, .val (.long x3), .second] [(.long x1)]))
        refine own_to (fun _ kz => XS.lloadN X0.here hx rfl (hb hby d6_23) rfl  kz) ?_
        show own_Fin p e below G (s₁.setTop (mkF m 24 #[.val (.int p0), .val (.long x1), .second, .val (.long x2), .second, .val (.long x3), .second] [(.long x2), (.long x1)]))
        refine own_to (fun _ kz => XS.ladd X0.here hx rfl (hb hby d6_24) rfl kz) ?_
        show own_Fin p e below G (s₁.setTop (mkF m 25 #[.val (.int p0), .val (.long x1), .second, .val (.long x2), .second, .val (.long x3), .second] [(.long (x1 + x2))]))
        refine own_to (fun _ kz => XS.lload X0.here hx rfl (hb hby d6_25) rfl  kz) ?_
        show own_Fin p e below G (s₁.setTop (mkF m 27 #[.val (.int p0), .val (.long x1), .second, .val (.long x2), .second, .val (.long x3), .second] [(.long x3), (.long (x1 + x2))]))
        refine own_to (fun _ kz => XS.ladd X0.here hx rfl (hb hby d6_27) rfl kz) ?_
        show own_Fin p e below G (s₁.setTop (mkF m 28 #[.val (.int p0), .val (.long x1), .second, .val (.long x2), .second, .val (.long x3), .second] [(.long ((x1 + x2) + x3))]))
        exact own_retJ X0 hx hlk hG Bd.returns (hb hby d6_28) (by decide) (by decide) ⟨(congrArg (fun z => some (Value.long z)) q15f).symm, N0, e0⟩
theorem own_pd1 : parseMethodDescriptor "(IJJJ)[J" = some ⟨[.int, .long, .long, .long], some (.array .long)⟩ := by decide +kernel
theorem own_pd2 : parseMethodDescriptor "([D[D[J[JDDZ)V" = some ⟨[(.array .double), (.array .double), (.array .long), (.array .long), .double, .double, .boolean], none⟩ := by decide +kernel
theorem own_pd3 : parseMethodDescriptor "()J" = some ⟨[], some .long⟩ := by decide +kernel
theorem own_pd4 : parseMethodDescriptor "(IJJJ)J" = some ⟨[.int, .long, .long, .long], some .long⟩ := by decide +kernel
theorem ef0 (m : MethodId) (x0 : Int64) (x1 : Int64) (x2 : Int64) (x3 : Int64) (p4 : Int32) : entryFrame m #[(.long x0), (.long x1), (.long x2), (.long x3), (.int p4)] maxLocals = mkF m 0 #[.val (.long x0), .second, .val (.long x1), .second, .val (.long x2), .second, .val (.long x3), .second, .val (.int p4), .unset, .unset, .unset, .unset, .unset, .unset, .unset] [] := by first | (simp [entryFrame, mkF, argsToLocals, Value.category, maxLocals]; done) | rfl
def f0_18 (x0 : Int64) (x1 : Int64) (x2 : Int64) (x3 : Int64) (p4 : Int32) (t0_18 : Int32) : Int32 := if (own_want (p4 &&& (3 : Int32)) x0 x1 x2) = (f6 (p4 &&& (3 : Int32)) x0 x1 x2) then (1 : Int32) else (0 : Int32)
def f0 (x0 : Int64) (x1 : Int64) (x2 : Int64) (x3 : Int64) (p4 : Int32) : Int32 := if (p4 &&& (4 : Int32)) = (0 : Int32) then (f0_18 x0 x1 x2 x3 p4 (0 : Int32)) else (f0_18 x0 x1 x2 x3 p4 (1 : Int32))
def Q0 (Z : State) (x0 : Int64) (x1 : Int64) (x2 : Int64) (x3 : Int64) (p4 : Int32) (h0 : Heap) (n0 : Nat) (v : Option Value) (h : Heap) (L : List Loc) : Prop := v = some (.int (f0 x0 x1 x2 x3 p4)) ∧ Fr n0 L ∧ True
set_option maxRecDepth 65536 in
set_option maxHeartbeats 40000000 in
theorem rm0 (l : Launch) (Z : State) (a0 : Array Value) (hw : ∀ d ∈ tables_1, d.before a0 Z = true) (ws : List Jvm.Cond) (x0 : Int64) (x1 : Int64) (x2 : Int64) (x3 : Int64) (p4 : Int32) (h0 : Heap) (n0 : Nat) (Z0 : n0 ≤ h0.size) :
    MetFree l x (head1 (Jvm.Cond.code x code maxLocals ret :: ws) room_1) (fun a U => a = #[(.long x0), (.long x1), (.long x2), (.long x3), (.int p4)] ∧ Z.Warmed39 U.vm ∧ U.heap = h0) (fun _ _ _ _ _ => True) (fun _ U o U' => ∃ v L, o = .returned v ∧ Q0 Z x0 x1 x2 x3 p4 h0 n0 v U'.heap L ∧ FrameEnd U o U' L room_1.cells room_1.slots) := by
  refine MetFree.of_bodySF (plainFor_of_name own_pn2) hisR ?_
  intro p e s m args below meth c s₁ Bd hml0 hP hK
  obtain ⟨rfl, hZ, hh⟩ := hP
  have hx := Bd.exec
  have hby := Bd.bytes
  have hml : c.maxLocals = 16 := hml0
  have hown : s.vm.findClass "wavegauge/simulate/MeasurementTotalBlockedPinLaw" = some m.cls := findClass_of_methodNamed Bd.named
  have hnm := (name_of_methodNamed Bd.named Bd.method).1
  have hlk : meth.locks = false := BodyLoose.notSynchronized Bd
  have X0 : Stand p l e room_1 s m #[(.long x0), (.long x1), (.long x2), (.long x3), (.int p4)] below meth c s₁ [] 0 0 := Stand.of_body Bd
  have e0 : s₁.heap = h0 := by rw [← hh, Bd.state]; rfl
  have N0 := Fr.nil n0
  obtain ⟨G, hG⟩ : ∃ G, G = own_G s (Q0 Z x0 x1 x2 x3 p4 h0 n0) room_1.cells room_1.slots := ⟨_, rfl⟩
  show own_Fin p e below (own_G s (Q0 Z x0 x1 x2 x3 p4 h0 n0) room_1.cells room_1.slots) (s₁.setTop (entryFrame m #[(.long x0), (.long x1), (.long x2), (.long x3), (.int p4)] maxLocals))
  rw [← hG]
  refine own_to (fun _ kz => castTop (ef0 m x0 x1 x2 x3 p4) kz) ?_
  have q0 : (f0 x0 x1 x2 x3 p4) = (f0 x0 x1 x2 x3 p4) := rfl
  show own_Fin p e below G (s₁.setTop (mkF m 0 #[.val (.long x0), .second, .val (.long x1), .second, .val (.long x2), .second, .val (.long x3), .second, .val (.int p4), .unset, .unset, .unset, .unset, .unset, .unset, .unset] []))
  refine own_to (fun _ kz => XS.iload X0.here hx rfl (hb hby at_0) rfl  kz) ?_
  show own_Fin p e below G (s₁.setTop (mkF m 2 #[.val (.long x0), .second, .val (.long x1), .second, .val (.long x2), .second, .val (.long x3), .second, .val (.int p4), .unset, .unset, .unset, .unset, .unset, .unset, .unset] [(.int p4)]))
  refine own_to (fun _ kz => XS.iconst X0.here hx rfl (hb hby at_2) kz) ?_
  show own_Fin p e below G (s₁.setTop (mkF m 3 #[.val (.long x0), .second, .val (.long x1), .second, .val (.long x2), .second, .val (.long x3), .second, .val (.int p4), .unset, .unset, .unset, .unset, .unset, .unset, .unset] [(.int (3 : Int32)), (.int p4)]))
  refine own_to (fun _ kz => XS.iand X0.here hx rfl (hb hby at_3) rfl kz) ?_
  show own_Fin p e below G (s₁.setTop (mkF m 4 #[.val (.long x0), .second, .val (.long x1), .second, .val (.long x2), .second, .val (.long x3), .second, .val (.int p4), .unset, .unset, .unset, .unset, .unset, .unset, .unset] [(.int (p4 &&& (3 : Int32)))]))
  refine own_to (fun _ kz => XS.istore X0.here hx rfl (hb hby at_4) rfl (l' := #[.val (.long x0), .second, .val (.long x1), .second, .val (.long x2), .second, .val (.long x3), .second, .val (.int p4), .val (.int (p4 &&& (3 : Int32))), .unset, .unset, .unset, .unset, .unset, .unset]) rfl kz) ?_
  show own_Fin p e below G (s₁.setTop (mkF m 6 #[.val (.long x0), .second, .val (.long x1), .second, .val (.long x2), .second, .val (.long x3), .second, .val (.int p4), .val (.int (p4 &&& (3 : Int32))), .unset, .unset, .unset, .unset, .unset, .unset] []))
  refine own_to (fun _ kz => XS.iload X0.here hx rfl (hb hby at_6) rfl  kz) ?_
  show own_Fin p e below G (s₁.setTop (mkF m 8 #[.val (.long x0), .second, .val (.long x1), .second, .val (.long x2), .second, .val (.long x3), .second, .val (.int p4), .val (.int (p4 &&& (3 : Int32))), .unset, .unset, .unset, .unset, .unset, .unset] [(.int p4)]))
  refine own_to (fun _ kz => XS.iconst X0.here hx rfl (hb hby at_8) kz) ?_
  show own_Fin p e below G (s₁.setTop (mkF m 9 #[.val (.long x0), .second, .val (.long x1), .second, .val (.long x2), .second, .val (.long x3), .second, .val (.int p4), .val (.int (p4 &&& (3 : Int32))), .unset, .unset, .unset, .unset, .unset, .unset] [(.int (4 : Int32)), (.int p4)]))
  refine own_to (fun _ kz => XS.iand X0.here hx rfl (hb hby at_9) rfl kz) ?_
  show own_Fin p e below G (s₁.setTop (mkF m 10 #[.val (.long x0), .second, .val (.long x1), .second, .val (.long x2), .second, .val (.long x3), .second, .val (.int p4), .val (.int (p4 &&& (3 : Int32))), .unset, .unset, .unset, .unset, .unset, .unset] [(.int (p4 &&& (4 : Int32)))]))
  have K18 : ∀ (t0_18 : Int32) (q_j18 : (f0 x0 x1 x2 x3 p4) = (f0_18 x0 x1 x2 x3 p4 t0_18)), own_Fin p e below G (s₁.setTop (mkF m 18 #[.val (.long x0), .second, .val (.long x1), .second, .val (.long x2), .second, .val (.long x3), .second, .val (.int p4), .val (.int (p4 &&& (3 : Int32))), .unset, .unset, .unset, .unset, .unset, .unset] [(.int t0_18)])) := by
    intro t0_18 q_j18
    refine own_to (fun _ kz => XS.istore X0.here hx rfl (hb hby at_18) rfl (l' := #[.val (.long x0), .second, .val (.long x1), .second, .val (.long x2), .second, .val (.long x3), .second, .val (.int p4), .val (.int (p4 &&& (3 : Int32))), .val (.int t0_18), .unset, .unset, .unset, .unset, .unset]) rfl kz) ?_
    show own_Fin p e below G (s₁.setTop (mkF m 20 #[.val (.long x0), .second, .val (.long x1), .second, .val (.long x2), .second, .val (.long x3), .second, .val (.int p4), .val (.int (p4 &&& (3 : Int32))), .val (.int t0_18), .unset, .unset, .unset, .unset, .unset] []))
    refine own_to (fun _ kz => XS.iload X0.here hx rfl (hb hby at_20) rfl  kz) ?_
    show own_Fin p e below G (s₁.setTop (mkF m 22 #[.val (.long x0), .second, .val (.long x1), .second, .val (.long x2), .second, .val (.long x3), .second, .val (.int p4), .val (.int (p4 &&& (3 : Int32))), .val (.int t0_18), .unset, .unset, .unset, .unset, .unset] [(.int (p4 &&& (3 : Int32)))]))
    refine own_to (fun _ kz => XS.lloadN X0.here hx rfl (hb hby at_22) rfl  kz) ?_
    show own_Fin p e below G (s₁.setTop (mkF m 23 #[.val (.long x0), .second, .val (.long x1), .second, .val (.long x2), .second, .val (.long x3), .second, .val (.int p4), .val (.int (p4 &&& (3 : Int32))), .val (.int t0_18), .unset, .unset, .unset, .unset, .unset] [(.long x0), (.int (p4 &&& (3 : Int32)))]))
    refine own_to (fun _ kz => XS.lloadN X0.here hx rfl (hb hby at_23) rfl  kz) ?_
    show own_Fin p e below G (s₁.setTop (mkF m 24 #[.val (.long x0), .second, .val (.long x1), .second, .val (.long x2), .second, .val (.long x3), .second, .val (.int p4), .val (.int (p4 &&& (3 : Int32))), .val (.int t0_18), .unset, .unset, .unset, .unset, .unset] [(.long x1), (.long x0), (.int (p4 &&& (3 : Int32)))]))
    refine own_to (fun _ kz => XS.lload X0.here hx rfl (hb hby at_24) rfl  kz) ?_
    show own_Fin p e below G (s₁.setTop (mkF m 26 #[.val (.long x0), .second, .val (.long x1), .second, .val (.long x2), .second, .val (.long x3), .second, .val (.int p4), .val (.int (p4 &&& (3 : Int32))), .val (.int t0_18), .unset, .unset, .unset, .unset, .unset] [(.long x2), (.long x1), (.long x0), (.int (p4 &&& (3 : Int32)))]))
    obtain ⟨_, _, ⟨T26, L26, k26, n26⟩, -, X26, ⟨Lc26, hQ26, l26, y26, z26⟩, st26⟩ := Jvm.LawKit.callS X0 hx (y := (⟨"wavegauge/simulate/MeasurementTotalBlockedPinLaw", "drawn", "(IJJJ)[J"⟩ : MethodName)) hown (mvT hZ (hw _ (List.mem_of_getElem? (i := 0) rfl))) (mvT hZ (hw _ (List.mem_of_getElem? (i := 1) rfl))) (mvT hZ (hw _ (List.mem_of_getElem? (i := 2) rfl))) (mvT hZ (hw _ (List.mem_of_getElem? (i := 3) rfl))) (by decide) (backOf (W := 0) (rm1 l Z a0 hw [] (p4 &&& (3 : Int32)) x0 x1 x2 h0 n0 Z0 ) hZ (hw _ (List.mem_of_getElem? (i := 3) rfl)) (hw _ (List.mem_of_getElem? (i := 2) rfl)) (by decide) (by decide)) (g := (mkF m 26 #[.val (.long x0), .second, .val (.long x1), .second, .val (.long x2), .second, .val (.long x3), .second, .val (.int p4), .val (.int (p4 &&& (3 : Int32))), .val (.int t0_18), .unset, .unset, .unset, .unset, .unset] [(.long x2), (.long x1), (.long x0), (.int (p4 &&& (3 : Int32)))])) rfl (by rw [hml]; rfl) (argsL := [(.int (p4 &&& (3 : Int32))), (.long x0), (.long x1), (.long x2)]) (rest := []) (lenOf own_pd1 rfl) rfl (by show 2 * 0 + _ ≤ _; exact Nat.le_of_eq rfl) (hb hby at_26) (fun _ _ => ⟨rfl, e0, (by decide : 0 + 1 ≤ _), (by decide : 0 + 3 ≤ _)⟩)
    dsimp only [Pt.U, Pt.locs, Pt.cells, Pt.slots] at X26 l26 y26 z26 st26 hQ26
    subst l26 y26 z26
    obtain ⟨b26, nb26, fb26, rfl, N26q, szq26, Kp26, V26, hs26⟩ := hQ26
    have g_b26 : n0 ≤ b26 := Nat.le_trans Z0 szq26
    have N26 := Fr.app N0 N26q
    refine own_to st26 ?_
    show own_Fin p e below G (T26.setTop (mkF m 29 #[.val (.long x0), .second, .val (.long x1), .second, .val (.long x2), .second, .val (.long x3), .second, .val (.int p4), .val (.int (p4 &&& (3 : Int32))), .val (.int t0_18), .unset, .unset, .unset, .unset, .unset] [(.ref b26)]))
    refine own_to (fun _ kz => XS.astore X26.here hx rfl (hb hby at_29) rfl (rfl) (l' := #[.val (.long x0), .second, .val (.long x1), .second, .val (.long x2), .second, .val (.long x3), .second, .val (.int p4), .val (.int (p4 &&& (3 : Int32))), .val (.int t0_18), .val (.ref b26), .unset, .unset, .unset, .unset]) rfl kz) ?_
    show own_Fin p e below G (T26.setTop (mkF m 31 #[.val (.long x0), .second, .val (.long x1), .second, .val (.long x2), .second, .val (.long x3), .second, .val (.int p4), .val (.int (p4 &&& (3 : Int32))), .val (.int t0_18), .val (.ref b26), .unset, .unset, .unset, .unset] []))
    refine own_to (fun _ kz => XS.iload X26.here hx rfl (hb hby at_31) rfl  kz) ?_
    show own_Fin p e below G (T26.setTop (mkF m 33 #[.val (.long x0), .second, .val (.long x1), .second, .val (.long x2), .second, .val (.long x3), .second, .val (.int p4), .val (.int (p4 &&& (3 : Int32))), .val (.int t0_18), .val (.ref b26), .unset, .unset, .unset, .unset] [(.int (p4 &&& (3 : Int32)))]))
    refine own_to (fun _ kz => XS.lload X26.here hx rfl (hb hby at_33) rfl  kz) ?_
    show own_Fin p e below G (T26.setTop (mkF m 35 #[.val (.long x0), .second, .val (.long x1), .second, .val (.long x2), .second, .val (.long x3), .second, .val (.int p4), .val (.int (p4 &&& (3 : Int32))), .val (.int t0_18), .val (.ref b26), .unset, .unset, .unset, .unset] [(.long x3), (.int (p4 &&& (3 : Int32)))]))
    refine own_to (fun _ kz => XS.lload X26.here hx rfl (hb hby at_35) rfl  kz) ?_
    show own_Fin p e below G (T26.setTop (mkF m 37 #[.val (.long x0), .second, .val (.long x1), .second, .val (.long x2), .second, .val (.long x3), .second, .val (.int p4), .val (.int (p4 &&& (3 : Int32))), .val (.int t0_18), .val (.ref b26), .unset, .unset, .unset, .unset] [(.long x3), (.long x3), (.int (p4 &&& (3 : Int32)))]))
    refine own_to (fun _ kz => XS.lload X26.here hx rfl (hb hby at_37) rfl  kz) ?_
    show own_Fin p e below G (T26.setTop (mkF m 39 #[.val (.long x0), .second, .val (.long x1), .second, .val (.long x2), .second, .val (.long x3), .second, .val (.int p4), .val (.int (p4 &&& (3 : Int32))), .val (.int t0_18), .val (.ref b26), .unset, .unset, .unset, .unset] [(.long x3), (.long x3), (.long x3), (.int (p4 &&& (3 : Int32)))]))
    have Z_39 : n0 ≤ T26.heap.size := (Nat.le_trans Z0 Kp26.1)
    obtain ⟨_, _, ⟨T39, L39, k39, n39⟩, -, X39, ⟨Lc39, hQ39, l39, y39, z39⟩, st39⟩ := Jvm.LawKit.callS X26 hx (y := (⟨"wavegauge/simulate/MeasurementTotalBlockedPinLaw", "drawn", "(IJJJ)[J"⟩ : MethodName)) hown (mvT hZ (hw _ (List.mem_of_getElem? (i := 0) rfl))) (mvT hZ (hw _ (List.mem_of_getElem? (i := 1) rfl))) (mvT hZ (hw _ (List.mem_of_getElem? (i := 2) rfl))) (mvT hZ (hw _ (List.mem_of_getElem? (i := 3) rfl))) (by decide) (backOf (W := 0) (rm1 l Z a0 hw [] (p4 &&& (3 : Int32)) x3 x3 x3 T26.heap n0 Z_39 ) hZ (hw _ (List.mem_of_getElem? (i := 3) rfl)) (hw _ (List.mem_of_getElem? (i := 2) rfl)) (by decide) (by decide)) (g := (mkF m 39 #[.val (.long x0), .second, .val (.long x1), .second, .val (.long x2), .second, .val (.long x3), .second, .val (.int p4), .val (.int (p4 &&& (3 : Int32))), .val (.int t0_18), .val (.ref b26), .unset, .unset, .unset, .unset] [(.long x3), (.long x3), (.long x3), (.int (p4 &&& (3 : Int32)))])) rfl (by rw [hml]; rfl) (argsL := [(.int (p4 &&& (3 : Int32))), (.long x3), (.long x3), (.long x3)]) (rest := []) (lenOf own_pd1 rfl) rfl (by show 2 * 0 + _ ≤ _; exact Nat.le_of_eq rfl) (hb hby at_39) (fun _ _ => ⟨rfl, rfl, (by decide : 1 + 1 ≤ _), (by decide : 3 + 3 ≤ _)⟩)
    dsimp only [Pt.U, Pt.locs, Pt.cells, Pt.slots] at X39 l39 y39 z39 st39 hQ39
    subst l39 y39 z39
    obtain ⟨b39, nb39, fb39, rfl, N39q, szq39, Kp39, V39, hs39⟩ := hQ39
    have ne_b26_b39 : b26 ≠ b39 := Nat.ne_of_lt (Nat.lt_of_lt_of_le V26.lt szq39)
    have g_b39 : n0 ≤ b39 := Nat.le_trans Z_39 szq39
    have N39 := Fr.app N26 N39q
    refine own_to st39 ?_
    show own_Fin p e below G (T39.setTop (mkF m 42 #[.val (.long x0), .second, .val (.long x1), .second, .val (.long x2), .second, .val (.long x3), .second, .val (.int p4), .val (.int (p4 &&& (3 : Int32))), .val (.int t0_18), .val (.ref b26), .unset, .unset, .unset, .unset] [(.ref b39)]))
    refine own_to (fun _ kz => XS.astore X39.here hx rfl (hb hby at_42) rfl (rfl) (l' := #[.val (.long x0), .second, .val (.long x1), .second, .val (.long x2), .second, .val (.long x3), .second, .val (.int p4), .val (.int (p4 &&& (3 : Int32))), .val (.int t0_18), .val (.ref b26), .val (.ref b39), .unset, .unset, .unset]) rfl kz) ?_
    show own_Fin p e below G (T39.setTop (mkF m 44 #[.val (.long x0), .second, .val (.long x1), .second, .val (.long x2), .second, .val (.long x3), .second, .val (.int p4), .val (.int (p4 &&& (3 : Int32))), .val (.int t0_18), .val (.ref b26), .val (.ref b39), .unset, .unset, .unset] []))
    refine own_to (fun _ kz => XS.iconst X39.here hx rfl (hb hby at_44) kz) ?_
    show own_Fin p e below G (T39.setTop (mkF m 45 #[.val (.long x0), .second, .val (.long x1), .second, .val (.long x2), .second, .val (.long x3), .second, .val (.int p4), .val (.int (p4 &&& (3 : Int32))), .val (.int t0_18), .val (.ref b26), .val (.ref b39), .unset, .unset, .unset] [(.int (3 : Int32))]))
    have Z_45 : n0 ≤ T39.heap.size := (Nat.le_trans Z_39 Kp39.1)
    obtain ⟨T45, h45, k45, X45, e45, E45, A45, st45⟩ := newP X39 hx hZ (hw _ (List.mem_of_getElem? (i := 5) rfl)) rfl (g := (mkF m 45 #[.val (.long x0), .second, .val (.long x1), .second, .val (.long x2), .second, .val (.long x3), .second, .val (.int p4), .val (.int (p4 &&& (3 : Int32))), .val (.int t0_18), .val (.ref b26), .val (.ref b39), .unset, .unset, .unset] [(.int (3 : Int32))])) rfl (hb hby at_45) rfl (by decide) (cap := 3) (by decide) (by decide) (by decide) (by decide)
    obtain ⟨b45, g45⟩ : ∃ z, z = T39.heap.size := ⟨_, rfl⟩
    rw [← g45] at A45 st45
    refine own_to st45 ?_
    have ne_b26_b45 : b26 ≠ b45 := Nat.ne_of_lt (Nat.lt_of_lt_of_le (V26.keep Kp39 nin0).lt (Nat.le_of_eq g45.symm))
    have ne_b39_b45 : b39 ≠ b45 := Nat.ne_of_lt (Nat.lt_of_lt_of_le V39.lt (Nat.le_of_eq g45.symm))
    have g_b45 : n0 ≤ b45 := Nat.le_trans Z_45 (Nat.le_of_eq g45.symm)
    have V45 : own_AV Value.double Z h45 b45 .double 3 (fun _ => (0 : UInt64)) := own_AV.new A45 (by decide) (by decide) (fun _ => rfl)
    show own_Fin p e below G (T45.setTop (mkF m 47 #[.val (.long x0), .second, .val (.long x1), .second, .val (.long x2), .second, .val (.long x3), .second, .val (.int p4), .val (.int (p4 &&& (3 : Int32))), .val (.int t0_18), .val (.ref b26), .val (.ref b39), .unset, .unset, .unset] [(.ref b45)]))
    refine own_to (fun _ kz => XS.astore X45.here hx rfl (hb hby at_47) rfl (rfl) (l' := #[.val (.long x0), .second, .val (.long x1), .second, .val (.long x2), .second, .val (.long x3), .second, .val (.int p4), .val (.int (p4 &&& (3 : Int32))), .val (.int t0_18), .val (.ref b26), .val (.ref b39), .val (.ref b45), .unset, .unset]) rfl kz) ?_
    show own_Fin p e below G (T45.setTop (mkF m 49 #[.val (.long x0), .second, .val (.long x1), .second, .val (.long x2), .second, .val (.long x3), .second, .val (.int p4), .val (.int (p4 &&& (3 : Int32))), .val (.int t0_18), .val (.ref b26), .val (.ref b39), .val (.ref b45), .unset, .unset] []))
    refine own_to (fun _ kz => XS.iconst X45.here hx rfl (hb hby at_49) kz) ?_
    show own_Fin p e below G (T45.setTop (mkF m 50 #[.val (.long x0), .second, .val (.long x1), .second, .val (.long x2), .second, .val (.long x3), .second, .val (.int p4), .val (.int (p4 &&& (3 : Int32))), .val (.int t0_18), .val (.ref b26), .val (.ref b39), .val (.ref b45), .unset, .unset] [(.int (3 : Int32))]))
    have Z_50 : n0 ≤ h45.size := (Nat.le_trans Z_45 E45.1)
    obtain ⟨T50, h50, k50, X50, e50, E50, A50, st50⟩ := newP X45 hx hZ (hw _ (List.mem_of_getElem? (i := 5) rfl)) e45 (g := (mkF m 50 #[.val (.long x0), .second, .val (.long x1), .second, .val (.long x2), .second, .val (.long x3), .second, .val (.int p4), .val (.int (p4 &&& (3 : Int32))), .val (.int t0_18), .val (.ref b26), .val (.ref b39), .val (.ref b45), .unset, .unset] [(.int (3 : Int32))])) rfl (hb hby at_50) rfl (by decide) (cap := 3) (by decide) (by decide) (by decide) (by decide)
    obtain ⟨b50, g50⟩ : ∃ z, z = h45.size := ⟨_, rfl⟩
    rw [← g50] at A50 st50
    refine own_to st50 ?_
    have ne_b26_b50 : b26 ≠ b50 := Nat.ne_of_lt (Nat.lt_of_lt_of_le ((V26.keep Kp39 nin0).ext E45).lt (Nat.le_of_eq g50.symm))
    have ne_b39_b50 : b39 ≠ b50 := Nat.ne_of_lt (Nat.lt_of_lt_of_le (V39.ext E45).lt (Nat.le_of_eq g50.symm))
    have ne_b45_b50 : b45 ≠ b50 := Nat.ne_of_lt (Nat.lt_of_lt_of_le V45.lt (Nat.le_of_eq g50.symm))
    have g_b50 : n0 ≤ b50 := Nat.le_trans Z_50 (Nat.le_of_eq g50.symm)
    have V50 : own_AV Value.double Z h50 b50 .double 3 (fun _ => (0 : UInt64)) := own_AV.new A50 (by decide) (by decide) (fun _ => rfl)
    show own_Fin p e below G (T50.setTop (mkF m 52 #[.val (.long x0), .second, .val (.long x1), .second, .val (.long x2), .second, .val (.long x3), .second, .val (.int p4), .val (.int (p4 &&& (3 : Int32))), .val (.int t0_18), .val (.ref b26), .val (.ref b39), .val (.ref b45), .unset, .unset] [(.ref b50)]))
    refine own_to (fun _ kz => XS.astore X50.here hx rfl (hb hby at_52) rfl (rfl) (l' := #[.val (.long x0), .second, .val (.long x1), .second, .val (.long x2), .second, .val (.long x3), .second, .val (.int p4), .val (.int (p4 &&& (3 : Int32))), .val (.int t0_18), .val (.ref b26), .val (.ref b39), .val (.ref b45), .val (.ref b50), .unset]) rfl kz) ?_
    show own_Fin p e below G (T50.setTop (mkF m 54 #[.val (.long x0), .second, .val (.long x1), .second, .val (.long x2), .second, .val (.long x3), .second, .val (.int p4), .val (.int (p4 &&& (3 : Int32))), .val (.int t0_18), .val (.ref b26), .val (.ref b39), .val (.ref b45), .val (.ref b50), .unset] []))
    have Z_54 : n0 ≤ h50.size := (Nat.le_trans Z_50 E50.1)
    obtain ⟨T54, h54, X54, e54, E54, A54, D54, -, st54⟩ := newO X50 hx hZ hown (hw _ (List.mem_of_getElem? (i := 6) rfl)) (hw _ (List.mem_of_getElem? (i := 7) rfl)) (hw _ (List.mem_of_getElem? (i := 8) rfl)) e50 (g := (mkF m 54 #[.val (.long x0), .second, .val (.long x1), .second, .val (.long x2), .second, .val (.long x3), .second, .val (.int p4), .val (.int (p4 &&& (3 : Int32))), .val (.int t0_18), .val (.ref b26), .val (.ref b39), .val (.ref b45), .val (.ref b50), .unset] [])) rfl (hb hby at_54) (by decide) (by decide)
    obtain ⟨b54, g54⟩ : ∃ z, z = h50.size := ⟨_, rfl⟩
    rw [← g54] at A54 D54 st54
    refine own_to st54 ?_
    have ne_b26_b54 : b26 ≠ b54 := Nat.ne_of_lt (Nat.lt_of_lt_of_le (((V26.keep Kp39 nin0).ext E45).ext E50).lt (Nat.le_of_eq g54.symm))
    have ne_b39_b54 : b39 ≠ b54 := Nat.ne_of_lt (Nat.lt_of_lt_of_le ((V39.ext E45).ext E50).lt (Nat.le_of_eq g54.symm))
    have ne_b45_b54 : b45 ≠ b54 := Nat.ne_of_lt (Nat.lt_of_lt_of_le (V45.ext E50).lt (Nat.le_of_eq g54.symm))
    have ne_b50_b54 : b50 ≠ b54 := Nat.ne_of_lt (Nat.lt_of_lt_of_le V50.lt (Nat.le_of_eq g54.symm))
    have g_b54 : n0 ≤ b54 := Nat.le_trans Z_54 (Nat.le_of_eq g54.symm)
    have F_blocking_b54 : Fld Z h54 b54 "wavegauge/simulate/Measurement" "blocking" "[D" .null := D54 (Or.inr (hw _ (List.mem_of_getElem? (i := 21) rfl))) (ty := (.array .double)) (by decide)
    have F_halfWidth_b54 : Fld Z h54 b54 "wavegauge/simulate/Measurement" "halfWidth" "[D" .null := D54 (Or.inr (hw _ (List.mem_of_getElem? (i := 23) rfl))) (ty := (.array .double)) (by decide)
    have F_attempts_b54 : Fld Z h54 b54 "wavegauge/simulate/Measurement" "attempts" "[J" .null := D54 (Or.inr (hw _ (List.mem_of_getElem? (i := 25) rfl))) (ty := (.array .long)) (by decide)
    have F_blocked_b54 : Fld Z h54 b54 "wavegauge/simulate/Measurement" "blocked" "[J" .null := D54 (Or.inr (hw _ (List.mem_of_getElem? (i := 27) rfl))) (ty := (.array .long)) (by decide)
    have F_networkBlocking_b54 : Fld Z h54 b54 "wavegauge/simulate/Measurement" "networkBlocking" "D" (.double 0) := D54 (Or.inr (hw _ (List.mem_of_getElem? (i := 29) rfl))) (ty := .double) (by decide)
    have F_networkHalfWidth_b54 : Fld Z h54 b54 "wavegauge/simulate/Measurement" "networkHalfWidth" "D" (.double 0) := D54 (Or.inr (hw _ (List.mem_of_getElem? (i := 31) rfl))) (ty := .double) (by decide)
    have F_stoppedByRule_b54 : Fld Z h54 b54 "wavegauge/simulate/Measurement" "stoppedByRule" "Z" (.int (0 : Int32)) := D54 (Or.inr (hw _ (List.mem_of_getElem? (i := 33) rfl))) (ty := .boolean) (by decide)
    show own_Fin p e below G (T54.setTop (mkF m 57 #[.val (.long x0), .second, .val (.long x1), .second, .val (.long x2), .second, .val (.long x3), .second, .val (.int p4), .val (.int (p4 &&& (3 : Int32))), .val (.int t0_18), .val (.ref b26), .val (.ref b39), .val (.ref b45), .val (.ref b50), .unset] [(.ref b54)]))
    refine own_to (fun _ kz => XS.dup X54.here hx rfl (hb hby at_57) rfl rfl kz) ?_
    show own_Fin p e below G (T54.setTop (mkF m 58 #[.val (.long x0), .second, .val (.long x1), .second, .val (.long x2), .second, .val (.long x3), .second, .val (.int p4), .val (.int (p4 &&& (3 : Int32))), .val (.int t0_18), .val (.ref b26), .val (.ref b39), .val (.ref b45), .val (.ref b50), .unset] [(.ref b54), (.ref b54)]))
    refine own_to (fun _ kz => XS.aload X54.here hx rfl (hb hby at_58) rfl (rfl)  kz) ?_
    show own_Fin p e below G (T54.setTop (mkF m 60 #[.val (.long x0), .second, .val (.long x1), .second, .val (.long x2), .second, .val (.long x3), .second, .val (.int p4), .val (.int (p4 &&& (3 : Int32))), .val (.int t0_18), .val (.ref b26), .val (.ref b39), .val (.ref b45), .val (.ref b50), .unset] [(.ref b45), (.ref b54), (.ref b54)]))
    refine own_to (fun _ kz => XS.aload X54.here hx rfl (hb hby at_60) rfl (rfl)  kz) ?_
    show own_Fin p e below G (T54.setTop (mkF m 62 #[.val (.long x0), .second, .val (.long x1), .second, .val (.long x2), .second, .val (.long x3), .second, .val (.int p4), .val (.int (p4 &&& (3 : Int32))), .val (.int t0_18), .val (.ref b26), .val (.ref b39), .val (.ref b45), .val (.ref b50), .unset] [(.ref b50), (.ref b45), (.ref b54), (.ref b54)]))
    refine own_to (fun _ kz => XS.aload X54.here hx rfl (hb hby at_62) rfl (rfl)  kz) ?_
    show own_Fin p e below G (T54.setTop (mkF m 64 #[.val (.long x0), .second, .val (.long x1), .second, .val (.long x2), .second, .val (.long x3), .second, .val (.int p4), .val (.int (p4 &&& (3 : Int32))), .val (.int t0_18), .val (.ref b26), .val (.ref b39), .val (.ref b45), .val (.ref b50), .unset] [(.ref b39), (.ref b50), (.ref b45), (.ref b54), (.ref b54)]))
    refine own_to (fun _ kz => XS.aload X54.here hx rfl (hb hby at_64) rfl (rfl)  kz) ?_
    show own_Fin p e below G (T54.setTop (mkF m 66 #[.val (.long x0), .second, .val (.long x1), .second, .val (.long x2), .second, .val (.long x3), .second, .val (.int p4), .val (.int (p4 &&& (3 : Int32))), .val (.int t0_18), .val (.ref b26), .val (.ref b39), .val (.ref b45), .val (.ref b50), .unset] [(.ref b26), (.ref b39), (.ref b50), (.ref b45), (.ref b54), (.ref b54)]))
    refine own_to (fun _ kz => XS.dconst0 X54.here hx rfl (hb hby at_66) rfl kz) ?_
    show own_Fin p e below G (T54.setTop (mkF m 67 #[.val (.long x0), .second, .val (.long x1), .second, .val (.long x2), .second, .val (.long x3), .second, .val (.int p4), .val (.int (p4 &&& (3 : Int32))), .val (.int t0_18), .val (.ref b26), .val (.ref b39), .val (.ref b45), .val (.ref b50), .unset] [(.double FP.dconst0), (.ref b26), (.ref b39), (.ref b50), (.ref b45), (.ref b54), (.ref b54)]))
    refine own_to (fun _ kz => XS.dconst0 X54.here hx rfl (hb hby at_67) rfl kz) ?_
    show own_Fin p e below G (T54.setTop (mkF m 68 #[.val (.long x0), .second, .val (.long x1), .second, .val (.long x2), .second, .val (.long x3), .second, .val (.int p4), .val (.int (p4 &&& (3 : Int32))), .val (.int t0_18), .val (.ref b26), .val (.ref b39), .val (.ref b45), .val (.ref b50), .unset] [(.double FP.dconst0), (.double FP.dconst0), (.ref b26), (.ref b39), (.ref b50), (.ref b45), (.ref b54), (.ref b54)]))
    refine own_to (fun _ kz => XS.iload X54.here hx rfl (hb hby at_68) rfl  kz) ?_
    show own_Fin p e below G (T54.setTop (mkF m 70 #[.val (.long x0), .second, .val (.long x1), .second, .val (.long x2), .second, .val (.long x3), .second, .val (.int p4), .val (.int (p4 &&& (3 : Int32))), .val (.int t0_18), .val (.ref b26), .val (.ref b39), .val (.ref b45), .val (.ref b50), .unset] [(.int t0_18), (.double FP.dconst0), (.double FP.dconst0), (.ref b26), (.ref b39), (.ref b50), (.ref b45), (.ref b54), (.ref b54)]))
    have Z_70 : n0 ≤ h54.size := (Nat.le_trans Z_54 E54.1)
    obtain ⟨_, _, ⟨T70, L70, k70, n70⟩, -, X70, ⟨Lc70, hQ70, l70, y70, z70⟩, st70⟩ := X54.specialBack hx (y := (⟨"wavegauge/simulate/Measurement", "<init>", "([D[D[J[JDDZ)V"⟩ : MethodName)) rfl hown (mvT hZ (hw _ (List.mem_of_getElem? (i := 9) rfl))) (mvT hZ (hw _ (List.mem_of_getElem? (i := 10) rfl))) (mvT hZ (hw _ (List.mem_of_getElem? (i := 11) rfl))) (by decide) (backOf (W := 1) (rm2 l Z a0 hw [] b54 b45 b50 b39 b26 FP.dconst0 FP.dconst0 t0_18 h54 n0 Z_70 A54 F_blocking_b54 F_halfWidth_b54 F_attempts_b54 F_blocked_b54 F_networkBlocking_b54 F_networkHalfWidth_b54 F_stoppedByRule_b54 g_b54) hZ (hw _ (List.mem_of_getElem? (i := 11) rfl)) (hw _ (List.mem_of_getElem? (i := 8) rfl)) (by decide) (by decide)) (g := (mkF m 70 #[.val (.long x0), .second, .val (.long x1), .second, .val (.long x2), .second, .val (.long x3), .second, .val (.int p4), .val (.int (p4 &&& (3 : Int32))), .val (.int t0_18), .val (.ref b26), .val (.ref b39), .val (.ref b45), .val (.ref b50), .unset] [(.int t0_18), (.double FP.dconst0), (.double FP.dconst0), (.ref b26), (.ref b39), (.ref b50), (.ref b45), (.ref b54), (.ref b54)])) rfl (by rw [hml]; rfl) (Steps.refl _) (a := b54) (argsL := [(.ref b45), (.ref b50), (.ref b39), (.ref b26), (.double FP.dconst0), (.double FP.dconst0), (.int t0_18)]) (rest := [(.ref b54)]) (lenOf own_pd2 rfl) rfl (by show 2 * 0 + _ ≤ _; exact Nat.le_of_eq rfl) (hb hby at_70) (fun _ _ => ⟨rfl, e54, (by decide : 5 + 0 ≤ _), (by decide : 19 + 0 ≤ _)⟩)
    dsimp only [Pt.U, Pt.locs, Pt.cells, Pt.slots] at X70 l70 y70 z70 st70 hQ70
    subst l70 y70 z70
    obtain ⟨rfl, N70q, Kp70, P70_0, P70_1, P70_2, P70_3, P70_4, P70_5, P70_6, P70_7⟩ := hQ70
    have N70 := Fr.app N39 N70q
    refine own_via st70 ?_
    show own_Fin p e below G (T70.setTop (mkF m 73 #[.val (.long x0), .second, .val (.long x1), .second, .val (.long x2), .second, .val (.long x3), .second, .val (.int p4), .val (.int (p4 &&& (3 : Int32))), .val (.int t0_18), .val (.ref b26), .val (.ref b39), .val (.ref b45), .val (.ref b50), .unset] [(.ref b54)]))
    refine own_to (fun _ kz => XS.astore X70.here hx rfl (hb hby at_73) rfl (rfl) (l' := #[.val (.long x0), .second, .val (.long x1), .second, .val (.long x2), .second, .val (.long x3), .second, .val (.int p4), .val (.int (p4 &&& (3 : Int32))), .val (.int t0_18), .val (.ref b26), .val (.ref b39), .val (.ref b45), .val (.ref b50), .val (.ref b54)]) rfl kz) ?_
    show own_Fin p e below G (T70.setTop (mkF m 75 #[.val (.long x0), .second, .val (.long x1), .second, .val (.long x2), .second, .val (.long x3), .second, .val (.int p4), .val (.int (p4 &&& (3 : Int32))), .val (.int t0_18), .val (.ref b26), .val (.ref b39), .val (.ref b45), .val (.ref b50), .val (.ref b54)] []))
    refine own_to (fun _ kz => XS.aload X70.here hx rfl (hb hby at_75) rfl (rfl)  kz) ?_
    show own_Fin p e below G (T70.setTop (mkF m 77 #[.val (.long x0), .second, .val (.long x1), .second, .val (.long x2), .second, .val (.long x3), .second, .val (.int p4), .val (.int (p4 &&& (3 : Int32))), .val (.int t0_18), .val (.ref b26), .val (.ref b39), .val (.ref b45), .val (.ref b50), .val (.ref b54)] [(.ref b54)]))
    have V26_at_77 : own_AV Value.long Z T70.heap b26 .long nb26 fb26 := (((((V26.keep Kp39 nin0).ext E45).ext E50).ext E54).keep Kp70 (ninS ne_b26_b54 nin0))
    have Z_77 : n0 ≤ T70.heap.size := (Nat.le_trans Z_70 Kp70.1)
    obtain ⟨cq77, kq77, qa77, qb77, qc77⟩ := isOf hZ rfl P70_0
    obtain ⟨_, _, ⟨T77, L77, k77, n77⟩, -, X77, ⟨Lc77, hQ77, l77, y77, z77⟩, st77⟩ := X70.virtualBack hx (y := (⟨"wavegauge/simulate/Measurement", "totalBlocked", "()J"⟩ : MethodName)) (z := (⟨"wavegauge/simulate/Measurement", "totalBlocked", "()J"⟩ : MethodName)) hown (mvT hZ (hw _ (List.mem_of_getElem? (i := 34) rfl))) (mvT hZ (hw _ (List.mem_of_getElem? (i := 35) rfl))) (notFace_of_selects (args := #[]) (mvT hZ (hw _ (List.mem_of_getElem? (i := 37) rfl)))) (mvT hZ (hw _ (List.mem_of_getElem? (i := 37) rfl))) (mvT hZ (hw _ (List.mem_of_getElem? (i := 36) rfl))) (by decide) (backOf (W := 0) (rm5 l Z a0 hw [] b54 nb26 fb26 b26 T70.heap n0 Z_77 P70_4 V26_at_77) hZ (hw _ (List.mem_of_getElem? (i := 38) rfl)) (hw _ (List.mem_of_getElem? (i := 8) rfl)) (by decide) (by decide)) qa77 qc77 (g := (mkF m 77 #[.val (.long x0), .second, .val (.long x1), .second, .val (.long x2), .second, .val (.long x3), .second, .val (.int p4), .val (.int (p4 &&& (3 : Int32))), .val (.int t0_18), .val (.ref b26), .val (.ref b39), .val (.ref b45), .val (.ref b50), .val (.ref b54)] [(.ref b54)])) rfl (by rw [hml]; rfl) (Steps.refl _) (argsL := []) (rest := []) (lenOf own_pd3 rfl) rfl (by show 2 * 0 + _ ≤ _; exact Nat.le_of_eq rfl) (hb hby at_77) (fun _ _ => ⟨rfl, rfl, (by decide : 5 + 0 ≤ _), (by decide : 19 + 0 ≤ _)⟩)
    dsimp only [Pt.U, Pt.locs, Pt.cells, Pt.slots] at X77 l77 y77 z77 st77 hQ77
    subst l77 y77 z77
    obtain ⟨hv77, N77q, e77⟩ := hQ77
    rw [hs26] at hv77
    subst hv77
    have N77 := Fr.app N70 N77q
    refine own_via st77 ?_
    show own_Fin p e below G (T77.setTop (mkF m 80 #[.val (.long x0), .second, .val (.long x1), .second, .val (.long x2), .second, .val (.long x3), .second, .val (.int p4), .val (.int (p4 &&& (3 : Int32))), .val (.int t0_18), .val (.ref b26), .val (.ref b39), .val (.ref b45), .val (.ref b50), .val (.ref b54)] [(.long (own_want (p4 &&& (3 : Int32)) x0 x1 x2))]))
    refine own_to (fun _ kz => XS.iload X77.here hx rfl (hb hby at_80) rfl  kz) ?_
    show own_Fin p e below G (T77.setTop (mkF m 82 #[.val (.long x0), .second, .val (.long x1), .second, .val (.long x2), .second, .val (.long x3), .second, .val (.int p4), .val (.int (p4 &&& (3 : Int32))), .val (.int t0_18), .val (.ref b26), .val (.ref b39), .val (.ref b45), .val (.ref b50), .val (.ref b54)] [(.int (p4 &&& (3 : Int32))), (.long (own_want (p4 &&& (3 : Int32)) x0 x1 x2))]))
    refine own_to (fun _ kz => XS.lloadN X77.here hx rfl (hb hby at_82) rfl  kz) ?_
    show own_Fin p e below G (T77.setTop (mkF m 83 #[.val (.long x0), .second, .val (.long x1), .second, .val (.long x2), .second, .val (.long x3), .second, .val (.int p4), .val (.int (p4 &&& (3 : Int32))), .val (.int t0_18), .val (.ref b26), .val (.ref b39), .val (.ref b45), .val (.ref b50), .val (.ref b54)] [(.long x0), (.int (p4 &&& (3 : Int32))), (.long (own_want (p4 &&& (3 : Int32)) x0 x1 x2))]))
    refine own_to (fun _ kz => XS.lloadN X77.here hx rfl (hb hby at_83) rfl  kz) ?_
    show own_Fin p e below G (T77.setTop (mkF m 84 #[.val (.long x0), .second, .val (.long x1), .second, .val (.long x2), .second, .val (.long x3), .second, .val (.int p4), .val (.int (p4 &&& (3 : Int32))), .val (.int t0_18), .val (.ref b26), .val (.ref b39), .val (.ref b45), .val (.ref b50), .val (.ref b54)] [(.long x1), (.long x0), (.int (p4 &&& (3 : Int32))), (.long (own_want (p4 &&& (3 : Int32)) x0 x1 x2))]))
    refine own_to (fun _ kz => XS.lload X77.here hx rfl (hb hby at_84) rfl  kz) ?_
    show own_Fin p e below G (T77.setTop (mkF m 86 #[.val (.long x0), .second, .val (.long x1), .second, .val (.long x2), .second, .val (.long x3), .second, .val (.int p4), .val (.int (p4 &&& (3 : Int32))), .val (.int t0_18), .val (.ref b26), .val (.ref b39), .val (.ref b45), .val (.ref b50), .val (.ref b54)] [(.long x2), (.long x1), (.long x0), (.int (p4 &&& (3 : Int32))), (.long (own_want (p4 &&& (3 : Int32)) x0 x1 x2))]))
    obtain ⟨_, _, ⟨T86, L86, k86, n86⟩, -, X86, ⟨Lc86, hQ86, l86, y86, z86⟩, st86⟩ := Jvm.LawKit.callS X77 hx (y := (⟨"wavegauge/simulate/MeasurementTotalBlockedPinLaw", "expected", "(IJJJ)J"⟩ : MethodName)) hown (mvT hZ (hw _ (List.mem_of_getElem? (i := 39) rfl))) (mvT hZ (hw _ (List.mem_of_getElem? (i := 40) rfl))) (mvT hZ (hw _ (List.mem_of_getElem? (i := 2) rfl))) (mvT hZ (hw _ (List.mem_of_getElem? (i := 41) rfl))) (by decide) (backOf (W := 2) (rm6 l Z a0 hw [] (p4 &&& (3 : Int32)) x0 x1 x2 T70.heap n0 Z_77) hZ (hw _ (List.mem_of_getElem? (i := 41) rfl)) (hw _ (List.mem_of_getElem? (i := 2) rfl)) (by decide) (by decide)) (g := (mkF m 86 #[.val (.long x0), .second, .val (.long x1), .second, .val (.long x2), .second, .val (.long x3), .second, .val (.int p4), .val (.int (p4 &&& (3 : Int32))), .val (.int t0_18), .val (.ref b26), .val (.ref b39), .val (.ref b45), .val (.ref b50), .val (.ref b54)] [(.long x2), (.long x1), (.long x0), (.int (p4 &&& (3 : Int32))), (.long (own_want (p4 &&& (3 : Int32)) x0 x1 x2))])) rfl (by rw [hml]; rfl) (argsL := [(.int (p4 &&& (3 : Int32))), (.long x0), (.long x1), (.long x2)]) (rest := [(.long (own_want (p4 &&& (3 : Int32)) x0 x1 x2))]) (lenOf own_pd4 rfl) rfl (by show 2 * 0 + _ ≤ _; exact Nat.le_of_eq rfl) (hb hby at_86) (fun _ _ => ⟨rfl, e77, (by decide : 5 + 0 ≤ _), (by decide : 19 + 0 ≤ _)⟩)
    dsimp only [Pt.U, Pt.locs, Pt.cells, Pt.slots] at X86 l86 y86 z86 st86 hQ86
    subst l86 y86 z86
    obtain ⟨rfl, N86q, e86⟩ := hQ86
    have N86 := Fr.app N77 N86q
    refine own_to st86 ?_
    show own_Fin p e below G (T86.setTop (mkF m 89 #[.val (.long x0), .second, .val (.long x1), .second, .val (.long x2), .second, .val (.long x3), .second, .val (.int p4), .val (.int (p4 &&& (3 : Int32))), .val (.int t0_18), .val (.ref b26), .val (.ref b39), .val (.ref b45), .val (.ref b50), .val (.ref b54)] [(.long (f6 (p4 &&& (3 : Int32)) x0 x1 x2)), (.long (own_want (p4 &&& (3 : Int32)) x0 x1 x2))]))
    refine own_to (fun _ kz => XS.lcmp X86.here hx rfl (hb hby at_89) rfl kz) ?_
    show own_Fin p e below G (T86.setTop (mkF m 90 #[.val (.long x0), .second, .val (.long x1), .second, .val (.long x2), .second, .val (.long x3), .second, .val (.int p4), .val (.int (p4 &&& (3 : Int32))), .val (.int t0_18), .val (.ref b26), .val (.ref b39), .val (.ref b45), .val (.ref b50), .val (.ref b54)] [(.int (lcmpW (own_want (p4 &&& (3 : Int32)) x0 x1 x2) (f6 (p4 &&& (3 : Int32)) x0 x1 x2)))]))
    by_cases hc90 : (own_want (p4 &&& (3 : Int32)) x0 x1 x2) = (f6 (p4 &&& (3 : Int32)) x0 x1 x2)
    · refine own_to (fun _ kz => XS.ifNo X86.here hx rfl (hb hby at_90) rfl ((if0 _ _).trans (teq ((lw_eq _ _).mpr hc90)).2) kz) ?_
      have q90t := q_j18.trans (if_pos hc90)
      show own_Fin p e below G (T86.setTop (mkF m 93 #[.val (.long x0), .second, .val (.long x1), .second, .val (.long x2), .second, .val (.long x3), .second, .val (.int p4), .val (.int (p4 &&& (3 : Int32))), .val (.int t0_18), .val (.ref b26), .val (.ref b39), .val (.ref b45), .val (.ref b50), .val (.ref b54)] []))
      refine own_to (fun _ kz => XS.iconst X86.here hx rfl (hb hby at_93) kz) ?_
      show own_Fin p e below G (T86.setTop (mkF m 94 #[.val (.long x0), .second, .val (.long x1), .second, .val (.long x2), .second, .val (.long x3), .second, .val (.int p4), .val (.int (p4 &&& (3 : Int32))), .val (.int t0_18), .val (.ref b26), .val (.ref b39), .val (.ref b45), .val (.ref b50), .val (.ref b54)] [(.int (1 : Int32))]))
      refine own_to (fun _ kz => XS.goto X86.here hx rfl (pc0 := 94) (pc' := 98) rfl (hb hby at_94) (by decide) (by decide) kz) ?_
      show own_Fin p e below G (T86.setTop (mkF m 98 #[.val (.long x0), .second, .val (.long x1), .second, .val (.long x2), .second, .val (.long x3), .second, .val (.int p4), .val (.int (p4 &&& (3 : Int32))), .val (.int t0_18), .val (.ref b26), .val (.ref b39), .val (.ref b45), .val (.ref b50), .val (.ref b54)] [(.int (1 : Int32))]))
      exact own_retN X86 hx hlk hG (t := .boolean) Bd.returns (by simp) (hb hby at_98) (by decide) (by decide) (by rw [e86]; exact ⟨(congrArg (fun z => some (Value.int z)) q90t).symm, N86, trivial⟩)
    · refine own_to (fun _ kz => XS.ifYes X86.here hx rfl (pc0 := 90) (pc' := 97) rfl (hb hby at_90) rfl ((if0 _ _).trans (feq (fun q => hc90 ((lw_eq _ _).mp q))).2) (by decide) (by decide) kz) ?_
      have q90f := q_j18.trans (if_neg hc90)
      show own_Fin p e below G (T86.setTop (mkF m 97 #[.val (.long x0), .second, .val (.long x1), .second, .val (.long x2), .second, .val (.long x3), .second, .val (.int p4), .val (.int (p4 &&& (3 : Int32))), .val (.int t0_18), .val (.ref b26), .val (.ref b39), .val (.ref b45), .val (.ref b50), .val (.ref b54)] []))
      refine own_to (fun _ kz => XS.iconst X86.here hx rfl (hb hby at_97) kz) ?_
      show own_Fin p e below G (T86.setTop (mkF m 98 #[.val (.long x0), .second, .val (.long x1), .second, .val (.long x2), .second, .val (.long x3), .second, .val (.int p4), .val (.int (p4 &&& (3 : Int32))), .val (.int t0_18), .val (.ref b26), .val (.ref b39), .val (.ref b45), .val (.ref b50), .val (.ref b54)] [(.int (0 : Int32))]))
      exact own_retN X86 hx hlk hG (t := .boolean) Bd.returns (by simp) (hb hby at_98) (by decide) (by decide) (by rw [e86]; exact ⟨(congrArg (fun z => some (Value.int z)) q90f).symm, N86, trivial⟩)
  by_cases hc10 : (p4 &&& (4 : Int32)) = (0 : Int32)
  · refine own_to (fun _ kz => XS.ifYes X0.here hx rfl (pc0 := 10) (pc' := 17) rfl (hb hby at_10) rfl ((if0 _ _).trans (teq hc10).1) (by decide) (by decide) kz) ?_
    have q10t := q0.trans (if_pos hc10)
    show own_Fin p e below G (s₁.setTop (mkF m 17 #[.val (.long x0), .second, .val (.long x1), .second, .val (.long x2), .second, .val (.long x3), .second, .val (.int p4), .val (.int (p4 &&& (3 : Int32))), .unset, .unset, .unset, .unset, .unset, .unset] []))
    refine own_to (fun _ kz => XS.iconst X0.here hx rfl (hb hby at_17) kz) ?_
    show own_Fin p e below G (s₁.setTop (mkF m 18 #[.val (.long x0), .second, .val (.long x1), .second, .val (.long x2), .second, .val (.long x3), .second, .val (.int p4), .val (.int (p4 &&& (3 : Int32))), .unset, .unset, .unset, .unset, .unset, .unset] [(.int (0 : Int32))]))
    exact K18 (0 : Int32) q10t
  · refine own_to (fun _ kz => XS.ifNo X0.here hx rfl (hb hby at_10) rfl ((if0 _ _).trans (feq hc10).1) kz) ?_
    have q10f := q0.trans (if_neg hc10)
    show own_Fin p e below G (s₁.setTop (mkF m 13 #[.val (.long x0), .second, .val (.long x1), .second, .val (.long x2), .second, .val (.long x3), .second, .val (.int p4), .val (.int (p4 &&& (3 : Int32))), .unset, .unset, .unset, .unset, .unset, .unset] []))
    refine own_to (fun _ kz => XS.iconst X0.here hx rfl (hb hby at_13) kz) ?_
    show own_Fin p e below G (s₁.setTop (mkF m 14 #[.val (.long x0), .second, .val (.long x1), .second, .val (.long x2), .second, .val (.long x3), .second, .val (.int p4), .val (.int (p4 &&& (3 : Int32))), .unset, .unset, .unset, .unset, .unset, .unset] [(.int (1 : Int32))]))
    refine own_to (fun _ kz => XS.goto X0.here hx rfl (pc0 := 14) (pc' := 18) rfl (hb hby at_14) (by decide) (by decide) kz) ?_
    show own_Fin p e below G (s₁.setTop (mkF m 18 #[.val (.long x0), .second, .val (.long x1), .second, .val (.long x2), .second, .val (.long x3), .second, .val (.int p4), .val (.int (p4 &&& (3 : Int32))), .unset, .unset, .unset, .unset, .unset, .unset] [(.int (1 : Int32))]))
    exact K18 (1 : Int32) q10f
theorem own_eq (k : Int32) (a b c : Int64) : own_want k a b c = f6 k a b c := by
  unfold own_want f6; rfl
theorem own_plain (a b c d : Int64) (n : Int32) : f0 a b c d n = 1 := by
  simp [f0_18, f0, own_eq]
set_option maxRecDepth 65536 in
set_option maxHeartbeats 40000000 in
theorem comes_1 {Post : Tables → Env → Array Value → State → Outcome → State → Prop} (hpost : ∀ tb e args s v u, (limb_1_1.after args s (.returned v) u = true ∧ limb_1_2.after args s (.returned v) u = true ∧ True) → FrameEnd s (.returned v) u (Jvm.fieldLocs frame_1_writes args s ++ Jvm.arrayLocs frame_1_arrays args s ++ Jvm.staticLocs frame_1_statics s) 24 128 → Post tb e args s (.returned v) u) :
    ArmFor flags0 classFile x code maxLocals ret World_1 tables_1 room_1 Calls_1 rest_1 Pre_1 Post := by
  intro l hfl _ _ p e ha hc hk s m args below hf hA hF happ hP
  obtain ⟨hcalls, hrest, hpre⟩ := hP
  obtain ⟨-, -, -, hnamed, -, -, -, hat⟩ := (Spec.applies_iff hf).mp happ
  obtain ⟨hg, hn⟩ := and_e (Cond.before_iff.mp (show (Jvm.Cond.and given_1 narrow_1).before args s = true from hpre))
  obtain ⟨gg1, gg2⟩ := and_e hg
  obtain ⟨gg3, gg4⟩ := and_e gg2
  obtain ⟨gg5, gg6⟩ := and_e gg4
  obtain ⟨gg7, gg8⟩ := and_e gg6
  obtain ⟨gg9, gg10⟩ := and_e gg8
  obtain ⟨w0, w1, w2, w3, w4, rfl⟩ : ∃ w0 w1 w2 w3 w4 : Value, args = #[w0, w1, w2, w3, w4] := by
    have hs : args.size = 5 := by simpa [Cond.value, given_1] using gg1
    obtain ⟨L⟩ := args
    match L, hs with
    | [w0, w1, w2, w3, w4], _ => exact ⟨w0, w1, w2, w3, w4, rfl⟩
  have hw := fun d (hd : d ∈ tables_1) => atoms_spec (ws := Jvm.Cond.code x code maxLocals ret :: tables_1) hat d (List.mem_cons_of_mem _ hd)
  obtain ⟨i0, ei0⟩ := isL_v gg3
  obtain rfl : w0 = (.long i0) := Option.some.inj ei0
  obtain ⟨i1, ei1⟩ := isL_v gg5
  obtain rfl : w1 = (.long i1) := Option.some.inj ei1
  obtain ⟨i2, ei2⟩ := isL_v gg7
  obtain rfl : w2 = (.long i2) := Option.some.inj ei2
  obtain ⟨i3, ei3⟩ := isL_v gg9
  obtain rfl : w3 = (.long i3) := Option.some.inj ei3
  obtain ⟨i4, ei4⟩ := is_v gg10
  obtain rfl : w4 = (.int i4) := Option.some.inj ei4
  obtain ⟨n, o, h1, h2, h3, v, L, rfl, ⟨hv, N, -⟩, hq⟩ := rm0 l s _ hw tables_1 i0 i1 i2 i3 i4 s.heap s.heap.size (Nat.le_refl _) p e ha hc hk s m _ below hf ((Spec.applies_iff_loose hf).mp happ).1 ⟨rfl, State.Warmed39.refl s, rfl⟩ trivial
  obtain rfl : v = some (.int 1) := hv.trans (congrArg (fun z => some (Value.int z)) (own_plain i0 i1 i2 i3 i4))
  refine ⟨n, _, h1, h2, h3, hpost _ _ _ _ _ _ ⟨Cond.after_iff.mpr rfl, Cond.after_iff.mpr (eq_i res_at (Term.int_eval (1)) rfl), trivial⟩ ⟨hq.1, hq.2.1, (hq.2.2.sift fun y hy => Or.inr (N y hy)).mono (by decide) (by decide)⟩⟩
theorem main_1_1 : Claimed_1_1 := comes_1 fun _ _ _ _ _ _ h hF => ⟨h.1, hF⟩
theorem main_1_2 : Claimed_1_2 := comes_1 fun _ _ _ _ _ _ h hF => ⟨h.2.1, hF⟩
end Jvm.Pilot.@@N@@
namespace Jvm.Pilot.@@N@@
open Jvm Jvm.ClassFile Sem Op Lib Jvm.Free Jvm.Stand Jvm.Pilot.@@N@@.Jvm.D
/-! MADE BY PROGRAM (witnessworld.py) out of the Statement's table words and the real class files: 12 classes; the members and pool entries that the words name. The judged class is class 1, her method 3. -/
namespace start1
open Jvm.ClassFile
def u (s : String) : CpInfo := .utf8 (stringToUtf16 s)
/-- a pool by its gaps: so many unusable entries, then the entry; so many at the end -/
def gap : Nat → List CpInfo → List CpInfo
  | 0, r => r
  | n + 1, r => .unusable :: gap n r
def poolList (es : List (Nat × CpInfo)) (last : Nat) : List CpInfo := es.foldr (fun e r => gap e.1 (e.2 :: r)) (gap last [])
def pool (es : List (Nat × CpInfo)) (last : Nat) : Array CpInfo := ⟨poolList es last⟩
def fileOf (pool : Array CpInfo) (this : Nat) (attrs : Array Attribute := #[]) (ms : Array MethodInfo := #[]) (fl : Nat := 33) (sup : Nat := 0) (ifs : Array Nat := #[]) (fds : Array FieldInfo := #[]) : ClassFile where
  minorVersion := 0
  majorVersion := 65
  constantPool := pool
  accessFlags := fl
  thisClass := this
  superClass := sup
  interfaces := ifs
  fields := fds
  methods := ms
  attributes := attrs
def plain (name : String) (sup : Option ClassId) : Class where
  name := name
  kind := .ordinary
  loader := none
  accessFlags := 33
  super := sup
  interfaces := #[]
  cf := none
  fields := #[]
  methods := #[]
  instanceTypes := #[]
  staticTypes := #[]
  resolved := #[]
  callSites := []
  init := .initialized
  statics := none
  mirror := none

def pool0 : Array CpInfo := pool [(5, u "<init>"), (0, u "()V"), (1, .class_ 10), (1, u "java/lang/Object")] 113

def k0c0 : Code := { maxStack := 0, maxLocals := 1, code := object_method_1_code, exceptionTable := #[], attributes := #[] }
def k0m0 : Method := { name := "<init>", desc := "()V", sig := { parameters := [], returnType := none }, accessFlags := 1, code := some k0c0 }
/-- java/lang/Object -/
def k0 : Class := { plain "java/lang/Object" none with
  accessFlags := 33
  interfaces := #[]
  cf := some (fileOf pool0 8 #[] #[{ accessFlags := 1, nameIndex := 5, descriptorIndex := 6, attributes := #[] }] 33 0 #[] #[])
  fields := #[]
  methods := #[k0m0]
  instanceTypes := #[]
  staticTypes := #[]
  resolved := Array.replicate 124 none
  statics := none }

def pool1 : Array CpInfo := pool [(2, .class_ 4), (1, u "java/lang/Object"), (0, u "<init>"), (0, u "()V"), (0, .methodref 8 9), (0, .class_ 10), (0, .nameAndType 11 12), (0, u "wavegauge/simulate/MeasurementTotalBlockedPinLaw"), (0, u "drawn"), (0, u "(IJJJ)[J"), (0, .class_ 14), (0, u "wavegauge/simulate/Measurement"), (0, .methodref 13 16), (0, .nameAndType 5 17), (0, u "([D[D[J[JDDZ)V"), (0, .methodref 13 19), (0, .nameAndType 20 21), (0, u "totalBlocked"), (0, u "()J"), (0, .methodref 8 23), (0, .nameAndType 24 25), (0, u "expected"), (0, u "(IJJJ)J"), (3, u "law"), (0, u "(JJJJI)Z")] 6

def k1m0 : Method := { name := "<init>", desc := "()V", sig := { parameters := [], returnType := none }, accessFlags := 1, code := none }
def k1c1 : Code := { maxStack := 5, maxLocals := 7, code := method_2_code, exceptionTable := #[], attributes := #[] }
def k1m1 : Method := { name := "drawn", desc := "(IJJJ)[J", sig := { parameters := [.int, .long, .long, .long], returnType := some (.array .long) }, accessFlags := 10, code := some k1c1 }
def k1c2 : Code := { maxStack := 4, maxLocals := 7, code := method_3_code, exceptionTable := #[], attributes := #[] }
def k1m2 : Method := { name := "expected", desc := "(IJJJ)J", sig := { parameters := [.int, .long, .long, .long], returnType := some .long }, accessFlags := 10, code := some k1c2 }
def k1c3 : Code := { maxStack := 11, maxLocals := 16, code := code, exceptionTable := #[], attributes := #[] }
def k1m3 : Method := { name := "law", desc := "(JJJJI)Z", sig := { parameters := [.long, .long, .long, .long, .int], returnType := some .boolean }, accessFlags := 9, code := some k1c3 }
/-- wavegauge/simulate/MeasurementTotalBlockedPinLaw -/
def k1 : Class := { plain "wavegauge/simulate/MeasurementTotalBlockedPinLaw" (some 0) with
  accessFlags := 49
  interfaces := #[]
  cf := some (fileOf pool1 8 #[] #[{ accessFlags := 1, nameIndex := 5, descriptorIndex := 6, attributes := #[] }, { accessFlags := 10, nameIndex := 11, descriptorIndex := 12, attributes := #[] }, { accessFlags := 10, nameIndex := 24, descriptorIndex := 25, attributes := #[] }, { accessFlags := 9, nameIndex := 29, descriptorIndex := 30, attributes := #[] }] 49 2 #[] #[])
  fields := #[]
  methods := #[k1m0, k1m1, k1m2, k1m3]
  instanceTypes := #[]
  staticTypes := #[]
  resolved := Array.replicate 37 none
  statics := none }

def pool2 : Array CpInfo := pool [(1, .methodref 2 3), (0, .class_ 4), (0, .nameAndType 5 6), (0, u "java/lang/Object"), (0, u "<init>"), (0, u "()V"), (0, .class_ 8), (0, u "java/lang/Record")] 13

def k2c0 : Code := { maxStack := 1, maxLocals := 1, code := jdk_30_method_1_code, exceptionTable := #[], attributes := #[] }
def k2m0 : Method := { name := "<init>", desc := "()V", sig := { parameters := [], returnType := none }, accessFlags := 4, code := some k2c0 }
/-- java/lang/Record -/
def k2 : Class := { plain "java/lang/Record" (some 0) with
  accessFlags := 1057
  interfaces := #[]
  cf := some (fileOf pool2 7 #[] #[{ accessFlags := 4, nameIndex := 5, descriptorIndex := 6, attributes := #[] }] 1057 2 #[] #[])
  fields := #[]
  methods := #[k2m0]
  instanceTypes := #[]
  staticTypes := #[]
  resolved := Array.replicate 22 none
  statics := none }

def pool3 : Array CpInfo := pool [(1, .methodref 2 3), (0, .class_ 4), (0, .nameAndType 5 6), (0, u "java/lang/Record"), (0, u "<init>"), (0, u "()V"), (0, .fieldref 8 9), (0, .class_ 10), (0, .nameAndType 11 12), (0, u "wavegauge/simulate/Measurement"), (0, u "blocking"), (0, u "[D"), (0, .fieldref 8 14), (0, .nameAndType 15 12), (0, u "halfWidth"), (0, .fieldref 8 17), (0, .nameAndType 18 19), (0, u "attempts"), (0, u "[J"), (0, .fieldref 8 21), (0, .nameAndType 22 19), (0, u "blocked"), (0, .fieldref 8 24), (0, .nameAndType 25 26), (0, u "networkBlocking"), (0, u "D"), (0, .fieldref 8 28), (0, .nameAndType 29 26), (0, u "networkHalfWidth"), (0, .fieldref 8 31), (0, .nameAndType 32 33), (0, u "stoppedByRule"), (0, u "Z"), (12, u "([D[D[J[JDDZ)V"), (4, u "()J"), (2, u "totalBlocked")] 33

def k3c0 : Code := { maxStack := 3, maxLocals := 10, code := prog_34_method_1_code, exceptionTable := #[], attributes := #[] }
def k3m0 : Method := { name := "<init>", desc := "([D[D[J[JDDZ)V", sig := { parameters := [(.array .double), (.array .double), (.array .long), (.array .long), .double, .double, .boolean], returnType := none }, accessFlags := 1, code := some k3c0 }
def k3c1 : Code := { maxStack := 4, maxLocals := 8, code := prog_34_method_3_code, exceptionTable := #[], attributes := #[] }
def k3m1 : Method := { name := "totalBlocked", desc := "()J", sig := { parameters := [], returnType := some .long }, accessFlags := 1, code := some k3c1 }
/-- wavegauge/simulate/Measurement -/
def k3 : Class := { plain "wavegauge/simulate/Measurement" (some 2) with
  accessFlags := 49
  interfaces := #[]
  cf := some (fileOf pool3 8 #[] #[{ accessFlags := 1, nameIndex := 5, descriptorIndex := 46, attributes := #[] }, { accessFlags := 1, nameIndex := 54, descriptorIndex := 51, attributes := #[] }] 49 2 #[] #[{ accessFlags := 18, nameIndex := 11, descriptorIndex := 12, attributes := #[] }, { accessFlags := 18, nameIndex := 15, descriptorIndex := 12, attributes := #[] }, { accessFlags := 18, nameIndex := 18, descriptorIndex := 19, attributes := #[] }, { accessFlags := 18, nameIndex := 22, descriptorIndex := 19, attributes := #[] }, { accessFlags := 18, nameIndex := 25, descriptorIndex := 26, attributes := #[] }, { accessFlags := 18, nameIndex := 29, descriptorIndex := 26, attributes := #[] }, { accessFlags := 18, nameIndex := 32, descriptorIndex := 33, attributes := #[] }])
  fields := #[{ name := "blocking", type := (.array .double), accessFlags := 18, slot := 0, constantValue := 0 }, { name := "halfWidth", type := (.array .double), accessFlags := 18, slot := 1, constantValue := 0 }, { name := "attempts", type := (.array .long), accessFlags := 18, slot := 2, constantValue := 0 }, { name := "blocked", type := (.array .long), accessFlags := 18, slot := 3, constantValue := 0 }, { name := "networkBlocking", type := .double, accessFlags := 18, slot := 4, constantValue := 0 }, { name := "networkHalfWidth", type := .double, accessFlags := 18, slot := 5, constantValue := 0 }, { name := "stoppedByRule", type := .boolean, accessFlags := 18, slot := 6, constantValue := 0 }]
  methods := #[k3m0, k3m1]
  instanceTypes := #[(.array .double), (.array .double), (.array .long), (.array .long), .double, .double, .boolean]
  staticTypes := #[]
  resolved := Array.replicate 88 none
  statics := none }

def pool4 : Array CpInfo := pool [(1, u "java/lang/Cloneable"), (0, .class_ 1), (0, u "java/lang/Object"), (0, .class_ 3)] 3

/-- java/lang/Cloneable -/
def k4 : Class := { plain "java/lang/Cloneable" (some 0) with
  accessFlags := 1537
  interfaces := #[]
  cf := some (fileOf pool4 2 #[] #[] 1537 4 #[] #[])
  fields := #[]
  methods := #[]
  instanceTypes := #[]
  staticTypes := #[]
  resolved := Array.replicate 8 none
  statics := none }

def pool5 : Array CpInfo := pool [(1, u "java/io/Serializable"), (0, .class_ 1), (0, u "java/lang/Object"), (0, .class_ 3)] 3

/-- java/io/Serializable -/
def k5 : Class := { plain "java/io/Serializable" (some 0) with
  accessFlags := 1537
  interfaces := #[]
  cf := some (fileOf pool5 2 #[] #[] 1537 4 #[] #[])
  fields := #[]
  methods := #[]
  instanceTypes := #[]
  staticTypes := #[]
  resolved := Array.replicate 8 none
  statics := none }

/-- the primitive byte -/
def k6 : Class := { plain "byte" none with kind := .primitive 'B', accessFlags := 0x411 }
/-- [B -/
def k7 : Class := { plain "[B" (some 0) with kind := .array 6 .byte, interfaces := #[4, 5], accessFlags := 1041 }

/-- the primitive int -/
def k8 : Class := { plain "int" none with kind := .primitive 'I', accessFlags := 0x411 }
/-- [I -/
def k9 : Class := { plain "[I" (some 0) with kind := .array 8 .int, interfaces := #[4, 5], accessFlags := 1041 }

/-- the primitive long -/
def k10 : Class := { plain "long" none with kind := .primitive 'J', accessFlags := 0x411 }
/-- [J -/
def k11 : Class := { plain "[J" (some 0) with kind := .array 10 .long, interfaces := #[4, 5], accessFlags := 1041 }

/-- the primitive double -/
def k12 : Class := { plain "double" none with kind := .primitive 'D', accessFlags := 0x411 }
/-- [D -/
def k13 : Class := { plain "[D" (some 0) with kind := .array 12 .double, interfaces := #[4, 5], accessFlags := 1041 }

def heap : Heap := #[]
def classes : Array Class := #[k0, k1, k2, k3, k4, k5, k6, k7, k8, k9, k10, k11, k12, k13]
def interned : List (Array UInt16 × Addr) := []
def slotsUsed : Nat := 0
def theMethod : MethodId := ⟨1, 3⟩
def args0 : Array Value := #[.long 6, .long 7, .long 6, .long 7, .int 7]
def aboutOver (below : List Frame) : State where
  vm := { classes := classes, interned := interned.toArray }
  heap := heap
  slotsUsed := slotsUsed
  threads := #[{ frames := .invoking theMethod args0 :: below }]
def below0 : List Frame := [.native { method := ⟨0, 0⟩, args := #[] }]
def about1 : State := aboutOver below0
def p0 : Program := .bare "" "" ""
def e0 : Env := launch0.env 0 0 0
theorem w_frames : about1.frames = Frame.invoking theMethod args0 :: below0 := rfl
set_option maxRecDepth 65536 in
theorem w_args : argsFit about1.vm theMethod args0 = true := by decide +kernel
set_option maxRecDepth 65536 in
theorem w_heap : heapFits about1 = true := by decide +kernel
set_option maxRecDepth 65536 in
theorem w_runnable : about1.curStatus? = some .runnable := by decide +kernel
set_option maxRecDepth 65536 in
theorem w_alone : about1.alone = true := by decide +kernel
set_option maxRecDepth 65536 in
theorem w_named : about1.methodNamed? x = some theMethod := by decide +kernel
set_option maxRecDepth 65536 in
theorem w_hears : about1.hears theMethod below0 = true := by decide +kernel
set_option maxRecDepth 65536 in
theorem w_ripe : about1.ripe theMethod args0 below0 = true := by decide +kernel
theorem w_running : about1.status = .running := rfl
set_option maxRecDepth 65536 in
theorem w_room : about1.hasRoom e0.platform room_1 = true :=
  launch0.hasRoom_least _ room_1 (by decide +kernel) (by decide +kernel) (by decide +kernel) (by decide +kernel) (by decide +kernel) (by decide +kernel)
theorem allAtoms_all (ts : List Jvm.Cond) (a : Array Jvm.Value) (st : Jvm.State) : (allAtoms ts).before a st = ts.all (fun c => c.before a st) := by
  induction ts with
  | nil => rfl
  | cons c t ih =>
    show (Jvm.Cond.and c (allAtoms t)).before a st = _
    rw [Jvm.Cond.before_and, ih, List.all_cons]
def words1 : List Jvm.Cond := Jvm.Cond.code x code maxLocals ret :: tables_1
/-- a 'code' word, met by the world's own term for the bytes: nothing is compared byte by byte -/
theorem code_word {y : MethodName} {bytes : ByteArray} {mx : Nat} {rt : Option FieldType} {a : Array Value} {s : State} {m : MethodId} {meth : Method} {c : Code} (h1 : s.methodNamed? y = some m) (h2 : s.vm.method? m = some meth) (h3 : meth.code = some c) (h4 : c.code = bytes)
    (h5 : (c.maxLocals == mx && c.exceptionTable.isEmpty && decide (c.maxStack ≤ mostOperands) && decide (meth.sig.returnType = rt) && !meth.locks && decide (parseMethodDescriptor y.desc = some meth.sig)) = true) : (Jvm.Cond.code y bytes mx rt).before a s = true := by
  simp only [Bool.and_eq_true, beq_iff_eq, Bool.not_eq_true', decide_eq_true_eq] at h5
  obtain ⟨⟨⟨⟨⟨g1, g2⟩, g3⟩, g4⟩, g5⟩, g6⟩ := h5
  simp [Cond.before, Cond.holds, Cond.value, h1, h2, h3, h4, g1, g2, g3, g4, g5, g6]
def isCode : Jvm.Cond → Bool
  | .code _ _ _ _ => true
  | _ => false
theorem all_split {L : List Jvm.Cond} {P : Jvm.Cond → Bool} (h1 : L.all (fun c => isCode c || P c) = true) (h2 : ∀ c ∈ L.filter isCode, P c = true) : L.all P = true := by
  refine List.all_eq_true.mpr fun c hc => ?_
  have h := List.all_eq_true.mp h1 c hc
  rcases Bool.eq_false_or_eq_true (isCode c) with hi | hi
  · exact h2 c (List.mem_filter.mpr ⟨hc, hi⟩)
  · simpa [hi] using h
set_option maxRecDepth 65536 in
theorem w_c0 : (Jvm.Cond.code x code maxLocals ret).before args0 about1 = true := code_word (m := ⟨1, 3⟩) (meth := k1m3) (c := k1c3) (by decide +kernel) rfl rfl rfl (by decide +kernel)
set_option maxRecDepth 65536 in
theorem w_c1 : (Jvm.Cond.code ({ cls := "wavegauge/simulate/MeasurementTotalBlockedPinLaw", name := "drawn", desc := "(IJJJ)[J" } : Jvm.MethodName) method_2_code (7 : Nat) (Option.some (Jvm.ClassFile.FieldType.array Jvm.ClassFile.FieldType.long))).before args0 about1 = true := code_word (m := ⟨1, 1⟩) (meth := k1m1) (c := k1c1) (by decide +kernel) rfl rfl rfl (by decide +kernel)
set_option maxRecDepth 65536 in
theorem w_c2 : (Jvm.Cond.code ({ cls := "wavegauge/simulate/Measurement", name := "<init>", desc := "([D[D[J[JDDZ)V" } : Jvm.MethodName) prog_34_method_1_code (10 : Nat) (Option.none : Option Jvm.ClassFile.FieldType)).before args0 about1 = true := code_word (m := ⟨3, 0⟩) (meth := k3m0) (c := k3c0) (by decide +kernel) rfl rfl rfl (by decide +kernel)
set_option maxRecDepth 65536 in
theorem w_c3 : (Jvm.Cond.code ({ cls := "java/lang/Record", name := "<init>", desc := "()V" } : Jvm.MethodName) jdk_30_method_1_code (1 : Nat) (Option.none : Option Jvm.ClassFile.FieldType)).before args0 about1 = true := code_word (m := ⟨2, 0⟩) (meth := k2m0) (c := k2c0) (by decide +kernel) rfl rfl rfl (by decide +kernel)
set_option maxRecDepth 65536 in
theorem w_c4 : (Jvm.Cond.code ({ cls := "java/lang/Object", name := "<init>", desc := "()V" } : Jvm.MethodName) object_method_1_code (1 : Nat) (Option.none : Option Jvm.ClassFile.FieldType)).before args0 about1 = true := code_word (m := ⟨0, 0⟩) (meth := k0m0) (c := k0c0) (by decide +kernel) rfl rfl rfl (by decide +kernel)
set_option maxRecDepth 65536 in
theorem w_c5 : (Jvm.Cond.code ({ cls := "wavegauge/simulate/Measurement", name := "totalBlocked", desc := "()J" } : Jvm.MethodName) prog_34_method_3_code (8 : Nat) (Option.some Jvm.ClassFile.FieldType.long)).before args0 about1 = true := code_word (m := ⟨3, 1⟩) (meth := k3m1) (c := k3c1) (by decide +kernel) rfl rfl rfl (by decide +kernel)
set_option maxRecDepth 65536 in
theorem w_c6 : (Jvm.Cond.code ({ cls := "wavegauge/simulate/MeasurementTotalBlockedPinLaw", name := "expected", desc := "(IJJJ)J" } : Jvm.MethodName) method_3_code (7 : Nat) (Option.some Jvm.ClassFile.FieldType.long)).before args0 about1 = true := code_word (m := ⟨1, 2⟩) (meth := k1m2) (c := k1c2) (by decide +kernel) rfl rfl rfl (by decide +kernel)
def codes1 : List Jvm.Cond := [Jvm.Cond.code x code maxLocals ret, Jvm.Cond.code ({ cls := "wavegauge/simulate/MeasurementTotalBlockedPinLaw", name := "drawn", desc := "(IJJJ)[J" } : Jvm.MethodName) method_2_code (7 : Nat) (Option.some (Jvm.ClassFile.FieldType.array Jvm.ClassFile.FieldType.long)), Jvm.Cond.code ({ cls := "wavegauge/simulate/Measurement", name := "<init>", desc := "([D[D[J[JDDZ)V" } : Jvm.MethodName) prog_34_method_1_code (10 : Nat) (Option.none : Option Jvm.ClassFile.FieldType), Jvm.Cond.code ({ cls := "java/lang/Record", name := "<init>", desc := "()V" } : Jvm.MethodName) jdk_30_method_1_code (1 : Nat) (Option.none : Option Jvm.ClassFile.FieldType), Jvm.Cond.code ({ cls := "java/lang/Object", name := "<init>", desc := "()V" } : Jvm.MethodName) object_method_1_code (1 : Nat) (Option.none : Option Jvm.ClassFile.FieldType), Jvm.Cond.code ({ cls := "wavegauge/simulate/Measurement", name := "totalBlocked", desc := "()J" } : Jvm.MethodName) prog_34_method_3_code (8 : Nat) (Option.some Jvm.ClassFile.FieldType.long), Jvm.Cond.code ({ cls := "wavegauge/simulate/MeasurementTotalBlockedPinLaw", name := "expected", desc := "(IJJJ)J" } : Jvm.MethodName) method_3_code (7 : Nat) (Option.some Jvm.ClassFile.FieldType.long)]
set_option maxRecDepth 65536 in
theorem codes_eq : words1.filter isCode = codes1 := rfl
theorem w_codes : ∀ c ∈ words1.filter isCode, c.before args0 about1 = true := by
  rw [codes_eq]
  intro c hc
  simp only [codes1, List.mem_cons, List.not_mem_nil, or_false] at hc
  rcases hc with rfl | rfl | rfl | rfl | rfl | rfl | rfl
  · exact w_c0
  · exact w_c1
  · exact w_c2
  · exact w_c3
  · exact w_c4
  · exact w_c5
  · exact w_c6
set_option maxRecDepth 65536 in
theorem w_t1 : (words1.take 24).all (fun c => isCode c || c.before args0 about1) = true := by decide +kernel
set_option maxRecDepth 65536 in
theorem w_t2 : (words1.drop 24).all (fun c => isCode c || c.before args0 about1) = true := by decide +kernel
theorem w_tables : (allAtoms (Jvm.Cond.code x code maxLocals ret :: tables_1)).before args0 about1 = true := by
  rw [allAtoms_all]
  show words1.all (fun c => c.before args0 about1) = true
  refine all_split ?_ w_codes
  rw [← List.take_append_drop 24 words1, List.all_append, w_t1, w_t2]
  rfl
set_option maxRecDepth 65536 in
theorem w_case : (Jvm.Cond.and given_1 narrow_1).before args0 about1 = true := by decide +kernel
theorem w_applies : (headSpec (Jvm.Cond.code x code maxLocals ret :: tables_1) room_1).applies x e0.platform about1 = true :=
  (Spec.applies_iff w_frames).mpr ⟨w_running, w_runnable, w_alone, w_named, w_hears, w_ripe, w_room, w_tables⟩
theorem atStart : AtStart classFile x code maxLocals ret World_1 tables_1 room_1 Calls_1 rest_1 Pre_1 launch0 p0 e0 about1 theMethod args0 below0 :=
  ⟨lists_1, trivial, launch0.admits_env _ _ _, launch0.least_env, fairChoices_fair.cas, fairChoices_fair.clock, w_frames, w_args, w_heap, w_applies, trivial, trivial, w_case⟩
end start1
theorem witness_1 : WitnessClaimed_1 := ⟨start1.p0, start1.e0, start1.about1, start1.theMethod, start1.args0, start1.below0, start1.atStart⟩
end Jvm.Pilot.@@N@@
