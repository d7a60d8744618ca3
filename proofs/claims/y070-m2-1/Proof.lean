import JvmDerived
import JvmDerived.Pilot.@@N@@Statement
import JvmDerived.Pilot.@@N@@Code
set_option linter.unusedVariables false
set_option linter.unusedSimpArgs false

namespace Jvm.Pilot.@@N@@
open Jvm Jvm.ClassFile Sem Op Lib Jvm.Free Jvm.Stand Jvm.LawKit Jvm.RoadKit Bundle Jvm.Pilot.@@N@@.Jvm.D

section OwnKit
variable {p : Program} {l : Launch} {e : Env} {R : Room} {s : State} {m : MethodId} {args : Array Value} {below : List Frame} {meth : Method} {c : Code} {T : State} {locs : List Loc} {cells slots : Nat} {G : Outcome → State → Prop} {Q : Option Value → Heap → List Loc → Prop} {C S : Nat} {Z : State} {h h' : Heap}
/-- from the state t the invocation comes to an end of which G holds -/
def own_Fin (p : Program) (e : Env) (below : List Frame) (G : Outcome → State → Prop) (t : State) : Prop := ∃ s₂ o, Steps p.tables e below t s₂ ∧ s₂.status = .running ∧ Ended s₂ below o ∧ G o s₂
def own_G (s : State) (Q : Option Value → Heap → List Loc → Prop) (C S : Nat) (o : Outcome) (U' : State) : Prop := ∃ v L, o = .returned v ∧ Q v U'.heap L ∧ FrameEnd s o U' L C S
theorem own_to {t u : State} (h : ∀ z, Steps p.tables e below u z → Steps p.tables e below t z) (k : own_Fin p e below G u) : own_Fin p e below G t := by
  obtain ⟨a, b, c, d⟩ := k; exact ⟨a, b, h _ c, d⟩
theorem own_via {t u : State} (h : Steps p.tables e below t u) (k : own_Fin p e below G u) : own_Fin p e below G t := own_to (fun _ kz => h.trans kz) k
theorem own_retW (X : Stand p l e R s m args below meth c T locs cells slots) (hx : p.tables.exec = Jvm.exec) (hlk : meth.locks = false) (hG : G = own_G s Q C S) {f : JFrame} {w : Option Value} (hv : meth.sig.returnType = none → w = none)
    (st : ∀ fs, (∀ (f : JFrame) (acts : List Action), f.method = m → f.locked = none → f.entered = [] → (doReturn e (T.setTop f) acts w).1 = T.setFrames fs) → Steps p.tables e below (T.setTop f) (T.setFrames fs))
    (hc : cells ≤ C) (hs : slots ≤ S) (hQ : Q w T.heap locs) : own_Fin p e below G (T.setTop f) := by
  subst hG
  obtain ⟨fs, hr, hrun, hended, hW, hsame⟩ := X.leave (v := w) hv hlk
  exact ⟨_, _, st fs hr, hrun, hended, _, _, rfl, hQ, ⟨_, rfl⟩, hW, hsame.mono hc hs⟩
theorem own_retI (X : Stand p l e R s m args below meth c T locs cells slots) (hx : p.tables.exec = Jvm.exec) (hlk : meth.locks = false) (hG : G = own_G s Q C S) {pc : Nat} {Ls : Array Slot} {z : Int32} {rest : List Value} (hret : meth.sig.returnType = some .int) (hd : decode c.code pc = .ok (.ireturn, 1))
    (hc : cells ≤ C) (hs : slots ≤ S) (hQ : Q (some (.int z)) T.heap locs) : own_Fin p e below G (T.setTop (mkF m pc Ls (.int z :: rest))) :=
  own_retW X hx hlk hG (w := some (.int z)) (fun h => by rw [hret] at h; cases h) (fun fs hr => retOut X hx hret rfl (Or.inl ⟨rfl, Or.inl rfl, z, rfl⟩) hd hr) hc hs hQ
theorem own_retJ (X : Stand p l e R s m args below meth c T locs cells slots) (hx : p.tables.exec = Jvm.exec) (hlk : meth.locks = false) (hG : G = own_G s Q C S) {pc : Nat} {Ls : Array Slot} {z : Int64} {rest : List Value} (hret : meth.sig.returnType = some .long) (hd : decode c.code pc = .ok (.lreturn, 1))
    (hc : cells ≤ C) (hs : slots ≤ S) (hQ : Q (some (.long z)) T.heap locs) : own_Fin p e below G (T.setTop (mkF m pc Ls (.long z :: rest))) :=
  own_retW X hx hlk hG (w := some (.long z)) (fun h => by rw [hret] at h; cases h) (fun fs hr => retOut X hx hret rfl (Or.inr (Or.inl ⟨rfl, rfl, z, rfl⟩)) hd hr) hc hs hQ
theorem own_retA (X : Stand p l e R s m args below meth c T locs cells slots) (hx : p.tables.exec = Jvm.exec) (hlk : meth.locks = false) (hG : G = own_G s Q C S) {pc : Nat} {Ls : Array Slot} {w : Value} {rest : List Value} {t : FieldType} (hret : meth.sig.returnType = some t) (ht : t.isReference = true) (hw : w.isRef = true) (hd : decode c.code pc = .ok (.areturn, 1))
    (hc : cells ≤ C) (hs : slots ≤ S) (hQ : Q (some w) T.heap locs) : own_Fin p e below G (T.setTop (mkF m pc Ls (w :: rest))) :=
  own_retW X hx hlk hG (w := some w) (fun h => by rw [hret] at h; cases h) (fun fs hr => retOut X hx hret (by rcases ref_cases hw with rfl | ⟨a, rfl⟩ <;> cases t <;> first | rfl | (simp [FieldType.isReference] at ht)) (Or.inr (Or.inr (Or.inr (Or.inr ⟨rfl, ht, hw⟩)))) hd hr) hc hs hQ
theorem own_retN (X : Stand p l e R s m args below meth c T locs cells slots) (hx : p.tables.exec = Jvm.exec) (hlk : meth.locks = false) (hG : G = own_G s Q C S) {pc : Nat} {Ls : Array Slot} {z : Int32} {rest : List Value} {t : FieldType} (hret : meth.sig.returnType = some t) (ht : t = .boolean ∨ t = .byte ∨ t = .char ∨ t = .short) (hd : decode c.code pc = .ok (.ireturn, 1))
    (hc : cells ≤ C) (hs : slots ≤ S) (hQ : Q (some (.int (nar t z))) T.heap locs) : own_Fin p e below G (T.setTop (mkF m pc Ls (.int z :: rest))) :=
  own_retW X hx hlk hG (w := some (.int (nar t z))) (fun h => by rw [hret] at h; cases h) (fun fs hr => retN X hx hret ht hd hr) hc hs hQ
theorem own_retV (X : Stand p l e R s m args below meth c T locs cells slots) (hx : p.tables.exec = Jvm.exec) (hlk : meth.locks = false) (hG : G = own_G s Q C S) {pc : Nat} {Ls : Array Slot} (hret : meth.sig.returnType = none) (hd : decode c.code pc = .ok (.return_, 1))
    (hc : cells ≤ C) (hs : slots ≤ S) (hQ : Q none T.heap locs) : own_Fin p e below G (T.setTop (mkF m pc Ls [])) :=
  own_retW X hx hlk hG (w := none) (fun _ => rfl) (fun fs hr => X.returnOut hx hret hd hr) hc hs hQ
theorem own_lrem {g : JFrame} {target : State} (X : Stand p l e R s m args below meth c T locs cells slots) (hx : p.tables.exec = Jvm.exec) (hg : g.method = m) {x y : Int64} {rest : List Value} (hd : decode c.code g.pc = .ok (.lrem, 1)) (hs : g.stack = .long y :: .long x :: rest) (hy : y ≠ 0)
    (hr : Steps p.tables e below (T.setTop { g with pc := g.pc + 1, stack := .long (x % y) :: rest }) target) : Steps p.tables e below (T.setTop g) target := by
  have q : x - x / y * y = x % y := lrem_mod x y
  exact XS.lrem X.here hx hg hd hs hy (by rw [q]; exact hr)
def own_Pair (a b : Slot) : Prop := (a = .unset ∧ b = .unset) ∨ ∃ x, a = .val (.long x) ∧ b = .second
/-- the array at a has n places; place i holds mk (f i) -/
def own_AV {α : Type} (mk : α → Value) (Z : State) (h : Heap) (a : Addr) (ty : FieldType) (n : Nat) (f : Nat → α) : Prop := n < 2 ^ 31 ∧ ∃ c : Cell, Arr Z h a c ty ∧ c.slots.size = n ∧ ∀ i, i < n → c.slots[i]? = some (mk (f i))
def own_upd {α : Type} (f : Nat → α) (k : Nat) (v : α) : Nat → α := fun i => if i = k then v else f i
section
variable {α : Type} {mk : α → Value} {a b : Addr} {ty : FieldType} {n : Nat} {f f' : Nat → α} {ws : List Addr} {sl : Nat} {v : Value}
theorem own_AV.lt (F : own_AV mk Z h a ty n f) : a < h.size := by obtain ⟨_, c, A, -⟩ := F; exact A.lt
theorem own_AV.ext (F : own_AV mk Z h a ty n f) (E : Ext h h') : own_AV mk Z h' a ty n f := by obtain ⟨q, c, A, r⟩ := F; exact ⟨q, c, A.ext E, r⟩
theorem own_AV.other (F : own_AV mk Z h b ty n f) (W : Wr h h' a sl v) (q : b ≠ a) : own_AV mk Z h' b ty n f := by obtain ⟨q', c, A, r⟩ := F; exact ⟨q', c, A.other W q, r⟩
theorem own_AV.keep (F : own_AV mk Z h a ty n f) (K : Keep h h' ws) (q : a ∉ ws) : own_AV mk Z h' a ty n f := by obtain ⟨q', c, A, r⟩ := F; exact ⟨q', c, ⟨K.2.1 a c A.1 q, A.2⟩, r⟩
theorem own_AV.congr (F : own_AV mk Z h a ty n f) (q : ∀ i, i < n → f i = f' i) : own_AV mk Z h a ty n f' := by obtain ⟨q', c, A, r, s⟩ := F; exact ⟨q', c, A, r, fun i hi => by rw [s i hi, q i hi]⟩
theorem own_AV.new {k : ClassId} {z : Int32} (A : Arr Z h a (newA k ty z) ty) (q : ¬ z < 0) (hn : z.toNatClampNeg = n) (hf : ∀ i : Nat, defaultValue ty = mk (f i)) : own_AV mk Z h a ty n f := by
  refine ⟨hn ▸ (back32 q).2, _, A, (sz_new _ _ _).trans hn, fun i hi => ?_⟩
  rw [← hf i]; simp [newA, hn, hi]
theorem own_updr {P : α → Prop} {k : Nat} {w : α} (hv : P w) (hf : ∀ i, P (f i)) : ∀ i, P (own_upd f k w i) := fun i => by
  unfold own_upd; split
  · exact hv
  · exact hf i
theorem own_in {c : Cell} {j : Int32} {k : Nat} (S : c.slots.size = n) (hj : ¬ j < 0) (hk : j.toNatClampNeg = k) (hlt : k < n) : ¬ (j < 0 ∨ c.slots.size ≤ j.toNatClampNeg) := fun q => q.elim hj fun r => by omega
theorem own_AV.set {c : Cell} {j : Int32} {k : Nat} {w : α} (nn : n < 2 ^ 31) (A : Arr Z h a c ty) (S : c.slots.size = n) (H : ∀ i, i < n → c.slots[i]? = some (mk (f i))) (W : Wr h h' a j.toNatClampNeg (mk w)) (hk : j.toNatClampNeg = k) : own_AV mk Z h' a ty n (own_upd f k w) := by
  subst hk
  refine ⟨nn, _, A.same W, by rw [sz_set]; exact S, fun i hi => ?_⟩
  show (c.setSlot j.toNatClampNeg (mk w)).slots[i]? = some (mk (if i = j.toNatClampNeg then w else f i))
  simp only [Cell.setSlot]
  by_cases q : i = j.toNatClampNeg
  · subst q; rw [if_pos rfl]; simp [S, hi]
  · rw [if_neg q, Array.getElem?_setIfInBounds_ne (fun r => q r.symm)]; exact H i hi
theorem own_iaload (X : Stand p l e R s m args below meth c T locs cells slots) (hx : p.tables.exec = Jvm.exec) (hZ : Z.Warmed39 s.vm) (eT : T.heap = h) {f : Nat → Int32} (F : own_AV Value.int Z h a .int n f) {j : Int32} {k : Nat} (hj : ¬ j < 0) (hk : j.toNatClampNeg = k) (hlt : k < n)
    {g : JFrame} (hg : g.method = m) {rest : List Value} (hs : g.stack = .int j :: .ref a :: rest) (hd : decode c.code g.pc = .ok (.iaload, 1)) {target : State} (hr : Steps p.tables e below (T.setTop { g with pc := g.pc + 1, stack := .int (f k) :: rest }) target) : Steps p.tables e below (T.setTop g) target := by
  obtain ⟨_, cl, A, S, H⟩ := F
  exact X.iaload hx (j := j) (v := .int (f k)) (by rw [eT]; exact A.1) (State.isArrayOf_alike hZ.alike A.2.1) A.2.2 (own_in S hj hk hlt) (by rw [hk]; exact H k hlt) hg hs hd _ hr
theorem own_laload (X : Stand p l e R s m args below meth c T locs cells slots) (hx : p.tables.exec = Jvm.exec) (hZ : Z.Warmed39 s.vm) (eT : T.heap = h) {f : Nat → Int64} (F : own_AV Value.long Z h a .long n f) {j : Int32} {k : Nat} (hj : ¬ j < 0) (hk : j.toNatClampNeg = k) (hlt : k < n)
    {g : JFrame} (hg : g.method = m) {rest : List Value} (hs : g.stack = .int j :: .ref a :: rest) (hd : decode c.code g.pc = .ok (.laload, 1)) {target : State} (hr : Steps p.tables e below (T.setTop { g with pc := g.pc + 1, stack := .long (f k) :: rest }) target) : Steps p.tables e below (T.setTop g) target := by
  obtain ⟨_, cl, A, S, H⟩ := F
  exact X.laload hx (j := j) (v := .long (f k)) (by rw [eT]; exact A.1) (State.isArrayOf_alike hZ.alike A.2.1) A.2.2 (own_in S hj hk hlt) (by rw [hk]; exact H k hlt) hg hs hd _ hr
theorem own_baload (X : Stand p l e R s m args below meth c T locs cells slots) (hx : p.tables.exec = Jvm.exec) (hZ : Z.Warmed39 s.vm) (eT : T.heap = h) {f : Nat → Int32} (F : own_AV Value.int Z h a .byte n f) {j : Int32} {k : Nat} (hj : ¬ j < 0) (hk : j.toNatClampNeg = k) (hlt : k < n)
    {g : JFrame} (hg : g.method = m) {rest : List Value} (hs : g.stack = .int j :: .ref a :: rest) (hd : decode c.code g.pc = .ok (.baload, 1)) {target : State} (hr : Steps p.tables e below (T.setTop { g with pc := g.pc + 1, stack := .int (f k) :: rest }) target) : Steps p.tables e below (T.setTop g) target := by
  obtain ⟨_, cl, A, S, H⟩ := F
  exact X.baloadBytes hx (j := j) (v := .int (f k)) (by rw [eT]; exact A.1) (State.isArrayOf_alike hZ.alike A.2.1) A.2.2 (own_in S hj hk hlt) (by rw [hk]; exact H k hlt) hg hs hd _ hr
theorem own_cloneI (X : Stand p l e R s m args below meth c T locs cells slots) (hx : p.tables.exec = Jvm.exec) (hZ : Z.Warmed39 s.vm) {a0 : Array Value} {own ad : String} {index : Nat} (hown : s.vm.findClass own = some m.cls)
    (w1 : (Cond.methodLink own index ⟨ad, "clone", "()Ljava/lang/Object;"⟩).before a0 Z = true) (w2 : (Cond.sameMethod ad "java/lang/Object" "clone" "()Ljava/lang/Object;").before a0 Z = true) (w3 : (Cond.native ⟨"java/lang/Object", "clone", "()Ljava/lang/Object;"⟩).before a0 Z = true)
    (w4 : (Cond.instanceMethod ⟨"java/lang/Object", "clone", "()Ljava/lang/Object;"⟩).before a0 Z = true) (w5 : (Cond.selects ad ⟨ad, "clone", "()Ljava/lang/Object;"⟩ ⟨"java/lang/Object", "clone", "()Ljava/lang/Object;"⟩).before a0 Z = true) (w6 : (Cond.castable ad "java/lang/Cloneable").before a0 Z = true)
    (eT : T.heap = h) {f : Nat → Int32} (F : own_AV Value.int Z h a .int n f) (E : Exa Z h a ad) {g : JFrame} (hg : g.method = m) (hsize : g.locals.size = c.maxLocals) {rest : List Value} (hs : g.stack = .ref a :: rest) (hd : decode c.code g.pc = .ok (.invokevirtual index, 3))
    (hf : 1 ≤ R.frames) {W cap : Nat} (hW : 2 * g.monitorRoom + (rest.map fun v => v.category).sum ≤ W) (hl : W + 14 ≤ R.locals) (hcap : n ≤ cap) (hc : cells + 1 ≤ R.cells) (hsl : slots + cap ≤ R.slots) :
    ∃ T' h', Stand p l e R s m args below meth c T' locs (cells + 1) (slots + cap) ∧ T'.heap = h' ∧ Ext h h' ∧ own_AV Value.int Z h' h.size .int n f ∧ Exa Z h' h.size ad ∧
      ∀ target, Steps p.tables e below (T'.setTop { g with pc := g.pc + 3, stack := .ref h.size :: rest }) target → Steps p.tables e below (T.setTop g) target := by
  obtain ⟨nn, cl, A, S, H⟩ := F
  have FC : FitC Z cl := fitC_of A fun i hi v hv => by rw [H i (S ▸ hi)] at hv; cases hv; rfl
  obtain ⟨T', h', X', e', ex, A', E', st⟩ := cloneA X hx hZ hown w1 w2 w3 w4 w5 w6 eT A E FC hg hsize hs hd hf hW hl (by rw [S]; exact hcap) hc hsl
  exact ⟨T', h', X', e', ex, ⟨nn, cloneOf cl, A', S, H⟩, E', st⟩
theorem own_alen (X : Stand p l e R s m args below meth c T locs cells slots) (hx : p.tables.exec = Jvm.exec) (hZ : Z.Warmed39 s.vm) (eT : T.heap = h) (F : own_AV mk Z h a ty n f) {z : Int32} (hz : n.toInt32 = z)
    {g : JFrame} (hg : g.method = m) {rest : List Value} (hs : g.stack = .ref a :: rest) (hd : decode c.code g.pc = .ok (.arraylength, 1)) {target : State} (hr : Steps p.tables e below (T.setTop { g with pc := g.pc + 1, stack := .int z :: rest }) target) : Steps p.tables e below (T.setTop g) target := by
  obtain ⟨_, cl, A, S, H⟩ := F
  exact X.arraylength hx (by rw [eT]; exact A.1) (State.isArrayOf_alike hZ.alike A.2.1) hg hs hd _ (by rw [S, hz]; exact hr)
end
end OwnKit
section OwnRef
variable {p : Program} {l : Launch} {e : Env} {R : Room} {s : State} {m : MethodId} {args : Array Value} {below : List Frame} {meth : Method} {c : Code} {T : State} {locs : List Loc} {cells slots : Nat} {Z : State} {h h' : Heap} {a b : Addr} {n : Nat} {f : Nat → Value} {K0 : String} {ws : List Addr} {sl : Nat} {v : Value}
/-- an array of references, of component class K0 itself -/
def own_RV (Z : State) (h : Heap) (a : Addr) (K0 : String) (n : Nat) (f : Nat → Value) : Prop := n < 2 ^ 31 ∧ ∃ c : Cell, Arr Z h a c (.object K0) ∧ Ovr Z c.cls K0 ∧ c.slots.size = n ∧ ∀ i, i < n → c.slots[i]? = some (f i)
theorem own_RV.av (F : own_RV Z h a K0 n f) : own_AV id Z h a (.object K0) n f := by obtain ⟨q, c, A, -, r⟩ := F; exact ⟨q, c, A, r⟩
theorem own_RV.lt (F : own_RV Z h a K0 n f) : a < h.size := by obtain ⟨_, c, A, -⟩ := F; exact A.lt
theorem own_RV.ext (F : own_RV Z h a K0 n f) (E : Ext h h') : own_RV Z h' a K0 n f := by obtain ⟨q, c, A, r⟩ := F; exact ⟨q, c, A.ext E, r⟩
theorem own_RV.other (F : own_RV Z h b K0 n f) (W : Wr h h' a sl v) (q : b ≠ a) : own_RV Z h' b K0 n f := by obtain ⟨q', c, A, r⟩ := F; exact ⟨q', c, A.other W q, r⟩
theorem own_RV.keep (F : own_RV Z h a K0 n f) (K : Keep h h' ws) (q : a ∉ ws) : own_RV Z h' a K0 n f := by obtain ⟨q', c, A, r⟩ := F; exact ⟨q', c, ⟨K.2.1 a c A.1 q, A.2⟩, r⟩
theorem own_RV.new {k : ClassId} {z : Int32} (A : Arr Z h a (newA k (.object K0) z) (.object K0)) (O : Ovr Z k K0) (q : ¬ z < 0) (hn : z.toNatClampNeg = n) : own_RV Z h a K0 n (fun _ => .null) := by
  refine ⟨hn ▸ (back32 q).2, _, A, O, (sz_new _ _ _).trans hn, fun i hi => ?_⟩
  simp [newA, hn, hi, defaultValue]
theorem own_RV.set {c : Cell} {j : Int32} {k : Nat} {w : Value} (nn : n < 2 ^ 31) (A : Arr Z h a c (.object K0)) (O : Ovr Z c.cls K0) (S : c.slots.size = n) (H : ∀ i, i < n → c.slots[i]? = some (f i)) (W : Wr h h' a j.toNatClampNeg w) (hk : j.toNatClampNeg = k) : own_RV Z h' a K0 n (own_upd f k w) := by
  subst hk
  refine ⟨nn, _, A.same W, O, by rw [sz_set]; exact S, fun i hi => ?_⟩
  show (c.setSlot j.toNatClampNeg w).slots[i]? = some (if i = j.toNatClampNeg then w else f i)
  simp only [Cell.setSlot]
  by_cases q : i = j.toNatClampNeg
  · subst q; rw [if_pos rfl]; simp [S, hi]
  · rw [if_neg q, Array.getElem?_setIfInBounds_ne (fun r => q r.symm)]; exact H i hi
theorem own_aaload (X : Stand p l e R s m args below meth c T locs cells slots) (hx : p.tables.exec = Jvm.exec) (hZ : Z.Warmed39 s.vm) (eT : T.heap = h) (F : own_AV id Z h a (.object K0) n f) {j : Int32} {k : Nat} (hj : ¬ j < 0) (hk : j.toNatClampNeg = k) (hlt : k < n) (hv : f k = v)
    {g : JFrame} (hg : g.method = m) {rest : List Value} (hs : g.stack = .int j :: .ref a :: rest) (hd : decode c.code g.pc = .ok (.aaload, 1)) {target : State} (hr : Steps p.tables e below (T.setTop { g with pc := g.pc + 1, stack := v :: rest }) target) : Steps p.tables e below (T.setTop g) target := by
  obtain ⟨_, cl, A, S, H⟩ := F
  subst hv
  exact X.aaload hx (j := j) (v := f k) (by rw [eT]; exact A.1) (State.isArrayOf_alike hZ.alike A.2.1) rfl A.2.2 (own_in S hj hk hlt) (by rw [hk]; exact H k hlt) hg hs hd _ hr
theorem own_mono {x : MethodName} {S : Spec} {P : Array Value → State → Prop} {K : Program → Env → List Frame → State → Array Value → Prop} {Q Q' : Array Value → State → Outcome → State → Prop} (hM : MetFree l x S P K Q) (w : ∀ a U o U', P a U → Q a U o U' → Q' a U o U') : MetFree l x S P K Q' := by
  intro p e ha hc hk s m args below hf happ hP hK
  obtain ⟨n, o, h1, h2, h3, hq⟩ := hM p e ha hc hk s m args below hf happ hP hK
  exact ⟨n, o, h1, h2, h3, w _ _ _ _ hP hq⟩
theorem own_AVarv {α : Type} {mk : α → Value} {b : Addr} {kc : ClassId} {ty : FieldType} {z : Int32} {vs : List Value} {d : Value} {n : Nat} {f : Nat → α} (A : Arv Z h b kc ty z vs d) (hn : z.toNatClampNeg = n) (hlt : n < 2 ^ 31) (hf : ∀ i, i < n → vs.getD i d = mk (f i)) : own_AV mk Z h b ty n f := by
  obtain ⟨cl, A, -, S, -, H, -⟩ := A
  refine ⟨hlt, cl, A, S.trans hn, fun i hi => ?_⟩
  rw [H i (by rw [S, hn]; exact hi), hf i hi]
/-- an arraycopy of no element -/
theorem own_cp0 (X : Stand p l e R s m args below meth c T locs cells slots) (hx : p.tables.exec = Jvm.exec) (hZ : Z.Warmed39 s.vm) {a0 : Array Value} {own : String} {index : Nat} (hown : s.vm.findClass own = some m.cls)
    (w1 : (Cond.methodLink own index Jvm.Stand.acN).before a0 Z = true) (w2 : (Cond.native Jvm.Stand.acN).before a0 Z = true) (w3 : (Cond.static Jvm.Stand.acN).before a0 Z = true) (w4 : (Cond.initialized "java/lang/System").before a0 Z = true) (eT : T.heap = h)
    {fa fb : Nat → Int64} (A : own_AV Value.long Z h a .long 0 fa) (B : own_AV Value.long Z h b .long 16 fb) {n0 : Nat} (N : Fr n0 locs) (ge : n0 ≤ b)
    {g : JFrame} (hg : g.method = m) (hsize : g.locals.size = c.maxLocals) {rest : List Value} (hs : g.stack = .int 0 :: .int 0 :: .ref b :: .int 0 :: .ref a :: rest) (hd : decode c.code g.pc = .ok (.invokestatic index, 3))
    (hf : 1 ≤ R.frames) {W : Nat} (hW : 2 * g.monitorRoom + (rest.map fun v => v.category).sum ≤ W) (hlo : W + (nativeFrameWords "java/lang/System" "arraycopy" 5 + 11) ≤ R.locals) :
    ∃ T' h' L, Stand p l e R s m args below meth c T' L cells slots ∧ T'.heap = h' ∧ Fr n0 L ∧ Keep h h' [b] ∧ own_AV Value.long Z h' b .long 16 fb ∧
      ∀ target, Steps p.tables e below (T'.setTop { g with pc := g.pc + 3, stack := rest }) target → Steps p.tables e below (T.setTop g) target := by
  obtain ⟨_, ca, A, Sa, Ha⟩ := A
  obtain ⟨nn, cb, B, Sb, Hb⟩ := B
  have A' : Arv Z h a ca.cls .long (0 : Int32) [] (.long 0) := ⟨ca, A, rfl, by rw [Sa]; rfl, by decide, fun j hj => by rw [Sa] at hj; omega, fun j hj => by rw [Sa] at hj; omega⟩
  have gd : ∀ i, i < 16 → ((List.range 16).map fun i => Value.long (fb i)).getD i (.long 0) = .long (fb i) := fun i hi => by simp [List.getD, hi]
  have B' : Arv Z h b cb.cls .long (16 : Int32) ((List.range 16).map fun i => Value.long (fb i)) (.long 0) := ⟨cb, B, rfl, by rw [Sb]; rfl, by decide, fun j hj => by rw [Sb] at hj; rw [Hb j hj, gd j hj], fun j hj => by rw [Sb] at hj; rw [gd j hj]; rfl⟩
  obtain ⟨T', h', L, X', e', N', K, B2, st⟩ := cpA X hx hZ hown w1 w2 w3 w4 eT A' B' (us := []) (sp := 0) (dp := 0) (nn := 0) (Or.inl ⟨rfl, rfl⟩) (by decide) (by decide) (by decide) (by decide) (by decide) rfl (by simp) N ge hg hsize hs hd hf hW hlo
  refine ⟨T', h', L, X', e', N', K, own_AVarv B2 rfl (by decide) fun i hi => ?_, st⟩
  have := gd i hi
  simpa using this
theorem own_AV.cell {α : Type} {mk : α → Value} {ty : FieldType} {f : Nat → α} (F : own_AV mk Z h a ty n f) : ∃ c : Cell, h[a]? = some c ∧ ∀ q, c.vm ≠ .statics q := by
  obtain ⟨_, c, A, -⟩ := F
  refine ⟨c, A.1, fun q hq => ?_⟩
  have := A.plain
  rw [hq] at this; cases this
theorem own_RV.cell (F : own_RV Z h a K0 n f) : ∃ c : Cell, h[a]? = some c ∧ ∀ q, c.vm ≠ .statics q := own_AV.cell F.av
theorem own_staKeep {C0 n d : String} {v : Value} {ws : List Addr} (F : Sta Z h C0 n d v) (K : Keep h h' ws) (q : ∀ x ∈ ws, ∃ c : Cell, h[x]? = some c ∧ ∀ z, c.vm ≠ .statics z) : Sta Z h' C0 n d v := by
  obtain ⟨cf, i, k, f, st, cell, h1, h2, h3, h4, h5, h6, h7⟩ := F
  refine ⟨cf, i, k, f, st, cell, h1, h2, h3, h4, K.2.1 _ _ h5 fun hm => ?_, h6, h7⟩
  obtain ⟨c', q1, q2⟩ := q _ hm
  cases h5.symm.trans q1
  cases hv : cell.vm <;> simp_all [VmData.isStatics]
theorem own_selPriv {sargs : Array Value} {y y' : MethodName} (hcls : y'.cls = y.cls) (hsel : (Cond.selects y'.cls y' y').before sargs s = true) (hpriv : s.PrivateAt y) (hinst : (Cond.instanceMethod y).before sargs s = true) (hy : y.cls ≠ "java/lang/invoke/MethodHandle" ∧ y.cls ≠ "java/lang/invoke/VarHandle") : (Cond.selects y.cls y y).before sargs s = true := by
  obtain ⟨c2, r2, m2, q1, q2, q3, q4, kP, hkP, hkPi⟩ := Cond.selects_spec hsel
  exact selects_self_of_private (by rw [← hcls]; exact findClass_of_methodNamed q3) hkP hkPi hpriv hinst hy
end OwnRef
section OwnStp
variable {p : Program} {l : Launch} {e : Env} {R : Room} {s : State} {m : MethodId} {args : Array Value} {below : List Frame} {meth : Method} {c : Code} {T : State} {locs : List Loc} {cells slots : Nat} {G : Outcome → State → Prop} {pc : Nat} {L : Array Slot} {S : List Value}
theorem own_iloadN (X : Stand p l e R s m args below meth c T locs cells slots) (hx : p.tables.exec = Jvm.exec) {k : Fin 4} {v : Int32} (hd : decode c.code pc = .ok (.iload_n k, 1)) (hl : L[k.val]? = some (.val (.int v))) (q : own_Fin p e below G (T.setTop (mkF m (pc + 1) L (.int v :: S)))) : own_Fin p e below G (T.setTop (mkF m pc L S)) := own_to (fun _ kz => XS.iloadN X.here hx rfl hd hl kz) q
theorem own_iload (X : Stand p l e R s m args below meth c T locs cells slots) (hx : p.tables.exec = Jvm.exec) {k : Nat} {v : Int32} (hd : decode c.code pc = .ok (.iload k, 2)) (hl : L[k]? = some (.val (.int v))) (q : own_Fin p e below G (T.setTop (mkF m (pc + 2) L (.int v :: S)))) : own_Fin p e below G (T.setTop (mkF m pc L S)) := own_to (fun _ kz => XS.iload X.here hx rfl hd hl kz) q
theorem own_lloadN (X : Stand p l e R s m args below meth c T locs cells slots) (hx : p.tables.exec = Jvm.exec) {k : Fin 4} {v : Int64} (hd : decode c.code pc = .ok (.lload_n k, 1)) (hl : L[k.val]? = some (.val (.long v))) (q : own_Fin p e below G (T.setTop (mkF m (pc + 1) L (.long v :: S)))) : own_Fin p e below G (T.setTop (mkF m pc L S)) := own_to (fun _ kz => XS.lloadN X.here hx rfl hd hl kz) q
theorem own_lload (X : Stand p l e R s m args below meth c T locs cells slots) (hx : p.tables.exec = Jvm.exec) {k : Nat} {v : Int64} (hd : decode c.code pc = .ok (.lload k, 2)) (hl : L[k]? = some (.val (.long v))) (q : own_Fin p e below G (T.setTop (mkF m (pc + 2) L (.long v :: S)))) : own_Fin p e below G (T.setTop (mkF m pc L S)) := own_to (fun _ kz => XS.lload X.here hx rfl hd hl kz) q
theorem own_aloadN (X : Stand p l e R s m args below meth c T locs cells slots) (hx : p.tables.exec = Jvm.exec) {k : Fin 4} {v : Value} (hd : decode c.code pc = .ok (.aload_n k, 1)) (hl : L[k.val]? = some (.val v)) (hv : v.isRef = true) (q : own_Fin p e below G (T.setTop (mkF m (pc + 1) L (v :: S)))) : own_Fin p e below G (T.setTop (mkF m pc L S)) := own_to (fun _ kz => XS.aloadN X.here hx rfl hd hl hv kz) q
theorem own_aload (X : Stand p l e R s m args below meth c T locs cells slots) (hx : p.tables.exec = Jvm.exec) {k : Nat} {v : Value} (hd : decode c.code pc = .ok (.aload k, 2)) (hl : L[k]? = some (.val v)) (hv : v.isRef = true) (q : own_Fin p e below G (T.setTop (mkF m (pc + 2) L (v :: S)))) : own_Fin p e below G (T.setTop (mkF m pc L S)) := own_to (fun _ kz => XS.aload X.here hx rfl hd hl hv kz) q
theorem own_iconst (X : Stand p l e R s m args below meth c T locs cells slots) (hx : p.tables.exec = Jvm.exec) {i : Int} (z : Int32) (hd : decode c.code pc = .ok (.iconst i, 1)) (hz : Int32.ofInt i = z) (q : own_Fin p e below G (T.setTop (mkF m (pc + 1) L (.int z :: S)))) : own_Fin p e below G (T.setTop (mkF m pc L S)) := by subst hz; exact own_to (fun _ kz => XS.iconst X.here hx rfl hd kz) q
theorem own_dup (X : Stand p l e R s m args below meth c T locs cells slots) (hx : p.tables.exec = Jvm.exec) {v : Value} (hd : decode c.code pc = .ok (.dup, 1)) (hv : v.category = 1) (q : own_Fin p e below G (T.setTop (mkF m (pc + 1) L (v :: v :: S)))) : own_Fin p e below G (T.setTop (mkF m pc L (v :: S))) := own_to (fun _ kz => XS.dup X.here hx rfl hd rfl hv kz) q
end OwnStp
def own_sum (f : Nat → Int64) : Nat → Int64
  | 0 => 0
  | k + 1 => own_sum f k + f k
theorem own_z32 : (0 : Int32).toInt = 0 := by decide
theorem own_nneg {i : Int32} (h : 0 ≤ i.toInt) : ¬ i < 0 := by rw [Int32.lt_iff_toInt_lt, own_z32]; omega
theorem own_natc {i : Int32} (h : 0 ≤ i.toInt) : (i.toNatClampNeg : Int) = i.toInt := (nat_of (own_nneg h)).symm
theorem own_ofNat {n : Nat} (h : n < 2 ^ 31) : (Int32.ofNat n).toInt = n := Int32.toInt_ofNat_of_lt h
theorem own_inc {i : Int32} {n : Nat} (hn : n < 2 ^ 31) (h : 0 ≤ i.toInt) (h2 : i.toInt < n) : (i + (1 : Int32)).toInt = i.toInt + 1 := by
  have e := c_iadd i 1; have r := rng32 (i + 1); have o : (1 : Int32).toInt = 1 := by decide
  omega
/-- a turn more: i + 1, the place i -/
theorem own_up {i : Int32} {n : Nat} (hn : n < 2 ^ 31) (hi : 0 ≤ i.toInt ∧ i.toInt ≤ n) (hc : i < Int32.ofNat n) :
    (0 ≤ (i + (1 : Int32)).toInt ∧ (i + (1 : Int32)).toInt ≤ n) ∧ (¬ i < 0 ∧ i.toNatClampNeg < n) ∧ (i + (1 : Int32)).toNatClampNeg = i.toNatClampNeg + 1 := by
  rw [Int32.lt_iff_toInt_lt, own_ofNat hn] at hc
  have e := own_inc hn hi.1 hc
  have a := own_natc hi.1
  have b := own_natc (i := i + 1) (by omega)
  exact ⟨by omega, ⟨own_nneg hi.1, by omega⟩, by omega⟩
theorem own_dec {i : Int32} {n k : Nat} (hn : n < 2 ^ 31) (hi : 0 ≤ i.toInt ∧ i.toInt ≤ n) (hc : i < Int32.ofNat n) (hm : n - i.toNatClampNeg = k) : n - (i + (1 : Int32)).toNatClampNeg < k := by
  have h := own_up hn hi hc
  omega
theorem own_last {i : Int32} {n : Nat} (hn : n < 2 ^ 31) (hi : 0 ≤ i.toInt ∧ i.toInt ≤ n) (hc : ¬ i < Int32.ofNat n) : i.toNatClampNeg = n := by
  rw [Int32.lt_iff_toInt_lt, own_ofNat hn] at hc
  have a := own_natc hi.1
  omega

abbrev own_cE : String := "com/example/resync/resync/io/EntryBatch"
abbrev own_cR : String := "com/example/resync/resync/model/LogRecord"
abbrev own_cD : String := "com/example/resync/resync/model/DamagedSpan"
abbrev own_cL : String := "java/util/ArrayList"
abbrev own_cW : String := "com/example/resync/resync/io/EntryBatchSkipRecordsPinLaw"
abbrev own_cA : String := "[Ljava/lang/Object;"
theorem own_w {Z : State} {a0 : Array Value} {d : Jvm.Cond} (hw : ∀ d ∈ tables_1, d.before a0 Z = true) (i : Nat) (h : tables_1[i]? = some d) : d.before a0 Z = true := hw d (List.mem_of_getElem? h)
abbrev own_y1 : MethodName := ⟨"java/lang/Math", "max", "(JJ)J"⟩
abbrev own_y2 : MethodName := ⟨own_cR, "<init>", "(JJ[B)V"⟩
abbrev own_y3 : MethodName := ⟨"java/lang/Record", "<init>", "()V"⟩
abbrev own_y4 : MethodName := ⟨"java/lang/Object", "<init>", "()V"⟩
abbrev own_y5 : MethodName := ⟨own_cE, "<init>", "(I)V"⟩
abbrev own_y6 : MethodName := ⟨own_cL, "<init>", "()V"⟩
abbrev own_y7 : MethodName := ⟨"java/util/AbstractList", "<init>", "()V"⟩
abbrev own_y8 : MethodName := ⟨"java/util/AbstractCollection", "<init>", "()V"⟩
abbrev own_y9 : MethodName := ⟨"java/lang/Math", "min", "(II)I"⟩
abbrev own_y10 : MethodName := ⟨own_cW, "add", "(Lcom/example/resync/resync/io/EntryBatch;IILcom/example/resync/resync/model/LogRecord;JJ)V"⟩
abbrev own_y11 : MethodName := ⟨own_cW, "isSpan", "(II)Z"⟩
abbrev own_y12 : MethodName := ⟨own_cW, "spanOffset", "(JI)J"⟩
abbrev own_y13 : MethodName := ⟨own_cE, "addSpan", "(JJ)V"⟩
abbrev own_y14 : MethodName := ⟨own_cE, "append", "(JJ)V"⟩
abbrev own_y15 : MethodName := ⟨own_cE, "grown", "(IJJ)I"⟩
abbrev own_y16 : MethodName := ⟨"java/lang/Math", "min", "(JJ)J"⟩
abbrev own_y17 : MethodName := ⟨"java/util/Arrays", "copyOf", "([JI)[J"⟩
abbrev own_y18 : MethodName := ⟨own_cE, "addRecord", "(Lcom/example/resync/resync/model/LogRecord;)V"⟩
abbrev own_y19 : MethodName := ⟨own_cL, "add", "(Ljava/lang/Object;)Z"⟩
abbrev own_y20 : MethodName := ⟨own_cL, "add", "(Ljava/lang/Object;[Ljava/lang/Object;I)V"⟩
abbrev own_y21 : MethodName := ⟨own_cL, "grow", "()[Ljava/lang/Object;"⟩
abbrev own_y22 : MethodName := ⟨own_cL, "grow", "(I)[Ljava/lang/Object;"⟩
abbrev own_y23 : MethodName := ⟨"java/lang/Math", "max", "(II)I"⟩
abbrev own_y24 : MethodName := ⟨own_cR, "offset", "()J"⟩
abbrev own_y25 : MethodName := ⟨own_cE, "take", "()Lcom/example/resync/resync/model/LogEntry;"⟩
abbrev own_y26 : MethodName := ⟨own_cD, "<init>", "(JJ)V"⟩
abbrev own_y27 : MethodName := ⟨own_cW, "matches", "(Ljava/lang/Object;II[Lcom/example/resync/resync/model/LogRecord;JJ)Z"⟩
abbrev own_y28 : MethodName := ⟨own_cD, "offset", "()J"⟩
abbrev own_y29 : MethodName := ⟨own_cD, "length", "()J"⟩
abbrev own_y30 : MethodName := ⟨own_cE, "skipRecords", "()I"⟩
abbrev own_y31 : MethodName := ⟨own_cL, "get", "(I)Ljava/lang/Object;"⟩
abbrev own_y32 : MethodName := ⟨"java/util/Objects", "checkIndex", "(II)I"⟩
abbrev own_y33 : MethodName := ⟨"jdk/internal/util/Preconditions", "checkIndex", "(IILjava/util/function/BiFunction;)I"⟩
abbrev own_y34 : MethodName := ⟨own_cL, "elementData", "(I)Ljava/lang/Object;"⟩
theorem d1_0 : decode jdk_29_method_66_code 0 = .ok (.lload_n 0, 1) := by decide +kernel
theorem d1_1 : decode jdk_29_method_66_code 1 = .ok (.lload_n 2, 1) := by decide +kernel
theorem d1_2 : decode jdk_29_method_66_code 2 = .ok (.lcmp, 1) := by decide +kernel
theorem d1_3 : decode jdk_29_method_66_code 3 = .ok (.ifCond .lt 7, 3) := by decide +kernel
theorem d1_6 : decode jdk_29_method_66_code 6 = .ok (.lload_n 0, 1) := by decide +kernel
theorem d1_7 : decode jdk_29_method_66_code 7 = .ok (.goto 4, 3) := by decide +kernel
theorem d1_10 : decode jdk_29_method_66_code 10 = .ok (.lload_n 2, 1) := by decide +kernel
theorem d1_11 : decode jdk_29_method_66_code 11 = .ok (.lreturn, 1) := by decide +kernel
theorem ef1 (m : MethodId) (x0 : Int64) (x1 : Int64) : entryFrame m #[(.long x0), (.long x1)] 4 = mkF m 0 #[.val (.long x0), .second, .val (.long x1), .second] [] := by first | (simp [entryFrame, mkF, argsToLocals, Value.category]; done) | rfl
def f1 (x0 : Int64) (x1 : Int64) : Int64 := if x0 < x1 then x1 else x0
def Q1 (Z : State) (x0 : Int64) (x1 : Int64) (h0 : Heap) (n0 : Nat) (v : Option Value) (h : Heap) (L : List Loc) : Prop := v = some (.long (f1 x0 x1)) ∧ Fr n0 L ∧ h = h0
set_option maxRecDepth 65536 in
set_option maxHeartbeats 40000000 in
theorem rm1 (l : Launch) (Z : State) (a0 : Array Value) (hw : ∀ d ∈ tables_1, d.before a0 Z = true) (ws : List Jvm.Cond) (x0 : Int64) (x1 : Int64) (h0 : Heap) (n0 : Nat) (Z0 : n0 ≤ h0.size) :
    MetFree l own_y1 (head1 (Jvm.Cond.code own_y1 jdk_29_method_66_code 4 (some .long) :: ws) ({ frames := 0, cells := 0, slots := 0, locals := 0 } : Room)) (fun a U => a = #[(.long x0), (.long x1)] ∧ Z.Warmed39 U.vm ∧ U.heap = h0) (fun _ _ _ _ _ => True) (fun _ U o U' => ∃ v L, o = .returned v ∧ Q1 Z x0 x1 h0 n0 v U'.heap L ∧ FrameEnd U o U' L ({ frames := 0, cells := 0, slots := 0, locals := 0 } : Room).cells ({ frames := 0, cells := 0, slots := 0, locals := 0 } : Room).slots) := by
  refine MetFree.of_bodySF (Jvm.Free.JP.mathPlain rfl (by decide +kernel)) hisR ?_
  intro p e s m args below meth c s₁ Bd hml0 hP hK
  obtain ⟨rfl, hZ, hh⟩ := hP
  have hx := Bd.exec
  have hby := Bd.bytes
  have hml : c.maxLocals = 4 := hml0
  have hown : s.vm.findClass "java/lang/Math" = some m.cls := findClass_of_methodNamed Bd.named
  have hnm := (name_of_methodNamed Bd.named Bd.method).1
  have hlk : meth.locks = false := BodyLoose.notSynchronized Bd
  have X0 : Stand p l e ({ frames := 0, cells := 0, slots := 0, locals := 0 } : Room) s m #[(.long x0), (.long x1)] below meth c s₁ [] 0 0 := Stand.of_body Bd
  have e0 : s₁.heap = h0 := by rw [← hh, Bd.state]; rfl
  have N0 := Fr.nil n0
  obtain ⟨G, hG⟩ : ∃ G, G = own_G s (Q1 Z x0 x1 h0 n0) ({ frames := 0, cells := 0, slots := 0, locals := 0 } : Room).cells ({ frames := 0, cells := 0, slots := 0, locals := 0 } : Room).slots := ⟨_, rfl⟩
  show own_Fin p e below (own_G s (Q1 Z x0 x1 h0 n0) ({ frames := 0, cells := 0, slots := 0, locals := 0 } : Room).cells ({ frames := 0, cells := 0, slots := 0, locals := 0 } : Room).slots) (s₁.setTop (entryFrame m #[(.long x0), (.long x1)] 4))
  rw [← hG]
  refine own_to (fun _ kz => castTop (ef1 m x0 x1) kz) ?_
  have q0 : (f1 x0 x1) = (f1 x0 x1) := rfl
  show own_Fin p e below G (s₁.setTop (mkF m 0 #[.val (.long x0), .second, .val (.long x1), .second] []))
  refine own_lloadN X0 hx (hb hby d1_0) rfl ?_
  refine own_lloadN X0 hx (hb hby d1_1) rfl ?_
  refine own_to (fun _ kz => XS.lcmp X0.here hx rfl (hb hby d1_2) rfl kz) ?_
  show own_Fin p e below G (s₁.setTop (mkF m 3 #[.val (.long x0), .second, .val (.long x1), .second] [(.int (lcmpW x0 x1))]))
  by_cases hc3 : x0 < x1
  · refine own_to (fun _ kz => XS.ifYes X0.here hx rfl (pc0 := 3) (pc' := 10) rfl (hb hby d1_3) rfl ((if0 _ _).trans (tlt ((lw_lt _ _).mpr hc3)).1) (by decide) (by decide) kz) ?_
    have q3t := q0.trans (if_pos hc3)
    show own_Fin p e below G (s₁.setTop (mkF m 10 #[.val (.long x0), .second, .val (.long x1), .second] []))
    refine own_lloadN X0 hx (hb hby d1_10) rfl ?_
    exact own_retJ X0 hx hlk hG Bd.returns (hb hby d1_11) (by decide) (by decide) ⟨(congrArg (fun z => some (Value.long z)) q3t).symm, N0, e0⟩
  · refine own_to (fun _ kz => XS.ifNo X0.here hx rfl (hb hby d1_3) rfl ((if0 _ _).trans (flt (fun q => hc3 ((lw_lt _ _).mp q))).1) kz) ?_
    have q3f := q0.trans (if_neg hc3)
    show own_Fin p e below G (s₁.setTop (mkF m 6 #[.val (.long x0), .second, .val (.long x1), .second] []))
    refine own_lloadN X0 hx (hb hby d1_6) rfl ?_
    refine own_to (fun _ kz => XS.goto X0.here hx rfl (pc0 := 7) (pc' := 11) rfl (hb hby d1_7) (by decide) (by decide) kz) ?_
    show own_Fin p e below G (s₁.setTop (mkF m 11 #[.val (.long x0), .second, .val (.long x1), .second] [(.long x0)]))
    exact own_retJ X0 hx hlk hG Bd.returns (hb hby d1_11) (by decide) (by decide) ⟨(congrArg (fun z => some (Value.long z)) q3f).symm, N0, e0⟩
theorem d9_0 : decode jdk_29_method_69_code 0 = .ok (.iload_n 0, 1) := by decide +kernel
theorem d9_1 : decode jdk_29_method_69_code 1 = .ok (.iload_n 1, 1) := by decide +kernel
theorem d9_2 : decode jdk_29_method_69_code 2 = .ok (.if_icmp .gt 7, 3) := by decide +kernel
theorem d9_5 : decode jdk_29_method_69_code 5 = .ok (.iload_n 0, 1) := by decide +kernel
theorem d9_6 : decode jdk_29_method_69_code 6 = .ok (.goto 4, 3) := by decide +kernel
theorem d9_9 : decode jdk_29_method_69_code 9 = .ok (.iload_n 1, 1) := by decide +kernel
theorem d9_10 : decode jdk_29_method_69_code 10 = .ok (.ireturn, 1) := by decide +kernel
theorem ef9 (m : MethodId) (p0 : Int32) (p1 : Int32) : entryFrame m #[(.int p0), (.int p1)] 2 = mkF m 0 #[.val (.int p0), .val (.int p1)] [] := by first | (simp [entryFrame, mkF, argsToLocals, Value.category]; done) | rfl
def f9 (p0 : Int32) (p1 : Int32) : Int32 := if p1 < p0 then p1 else p0
def Q9 (Z : State) (p0 : Int32) (p1 : Int32) (h0 : Heap) (n0 : Nat) (v : Option Value) (h : Heap) (L : List Loc) : Prop := v = some (.int (f9 p0 p1)) ∧ Fr n0 L ∧ h = h0
set_option maxRecDepth 65536 in
set_option maxHeartbeats 40000000 in
theorem rm9 (l : Launch) (Z : State) (a0 : Array Value) (hw : ∀ d ∈ tables_1, d.before a0 Z = true) (ws : List Jvm.Cond) (p0 : Int32) (p1 : Int32) (h0 : Heap) (n0 : Nat) (Z0 : n0 ≤ h0.size) :
    MetFree l own_y9 (head1 (Jvm.Cond.code own_y9 jdk_29_method_69_code 2 (some .int) :: ws) ({ frames := 0, cells := 0, slots := 0, locals := 0 } : Room)) (fun a U => a = #[(.int p0), (.int p1)] ∧ Z.Warmed39 U.vm ∧ U.heap = h0) (fun _ _ _ _ _ => True) (fun _ U o U' => ∃ v L, o = .returned v ∧ Q9 Z p0 p1 h0 n0 v U'.heap L ∧ FrameEnd U o U' L ({ frames := 0, cells := 0, slots := 0, locals := 0 } : Room).cells ({ frames := 0, cells := 0, slots := 0, locals := 0 } : Room).slots) := by
  refine MetFree.of_bodySF (Jvm.Free.JP.mathPlain rfl (by decide +kernel)) hisR ?_
  intro p e s m args below meth c s₁ Bd hml0 hP hK
  obtain ⟨rfl, hZ, hh⟩ := hP
  have hx := Bd.exec
  have hby := Bd.bytes
  have hml : c.maxLocals = 2 := hml0
  have hown : s.vm.findClass "java/lang/Math" = some m.cls := findClass_of_methodNamed Bd.named
  have hnm := (name_of_methodNamed Bd.named Bd.method).1
  have hlk : meth.locks = false := BodyLoose.notSynchronized Bd
  have X0 : Stand p l e ({ frames := 0, cells := 0, slots := 0, locals := 0 } : Room) s m #[(.int p0), (.int p1)] below meth c s₁ [] 0 0 := Stand.of_body Bd
  have e0 : s₁.heap = h0 := by rw [← hh, Bd.state]; rfl
  have N0 := Fr.nil n0
  obtain ⟨G, hG⟩ : ∃ G, G = own_G s (Q9 Z p0 p1 h0 n0) ({ frames := 0, cells := 0, slots := 0, locals := 0 } : Room).cells ({ frames := 0, cells := 0, slots := 0, locals := 0 } : Room).slots := ⟨_, rfl⟩
  show own_Fin p e below (own_G s (Q9 Z p0 p1 h0 n0) ({ frames := 0, cells := 0, slots := 0, locals := 0 } : Room).cells ({ frames := 0, cells := 0, slots := 0, locals := 0 } : Room).slots) (s₁.setTop (entryFrame m #[(.int p0), (.int p1)] 2))
  rw [← hG]
  refine own_to (fun _ kz => castTop (ef9 m p0 p1) kz) ?_
  have q0 : (f9 p0 p1) = (f9 p0 p1) := rfl
  show own_Fin p e below G (s₁.setTop (mkF m 0 #[.val (.int p0), .val (.int p1)] []))
  refine own_iloadN X0 hx (hb hby d9_0) rfl ?_
  refine own_iloadN X0 hx (hb hby d9_1) rfl ?_
  by_cases hc2 : p1 < p0
  · refine own_to (fun _ kz => XS.icmpYes X0.here hx rfl (pc0 := 2) (pc' := 9) rfl (hb hby d9_2) rfl (tlt hc2).2.2.1 (by decide) (by decide) kz) ?_
    have q2t := q0.trans (if_pos hc2)
    show own_Fin p e below G (s₁.setTop (mkF m 9 #[.val (.int p0), .val (.int p1)] []))
    refine own_iloadN X0 hx (hb hby d9_9) rfl ?_
    exact own_retI X0 hx hlk hG Bd.returns (hb hby d9_10) (by decide) (by decide) ⟨(congrArg (fun z => some (Value.int z)) q2t).symm, N0, e0⟩
  · refine own_to (fun _ kz => XS.icmpNo X0.here hx rfl (hb hby d9_2) rfl (flt hc2).2.2.1 kz) ?_
    have q2f := q0.trans (if_neg hc2)
    show own_Fin p e below G (s₁.setTop (mkF m 5 #[.val (.int p0), .val (.int p1)] []))
    refine own_iloadN X0 hx (hb hby d9_5) rfl ?_
    refine own_to (fun _ kz => XS.goto X0.here hx rfl (pc0 := 6) (pc' := 10) rfl (hb hby d9_6) (by decide) (by decide) kz) ?_
    show own_Fin p e below G (s₁.setTop (mkF m 10 #[.val (.int p0), .val (.int p1)] [(.int p0)]))
    exact own_retI X0 hx hlk hG Bd.returns (hb hby d9_10) (by decide) (by decide) ⟨(congrArg (fun z => some (Value.int z)) q2f).symm, N0, e0⟩
theorem d16_0 : decode jdk_29_method_70_code 0 = .ok (.lload_n 0, 1) := by decide +kernel
theorem d16_1 : decode jdk_29_method_70_code 1 = .ok (.lload_n 2, 1) := by decide +kernel
theorem d16_2 : decode jdk_29_method_70_code 2 = .ok (.lcmp, 1) := by decide +kernel
theorem d16_3 : decode jdk_29_method_70_code 3 = .ok (.ifCond .gt 7, 3) := by decide +kernel
theorem d16_6 : decode jdk_29_method_70_code 6 = .ok (.lload_n 0, 1) := by decide +kernel
theorem d16_7 : decode jdk_29_method_70_code 7 = .ok (.goto 4, 3) := by decide +kernel
theorem d16_10 : decode jdk_29_method_70_code 10 = .ok (.lload_n 2, 1) := by decide +kernel
theorem d16_11 : decode jdk_29_method_70_code 11 = .ok (.lreturn, 1) := by decide +kernel
theorem ef16 (m : MethodId) (x0 : Int64) (x1 : Int64) : entryFrame m #[(.long x0), (.long x1)] 4 = mkF m 0 #[.val (.long x0), .second, .val (.long x1), .second] [] := by first | (simp [entryFrame, mkF, argsToLocals, Value.category]; done) | rfl
def f16 (x0 : Int64) (x1 : Int64) : Int64 := if x1 < x0 then x1 else x0
def Q16 (Z : State) (x0 : Int64) (x1 : Int64) (h0 : Heap) (n0 : Nat) (v : Option Value) (h : Heap) (L : List Loc) : Prop := v = some (.long (f16 x0 x1)) ∧ Fr n0 L ∧ h = h0
set_option maxRecDepth 65536 in
set_option maxHeartbeats 40000000 in
theorem rm16 (l : Launch) (Z : State) (a0 : Array Value) (hw : ∀ d ∈ tables_1, d.before a0 Z = true) (ws : List Jvm.Cond) (x0 : Int64) (x1 : Int64) (h0 : Heap) (n0 : Nat) (Z0 : n0 ≤ h0.size) :
    MetFree l own_y16 (head1 (Jvm.Cond.code own_y16 jdk_29_method_70_code 4 (some .long) :: ws) ({ frames := 0, cells := 0, slots := 0, locals := 0 } : Room)) (fun a U => a = #[(.long x0), (.long x1)] ∧ Z.Warmed39 U.vm ∧ U.heap = h0) (fun _ _ _ _ _ => True) (fun _ U o U' => ∃ v L, o = .returned v ∧ Q16 Z x0 x1 h0 n0 v U'.heap L ∧ FrameEnd U o U' L ({ frames := 0, cells := 0, slots := 0, locals := 0 } : Room).cells ({ frames := 0, cells := 0, slots := 0, locals := 0 } : Room).slots) := by
  refine MetFree.of_bodySF (Jvm.Free.JP.mathPlain rfl (by decide +kernel)) hisR ?_
  intro p e s m args below meth c s₁ Bd hml0 hP hK
  obtain ⟨rfl, hZ, hh⟩ := hP
  have hx := Bd.exec
  have hby := Bd.bytes
  have hml : c.maxLocals = 4 := hml0
  have hown : s.vm.findClass "java/lang/Math" = some m.cls := findClass_of_methodNamed Bd.named
  have hnm := (name_of_methodNamed Bd.named Bd.method).1
  have hlk : meth.locks = false := BodyLoose.notSynchronized Bd
  have X0 : Stand p l e ({ frames := 0, cells := 0, slots := 0, locals := 0 } : Room) s m #[(.long x0), (.long x1)] below meth c s₁ [] 0 0 := Stand.of_body Bd
  have e0 : s₁.heap = h0 := by rw [← hh, Bd.state]; rfl
  have N0 := Fr.nil n0
  obtain ⟨G, hG⟩ : ∃ G, G = own_G s (Q16 Z x0 x1 h0 n0) ({ frames := 0, cells := 0, slots := 0, locals := 0 } : Room).cells ({ frames := 0, cells := 0, slots := 0, locals := 0 } : Room).slots := ⟨_, rfl⟩
  show own_Fin p e below (own_G s (Q16 Z x0 x1 h0 n0) ({ frames := 0, cells := 0, slots := 0, locals := 0 } : Room).cells ({ frames := 0, cells := 0, slots := 0, locals := 0 } : Room).slots) (s₁.setTop (entryFrame m #[(.long x0), (.long x1)] 4))
  rw [← hG]
  refine own_to (fun _ kz => castTop (ef16 m x0 x1) kz) ?_
  have q0 : (f16 x0 x1) = (f16 x0 x1) := rfl
  show own_Fin p e below G (s₁.setTop (mkF m 0 #[.val (.long x0), .second, .val (.long x1), .second] []))
  refine own_lloadN X0 hx (hb hby d16_0) rfl ?_
  refine own_lloadN X0 hx (hb hby d16_1) rfl ?_
  refine own_to (fun _ kz => XS.lcmp X0.here hx rfl (hb hby d16_2) rfl kz) ?_
  show own_Fin p e below G (s₁.setTop (mkF m 3 #[.val (.long x0), .second, .val (.long x1), .second] [(.int (lcmpW x0 x1))]))
  by_cases hc3 : x1 < x0
  · refine own_to (fun _ kz => XS.ifYes X0.here hx rfl (pc0 := 3) (pc' := 10) rfl (hb hby d16_3) rfl ((if0 _ _).trans (tlt ((lw_gt _ _).mpr hc3)).2.2.1) (by decide) (by decide) kz) ?_
    have q3t := q0.trans (if_pos hc3)
    show own_Fin p e below G (s₁.setTop (mkF m 10 #[.val (.long x0), .second, .val (.long x1), .second] []))
    refine own_lloadN X0 hx (hb hby d16_10) rfl ?_
    exact own_retJ X0 hx hlk hG Bd.returns (hb hby d16_11) (by decide) (by decide) ⟨(congrArg (fun z => some (Value.long z)) q3t).symm, N0, e0⟩
  · refine own_to (fun _ kz => XS.ifNo X0.here hx rfl (hb hby d16_3) rfl ((if0 _ _).trans (flt (fun q => hc3 ((lw_gt _ _).mp q))).2.2.1) kz) ?_
    have q3f := q0.trans (if_neg hc3)
    show own_Fin p e below G (s₁.setTop (mkF m 6 #[.val (.long x0), .second, .val (.long x1), .second] []))
    refine own_lloadN X0 hx (hb hby d16_6) rfl ?_
    refine own_to (fun _ kz => XS.goto X0.here hx rfl (pc0 := 7) (pc' := 11) rfl (hb hby d16_7) (by decide) (by decide) kz) ?_
    show own_Fin p e below G (s₁.setTop (mkF m 11 #[.val (.long x0), .second, .val (.long x1), .second] [(.long x0)]))
    exact own_retJ X0 hx hlk hG Bd.returns (hb hby d16_11) (by decide) (by decide) ⟨(congrArg (fun z => some (Value.long z)) q3f).symm, N0, e0⟩
theorem d23_0 : decode jdk_29_method_65_code 0 = .ok (.iload_n 0, 1) := by decide +kernel
theorem d23_1 : decode jdk_29_method_65_code 1 = .ok (.iload_n 1, 1) := by decide +kernel
theorem d23_2 : decode jdk_29_method_65_code 2 = .ok (.if_icmp .lt 7, 3) := by decide +kernel
theorem d23_5 : decode jdk_29_method_65_code 5 = .ok (.iload_n 0, 1) := by decide +kernel
theorem d23_6 : decode jdk_29_method_65_code 6 = .ok (.goto 4, 3) := by decide +kernel
theorem d23_9 : decode jdk_29_method_65_code 9 = .ok (.iload_n 1, 1) := by decide +kernel
theorem d23_10 : decode jdk_29_method_65_code 10 = .ok (.ireturn, 1) := by decide +kernel
theorem ef23 (m : MethodId) (p0 : Int32) (p1 : Int32) : entryFrame m #[(.int p0), (.int p1)] 2 = mkF m 0 #[.val (.int p0), .val (.int p1)] [] := by first | (simp [entryFrame, mkF, argsToLocals, Value.category]; done) | rfl
def f23 (p0 : Int32) (p1 : Int32) : Int32 := if p0 < p1 then p1 else p0
def Q23 (Z : State) (p0 : Int32) (p1 : Int32) (h0 : Heap) (n0 : Nat) (v : Option Value) (h : Heap) (L : List Loc) : Prop := v = some (.int (f23 p0 p1)) ∧ Fr n0 L ∧ h = h0
set_option maxRecDepth 65536 in
set_option maxHeartbeats 40000000 in
theorem rm23 (l : Launch) (Z : State) (a0 : Array Value) (hw : ∀ d ∈ tables_1, d.before a0 Z = true) (ws : List Jvm.Cond) (p0 : Int32) (p1 : Int32) (h0 : Heap) (n0 : Nat) (Z0 : n0 ≤ h0.size) :
    MetFree l own_y23 (head1 (Jvm.Cond.code own_y23 jdk_29_method_65_code 2 (some .int) :: ws) ({ frames := 0, cells := 0, slots := 0, locals := 0 } : Room)) (fun a U => a = #[(.int p0), (.int p1)] ∧ Z.Warmed39 U.vm ∧ U.heap = h0) (fun _ _ _ _ _ => True) (fun _ U o U' => ∃ v L, o = .returned v ∧ Q23 Z p0 p1 h0 n0 v U'.heap L ∧ FrameEnd U o U' L ({ frames := 0, cells := 0, slots := 0, locals := 0 } : Room).cells ({ frames := 0, cells := 0, slots := 0, locals := 0 } : Room).slots) := by
  refine MetFree.of_bodySF (Jvm.Free.JP.mathPlain rfl (by decide +kernel)) hisR ?_
  intro p e s m args below meth c s₁ Bd hml0 hP hK
  obtain ⟨rfl, hZ, hh⟩ := hP
  have hx := Bd.exec
  have hby := Bd.bytes
  have hml : c.maxLocals = 2 := hml0
  have hown : s.vm.findClass "java/lang/Math" = some m.cls := findClass_of_methodNamed Bd.named
  have hnm := (name_of_methodNamed Bd.named Bd.method).1
  have hlk : meth.locks = false := BodyLoose.notSynchronized Bd
  have X0 : Stand p l e ({ frames := 0, cells := 0, slots := 0, locals := 0 } : Room) s m #[(.int p0), (.int p1)] below meth c s₁ [] 0 0 := Stand.of_body Bd
  have e0 : s₁.heap = h0 := by rw [← hh, Bd.state]; rfl
  have N0 := Fr.nil n0
  obtain ⟨G, hG⟩ : ∃ G, G = own_G s (Q23 Z p0 p1 h0 n0) ({ frames := 0, cells := 0, slots := 0, locals := 0 } : Room).cells ({ frames := 0, cells := 0, slots := 0, locals := 0 } : Room).slots := ⟨_, rfl⟩
  show own_Fin p e below (own_G s (Q23 Z p0 p1 h0 n0) ({ frames := 0, cells := 0, slots := 0, locals := 0 } : Room).cells ({ frames := 0, cells := 0, slots := 0, locals := 0 } : Room).slots) (s₁.setTop (entryFrame m #[(.int p0), (.int p1)] 2))
  rw [← hG]
  refine own_to (fun _ kz => castTop (ef23 m p0 p1) kz) ?_
  have q0 : (f23 p0 p1) = (f23 p0 p1) := rfl
  show own_Fin p e below G (s₁.setTop (mkF m 0 #[.val (.int p0), .val (.int p1)] []))
  refine own_iloadN X0 hx (hb hby d23_0) rfl ?_
  refine own_iloadN X0 hx (hb hby d23_1) rfl ?_
  by_cases hc2 : p0 < p1
  · refine own_to (fun _ kz => XS.icmpYes X0.here hx rfl (pc0 := 2) (pc' := 9) rfl (hb hby d23_2) rfl (tlt hc2).1 (by decide) (by decide) kz) ?_
    have q2t := q0.trans (if_pos hc2)
    show own_Fin p e below G (s₁.setTop (mkF m 9 #[.val (.int p0), .val (.int p1)] []))
    refine own_iloadN X0 hx (hb hby d23_9) rfl ?_
    exact own_retI X0 hx hlk hG Bd.returns (hb hby d23_10) (by decide) (by decide) ⟨(congrArg (fun z => some (Value.int z)) q2t).symm, N0, e0⟩
  · refine own_to (fun _ kz => XS.icmpNo X0.here hx rfl (hb hby d23_2) rfl (flt hc2).1 kz) ?_
    have q2f := q0.trans (if_neg hc2)
    show own_Fin p e below G (s₁.setTop (mkF m 5 #[.val (.int p0), .val (.int p1)] []))
    refine own_iloadN X0 hx (hb hby d23_5) rfl ?_
    refine own_to (fun _ kz => XS.goto X0.here hx rfl (pc0 := 6) (pc' := 10) rfl (hb hby d23_6) (by decide) (by decide) kz) ?_
    show own_Fin p e below G (s₁.setTop (mkF m 10 #[.val (.int p0), .val (.int p1)] [(.int p0)]))
    exact own_retI X0 hx hlk hG Bd.returns (hb hby d23_10) (by decide) (by decide) ⟨(congrArg (fun z => some (Value.int z)) q2f).symm, N0, e0⟩
theorem own_pn0 : plainName own_cW = true := by first | (simp [plainName, overriddenIn]; done) | decide +kernel
theorem d11_0 : decode method_2_code 0 = .ok (.iload_n 0, 1) := by decide +kernel
theorem d11_1 : decode method_2_code 1 = .ok (.iload_n 1, 1) := by decide +kernel
theorem d11_2 : decode method_2_code 2 = .ok (.iushr, 1) := by decide +kernel
theorem d11_3 : decode method_2_code 3 = .ok (.iconst 1, 1) := by decide +kernel
theorem d11_4 : decode method_2_code 4 = .ok (.iand, 1) := by decide +kernel
theorem d11_5 : decode method_2_code 5 = .ok (.ifCond .eq 7, 3) := by decide +kernel
theorem d11_8 : decode method_2_code 8 = .ok (.iconst 1, 1) := by decide +kernel
theorem d11_9 : decode method_2_code 9 = .ok (.goto 4, 3) := by decide +kernel
theorem d11_12 : decode method_2_code 12 = .ok (.iconst 0, 1) := by decide +kernel
theorem d11_13 : decode method_2_code 13 = .ok (.ireturn, 1) := by decide +kernel
theorem ef11 (m : MethodId) (p0 : Int32) (p1 : Int32) : entryFrame m #[(.int p0), (.int p1)] 2 = mkF m 0 #[.val (.int p0), .val (.int p1)] [] := by first | (simp [entryFrame, mkF, argsToLocals, Value.category]; done) | rfl
def f11 (p0 : Int32) (p1 : Int32) : Int32 := if (((p0.toUInt32 >>> (p1 &&& 31).toUInt32).toInt32) &&& (1 : Int32)) = (0 : Int32) then (0 : Int32) else (1 : Int32)
def Q11 (Z : State) (p0 : Int32) (p1 : Int32) (h0 : Heap) (n0 : Nat) (v : Option Value) (h : Heap) (L : List Loc) : Prop := v = some (.int (f11 p0 p1)) ∧ Fr n0 L ∧ h = h0
set_option maxRecDepth 65536 in
set_option maxHeartbeats 40000000 in
theorem rm11 (l : Launch) (Z : State) (a0 : Array Value) (hw : ∀ d ∈ tables_1, d.before a0 Z = true) (ws : List Jvm.Cond) (p0 : Int32) (p1 : Int32) (h0 : Heap) (n0 : Nat) (Z0 : n0 ≤ h0.size) :
    MetFree l own_y11 (head1 (Jvm.Cond.code own_y11 method_2_code 2 (some .boolean) :: ws) ({ frames := 0, cells := 0, slots := 0, locals := 0 } : Room)) (fun a U => a = #[(.int p0), (.int p1)] ∧ Z.Warmed39 U.vm ∧ U.heap = h0) (fun _ _ _ _ _ => True) (fun _ U o U' => ∃ v L, o = .returned v ∧ Q11 Z p0 p1 h0 n0 v U'.heap L ∧ FrameEnd U o U' L ({ frames := 0, cells := 0, slots := 0, locals := 0 } : Room).cells ({ frames := 0, cells := 0, slots := 0, locals := 0 } : Room).slots) := by
  refine MetFree.of_bodySF (plainFor_of_name own_pn0) hisR ?_
  intro p e s m args below meth c s₁ Bd hml0 hP hK
  obtain ⟨rfl, hZ, hh⟩ := hP
  have hx := Bd.exec
  have hby := Bd.bytes
  have hml : c.maxLocals = 2 := hml0
  have hown : s.vm.findClass own_cW = some m.cls := findClass_of_methodNamed Bd.named
  have hnm := (name_of_methodNamed Bd.named Bd.method).1
  have hlk : meth.locks = false := BodyLoose.notSynchronized Bd
  have X0 : Stand p l e ({ frames := 0, cells := 0, slots := 0, locals := 0 } : Room) s m #[(.int p0), (.int p1)] below meth c s₁ [] 0 0 := Stand.of_body Bd
  have e0 : s₁.heap = h0 := by rw [← hh, Bd.state]; rfl
  have N0 := Fr.nil n0
  obtain ⟨G, hG⟩ : ∃ G, G = own_G s (Q11 Z p0 p1 h0 n0) ({ frames := 0, cells := 0, slots := 0, locals := 0 } : Room).cells ({ frames := 0, cells := 0, slots := 0, locals := 0 } : Room).slots := ⟨_, rfl⟩
  show own_Fin p e below (own_G s (Q11 Z p0 p1 h0 n0) ({ frames := 0, cells := 0, slots := 0, locals := 0 } : Room).cells ({ frames := 0, cells := 0, slots := 0, locals := 0 } : Room).slots) (s₁.setTop (entryFrame m #[(.int p0), (.int p1)] 2))
  rw [← hG]
  refine own_to (fun _ kz => castTop (ef11 m p0 p1) kz) ?_
  have q0 : (f11 p0 p1) = (f11 p0 p1) := rfl
  show own_Fin p e below G (s₁.setTop (mkF m 0 #[.val (.int p0), .val (.int p1)] []))
  refine own_iloadN X0 hx (hb hby d11_0) rfl ?_
  refine own_iloadN X0 hx (hb hby d11_1) rfl ?_
  refine own_to (fun _ kz => XS.iushr X0.here hx rfl (hb hby d11_2) rfl kz) ?_
  show own_Fin p e below G (s₁.setTop (mkF m 3 #[.val (.int p0), .val (.int p1)] [(.int ((p0.toUInt32 >>> (p1 &&& 31).toUInt32).toInt32))]))
  refine own_iconst X0 hx (1) (hb hby d11_3) rfl ?_
  refine own_to (fun _ kz => XS.iand X0.here hx rfl (hb hby d11_4) rfl kz) ?_
  show own_Fin p e below G (s₁.setTop (mkF m 5 #[.val (.int p0), .val (.int p1)] [(.int (((p0.toUInt32 >>> (p1 &&& 31).toUInt32).toInt32) &&& (1 : Int32)))]))
  by_cases hc5 : (((p0.toUInt32 >>> (p1 &&& 31).toUInt32).toInt32) &&& (1 : Int32)) = (0 : Int32)
  · refine own_to (fun _ kz => XS.ifYes X0.here hx rfl (pc0 := 5) (pc' := 12) rfl (hb hby d11_5) rfl ((if0 _ _).trans (teq hc5).1) (by decide) (by decide) kz) ?_
    have q5t := q0.trans (if_pos hc5)
    show own_Fin p e below G (s₁.setTop (mkF m 12 #[.val (.int p0), .val (.int p1)] []))
    refine own_iconst X0 hx (0) (hb hby d11_12) rfl ?_
    exact own_retN X0 hx hlk hG (t := .boolean) Bd.returns (by simp) (hb hby d11_13) (by decide) (by decide) ⟨(congrArg (fun z => some (Value.int z)) q5t).symm, N0, e0⟩
  · refine own_to (fun _ kz => XS.ifNo X0.here hx rfl (hb hby d11_5) rfl ((if0 _ _).trans (feq hc5).1) kz) ?_
    have q5f := q0.trans (if_neg hc5)
    show own_Fin p e below G (s₁.setTop (mkF m 8 #[.val (.int p0), .val (.int p1)] []))
    refine own_iconst X0 hx (1) (hb hby d11_8) rfl ?_
    refine own_to (fun _ kz => XS.goto X0.here hx rfl (pc0 := 9) (pc' := 13) rfl (hb hby d11_9) (by decide) (by decide) kz) ?_
    show own_Fin p e below G (s₁.setTop (mkF m 13 #[.val (.int p0), .val (.int p1)] [(.int (1 : Int32))]))
    exact own_retN X0 hx hlk hG (t := .boolean) Bd.returns (by simp) (hb hby d11_13) (by decide) (by decide) ⟨(congrArg (fun z => some (Value.int z)) q5f).symm, N0, e0⟩
theorem d12_0 : decode method_3_code 0 = .ok (.lload_n 0, 1) := by decide +kernel
theorem d12_1 : decode method_3_code 1 = .ok (.ldc2_w 7, 3) := by decide +kernel
theorem d12_4 : decode method_3_code 4 = .ok (.land, 1) := by decide +kernel
theorem d12_5 : decode method_3_code 5 = .ok (.iload_n 2, 1) := by decide +kernel
theorem d12_6 : decode method_3_code 6 = .ok (.i2l, 1) := by decide +kernel
theorem d12_7 : decode method_3_code 7 = .ok (.lor, 1) := by decide +kernel
theorem d12_8 : decode method_3_code 8 = .ok (.lreturn, 1) := by decide +kernel
theorem ef12 (m : MethodId) (x0 : Int64) (p1 : Int32) : entryFrame m #[(.long x0), (.int p1)] 3 = mkF m 0 #[.val (.long x0), .second, .val (.int p1)] [] := by first | (simp [entryFrame, mkF, argsToLocals, Value.category]; done) | rfl
def f12 (x0 : Int64) (p1 : Int32) : Int64 := ((x0 &&& (9223372036854775804 : Int64)) ||| (p1.toInt64))
def Q12 (Z : State) (x0 : Int64) (p1 : Int32) (h0 : Heap) (n0 : Nat) (v : Option Value) (h : Heap) (L : List Loc) : Prop := v = some (.long (f12 x0 p1)) ∧ Fr n0 L ∧ h = h0
set_option maxRecDepth 65536 in
set_option maxHeartbeats 40000000 in
theorem rm12 (l : Launch) (Z : State) (a0 : Array Value) (hw : ∀ d ∈ tables_1, d.before a0 Z = true) (ws : List Jvm.Cond) (x0 : Int64) (p1 : Int32) (h0 : Heap) (n0 : Nat) (Z0 : n0 ≤ h0.size) :
    MetFree l own_y12 (head1 (Jvm.Cond.code own_y12 method_3_code 3 (some .long) :: ws) ({ frames := 0, cells := 0, slots := 0, locals := 0 } : Room)) (fun a U => a = #[(.long x0), (.int p1)] ∧ Z.Warmed39 U.vm ∧ U.heap = h0) (fun _ _ _ _ _ => True) (fun _ U o U' => ∃ v L, o = .returned v ∧ Q12 Z x0 p1 h0 n0 v U'.heap L ∧ FrameEnd U o U' L ({ frames := 0, cells := 0, slots := 0, locals := 0 } : Room).cells ({ frames := 0, cells := 0, slots := 0, locals := 0 } : Room).slots) := by
  refine MetFree.of_bodySF (plainFor_of_name own_pn0) hisR ?_
  intro p e s m args below meth c s₁ Bd hml0 hP hK
  obtain ⟨rfl, hZ, hh⟩ := hP
  have hx := Bd.exec
  have hby := Bd.bytes
  have hml : c.maxLocals = 3 := hml0
  have hown : s.vm.findClass own_cW = some m.cls := findClass_of_methodNamed Bd.named
  have hnm := (name_of_methodNamed Bd.named Bd.method).1
  have hlk : meth.locks = false := BodyLoose.notSynchronized Bd
  have X0 : Stand p l e ({ frames := 0, cells := 0, slots := 0, locals := 0 } : Room) s m #[(.long x0), (.int p1)] below meth c s₁ [] 0 0 := Stand.of_body Bd
  have e0 : s₁.heap = h0 := by rw [← hh, Bd.state]; rfl
  have N0 := Fr.nil n0
  obtain ⟨G, hG⟩ : ∃ G, G = own_G s (Q12 Z x0 p1 h0 n0) ({ frames := 0, cells := 0, slots := 0, locals := 0 } : Room).cells ({ frames := 0, cells := 0, slots := 0, locals := 0 } : Room).slots := ⟨_, rfl⟩
  show own_Fin p e below (own_G s (Q12 Z x0 p1 h0 n0) ({ frames := 0, cells := 0, slots := 0, locals := 0 } : Room).cells ({ frames := 0, cells := 0, slots := 0, locals := 0 } : Room).slots) (s₁.setTop (entryFrame m #[(.long x0), (.int p1)] 3))
  rw [← hG]
  refine own_to (fun _ kz => castTop (ef12 m x0 p1) kz) ?_
  have q0 : (f12 x0 p1) = (f12 x0 p1) := rfl
  show own_Fin p e below G (s₁.setTop (mkF m 0 #[.val (.long x0), .second, .val (.int p1)] []))
  refine own_lloadN X0 hx (hb hby d12_0) rfl ?_
  refine own_to (fun _ kz => X0.ldc2Long hx hown (mvT hZ (own_w hw 90 rfl)) (g := (mkF m 1 #[.val (.long x0), .second, .val (.int p1)] [(.long x0)])) rfl (hb hby d12_1) _ kz) ?_
  show own_Fin p e below G (s₁.setTop (mkF m 4 #[.val (.long x0), .second, .val (.int p1)] [(.long (9223372036854775804 : Int64)), (.long x0)]))
  refine own_to (fun _ kz => XS.land X0.here hx rfl (hb hby d12_4) rfl kz) ?_
  show own_Fin p e below G (s₁.setTop (mkF m 5 #[.val (.long x0), .second, .val (.int p1)] [(.long (x0 &&& (9223372036854775804 : Int64)))]))
  refine own_iloadN X0 hx (hb hby d12_5) rfl ?_
  refine own_to (fun _ kz => XS.i2l X0.here hx rfl (hb hby d12_6) rfl kz) ?_
  show own_Fin p e below G (s₁.setTop (mkF m 7 #[.val (.long x0), .second, .val (.int p1)] [(.long (p1.toInt64)), (.long (x0 &&& (9223372036854775804 : Int64)))]))
  refine own_to (fun _ kz => XS.lor X0.here hx rfl (hb hby d12_7) rfl kz) ?_
  show own_Fin p e below G (s₁.setTop (mkF m 8 #[.val (.long x0), .second, .val (.int p1)] [(.long ((x0 &&& (9223372036854775804 : Int64)) ||| (p1.toInt64)))]))
  exact own_retJ X0 hx hlk hG Bd.returns (hb hby d12_8) (by decide) (by decide) ⟨(congrArg (fun z => some (Value.long z)) q0).symm, N0, e0⟩
theorem own_pn1 : plainName "java/lang/Record" = true := by first | (simp [plainName, overriddenIn]; done) | decide +kernel
theorem d3_0 : decode jdk_30_method_1_code 0 = .ok (.aload_n 0, 1) := by decide +kernel
theorem d3_1 : decode jdk_30_method_1_code 1 = .ok (.invokespecial 1, 3) := by decide +kernel
theorem d3_4 : decode jdk_30_method_1_code 4 = .ok (.return_, 1) := by decide +kernel
theorem ef3 (m : MethodId) (ad0 : Addr) : entryFrame m #[(.ref ad0)] 1 = mkF m 0 #[.val (.ref ad0)] [] := by first | (simp [entryFrame, mkF, argsToLocals, Value.category]; done) | rfl
def Q3 (Z : State) (ad0 : Addr) (h0 : Heap) (n0 : Nat) (v : Option Value) (h : Heap) (L : List Loc) : Prop := v = none ∧ Fr n0 L ∧ h = h0
set_option maxRecDepth 65536 in
set_option maxHeartbeats 40000000 in
theorem rm3 (l : Launch) (Z : State) (a0 : Array Value) (hw : ∀ d ∈ tables_1, d.before a0 Z = true) (ws : List Jvm.Cond) (ad0 : Addr) (h0 : Heap) (n0 : Nat) (Z0 : n0 ≤ h0.size) :
    MetFree l own_y3 (head1 (Jvm.Cond.code own_y3 jdk_30_method_1_code 1 none :: ws) ({ frames := 1, cells := 0, slots := 0, locals := 12 } : Room)) (fun a U => a = #[(.ref ad0)] ∧ Z.Warmed39 U.vm ∧ U.heap = h0) (fun _ _ _ _ _ => True) (fun _ U o U' => ∃ v L, o = .returned v ∧ Q3 Z ad0 h0 n0 v U'.heap L ∧ FrameEnd U o U' L ({ frames := 1, cells := 0, slots := 0, locals := 12 } : Room).cells ({ frames := 1, cells := 0, slots := 0, locals := 12 } : Room).slots) := by
  refine MetFree.of_bodySF (plainFor_of_name own_pn1) hisR ?_
  intro p e s m args below meth c s₁ Bd hml0 hP hK
  obtain ⟨rfl, hZ, hh⟩ := hP
  have hx := Bd.exec
  have hby := Bd.bytes
  have hml : c.maxLocals = 1 := hml0
  have hown : s.vm.findClass "java/lang/Record" = some m.cls := findClass_of_methodNamed Bd.named
  have hnm := (name_of_methodNamed Bd.named Bd.method).1
  have hlk : meth.locks = false := BodyLoose.notSynchronized Bd
  have X0 : Stand p l e ({ frames := 1, cells := 0, slots := 0, locals := 12 } : Room) s m #[(.ref ad0)] below meth c s₁ [] 0 0 := Stand.of_body Bd
  have e0 : s₁.heap = h0 := by rw [← hh, Bd.state]; rfl
  have N0 := Fr.nil n0
  obtain ⟨G, hG⟩ : ∃ G, G = own_G s (Q3 Z ad0 h0 n0) ({ frames := 1, cells := 0, slots := 0, locals := 12 } : Room).cells ({ frames := 1, cells := 0, slots := 0, locals := 12 } : Room).slots := ⟨_, rfl⟩
  show own_Fin p e below (own_G s (Q3 Z ad0 h0 n0) ({ frames := 1, cells := 0, slots := 0, locals := 12 } : Room).cells ({ frames := 1, cells := 0, slots := 0, locals := 12 } : Room).slots) (s₁.setTop (entryFrame m #[(.ref ad0)] 1))
  rw [← hG]
  refine own_to (fun _ kz => castTop (ef3 m ad0) kz) ?_
  show own_Fin p e below G (s₁.setTop (mkF m 0 #[.val (.ref ad0)] []))
  refine own_aloadN X0 hx (hb hby d3_0) rfl (rfl) ?_
  obtain ⟨T1, X1, e1, st1⟩ := initO X0 hx hZ hown (own_w hw 18 rfl) (own_w hw 19 rfl) (own_w hw 20 rfl) e0 (g := (mkF m 1 #[.val (.ref ad0)] [(.ref ad0)])) rfl (by rw [hml]; rfl) rfl (hb hby d3_1) (by decide) (W := 0) (by show 2 * 0 + _ ≤ _; exact Nat.le_of_eq rfl) (by decide)
  refine own_to st1 ?_
  show own_Fin p e below G (T1.setTop (mkF m 4 #[.val (.ref ad0)] []))
  exact own_retV X1 hx hlk hG Bd.returns (hb hby d3_4) (by decide) (by decide) ⟨rfl, N0, e1⟩
theorem own_pn2 : plainName "java/util/AbstractCollection" = true := by first | (simp [plainName, overriddenIn]; done) | decide +kernel
theorem d8_0 : decode jdk_22_method_1_code 0 = .ok (.aload_n 0, 1) := by decide +kernel
theorem d8_1 : decode jdk_22_method_1_code 1 = .ok (.invokespecial 1, 3) := by decide +kernel
theorem d8_4 : decode jdk_22_method_1_code 4 = .ok (.return_, 1) := by decide +kernel
theorem ef8 (m : MethodId) (ad0 : Addr) : entryFrame m #[(.ref ad0)] 1 = mkF m 0 #[.val (.ref ad0)] [] := by first | (simp [entryFrame, mkF, argsToLocals, Value.category]; done) | rfl
def Q8 (Z : State) (ad0 : Addr) (h0 : Heap) (n0 : Nat) (v : Option Value) (h : Heap) (L : List Loc) : Prop := v = none ∧ Fr n0 L ∧ h = h0
set_option maxRecDepth 65536 in
set_option maxHeartbeats 40000000 in
theorem rm8 (l : Launch) (Z : State) (a0 : Array Value) (hw : ∀ d ∈ tables_1, d.before a0 Z = true) (ws : List Jvm.Cond) (ad0 : Addr) (h0 : Heap) (n0 : Nat) (Z0 : n0 ≤ h0.size) :
    MetFree l own_y8 (head1 (Jvm.Cond.code own_y8 jdk_22_method_1_code 1 none :: ws) ({ frames := 1, cells := 0, slots := 0, locals := 12 } : Room)) (fun a U => a = #[(.ref ad0)] ∧ Z.Warmed39 U.vm ∧ U.heap = h0) (fun _ _ _ _ _ => True) (fun _ U o U' => ∃ v L, o = .returned v ∧ Q8 Z ad0 h0 n0 v U'.heap L ∧ FrameEnd U o U' L ({ frames := 1, cells := 0, slots := 0, locals := 12 } : Room).cells ({ frames := 1, cells := 0, slots := 0, locals := 12 } : Room).slots) := by
  refine MetFree.of_bodySF (plainFor_of_name own_pn2) hisR ?_
  intro p e s m args below meth c s₁ Bd hml0 hP hK
  obtain ⟨rfl, hZ, hh⟩ := hP
  have hx := Bd.exec
  have hby := Bd.bytes
  have hml : c.maxLocals = 1 := hml0
  have hown : s.vm.findClass "java/util/AbstractCollection" = some m.cls := findClass_of_methodNamed Bd.named
  have hnm := (name_of_methodNamed Bd.named Bd.method).1
  have hlk : meth.locks = false := BodyLoose.notSynchronized Bd
  have X0 : Stand p l e ({ frames := 1, cells := 0, slots := 0, locals := 12 } : Room) s m #[(.ref ad0)] below meth c s₁ [] 0 0 := Stand.of_body Bd
  have e0 : s₁.heap = h0 := by rw [← hh, Bd.state]; rfl
  have N0 := Fr.nil n0
  obtain ⟨G, hG⟩ : ∃ G, G = own_G s (Q8 Z ad0 h0 n0) ({ frames := 1, cells := 0, slots := 0, locals := 12 } : Room).cells ({ frames := 1, cells := 0, slots := 0, locals := 12 } : Room).slots := ⟨_, rfl⟩
  show own_Fin p e below (own_G s (Q8 Z ad0 h0 n0) ({ frames := 1, cells := 0, slots := 0, locals := 12 } : Room).cells ({ frames := 1, cells := 0, slots := 0, locals := 12 } : Room).slots) (s₁.setTop (entryFrame m #[(.ref ad0)] 1))
  rw [← hG]
  refine own_to (fun _ kz => castTop (ef8 m ad0) kz) ?_
  show own_Fin p e below G (s₁.setTop (mkF m 0 #[.val (.ref ad0)] []))
  refine own_aloadN X0 hx (hb hby d8_0) rfl (rfl) ?_
  obtain ⟨T1, X1, e1, st1⟩ := initO X0 hx hZ hown (own_w hw 64 rfl) (own_w hw 19 rfl) (own_w hw 20 rfl) e0 (g := (mkF m 1 #[.val (.ref ad0)] [(.ref ad0)])) rfl (by rw [hml]; rfl) rfl (hb hby d8_1) (by decide) (W := 0) (by show 2 * 0 + _ ≤ _; exact Nat.le_of_eq rfl) (by decide)
  refine own_to st1 ?_
  show own_Fin p e below G (T1.setTop (mkF m 4 #[.val (.ref ad0)] []))
  exact own_retV X1 hx hlk hG Bd.returns (hb hby d8_4) (by decide) (by decide) ⟨rfl, N0, e1⟩
theorem own_pd0 : parseMethodDescriptor "()V" = some ⟨[], none⟩ := by decide +kernel
theorem own_pn3 : plainName own_cR = true := by first | (simp [plainName, overriddenIn]; done) | decide +kernel
theorem d2_0 : decode prog_67_method_1_code 0 = .ok (.aload_n 0, 1) := by decide +kernel
theorem d2_1 : decode prog_67_method_1_code 1 = .ok (.invokespecial 1, 3) := by decide +kernel
theorem d2_4 : decode prog_67_method_1_code 4 = .ok (.aload_n 0, 1) := by decide +kernel
theorem d2_5 : decode prog_67_method_1_code 5 = .ok (.lload_n 1, 1) := by decide +kernel
theorem d2_6 : decode prog_67_method_1_code 6 = .ok (.putfield 7, 3) := by decide +kernel
theorem d2_9 : decode prog_67_method_1_code 9 = .ok (.aload_n 0, 1) := by decide +kernel
theorem d2_10 : decode prog_67_method_1_code 10 = .ok (.lload_n 3, 1) := by decide +kernel
theorem d2_11 : decode prog_67_method_1_code 11 = .ok (.putfield 13, 3) := by decide +kernel
theorem d2_14 : decode prog_67_method_1_code 14 = .ok (.aload_n 0, 1) := by decide +kernel
theorem d2_15 : decode prog_67_method_1_code 15 = .ok (.aload 5, 2) := by decide +kernel
theorem d2_17 : decode prog_67_method_1_code 17 = .ok (.putfield 16, 3) := by decide +kernel
theorem d2_20 : decode prog_67_method_1_code 20 = .ok (.return_, 1) := by decide +kernel
theorem ef2 (m : MethodId) (ad0 : Addr) (x1 : Int64) (x2 : Int64) (ad3 : Addr) : entryFrame m #[(.ref ad0), (.long x1), (.long x2), (.ref ad3)] 6 = mkF m 0 #[.val (.ref ad0), .val (.long x1), .second, .val (.long x2), .second, .val (.ref ad3)] [] := by first | (simp [entryFrame, mkF, argsToLocals, Value.category]; done) | rfl
def Q2 (Z : State) (ad0 : Addr) (x1 : Int64) (x2 : Int64) (ad3 : Addr) (h0 : Heap) (n0 : Nat) (v : Option Value) (h : Heap) (L : List Loc) : Prop := v = none ∧ Fr n0 L ∧ Keep h0 h [ad0] ∧ Exa Z h ad0 own_cR ∧ Fld Z h ad0 own_cR "offset" "J" (.long x1) ∧ Fld Z h ad0 own_cR "generation" "J" (.long x2) ∧ Fld Z h ad0 own_cR "payload" "[B" (.ref ad3)
set_option maxRecDepth 65536 in
set_option maxHeartbeats 40000000 in
theorem rm2 (l : Launch) (Z : State) (a0 : Array Value) (hw : ∀ d ∈ tables_1, d.before a0 Z = true) (ws : List Jvm.Cond) (ad0 : Addr) (x1 : Int64) (x2 : Int64) (ad3 : Addr) (h0 : Heap) (n0 : Nat) (Z0 : n0 ≤ h0.size) (E_ad0 : Exa Z h0 ad0 own_cR) (F_offset_ad0 : Fld Z h0 ad0 own_cR "offset" "J" (.long (0 : Int64))) (F_generation_ad0 : Fld Z h0 ad0 own_cR "generation" "J" (.long (0 : Int64))) (F_payload_ad0 : Fld Z h0 ad0 own_cR "payload" "[B" .null) (g_ad0 : n0 ≤ ad0) :
    MetFree l own_y2 (head1 (Jvm.Cond.code own_y2 prog_67_method_1_code 6 none :: ws) ({ frames := 2, cells := 0, slots := 0, locals := 24 } : Room)) (fun a U => a = #[(.ref ad0), (.long x1), (.long x2), (.ref ad3)] ∧ Z.Warmed39 U.vm ∧ U.heap = h0) (fun _ _ _ _ _ => True) (fun _ U o U' => ∃ v L, o = .returned v ∧ Q2 Z ad0 x1 x2 ad3 h0 n0 v U'.heap L ∧ FrameEnd U o U' L ({ frames := 2, cells := 0, slots := 0, locals := 24 } : Room).cells ({ frames := 2, cells := 0, slots := 0, locals := 24 } : Room).slots) := by
  refine MetFree.of_bodySF (plainFor_of_name own_pn3) hisR ?_
  intro p e s m args below meth c s₁ Bd hml0 hP hK
  obtain ⟨rfl, hZ, hh⟩ := hP
  have hx := Bd.exec
  have hby := Bd.bytes
  have hml : c.maxLocals = 6 := hml0
  have hown : s.vm.findClass own_cR = some m.cls := findClass_of_methodNamed Bd.named
  have hnm := (name_of_methodNamed Bd.named Bd.method).1
  have hlk : meth.locks = false := BodyLoose.notSynchronized Bd
  have X0 : Stand p l e ({ frames := 2, cells := 0, slots := 0, locals := 24 } : Room) s m #[(.ref ad0), (.long x1), (.long x2), (.ref ad3)] below meth c s₁ [] 0 0 := Stand.of_body Bd
  have e0 : s₁.heap = h0 := by rw [← hh, Bd.state]; rfl
  have N0 := Fr.nil n0
  obtain ⟨G, hG⟩ : ∃ G, G = own_G s (Q2 Z ad0 x1 x2 ad3 h0 n0) ({ frames := 2, cells := 0, slots := 0, locals := 24 } : Room).cells ({ frames := 2, cells := 0, slots := 0, locals := 24 } : Room).slots := ⟨_, rfl⟩
  show own_Fin p e below (own_G s (Q2 Z ad0 x1 x2 ad3 h0 n0) ({ frames := 2, cells := 0, slots := 0, locals := 24 } : Room).cells ({ frames := 2, cells := 0, slots := 0, locals := 24 } : Room).slots) (s₁.setTop (entryFrame m #[(.ref ad0), (.long x1), (.long x2), (.ref ad3)] 6))
  rw [← hG]
  refine own_to (fun _ kz => castTop (ef2 m ad0 x1 x2 ad3) kz) ?_
  show own_Fin p e below G (s₁.setTop (mkF m 0 #[.val (.ref ad0), .val (.long x1), .second, .val (.long x2), .second, .val (.ref ad3)] []))
  refine own_aloadN X0 hx (hb hby d2_0) rfl (rfl) ?_
  obtain ⟨_, _, ⟨T1, L1, k1, n1⟩, -, X1, ⟨Lc1, hQ1, l1, y1, z1⟩, st1⟩ := X0.specialBack hx (y := own_y3) rfl hown (mvT hZ (own_w hw 13 rfl)) (mvT hZ (own_w hw 14 rfl)) (mvT hZ (own_w hw 17 rfl)) (by decide) (backOf (W := 0) (rm3 l Z a0 hw [] ad0 h0 n0 Z0 ) hZ (own_w hw 17 rfl) (own_w hw 16 rfl) (by decide) (by decide)) (g := (mkF m 1 #[.val (.ref ad0), .val (.long x1), .second, .val (.long x2), .second, .val (.ref ad3)] [(.ref ad0)])) rfl (by rw [hml]; rfl) (Steps.refl _) (a := ad0) (argsL := []) (rest := []) (lenOf own_pd0 rfl) rfl (by show 2 * 0 + _ ≤ _; exact Nat.le_of_eq rfl) (hb hby d2_1) (fun _ _ => ⟨rfl, e0, (by decide : 0 + 0 ≤ _), (by decide : 0 + 0 ≤ _)⟩)
  dsimp only [Pt.U, Pt.locs, Pt.cells, Pt.slots] at X1 l1 y1 z1 st1 hQ1
  subst l1 y1 z1
  obtain ⟨rfl, N1q, e1⟩ := hQ1
  obtain ⟨lo1, X1, N1⟩ : ∃ lo, Stand p l e _ s m _ below meth c T1 lo _ _ ∧ Fr n0 lo := ⟨_, X1, Fr.app N0 N1q⟩
  refine own_via st1 ?_
  show own_Fin p e below G (T1.setTop (mkF m 4 #[.val (.ref ad0), .val (.long x1), .second, .val (.long x2), .second, .val (.ref ad3)] []))
  refine own_aloadN X1 hx (hb hby d2_4) rfl (rfl) ?_
  refine own_lloadN X1 hx (hb hby d2_5) rfl ?_
  obtain ⟨T6, h6, X6, e6, W6, st6⟩ := putF X1 hx hZ hown (host := "") (Or.inl (own_w hw 21 rfl)) Via.refl e1 F_offset_ad0 E_ad0 (Or.inr ⟨(own_w hw 22 rfl), rfl, hnm⟩) (own_w hw 8 rfl) (ty := .long) (by decide) rfl rfl (g := (mkF m 6 #[.val (.ref ad0), .val (.long x1), .second, .val (.long x2), .second, .val (.ref ad3)] [(.long x1), (.ref ad0)])) rfl rfl (hb hby d2_6)
  refine own_to st6 ?_
  have Fw6 : Fld Z h6 ad0 own_cR "offset" "J" (.long x1) := Fld.same W6 F_offset_ad0
  obtain ⟨lo6, X6, N6⟩ : ∃ lo, Stand p l e _ s m _ below meth c T6 lo _ _ ∧ Fr n0 lo := ⟨_, X6, Fr.snoc X6 N1 g_ad0⟩
  show own_Fin p e below G (T6.setTop (mkF m 9 #[.val (.ref ad0), .val (.long x1), .second, .val (.long x2), .second, .val (.ref ad3)] []))
  refine own_aloadN X6 hx (hb hby d2_9) rfl (rfl) ?_
  refine own_lloadN X6 hx (hb hby d2_10) rfl ?_
  have E_ad0_at_11 := (E_ad0.wr W6)
  have F_generation_ad0_at_11 := (F_generation_ad0.other W6 (Or.inr (slot_ne (Or.inr (own_w hw 24 rfl)) (Or.inr (own_w hw 22 rfl)) (by decide) (t := .long) (t' := .long) (by decide) (by decide))))
  obtain ⟨T11, h11, X11, e11, W11, st11⟩ := putF X6 hx hZ hown (host := "") (Or.inl (own_w hw 23 rfl)) Via.refl e6 F_generation_ad0_at_11 E_ad0_at_11 (Or.inr ⟨(own_w hw 24 rfl), rfl, hnm⟩) (own_w hw 8 rfl) (ty := .long) (by decide) rfl rfl (g := (mkF m 11 #[.val (.ref ad0), .val (.long x1), .second, .val (.long x2), .second, .val (.ref ad3)] [(.long x2), (.ref ad0)])) rfl rfl (hb hby d2_11)
  refine own_to st11 ?_
  have Fw11 : Fld Z h11 ad0 own_cR "generation" "J" (.long x2) := Fld.same W11 F_generation_ad0_at_11
  obtain ⟨lo11, X11, N11⟩ : ∃ lo, Stand p l e _ s m _ below meth c T11 lo _ _ ∧ Fr n0 lo := ⟨_, X11, Fr.snoc X11 N6 g_ad0⟩
  show own_Fin p e below G (T11.setTop (mkF m 14 #[.val (.ref ad0), .val (.long x1), .second, .val (.long x2), .second, .val (.ref ad3)] []))
  refine own_aloadN X11 hx (hb hby d2_14) rfl (rfl) ?_
  refine own_aload X11 hx (hb hby d2_15) rfl (rfl) ?_
  have E_ad0_at_17 := (E_ad0_at_11.wr W11)
  have F_payload_ad0_at_17 := ((F_payload_ad0.other W6 (Or.inr (slot_ne (Or.inr (own_w hw 26 rfl)) (Or.inr (own_w hw 22 rfl)) (by decide) (t := (.array .byte)) (t' := .long) (by decide) (by decide)))).other W11 (Or.inr (slot_ne (Or.inr (own_w hw 26 rfl)) (Or.inr (own_w hw 24 rfl)) (by decide) (t := (.array .byte)) (t' := .long) (by decide) (by decide))))
  obtain ⟨T17, h17, X17, e17, W17, st17⟩ := putF X11 hx hZ hown (host := "") (Or.inl (own_w hw 25 rfl)) Via.refl e11 F_payload_ad0_at_17 E_ad0_at_17 (Or.inr ⟨(own_w hw 26 rfl), rfl, hnm⟩) (own_w hw 8 rfl) (ty := (.array .byte)) (by decide) rfl rfl (g := (mkF m 17 #[.val (.ref ad0), .val (.long x1), .second, .val (.long x2), .second, .val (.ref ad3)] [(.ref ad3), (.ref ad0)])) rfl rfl (hb hby d2_17)
  refine own_to st17 ?_
  have Fw17 : Fld Z h17 ad0 own_cR "payload" "[B" (.ref ad3) := Fld.same W17 F_payload_ad0_at_17
  obtain ⟨lo17, X17, N17⟩ : ∃ lo, Stand p l e _ s m _ below meth c T17 lo _ _ ∧ Fr n0 lo := ⟨_, X17, Fr.snoc X17 N11 g_ad0⟩
  show own_Fin p e below G (T17.setTop (mkF m 20 #[.val (.ref ad0), .val (.long x1), .second, .val (.long x2), .second, .val (.ref ad3)] []))
  have KP_20 : Keep h0 h17 [ad0] := ((((Keep.refl h0 [ad0]).wr W6 (Or.inl (List.mem_of_getElem? (i := 0) rfl))).wr W11 (Or.inl (List.mem_of_getElem? (i := 0) rfl))).wr W17 (Or.inl (List.mem_of_getElem? (i := 0) rfl)))
  have E_ad0_at_20 := (E_ad0_at_17.wr W17)
  have Fw6_at_20 := ((Fw6.other W11 (Or.inr (slot_ne (Or.inr (own_w hw 22 rfl)) (Or.inr (own_w hw 24 rfl)) (by decide) (t := .long) (t' := .long) (by decide) (by decide)))).other W17 (Or.inr (slot_ne (Or.inr (own_w hw 22 rfl)) (Or.inr (own_w hw 26 rfl)) (by decide) (t := .long) (t' := (.array .byte)) (by decide) (by decide))))
  have Fw11_at_20 := (Fw11.other W17 (Or.inr (slot_ne (Or.inr (own_w hw 24 rfl)) (Or.inr (own_w hw 26 rfl)) (by decide) (t := .long) (t' := (.array .byte)) (by decide) (by decide))))
  exact own_retV X17 hx hlk hG Bd.returns (hb hby d2_20) (by decide) (by decide) (by rw [e17]; exact ⟨rfl, N17, KP_20, E_ad0_at_20, Fw6_at_20, Fw11_at_20, Fw17⟩)
theorem own_pn4 : plainName "java/util/AbstractList" = true := by first | (simp [plainName, overriddenIn]; done) | decide +kernel
theorem d7_0 : decode jdk_39_method_1_code 0 = .ok (.aload_n 0, 1) := by decide +kernel
theorem d7_1 : decode jdk_39_method_1_code 1 = .ok (.invokespecial 1, 3) := by decide +kernel
theorem d7_4 : decode jdk_39_method_1_code 4 = .ok (.aload_n 0, 1) := by decide +kernel
theorem d7_5 : decode jdk_39_method_1_code 5 = .ok (.iconst 0, 1) := by decide +kernel
theorem d7_6 : decode jdk_39_method_1_code 6 = .ok (.putfield 7, 3) := by decide +kernel
theorem d7_9 : decode jdk_39_method_1_code 9 = .ok (.return_, 1) := by decide +kernel
theorem ef7 (m : MethodId) (ad0 : Addr) : entryFrame m #[(.ref ad0)] 1 = mkF m 0 #[.val (.ref ad0)] [] := by first | (simp [entryFrame, mkF, argsToLocals, Value.category]; done) | rfl
def Q7 (Z : State) (ad0 : Addr) (h0 : Heap) (n0 : Nat) (v : Option Value) (h : Heap) (L : List Loc) : Prop := v = none ∧ Fr n0 L ∧ Keep h0 h [ad0] ∧ Exa Z h ad0 own_cL ∧ Fld Z h ad0 "java/util/AbstractList" "modCount" "I" (.int (0 : Int32)) ∧ Fld Z h ad0 own_cL "elementData" own_cA .null ∧ Fld Z h ad0 own_cL "size" "I" (.int (0 : Int32))
set_option maxRecDepth 65536 in
set_option maxHeartbeats 40000000 in
theorem rm7 (l : Launch) (Z : State) (a0 : Array Value) (hw : ∀ d ∈ tables_1, d.before a0 Z = true) (ws : List Jvm.Cond) (ad0 : Addr) (h0 : Heap) (n0 : Nat) (Z0 : n0 ≤ h0.size) (E_ad0 : Exa Z h0 ad0 own_cL) (F_modCount_ad0 : Fld Z h0 ad0 "java/util/AbstractList" "modCount" "I" (.int (0 : Int32))) (F_elementData_ad0 : Fld Z h0 ad0 own_cL "elementData" own_cA .null) (F_size_ad0 : Fld Z h0 ad0 own_cL "size" "I" (.int (0 : Int32))) (g_ad0 : n0 ≤ ad0) :
    MetFree l own_y7 (head1 (Jvm.Cond.code own_y7 jdk_39_method_1_code 1 none :: ws) ({ frames := 2, cells := 0, slots := 0, locals := 24 } : Room)) (fun a U => a = #[(.ref ad0)] ∧ Z.Warmed39 U.vm ∧ U.heap = h0) (fun _ _ _ _ _ => True) (fun _ U o U' => ∃ v L, o = .returned v ∧ Q7 Z ad0 h0 n0 v U'.heap L ∧ FrameEnd U o U' L ({ frames := 2, cells := 0, slots := 0, locals := 24 } : Room).cells ({ frames := 2, cells := 0, slots := 0, locals := 24 } : Room).slots) := by
  refine MetFree.of_bodySF (plainFor_of_name own_pn4) hisR ?_
  intro p e s m args below meth c s₁ Bd hml0 hP hK
  obtain ⟨rfl, hZ, hh⟩ := hP
  have hx := Bd.exec
  have hby := Bd.bytes
  have hml : c.maxLocals = 1 := hml0
  have hown : s.vm.findClass "java/util/AbstractList" = some m.cls := findClass_of_methodNamed Bd.named
  have hnm := (name_of_methodNamed Bd.named Bd.method).1
  have hlk : meth.locks = false := BodyLoose.notSynchronized Bd
  have X0 : Stand p l e ({ frames := 2, cells := 0, slots := 0, locals := 24 } : Room) s m #[(.ref ad0)] below meth c s₁ [] 0 0 := Stand.of_body Bd
  have e0 : s₁.heap = h0 := by rw [← hh, Bd.state]; rfl
  have N0 := Fr.nil n0
  obtain ⟨G, hG⟩ : ∃ G, G = own_G s (Q7 Z ad0 h0 n0) ({ frames := 2, cells := 0, slots := 0, locals := 24 } : Room).cells ({ frames := 2, cells := 0, slots := 0, locals := 24 } : Room).slots := ⟨_, rfl⟩
  show own_Fin p e below (own_G s (Q7 Z ad0 h0 n0) ({ frames := 2, cells := 0, slots := 0, locals := 24 } : Room).cells ({ frames := 2, cells := 0, slots := 0, locals := 24 } : Room).slots) (s₁.setTop (entryFrame m #[(.ref ad0)] 1))
  rw [← hG]
  refine own_to (fun _ kz => castTop (ef7 m ad0) kz) ?_
  show own_Fin p e below G (s₁.setTop (mkF m 0 #[.val (.ref ad0)] []))
  refine own_aloadN X0 hx (hb hby d7_0) rfl (rfl) ?_
  obtain ⟨_, _, ⟨T1, L1, k1, n1⟩, -, X1, ⟨Lc1, hQ1, l1, y1, z1⟩, st1⟩ := X0.specialBack hx (y := own_y8) rfl hown (mvT hZ (own_w hw 58 rfl)) (mvT hZ (own_w hw 59 rfl)) (mvT hZ (own_w hw 63 rfl)) (by decide) (backOf (W := 0) (rm8 l Z a0 hw [] ad0 h0 n0 Z0 ) hZ (own_w hw 63 rfl) (own_w hw 62 rfl) (by decide) (by decide)) (g := (mkF m 1 #[.val (.ref ad0)] [(.ref ad0)])) rfl (by rw [hml]; rfl) (Steps.refl _) (a := ad0) (argsL := []) (rest := []) (lenOf own_pd0 rfl) rfl (by show 2 * 0 + _ ≤ _; exact Nat.le_of_eq rfl) (hb hby d7_1) (fun _ _ => ⟨rfl, e0, (by decide : 0 + 0 ≤ _), (by decide : 0 + 0 ≤ _)⟩)
  dsimp only [Pt.U, Pt.locs, Pt.cells, Pt.slots] at X1 l1 y1 z1 st1 hQ1
  subst l1 y1 z1
  obtain ⟨rfl, N1q, e1⟩ := hQ1
  obtain ⟨lo1, X1, N1⟩ : ∃ lo, Stand p l e _ s m _ below meth c T1 lo _ _ ∧ Fr n0 lo := ⟨_, X1, Fr.app N0 N1q⟩
  refine own_via st1 ?_
  show own_Fin p e below G (T1.setTop (mkF m 4 #[.val (.ref ad0)] []))
  refine own_aloadN X1 hx (hb hby d7_4) rfl (rfl) ?_
  refine own_iconst X1 hx (0) (hb hby d7_5) rfl ?_
  obtain ⟨T6, h6, X6, e6, W6, st6⟩ := putF X1 hx hZ hown (host := "") (Or.inl (own_w hw 65 rfl)) Via.refl e1 F_modCount_ad0 E_ad0 (Or.inl (own_w hw 66 rfl)) (own_w hw 47 rfl) (ty := .int) (by decide) rfl rfl (g := (mkF m 6 #[.val (.ref ad0)] [(.int (0 : Int32)), (.ref ad0)])) rfl rfl (hb hby d7_6)
  refine own_to st6 ?_
  have Fw6 : Fld Z h6 ad0 "java/util/AbstractList" "modCount" "I" (.int (0 : Int32)) := Fld.same W6 F_modCount_ad0
  obtain ⟨lo6, X6, N6⟩ : ∃ lo, Stand p l e _ s m _ below meth c T6 lo _ _ ∧ Fr n0 lo := ⟨_, X6, Fr.snoc X6 N1 g_ad0⟩
  show own_Fin p e below G (T6.setTop (mkF m 9 #[.val (.ref ad0)] []))
  have KP_9 : Keep h0 h6 [ad0] := ((Keep.refl h0 [ad0]).wr W6 (Or.inl (List.mem_of_getElem? (i := 0) rfl)))
  have E_ad0_at_9 := (E_ad0.wr W6)
  have F_elementData_ad0_at_9 := (F_elementData_ad0.other W6 (Or.inr (slot_ne (Or.inl (own_w hw 69 rfl)) (Or.inl (own_w hw 66 rfl)) (by decide) (t := (.array (.object "java/lang/Object"))) (t' := .int) (by decide) (by decide))))
  have F_size_ad0_at_9 := (F_size_ad0.other W6 (Or.inr (slot_ne (Or.inl (own_w hw 139 rfl)) (Or.inl (own_w hw 66 rfl)) (by decide) (t := .int) (t' := .int) (by decide) (by decide))))
  exact own_retV X6 hx hlk hG Bd.returns (hb hby d7_9) (by decide) (by decide) (by rw [e6]; exact ⟨rfl, N6, KP_9, E_ad0_at_9, Fw6, F_elementData_ad0_at_9, F_size_ad0_at_9⟩)
theorem own_pn5 : plainName own_cL = true := by first | (simp [plainName, overriddenIn]; done) | decide +kernel
theorem d6_0 : decode jdk_38_method_2_code 0 = .ok (.aload_n 0, 1) := by decide +kernel
theorem d6_1 : decode jdk_38_method_2_code 1 = .ok (.invokespecial 1, 3) := by decide +kernel
theorem d6_4 : decode jdk_38_method_2_code 4 = .ok (.aload_n 0, 1) := by decide +kernel
theorem d6_5 : decode jdk_38_method_2_code 5 = .ok (.getstatic 39, 3) := by decide +kernel
theorem d6_8 : decode jdk_38_method_2_code 8 = .ok (.putfield 9, 3) := by decide +kernel
theorem d6_11 : decode jdk_38_method_2_code 11 = .ok (.return_, 1) := by decide +kernel
theorem ef6 (m : MethodId) (ad0 : Addr) : entryFrame m #[(.ref ad0)] 1 = mkF m 0 #[.val (.ref ad0)] [] := by first | (simp [entryFrame, mkF, argsToLocals, Value.category]; done) | rfl
def Q6 (Z : State) (ad0 : Addr) (dc : Addr) (h0 : Heap) (n0 : Nat) (v : Option Value) (h : Heap) (L : List Loc) : Prop := v = none ∧ Fr n0 L ∧ Keep h0 h [ad0] ∧ Exa Z h ad0 own_cL ∧ Fld Z h ad0 "java/util/AbstractList" "modCount" "I" (.int (0 : Int32)) ∧ Fld Z h ad0 own_cL "elementData" own_cA (.ref dc) ∧ Fld Z h ad0 own_cL "size" "I" (.int (0 : Int32))
set_option maxRecDepth 65536 in
set_option maxHeartbeats 40000000 in
theorem rm6 (l : Launch) (Z : State) (a0 : Array Value) (hw : ∀ d ∈ tables_1, d.before a0 Z = true) (ws : List Jvm.Cond) (ad0 : Addr) (dc : Addr) (h0 : Heap) (n0 : Nat) (Z0 : n0 ≤ h0.size) (E_ad0 : Exa Z h0 ad0 own_cL) (F_modCount_ad0 : Fld Z h0 ad0 "java/util/AbstractList" "modCount" "I" (.int (0 : Int32))) (F_elementData_ad0 : Fld Z h0 ad0 own_cL "elementData" own_cA .null) (F_size_ad0 : Fld Z h0 ad0 own_cL "size" "I" (.int (0 : Int32))) (g_ad0 : n0 ≤ ad0) (S_DEFAULTCAPACITY_EMPTY_ELEMENTDATA : Sta Z h0 own_cL "DEFAULTCAPACITY_EMPTY_ELEMENTDATA" own_cA (.ref dc)) :
    MetFree l own_y6 (head1 (Jvm.Cond.code own_y6 jdk_38_method_2_code 1 none :: ws) ({ frames := 3, cells := 0, slots := 0, locals := 36 } : Room)) (fun a U => a = #[(.ref ad0)] ∧ Z.Warmed39 U.vm ∧ U.heap = h0) (fun _ _ _ _ _ => True) (fun _ U o U' => ∃ v L, o = .returned v ∧ Q6 Z ad0 dc h0 n0 v U'.heap L ∧ FrameEnd U o U' L ({ frames := 3, cells := 0, slots := 0, locals := 36 } : Room).cells ({ frames := 3, cells := 0, slots := 0, locals := 36 } : Room).slots) := by
  refine MetFree.of_bodySF (plainFor_of_name own_pn5) hisR ?_
  intro p e s m args below meth c s₁ Bd hml0 hP hK
  obtain ⟨rfl, hZ, hh⟩ := hP
  have hx := Bd.exec
  have hby := Bd.bytes
  have hml : c.maxLocals = 1 := hml0
  have hown : s.vm.findClass own_cL = some m.cls := findClass_of_methodNamed Bd.named
  have hnm := (name_of_methodNamed Bd.named Bd.method).1
  have hlk : meth.locks = false := BodyLoose.notSynchronized Bd
  have X0 : Stand p l e ({ frames := 3, cells := 0, slots := 0, locals := 36 } : Room) s m #[(.ref ad0)] below meth c s₁ [] 0 0 := Stand.of_body Bd
  have e0 : s₁.heap = h0 := by rw [← hh, Bd.state]; rfl
  have N0 := Fr.nil n0
  obtain ⟨G, hG⟩ : ∃ G, G = own_G s (Q6 Z ad0 dc h0 n0) ({ frames := 3, cells := 0, slots := 0, locals := 36 } : Room).cells ({ frames := 3, cells := 0, slots := 0, locals := 36 } : Room).slots := ⟨_, rfl⟩
  show own_Fin p e below (own_G s (Q6 Z ad0 dc h0 n0) ({ frames := 3, cells := 0, slots := 0, locals := 36 } : Room).cells ({ frames := 3, cells := 0, slots := 0, locals := 36 } : Room).slots) (s₁.setTop (entryFrame m #[(.ref ad0)] 1))
  rw [← hG]
  refine own_to (fun _ kz => castTop (ef6 m ad0) kz) ?_
  show own_Fin p e below G (s₁.setTop (mkF m 0 #[.val (.ref ad0)] []))
  refine own_aloadN X0 hx (hb hby d6_0) rfl (rfl) ?_
  obtain ⟨_, _, ⟨T1, L1, k1, n1⟩, -, X1, ⟨Lc1, hQ1, l1, y1, z1⟩, st1⟩ := X0.specialBack hx (y := own_y7) rfl hown (mvT hZ (own_w hw 52 rfl)) (mvT hZ (own_w hw 53 rfl)) (mvT hZ (own_w hw 57 rfl)) (by decide) (backOf (W := 0) (rm7 l Z a0 hw [] ad0 h0 n0 Z0 E_ad0 F_modCount_ad0 F_elementData_ad0 F_size_ad0 g_ad0) hZ (own_w hw 57 rfl) (own_w hw 56 rfl) (by decide) (by decide)) (g := (mkF m 1 #[.val (.ref ad0)] [(.ref ad0)])) rfl (by rw [hml]; rfl) (Steps.refl _) (a := ad0) (argsL := []) (rest := []) (lenOf own_pd0 rfl) rfl (by show 2 * 0 + _ ≤ _; exact Nat.le_of_eq rfl) (hb hby d6_1) (fun _ _ => ⟨rfl, e0, (by decide : 0 + 0 ≤ _), (by decide : 0 + 0 ≤ _)⟩)
  dsimp only [Pt.U, Pt.locs, Pt.cells, Pt.slots] at X1 l1 y1 z1 st1 hQ1
  subst l1 y1 z1
  obtain ⟨rfl, N1q, Kp1, P1_0, P1_1, P1_2, P1_3⟩ := hQ1
  obtain ⟨lo1, X1, N1⟩ : ∃ lo, Stand p l e _ s m _ below meth c T1 lo _ _ ∧ Fr n0 lo := ⟨_, X1, Fr.app N0 N1q⟩
  refine own_via st1 ?_
  show own_Fin p e below G (T1.setTop (mkF m 4 #[.val (.ref ad0)] []))
  refine own_aloadN X1 hx (hb hby d6_4) rfl (rfl) ?_
  have S_DEFAULTCAPACITY_EMPTY_ELEMENTDATA_at_5 := (own_staKeep S_DEFAULTCAPACITY_EMPTY_ELEMENTDATA Kp1 (allS (Exa.cell E_ad0) all0))
  obtain ⟨T5, X5, e5, st5⟩ := getS2 X1 hx hZ hown (host := "") (Or.inl (own_w hw 67 rfl)) Via.refl rfl S_DEFAULTCAPACITY_EMPTY_ELEMENTDATA_at_5 (g := (mkF m 5 #[.val (.ref ad0)] [(.ref ad0)])) rfl (hb hby d6_5)
  refine own_to st5 ?_
  show own_Fin p e below G (T5.setTop (mkF m 8 #[.val (.ref ad0)] [(.ref dc), (.ref ad0)]))
  obtain ⟨T8, h8, X8, e8, W8, st8⟩ := putF X5 hx hZ hown (host := "") (Or.inl (own_w hw 68 rfl)) Via.refl e5 P1_2 P1_0 (Or.inl (own_w hw 69 rfl)) (own_w hw 47 rfl) (ty := (.array (.object "java/lang/Object"))) (by decide) rfl rfl (g := (mkF m 8 #[.val (.ref ad0)] [(.ref dc), (.ref ad0)])) rfl rfl (hb hby d6_8)
  refine own_to st8 ?_
  have Fw8 : Fld Z h8 ad0 own_cL "elementData" own_cA (.ref dc) := Fld.same W8 P1_2
  obtain ⟨lo8, X8, N8⟩ : ∃ lo, Stand p l e _ s m _ below meth c T8 lo _ _ ∧ Fr n0 lo := ⟨_, X8, Fr.snoc X8 N1 g_ad0⟩
  show own_Fin p e below G (T8.setTop (mkF m 11 #[.val (.ref ad0)] []))
  have KP_11 : Keep h0 h8 [ad0] := (((Keep.refl h0 [ad0]).trans Kp1 (allS (Or.inl (List.mem_of_getElem? (i := 0) rfl)) all0)).wr W8 (Or.inl (List.mem_of_getElem? (i := 0) rfl)))
  have P1_0_at_11 := (P1_0.wr W8)
  have P1_1_at_11 := (P1_1.other W8 (Or.inr (slot_ne (Or.inl (own_w hw 66 rfl)) (Or.inl (own_w hw 69 rfl)) (by decide) (t := .int) (t' := (.array (.object "java/lang/Object"))) (by decide) (by decide))))
  have P1_3_at_11 := (P1_3.other W8 (Or.inr (slot_ne (Or.inl (own_w hw 139 rfl)) (Or.inl (own_w hw 69 rfl)) (by decide) (t := .int) (t' := (.array (.object "java/lang/Object"))) (by decide) (by decide))))
  exact own_retV X8 hx hlk hG Bd.returns (hb hby d6_11) (by decide) (by decide) (by rw [e8]; exact ⟨rfl, N8, KP_11, P1_0_at_11, P1_1_at_11, Fw8, P1_3_at_11⟩)
theorem own_pd1 : parseMethodDescriptor "(II)I" = some ⟨[.int, .int], some .int⟩ := by decide +kernel
theorem own_pn6 : plainName own_cE = true := by first | (simp [plainName, overriddenIn]; done) | decide +kernel
theorem d5_0 : decode prog_47_method_2_code 0 = .ok (.aload_n 0, 1) := by decide +kernel
theorem d5_1 : decode prog_47_method_2_code 1 = .ok (.invokespecial 12, 3) := by decide +kernel
theorem d5_4 : decode prog_47_method_2_code 4 = .ok (.aload_n 0, 1) := by decide +kernel
theorem d5_5 : decode prog_47_method_2_code 5 = .ok (.getstatic 17, 3) := by decide +kernel
theorem d5_8 : decode prog_47_method_2_code 8 = .ok (.putfield 21, 3) := by decide +kernel
theorem d5_11 : decode prog_47_method_2_code 11 = .ok (.aload_n 0, 1) := by decide +kernel
theorem d5_12 : decode prog_47_method_2_code 12 = .ok (.getstatic 24, 3) := by decide +kernel
theorem d5_15 : decode prog_47_method_2_code 15 = .ok (.putfield 28, 3) := by decide +kernel
theorem d5_18 : decode prog_47_method_2_code 18 = .ok (.aload_n 0, 1) := by decide +kernel
theorem d5_19 : decode prog_47_method_2_code 19 = .ok (.getstatic 24, 3) := by decide +kernel
theorem d5_22 : decode prog_47_method_2_code 22 = .ok (.putfield 31, 3) := by decide +kernel
theorem d5_25 : decode prog_47_method_2_code 25 = .ok (.aload_n 0, 1) := by decide +kernel
theorem d5_26 : decode prog_47_method_2_code 26 = .ok (.new 34, 3) := by decide +kernel
theorem d5_29 : decode prog_47_method_2_code 29 = .ok (.dup, 1) := by decide +kernel
theorem d5_30 : decode prog_47_method_2_code 30 = .ok (.invokespecial 36, 3) := by decide +kernel
theorem d5_33 : decode prog_47_method_2_code 33 = .ok (.putfield 37, 3) := by decide +kernel
theorem d5_36 : decode prog_47_method_2_code 36 = .ok (.aload_n 0, 1) := by decide +kernel
theorem d5_37 : decode prog_47_method_2_code 37 = .ok (.iconst (-1), 1) := by decide +kernel
theorem d5_38 : decode prog_47_method_2_code 38 = .ok (.putfield 41, 3) := by decide +kernel
theorem d5_41 : decode prog_47_method_2_code 41 = .ok (.aload_n 0, 1) := by decide +kernel
theorem d5_42 : decode prog_47_method_2_code 42 = .ok (.iload_n 1, 1) := by decide +kernel
theorem d5_43 : decode prog_47_method_2_code 43 = .ok (.ldc 7, 2) := by decide +kernel
theorem d5_45 : decode prog_47_method_2_code 45 = .ok (.invokestatic 45, 3) := by decide +kernel
theorem d5_48 : decode prog_47_method_2_code 48 = .ok (.putfield 51, 3) := by decide +kernel
theorem d5_51 : decode prog_47_method_2_code 51 = .ok (.return_, 1) := by decide +kernel
theorem ef5 (m : MethodId) (ad0 : Addr) (p1 : Int32) : entryFrame m #[(.ref ad0), (.int p1)] 2 = mkF m 0 #[.val (.ref ad0), .val (.int p1)] [] := by first | (simp [entryFrame, mkF, argsToLocals, Value.category]; done) | rfl
def Q5 (Z : State) (ad0 : Addr) (p1 : Int32) (dc : Addr) (nd : Addr) (nent : Addr) (h0 : Heap) (n0 : Nat) (v : Option Value) (h : Heap) (L : List Loc) : Prop := ∃ nw0 : Addr, v = none ∧ Fr n0 L ∧ Keep h0 h [ad0] ∧ h0.size ≤ nw0 ∧ Exa Z h ad0 own_cE ∧ Fld Z h ad0 own_cE "kept" "I" (.int (f9 p1 (2147483639 : Int32))) ∧ Fld Z h ad0 own_cE "offsets" "[J" (.ref nent) ∧ Fld Z h ad0 own_cE "lengths" "[J" (.ref nent) ∧ Fld Z h ad0 own_cE "whole" "Ljava/util/List;" (.ref nw0) ∧ Fld Z h ad0 own_cE "size" "I" (.int (0 : Int32)) ∧ Fld Z h ad0 own_cE "lastSpan" "I" (.int (-1 : Int32)) ∧ Fld Z h ad0 own_cE "taken" "I" (.int (0 : Int32)) ∧ Fld Z h ad0 own_cE "takenWhole" "I" (.int (0 : Int32)) ∧ Exa Z h nw0 own_cL ∧ Fld Z h nw0 "java/util/AbstractList" "modCount" "I" (.int (0 : Int32)) ∧ Fld Z h nw0 own_cL "elementData" own_cA (.ref dc) ∧ Fld Z h nw0 own_cL "size" "I" (.int (0 : Int32))
set_option maxRecDepth 65536 in
set_option maxHeartbeats 40000000 in
theorem rm5 (l : Launch) (Z : State) (a0 : Array Value) (hw : ∀ d ∈ tables_1, d.before a0 Z = true) (ws : List Jvm.Cond) (ad0 : Addr) (p1 : Int32) (dc : Addr) (nd : Addr) (nent : Addr) (h0 : Heap) (n0 : Nat) (Z0 : n0 ≤ h0.size) (E_ad0 : Exa Z h0 ad0 own_cE) (F_kept_ad0 : Fld Z h0 ad0 own_cE "kept" "I" (.int (0 : Int32))) (F_offsets_ad0 : Fld Z h0 ad0 own_cE "offsets" "[J" .null) (F_lengths_ad0 : Fld Z h0 ad0 own_cE "lengths" "[J" .null) (F_whole_ad0 : Fld Z h0 ad0 own_cE "whole" "Ljava/util/List;" .null) (F_size_ad0 : Fld Z h0 ad0 own_cE "size" "I" (.int (0 : Int32))) (F_lastSpan_ad0 : Fld Z h0 ad0 own_cE "lastSpan" "I" (.int (0 : Int32))) (F_taken_ad0 : Fld Z h0 ad0 own_cE "taken" "I" (.int (0 : Int32))) (F_takenWhole_ad0 : Fld Z h0 ad0 own_cE "takenWhole" "I" (.int (0 : Int32))) (F_data_ad0 : Fld Z h0 ad0 own_cE "data" "[B" .null) (g_ad0 : n0 ≤ ad0) (S_DEFAULTCAPACITY_EMPTY_ELEMENTDATA : Sta Z h0 own_cL "DEFAULTCAPACITY_EMPTY_ELEMENTDATA" own_cA (.ref dc)) (S_NO_DATA : Sta Z h0 own_cE "NO_DATA" "[B" (.ref nd)) (S_NO_ENTRIES : Sta Z h0 own_cE "NO_ENTRIES" "[J" (.ref nent)) :
    MetFree l own_y5 (head1 (Jvm.Cond.code own_y5 prog_47_method_2_code 2 none :: ws) ({ frames := 4, cells := 1, slots := 3, locals := 50 } : Room)) (fun a U => a = #[(.ref ad0), (.int p1)] ∧ Z.Warmed39 U.vm ∧ U.heap = h0) (fun _ _ _ _ _ => True) (fun _ U o U' => ∃ v L, o = .returned v ∧ Q5 Z ad0 p1 dc nd nent h0 n0 v U'.heap L ∧ FrameEnd U o U' L ({ frames := 4, cells := 1, slots := 3, locals := 50 } : Room).cells ({ frames := 4, cells := 1, slots := 3, locals := 50 } : Room).slots) := by
  refine MetFree.of_bodySF (plainFor_of_name own_pn6) hisR ?_
  intro p e s m args below meth c s₁ Bd hml0 hP hK
  obtain ⟨rfl, hZ, hh⟩ := hP
  have hx := Bd.exec
  have hby := Bd.bytes
  have hml : c.maxLocals = 2 := hml0
  have hown : s.vm.findClass own_cE = some m.cls := findClass_of_methodNamed Bd.named
  have hnm := (name_of_methodNamed Bd.named Bd.method).1
  have hlk : meth.locks = false := BodyLoose.notSynchronized Bd
  have X0 : Stand p l e ({ frames := 4, cells := 1, slots := 3, locals := 50 } : Room) s m #[(.ref ad0), (.int p1)] below meth c s₁ [] 0 0 := Stand.of_body Bd
  have e0 : s₁.heap = h0 := by rw [← hh, Bd.state]; rfl
  have N0 := Fr.nil n0
  obtain ⟨G, hG⟩ : ∃ G, G = own_G s (Q5 Z ad0 p1 dc nd nent h0 n0) ({ frames := 4, cells := 1, slots := 3, locals := 50 } : Room).cells ({ frames := 4, cells := 1, slots := 3, locals := 50 } : Room).slots := ⟨_, rfl⟩
  show own_Fin p e below (own_G s (Q5 Z ad0 p1 dc nd nent h0 n0) ({ frames := 4, cells := 1, slots := 3, locals := 50 } : Room).cells ({ frames := 4, cells := 1, slots := 3, locals := 50 } : Room).slots) (s₁.setTop (entryFrame m #[(.ref ad0), (.int p1)] 2))
  rw [← hG]
  refine own_to (fun _ kz => castTop (ef5 m ad0 p1) kz) ?_
  show own_Fin p e below G (s₁.setTop (mkF m 0 #[.val (.ref ad0), .val (.int p1)] []))
  refine own_aloadN X0 hx (hb hby d5_0) rfl (rfl) ?_
  obtain ⟨T1, X1, e1, st1⟩ := initO X0 hx hZ hown (own_w hw 35 rfl) (own_w hw 19 rfl) (own_w hw 20 rfl) e0 (g := (mkF m 1 #[.val (.ref ad0), .val (.int p1)] [(.ref ad0)])) rfl (by rw [hml]; rfl) rfl (hb hby d5_1) (by decide) (W := 0) (by show 2 * 0 + _ ≤ _; exact Nat.le_of_eq rfl) (by decide)
  refine own_to st1 ?_
  show own_Fin p e below G (T1.setTop (mkF m 4 #[.val (.ref ad0), .val (.int p1)] []))
  refine own_aloadN X1 hx (hb hby d5_4) rfl (rfl) ?_
  obtain ⟨T5, X5, e5, st5⟩ := getS2 X1 hx hZ hown (host := "") (Or.inl (own_w hw 36 rfl)) Via.refl e1 S_NO_DATA (g := (mkF m 5 #[.val (.ref ad0), .val (.int p1)] [(.ref ad0)])) rfl (hb hby d5_5)
  refine own_to st5 ?_
  show own_Fin p e below G (T5.setTop (mkF m 8 #[.val (.ref ad0), .val (.int p1)] [(.ref nd), (.ref ad0)]))
  obtain ⟨T8, h8, X8, e8, W8, st8⟩ := putF X5 hx hZ hown (host := "") (Or.inl (own_w hw 38 rfl)) Via.refl e5 F_data_ad0 E_ad0 (Or.inl (own_w hw 39 rfl)) (own_w hw 30 rfl) (ty := (.array .byte)) (by decide) rfl rfl (g := (mkF m 8 #[.val (.ref ad0), .val (.int p1)] [(.ref nd), (.ref ad0)])) rfl rfl (hb hby d5_8)
  refine own_to st8 ?_
  have Fw8 : Fld Z h8 ad0 own_cE "data" "[B" (.ref nd) := Fld.same W8 F_data_ad0
  obtain ⟨lo8, X8, N8⟩ : ∃ lo, Stand p l e _ s m _ below meth c T8 lo _ _ ∧ Fr n0 lo := ⟨_, X8, Fr.snoc X8 N0 g_ad0⟩
  show own_Fin p e below G (T8.setTop (mkF m 11 #[.val (.ref ad0), .val (.int p1)] []))
  refine own_aloadN X8 hx (hb hby d5_11) rfl (rfl) ?_
  have S_NO_ENTRIES_at_12 := (S_NO_ENTRIES.wr W8)
  obtain ⟨T12, X12, e12, st12⟩ := getS2 X8 hx hZ hown (host := "") (Or.inl (own_w hw 40 rfl)) Via.refl e8 S_NO_ENTRIES_at_12 (g := (mkF m 12 #[.val (.ref ad0), .val (.int p1)] [(.ref ad0)])) rfl (hb hby d5_12)
  refine own_to st12 ?_
  show own_Fin p e below G (T12.setTop (mkF m 15 #[.val (.ref ad0), .val (.int p1)] [(.ref nent), (.ref ad0)]))
  have E_ad0_at_15 := (E_ad0.wr W8)
  have F_offsets_ad0_at_15 := (F_offsets_ad0.other W8 (Or.inr (slot_ne (Or.inl (own_w hw 43 rfl)) (Or.inl (own_w hw 39 rfl)) (by decide) (t := (.array .long)) (t' := (.array .byte)) (by decide) (by decide))))
  obtain ⟨T15, h15, X15, e15, W15, st15⟩ := putF X12 hx hZ hown (host := "") (Or.inl (own_w hw 42 rfl)) Via.refl e12 F_offsets_ad0_at_15 E_ad0_at_15 (Or.inl (own_w hw 43 rfl)) (own_w hw 30 rfl) (ty := (.array .long)) (by decide) rfl rfl (g := (mkF m 15 #[.val (.ref ad0), .val (.int p1)] [(.ref nent), (.ref ad0)])) rfl rfl (hb hby d5_15)
  refine own_to st15 ?_
  have Fw15 : Fld Z h15 ad0 own_cE "offsets" "[J" (.ref nent) := Fld.same W15 F_offsets_ad0_at_15
  obtain ⟨lo15, X15, N15⟩ : ∃ lo, Stand p l e _ s m _ below meth c T15 lo _ _ ∧ Fr n0 lo := ⟨_, X15, Fr.snoc X15 N8 g_ad0⟩
  show own_Fin p e below G (T15.setTop (mkF m 18 #[.val (.ref ad0), .val (.int p1)] []))
  refine own_aloadN X15 hx (hb hby d5_18) rfl (rfl) ?_
  have S_NO_ENTRIES_at_19 := (S_NO_ENTRIES_at_12.wr W15)
  obtain ⟨T19, X19, e19, st19⟩ := getS2 X15 hx hZ hown (host := "") (Or.inl (own_w hw 40 rfl)) Via.refl e15 S_NO_ENTRIES_at_19 (g := (mkF m 19 #[.val (.ref ad0), .val (.int p1)] [(.ref ad0)])) rfl (hb hby d5_19)
  refine own_to st19 ?_
  show own_Fin p e below G (T19.setTop (mkF m 22 #[.val (.ref ad0), .val (.int p1)] [(.ref nent), (.ref ad0)]))
  have E_ad0_at_22 := (E_ad0_at_15.wr W15)
  have F_lengths_ad0_at_22 := ((F_lengths_ad0.other W8 (Or.inr (slot_ne (Or.inl (own_w hw 45 rfl)) (Or.inl (own_w hw 39 rfl)) (by decide) (t := (.array .long)) (t' := (.array .byte)) (by decide) (by decide)))).other W15 (Or.inr (slot_ne (Or.inl (own_w hw 45 rfl)) (Or.inl (own_w hw 43 rfl)) (by decide) (t := (.array .long)) (t' := (.array .long)) (by decide) (by decide))))
  obtain ⟨T22, h22, X22, e22, W22, st22⟩ := putF X19 hx hZ hown (host := "") (Or.inl (own_w hw 44 rfl)) Via.refl e19 F_lengths_ad0_at_22 E_ad0_at_22 (Or.inl (own_w hw 45 rfl)) (own_w hw 30 rfl) (ty := (.array .long)) (by decide) rfl rfl (g := (mkF m 22 #[.val (.ref ad0), .val (.int p1)] [(.ref nent), (.ref ad0)])) rfl rfl (hb hby d5_22)
  refine own_to st22 ?_
  have Fw22 : Fld Z h22 ad0 own_cE "lengths" "[J" (.ref nent) := Fld.same W22 F_lengths_ad0_at_22
  obtain ⟨lo22, X22, N22⟩ : ∃ lo, Stand p l e _ s m _ below meth c T22 lo _ _ ∧ Fr n0 lo := ⟨_, X22, Fr.snoc X22 N15 g_ad0⟩
  show own_Fin p e below G (T22.setTop (mkF m 25 #[.val (.ref ad0), .val (.int p1)] []))
  refine own_aloadN X22 hx (hb hby d5_25) rfl (rfl) ?_
  have Zz_26_W8 := Nat.le_trans Z0 (Nat.le_of_eq (Wr.size W8).symm)
  have Zz_26_W15 := Nat.le_trans Zz_26_W8 (Nat.le_of_eq (Wr.size W15).symm)
  have Zz_26_W22 := Nat.le_trans Zz_26_W15 (Nat.le_of_eq (Wr.size W22).symm)
  have Z_26 : n0 ≤ h22.size := Zz_26_W22
  have KP_26 : Keep h0 h22 [ad0] := ((((Keep.refl h0 [ad0]).wr W8 (Or.inl (List.mem_of_getElem? (i := 0) rfl))).wr W15 (Or.inl (List.mem_of_getElem? (i := 0) rfl))).wr W22 (Or.inl (List.mem_of_getElem? (i := 0) rfl)))
  obtain ⟨T26, h26, X26, e26, E26, A26, D26, -, st26⟩ := newO X22 hx hZ hown (own_w hw 46 rfl) (own_w hw 47 rfl) (own_w hw 48 rfl) e22 (g := (mkF m 26 #[.val (.ref ad0), .val (.int p1)] [(.ref ad0)])) rfl (hb hby d5_26) (by decide) (by decide)
  obtain ⟨b26, g26⟩ : ∃ z, z = h22.size := ⟨_, rfl⟩
  rw [← g26] at A26 D26 st26
  refine own_to st26 ?_
  have ne_ad0_b26 := Nat.ne_of_lt (Nat.lt_of_lt_of_le (E_ad0_at_22.wr W22).lt (Nat.le_of_eq g26.symm))
  have g_b26 : n0 ≤ b26 := Nat.le_trans Z_26 (Nat.le_of_eq g26.symm)
  have sz_b26 : h0.size ≤ b26 := Nat.le_trans KP_26.1 (Nat.le_of_eq g26.symm)
  have F_modCount_b26 : Fld Z h26 b26 "java/util/AbstractList" "modCount" "I" (.int (0 : Int32)) := D26 (Or.inl (own_w hw 66 rfl)) (ty := .int) (by decide)
  have F_elementData_b26 : Fld Z h26 b26 own_cL "elementData" own_cA .null := D26 (Or.inl (own_w hw 69 rfl)) (ty := (.array (.object "java/lang/Object"))) (by decide)
  have F_size_b26 : Fld Z h26 b26 own_cL "size" "I" (.int (0 : Int32)) := D26 (Or.inl (own_w hw 139 rfl)) (ty := .int) (by decide)
  show own_Fin p e below G (T26.setTop (mkF m 29 #[.val (.ref ad0), .val (.int p1)] [(.ref b26), (.ref ad0)]))
  refine own_dup X26 hx (hb hby d5_29) rfl ?_
  have S_DEFAULTCAPACITY_EMPTY_ELEMENTDATA_at_30 := ((((S_DEFAULTCAPACITY_EMPTY_ELEMENTDATA.wr W8).wr W15).wr W22).ext E26)
  have Zz_30_E26 := Nat.le_trans Z_26 E26.1
  have Z_30 : n0 ≤ h26.size := Zz_30_E26
  obtain ⟨_, _, ⟨T30, L30, k30, n30⟩, -, X30, ⟨Lc30, hQ30, l30, y30, z30⟩, st30⟩ := X26.specialBack hx (y := own_y6) rfl hown (mvT hZ (own_w hw 49 rfl)) (mvT hZ (own_w hw 50 rfl)) (mvT hZ (own_w hw 51 rfl)) (by decide) (backOf (W := 2) (rm6 l Z a0 hw [] b26 dc h26 n0 Z_30 A26 F_modCount_b26 F_elementData_b26 F_size_b26 g_b26 S_DEFAULTCAPACITY_EMPTY_ELEMENTDATA_at_30) hZ (own_w hw 51 rfl) (own_w hw 48 rfl) (by decide) (by decide)) (g := (mkF m 30 #[.val (.ref ad0), .val (.int p1)] [(.ref b26), (.ref b26), (.ref ad0)])) rfl (by rw [hml]; rfl) (Steps.refl _) (a := b26) (argsL := []) (rest := [(.ref b26), (.ref ad0)]) (lenOf own_pd0 rfl) rfl (by show 2 * 0 + _ ≤ _; exact Nat.le_of_eq rfl) (hb hby d5_30) (fun _ _ => ⟨rfl, e26, (by decide : 1 + 0 ≤ _), (by decide : 3 + 0 ≤ _)⟩)
  dsimp only [Pt.U, Pt.locs, Pt.cells, Pt.slots] at X30 l30 y30 z30 st30 hQ30
  subst l30 y30 z30
  obtain ⟨rfl, N30q, Kp30, P30_0, P30_1, P30_2, P30_3⟩ := hQ30
  obtain ⟨lo30, X30, N30⟩ : ∃ lo, Stand p l e _ s m _ below meth c T30 lo _ _ ∧ Fr n0 lo := ⟨_, X30, Fr.app N22 N30q⟩
  refine own_via st30 ?_
  show own_Fin p e below G (T30.setTop (mkF m 33 #[.val (.ref ad0), .val (.int p1)] [(.ref b26), (.ref ad0)]))
  have E_ad0_at_33 := (((E_ad0_at_22.wr W22).ext E26).keep Kp30)
  have F_whole_ad0_at_33 := (((((F_whole_ad0.other W8 (Or.inr (slot_ne (Or.inr (own_w hw 71 rfl)) (Or.inl (own_w hw 39 rfl)) (by decide) (t := (.object "java/util/List")) (t' := (.array .byte)) (by decide) (by decide)))).other W15 (Or.inr (slot_ne (Or.inr (own_w hw 71 rfl)) (Or.inl (own_w hw 43 rfl)) (by decide) (t := (.object "java/util/List")) (t' := (.array .long)) (by decide) (by decide)))).other W22 (Or.inr (slot_ne (Or.inr (own_w hw 71 rfl)) (Or.inl (own_w hw 45 rfl)) (by decide) (t := (.object "java/util/List")) (t' := (.array .long)) (by decide) (by decide)))).ext E26).keep Kp30 (ninS ne_ad0_b26 nin0))
  obtain ⟨T33, h33, X33, e33, W33, st33⟩ := putF X30 hx hZ hown (host := "") (Or.inl (own_w hw 70 rfl)) Via.refl rfl F_whole_ad0_at_33 E_ad0_at_33 (Or.inr ⟨(own_w hw 71 rfl), rfl, hnm⟩) (own_w hw 30 rfl) (ty := (.object "java/util/List")) (by decide) rfl rfl (g := (mkF m 33 #[.val (.ref ad0), .val (.int p1)] [(.ref b26), (.ref ad0)])) rfl rfl (hb hby d5_33)
  refine own_to st33 ?_
  have Fw33 : Fld Z h33 ad0 own_cE "whole" "Ljava/util/List;" (.ref b26) := Fld.same W33 F_whole_ad0_at_33
  obtain ⟨lo33, X33, N33⟩ : ∃ lo, Stand p l e _ s m _ below meth c T33 lo _ _ ∧ Fr n0 lo := ⟨_, X33, Fr.snoc X33 N30 g_ad0⟩
  show own_Fin p e below G (T33.setTop (mkF m 36 #[.val (.ref ad0), .val (.int p1)] []))
  refine own_aloadN X33 hx (hb hby d5_36) rfl (rfl) ?_
  refine own_iconst X33 hx (-1) (hb hby d5_37) rfl ?_
  have E_ad0_at_38 := (E_ad0_at_33.wr W33)
  have F_lastSpan_ad0_at_38 := ((((((F_lastSpan_ad0.other W8 (Or.inr (slot_ne (Or.inl (own_w hw 73 rfl)) (Or.inl (own_w hw 39 rfl)) (by decide) (t := .int) (t' := (.array .byte)) (by decide) (by decide)))).other W15 (Or.inr (slot_ne (Or.inl (own_w hw 73 rfl)) (Or.inl (own_w hw 43 rfl)) (by decide) (t := .int) (t' := (.array .long)) (by decide) (by decide)))).other W22 (Or.inr (slot_ne (Or.inl (own_w hw 73 rfl)) (Or.inl (own_w hw 45 rfl)) (by decide) (t := .int) (t' := (.array .long)) (by decide) (by decide)))).ext E26).keep Kp30 (ninS ne_ad0_b26 nin0)).other W33 (Or.inr (slot_ne (Or.inl (own_w hw 73 rfl)) (Or.inr (own_w hw 71 rfl)) (by decide) (t := .int) (t' := (.object "java/util/List")) (by decide) (by decide))))
  obtain ⟨T38, h38, X38, e38, W38, st38⟩ := putF X33 hx hZ hown (host := "") (Or.inl (own_w hw 72 rfl)) Via.refl e33 F_lastSpan_ad0_at_38 E_ad0_at_38 (Or.inl (own_w hw 73 rfl)) (own_w hw 30 rfl) (ty := .int) (by decide) rfl rfl (g := (mkF m 38 #[.val (.ref ad0), .val (.int p1)] [(.int (-1 : Int32)), (.ref ad0)])) rfl rfl (hb hby d5_38)
  refine own_to st38 ?_
  have Fw38 : Fld Z h38 ad0 own_cE "lastSpan" "I" (.int (-1 : Int32)) := Fld.same W38 F_lastSpan_ad0_at_38
  obtain ⟨lo38, X38, N38⟩ : ∃ lo, Stand p l e _ s m _ below meth c T38 lo _ _ ∧ Fr n0 lo := ⟨_, X38, Fr.snoc X38 N33 g_ad0⟩
  show own_Fin p e below G (T38.setTop (mkF m 41 #[.val (.ref ad0), .val (.int p1)] []))
  refine own_aloadN X38 hx (hb hby d5_41) rfl (rfl) ?_
  refine own_iloadN X38 hx (hb hby d5_42) rfl ?_
  refine own_to (fun _ kz => X38.ldcInt hx hown (mvT hZ (own_w hw 74 rfl)) (g := (mkF m 43 #[.val (.ref ad0), .val (.int p1)] [(.int p1), (.ref ad0)])) rfl (hb hby d5_43) _ kz) ?_
  show own_Fin p e below G (T38.setTop (mkF m 45 #[.val (.ref ad0), .val (.int p1)] [(.int (2147483639 : Int32)), (.int p1), (.ref ad0)]))
  have Zz_45_Kp30 := Nat.le_trans Z_30 Kp30.1
  have Zz_45_W33 := Nat.le_trans Zz_45_Kp30 (Nat.le_of_eq (Wr.size W33).symm)
  have Zz_45_W38 := Nat.le_trans Zz_45_W33 (Nat.le_of_eq (Wr.size W38).symm)
  have Z_45 : n0 ≤ h38.size := Zz_45_W38
  obtain ⟨_, _, ⟨T45, L45, k45, n45⟩, -, X45, ⟨Lc45, hQ45, l45, y45, z45⟩, st45⟩ := Jvm.LawKit.callS X38 hx (y := own_y9) hown (mvT hZ (own_w hw 75 rfl)) (mvT hZ (own_w hw 76 rfl)) (mvT hZ (own_w hw 3 rfl)) (mvT hZ (own_w hw 77 rfl)) (by decide) (backOf (W := 1) (rm9 l Z a0 hw [] p1 (2147483639 : Int32) h38 n0 Z_45) hZ (own_w hw 77 rfl) (own_w hw 3 rfl) (by decide) (by decide)) (g := (mkF m 45 #[.val (.ref ad0), .val (.int p1)] [(.int (2147483639 : Int32)), (.int p1), (.ref ad0)])) rfl (by rw [hml]; rfl) (argsL := [(.int p1), (.int (2147483639 : Int32))]) (rest := [(.ref ad0)]) (lenOf own_pd1 rfl) rfl (by show 2 * 0 + _ ≤ _; exact Nat.le_of_eq rfl) (hb hby d5_45) (fun _ _ => ⟨rfl, e38, (by decide : 1 + 0 ≤ _), (by decide : 3 + 0 ≤ _)⟩)
  dsimp only [Pt.U, Pt.locs, Pt.cells, Pt.slots] at X45 l45 y45 z45 st45 hQ45
  subst l45 y45 z45
  obtain ⟨rfl, N45q, e45⟩ := hQ45
  obtain ⟨lo45, X45, N45⟩ : ∃ lo, Stand p l e _ s m _ below meth c T45 lo _ _ ∧ Fr n0 lo := ⟨_, X45, Fr.app N38 N45q⟩
  refine own_to st45 ?_
  show own_Fin p e below G (T45.setTop (mkF m 48 #[.val (.ref ad0), .val (.int p1)] [(.int (f9 p1 (2147483639 : Int32))), (.ref ad0)]))
  have E_ad0_at_48 := (E_ad0_at_38.wr W38)
  have F_kept_ad0_at_48 := (((((((F_kept_ad0.other W8 (Or.inr (slot_ne (Or.inr (own_w hw 79 rfl)) (Or.inl (own_w hw 39 rfl)) (by decide) (t := .int) (t' := (.array .byte)) (by decide) (by decide)))).other W15 (Or.inr (slot_ne (Or.inr (own_w hw 79 rfl)) (Or.inl (own_w hw 43 rfl)) (by decide) (t := .int) (t' := (.array .long)) (by decide) (by decide)))).other W22 (Or.inr (slot_ne (Or.inr (own_w hw 79 rfl)) (Or.inl (own_w hw 45 rfl)) (by decide) (t := .int) (t' := (.array .long)) (by decide) (by decide)))).ext E26).keep Kp30 (ninS ne_ad0_b26 nin0)).other W33 (Or.inr (slot_ne (Or.inr (own_w hw 79 rfl)) (Or.inr (own_w hw 71 rfl)) (by decide) (t := .int) (t' := (.object "java/util/List")) (by decide) (by decide)))).other W38 (Or.inr (slot_ne (Or.inr (own_w hw 79 rfl)) (Or.inl (own_w hw 73 rfl)) (by decide) (t := .int) (t' := .int) (by decide) (by decide))))
  obtain ⟨T48, h48, X48, e48, W48, st48⟩ := putF X45 hx hZ hown (host := "") (Or.inl (own_w hw 78 rfl)) Via.refl e45 F_kept_ad0_at_48 E_ad0_at_48 (Or.inr ⟨(own_w hw 79 rfl), rfl, hnm⟩) (own_w hw 30 rfl) (ty := .int) (by decide) rfl rfl (g := (mkF m 48 #[.val (.ref ad0), .val (.int p1)] [(.int (f9 p1 (2147483639 : Int32))), (.ref ad0)])) rfl rfl (hb hby d5_48)
  refine own_to st48 ?_
  have Fw48 : Fld Z h48 ad0 own_cE "kept" "I" (.int (f9 p1 (2147483639 : Int32))) := Fld.same W48 F_kept_ad0_at_48
  obtain ⟨lo48, X48, N48⟩ : ∃ lo, Stand p l e _ s m _ below meth c T48 lo _ _ ∧ Fr n0 lo := ⟨_, X48, Fr.snoc X48 N45 g_ad0⟩
  show own_Fin p e below G (T48.setTop (mkF m 51 #[.val (.ref ad0), .val (.int p1)] []))
  have KP_51 : Keep h0 h48 [ad0] := (((((KP_26.ext E26).trans Kp30 (allS (Or.inr sz_b26) all0)).wr W33 (Or.inl (List.mem_of_getElem? (i := 0) rfl))).wr W38 (Or.inl (List.mem_of_getElem? (i := 0) rfl))).wr W48 (Or.inl (List.mem_of_getElem? (i := 0) rfl)))
  have E_ad0_at_51 := (E_ad0_at_48.wr W48)
  have Fw15_at_51 := ((((((Fw15.other W22 (Or.inr (slot_ne (Or.inl (own_w hw 43 rfl)) (Or.inl (own_w hw 45 rfl)) (by decide) (t := (.array .long)) (t' := (.array .long)) (by decide) (by decide)))).ext E26).keep Kp30 (ninS ne_ad0_b26 nin0)).other W33 (Or.inr (slot_ne (Or.inl (own_w hw 43 rfl)) (Or.inr (own_w hw 71 rfl)) (by decide) (t := (.array .long)) (t' := (.object "java/util/List")) (by decide) (by decide)))).other W38 (Or.inr (slot_ne (Or.inl (own_w hw 43 rfl)) (Or.inl (own_w hw 73 rfl)) (by decide) (t := (.array .long)) (t' := .int) (by decide) (by decide)))).other W48 (Or.inr (slot_ne (Or.inl (own_w hw 43 rfl)) (Or.inr (own_w hw 79 rfl)) (by decide) (t := (.array .long)) (t' := .int) (by decide) (by decide))))
  have Fw22_at_51 := (((((Fw22.ext E26).keep Kp30 (ninS ne_ad0_b26 nin0)).other W33 (Or.inr (slot_ne (Or.inl (own_w hw 45 rfl)) (Or.inr (own_w hw 71 rfl)) (by decide) (t := (.array .long)) (t' := (.object "java/util/List")) (by decide) (by decide)))).other W38 (Or.inr (slot_ne (Or.inl (own_w hw 45 rfl)) (Or.inl (own_w hw 73 rfl)) (by decide) (t := (.array .long)) (t' := .int) (by decide) (by decide)))).other W48 (Or.inr (slot_ne (Or.inl (own_w hw 45 rfl)) (Or.inr (own_w hw 79 rfl)) (by decide) (t := (.array .long)) (t' := .int) (by decide) (by decide))))
  have Fw33_at_51 := ((Fw33.other W38 (Or.inr (slot_ne (Or.inr (own_w hw 71 rfl)) (Or.inl (own_w hw 73 rfl)) (by decide) (t := (.object "java/util/List")) (t' := .int) (by decide) (by decide)))).other W48 (Or.inr (slot_ne (Or.inr (own_w hw 71 rfl)) (Or.inr (own_w hw 79 rfl)) (by decide) (t := (.object "java/util/List")) (t' := .int) (by decide) (by decide))))
  have F_size_ad0_at_51 := ((((((((F_size_ad0.other W8 (Or.inr (slot_ne (Or.inl (own_w hw 97 rfl)) (Or.inl (own_w hw 39 rfl)) (by decide) (t := .int) (t' := (.array .byte)) (by decide) (by decide)))).other W15 (Or.inr (slot_ne (Or.inl (own_w hw 97 rfl)) (Or.inl (own_w hw 43 rfl)) (by decide) (t := .int) (t' := (.array .long)) (by decide) (by decide)))).other W22 (Or.inr (slot_ne (Or.inl (own_w hw 97 rfl)) (Or.inl (own_w hw 45 rfl)) (by decide) (t := .int) (t' := (.array .long)) (by decide) (by decide)))).ext E26).keep Kp30 (ninS ne_ad0_b26 nin0)).other W33 (Or.inr (slot_ne (Or.inl (own_w hw 97 rfl)) (Or.inr (own_w hw 71 rfl)) (by decide) (t := .int) (t' := (.object "java/util/List")) (by decide) (by decide)))).other W38 (Or.inr (slot_ne (Or.inl (own_w hw 97 rfl)) (Or.inl (own_w hw 73 rfl)) (by decide) (t := .int) (t' := .int) (by decide) (by decide)))).other W48 (Or.inr (slot_ne (Or.inl (own_w hw 97 rfl)) (Or.inr (own_w hw 79 rfl)) (by decide) (t := .int) (t' := .int) (by decide) (by decide))))
  have Fw38_at_51 := (Fw38.other W48 (Or.inr (slot_ne (Or.inl (own_w hw 73 rfl)) (Or.inr (own_w hw 79 rfl)) (by decide) (t := .int) (t' := .int) (by decide) (by decide))))
  have F_taken_ad0_at_51 := ((((((((F_taken_ad0.other W8 (Or.inr (slot_ne (Or.inl (own_w hw 172 rfl)) (Or.inl (own_w hw 39 rfl)) (by decide) (t := .int) (t' := (.array .byte)) (by decide) (by decide)))).other W15 (Or.inr (slot_ne (Or.inl (own_w hw 172 rfl)) (Or.inl (own_w hw 43 rfl)) (by decide) (t := .int) (t' := (.array .long)) (by decide) (by decide)))).other W22 (Or.inr (slot_ne (Or.inl (own_w hw 172 rfl)) (Or.inl (own_w hw 45 rfl)) (by decide) (t := .int) (t' := (.array .long)) (by decide) (by decide)))).ext E26).keep Kp30 (ninS ne_ad0_b26 nin0)).other W33 (Or.inr (slot_ne (Or.inl (own_w hw 172 rfl)) (Or.inr (own_w hw 71 rfl)) (by decide) (t := .int) (t' := (.object "java/util/List")) (by decide) (by decide)))).other W38 (Or.inr (slot_ne (Or.inl (own_w hw 172 rfl)) (Or.inl (own_w hw 73 rfl)) (by decide) (t := .int) (t' := .int) (by decide) (by decide)))).other W48 (Or.inr (slot_ne (Or.inl (own_w hw 172 rfl)) (Or.inr (own_w hw 79 rfl)) (by decide) (t := .int) (t' := .int) (by decide) (by decide))))
  have F_takenWhole_ad0_at_51 := ((((((((F_takenWhole_ad0.other W8 (Or.inr (slot_ne (Or.inl (own_w hw 205 rfl)) (Or.inl (own_w hw 39 rfl)) (by decide) (t := .int) (t' := (.array .byte)) (by decide) (by decide)))).other W15 (Or.inr (slot_ne (Or.inl (own_w hw 205 rfl)) (Or.inl (own_w hw 43 rfl)) (by decide) (t := .int) (t' := (.array .long)) (by decide) (by decide)))).other W22 (Or.inr (slot_ne (Or.inl (own_w hw 205 rfl)) (Or.inl (own_w hw 45 rfl)) (by decide) (t := .int) (t' := (.array .long)) (by decide) (by decide)))).ext E26).keep Kp30 (ninS ne_ad0_b26 nin0)).other W33 (Or.inr (slot_ne (Or.inl (own_w hw 205 rfl)) (Or.inr (own_w hw 71 rfl)) (by decide) (t := .int) (t' := (.object "java/util/List")) (by decide) (by decide)))).other W38 (Or.inr (slot_ne (Or.inl (own_w hw 205 rfl)) (Or.inl (own_w hw 73 rfl)) (by decide) (t := .int) (t' := .int) (by decide) (by decide)))).other W48 (Or.inr (slot_ne (Or.inl (own_w hw 205 rfl)) (Or.inr (own_w hw 79 rfl)) (by decide) (t := .int) (t' := .int) (by decide) (by decide))))
  have P30_0_at_51 := (((P30_0.wr W33).wr W38).wr W48)
  have P30_1_at_51 := (((P30_1.other W33 (Or.inl (Ne.symm ne_ad0_b26))).other W38 (Or.inl (Ne.symm ne_ad0_b26))).other W48 (Or.inl (Ne.symm ne_ad0_b26)))
  have P30_2_at_51 := (((P30_2.other W33 (Or.inl (Ne.symm ne_ad0_b26))).other W38 (Or.inl (Ne.symm ne_ad0_b26))).other W48 (Or.inl (Ne.symm ne_ad0_b26)))
  have P30_3_at_51 := (((P30_3.other W33 (Or.inl (Ne.symm ne_ad0_b26))).other W38 (Or.inl (Ne.symm ne_ad0_b26))).other W48 (Or.inl (Ne.symm ne_ad0_b26)))
  exact own_retV X48 hx hlk hG Bd.returns (hb hby d5_51) (by decide) (by decide) (by rw [e48]; exact ⟨b26, rfl, N48, KP_51, sz_b26, E_ad0_at_51, Fw48, Fw15_at_51, Fw22_at_51, Fw33_at_51, F_size_ad0_at_51, Fw38_at_51, F_taken_ad0_at_51, F_takenWhole_ad0_at_51, P30_0_at_51, P30_1_at_51, P30_2_at_51, P30_3_at_51⟩)
theorem own_pn7 : plainName "java/util/Arrays" = true := by first | (simp [plainName, overriddenIn]; done) | decide +kernel
theorem d17_0 : decode jdk_65_method_124_code 0 = .ok (.iload_n 1, 1) := by decide +kernel
theorem d17_1 : decode jdk_65_method_124_code 1 = .ok (.aload_n 0, 1) := by decide +kernel
theorem d17_2 : decode jdk_65_method_124_code 2 = .ok (.arraylength, 1) := by decide +kernel
theorem d17_3 : decode jdk_65_method_124_code 3 = .ok (.if_icmp .ne 11, 3) := by decide +kernel
theorem d17_6 : decode jdk_65_method_124_code 6 = .ok (.aload_n 0, 1) := by decide +kernel
theorem d17_7 : decode jdk_65_method_124_code 7 = .ok (.invokevirtual 319, 3) := by decide +kernel
theorem d17_10 : decode jdk_65_method_124_code 10 = .ok (.checkcast 320, 3) := by decide +kernel
theorem d17_13 : decode jdk_65_method_124_code 13 = .ok (.areturn, 1) := by decide +kernel
theorem d17_14 : decode jdk_65_method_124_code 14 = .ok (.iload_n 1, 1) := by decide +kernel
theorem d17_15 : decode jdk_65_method_124_code 15 = .ok (.newarray .long, 2) := by decide +kernel
theorem d17_17 : decode jdk_65_method_124_code 17 = .ok (.astore_n 2, 1) := by decide +kernel
theorem d17_18 : decode jdk_65_method_124_code 18 = .ok (.aload_n 0, 1) := by decide +kernel
theorem d17_19 : decode jdk_65_method_124_code 19 = .ok (.iconst 0, 1) := by decide +kernel
theorem d17_20 : decode jdk_65_method_124_code 20 = .ok (.aload_n 2, 1) := by decide +kernel
theorem d17_21 : decode jdk_65_method_124_code 21 = .ok (.iconst 0, 1) := by decide +kernel
theorem d17_22 : decode jdk_65_method_124_code 22 = .ok (.aload_n 0, 1) := by decide +kernel
theorem d17_23 : decode jdk_65_method_124_code 23 = .ok (.arraylength, 1) := by decide +kernel
theorem d17_24 : decode jdk_65_method_124_code 24 = .ok (.iload_n 1, 1) := by decide +kernel
theorem d17_25 : decode jdk_65_method_124_code 25 = .ok (.invokestatic 304, 3) := by decide +kernel
theorem d17_28 : decode jdk_65_method_124_code 28 = .ok (.invokestatic 150, 3) := by decide +kernel
theorem d17_31 : decode jdk_65_method_124_code 31 = .ok (.aload_n 2, 1) := by decide +kernel
theorem d17_32 : decode jdk_65_method_124_code 32 = .ok (.areturn, 1) := by decide +kernel
theorem ef17 (m : MethodId) (ad0 : Addr) : entryFrame m #[(.ref ad0), (.int (16 : Int32))] 3 = mkF m 0 #[.val (.ref ad0), .val (.int (16 : Int32)), .unset] [] := by first | (simp [entryFrame, mkF, argsToLocals, Value.category]; done) | rfl
def Q17 (Z : State) (ad0 : Addr) (fz : Nat → Int64) (h0 : Heap) (n0 : Nat) (v : Option Value) (h : Heap) (L : List Loc) : Prop := ∃ nw0 : Addr, v = some (.ref nw0) ∧ Fr n0 L ∧ Keep h0 h [] ∧ h0.size ≤ nw0 ∧ own_AV Value.long Z h nw0 .long 16 (fun _ => (0 : Int64))
set_option maxRecDepth 65536 in
set_option maxHeartbeats 40000000 in
theorem rm17 (l : Launch) (Z : State) (a0 : Array Value) (hw : ∀ d ∈ tables_1, d.before a0 Z = true) (ws : List Jvm.Cond) (ad0 : Addr) (fz : Nat → Int64) (h0 : Heap) (n0 : Nat) (Z0 : n0 ≤ h0.size) (V_ad0 : own_AV Value.long Z h0 ad0 .long 0 fz) :
    MetFree l own_y17 (head1 (Jvm.Cond.code own_y17 jdk_65_method_124_code 3 (some (.array .long)) :: ws) ({ frames := 1, cells := 1, slots := 16, locals := 20 } : Room)) (fun a U => a = #[(.ref ad0), (.int (16 : Int32))] ∧ Z.Warmed39 U.vm ∧ U.heap = h0) (fun _ _ _ _ _ => True) (fun _ U o U' => ∃ v L, o = .returned v ∧ Q17 Z ad0 fz h0 n0 v U'.heap L ∧ FrameEnd U o U' L ({ frames := 1, cells := 1, slots := 16, locals := 20 } : Room).cells ({ frames := 1, cells := 1, slots := 16, locals := 20 } : Room).slots) := by
  refine MetFree.of_bodySF (plainFor_of_name own_pn7) hisR ?_
  intro p e s m args below meth c s₁ Bd hml0 hP hK
  obtain ⟨rfl, hZ, hh⟩ := hP
  have hx := Bd.exec
  have hby := Bd.bytes
  have hml : c.maxLocals = 3 := hml0
  have hown : s.vm.findClass "java/util/Arrays" = some m.cls := findClass_of_methodNamed Bd.named
  have hnm := (name_of_methodNamed Bd.named Bd.method).1
  have hlk : meth.locks = false := BodyLoose.notSynchronized Bd
  have X0 : Stand p l e ({ frames := 1, cells := 1, slots := 16, locals := 20 } : Room) s m #[(.ref ad0), (.int (16 : Int32))] below meth c s₁ [] 0 0 := Stand.of_body Bd
  have e0 : s₁.heap = h0 := by rw [← hh, Bd.state]; rfl
  have N0 := Fr.nil n0
  obtain ⟨G, hG⟩ : ∃ G, G = own_G s (Q17 Z ad0 fz h0 n0) ({ frames := 1, cells := 1, slots := 16, locals := 20 } : Room).cells ({ frames := 1, cells := 1, slots := 16, locals := 20 } : Room).slots := ⟨_, rfl⟩
  show own_Fin p e below (own_G s (Q17 Z ad0 fz h0 n0) ({ frames := 1, cells := 1, slots := 16, locals := 20 } : Room).cells ({ frames := 1, cells := 1, slots := 16, locals := 20 } : Room).slots) (s₁.setTop (entryFrame m #[(.ref ad0), (.int (16 : Int32))] 3))
  rw [← hG]
  refine own_to (fun _ kz => castTop (ef17 m ad0) kz) ?_
  show own_Fin p e below G (s₁.setTop (mkF m 0 #[.val (.ref ad0), .val (.int (16 : Int32)), .unset] []))
  refine own_iloadN X0 hx (hb hby d17_0) rfl ?_
  refine own_aloadN X0 hx (hb hby d17_1) rfl (rfl) ?_
  refine own_to (fun _ kz => own_alen X0 hx hZ e0 V_ad0 (z := (0 : Int32)) rfl (g := (mkF m 2 #[.val (.ref ad0), .val (.int (16 : Int32)), .unset] [(.ref ad0), (.int (16 : Int32))])) rfl rfl (hb hby d17_2) kz) ?_
  show own_Fin p e below G (s₁.setTop (mkF m 3 #[.val (.ref ad0), .val (.int (16 : Int32)), .unset] [(.int (0 : Int32)), (.int (16 : Int32))]))
  have hc3 : ¬ ((16 : Int32) = (0 : Int32)) := by decide
  refine own_to (fun _ kz => XS.icmpYes X0.here hx rfl (pc0 := 3) (pc' := 14) rfl (hb hby d17_3) rfl (feq hc3).2 (by decide) (by decide) kz) ?_
  show own_Fin p e below G (s₁.setTop (mkF m 14 #[.val (.ref ad0), .val (.int (16 : Int32)), .unset] []))
  refine own_iloadN X0 hx (hb hby d17_14) rfl ?_
  obtain ⟨T15, h15, k15, X15, e15, E15, A15, st15⟩ := newP X0 hx hZ (own_w hw 116 rfl) e0 (g := (mkF m 15 #[.val (.ref ad0), .val (.int (16 : Int32)), .unset] [(.int (16 : Int32))])) rfl (hb hby d17_15) rfl (by decide) (cap := 16) (by decide) (by decide) (by decide) (by decide)
  obtain ⟨b15, g15⟩ : ∃ z, z = h0.size := ⟨_, rfl⟩
  rw [← g15] at A15 st15
  refine own_to st15 ?_
  have ne_ad0_b15 := Nat.ne_of_lt (Nat.lt_of_lt_of_le V_ad0.lt (Nat.le_of_eq g15.symm))
  have g_b15 : n0 ≤ b15 := Nat.le_trans Z0 (Nat.le_of_eq g15.symm)
  have sz_b15 : h0.size ≤ b15 := Nat.le_trans (Keep.refl h0 []).1 (Nat.le_of_eq g15.symm)
  have V15 : own_AV Value.long Z h15 b15 .long 16 (fun _ => (0 : Int64)) := own_AV.new A15 (by decide) (by decide) (fun _ => rfl)
  show own_Fin p e below G (T15.setTop (mkF m 17 #[.val (.ref ad0), .val (.int (16 : Int32)), .unset] [(.ref b15)]))
  refine own_to (fun _ kz => XS.astoreN X15.here hx rfl (hb hby d17_17) rfl (rfl) (l' := #[.val (.ref ad0), .val (.int (16 : Int32)), .val (.ref b15)]) rfl kz) ?_
  show own_Fin p e below G (T15.setTop (mkF m 18 #[.val (.ref ad0), .val (.int (16 : Int32)), .val (.ref b15)] []))
  refine own_aloadN X15 hx (hb hby d17_18) rfl (rfl) ?_
  refine own_iconst X15 hx (0) (hb hby d17_19) rfl ?_
  refine own_aloadN X15 hx (hb hby d17_20) rfl (rfl) ?_
  refine own_iconst X15 hx (0) (hb hby d17_21) rfl ?_
  refine own_aloadN X15 hx (hb hby d17_22) rfl (rfl) ?_
  have V_ad0_at_23 := (V_ad0.ext E15)
  refine own_to (fun _ kz => own_alen X15 hx hZ e15 V_ad0_at_23 (z := (0 : Int32)) rfl (g := (mkF m 23 #[.val (.ref ad0), .val (.int (16 : Int32)), .val (.ref b15)] [(.ref ad0), (.int (0 : Int32)), (.ref b15), (.int (0 : Int32)), (.ref ad0)])) rfl rfl (hb hby d17_23) kz) ?_
  show own_Fin p e below G (T15.setTop (mkF m 24 #[.val (.ref ad0), .val (.int (16 : Int32)), .val (.ref b15)] [(.int (0 : Int32)), (.int (0 : Int32)), (.ref b15), (.int (0 : Int32)), (.ref ad0)]))
  refine own_iloadN X15 hx (hb hby d17_24) rfl ?_
  have Zz_25_E15 := Nat.le_trans Z0 E15.1
  have Z_25 : n0 ≤ h15.size := Zz_25_E15
  obtain ⟨_, _, ⟨T25, L25, k25, n25⟩, -, X25, ⟨Lc25, hQ25, l25, y25, z25⟩, st25⟩ := Jvm.LawKit.callS X15 hx (y := own_y9) hown (mvT hZ (own_w hw 117 rfl)) (mvT hZ (own_w hw 76 rfl)) (mvT hZ (own_w hw 3 rfl)) (mvT hZ (own_w hw 77 rfl)) (by decide) (backOf (W := 4) (rm9 l Z a0 hw [] (0 : Int32) (16 : Int32) h15 n0 Z_25) hZ (own_w hw 77 rfl) (own_w hw 3 rfl) (by decide) (by decide)) (g := (mkF m 25 #[.val (.ref ad0), .val (.int (16 : Int32)), .val (.ref b15)] [(.int (16 : Int32)), (.int (0 : Int32)), (.int (0 : Int32)), (.ref b15), (.int (0 : Int32)), (.ref ad0)])) rfl (by rw [hml]; rfl) (argsL := [(.int (0 : Int32)), (.int (16 : Int32))]) (rest := [(.int (0 : Int32)), (.ref b15), (.int (0 : Int32)), (.ref ad0)]) (lenOf own_pd1 rfl) rfl (by show 2 * 0 + _ ≤ _; exact Nat.le_of_eq rfl) (hb hby d17_25) (fun _ _ => ⟨rfl, e15, (by decide : 1 + 0 ≤ _), (by decide : 16 + 0 ≤ _)⟩)
  dsimp only [Pt.U, Pt.locs, Pt.cells, Pt.slots] at X25 l25 y25 z25 st25 hQ25
  subst l25 y25 z25
  obtain ⟨hv25, N25q, e25⟩ := hQ25
  rw [show (f9 (0 : Int32) (16 : Int32)) = (0 : Int32) from (by decide)] at hv25
  subst hv25
  obtain ⟨lo25, X25, N25⟩ : ∃ lo, Stand p l e _ s m _ below meth c T25 lo _ _ ∧ Fr n0 lo := ⟨_, X25, Fr.app N0 N25q⟩
  refine own_to st25 ?_
  show own_Fin p e below G (T25.setTop (mkF m 28 #[.val (.ref ad0), .val (.int (16 : Int32)), .val (.ref b15)] [(.int (0 : Int32)), (.int (0 : Int32)), (.ref b15), (.int (0 : Int32)), (.ref ad0)]))
  obtain ⟨T28, h28, lo28, X28, e28, N28, Kp28, V28, st28⟩ := own_cp0 X25 hx hZ hown (own_w hw 118 rfl) (own_w hw 121 rfl) (own_w hw 119 rfl) (own_w hw 120 rfl) e25 V_ad0_at_23 V15 N25 g_b15 (g := (mkF m 28 #[.val (.ref ad0), .val (.int (16 : Int32)), .val (.ref b15)] [(.int (0 : Int32)), (.int (0 : Int32)), (.ref b15), (.int (0 : Int32)), (.ref ad0)])) rfl (by rw [hml]; rfl) rfl (hb hby d17_28) (by decide) (W := 0) (by show 2 * 0 + _ ≤ _; exact Nat.le_of_eq rfl) (by decide)
  refine own_to st28 ?_
  show own_Fin p e below G (T28.setTop (mkF m 31 #[.val (.ref ad0), .val (.int (16 : Int32)), .val (.ref b15)] []))
  refine own_aloadN X28 hx (hb hby d17_31) rfl (rfl) ?_
  have KP_32 : Keep h0 h28 [] := (((Keep.refl h0 []).ext E15).trans Kp28 (allS (Or.inr sz_b15) all0))
  exact own_retA X28 hx hlk hG Bd.returns rfl rfl (hb hby d17_32) (by decide) (by decide) (by rw [e28]; exact ⟨b15, rfl, N28, KP_32, sz_b15, V28⟩)
theorem own_pd2 : parseMethodDescriptor "(JJ)J" = some ⟨[.long, .long], some .long⟩ := by decide +kernel
theorem d15_0 : decode prog_47_method_16_code 0 = .ok (.lload_n 1, 1) := by decide +kernel
theorem d15_1 : decode prog_47_method_16_code 1 = .ok (.ldc2_w 164, 3) := by decide +kernel
theorem d15_4 : decode prog_47_method_16_code 4 = .ok (.iload_n 0, 1) := by decide +kernel
theorem d15_5 : decode prog_47_method_16_code 5 = .ok (.i2l, 1) := by decide +kernel
theorem d15_6 : decode prog_47_method_16_code 6 = .ok (.lmul, 1) := by decide +kernel
theorem d15_7 : decode prog_47_method_16_code 7 = .ok (.invokestatic 157, 3) := by decide +kernel
theorem d15_10 : decode prog_47_method_16_code 10 = .ok (.lstore 5, 2) := by decide +kernel
theorem d15_12 : decode prog_47_method_16_code 12 = .ok (.lload_n 1, 1) := by decide +kernel
theorem d15_13 : decode prog_47_method_16_code 13 = .ok (.lload_n 3, 1) := by decide +kernel
theorem d15_14 : decode prog_47_method_16_code 14 = .ok (.lcmp, 1) := by decide +kernel
theorem d15_15 : decode prog_47_method_16_code 15 = .ok (.ifCond .gt 11, 3) := by decide +kernel
theorem d15_18 : decode prog_47_method_16_code 18 = .ok (.lload 5, 2) := by decide +kernel
theorem d15_20 : decode prog_47_method_16_code 20 = .ok (.lload_n 3, 1) := by decide +kernel
theorem d15_21 : decode prog_47_method_16_code 21 = .ok (.invokestatic 166, 3) := by decide +kernel
theorem d15_24 : decode prog_47_method_16_code 24 = .ok (.lstore 5, 2) := by decide +kernel
theorem d15_26 : decode prog_47_method_16_code 26 = .ok (.ldc2_w 168, 3) := by decide +kernel
theorem d15_29 : decode prog_47_method_16_code 29 = .ok (.lload 5, 2) := by decide +kernel
theorem d15_31 : decode prog_47_method_16_code 31 = .ok (.invokestatic 166, 3) := by decide +kernel
theorem d15_34 : decode prog_47_method_16_code 34 = .ok (.l2i, 1) := by decide +kernel
theorem d15_35 : decode prog_47_method_16_code 35 = .ok (.ireturn, 1) := by decide +kernel
theorem ef15 (m : MethodId) (p0 : Int32) (x1 : Int64) (x2 : Int64) : entryFrame m #[(.int p0), (.long x1), (.long x2)] 7 = mkF m 0 #[.val (.int p0), .val (.long x1), .second, .val (.long x2), .second, .unset, .unset] [] := by first | (simp [entryFrame, mkF, argsToLocals, Value.category]; done) | rfl
def f15_26 (p0 : Int32) (x1 : Int64) (x2 : Int64) (w5_26 : Int64) : Int32 := ((f16 (2147483639 : Int64) w5_26).toInt32)
def f15 (p0 : Int32) (x1 : Int64) (x2 : Int64) : Int32 := if x2 < x1 then (f15_26 p0 x1 x2 (f1 x1 ((2 : Int64) * (p0.toInt64)))) else (f15_26 p0 x1 x2 (f16 (f1 x1 ((2 : Int64) * (p0.toInt64))) x2))
def Q15 (Z : State) (p0 : Int32) (x1 : Int64) (x2 : Int64) (h0 : Heap) (n0 : Nat) (v : Option Value) (h : Heap) (L : List Loc) : Prop := v = some (.int (f15 p0 x1 x2)) ∧ Fr n0 L ∧ h = h0
set_option maxRecDepth 65536 in
set_option maxHeartbeats 40000000 in
theorem rm15 (l : Launch) (Z : State) (a0 : Array Value) (hw : ∀ d ∈ tables_1, d.before a0 Z = true) (ws : List Jvm.Cond) (p0 : Int32) (x1 : Int64) (x2 : Int64) (h0 : Heap) (n0 : Nat) (Z0 : n0 ≤ h0.size) :
    MetFree l own_y15 (head1 (Jvm.Cond.code own_y15 prog_47_method_16_code 7 (some .int) :: ws) ({ frames := 1, cells := 0, slots := 0, locals := 15 } : Room)) (fun a U => a = #[(.int p0), (.long x1), (.long x2)] ∧ Z.Warmed39 U.vm ∧ U.heap = h0) (fun _ _ _ _ _ => True) (fun _ U o U' => ∃ v L, o = .returned v ∧ Q15 Z p0 x1 x2 h0 n0 v U'.heap L ∧ FrameEnd U o U' L ({ frames := 1, cells := 0, slots := 0, locals := 15 } : Room).cells ({ frames := 1, cells := 0, slots := 0, locals := 15 } : Room).slots) := by
  refine MetFree.of_bodySF (plainFor_of_name own_pn6) hisR ?_
  intro p e s m args below meth c s₁ Bd hml0 hP hK
  obtain ⟨rfl, hZ, hh⟩ := hP
  have hx := Bd.exec
  have hby := Bd.bytes
  have hml : c.maxLocals = 7 := hml0
  have hown : s.vm.findClass own_cE = some m.cls := findClass_of_methodNamed Bd.named
  have hnm := (name_of_methodNamed Bd.named Bd.method).1
  have hlk : meth.locks = false := BodyLoose.notSynchronized Bd
  have X0 : Stand p l e ({ frames := 1, cells := 0, slots := 0, locals := 15 } : Room) s m #[(.int p0), (.long x1), (.long x2)] below meth c s₁ [] 0 0 := Stand.of_body Bd
  have e0 : s₁.heap = h0 := by rw [← hh, Bd.state]; rfl
  have N0 := Fr.nil n0
  obtain ⟨G, hG⟩ : ∃ G, G = own_G s (Q15 Z p0 x1 x2 h0 n0) ({ frames := 1, cells := 0, slots := 0, locals := 15 } : Room).cells ({ frames := 1, cells := 0, slots := 0, locals := 15 } : Room).slots := ⟨_, rfl⟩
  show own_Fin p e below (own_G s (Q15 Z p0 x1 x2 h0 n0) ({ frames := 1, cells := 0, slots := 0, locals := 15 } : Room).cells ({ frames := 1, cells := 0, slots := 0, locals := 15 } : Room).slots) (s₁.setTop (entryFrame m #[(.int p0), (.long x1), (.long x2)] 7))
  rw [← hG]
  refine own_to (fun _ kz => castTop (ef15 m p0 x1 x2) kz) ?_
  have q0 : (f15 p0 x1 x2) = (f15 p0 x1 x2) := rfl
  show own_Fin p e below G (s₁.setTop (mkF m 0 #[.val (.int p0), .val (.long x1), .second, .val (.long x2), .second, .unset, .unset] []))
  refine own_lloadN X0 hx (hb hby d15_0) rfl ?_
  refine own_to (fun _ kz => X0.ldc2Long hx hown (mvT hZ (own_w hw 107 rfl)) (g := (mkF m 1 #[.val (.int p0), .val (.long x1), .second, .val (.long x2), .second, .unset, .unset] [(.long x1)])) rfl (hb hby d15_1) _ kz) ?_
  show own_Fin p e below G (s₁.setTop (mkF m 4 #[.val (.int p0), .val (.long x1), .second, .val (.long x2), .second, .unset, .unset] [(.long (2 : Int64)), (.long x1)]))
  refine own_iloadN X0 hx (hb hby d15_4) rfl ?_
  refine own_to (fun _ kz => XS.i2l X0.here hx rfl (hb hby d15_5) rfl kz) ?_
  show own_Fin p e below G (s₁.setTop (mkF m 6 #[.val (.int p0), .val (.long x1), .second, .val (.long x2), .second, .unset, .unset] [(.long (p0.toInt64)), (.long (2 : Int64)), (.long x1)]))
  refine own_to (fun _ kz => XS.lmul X0.here hx rfl (hb hby d15_6) rfl kz) ?_
  show own_Fin p e below G (s₁.setTop (mkF m 7 #[.val (.int p0), .val (.long x1), .second, .val (.long x2), .second, .unset, .unset] [(.long ((2 : Int64) * (p0.toInt64))), (.long x1)]))
  obtain ⟨_, _, ⟨T7, L7, k7, n7⟩, -, X7, ⟨Lc7, hQ7, l7, y7, z7⟩, st7⟩ := Jvm.LawKit.callS X0 hx (y := own_y1) hown (mvT hZ (own_w hw 103 rfl)) (mvT hZ (own_w hw 2 rfl)) (mvT hZ (own_w hw 3 rfl)) (mvT hZ (own_w hw 4 rfl)) (by decide) (backOf (W := 0) (rm1 l Z a0 hw [] x1 ((2 : Int64) * (p0.toInt64)) h0 n0 Z0) hZ (own_w hw 4 rfl) (own_w hw 3 rfl) (by decide) (by decide)) (g := (mkF m 7 #[.val (.int p0), .val (.long x1), .second, .val (.long x2), .second, .unset, .unset] [(.long ((2 : Int64) * (p0.toInt64))), (.long x1)])) rfl (by rw [hml]; rfl) (argsL := [(.long x1), (.long ((2 : Int64) * (p0.toInt64)))]) (rest := []) (lenOf own_pd2 rfl) rfl (by show 2 * 0 + _ ≤ _; exact Nat.le_of_eq rfl) (hb hby d15_7) (fun _ _ => ⟨rfl, e0, (by decide : 0 + 0 ≤ _), (by decide : 0 + 0 ≤ _)⟩)
  dsimp only [Pt.U, Pt.locs, Pt.cells, Pt.slots] at X7 l7 y7 z7 st7 hQ7
  subst l7 y7 z7
  obtain ⟨rfl, N7q, e7⟩ := hQ7
  obtain ⟨lo7, X7, N7⟩ : ∃ lo, Stand p l e _ s m _ below meth c T7 lo _ _ ∧ Fr n0 lo := ⟨_, X7, Fr.app N0 N7q⟩
  refine own_to st7 ?_
  show own_Fin p e below G (T7.setTop (mkF m 10 #[.val (.int p0), .val (.long x1), .second, .val (.long x2), .second, .unset, .unset] [(.long (f1 x1 ((2 : Int64) * (p0.toInt64))))]))
  refine own_to (fun _ kz => XS.lstore X7.here hx rfl (hb hby d15_10) rfl (l' := #[.val (.int p0), .val (.long x1), .second, .val (.long x2), .second, .val (.long (f1 x1 ((2 : Int64) * (p0.toInt64)))), .second]) rfl kz) ?_
  show own_Fin p e below G (T7.setTop (mkF m 12 #[.val (.int p0), .val (.long x1), .second, .val (.long x2), .second, .val (.long (f1 x1 ((2 : Int64) * (p0.toInt64)))), .second] []))
  refine own_lloadN X7 hx (hb hby d15_12) rfl ?_
  refine own_lloadN X7 hx (hb hby d15_13) rfl ?_
  refine own_to (fun _ kz => XS.lcmp X7.here hx rfl (hb hby d15_14) rfl kz) ?_
  show own_Fin p e below G (T7.setTop (mkF m 15 #[.val (.int p0), .val (.long x1), .second, .val (.long x2), .second, .val (.long (f1 x1 ((2 : Int64) * (p0.toInt64)))), .second] [(.int (lcmpW x1 x2))]))
  have K26 : ∀ (w5_26 : Int64) (T_j26 : State) (locs_j26 : List Loc) (N_j26 : Fr n0 locs_j26) (X_j26 : Stand p l e ({ frames := 1, cells := 0, slots := 0, locals := 15 } : Room) s m #[(.int p0), (.long x1), (.long x2)] below meth c T_j26 locs_j26 0 0) (e_j26 : T_j26.heap = h0) (q_j26 : (f15 p0 x1 x2) = (f15_26 p0 x1 x2 w5_26)), own_Fin p e below G (T_j26.setTop (mkF m 26 #[.val (.int p0), .val (.long x1), .second, .val (.long x2), .second, .val (.long w5_26), .second] [])) := by
    intro w5_26 T_j26 locs_j26 N_j26 X_j26 e_j26 q_j26
    refine own_to (fun _ kz => X_j26.ldc2Long hx hown (mvT hZ (own_w hw 108 rfl)) (g := (mkF m 26 #[.val (.int p0), .val (.long x1), .second, .val (.long x2), .second, .val (.long w5_26), .second] [])) rfl (hb hby d15_26) _ kz) ?_
    show own_Fin p e below G (T_j26.setTop (mkF m 29 #[.val (.int p0), .val (.long x1), .second, .val (.long x2), .second, .val (.long w5_26), .second] [(.long (2147483639 : Int64))]))
    refine own_lload X_j26 hx (hb hby d15_29) rfl ?_
    obtain ⟨_, _, ⟨T31, L31, k31, n31⟩, -, X31, ⟨Lc31, hQ31, l31, y31, z31⟩, st31⟩ := Jvm.LawKit.callS X_j26 hx (y := own_y16) hown (mvT hZ (own_w hw 109 rfl)) (mvT hZ (own_w hw 110 rfl)) (mvT hZ (own_w hw 3 rfl)) (mvT hZ (own_w hw 111 rfl)) (by decide) (backOf (W := 0) (rm16 l Z a0 hw [] (2147483639 : Int64) w5_26 h0 n0 Z0) hZ (own_w hw 111 rfl) (own_w hw 3 rfl) (by decide) (by decide)) (g := (mkF m 31 #[.val (.int p0), .val (.long x1), .second, .val (.long x2), .second, .val (.long w5_26), .second] [(.long w5_26), (.long (2147483639 : Int64))])) rfl (by rw [hml]; rfl) (argsL := [(.long (2147483639 : Int64)), (.long w5_26)]) (rest := []) (lenOf own_pd2 rfl) rfl (by show 2 * 0 + _ ≤ _; exact Nat.le_of_eq rfl) (hb hby d15_31) (fun _ _ => ⟨rfl, e_j26, (by decide : 0 + 0 ≤ _), (by decide : 0 + 0 ≤ _)⟩)
    dsimp only [Pt.U, Pt.locs, Pt.cells, Pt.slots] at X31 l31 y31 z31 st31 hQ31
    subst l31 y31 z31
    obtain ⟨rfl, N31q, e31⟩ := hQ31
    obtain ⟨lo31, X31, N31⟩ : ∃ lo, Stand p l e _ s m _ below meth c T31 lo _ _ ∧ Fr n0 lo := ⟨_, X31, Fr.app N_j26 N31q⟩
    refine own_to st31 ?_
    show own_Fin p e below G (T31.setTop (mkF m 34 #[.val (.int p0), .val (.long x1), .second, .val (.long x2), .second, .val (.long w5_26), .second] [(.long (f16 (2147483639 : Int64) w5_26))]))
    refine own_to (fun _ kz => XS.l2i X31.here hx rfl (hb hby d15_34) rfl kz) ?_
    show own_Fin p e below G (T31.setTop (mkF m 35 #[.val (.int p0), .val (.long x1), .second, .val (.long x2), .second, .val (.long w5_26), .second] [(.int ((f16 (2147483639 : Int64) w5_26).toInt32))]))
    exact own_retI X31 hx hlk hG Bd.returns (hb hby d15_35) (by decide) (by decide) ⟨(congrArg (fun z => some (Value.int z)) q_j26).symm, N31, e31⟩
  by_cases hc15 : x2 < x1
  · refine own_to (fun _ kz => XS.ifYes X7.here hx rfl (pc0 := 15) (pc' := 26) rfl (hb hby d15_15) rfl ((if0 _ _).trans (tlt ((lw_gt _ _).mpr hc15)).2.2.1) (by decide) (by decide) kz) ?_
    have q15t := q0.trans (if_pos hc15)
    show own_Fin p e below G (T7.setTop (mkF m 26 #[.val (.int p0), .val (.long x1), .second, .val (.long x2), .second, .val (.long (f1 x1 ((2 : Int64) * (p0.toInt64)))), .second] []))
    exact K26 (f1 x1 ((2 : Int64) * (p0.toInt64))) _ _ N7 X7 e7 q15t
  · refine own_to (fun _ kz => XS.ifNo X7.here hx rfl (hb hby d15_15) rfl ((if0 _ _).trans (flt (fun q => hc15 ((lw_gt _ _).mp q))).2.2.1) kz) ?_
    have q15f := q0.trans (if_neg hc15)
    show own_Fin p e below G (T7.setTop (mkF m 18 #[.val (.int p0), .val (.long x1), .second, .val (.long x2), .second, .val (.long (f1 x1 ((2 : Int64) * (p0.toInt64)))), .second] []))
    refine own_lload X7 hx (hb hby d15_18) rfl ?_
    refine own_lloadN X7 hx (hb hby d15_20) rfl ?_
    obtain ⟨_, _, ⟨T21, L21, k21, n21⟩, -, X21, ⟨Lc21, hQ21, l21, y21, z21⟩, st21⟩ := Jvm.LawKit.callS X7 hx (y := own_y16) hown (mvT hZ (own_w hw 109 rfl)) (mvT hZ (own_w hw 110 rfl)) (mvT hZ (own_w hw 3 rfl)) (mvT hZ (own_w hw 111 rfl)) (by decide) (backOf (W := 0) (rm16 l Z a0 hw [] (f1 x1 ((2 : Int64) * (p0.toInt64))) x2 h0 n0 Z0) hZ (own_w hw 111 rfl) (own_w hw 3 rfl) (by decide) (by decide)) (g := (mkF m 21 #[.val (.int p0), .val (.long x1), .second, .val (.long x2), .second, .val (.long (f1 x1 ((2 : Int64) * (p0.toInt64)))), .second] [(.long x2), (.long (f1 x1 ((2 : Int64) * (p0.toInt64))))])) rfl (by rw [hml]; rfl) (argsL := [(.long (f1 x1 ((2 : Int64) * (p0.toInt64)))), (.long x2)]) (rest := []) (lenOf own_pd2 rfl) rfl (by show 2 * 0 + _ ≤ _; exact Nat.le_of_eq rfl) (hb hby d15_21) (fun _ _ => ⟨rfl, e7, (by decide : 0 + 0 ≤ _), (by decide : 0 + 0 ≤ _)⟩)
    dsimp only [Pt.U, Pt.locs, Pt.cells, Pt.slots] at X21 l21 y21 z21 st21 hQ21
    subst l21 y21 z21
    obtain ⟨rfl, N21q, e21⟩ := hQ21
    obtain ⟨lo21, X21, N21⟩ : ∃ lo, Stand p l e _ s m _ below meth c T21 lo _ _ ∧ Fr n0 lo := ⟨_, X21, Fr.app N7 N21q⟩
    refine own_to st21 ?_
    show own_Fin p e below G (T21.setTop (mkF m 24 #[.val (.int p0), .val (.long x1), .second, .val (.long x2), .second, .val (.long (f1 x1 ((2 : Int64) * (p0.toInt64)))), .second] [(.long (f16 (f1 x1 ((2 : Int64) * (p0.toInt64))) x2))]))
    refine own_to (fun _ kz => XS.lstore X21.here hx rfl (hb hby d15_24) rfl (l' := #[.val (.int p0), .val (.long x1), .second, .val (.long x2), .second, .val (.long (f16 (f1 x1 ((2 : Int64) * (p0.toInt64))) x2)), .second]) rfl kz) ?_
    show own_Fin p e below G (T21.setTop (mkF m 26 #[.val (.int p0), .val (.long x1), .second, .val (.long x2), .second, .val (.long (f16 (f1 x1 ((2 : Int64) * (p0.toInt64))) x2)), .second] []))
    exact K26 (f16 (f1 x1 ((2 : Int64) * (p0.toInt64))) x2) _ _ N21 X21 e21 q15f
theorem own_gr (kp : Int32) : f15 (0 : Int32) (f1 (16 : Int64) (((0 : Int32).toInt64) + (1 : Int64))) ((kp / (16 : Int32)).toInt64) = (16 : Int32) := by
  have e1 : f1 (16 : Int64) (((0 : Int32).toInt64) + (1 : Int64)) = 16 := by decide
  rw [e1]
  generalize (kp / (16 : Int32)).toInt64 = q
  have e2 : f1 (16 : Int64) ((2 : Int64) * ((0 : Int32).toInt64)) = 16 := by decide
  have e3 : ∀ w : Int64, w = 16 → f16 (2147483639 : Int64) w = 16 := by intro w hw; subst hw; decide
  unfold f15
  simp only [e2]
  by_cases h : q < (16 : Int64)
  · simp only [h, if_true, f15_26, e3 16 rfl]; decide
  · have e4 : f16 (16 : Int64) q = 16 := by unfold f16; simp [h]
    simp only [h, if_false, e4, f15_26, e3 16 rfl]; decide
theorem own_pd3 : parseMethodDescriptor "(IJJ)I" = some ⟨[.int, .long, .long], some .int⟩ := by decide +kernel
theorem own_pd4 : parseMethodDescriptor "([JI)[J" = some ⟨[(.array .long), .int], some (.array .long)⟩ := by decide +kernel
theorem d14_0 : decode prog_47_method_15_code 0 = .ok (.aload_n 0, 1) := by decide +kernel
theorem d14_1 : decode prog_47_method_15_code 1 = .ok (.getfield 94, 3) := by decide +kernel
theorem d14_4 : decode prog_47_method_15_code 4 = .ok (.aload_n 0, 1) := by decide +kernel
theorem d14_5 : decode prog_47_method_15_code 5 = .ok (.getfield 28, 3) := by decide +kernel
theorem d14_8 : decode prog_47_method_15_code 8 = .ok (.arraylength, 1) := by decide +kernel
theorem d14_9 : decode prog_47_method_15_code 9 = .ok (.if_icmp .ne 60, 3) := by decide +kernel
theorem d14_12 : decode prog_47_method_15_code 12 = .ok (.aload_n 0, 1) := by decide +kernel
theorem d14_13 : decode prog_47_method_15_code 13 = .ok (.getfield 28, 3) := by decide +kernel
theorem d14_16 : decode prog_47_method_15_code 16 = .ok (.arraylength, 1) := by decide +kernel
theorem d14_17 : decode prog_47_method_15_code 17 = .ok (.ldc2_w 135, 3) := by decide +kernel
theorem d14_20 : decode prog_47_method_15_code 20 = .ok (.aload_n 0, 1) := by decide +kernel
theorem d14_21 : decode prog_47_method_15_code 21 = .ok (.getfield 94, 3) := by decide +kernel
theorem d14_24 : decode prog_47_method_15_code 24 = .ok (.i2l, 1) := by decide +kernel
theorem d14_25 : decode prog_47_method_15_code 25 = .ok (.lconst 1, 1) := by decide +kernel
theorem d14_26 : decode prog_47_method_15_code 26 = .ok (.ladd, 1) := by decide +kernel
theorem d14_27 : decode prog_47_method_15_code 27 = .ok (.invokestatic 157, 3) := by decide +kernel
theorem d14_30 : decode prog_47_method_15_code 30 = .ok (.aload_n 0, 1) := by decide +kernel
theorem d14_31 : decode prog_47_method_15_code 31 = .ok (.getfield 51, 3) := by decide +kernel
theorem d14_34 : decode prog_47_method_15_code 34 = .ok (.bipush 16, 2) := by decide +kernel
theorem d14_36 : decode prog_47_method_15_code 36 = .ok (.idiv, 1) := by decide +kernel
theorem d14_37 : decode prog_47_method_15_code 37 = .ok (.i2l, 1) := by decide +kernel
theorem d14_38 : decode prog_47_method_15_code 38 = .ok (.invokestatic 62, 3) := by decide +kernel
theorem d14_41 : decode prog_47_method_15_code 41 = .ok (.istore 5, 2) := by decide +kernel
theorem d14_43 : decode prog_47_method_15_code 43 = .ok (.aload_n 0, 1) := by decide +kernel
theorem d14_44 : decode prog_47_method_15_code 44 = .ok (.aload_n 0, 1) := by decide +kernel
theorem d14_45 : decode prog_47_method_15_code 45 = .ok (.getfield 28, 3) := by decide +kernel
theorem d14_48 : decode prog_47_method_15_code 48 = .ok (.iload 5, 2) := by decide +kernel
theorem d14_50 : decode prog_47_method_15_code 50 = .ok (.invokestatic 161, 3) := by decide +kernel
theorem d14_53 : decode prog_47_method_15_code 53 = .ok (.putfield 28, 3) := by decide +kernel
theorem d14_56 : decode prog_47_method_15_code 56 = .ok (.aload_n 0, 1) := by decide +kernel
theorem d14_57 : decode prog_47_method_15_code 57 = .ok (.aload_n 0, 1) := by decide +kernel
theorem d14_58 : decode prog_47_method_15_code 58 = .ok (.getfield 31, 3) := by decide +kernel
theorem d14_61 : decode prog_47_method_15_code 61 = .ok (.iload 5, 2) := by decide +kernel
theorem d14_63 : decode prog_47_method_15_code 63 = .ok (.invokestatic 161, 3) := by decide +kernel
theorem d14_66 : decode prog_47_method_15_code 66 = .ok (.putfield 31, 3) := by decide +kernel
theorem d14_69 : decode prog_47_method_15_code 69 = .ok (.aload_n 0, 1) := by decide +kernel
theorem d14_70 : decode prog_47_method_15_code 70 = .ok (.getfield 28, 3) := by decide +kernel
theorem d14_73 : decode prog_47_method_15_code 73 = .ok (.aload_n 0, 1) := by decide +kernel
theorem d14_74 : decode prog_47_method_15_code 74 = .ok (.getfield 94, 3) := by decide +kernel
theorem d14_77 : decode prog_47_method_15_code 77 = .ok (.lload_n 1, 1) := by decide +kernel
theorem d14_78 : decode prog_47_method_15_code 78 = .ok (.lastore, 1) := by decide +kernel
theorem d14_79 : decode prog_47_method_15_code 79 = .ok (.aload_n 0, 1) := by decide +kernel
theorem d14_80 : decode prog_47_method_15_code 80 = .ok (.getfield 31, 3) := by decide +kernel
theorem d14_83 : decode prog_47_method_15_code 83 = .ok (.aload_n 0, 1) := by decide +kernel
theorem d14_84 : decode prog_47_method_15_code 84 = .ok (.getfield 94, 3) := by decide +kernel
theorem d14_87 : decode prog_47_method_15_code 87 = .ok (.lload_n 3, 1) := by decide +kernel
theorem d14_88 : decode prog_47_method_15_code 88 = .ok (.lastore, 1) := by decide +kernel
theorem d14_89 : decode prog_47_method_15_code 89 = .ok (.aload_n 0, 1) := by decide +kernel
theorem d14_90 : decode prog_47_method_15_code 90 = .ok (.dup, 1) := by decide +kernel
theorem d14_91 : decode prog_47_method_15_code 91 = .ok (.getfield 94, 3) := by decide +kernel
theorem d14_94 : decode prog_47_method_15_code 94 = .ok (.iconst 1, 1) := by decide +kernel
theorem d14_95 : decode prog_47_method_15_code 95 = .ok (.iadd, 1) := by decide +kernel
theorem d14_96 : decode prog_47_method_15_code 96 = .ok (.putfield 94, 3) := by decide +kernel
theorem d14_99 : decode prog_47_method_15_code 99 = .ok (.return_, 1) := by decide +kernel
theorem ef14_0 (m : MethodId) (ad0 : Addr) (x1 : Int64) (x2 : Int64) : entryFrame m #[(.ref ad0), (.long x1), (.long x2)] 6 = mkF m 0 #[.val (.ref ad0), .val (.long x1), .second, .val (.long x2), .second, .unset] [] := by first | (simp [entryFrame, mkF, argsToLocals, Value.category]; done) | rfl
def Q14_0 (Z : State) (ad0 : Addr) (x1 : Int64) (x2 : Int64) (kp : Int32) (ls : Int32) (fz : Nat → Int64) (nent : Addr) (wh : Addr) (h0 : Heap) (n0 : Nat) (v : Option Value) (h : Heap) (L : List Loc) : Prop := ∃ nw0 nw1 : Addr, v = none ∧ Fr n0 L ∧ Keep h0 h [ad0] ∧ h0.size ≤ nw0 ∧ h0.size ≤ nw1 ∧ nw0 ≠ nw1 ∧ Exa Z h ad0 own_cE ∧ Fld Z h ad0 own_cE "kept" "I" (.int kp) ∧ Fld Z h ad0 own_cE "offsets" "[J" (.ref nw0) ∧ Fld Z h ad0 own_cE "lengths" "[J" (.ref nw1) ∧ Fld Z h ad0 own_cE "whole" "Ljava/util/List;" (.ref wh) ∧ Fld Z h ad0 own_cE "size" "I" (.int (1 : Int32)) ∧ Fld Z h ad0 own_cE "lastSpan" "I" (.int ls) ∧ Fld Z h ad0 own_cE "taken" "I" (.int (0 : Int32)) ∧ Fld Z h ad0 own_cE "takenWhole" "I" (.int (0 : Int32)) ∧ own_AV Value.long Z h nw0 .long 16 (own_upd (fun _ => (0 : Int64)) 0 x1) ∧ own_AV Value.long Z h nw1 .long 16 (own_upd (fun _ => (0 : Int64)) 0 x2)
set_option maxRecDepth 65536 in
set_option maxHeartbeats 40000000 in
theorem rm14_0 (l : Launch) (Z : State) (a0 : Array Value) (hw : ∀ d ∈ tables_1, d.before a0 Z = true) (ws : List Jvm.Cond) (ad0 : Addr) (x1 : Int64) (x2 : Int64) (kp : Int32) (ls : Int32) (fz : Nat → Int64) (nent : Addr) (wh : Addr) (h0 : Heap) (n0 : Nat) (Z0 : n0 ≤ h0.size) (E_ad0 : Exa Z h0 ad0 own_cE) (F_kept_ad0 : Fld Z h0 ad0 own_cE "kept" "I" (.int kp)) (F_offsets_ad0 : Fld Z h0 ad0 own_cE "offsets" "[J" (.ref nent)) (F_lengths_ad0 : Fld Z h0 ad0 own_cE "lengths" "[J" (.ref nent)) (F_whole_ad0 : Fld Z h0 ad0 own_cE "whole" "Ljava/util/List;" (.ref wh)) (F_size_ad0 : Fld Z h0 ad0 own_cE "size" "I" (.int (0 : Int32))) (F_lastSpan_ad0 : Fld Z h0 ad0 own_cE "lastSpan" "I" (.int ls)) (F_taken_ad0 : Fld Z h0 ad0 own_cE "taken" "I" (.int (0 : Int32))) (F_takenWhole_ad0 : Fld Z h0 ad0 own_cE "takenWhole" "I" (.int (0 : Int32))) (g_ad0 : n0 ≤ ad0) (V_nent : own_AV Value.long Z h0 nent .long 0 fz) (ne_nent_ad0 : nent ≠ ad0) :
    MetFree l own_y14 (head1 (Jvm.Cond.code own_y14 prog_47_method_15_code 6 none :: ws) ({ frames := 2, cells := 2, slots := 32, locals := 35 } : Room)) (fun a U => a = #[(.ref ad0), (.long x1), (.long x2)] ∧ Z.Warmed39 U.vm ∧ U.heap = h0) (fun _ _ _ _ _ => True) (fun _ U o U' => ∃ v L, o = .returned v ∧ Q14_0 Z ad0 x1 x2 kp ls fz nent wh h0 n0 v U'.heap L ∧ FrameEnd U o U' L ({ frames := 2, cells := 2, slots := 32, locals := 35 } : Room).cells ({ frames := 2, cells := 2, slots := 32, locals := 35 } : Room).slots) := by
  refine MetFree.of_bodySF (plainFor_of_name own_pn6) hisR ?_
  intro p e s m args below meth c s₁ Bd hml0 hP hK
  obtain ⟨rfl, hZ, hh⟩ := hP
  have hx := Bd.exec
  have hby := Bd.bytes
  have hml : c.maxLocals = 6 := hml0
  have hown : s.vm.findClass own_cE = some m.cls := findClass_of_methodNamed Bd.named
  have hnm := (name_of_methodNamed Bd.named Bd.method).1
  have hlk : meth.locks = false := BodyLoose.notSynchronized Bd
  have X0 : Stand p l e ({ frames := 2, cells := 2, slots := 32, locals := 35 } : Room) s m #[(.ref ad0), (.long x1), (.long x2)] below meth c s₁ [] 0 0 := Stand.of_body Bd
  have e0 : s₁.heap = h0 := by rw [← hh, Bd.state]; rfl
  have N0 := Fr.nil n0
  obtain ⟨G, hG⟩ : ∃ G, G = own_G s (Q14_0 Z ad0 x1 x2 kp ls fz nent wh h0 n0) ({ frames := 2, cells := 2, slots := 32, locals := 35 } : Room).cells ({ frames := 2, cells := 2, slots := 32, locals := 35 } : Room).slots := ⟨_, rfl⟩
  show own_Fin p e below (own_G s (Q14_0 Z ad0 x1 x2 kp ls fz nent wh h0 n0) ({ frames := 2, cells := 2, slots := 32, locals := 35 } : Room).cells ({ frames := 2, cells := 2, slots := 32, locals := 35 } : Room).slots) (s₁.setTop (entryFrame m #[(.ref ad0), (.long x1), (.long x2)] 6))
  rw [← hG]
  refine own_to (fun _ kz => castTop (ef14_0 m ad0 x1 x2) kz) ?_
  show own_Fin p e below G (s₁.setTop (mkF m 0 #[.val (.ref ad0), .val (.long x1), .second, .val (.long x2), .second, .unset] []))
  refine own_aloadN X0 hx (hb hby d14_0) rfl (rfl) ?_
  obtain ⟨T1, X1, e1, st1⟩ := getF X0 hx hZ hown (host := "") (Or.inl (own_w hw 96 rfl)) Via.refl e0 F_size_ad0 (g := (mkF m 1 #[.val (.ref ad0), .val (.long x1), .second, .val (.long x2), .second, .unset] [(.ref ad0)])) rfl rfl (hb hby d14_1)
  refine own_to st1 ?_
  show own_Fin p e below G (T1.setTop (mkF m 4 #[.val (.ref ad0), .val (.long x1), .second, .val (.long x2), .second, .unset] [(.int (0 : Int32))]))
  refine own_aloadN X1 hx (hb hby d14_4) rfl (rfl) ?_
  obtain ⟨T5, X5, e5, st5⟩ := getF X1 hx hZ hown (host := "") (Or.inl (own_w hw 42 rfl)) Via.refl e1 F_offsets_ad0 (g := (mkF m 5 #[.val (.ref ad0), .val (.long x1), .second, .val (.long x2), .second, .unset] [(.ref ad0), (.int (0 : Int32))])) rfl rfl (hb hby d14_5)
  refine own_to st5 ?_
  show own_Fin p e below G (T5.setTop (mkF m 8 #[.val (.ref ad0), .val (.long x1), .second, .val (.long x2), .second, .unset] [(.ref nent), (.int (0 : Int32))]))
  refine own_to (fun _ kz => own_alen X5 hx hZ e5 V_nent (z := (0 : Int32)) rfl (g := (mkF m 8 #[.val (.ref ad0), .val (.long x1), .second, .val (.long x2), .second, .unset] [(.ref nent), (.int (0 : Int32))])) rfl rfl (hb hby d14_8) kz) ?_
  show own_Fin p e below G (T5.setTop (mkF m 9 #[.val (.ref ad0), .val (.long x1), .second, .val (.long x2), .second, .unset] [(.int (0 : Int32)), (.int (0 : Int32))]))
  have hc9 : (0 : Int32) = (0 : Int32) := by decide
  refine own_to (fun _ kz => XS.icmpNo X5.here hx rfl (hb hby d14_9) rfl (teq hc9).2 kz) ?_
  show own_Fin p e below G (T5.setTop (mkF m 12 #[.val (.ref ad0), .val (.long x1), .second, .val (.long x2), .second, .unset] []))
  refine own_aloadN X5 hx (hb hby d14_12) rfl (rfl) ?_
  obtain ⟨T13, X13, e13, st13⟩ := getF X5 hx hZ hown (host := "") (Or.inl (own_w hw 42 rfl)) Via.refl e5 F_offsets_ad0 (g := (mkF m 13 #[.val (.ref ad0), .val (.long x1), .second, .val (.long x2), .second, .unset] [(.ref ad0)])) rfl rfl (hb hby d14_13)
  refine own_to st13 ?_
  show own_Fin p e below G (T13.setTop (mkF m 16 #[.val (.ref ad0), .val (.long x1), .second, .val (.long x2), .second, .unset] [(.ref nent)]))
  refine own_to (fun _ kz => own_alen X13 hx hZ e13 V_nent (z := (0 : Int32)) rfl (g := (mkF m 16 #[.val (.ref ad0), .val (.long x1), .second, .val (.long x2), .second, .unset] [(.ref nent)])) rfl rfl (hb hby d14_16) kz) ?_
  show own_Fin p e below G (T13.setTop (mkF m 17 #[.val (.ref ad0), .val (.long x1), .second, .val (.long x2), .second, .unset] [(.int (0 : Int32))]))
  refine own_to (fun _ kz => X13.ldc2Long hx hown (mvT hZ (own_w hw 102 rfl)) (g := (mkF m 17 #[.val (.ref ad0), .val (.long x1), .second, .val (.long x2), .second, .unset] [(.int (0 : Int32))])) rfl (hb hby d14_17) _ kz) ?_
  show own_Fin p e below G (T13.setTop (mkF m 20 #[.val (.ref ad0), .val (.long x1), .second, .val (.long x2), .second, .unset] [(.long (16 : Int64)), (.int (0 : Int32))]))
  refine own_aloadN X13 hx (hb hby d14_20) rfl (rfl) ?_
  obtain ⟨T21, X21, e21, st21⟩ := getF X13 hx hZ hown (host := "") (Or.inl (own_w hw 96 rfl)) Via.refl e13 F_size_ad0 (g := (mkF m 21 #[.val (.ref ad0), .val (.long x1), .second, .val (.long x2), .second, .unset] [(.ref ad0), (.long (16 : Int64)), (.int (0 : Int32))])) rfl rfl (hb hby d14_21)
  refine own_to st21 ?_
  show own_Fin p e below G (T21.setTop (mkF m 24 #[.val (.ref ad0), .val (.long x1), .second, .val (.long x2), .second, .unset] [(.int (0 : Int32)), (.long (16 : Int64)), (.int (0 : Int32))]))
  refine own_to (fun _ kz => XS.i2l X21.here hx rfl (hb hby d14_24) rfl kz) ?_
  show own_Fin p e below G (T21.setTop (mkF m 25 #[.val (.ref ad0), .val (.long x1), .second, .val (.long x2), .second, .unset] [(.long ((0 : Int32).toInt64)), (.long (16 : Int64)), (.int (0 : Int32))]))
  refine own_to (fun _ kz => XS.lconst X21.here hx rfl (hb hby d14_25) kz) ?_
  show own_Fin p e below G (T21.setTop (mkF m 26 #[.val (.ref ad0), .val (.long x1), .second, .val (.long x2), .second, .unset] [(.long (1 : Int64)), (.long ((0 : Int32).toInt64)), (.long (16 : Int64)), (.int (0 : Int32))]))
  refine own_to (fun _ kz => XS.ladd X21.here hx rfl (hb hby d14_26) rfl kz) ?_
  show own_Fin p e below G (T21.setTop (mkF m 27 #[.val (.ref ad0), .val (.long x1), .second, .val (.long x2), .second, .unset] [(.long (((0 : Int32).toInt64) + (1 : Int64))), (.long (16 : Int64)), (.int (0 : Int32))]))
  obtain ⟨_, _, ⟨T27, L27, k27, n27⟩, -, X27, ⟨Lc27, hQ27, l27, y27, z27⟩, st27⟩ := Jvm.LawKit.callS X21 hx (y := own_y1) hown (mvT hZ (own_w hw 103 rfl)) (mvT hZ (own_w hw 2 rfl)) (mvT hZ (own_w hw 3 rfl)) (mvT hZ (own_w hw 4 rfl)) (by decide) (backOf (W := 1) (rm1 l Z a0 hw [] (16 : Int64) (((0 : Int32).toInt64) + (1 : Int64)) h0 n0 Z0) hZ (own_w hw 4 rfl) (own_w hw 3 rfl) (by decide) (by decide)) (g := (mkF m 27 #[.val (.ref ad0), .val (.long x1), .second, .val (.long x2), .second, .unset] [(.long (((0 : Int32).toInt64) + (1 : Int64))), (.long (16 : Int64)), (.int (0 : Int32))])) rfl (by rw [hml]; rfl) (argsL := [(.long (16 : Int64)), (.long (((0 : Int32).toInt64) + (1 : Int64)))]) (rest := [(.int (0 : Int32))]) (lenOf own_pd2 rfl) rfl (by show 2 * 0 + _ ≤ _; exact Nat.le_of_eq rfl) (hb hby d14_27) (fun _ _ => ⟨rfl, e21, (by decide : 0 + 0 ≤ _), (by decide : 0 + 0 ≤ _)⟩)
  dsimp only [Pt.U, Pt.locs, Pt.cells, Pt.slots] at X27 l27 y27 z27 st27 hQ27
  subst l27 y27 z27
  obtain ⟨rfl, N27q, e27⟩ := hQ27
  obtain ⟨lo27, X27, N27⟩ : ∃ lo, Stand p l e _ s m _ below meth c T27 lo _ _ ∧ Fr n0 lo := ⟨_, X27, Fr.app N0 N27q⟩
  refine own_to st27 ?_
  show own_Fin p e below G (T27.setTop (mkF m 30 #[.val (.ref ad0), .val (.long x1), .second, .val (.long x2), .second, .unset] [(.long (f1 (16 : Int64) (((0 : Int32).toInt64) + (1 : Int64)))), (.int (0 : Int32))]))
  refine own_aloadN X27 hx (hb hby d14_30) rfl (rfl) ?_
  obtain ⟨T31, X31, e31, st31⟩ := getF X27 hx hZ hown (host := "") (Or.inl (own_w hw 78 rfl)) Via.refl e27 F_kept_ad0 (g := (mkF m 31 #[.val (.ref ad0), .val (.long x1), .second, .val (.long x2), .second, .unset] [(.ref ad0), (.long (f1 (16 : Int64) (((0 : Int32).toInt64) + (1 : Int64)))), (.int (0 : Int32))])) rfl rfl (hb hby d14_31)
  refine own_to st31 ?_
  show own_Fin p e below G (T31.setTop (mkF m 34 #[.val (.ref ad0), .val (.long x1), .second, .val (.long x2), .second, .unset] [(.int kp), (.long (f1 (16 : Int64) (((0 : Int32).toInt64) + (1 : Int64)))), (.int (0 : Int32))]))
  refine own_to (fun _ kz => XS.bipush X31.here hx rfl (hb hby d14_34) kz) ?_
  show own_Fin p e below G (T31.setTop (mkF m 36 #[.val (.ref ad0), .val (.long x1), .second, .val (.long x2), .second, .unset] [(.int (16 : Int32)), (.int kp), (.long (f1 (16 : Int64) (((0 : Int32).toInt64) + (1 : Int64)))), (.int (0 : Int32))]))
  refine own_to (fun _ kz => XS.idiv X31.here hx rfl (hb hby d14_36) rfl (by decide) kz) ?_
  show own_Fin p e below G (T31.setTop (mkF m 37 #[.val (.ref ad0), .val (.long x1), .second, .val (.long x2), .second, .unset] [(.int (kp / (16 : Int32))), (.long (f1 (16 : Int64) (((0 : Int32).toInt64) + (1 : Int64)))), (.int (0 : Int32))]))
  refine own_to (fun _ kz => XS.i2l X31.here hx rfl (hb hby d14_37) rfl kz) ?_
  show own_Fin p e below G (T31.setTop (mkF m 38 #[.val (.ref ad0), .val (.long x1), .second, .val (.long x2), .second, .unset] [(.long ((kp / (16 : Int32)).toInt64)), (.long (f1 (16 : Int64) (((0 : Int32).toInt64) + (1 : Int64)))), (.int (0 : Int32))]))
  obtain ⟨_, _, ⟨T38, L38, k38, n38⟩, -, X38, ⟨Lc38, hQ38, l38, y38, z38⟩, st38⟩ := Jvm.LawKit.callS X31 hx (y := own_y15) hown (mvT hZ (own_w hw 104 rfl)) (mvT hZ (own_w hw 105 rfl)) (mvT hZ (own_w hw 31 rfl)) (mvT hZ (own_w hw 106 rfl)) (by decide) (backOf (W := 0) (rm15 l Z a0 hw [] (0 : Int32) (f1 (16 : Int64) (((0 : Int32).toInt64) + (1 : Int64))) ((kp / (16 : Int32)).toInt64) h0 n0 Z0) hZ (own_w hw 106 rfl) (own_w hw 31 rfl) (by decide) (by decide)) (g := (mkF m 38 #[.val (.ref ad0), .val (.long x1), .second, .val (.long x2), .second, .unset] [(.long ((kp / (16 : Int32)).toInt64)), (.long (f1 (16 : Int64) (((0 : Int32).toInt64) + (1 : Int64)))), (.int (0 : Int32))])) rfl (by rw [hml]; rfl) (argsL := [(.int (0 : Int32)), (.long (f1 (16 : Int64) (((0 : Int32).toInt64) + (1 : Int64)))), (.long ((kp / (16 : Int32)).toInt64))]) (rest := []) (lenOf own_pd3 rfl) rfl (by show 2 * 0 + _ ≤ _; exact Nat.le_of_eq rfl) (hb hby d14_38) (fun _ _ => ⟨rfl, e31, (by decide : 0 + 0 ≤ _), (by decide : 0 + 0 ≤ _)⟩)
  dsimp only [Pt.U, Pt.locs, Pt.cells, Pt.slots] at X38 l38 y38 z38 st38 hQ38
  subst l38 y38 z38
  obtain ⟨hv38, N38q, e38⟩ := hQ38
  rw [show (f15 (0 : Int32) (f1 (16 : Int64) (((0 : Int32).toInt64) + (1 : Int64))) ((kp / (16 : Int32)).toInt64)) = (16 : Int32) from (own_gr kp)] at hv38
  subst hv38
  obtain ⟨lo38, X38, N38⟩ : ∃ lo, Stand p l e _ s m _ below meth c T38 lo _ _ ∧ Fr n0 lo := ⟨_, X38, Fr.app N27 N38q⟩
  refine own_to st38 ?_
  show own_Fin p e below G (T38.setTop (mkF m 41 #[.val (.ref ad0), .val (.long x1), .second, .val (.long x2), .second, .unset] [(.int (16 : Int32))]))
  refine own_to (fun _ kz => XS.istore X38.here hx rfl (hb hby d14_41) rfl (l' := #[.val (.ref ad0), .val (.long x1), .second, .val (.long x2), .second, .val (.int (16 : Int32))]) rfl kz) ?_
  show own_Fin p e below G (T38.setTop (mkF m 43 #[.val (.ref ad0), .val (.long x1), .second, .val (.long x2), .second, .val (.int (16 : Int32))] []))
  refine own_aloadN X38 hx (hb hby d14_43) rfl (rfl) ?_
  refine own_aloadN X38 hx (hb hby d14_44) rfl (rfl) ?_
  obtain ⟨T45, X45, e45, st45⟩ := getF X38 hx hZ hown (host := "") (Or.inl (own_w hw 42 rfl)) Via.refl e38 F_offsets_ad0 (g := (mkF m 45 #[.val (.ref ad0), .val (.long x1), .second, .val (.long x2), .second, .val (.int (16 : Int32))] [(.ref ad0), (.ref ad0)])) rfl rfl (hb hby d14_45)
  refine own_to st45 ?_
  show own_Fin p e below G (T45.setTop (mkF m 48 #[.val (.ref ad0), .val (.long x1), .second, .val (.long x2), .second, .val (.int (16 : Int32))] [(.ref nent), (.ref ad0)]))
  refine own_iload X45 hx (hb hby d14_48) rfl ?_
  obtain ⟨_, _, ⟨T50, L50, k50, n50⟩, -, X50, ⟨Lc50, hQ50, l50, y50, z50⟩, st50⟩ := Jvm.LawKit.callS X45 hx (y := own_y17) hown (mvT hZ (own_w hw 112 rfl)) (mvT hZ (own_w hw 113 rfl)) (mvT hZ (own_w hw 114 rfl)) (mvT hZ (own_w hw 115 rfl)) (by decide) (backOf (W := 1) (rm17 l Z a0 hw [] nent fz h0 n0 Z0 V_nent) hZ (own_w hw 115 rfl) (own_w hw 114 rfl) (by decide) (by decide)) (g := (mkF m 50 #[.val (.ref ad0), .val (.long x1), .second, .val (.long x2), .second, .val (.int (16 : Int32))] [(.int (16 : Int32)), (.ref nent), (.ref ad0)])) rfl (by rw [hml]; rfl) (argsL := [(.ref nent), (.int (16 : Int32))]) (rest := [(.ref ad0)]) (lenOf own_pd4 rfl) rfl (by show 2 * 0 + _ ≤ _; exact Nat.le_of_eq rfl) (hb hby d14_50) (fun _ _ => ⟨rfl, e45, (by decide : 0 + 1 ≤ _), (by decide : 0 + 16 ≤ _)⟩)
  dsimp only [Pt.U, Pt.locs, Pt.cells, Pt.slots] at X50 l50 y50 z50 st50 hQ50
  subst l50 y50 z50
  obtain ⟨cp50, rfl, N50q, Kp50, szq_cp50, P50_0⟩ := hQ50
  have ne_ad0_cp50 := Nat.ne_of_lt (Nat.lt_of_lt_of_le E_ad0.lt szq_cp50)
  have ne_nent_cp50 := Nat.ne_of_lt (Nat.lt_of_lt_of_le V_nent.lt szq_cp50)
  have g_cp50 : n0 ≤ cp50 := Nat.le_trans Z0 szq_cp50
  have sz_cp50 : h0.size ≤ cp50 := Nat.le_trans (Keep.refl h0 [ad0]).1 szq_cp50
  obtain ⟨lo50, X50, N50⟩ : ∃ lo, Stand p l e _ s m _ below meth c T50 lo _ _ ∧ Fr n0 lo := ⟨_, X50, Fr.app N38 N50q⟩
  refine own_to st50 ?_
  show own_Fin p e below G (T50.setTop (mkF m 53 #[.val (.ref ad0), .val (.long x1), .second, .val (.long x2), .second, .val (.int (16 : Int32))] [(.ref cp50), (.ref ad0)]))
  have E_ad0_at_53 := (E_ad0.keep Kp50)
  have F_offsets_ad0_at_53 := (F_offsets_ad0.keep Kp50 nin0)
  obtain ⟨T53, h53, X53, e53, W53, st53⟩ := putF X50 hx hZ hown (host := "") (Or.inl (own_w hw 42 rfl)) Via.refl rfl F_offsets_ad0_at_53 E_ad0_at_53 (Or.inl (own_w hw 43 rfl)) (own_w hw 30 rfl) (ty := (.array .long)) (by decide) rfl rfl (g := (mkF m 53 #[.val (.ref ad0), .val (.long x1), .second, .val (.long x2), .second, .val (.int (16 : Int32))] [(.ref cp50), (.ref ad0)])) rfl rfl (hb hby d14_53)
  refine own_to st53 ?_
  have Fw53 : Fld Z h53 ad0 own_cE "offsets" "[J" (.ref cp50) := Fld.same W53 F_offsets_ad0_at_53
  obtain ⟨lo53, X53, N53⟩ : ∃ lo, Stand p l e _ s m _ below meth c T53 lo _ _ ∧ Fr n0 lo := ⟨_, X53, Fr.snoc X53 N50 g_ad0⟩
  show own_Fin p e below G (T53.setTop (mkF m 56 #[.val (.ref ad0), .val (.long x1), .second, .val (.long x2), .second, .val (.int (16 : Int32))] []))
  refine own_aloadN X53 hx (hb hby d14_56) rfl (rfl) ?_
  refine own_aloadN X53 hx (hb hby d14_57) rfl (rfl) ?_
  have F_lengths_ad0_at_58 := ((F_lengths_ad0.keep Kp50 nin0).other W53 (Or.inr (slot_ne (Or.inl (own_w hw 45 rfl)) (Or.inl (own_w hw 43 rfl)) (by decide) (t := (.array .long)) (t' := (.array .long)) (by decide) (by decide))))
  obtain ⟨T58, X58, e58, st58⟩ := getF X53 hx hZ hown (host := "") (Or.inl (own_w hw 44 rfl)) Via.refl e53 F_lengths_ad0_at_58 (g := (mkF m 58 #[.val (.ref ad0), .val (.long x1), .second, .val (.long x2), .second, .val (.int (16 : Int32))] [(.ref ad0), (.ref ad0)])) rfl rfl (hb hby d14_58)
  refine own_to st58 ?_
  show own_Fin p e below G (T58.setTop (mkF m 61 #[.val (.ref ad0), .val (.long x1), .second, .val (.long x2), .second, .val (.int (16 : Int32))] [(.ref nent), (.ref ad0)]))
  refine own_iload X58 hx (hb hby d14_61) rfl ?_
  have V_nent_at_63 := ((V_nent.keep Kp50 nin0).other W53 ne_nent_ad0)
  have Zz_63_Kp50 := Nat.le_trans Z0 Kp50.1
  have Zz_63_W53 := Nat.le_trans Zz_63_Kp50 (Nat.le_of_eq (Wr.size W53).symm)
  have Z_63 : n0 ≤ h53.size := Zz_63_W53
  obtain ⟨_, _, ⟨T63, L63, k63, n63⟩, -, X63, ⟨Lc63, hQ63, l63, y63, z63⟩, st63⟩ := Jvm.LawKit.callS X58 hx (y := own_y17) hown (mvT hZ (own_w hw 112 rfl)) (mvT hZ (own_w hw 113 rfl)) (mvT hZ (own_w hw 114 rfl)) (mvT hZ (own_w hw 115 rfl)) (by decide) (backOf (W := 1) (rm17 l Z a0 hw [] nent fz h53 n0 Z_63 V_nent_at_63) hZ (own_w hw 115 rfl) (own_w hw 114 rfl) (by decide) (by decide)) (g := (mkF m 63 #[.val (.ref ad0), .val (.long x1), .second, .val (.long x2), .second, .val (.int (16 : Int32))] [(.int (16 : Int32)), (.ref nent), (.ref ad0)])) rfl (by rw [hml]; rfl) (argsL := [(.ref nent), (.int (16 : Int32))]) (rest := [(.ref ad0)]) (lenOf own_pd4 rfl) rfl (by show 2 * 0 + _ ≤ _; exact Nat.le_of_eq rfl) (hb hby d14_63) (fun _ _ => ⟨rfl, e58, (by decide : 1 + 1 ≤ _), (by decide : 16 + 16 ≤ _)⟩)
  dsimp only [Pt.U, Pt.locs, Pt.cells, Pt.slots] at X63 l63 y63 z63 st63 hQ63
  subst l63 y63 z63
  have KP_63 : Keep h0 h53 [ad0] := (((Keep.refl h0 [ad0]).trans Kp50 all0).wr W53 (Or.inl (List.mem_of_getElem? (i := 0) rfl)))
  obtain ⟨cp63, rfl, N63q, Kp63, szq_cp63, P63_0⟩ := hQ63
  have ne_ad0_cp63 := Nat.ne_of_lt (Nat.lt_of_lt_of_le (E_ad0_at_53.wr W53).lt szq_cp63)
  have ne_nent_cp63 := Nat.ne_of_lt (Nat.lt_of_lt_of_le V_nent_at_63.lt szq_cp63)
  have ne_cp50_cp63 := Nat.ne_of_lt (Nat.lt_of_lt_of_le (P50_0.other W53 (Ne.symm ne_ad0_cp50)).lt szq_cp63)
  have g_cp63 : n0 ≤ cp63 := Nat.le_trans Z_63 szq_cp63
  have sz_cp63 : h0.size ≤ cp63 := Nat.le_trans KP_63.1 szq_cp63
  obtain ⟨lo63, X63, N63⟩ : ∃ lo, Stand p l e _ s m _ below meth c T63 lo _ _ ∧ Fr n0 lo := ⟨_, X63, Fr.app N53 N63q⟩
  refine own_to st63 ?_
  show own_Fin p e below G (T63.setTop (mkF m 66 #[.val (.ref ad0), .val (.long x1), .second, .val (.long x2), .second, .val (.int (16 : Int32))] [(.ref cp63), (.ref ad0)]))
  have E_ad0_at_66 := ((E_ad0_at_53.wr W53).keep Kp63)
  have F_lengths_ad0_at_66 := (F_lengths_ad0_at_58.keep Kp63 nin0)
  obtain ⟨T66, h66, X66, e66, W66, st66⟩ := putF X63 hx hZ hown (host := "") (Or.inl (own_w hw 44 rfl)) Via.refl rfl F_lengths_ad0_at_66 E_ad0_at_66 (Or.inl (own_w hw 45 rfl)) (own_w hw 30 rfl) (ty := (.array .long)) (by decide) rfl rfl (g := (mkF m 66 #[.val (.ref ad0), .val (.long x1), .second, .val (.long x2), .second, .val (.int (16 : Int32))] [(.ref cp63), (.ref ad0)])) rfl rfl (hb hby d14_66)
  refine own_to st66 ?_
  have Fw66 : Fld Z h66 ad0 own_cE "lengths" "[J" (.ref cp63) := Fld.same W66 F_lengths_ad0_at_66
  obtain ⟨lo66, X66, N66⟩ : ∃ lo, Stand p l e _ s m _ below meth c T66 lo _ _ ∧ Fr n0 lo := ⟨_, X66, Fr.snoc X66 N63 g_ad0⟩
  show own_Fin p e below G (T66.setTop (mkF m 69 #[.val (.ref ad0), .val (.long x1), .second, .val (.long x2), .second, .val (.int (16 : Int32))] []))
  refine own_aloadN X66 hx (hb hby d14_69) rfl (rfl) ?_
  have Fw53_at_70 := ((Fw53.keep Kp63 nin0).other W66 (Or.inr (slot_ne (Or.inl (own_w hw 43 rfl)) (Or.inl (own_w hw 45 rfl)) (by decide) (t := (.array .long)) (t' := (.array .long)) (by decide) (by decide))))
  obtain ⟨T70, X70, e70, st70⟩ := getF X66 hx hZ hown (host := "") (Or.inl (own_w hw 42 rfl)) Via.refl e66 Fw53_at_70 (g := (mkF m 70 #[.val (.ref ad0), .val (.long x1), .second, .val (.long x2), .second, .val (.int (16 : Int32))] [(.ref ad0)])) rfl rfl (hb hby d14_70)
  refine own_to st70 ?_
  show own_Fin p e below G (T70.setTop (mkF m 73 #[.val (.ref ad0), .val (.long x1), .second, .val (.long x2), .second, .val (.int (16 : Int32))] [(.ref cp50)]))
  refine own_aloadN X70 hx (hb hby d14_73) rfl (rfl) ?_
  have F_size_ad0_at_74 := ((((F_size_ad0.keep Kp50 nin0).other W53 (Or.inr (slot_ne (Or.inl (own_w hw 97 rfl)) (Or.inl (own_w hw 43 rfl)) (by decide) (t := .int) (t' := (.array .long)) (by decide) (by decide)))).keep Kp63 nin0).other W66 (Or.inr (slot_ne (Or.inl (own_w hw 97 rfl)) (Or.inl (own_w hw 45 rfl)) (by decide) (t := .int) (t' := (.array .long)) (by decide) (by decide))))
  obtain ⟨T74, X74, e74, st74⟩ := getF X70 hx hZ hown (host := "") (Or.inl (own_w hw 96 rfl)) Via.refl e70 F_size_ad0_at_74 (g := (mkF m 74 #[.val (.ref ad0), .val (.long x1), .second, .val (.long x2), .second, .val (.int (16 : Int32))] [(.ref ad0), (.ref cp50)])) rfl rfl (hb hby d14_74)
  refine own_to st74 ?_
  show own_Fin p e below G (T74.setTop (mkF m 77 #[.val (.ref ad0), .val (.long x1), .second, .val (.long x2), .second, .val (.int (16 : Int32))] [(.int (0 : Int32)), (.ref cp50)]))
  refine own_lloadN X74 hx (hb hby d14_77) rfl ?_
  have P50_0_at_78 := (((P50_0.other W53 (Ne.symm ne_ad0_cp50)).keep Kp63 nin0).other W66 (Ne.symm ne_ad0_cp50))
  obtain ⟨nn78, cl78, Ar78, Sz78, Hs78⟩ := P50_0_at_78
  obtain ⟨T78, h78, X78, e78, W78, st78⟩ := stJ X74 hx hZ e74 Ar78 (j := (0 : Int32)) (own_in Sz78 (by decide) rfl (by decide)) (g := (mkF m 78 #[.val (.ref ad0), .val (.long x1), .second, .val (.long x2), .second, .val (.int (16 : Int32))] [(.long x1), (.int (0 : Int32)), (.ref cp50)])) rfl rfl (hb hby d14_78)
  refine own_to st78 ?_
  have V78 : own_AV Value.long Z h78 cp50 .long 16 (own_upd (fun _ => (0 : Int64)) 0 x1) := own_AV.set nn78 Ar78 Sz78 Hs78 W78 rfl
  obtain ⟨lo78, X78, N78⟩ : ∃ lo, Stand p l e _ s m _ below meth c T78 lo _ _ ∧ Fr n0 lo := ⟨_, X78, Fr.snoc X78 N66 g_cp50⟩
  show own_Fin p e below G (T78.setTop (mkF m 79 #[.val (.ref ad0), .val (.long x1), .second, .val (.long x2), .second, .val (.int (16 : Int32))] []))
  refine own_aloadN X78 hx (hb hby d14_79) rfl (rfl) ?_
  have Fw66_at_80 := (Fw66.other W78 (Or.inl ne_ad0_cp50))
  obtain ⟨T80, X80, e80, st80⟩ := getF X78 hx hZ hown (host := "") (Or.inl (own_w hw 44 rfl)) Via.refl e78 Fw66_at_80 (g := (mkF m 80 #[.val (.ref ad0), .val (.long x1), .second, .val (.long x2), .second, .val (.int (16 : Int32))] [(.ref ad0)])) rfl rfl (hb hby d14_80)
  refine own_to st80 ?_
  show own_Fin p e below G (T80.setTop (mkF m 83 #[.val (.ref ad0), .val (.long x1), .second, .val (.long x2), .second, .val (.int (16 : Int32))] [(.ref cp63)]))
  refine own_aloadN X80 hx (hb hby d14_83) rfl (rfl) ?_
  have F_size_ad0_at_84 := (F_size_ad0_at_74.other W78 (Or.inl ne_ad0_cp50))
  obtain ⟨T84, X84, e84, st84⟩ := getF X80 hx hZ hown (host := "") (Or.inl (own_w hw 96 rfl)) Via.refl e80 F_size_ad0_at_84 (g := (mkF m 84 #[.val (.ref ad0), .val (.long x1), .second, .val (.long x2), .second, .val (.int (16 : Int32))] [(.ref ad0), (.ref cp63)])) rfl rfl (hb hby d14_84)
  refine own_to st84 ?_
  show own_Fin p e below G (T84.setTop (mkF m 87 #[.val (.ref ad0), .val (.long x1), .second, .val (.long x2), .second, .val (.int (16 : Int32))] [(.int (0 : Int32)), (.ref cp63)]))
  refine own_lloadN X84 hx (hb hby d14_87) rfl ?_
  have P63_0_at_88 := ((P63_0.other W66 (Ne.symm ne_ad0_cp63)).other W78 (Ne.symm ne_cp50_cp63))
  obtain ⟨nn88, cl88, Ar88, Sz88, Hs88⟩ := P63_0_at_88
  obtain ⟨T88, h88, X88, e88, W88, st88⟩ := stJ X84 hx hZ e84 Ar88 (j := (0 : Int32)) (own_in Sz88 (by decide) rfl (by decide)) (g := (mkF m 88 #[.val (.ref ad0), .val (.long x1), .second, .val (.long x2), .second, .val (.int (16 : Int32))] [(.long x2), (.int (0 : Int32)), (.ref cp63)])) rfl rfl (hb hby d14_88)
  refine own_to st88 ?_
  have V88 : own_AV Value.long Z h88 cp63 .long 16 (own_upd (fun _ => (0 : Int64)) 0 x2) := own_AV.set nn88 Ar88 Sz88 Hs88 W88 rfl
  obtain ⟨lo88, X88, N88⟩ : ∃ lo, Stand p l e _ s m _ below meth c T88 lo _ _ ∧ Fr n0 lo := ⟨_, X88, Fr.snoc X88 N78 g_cp63⟩
  show own_Fin p e below G (T88.setTop (mkF m 89 #[.val (.ref ad0), .val (.long x1), .second, .val (.long x2), .second, .val (.int (16 : Int32))] []))
  refine own_aloadN X88 hx (hb hby d14_89) rfl (rfl) ?_
  refine own_dup X88 hx (hb hby d14_90) rfl ?_
  have F_size_ad0_at_91 := (F_size_ad0_at_84.other W88 (Or.inl ne_ad0_cp63))
  obtain ⟨T91, X91, e91, st91⟩ := getF X88 hx hZ hown (host := "") (Or.inl (own_w hw 96 rfl)) Via.refl e88 F_size_ad0_at_91 (g := (mkF m 91 #[.val (.ref ad0), .val (.long x1), .second, .val (.long x2), .second, .val (.int (16 : Int32))] [(.ref ad0), (.ref ad0)])) rfl rfl (hb hby d14_91)
  refine own_to st91 ?_
  show own_Fin p e below G (T91.setTop (mkF m 94 #[.val (.ref ad0), .val (.long x1), .second, .val (.long x2), .second, .val (.int (16 : Int32))] [(.int (0 : Int32)), (.ref ad0)]))
  refine own_iconst X91 hx (1) (hb hby d14_94) rfl ?_
  refine own_to (fun _ kz => XS.iadd X91.here hx rfl (hb hby d14_95) rfl kz) ?_
  show own_Fin p e below G (T91.setTop (mkF m 96 #[.val (.ref ad0), .val (.long x1), .second, .val (.long x2), .second, .val (.int (16 : Int32))] [(.int (1 : Int32)), (.ref ad0)]))
  have E_ad0_at_96 := (((E_ad0_at_66.wr W66).wr W78).wr W88)
  obtain ⟨T96, h96, X96, e96, W96, st96⟩ := putF X91 hx hZ hown (host := "") (Or.inl (own_w hw 96 rfl)) Via.refl e91 F_size_ad0_at_91 E_ad0_at_96 (Or.inl (own_w hw 97 rfl)) (own_w hw 30 rfl) (ty := .int) (by decide) rfl rfl (g := (mkF m 96 #[.val (.ref ad0), .val (.long x1), .second, .val (.long x2), .second, .val (.int (16 : Int32))] [(.int (1 : Int32)), (.ref ad0)])) rfl rfl (hb hby d14_96)
  refine own_to st96 ?_
  have Fw96 : Fld Z h96 ad0 own_cE "size" "I" (.int (1 : Int32)) := Fld.same W96 F_size_ad0_at_91
  obtain ⟨lo96, X96, N96⟩ : ∃ lo, Stand p l e _ s m _ below meth c T96 lo _ _ ∧ Fr n0 lo := ⟨_, X96, Fr.snoc X96 N88 g_ad0⟩
  show own_Fin p e below G (T96.setTop (mkF m 99 #[.val (.ref ad0), .val (.long x1), .second, .val (.long x2), .second, .val (.int (16 : Int32))] []))
  have KP_99 : Keep h0 h96 [ad0] := (((((KP_63.trans Kp63 all0).wr W66 (Or.inl (List.mem_of_getElem? (i := 0) rfl))).wr W78 (Or.inr sz_cp50)).wr W88 (Or.inr sz_cp63)).wr W96 (Or.inl (List.mem_of_getElem? (i := 0) rfl)))
  have E_ad0_at_99 := (E_ad0_at_96.wr W96)
  have F_kept_ad0_at_99 := (((((((F_kept_ad0.keep Kp50 nin0).other W53 (Or.inr (slot_ne (Or.inr (own_w hw 79 rfl)) (Or.inl (own_w hw 43 rfl)) (by decide) (t := .int) (t' := (.array .long)) (by decide) (by decide)))).keep Kp63 nin0).other W66 (Or.inr (slot_ne (Or.inr (own_w hw 79 rfl)) (Or.inl (own_w hw 45 rfl)) (by decide) (t := .int) (t' := (.array .long)) (by decide) (by decide)))).other W78 (Or.inl ne_ad0_cp50)).other W88 (Or.inl ne_ad0_cp63)).other W96 (Or.inr (slot_ne (Or.inr (own_w hw 79 rfl)) (Or.inl (own_w hw 97 rfl)) (by decide) (t := .int) (t' := .int) (by decide) (by decide))))
  have Fw53_at_99 := (((Fw53_at_70.other W78 (Or.inl ne_ad0_cp50)).other W88 (Or.inl ne_ad0_cp63)).other W96 (Or.inr (slot_ne (Or.inl (own_w hw 43 rfl)) (Or.inl (own_w hw 97 rfl)) (by decide) (t := (.array .long)) (t' := .int) (by decide) (by decide))))
  have Fw66_at_99 := ((Fw66_at_80.other W88 (Or.inl ne_ad0_cp63)).other W96 (Or.inr (slot_ne (Or.inl (own_w hw 45 rfl)) (Or.inl (own_w hw 97 rfl)) (by decide) (t := (.array .long)) (t' := .int) (by decide) (by decide))))
  have F_whole_ad0_at_99 := (((((((F_whole_ad0.keep Kp50 nin0).other W53 (Or.inr (slot_ne (Or.inr (own_w hw 71 rfl)) (Or.inl (own_w hw 43 rfl)) (by decide) (t := (.object "java/util/List")) (t' := (.array .long)) (by decide) (by decide)))).keep Kp63 nin0).other W66 (Or.inr (slot_ne (Or.inr (own_w hw 71 rfl)) (Or.inl (own_w hw 45 rfl)) (by decide) (t := (.object "java/util/List")) (t' := (.array .long)) (by decide) (by decide)))).other W78 (Or.inl ne_ad0_cp50)).other W88 (Or.inl ne_ad0_cp63)).other W96 (Or.inr (slot_ne (Or.inr (own_w hw 71 rfl)) (Or.inl (own_w hw 97 rfl)) (by decide) (t := (.object "java/util/List")) (t' := .int) (by decide) (by decide))))
  have F_lastSpan_ad0_at_99 := (((((((F_lastSpan_ad0.keep Kp50 nin0).other W53 (Or.inr (slot_ne (Or.inl (own_w hw 73 rfl)) (Or.inl (own_w hw 43 rfl)) (by decide) (t := .int) (t' := (.array .long)) (by decide) (by decide)))).keep Kp63 nin0).other W66 (Or.inr (slot_ne (Or.inl (own_w hw 73 rfl)) (Or.inl (own_w hw 45 rfl)) (by decide) (t := .int) (t' := (.array .long)) (by decide) (by decide)))).other W78 (Or.inl ne_ad0_cp50)).other W88 (Or.inl ne_ad0_cp63)).other W96 (Or.inr (slot_ne (Or.inl (own_w hw 73 rfl)) (Or.inl (own_w hw 97 rfl)) (by decide) (t := .int) (t' := .int) (by decide) (by decide))))
  have F_taken_ad0_at_99 := (((((((F_taken_ad0.keep Kp50 nin0).other W53 (Or.inr (slot_ne (Or.inl (own_w hw 172 rfl)) (Or.inl (own_w hw 43 rfl)) (by decide) (t := .int) (t' := (.array .long)) (by decide) (by decide)))).keep Kp63 nin0).other W66 (Or.inr (slot_ne (Or.inl (own_w hw 172 rfl)) (Or.inl (own_w hw 45 rfl)) (by decide) (t := .int) (t' := (.array .long)) (by decide) (by decide)))).other W78 (Or.inl ne_ad0_cp50)).other W88 (Or.inl ne_ad0_cp63)).other W96 (Or.inr (slot_ne (Or.inl (own_w hw 172 rfl)) (Or.inl (own_w hw 97 rfl)) (by decide) (t := .int) (t' := .int) (by decide) (by decide))))
  have F_takenWhole_ad0_at_99 := (((((((F_takenWhole_ad0.keep Kp50 nin0).other W53 (Or.inr (slot_ne (Or.inl (own_w hw 205 rfl)) (Or.inl (own_w hw 43 rfl)) (by decide) (t := .int) (t' := (.array .long)) (by decide) (by decide)))).keep Kp63 nin0).other W66 (Or.inr (slot_ne (Or.inl (own_w hw 205 rfl)) (Or.inl (own_w hw 45 rfl)) (by decide) (t := .int) (t' := (.array .long)) (by decide) (by decide)))).other W78 (Or.inl ne_ad0_cp50)).other W88 (Or.inl ne_ad0_cp63)).other W96 (Or.inr (slot_ne (Or.inl (own_w hw 205 rfl)) (Or.inl (own_w hw 97 rfl)) (by decide) (t := .int) (t' := .int) (by decide) (by decide))))
  have V78_at_99 := ((V78.other W88 ne_cp50_cp63).other W96 (Ne.symm ne_ad0_cp50))
  have V88_at_99 := (V88.other W96 (Ne.symm ne_ad0_cp63))
  exact own_retV X96 hx hlk hG Bd.returns (hb hby d14_99) (by decide) (by decide) (by rw [e96]; exact ⟨cp50, cp63, rfl, N96, KP_99, sz_cp50, sz_cp63, ne_cp50_cp63, E_ad0_at_99, F_kept_ad0_at_99, Fw53_at_99, Fw66_at_99, F_whole_ad0_at_99, Fw96, F_lastSpan_ad0_at_99, F_taken_ad0_at_99, F_takenWhole_ad0_at_99, V78_at_99, V88_at_99⟩)
theorem ef14_1 (m : MethodId) (ad0 : Addr) (x1 : Int64) (x2 : Int64) : entryFrame m #[(.ref ad0), (.long x1), (.long x2)] 6 = mkF m 0 #[.val (.ref ad0), .val (.long x1), .second, .val (.long x2), .second, .unset] [] := by first | (simp [entryFrame, mkF, argsToLocals, Value.category]; done) | rfl
def Q14_1 (Z : State) (ad0 : Addr) (x1 : Int64) (x2 : Int64) (kp : Int32) (sz : Int32) (ls : Int32) (fo : Nat → Int64) (fl : Nat → Int64) (jz : Nat) (off : Addr) (len : Addr) (wh : Addr) (h0 : Heap) (n0 : Nat) (v : Option Value) (h : Heap) (L : List Loc) : Prop := v = none ∧ Fr n0 L ∧ Keep h0 h [ad0, off, len] ∧ Exa Z h ad0 own_cE ∧ Fld Z h ad0 own_cE "kept" "I" (.int kp) ∧ Fld Z h ad0 own_cE "offsets" "[J" (.ref off) ∧ Fld Z h ad0 own_cE "lengths" "[J" (.ref len) ∧ Fld Z h ad0 own_cE "whole" "Ljava/util/List;" (.ref wh) ∧ Fld Z h ad0 own_cE "size" "I" (.int (sz + (1 : Int32))) ∧ Fld Z h ad0 own_cE "lastSpan" "I" (.int ls) ∧ Fld Z h ad0 own_cE "taken" "I" (.int (0 : Int32)) ∧ Fld Z h ad0 own_cE "takenWhole" "I" (.int (0 : Int32)) ∧ own_AV Value.long Z h off .long 16 (own_upd fo jz x1) ∧ own_AV Value.long Z h len .long 16 (own_upd fl jz x2)
set_option maxRecDepth 65536 in
set_option maxHeartbeats 40000000 in
theorem rm14_1 (l : Launch) (Z : State) (a0 : Array Value) (hw : ∀ d ∈ tables_1, d.before a0 Z = true) (ws : List Jvm.Cond) (ad0 : Addr) (x1 : Int64) (x2 : Int64) (kp : Int32) (sz : Int32) (ls : Int32) (fo : Nat → Int64) (fl : Nat → Int64) (jz : Nat) (off : Addr) (len : Addr) (wh : Addr) (h0 : Heap) (n0 : Nat) (Z0 : n0 ≤ h0.size) (E_ad0 : Exa Z h0 ad0 own_cE) (F_kept_ad0 : Fld Z h0 ad0 own_cE "kept" "I" (.int kp)) (F_offsets_ad0 : Fld Z h0 ad0 own_cE "offsets" "[J" (.ref off)) (F_lengths_ad0 : Fld Z h0 ad0 own_cE "lengths" "[J" (.ref len)) (F_whole_ad0 : Fld Z h0 ad0 own_cE "whole" "Ljava/util/List;" (.ref wh)) (F_size_ad0 : Fld Z h0 ad0 own_cE "size" "I" (.int sz)) (F_lastSpan_ad0 : Fld Z h0 ad0 own_cE "lastSpan" "I" (.int ls)) (F_taken_ad0 : Fld Z h0 ad0 own_cE "taken" "I" (.int (0 : Int32))) (F_takenWhole_ad0 : Fld Z h0 ad0 own_cE "takenWhole" "I" (.int (0 : Int32))) (g_ad0 : n0 ≤ ad0) (V_off : own_AV Value.long Z h0 off .long 16 fo) (V_len : own_AV Value.long Z h0 len .long 16 fl) (g_off : n0 ≤ off) (g_len : n0 ≤ len) (ne_off_len : off ≠ len) (ne_ad0_off : ad0 ≠ off) (ne_ad0_len : ad0 ≠ len) (hz0 : ¬ sz < (0 : Int32)) (hzn : sz.toNatClampNeg = jz) (hzl : jz < 16) (hz6 : ¬ sz = (16 : Int32)) :
    MetFree l own_y14 (head1 (Jvm.Cond.code own_y14 prog_47_method_15_code 6 none :: ws) ({ frames := 0, cells := 0, slots := 0, locals := 0 } : Room)) (fun a U => a = #[(.ref ad0), (.long x1), (.long x2)] ∧ Z.Warmed39 U.vm ∧ U.heap = h0) (fun _ _ _ _ _ => True) (fun _ U o U' => ∃ v L, o = .returned v ∧ Q14_1 Z ad0 x1 x2 kp sz ls fo fl jz off len wh h0 n0 v U'.heap L ∧ FrameEnd U o U' L ({ frames := 0, cells := 0, slots := 0, locals := 0 } : Room).cells ({ frames := 0, cells := 0, slots := 0, locals := 0 } : Room).slots) := by
  refine MetFree.of_bodySF (plainFor_of_name own_pn6) hisR ?_
  intro p e s m args below meth c s₁ Bd hml0 hP hK
  obtain ⟨rfl, hZ, hh⟩ := hP
  have hx := Bd.exec
  have hby := Bd.bytes
  have hml : c.maxLocals = 6 := hml0
  have hown : s.vm.findClass own_cE = some m.cls := findClass_of_methodNamed Bd.named
  have hnm := (name_of_methodNamed Bd.named Bd.method).1
  have hlk : meth.locks = false := BodyLoose.notSynchronized Bd
  have X0 : Stand p l e ({ frames := 0, cells := 0, slots := 0, locals := 0 } : Room) s m #[(.ref ad0), (.long x1), (.long x2)] below meth c s₁ [] 0 0 := Stand.of_body Bd
  have e0 : s₁.heap = h0 := by rw [← hh, Bd.state]; rfl
  have N0 := Fr.nil n0
  obtain ⟨G, hG⟩ : ∃ G, G = own_G s (Q14_1 Z ad0 x1 x2 kp sz ls fo fl jz off len wh h0 n0) ({ frames := 0, cells := 0, slots := 0, locals := 0 } : Room).cells ({ frames := 0, cells := 0, slots := 0, locals := 0 } : Room).slots := ⟨_, rfl⟩
  show own_Fin p e below (own_G s (Q14_1 Z ad0 x1 x2 kp sz ls fo fl jz off len wh h0 n0) ({ frames := 0, cells := 0, slots := 0, locals := 0 } : Room).cells ({ frames := 0, cells := 0, slots := 0, locals := 0 } : Room).slots) (s₁.setTop (entryFrame m #[(.ref ad0), (.long x1), (.long x2)] 6))
  rw [← hG]
  refine own_to (fun _ kz => castTop (ef14_1 m ad0 x1 x2) kz) ?_
  show own_Fin p e below G (s₁.setTop (mkF m 0 #[.val (.ref ad0), .val (.long x1), .second, .val (.long x2), .second, .unset] []))
  refine own_aloadN X0 hx (hb hby d14_0) rfl (rfl) ?_
  obtain ⟨T1, X1, e1, st1⟩ := getF X0 hx hZ hown (host := "") (Or.inl (own_w hw 96 rfl)) Via.refl e0 F_size_ad0 (g := (mkF m 1 #[.val (.ref ad0), .val (.long x1), .second, .val (.long x2), .second, .unset] [(.ref ad0)])) rfl rfl (hb hby d14_1)
  refine own_to st1 ?_
  show own_Fin p e below G (T1.setTop (mkF m 4 #[.val (.ref ad0), .val (.long x1), .second, .val (.long x2), .second, .unset] [(.int sz)]))
  refine own_aloadN X1 hx (hb hby d14_4) rfl (rfl) ?_
  obtain ⟨T5, X5, e5, st5⟩ := getF X1 hx hZ hown (host := "") (Or.inl (own_w hw 42 rfl)) Via.refl e1 F_offsets_ad0 (g := (mkF m 5 #[.val (.ref ad0), .val (.long x1), .second, .val (.long x2), .second, .unset] [(.ref ad0), (.int sz)])) rfl rfl (hb hby d14_5)
  refine own_to st5 ?_
  show own_Fin p e below G (T5.setTop (mkF m 8 #[.val (.ref ad0), .val (.long x1), .second, .val (.long x2), .second, .unset] [(.ref off), (.int sz)]))
  refine own_to (fun _ kz => own_alen X5 hx hZ e5 V_off (z := (16 : Int32)) rfl (g := (mkF m 8 #[.val (.ref ad0), .val (.long x1), .second, .val (.long x2), .second, .unset] [(.ref off), (.int sz)])) rfl rfl (hb hby d14_8) kz) ?_
  show own_Fin p e below G (T5.setTop (mkF m 9 #[.val (.ref ad0), .val (.long x1), .second, .val (.long x2), .second, .unset] [(.int (16 : Int32)), (.int sz)]))
  have hc9 : ¬ (sz = (16 : Int32)) := hz6
  refine own_to (fun _ kz => XS.icmpYes X5.here hx rfl (pc0 := 9) (pc' := 69) rfl (hb hby d14_9) rfl (feq hc9).2 (by decide) (by decide) kz) ?_
  show own_Fin p e below G (T5.setTop (mkF m 69 #[.val (.ref ad0), .val (.long x1), .second, .val (.long x2), .second, .unset] []))
  refine own_aloadN X5 hx (hb hby d14_69) rfl (rfl) ?_
  obtain ⟨T70, X70, e70, st70⟩ := getF X5 hx hZ hown (host := "") (Or.inl (own_w hw 42 rfl)) Via.refl e5 F_offsets_ad0 (g := (mkF m 70 #[.val (.ref ad0), .val (.long x1), .second, .val (.long x2), .second, .unset] [(.ref ad0)])) rfl rfl (hb hby d14_70)
  refine own_to st70 ?_
  show own_Fin p e below G (T70.setTop (mkF m 73 #[.val (.ref ad0), .val (.long x1), .second, .val (.long x2), .second, .unset] [(.ref off)]))
  refine own_aloadN X70 hx (hb hby d14_73) rfl (rfl) ?_
  obtain ⟨T74, X74, e74, st74⟩ := getF X70 hx hZ hown (host := "") (Or.inl (own_w hw 96 rfl)) Via.refl e70 F_size_ad0 (g := (mkF m 74 #[.val (.ref ad0), .val (.long x1), .second, .val (.long x2), .second, .unset] [(.ref ad0), (.ref off)])) rfl rfl (hb hby d14_74)
  refine own_to st74 ?_
  show own_Fin p e below G (T74.setTop (mkF m 77 #[.val (.ref ad0), .val (.long x1), .second, .val (.long x2), .second, .unset] [(.int sz), (.ref off)]))
  refine own_lloadN X74 hx (hb hby d14_77) rfl ?_
  obtain ⟨nn78, cl78, Ar78, Sz78, Hs78⟩ := V_off
  obtain ⟨T78, h78, X78, e78, W78, st78⟩ := stJ X74 hx hZ e74 Ar78 (j := sz) (own_in Sz78 hz0 hzn hzl) (g := (mkF m 78 #[.val (.ref ad0), .val (.long x1), .second, .val (.long x2), .second, .unset] [(.long x1), (.int sz), (.ref off)])) rfl rfl (hb hby d14_78)
  refine own_to st78 ?_
  have V78 : own_AV Value.long Z h78 off .long 16 (own_upd fo jz x1) := own_AV.set nn78 Ar78 Sz78 Hs78 W78 hzn
  obtain ⟨lo78, X78, N78⟩ : ∃ lo, Stand p l e _ s m _ below meth c T78 lo _ _ ∧ Fr n0 lo := ⟨_, X78, Fr.snoc X78 N0 g_off⟩
  show own_Fin p e below G (T78.setTop (mkF m 79 #[.val (.ref ad0), .val (.long x1), .second, .val (.long x2), .second, .unset] []))
  refine own_aloadN X78 hx (hb hby d14_79) rfl (rfl) ?_
  have F_lengths_ad0_at_80 := (F_lengths_ad0.other W78 (Or.inl ne_ad0_off))
  obtain ⟨T80, X80, e80, st80⟩ := getF X78 hx hZ hown (host := "") (Or.inl (own_w hw 44 rfl)) Via.refl e78 F_lengths_ad0_at_80 (g := (mkF m 80 #[.val (.ref ad0), .val (.long x1), .second, .val (.long x2), .second, .unset] [(.ref ad0)])) rfl rfl (hb hby d14_80)
  refine own_to st80 ?_
  show own_Fin p e below G (T80.setTop (mkF m 83 #[.val (.ref ad0), .val (.long x1), .second, .val (.long x2), .second, .unset] [(.ref len)]))
  refine own_aloadN X80 hx (hb hby d14_83) rfl (rfl) ?_
  have F_size_ad0_at_84 := (F_size_ad0.other W78 (Or.inl ne_ad0_off))
  obtain ⟨T84, X84, e84, st84⟩ := getF X80 hx hZ hown (host := "") (Or.inl (own_w hw 96 rfl)) Via.refl e80 F_size_ad0_at_84 (g := (mkF m 84 #[.val (.ref ad0), .val (.long x1), .second, .val (.long x2), .second, .unset] [(.ref ad0), (.ref len)])) rfl rfl (hb hby d14_84)
  refine own_to st84 ?_
  show own_Fin p e below G (T84.setTop (mkF m 87 #[.val (.ref ad0), .val (.long x1), .second, .val (.long x2), .second, .unset] [(.int sz), (.ref len)]))
  refine own_lloadN X84 hx (hb hby d14_87) rfl ?_
  have V_len_at_88 := (V_len.other W78 (Ne.symm ne_off_len))
  obtain ⟨nn88, cl88, Ar88, Sz88, Hs88⟩ := V_len_at_88
  obtain ⟨T88, h88, X88, e88, W88, st88⟩ := stJ X84 hx hZ e84 Ar88 (j := sz) (own_in Sz88 hz0 hzn hzl) (g := (mkF m 88 #[.val (.ref ad0), .val (.long x1), .second, .val (.long x2), .second, .unset] [(.long x2), (.int sz), (.ref len)])) rfl rfl (hb hby d14_88)
  refine own_to st88 ?_
  have V88 : own_AV Value.long Z h88 len .long 16 (own_upd fl jz x2) := own_AV.set nn88 Ar88 Sz88 Hs88 W88 hzn
  obtain ⟨lo88, X88, N88⟩ : ∃ lo, Stand p l e _ s m _ below meth c T88 lo _ _ ∧ Fr n0 lo := ⟨_, X88, Fr.snoc X88 N78 g_len⟩
  show own_Fin p e below G (T88.setTop (mkF m 89 #[.val (.ref ad0), .val (.long x1), .second, .val (.long x2), .second, .unset] []))
  refine own_aloadN X88 hx (hb hby d14_89) rfl (rfl) ?_
  refine own_dup X88 hx (hb hby d14_90) rfl ?_
  have F_size_ad0_at_91 := (F_size_ad0_at_84.other W88 (Or.inl ne_ad0_len))
  obtain ⟨T91, X91, e91, st91⟩ := getF X88 hx hZ hown (host := "") (Or.inl (own_w hw 96 rfl)) Via.refl e88 F_size_ad0_at_91 (g := (mkF m 91 #[.val (.ref ad0), .val (.long x1), .second, .val (.long x2), .second, .unset] [(.ref ad0), (.ref ad0)])) rfl rfl (hb hby d14_91)
  refine own_to st91 ?_
  show own_Fin p e below G (T91.setTop (mkF m 94 #[.val (.ref ad0), .val (.long x1), .second, .val (.long x2), .second, .unset] [(.int sz), (.ref ad0)]))
  refine own_iconst X91 hx (1) (hb hby d14_94) rfl ?_
  refine own_to (fun _ kz => XS.iadd X91.here hx rfl (hb hby d14_95) rfl kz) ?_
  show own_Fin p e below G (T91.setTop (mkF m 96 #[.val (.ref ad0), .val (.long x1), .second, .val (.long x2), .second, .unset] [(.int (sz + (1 : Int32))), (.ref ad0)]))
  have E_ad0_at_96 := ((E_ad0.wr W78).wr W88)
  obtain ⟨T96, h96, X96, e96, W96, st96⟩ := putF X91 hx hZ hown (host := "") (Or.inl (own_w hw 96 rfl)) Via.refl e91 F_size_ad0_at_91 E_ad0_at_96 (Or.inl (own_w hw 97 rfl)) (own_w hw 30 rfl) (ty := .int) (by decide) rfl rfl (g := (mkF m 96 #[.val (.ref ad0), .val (.long x1), .second, .val (.long x2), .second, .unset] [(.int (sz + (1 : Int32))), (.ref ad0)])) rfl rfl (hb hby d14_96)
  refine own_to st96 ?_
  have Fw96 : Fld Z h96 ad0 own_cE "size" "I" (.int (sz + (1 : Int32))) := Fld.same W96 F_size_ad0_at_91
  obtain ⟨lo96, X96, N96⟩ : ∃ lo, Stand p l e _ s m _ below meth c T96 lo _ _ ∧ Fr n0 lo := ⟨_, X96, Fr.snoc X96 N88 g_ad0⟩
  show own_Fin p e below G (T96.setTop (mkF m 99 #[.val (.ref ad0), .val (.long x1), .second, .val (.long x2), .second, .unset] []))
  have KP_99 : Keep h0 h96 [ad0, off, len] := ((((Keep.refl h0 [ad0, off, len]).wr W78 (Or.inl (List.mem_of_getElem? (i := 1) rfl))).wr W88 (Or.inl (List.mem_of_getElem? (i := 2) rfl))).wr W96 (Or.inl (List.mem_of_getElem? (i := 0) rfl)))
  have E_ad0_at_99 := (E_ad0_at_96.wr W96)
  have F_kept_ad0_at_99 := (((F_kept_ad0.other W78 (Or.inl ne_ad0_off)).other W88 (Or.inl ne_ad0_len)).other W96 (Or.inr (slot_ne (Or.inr (own_w hw 79 rfl)) (Or.inl (own_w hw 97 rfl)) (by decide) (t := .int) (t' := .int) (by decide) (by decide))))
  have F_offsets_ad0_at_99 := (((F_offsets_ad0.other W78 (Or.inl ne_ad0_off)).other W88 (Or.inl ne_ad0_len)).other W96 (Or.inr (slot_ne (Or.inl (own_w hw 43 rfl)) (Or.inl (own_w hw 97 rfl)) (by decide) (t := (.array .long)) (t' := .int) (by decide) (by decide))))
  have F_lengths_ad0_at_99 := ((F_lengths_ad0_at_80.other W88 (Or.inl ne_ad0_len)).other W96 (Or.inr (slot_ne (Or.inl (own_w hw 45 rfl)) (Or.inl (own_w hw 97 rfl)) (by decide) (t := (.array .long)) (t' := .int) (by decide) (by decide))))
  have F_whole_ad0_at_99 := (((F_whole_ad0.other W78 (Or.inl ne_ad0_off)).other W88 (Or.inl ne_ad0_len)).other W96 (Or.inr (slot_ne (Or.inr (own_w hw 71 rfl)) (Or.inl (own_w hw 97 rfl)) (by decide) (t := (.object "java/util/List")) (t' := .int) (by decide) (by decide))))
  have F_lastSpan_ad0_at_99 := (((F_lastSpan_ad0.other W78 (Or.inl ne_ad0_off)).other W88 (Or.inl ne_ad0_len)).other W96 (Or.inr (slot_ne (Or.inl (own_w hw 73 rfl)) (Or.inl (own_w hw 97 rfl)) (by decide) (t := .int) (t' := .int) (by decide) (by decide))))
  have F_taken_ad0_at_99 := (((F_taken_ad0.other W78 (Or.inl ne_ad0_off)).other W88 (Or.inl ne_ad0_len)).other W96 (Or.inr (slot_ne (Or.inl (own_w hw 172 rfl)) (Or.inl (own_w hw 97 rfl)) (by decide) (t := .int) (t' := .int) (by decide) (by decide))))
  have F_takenWhole_ad0_at_99 := (((F_takenWhole_ad0.other W78 (Or.inl ne_ad0_off)).other W88 (Or.inl ne_ad0_len)).other W96 (Or.inr (slot_ne (Or.inl (own_w hw 205 rfl)) (Or.inl (own_w hw 97 rfl)) (by decide) (t := .int) (t' := .int) (by decide) (by decide))))
  have V78_at_99 := ((V78.other W88 ne_off_len).other W96 (Ne.symm ne_ad0_off))
  have V88_at_99 := (V88.other W96 (Ne.symm ne_ad0_len))
  exact own_retV X96 hx hlk hG Bd.returns (hb hby d14_99) (by decide) (by decide) (by rw [e96]; exact ⟨rfl, N96, KP_99, E_ad0_at_99, F_kept_ad0_at_99, F_offsets_ad0_at_99, F_lengths_ad0_at_99, F_whole_ad0_at_99, Fw96, F_lastSpan_ad0_at_99, F_taken_ad0_at_99, F_takenWhole_ad0_at_99, V78_at_99, V88_at_99⟩)
theorem own_pd5 : parseMethodDescriptor "(JJ)V" = some ⟨[.long, .long], none⟩ := by decide +kernel
theorem d13_0 : decode prog_47_method_5_code 0 = .ok (.aload_n 0, 1) := by decide +kernel
theorem d13_1 : decode prog_47_method_5_code 1 = .ok (.aload_n 0, 1) := by decide +kernel
theorem d13_2 : decode prog_47_method_5_code 2 = .ok (.getfield 94, 3) := by decide +kernel
theorem d13_5 : decode prog_47_method_5_code 5 = .ok (.putfield 41, 3) := by decide +kernel
theorem d13_8 : decode prog_47_method_5_code 8 = .ok (.aload_n 0, 1) := by decide +kernel
theorem d13_9 : decode prog_47_method_5_code 9 = .ok (.lload_n 1, 1) := by decide +kernel
theorem d13_10 : decode prog_47_method_5_code 10 = .ok (.lload_n 3, 1) := by decide +kernel
theorem d13_11 : decode prog_47_method_5_code 11 = .ok (.lneg, 1) := by decide +kernel
theorem d13_12 : decode prog_47_method_5_code 12 = .ok (.invokevirtual 78, 3) := by decide +kernel
theorem d13_15 : decode prog_47_method_5_code 15 = .ok (.return_, 1) := by decide +kernel
theorem ef13_0 (m : MethodId) (ad0 : Addr) (x1 : Int64) (x2 : Int64) : entryFrame m #[(.ref ad0), (.long x1), (.long x2)] 5 = mkF m 0 #[.val (.ref ad0), .val (.long x1), .second, .val (.long x2), .second] [] := by first | (simp [entryFrame, mkF, argsToLocals, Value.category]; done) | rfl
def Q13_0 (Z : State) (ad0 : Addr) (x1 : Int64) (x2 : Int64) (kp : Int32) (ls : Int32) (fz : Nat → Int64) (nent : Addr) (wh : Addr) (h0 : Heap) (n0 : Nat) (v : Option Value) (h : Heap) (L : List Loc) : Prop := ∃ nw0 nw1 : Addr, v = none ∧ Fr n0 L ∧ Keep h0 h [ad0] ∧ h0.size ≤ nw0 ∧ h0.size ≤ nw1 ∧ nw0 ≠ nw1 ∧ Exa Z h ad0 own_cE ∧ Fld Z h ad0 own_cE "kept" "I" (.int kp) ∧ Fld Z h ad0 own_cE "offsets" "[J" (.ref nw0) ∧ Fld Z h ad0 own_cE "lengths" "[J" (.ref nw1) ∧ Fld Z h ad0 own_cE "whole" "Ljava/util/List;" (.ref wh) ∧ Fld Z h ad0 own_cE "size" "I" (.int (1 : Int32)) ∧ Fld Z h ad0 own_cE "lastSpan" "I" (.int (0 : Int32)) ∧ Fld Z h ad0 own_cE "taken" "I" (.int (0 : Int32)) ∧ Fld Z h ad0 own_cE "takenWhole" "I" (.int (0 : Int32)) ∧ own_AV Value.long Z h nw0 .long 16 (own_upd (fun _ => (0 : Int64)) 0 x1) ∧ own_AV Value.long Z h nw1 .long 16 (own_upd (fun _ => (0 : Int64)) 0 (-x2))
set_option maxRecDepth 65536 in
set_option maxHeartbeats 40000000 in
theorem rm13_0 (l : Launch) (Z : State) (a0 : Array Value) (hw : ∀ d ∈ tables_1, d.before a0 Z = true) (ws : List Jvm.Cond) (ad0 : Addr) (x1 : Int64) (x2 : Int64) (kp : Int32) (ls : Int32) (fz : Nat → Int64) (nent : Addr) (wh : Addr) (h0 : Heap) (n0 : Nat) (Z0 : n0 ≤ h0.size) (E_ad0 : Exa Z h0 ad0 own_cE) (F_kept_ad0 : Fld Z h0 ad0 own_cE "kept" "I" (.int kp)) (F_offsets_ad0 : Fld Z h0 ad0 own_cE "offsets" "[J" (.ref nent)) (F_lengths_ad0 : Fld Z h0 ad0 own_cE "lengths" "[J" (.ref nent)) (F_whole_ad0 : Fld Z h0 ad0 own_cE "whole" "Ljava/util/List;" (.ref wh)) (F_size_ad0 : Fld Z h0 ad0 own_cE "size" "I" (.int (0 : Int32))) (F_lastSpan_ad0 : Fld Z h0 ad0 own_cE "lastSpan" "I" (.int ls)) (F_taken_ad0 : Fld Z h0 ad0 own_cE "taken" "I" (.int (0 : Int32))) (F_takenWhole_ad0 : Fld Z h0 ad0 own_cE "takenWhole" "I" (.int (0 : Int32))) (g_ad0 : n0 ≤ ad0) (V_nent : own_AV Value.long Z h0 nent .long 0 fz) (ne_nent_ad0 : nent ≠ ad0) :
    MetFree l own_y13 (head1 (Jvm.Cond.code own_y13 prog_47_method_5_code 5 none :: ws) ({ frames := 3, cells := 2, slots := 32, locals := 52 } : Room)) (fun a U => a = #[(.ref ad0), (.long x1), (.long x2)] ∧ Z.Warmed39 U.vm ∧ U.heap = h0) (fun _ _ _ _ _ => True) (fun _ U o U' => ∃ v L, o = .returned v ∧ Q13_0 Z ad0 x1 x2 kp ls fz nent wh h0 n0 v U'.heap L ∧ FrameEnd U o U' L ({ frames := 3, cells := 2, slots := 32, locals := 52 } : Room).cells ({ frames := 3, cells := 2, slots := 32, locals := 52 } : Room).slots) := by
  refine MetFree.of_bodySF (plainFor_of_name own_pn6) hisR ?_
  intro p e s m args below meth c s₁ Bd hml0 hP hK
  obtain ⟨rfl, hZ, hh⟩ := hP
  have hx := Bd.exec
  have hby := Bd.bytes
  have hml : c.maxLocals = 5 := hml0
  have hown : s.vm.findClass own_cE = some m.cls := findClass_of_methodNamed Bd.named
  have hnm := (name_of_methodNamed Bd.named Bd.method).1
  have hlk : meth.locks = false := BodyLoose.notSynchronized Bd
  have X0 : Stand p l e ({ frames := 3, cells := 2, slots := 32, locals := 52 } : Room) s m #[(.ref ad0), (.long x1), (.long x2)] below meth c s₁ [] 0 0 := Stand.of_body Bd
  have e0 : s₁.heap = h0 := by rw [← hh, Bd.state]; rfl
  have N0 := Fr.nil n0
  obtain ⟨G, hG⟩ : ∃ G, G = own_G s (Q13_0 Z ad0 x1 x2 kp ls fz nent wh h0 n0) ({ frames := 3, cells := 2, slots := 32, locals := 52 } : Room).cells ({ frames := 3, cells := 2, slots := 32, locals := 52 } : Room).slots := ⟨_, rfl⟩
  show own_Fin p e below (own_G s (Q13_0 Z ad0 x1 x2 kp ls fz nent wh h0 n0) ({ frames := 3, cells := 2, slots := 32, locals := 52 } : Room).cells ({ frames := 3, cells := 2, slots := 32, locals := 52 } : Room).slots) (s₁.setTop (entryFrame m #[(.ref ad0), (.long x1), (.long x2)] 5))
  rw [← hG]
  refine own_to (fun _ kz => castTop (ef13_0 m ad0 x1 x2) kz) ?_
  show own_Fin p e below G (s₁.setTop (mkF m 0 #[.val (.ref ad0), .val (.long x1), .second, .val (.long x2), .second] []))
  refine own_aloadN X0 hx (hb hby d13_0) rfl (rfl) ?_
  refine own_aloadN X0 hx (hb hby d13_1) rfl (rfl) ?_
  obtain ⟨T2, X2, e2, st2⟩ := getF X0 hx hZ hown (host := "") (Or.inl (own_w hw 96 rfl)) Via.refl e0 F_size_ad0 (g := (mkF m 2 #[.val (.ref ad0), .val (.long x1), .second, .val (.long x2), .second] [(.ref ad0), (.ref ad0)])) rfl rfl (hb hby d13_2)
  refine own_to st2 ?_
  show own_Fin p e below G (T2.setTop (mkF m 5 #[.val (.ref ad0), .val (.long x1), .second, .val (.long x2), .second] [(.int (0 : Int32)), (.ref ad0)]))
  obtain ⟨T5, h5, X5, e5, W5, st5⟩ := putF X2 hx hZ hown (host := "") (Or.inl (own_w hw 72 rfl)) Via.refl e2 F_lastSpan_ad0 E_ad0 (Or.inl (own_w hw 73 rfl)) (own_w hw 30 rfl) (ty := .int) (by decide) rfl rfl (g := (mkF m 5 #[.val (.ref ad0), .val (.long x1), .second, .val (.long x2), .second] [(.int (0 : Int32)), (.ref ad0)])) rfl rfl (hb hby d13_5)
  refine own_to st5 ?_
  have Fw5 : Fld Z h5 ad0 own_cE "lastSpan" "I" (.int (0 : Int32)) := Fld.same W5 F_lastSpan_ad0
  obtain ⟨lo5, X5, N5⟩ : ∃ lo, Stand p l e _ s m _ below meth c T5 lo _ _ ∧ Fr n0 lo := ⟨_, X5, Fr.snoc X5 N0 g_ad0⟩
  show own_Fin p e below G (T5.setTop (mkF m 8 #[.val (.ref ad0), .val (.long x1), .second, .val (.long x2), .second] []))
  refine own_aloadN X5 hx (hb hby d13_8) rfl (rfl) ?_
  refine own_lloadN X5 hx (hb hby d13_9) rfl ?_
  refine own_lloadN X5 hx (hb hby d13_10) rfl ?_
  refine own_to (fun _ kz => XS.lneg X5.here hx rfl (hb hby d13_11) rfl kz) ?_
  show own_Fin p e below G (T5.setTop (mkF m 12 #[.val (.ref ad0), .val (.long x1), .second, .val (.long x2), .second] [(.long (-x2)), (.long x1), (.ref ad0)]))
  have E_ad0_at_12 := (E_ad0.wr W5)
  have F_kept_ad0_at_12 := (F_kept_ad0.other W5 (Or.inr (slot_ne (Or.inr (own_w hw 79 rfl)) (Or.inl (own_w hw 73 rfl)) (by decide) (t := .int) (t' := .int) (by decide) (by decide))))
  have F_offsets_ad0_at_12 := (F_offsets_ad0.other W5 (Or.inr (slot_ne (Or.inl (own_w hw 43 rfl)) (Or.inl (own_w hw 73 rfl)) (by decide) (t := (.array .long)) (t' := .int) (by decide) (by decide))))
  have F_lengths_ad0_at_12 := (F_lengths_ad0.other W5 (Or.inr (slot_ne (Or.inl (own_w hw 45 rfl)) (Or.inl (own_w hw 73 rfl)) (by decide) (t := (.array .long)) (t' := .int) (by decide) (by decide))))
  have F_whole_ad0_at_12 := (F_whole_ad0.other W5 (Or.inr (slot_ne (Or.inr (own_w hw 71 rfl)) (Or.inl (own_w hw 73 rfl)) (by decide) (t := (.object "java/util/List")) (t' := .int) (by decide) (by decide))))
  have F_size_ad0_at_12 := (F_size_ad0.other W5 (Or.inr (slot_ne (Or.inl (own_w hw 97 rfl)) (Or.inl (own_w hw 73 rfl)) (by decide) (t := .int) (t' := .int) (by decide) (by decide))))
  have F_taken_ad0_at_12 := (F_taken_ad0.other W5 (Or.inr (slot_ne (Or.inl (own_w hw 172 rfl)) (Or.inl (own_w hw 73 rfl)) (by decide) (t := .int) (t' := .int) (by decide) (by decide))))
  have F_takenWhole_ad0_at_12 := (F_takenWhole_ad0.other W5 (Or.inr (slot_ne (Or.inl (own_w hw 205 rfl)) (Or.inl (own_w hw 73 rfl)) (by decide) (t := .int) (t' := .int) (by decide) (by decide))))
  have V_nent_at_12 := (V_nent.other W5 ne_nent_ad0)
  have Zz_12_W5 := Nat.le_trans Z0 (Nat.le_of_eq (Wr.size W5).symm)
  have Z_12 : n0 ≤ h5.size := Zz_12_W5
  obtain ⟨cq12, qa12, qb12⟩ := Exa.cell E_ad0_at_12
  obtain ⟨_, _, ⟨T12, L12, k12, n12⟩, -, X12, ⟨Lc12, hQ12, l12, y12, z12⟩, st12⟩ := X5.privateBack hx (y := own_y14) hown (mvT hZ (own_w hw 98 rfl)) (mvT hZ (own_w hw 99 rfl)) (own_selPriv (y := own_y14) (y' := own_y13) rfl (mvT hZ (own_w hw 94 rfl)) (Cond.privateMethod_at (mvP hZ (own_w hw 100 rfl) (args := #[]))) (mvT hZ (own_w hw 99 rfl)) (by decide)) (Cond.privateMethod_at (mvP hZ (own_w hw 100 rfl) (args := #[]))) (mvT hZ (own_w hw 101 rfl)) (by decide) (backOf (W := 0) (rm14_0 l Z a0 hw [] ad0 x1 (-x2) kp (0 : Int32) fz nent wh h5 n0 Z_12 E_ad0_at_12 F_kept_ad0_at_12 F_offsets_ad0_at_12 F_lengths_ad0_at_12 F_whole_ad0_at_12 F_size_ad0_at_12 Fw5 F_taken_ad0_at_12 F_takenWhole_ad0_at_12 g_ad0 V_nent_at_12 ne_nent_ad0) hZ (own_w hw 101 rfl) (own_w hw 31 rfl) (by decide) (by decide)) (g := (mkF m 12 #[.val (.ref ad0), .val (.long x1), .second, .val (.long x2), .second] [(.long (-x2)), (.long x1), (.ref ad0)])) rfl (by rw [hml]; rfl) (Steps.refl _) (a := ad0) (by rw [e5]; exact qa12) qb12 (argsL := [(.long x1), (.long (-x2))]) (rest := []) (lenOf own_pd5 rfl) rfl (by show 2 * 0 + _ ≤ _; exact Nat.le_of_eq rfl) (hb hby d13_12) (fun _ _ => ⟨rfl, e5, (by decide : 0 + 2 ≤ _), (by decide : 0 + 32 ≤ _)⟩)
  dsimp only [Pt.U, Pt.locs, Pt.cells, Pt.slots] at X12 l12 y12 z12 st12 hQ12
  subst l12 y12 z12
  have KP_12 : Keep h0 h5 [ad0] := ((Keep.refl h0 [ad0]).wr W5 (Or.inl (List.mem_of_getElem? (i := 0) rfl)))
  obtain ⟨off12, len12, rfl, N12q, Kp12, szq_off12, szq_len12, neq_off12_len12, P12_0, P12_1, P12_2, P12_3, P12_4, P12_5, P12_6, P12_7, P12_8, P12_9, P12_10⟩ := hQ12
  have ne_ad0_off12 := Nat.ne_of_lt (Nat.lt_of_lt_of_le E_ad0_at_12.lt szq_off12)
  have ne_ad0_len12 := Nat.ne_of_lt (Nat.lt_of_lt_of_le E_ad0_at_12.lt szq_len12)
  have ne_nent_off12 := Nat.ne_of_lt (Nat.lt_of_lt_of_le V_nent_at_12.lt szq_off12)
  have ne_nent_len12 := Nat.ne_of_lt (Nat.lt_of_lt_of_le V_nent_at_12.lt szq_len12)
  have g_off12 : n0 ≤ off12 := Nat.le_trans Z_12 szq_off12
  have sz_off12 : h0.size ≤ off12 := Nat.le_trans KP_12.1 szq_off12
  have g_len12 : n0 ≤ len12 := Nat.le_trans Z_12 szq_len12
  have sz_len12 : h0.size ≤ len12 := Nat.le_trans KP_12.1 szq_len12
  obtain ⟨lo12, X12, N12⟩ : ∃ lo, Stand p l e _ s m _ below meth c T12 lo _ _ ∧ Fr n0 lo := ⟨_, X12, Fr.app N5 N12q⟩
  refine own_via st12 ?_
  show own_Fin p e below G (T12.setTop (mkF m 15 #[.val (.ref ad0), .val (.long x1), .second, .val (.long x2), .second] []))
  have KP_15 : Keep h0 T12.heap [ad0] := (KP_12.trans Kp12 (allS (Or.inl (List.mem_of_getElem? (i := 0) rfl)) all0))
  exact own_retV X12 hx hlk hG Bd.returns (hb hby d13_15) (by decide) (by decide) ⟨off12, len12, rfl, N12, KP_15, sz_off12, sz_len12, neq_off12_len12, P12_0, P12_1, P12_2, P12_3, P12_4, P12_5, P12_6, P12_7, P12_8, P12_9, P12_10⟩
theorem ef13_1 (m : MethodId) (ad0 : Addr) (x1 : Int64) (x2 : Int64) : entryFrame m #[(.ref ad0), (.long x1), (.long x2)] 5 = mkF m 0 #[.val (.ref ad0), .val (.long x1), .second, .val (.long x2), .second] [] := by first | (simp [entryFrame, mkF, argsToLocals, Value.category]; done) | rfl
def Q13_1 (Z : State) (ad0 : Addr) (x1 : Int64) (x2 : Int64) (kp : Int32) (sz : Int32) (ls : Int32) (fo : Nat → Int64) (fl : Nat → Int64) (jz : Nat) (off : Addr) (len : Addr) (wh : Addr) (h0 : Heap) (n0 : Nat) (v : Option Value) (h : Heap) (L : List Loc) : Prop := v = none ∧ Fr n0 L ∧ Keep h0 h [ad0, off, len] ∧ Exa Z h ad0 own_cE ∧ Fld Z h ad0 own_cE "kept" "I" (.int kp) ∧ Fld Z h ad0 own_cE "offsets" "[J" (.ref off) ∧ Fld Z h ad0 own_cE "lengths" "[J" (.ref len) ∧ Fld Z h ad0 own_cE "whole" "Ljava/util/List;" (.ref wh) ∧ Fld Z h ad0 own_cE "size" "I" (.int (sz + (1 : Int32))) ∧ Fld Z h ad0 own_cE "lastSpan" "I" (.int sz) ∧ Fld Z h ad0 own_cE "taken" "I" (.int (0 : Int32)) ∧ Fld Z h ad0 own_cE "takenWhole" "I" (.int (0 : Int32)) ∧ own_AV Value.long Z h off .long 16 (own_upd fo jz x1) ∧ own_AV Value.long Z h len .long 16 (own_upd fl jz (-x2))
set_option maxRecDepth 65536 in
set_option maxHeartbeats 40000000 in
theorem rm13_1 (l : Launch) (Z : State) (a0 : Array Value) (hw : ∀ d ∈ tables_1, d.before a0 Z = true) (ws : List Jvm.Cond) (ad0 : Addr) (x1 : Int64) (x2 : Int64) (kp : Int32) (sz : Int32) (ls : Int32) (fo : Nat → Int64) (fl : Nat → Int64) (jz : Nat) (off : Addr) (len : Addr) (wh : Addr) (h0 : Heap) (n0 : Nat) (Z0 : n0 ≤ h0.size) (E_ad0 : Exa Z h0 ad0 own_cE) (F_kept_ad0 : Fld Z h0 ad0 own_cE "kept" "I" (.int kp)) (F_offsets_ad0 : Fld Z h0 ad0 own_cE "offsets" "[J" (.ref off)) (F_lengths_ad0 : Fld Z h0 ad0 own_cE "lengths" "[J" (.ref len)) (F_whole_ad0 : Fld Z h0 ad0 own_cE "whole" "Ljava/util/List;" (.ref wh)) (F_size_ad0 : Fld Z h0 ad0 own_cE "size" "I" (.int sz)) (F_lastSpan_ad0 : Fld Z h0 ad0 own_cE "lastSpan" "I" (.int ls)) (F_taken_ad0 : Fld Z h0 ad0 own_cE "taken" "I" (.int (0 : Int32))) (F_takenWhole_ad0 : Fld Z h0 ad0 own_cE "takenWhole" "I" (.int (0 : Int32))) (g_ad0 : n0 ≤ ad0) (V_off : own_AV Value.long Z h0 off .long 16 fo) (V_len : own_AV Value.long Z h0 len .long 16 fl) (g_off : n0 ≤ off) (g_len : n0 ≤ len) (ne_off_len : off ≠ len) (ne_ad0_off : ad0 ≠ off) (ne_ad0_len : ad0 ≠ len) (hz0 : ¬ sz < (0 : Int32)) (hzn : sz.toNatClampNeg = jz) (hzl : jz < 16) (hz6 : ¬ sz = (16 : Int32)) :
    MetFree l own_y13 (head1 (Jvm.Cond.code own_y13 prog_47_method_5_code 5 none :: ws) ({ frames := 1, cells := 0, slots := 0, locals := 17 } : Room)) (fun a U => a = #[(.ref ad0), (.long x1), (.long x2)] ∧ Z.Warmed39 U.vm ∧ U.heap = h0) (fun _ _ _ _ _ => True) (fun _ U o U' => ∃ v L, o = .returned v ∧ Q13_1 Z ad0 x1 x2 kp sz ls fo fl jz off len wh h0 n0 v U'.heap L ∧ FrameEnd U o U' L ({ frames := 1, cells := 0, slots := 0, locals := 17 } : Room).cells ({ frames := 1, cells := 0, slots := 0, locals := 17 } : Room).slots) := by
  refine MetFree.of_bodySF (plainFor_of_name own_pn6) hisR ?_
  intro p e s m args below meth c s₁ Bd hml0 hP hK
  obtain ⟨rfl, hZ, hh⟩ := hP
  have hx := Bd.exec
  have hby := Bd.bytes
  have hml : c.maxLocals = 5 := hml0
  have hown : s.vm.findClass own_cE = some m.cls := findClass_of_methodNamed Bd.named
  have hnm := (name_of_methodNamed Bd.named Bd.method).1
  have hlk : meth.locks = false := BodyLoose.notSynchronized Bd
  have X0 : Stand p l e ({ frames := 1, cells := 0, slots := 0, locals := 17 } : Room) s m #[(.ref ad0), (.long x1), (.long x2)] below meth c s₁ [] 0 0 := Stand.of_body Bd
  have e0 : s₁.heap = h0 := by rw [← hh, Bd.state]; rfl
  have N0 := Fr.nil n0
  obtain ⟨G, hG⟩ : ∃ G, G = own_G s (Q13_1 Z ad0 x1 x2 kp sz ls fo fl jz off len wh h0 n0) ({ frames := 1, cells := 0, slots := 0, locals := 17 } : Room).cells ({ frames := 1, cells := 0, slots := 0, locals := 17 } : Room).slots := ⟨_, rfl⟩
  show own_Fin p e below (own_G s (Q13_1 Z ad0 x1 x2 kp sz ls fo fl jz off len wh h0 n0) ({ frames := 1, cells := 0, slots := 0, locals := 17 } : Room).cells ({ frames := 1, cells := 0, slots := 0, locals := 17 } : Room).slots) (s₁.setTop (entryFrame m #[(.ref ad0), (.long x1), (.long x2)] 5))
  rw [← hG]
  refine own_to (fun _ kz => castTop (ef13_1 m ad0 x1 x2) kz) ?_
  show own_Fin p e below G (s₁.setTop (mkF m 0 #[.val (.ref ad0), .val (.long x1), .second, .val (.long x2), .second] []))
  refine own_aloadN X0 hx (hb hby d13_0) rfl (rfl) ?_
  refine own_aloadN X0 hx (hb hby d13_1) rfl (rfl) ?_
  obtain ⟨T2, X2, e2, st2⟩ := getF X0 hx hZ hown (host := "") (Or.inl (own_w hw 96 rfl)) Via.refl e0 F_size_ad0 (g := (mkF m 2 #[.val (.ref ad0), .val (.long x1), .second, .val (.long x2), .second] [(.ref ad0), (.ref ad0)])) rfl rfl (hb hby d13_2)
  refine own_to st2 ?_
  show own_Fin p e below G (T2.setTop (mkF m 5 #[.val (.ref ad0), .val (.long x1), .second, .val (.long x2), .second] [(.int sz), (.ref ad0)]))
  obtain ⟨T5, h5, X5, e5, W5, st5⟩ := putF X2 hx hZ hown (host := "") (Or.inl (own_w hw 72 rfl)) Via.refl e2 F_lastSpan_ad0 E_ad0 (Or.inl (own_w hw 73 rfl)) (own_w hw 30 rfl) (ty := .int) (by decide) rfl rfl (g := (mkF m 5 #[.val (.ref ad0), .val (.long x1), .second, .val (.long x2), .second] [(.int sz), (.ref ad0)])) rfl rfl (hb hby d13_5)
  refine own_to st5 ?_
  have Fw5 : Fld Z h5 ad0 own_cE "lastSpan" "I" (.int sz) := Fld.same W5 F_lastSpan_ad0
  obtain ⟨lo5, X5, N5⟩ : ∃ lo, Stand p l e _ s m _ below meth c T5 lo _ _ ∧ Fr n0 lo := ⟨_, X5, Fr.snoc X5 N0 g_ad0⟩
  show own_Fin p e below G (T5.setTop (mkF m 8 #[.val (.ref ad0), .val (.long x1), .second, .val (.long x2), .second] []))
  refine own_aloadN X5 hx (hb hby d13_8) rfl (rfl) ?_
  refine own_lloadN X5 hx (hb hby d13_9) rfl ?_
  refine own_lloadN X5 hx (hb hby d13_10) rfl ?_
  refine own_to (fun _ kz => XS.lneg X5.here hx rfl (hb hby d13_11) rfl kz) ?_
  show own_Fin p e below G (T5.setTop (mkF m 12 #[.val (.ref ad0), .val (.long x1), .second, .val (.long x2), .second] [(.long (-x2)), (.long x1), (.ref ad0)]))
  have E_ad0_at_12 := (E_ad0.wr W5)
  have F_kept_ad0_at_12 := (F_kept_ad0.other W5 (Or.inr (slot_ne (Or.inr (own_w hw 79 rfl)) (Or.inl (own_w hw 73 rfl)) (by decide) (t := .int) (t' := .int) (by decide) (by decide))))
  have F_offsets_ad0_at_12 := (F_offsets_ad0.other W5 (Or.inr (slot_ne (Or.inl (own_w hw 43 rfl)) (Or.inl (own_w hw 73 rfl)) (by decide) (t := (.array .long)) (t' := .int) (by decide) (by decide))))
  have F_lengths_ad0_at_12 := (F_lengths_ad0.other W5 (Or.inr (slot_ne (Or.inl (own_w hw 45 rfl)) (Or.inl (own_w hw 73 rfl)) (by decide) (t := (.array .long)) (t' := .int) (by decide) (by decide))))
  have F_whole_ad0_at_12 := (F_whole_ad0.other W5 (Or.inr (slot_ne (Or.inr (own_w hw 71 rfl)) (Or.inl (own_w hw 73 rfl)) (by decide) (t := (.object "java/util/List")) (t' := .int) (by decide) (by decide))))
  have F_size_ad0_at_12 := (F_size_ad0.other W5 (Or.inr (slot_ne (Or.inl (own_w hw 97 rfl)) (Or.inl (own_w hw 73 rfl)) (by decide) (t := .int) (t' := .int) (by decide) (by decide))))
  have F_taken_ad0_at_12 := (F_taken_ad0.other W5 (Or.inr (slot_ne (Or.inl (own_w hw 172 rfl)) (Or.inl (own_w hw 73 rfl)) (by decide) (t := .int) (t' := .int) (by decide) (by decide))))
  have F_takenWhole_ad0_at_12 := (F_takenWhole_ad0.other W5 (Or.inr (slot_ne (Or.inl (own_w hw 205 rfl)) (Or.inl (own_w hw 73 rfl)) (by decide) (t := .int) (t' := .int) (by decide) (by decide))))
  have V_off_at_12 := (V_off.other W5 (Ne.symm ne_ad0_off))
  have V_len_at_12 := (V_len.other W5 (Ne.symm ne_ad0_len))
  have Zz_12_W5 := Nat.le_trans Z0 (Nat.le_of_eq (Wr.size W5).symm)
  have Z_12 : n0 ≤ h5.size := Zz_12_W5
  obtain ⟨cq12, qa12, qb12⟩ := Exa.cell E_ad0_at_12
  obtain ⟨_, _, ⟨T12, L12, k12, n12⟩, -, X12, ⟨Lc12, hQ12, l12, y12, z12⟩, st12⟩ := X5.privateBack hx (y := own_y14) hown (mvT hZ (own_w hw 98 rfl)) (mvT hZ (own_w hw 99 rfl)) (own_selPriv (y := own_y14) (y' := own_y13) rfl (mvT hZ (own_w hw 94 rfl)) (Cond.privateMethod_at (mvP hZ (own_w hw 100 rfl) (args := #[]))) (mvT hZ (own_w hw 99 rfl)) (by decide)) (Cond.privateMethod_at (mvP hZ (own_w hw 100 rfl) (args := #[]))) (mvT hZ (own_w hw 101 rfl)) (by decide) (backOf (W := 0) (rm14_1 l Z a0 hw [] ad0 x1 (-x2) kp sz sz fo fl jz off len wh h5 n0 Z_12 E_ad0_at_12 F_kept_ad0_at_12 F_offsets_ad0_at_12 F_lengths_ad0_at_12 F_whole_ad0_at_12 F_size_ad0_at_12 Fw5 F_taken_ad0_at_12 F_takenWhole_ad0_at_12 g_ad0 V_off_at_12 V_len_at_12 g_off g_len ne_off_len ne_ad0_off ne_ad0_len hz0 hzn hzl hz6) hZ (own_w hw 101 rfl) (own_w hw 31 rfl) (by decide) (by decide)) (g := (mkF m 12 #[.val (.ref ad0), .val (.long x1), .second, .val (.long x2), .second] [(.long (-x2)), (.long x1), (.ref ad0)])) rfl (by rw [hml]; rfl) (Steps.refl _) (a := ad0) (by rw [e5]; exact qa12) qb12 (argsL := [(.long x1), (.long (-x2))]) (rest := []) (lenOf own_pd5 rfl) rfl (by show 2 * 0 + _ ≤ _; exact Nat.le_of_eq rfl) (hb hby d13_12) (fun _ _ => ⟨rfl, e5, (by decide : 0 + 0 ≤ _), (by decide : 0 + 0 ≤ _)⟩)
  dsimp only [Pt.U, Pt.locs, Pt.cells, Pt.slots] at X12 l12 y12 z12 st12 hQ12
  subst l12 y12 z12
  obtain ⟨rfl, N12q, Kp12, P12_0, P12_1, P12_2, P12_3, P12_4, P12_5, P12_6, P12_7, P12_8, P12_9, P12_10⟩ := hQ12
  obtain ⟨lo12, X12, N12⟩ : ∃ lo, Stand p l e _ s m _ below meth c T12 lo _ _ ∧ Fr n0 lo := ⟨_, X12, Fr.app N5 N12q⟩
  refine own_via st12 ?_
  show own_Fin p e below G (T12.setTop (mkF m 15 #[.val (.ref ad0), .val (.long x1), .second, .val (.long x2), .second] []))
  have KP_15 : Keep h0 T12.heap [ad0, off, len] := (((Keep.refl h0 [ad0, off, len]).wr W5 (Or.inl (List.mem_of_getElem? (i := 0) rfl))).trans Kp12 (allS (Or.inl (List.mem_of_getElem? (i := 0) rfl)) (allS (Or.inl (List.mem_of_getElem? (i := 1) rfl)) (allS (Or.inl (List.mem_of_getElem? (i := 2) rfl)) all0))))
  exact own_retV X12 hx hlk hG Bd.returns (hb hby d13_15) (by decide) (by decide) ⟨rfl, N12, KP_15, P12_0, P12_1, P12_2, P12_3, P12_4, P12_5, P12_6, P12_7, P12_8, P12_9, P12_10⟩
theorem d22_0 : decode jdk_38_method_6_code 0 = .ok (.aload_n 0, 1) := by decide +kernel
theorem d22_1 : decode jdk_38_method_6_code 1 = .ok (.getfield 9, 3) := by decide +kernel
theorem d22_4 : decode jdk_38_method_6_code 4 = .ok (.arraylength, 1) := by decide +kernel
theorem d22_5 : decode jdk_38_method_6_code 5 = .ok (.istore_n 2, 1) := by decide +kernel
theorem d22_6 : decode jdk_38_method_6_code 6 = .ok (.iload_n 2, 1) := by decide +kernel
theorem d22_7 : decode jdk_38_method_6_code 7 = .ok (.ifCond .gt 13, 3) := by decide +kernel
theorem d22_10 : decode jdk_38_method_6_code 10 = .ok (.aload_n 0, 1) := by decide +kernel
theorem d22_11 : decode jdk_38_method_6_code 11 = .ok (.getfield 9, 3) := by decide +kernel
theorem d22_14 : decode jdk_38_method_6_code 14 = .ok (.getstatic 39, 3) := by decide +kernel
theorem d22_17 : decode jdk_38_method_6_code 17 = .ok (.if_acmp .eq 28, 3) := by decide +kernel
theorem d22_20 : decode jdk_38_method_6_code 20 = .ok (.iload_n 2, 1) := by decide +kernel
theorem d22_21 : decode jdk_38_method_6_code 21 = .ok (.iload_n 1, 1) := by decide +kernel
theorem d22_22 : decode jdk_38_method_6_code 22 = .ok (.iload_n 2, 1) := by decide +kernel
theorem d22_23 : decode jdk_38_method_6_code 23 = .ok (.isub, 1) := by decide +kernel
theorem d22_24 : decode jdk_38_method_6_code 24 = .ok (.iload_n 2, 1) := by decide +kernel
theorem d22_25 : decode jdk_38_method_6_code 25 = .ok (.iconst 1, 1) := by decide +kernel
theorem d22_26 : decode jdk_38_method_6_code 26 = .ok (.ishr, 1) := by decide +kernel
theorem d22_27 : decode jdk_38_method_6_code 27 = .ok (.invokestatic 73, 3) := by decide +kernel
theorem d22_30 : decode jdk_38_method_6_code 30 = .ok (.istore_n 3, 1) := by decide +kernel
theorem d22_31 : decode jdk_38_method_6_code 31 = .ok (.aload_n 0, 1) := by decide +kernel
theorem d22_32 : decode jdk_38_method_6_code 32 = .ok (.aload_n 0, 1) := by decide +kernel
theorem d22_33 : decode jdk_38_method_6_code 33 = .ok (.getfield 9, 3) := by decide +kernel
theorem d22_36 : decode jdk_38_method_6_code 36 = .ok (.iload_n 3, 1) := by decide +kernel
theorem d22_37 : decode jdk_38_method_6_code 37 = .ok (.invokestatic 66, 3) := by decide +kernel
theorem d22_40 : decode jdk_38_method_6_code 40 = .ok (.dup_x1, 1) := by decide +kernel
theorem d22_41 : decode jdk_38_method_6_code 41 = .ok (.putfield 9, 3) := by decide +kernel
theorem d22_44 : decode jdk_38_method_6_code 44 = .ok (.areturn, 1) := by decide +kernel
theorem d22_45 : decode jdk_38_method_6_code 45 = .ok (.aload_n 0, 1) := by decide +kernel
theorem d22_46 : decode jdk_38_method_6_code 46 = .ok (.bipush 10, 2) := by decide +kernel
theorem d22_48 : decode jdk_38_method_6_code 48 = .ok (.iload_n 1, 1) := by decide +kernel
theorem d22_49 : decode jdk_38_method_6_code 49 = .ok (.invokestatic 79, 3) := by decide +kernel
theorem d22_52 : decode jdk_38_method_6_code 52 = .ok (.anewarray 7, 3) := by decide +kernel
theorem d22_55 : decode jdk_38_method_6_code 55 = .ok (.dup_x1, 1) := by decide +kernel
theorem d22_56 : decode jdk_38_method_6_code 56 = .ok (.putfield 9, 3) := by decide +kernel
theorem d22_59 : decode jdk_38_method_6_code 59 = .ok (.areturn, 1) := by decide +kernel
theorem ef22 (m : MethodId) (ad0 : Addr) : entryFrame m #[(.ref ad0), (.int (1 : Int32))] 4 = mkF m 0 #[.val (.ref ad0), .val (.int (1 : Int32)), .unset, .unset] [] := by first | (simp [entryFrame, mkF, argsToLocals, Value.category]; done) | rfl
def Q22 (Z : State) (ad0 : Addr) (mc : Int32) (fd : Nat → Value) (dc : Addr) (h0 : Heap) (n0 : Nat) (v : Option Value) (h : Heap) (L : List Loc) : Prop := ∃ nw0 : Addr, v = some (.ref nw0) ∧ Fr n0 L ∧ Keep h0 h [ad0] ∧ h0.size ≤ nw0 ∧ Exa Z h ad0 own_cL ∧ Fld Z h ad0 "java/util/AbstractList" "modCount" "I" (.int mc) ∧ Fld Z h ad0 own_cL "elementData" own_cA (.ref nw0) ∧ Fld Z h ad0 own_cL "size" "I" (.int (0 : Int32)) ∧ own_RV Z h nw0 "java/lang/Object" 10 (fun _ => Value.null)
set_option maxRecDepth 65536 in
set_option maxHeartbeats 40000000 in
theorem rm22 (l : Launch) (Z : State) (a0 : Array Value) (hw : ∀ d ∈ tables_1, d.before a0 Z = true) (ws : List Jvm.Cond) (ad0 : Addr) (mc : Int32) (fd : Nat → Value) (dc : Addr) (h0 : Heap) (n0 : Nat) (Z0 : n0 ≤ h0.size) (E_ad0 : Exa Z h0 ad0 own_cL) (F_modCount_ad0 : Fld Z h0 ad0 "java/util/AbstractList" "modCount" "I" (.int mc)) (F_elementData_ad0 : Fld Z h0 ad0 own_cL "elementData" own_cA (.ref dc)) (F_size_ad0 : Fld Z h0 ad0 own_cL "size" "I" (.int (0 : Int32))) (g_ad0 : n0 ≤ ad0) (S_DEFAULTCAPACITY_EMPTY_ELEMENTDATA : Sta Z h0 own_cL "DEFAULTCAPACITY_EMPTY_ELEMENTDATA" own_cA (.ref dc)) (V_dc : own_AV id Z h0 dc (.object "java/lang/Object") 0 fd) (ne_dc_ad0 : dc ≠ ad0) :
    MetFree l own_y22 (head1 (Jvm.Cond.code own_y22 jdk_38_method_6_code 4 (some (.array (.object "java/lang/Object"))) :: ws) ({ frames := 1, cells := 1, slots := 10, locals := 14 } : Room)) (fun a U => a = #[(.ref ad0), (.int (1 : Int32))] ∧ Z.Warmed39 U.vm ∧ U.heap = h0) (fun _ _ _ _ _ => True) (fun _ U o U' => ∃ v L, o = .returned v ∧ Q22 Z ad0 mc fd dc h0 n0 v U'.heap L ∧ FrameEnd U o U' L ({ frames := 1, cells := 1, slots := 10, locals := 14 } : Room).cells ({ frames := 1, cells := 1, slots := 10, locals := 14 } : Room).slots) := by
  refine MetFree.of_bodySF (plainFor_of_name own_pn5) hisR ?_
  intro p e s m args below meth c s₁ Bd hml0 hP hK
  obtain ⟨rfl, hZ, hh⟩ := hP
  have hx := Bd.exec
  have hby := Bd.bytes
  have hml : c.maxLocals = 4 := hml0
  have hown : s.vm.findClass own_cL = some m.cls := findClass_of_methodNamed Bd.named
  have hnm := (name_of_methodNamed Bd.named Bd.method).1
  have hlk : meth.locks = false := BodyLoose.notSynchronized Bd
  have X0 : Stand p l e ({ frames := 1, cells := 1, slots := 10, locals := 14 } : Room) s m #[(.ref ad0), (.int (1 : Int32))] below meth c s₁ [] 0 0 := Stand.of_body Bd
  have e0 : s₁.heap = h0 := by rw [← hh, Bd.state]; rfl
  have N0 := Fr.nil n0
  obtain ⟨G, hG⟩ : ∃ G, G = own_G s (Q22 Z ad0 mc fd dc h0 n0) ({ frames := 1, cells := 1, slots := 10, locals := 14 } : Room).cells ({ frames := 1, cells := 1, slots := 10, locals := 14 } : Room).slots := ⟨_, rfl⟩
  show own_Fin p e below (own_G s (Q22 Z ad0 mc fd dc h0 n0) ({ frames := 1, cells := 1, slots := 10, locals := 14 } : Room).cells ({ frames := 1, cells := 1, slots := 10, locals := 14 } : Room).slots) (s₁.setTop (entryFrame m #[(.ref ad0), (.int (1 : Int32))] 4))
  rw [← hG]
  refine own_to (fun _ kz => castTop (ef22 m ad0) kz) ?_
  show own_Fin p e below G (s₁.setTop (mkF m 0 #[.val (.ref ad0), .val (.int (1 : Int32)), .unset, .unset] []))
  refine own_aloadN X0 hx (hb hby d22_0) rfl (rfl) ?_
  obtain ⟨T1, X1, e1, st1⟩ := getF X0 hx hZ hown (host := "") (Or.inl (own_w hw 68 rfl)) Via.refl e0 F_elementData_ad0 (g := (mkF m 1 #[.val (.ref ad0), .val (.int (1 : Int32)), .unset, .unset] [(.ref ad0)])) rfl rfl (hb hby d22_1)
  refine own_to st1 ?_
  show own_Fin p e below G (T1.setTop (mkF m 4 #[.val (.ref ad0), .val (.int (1 : Int32)), .unset, .unset] [(.ref dc)]))
  refine own_to (fun _ kz => own_alen X1 hx hZ e1 V_dc (z := (0 : Int32)) rfl (g := (mkF m 4 #[.val (.ref ad0), .val (.int (1 : Int32)), .unset, .unset] [(.ref dc)])) rfl rfl (hb hby d22_4) kz) ?_
  show own_Fin p e below G (T1.setTop (mkF m 5 #[.val (.ref ad0), .val (.int (1 : Int32)), .unset, .unset] [(.int (0 : Int32))]))
  refine own_to (fun _ kz => XS.istoreN X1.here hx rfl (hb hby d22_5) rfl (l' := #[.val (.ref ad0), .val (.int (1 : Int32)), .val (.int (0 : Int32)), .unset]) rfl kz) ?_
  show own_Fin p e below G (T1.setTop (mkF m 6 #[.val (.ref ad0), .val (.int (1 : Int32)), .val (.int (0 : Int32)), .unset] []))
  refine own_iloadN X1 hx (hb hby d22_6) rfl ?_
  have hc7 : ¬ ((0 : Int32) < (0 : Int32)) := by decide
  refine own_to (fun _ kz => XS.ifNo X1.here hx rfl (hb hby d22_7) rfl ((if0 _ _).trans (flt hc7).2.2.1) kz) ?_
  show own_Fin p e below G (T1.setTop (mkF m 10 #[.val (.ref ad0), .val (.int (1 : Int32)), .val (.int (0 : Int32)), .unset] []))
  refine own_aloadN X1 hx (hb hby d22_10) rfl (rfl) ?_
  obtain ⟨T11, X11, e11, st11⟩ := getF X1 hx hZ hown (host := "") (Or.inl (own_w hw 68 rfl)) Via.refl e1 F_elementData_ad0 (g := (mkF m 11 #[.val (.ref ad0), .val (.int (1 : Int32)), .val (.int (0 : Int32)), .unset] [(.ref ad0)])) rfl rfl (hb hby d22_11)
  refine own_to st11 ?_
  show own_Fin p e below G (T11.setTop (mkF m 14 #[.val (.ref ad0), .val (.int (1 : Int32)), .val (.int (0 : Int32)), .unset] [(.ref dc)]))
  obtain ⟨T14, X14, e14, st14⟩ := getS2 X11 hx hZ hown (host := "") (Or.inl (own_w hw 67 rfl)) Via.refl e11 S_DEFAULTCAPACITY_EMPTY_ELEMENTDATA (g := (mkF m 14 #[.val (.ref ad0), .val (.int (1 : Int32)), .val (.int (0 : Int32)), .unset] [(.ref dc)])) rfl (hb hby d22_14)
  refine own_to st14 ?_
  show own_Fin p e below G (T14.setTop (mkF m 17 #[.val (.ref ad0), .val (.int (1 : Int32)), .val (.int (0 : Int32)), .unset] [(.ref dc), (.ref dc)]))
  refine own_to (fun _ kz => Jvm.RoadKit.acmp (g := (mkF m 17 #[.val (.ref ad0), .val (.int (1 : Int32)), .val (.int (0 : Int32)), .unset] [(.ref dc), (.ref dc)])) X14 hx rfl rfl rfl (pc0 := 17) (pc' := 45) (same := true) rfl (hb hby d22_17) rfl (decide_eq_true rfl) (by decide) (by decide) kz) ?_
  show own_Fin p e below G (T14.setTop (mkF m 45 #[.val (.ref ad0), .val (.int (1 : Int32)), .val (.int (0 : Int32)), .unset] []))
  refine own_aloadN X14 hx (hb hby d22_45) rfl (rfl) ?_
  refine own_to (fun _ kz => XS.bipush X14.here hx rfl (hb hby d22_46) kz) ?_
  show own_Fin p e below G (T14.setTop (mkF m 48 #[.val (.ref ad0), .val (.int (1 : Int32)), .val (.int (0 : Int32)), .unset] [(.int (10 : Int32)), (.ref ad0)]))
  refine own_iloadN X14 hx (hb hby d22_48) rfl ?_
  obtain ⟨_, _, ⟨T49, L49, k49, n49⟩, -, X49, ⟨Lc49, hQ49, l49, y49, z49⟩, st49⟩ := Jvm.LawKit.callS X14 hx (y := own_y23) hown (mvT hZ (own_w hw 155 rfl)) (mvT hZ (own_w hw 156 rfl)) (mvT hZ (own_w hw 3 rfl)) (mvT hZ (own_w hw 157 rfl)) (by decide) (backOf (W := 1) (rm23 l Z a0 hw [] (10 : Int32) (1 : Int32) h0 n0 Z0) hZ (own_w hw 157 rfl) (own_w hw 3 rfl) (by decide) (by decide)) (g := (mkF m 49 #[.val (.ref ad0), .val (.int (1 : Int32)), .val (.int (0 : Int32)), .unset] [(.int (1 : Int32)), (.int (10 : Int32)), (.ref ad0)])) rfl (by rw [hml]; rfl) (argsL := [(.int (10 : Int32)), (.int (1 : Int32))]) (rest := [(.ref ad0)]) (lenOf own_pd1 rfl) rfl (by show 2 * 0 + _ ≤ _; exact Nat.le_of_eq rfl) (hb hby d22_49) (fun _ _ => ⟨rfl, e14, (by decide : 0 + 0 ≤ _), (by decide : 0 + 0 ≤ _)⟩)
  dsimp only [Pt.U, Pt.locs, Pt.cells, Pt.slots] at X49 l49 y49 z49 st49 hQ49
  subst l49 y49 z49
  obtain ⟨hv49, N49q, e49⟩ := hQ49
  rw [show (f23 (10 : Int32) (1 : Int32)) = (10 : Int32) from (by decide)] at hv49
  subst hv49
  obtain ⟨lo49, X49, N49⟩ : ∃ lo, Stand p l e _ s m _ below meth c T49 lo _ _ ∧ Fr n0 lo := ⟨_, X49, Fr.app N0 N49q⟩
  refine own_to st49 ?_
  show own_Fin p e below G (T49.setTop (mkF m 52 #[.val (.ref ad0), .val (.int (1 : Int32)), .val (.int (0 : Int32)), .unset] [(.int (10 : Int32)), (.ref ad0)]))
  obtain ⟨T52, h52, k52, X52, e52, E52, A52, O52, st52⟩ := newR X49 hx hZ hown (own_w hw 158 rfl) (own_w hw 159 rfl) e49 (g := (mkF m 52 #[.val (.ref ad0), .val (.int (1 : Int32)), .val (.int (0 : Int32)), .unset] [(.int (10 : Int32)), (.ref ad0)])) rfl (hb hby d22_52) (n := (10 : Int32)) rfl (by decide) (cap := 10) (by decide) (by decide) (by decide) (by decide)
  obtain ⟨b52, g52⟩ : ∃ z, z = h0.size := ⟨_, rfl⟩
  rw [← g52] at A52 st52
  refine own_to st52 ?_
  have ne_ad0_b52 := Nat.ne_of_lt (Nat.lt_of_lt_of_le E_ad0.lt (Nat.le_of_eq g52.symm))
  have ne_dc_b52 := Nat.ne_of_lt (Nat.lt_of_lt_of_le V_dc.lt (Nat.le_of_eq g52.symm))
  have g_b52 : n0 ≤ b52 := Nat.le_trans Z0 (Nat.le_of_eq g52.symm)
  have sz_b52 : h0.size ≤ b52 := Nat.le_trans (Keep.refl h0 [ad0]).1 (Nat.le_of_eq g52.symm)
  have V52 : own_RV Z h52 b52 "java/lang/Object" 10 (fun _ => Value.null) := own_RV.new A52 O52 (by decide) (by decide)
  show own_Fin p e below G (T52.setTop (mkF m 55 #[.val (.ref ad0), .val (.int (1 : Int32)), .val (.int (0 : Int32)), .unset] [(.ref b52), (.ref ad0)]))
  refine own_to (fun _ kz => XS.dupX1 X52.here hx rfl (hb hby d22_55) rfl rfl rfl kz) ?_
  show own_Fin p e below G (T52.setTop (mkF m 56 #[.val (.ref ad0), .val (.int (1 : Int32)), .val (.int (0 : Int32)), .unset] [(.ref b52), (.ref ad0), (.ref b52)]))
  have E_ad0_at_56 := (E_ad0.ext E52)
  have F_elementData_ad0_at_56 := (F_elementData_ad0.ext E52)
  obtain ⟨T56, h56, X56, e56, W56, st56⟩ := putF X52 hx hZ hown (host := "") (Or.inl (own_w hw 68 rfl)) Via.refl e52 F_elementData_ad0_at_56 E_ad0_at_56 (Or.inl (own_w hw 69 rfl)) (own_w hw 47 rfl) (ty := (.array (.object "java/lang/Object"))) (by decide) rfl rfl (g := (mkF m 56 #[.val (.ref ad0), .val (.int (1 : Int32)), .val (.int (0 : Int32)), .unset] [(.ref b52), (.ref ad0), (.ref b52)])) rfl rfl (hb hby d22_56)
  refine own_to st56 ?_
  have Fw56 : Fld Z h56 ad0 own_cL "elementData" own_cA (.ref b52) := Fld.same W56 F_elementData_ad0_at_56
  obtain ⟨lo56, X56, N56⟩ : ∃ lo, Stand p l e _ s m _ below meth c T56 lo _ _ ∧ Fr n0 lo := ⟨_, X56, Fr.snoc X56 N49 g_ad0⟩
  show own_Fin p e below G (T56.setTop (mkF m 59 #[.val (.ref ad0), .val (.int (1 : Int32)), .val (.int (0 : Int32)), .unset] [(.ref b52)]))
  have KP_59 : Keep h0 h56 [ad0] := (((Keep.refl h0 [ad0]).ext E52).wr W56 (Or.inl (List.mem_of_getElem? (i := 0) rfl)))
  have E_ad0_at_59 := (E_ad0_at_56.wr W56)
  have F_modCount_ad0_at_59 := ((F_modCount_ad0.ext E52).other W56 (Or.inr (slot_ne (Or.inl (own_w hw 66 rfl)) (Or.inl (own_w hw 69 rfl)) (by decide) (t := .int) (t' := (.array (.object "java/lang/Object"))) (by decide) (by decide))))
  have F_size_ad0_at_59 := ((F_size_ad0.ext E52).other W56 (Or.inr (slot_ne (Or.inl (own_w hw 139 rfl)) (Or.inl (own_w hw 69 rfl)) (by decide) (t := .int) (t' := (.array (.object "java/lang/Object"))) (by decide) (by decide))))
  have V52_at_59 := (V52.other W56 (Ne.symm ne_ad0_b52))
  exact own_retA X56 hx hlk hG Bd.returns rfl rfl (hb hby d22_59) (by decide) (by decide) (by rw [e56]; exact ⟨b52, rfl, N56, KP_59, sz_b52, E_ad0_at_59, F_modCount_ad0_at_59, Fw56, F_size_ad0_at_59, V52_at_59⟩)
theorem own_pd6 : parseMethodDescriptor "(I)[Ljava/lang/Object;" = some ⟨[.int], some (.array (.object "java/lang/Object"))⟩ := by decide +kernel
theorem d21_0 : decode jdk_38_method_7_code 0 = .ok (.aload_n 0, 1) := by decide +kernel
theorem d21_1 : decode jdk_38_method_7_code 1 = .ok (.aload_n 0, 1) := by decide +kernel
theorem d21_2 : decode jdk_38_method_7_code 2 = .ok (.getfield 48, 3) := by decide +kernel
theorem d21_5 : decode jdk_38_method_7_code 5 = .ok (.iconst 1, 1) := by decide +kernel
theorem d21_6 : decode jdk_38_method_7_code 6 = .ok (.iadd, 1) := by decide +kernel
theorem d21_7 : decode jdk_38_method_7_code 7 = .ok (.invokevirtual 69, 3) := by decide +kernel
theorem d21_10 : decode jdk_38_method_7_code 10 = .ok (.areturn, 1) := by decide +kernel
theorem ef21 (m : MethodId) (ad0 : Addr) : entryFrame m #[(.ref ad0)] 1 = mkF m 0 #[.val (.ref ad0)] [] := by first | (simp [entryFrame, mkF, argsToLocals, Value.category]; done) | rfl
def Q21 (Z : State) (ad0 : Addr) (mc : Int32) (fd : Nat → Value) (dc : Addr) (h0 : Heap) (n0 : Nat) (v : Option Value) (h : Heap) (L : List Loc) : Prop := ∃ nw0 : Addr, v = some (.ref nw0) ∧ Fr n0 L ∧ Keep h0 h [ad0] ∧ h0.size ≤ nw0 ∧ Exa Z h ad0 own_cL ∧ Fld Z h ad0 "java/util/AbstractList" "modCount" "I" (.int mc) ∧ Fld Z h ad0 own_cL "elementData" own_cA (.ref nw0) ∧ Fld Z h ad0 own_cL "size" "I" (.int (0 : Int32)) ∧ own_RV Z h nw0 "java/lang/Object" 10 (fun _ => Value.null)
set_option maxRecDepth 65536 in
set_option maxHeartbeats 40000000 in
theorem rm21 (l : Launch) (Z : State) (a0 : Array Value) (hw : ∀ d ∈ tables_1, d.before a0 Z = true) (ws : List Jvm.Cond) (ad0 : Addr) (mc : Int32) (fd : Nat → Value) (dc : Addr) (h0 : Heap) (n0 : Nat) (Z0 : n0 ≤ h0.size) (E_ad0 : Exa Z h0 ad0 own_cL) (F_modCount_ad0 : Fld Z h0 ad0 "java/util/AbstractList" "modCount" "I" (.int mc)) (F_elementData_ad0 : Fld Z h0 ad0 own_cL "elementData" own_cA (.ref dc)) (F_size_ad0 : Fld Z h0 ad0 own_cL "size" "I" (.int (0 : Int32))) (g_ad0 : n0 ≤ ad0) (S_DEFAULTCAPACITY_EMPTY_ELEMENTDATA : Sta Z h0 own_cL "DEFAULTCAPACITY_EMPTY_ELEMENTDATA" own_cA (.ref dc)) (V_dc : own_AV id Z h0 dc (.object "java/lang/Object") 0 fd) (ne_dc_ad0 : dc ≠ ad0) :
    MetFree l own_y21 (head1 (Jvm.Cond.code own_y21 jdk_38_method_7_code 1 (some (.array (.object "java/lang/Object"))) :: ws) ({ frames := 2, cells := 1, slots := 10, locals := 29 } : Room)) (fun a U => a = #[(.ref ad0)] ∧ Z.Warmed39 U.vm ∧ U.heap = h0) (fun _ _ _ _ _ => True) (fun _ U o U' => ∃ v L, o = .returned v ∧ Q21 Z ad0 mc fd dc h0 n0 v U'.heap L ∧ FrameEnd U o U' L ({ frames := 2, cells := 1, slots := 10, locals := 29 } : Room).cells ({ frames := 2, cells := 1, slots := 10, locals := 29 } : Room).slots) := by
  refine MetFree.of_bodySF (plainFor_of_name own_pn5) hisR ?_
  intro p e s m args below meth c s₁ Bd hml0 hP hK
  obtain ⟨rfl, hZ, hh⟩ := hP
  have hx := Bd.exec
  have hby := Bd.bytes
  have hml : c.maxLocals = 1 := hml0
  have hown : s.vm.findClass own_cL = some m.cls := findClass_of_methodNamed Bd.named
  have hnm := (name_of_methodNamed Bd.named Bd.method).1
  have hlk : meth.locks = false := BodyLoose.notSynchronized Bd
  have X0 : Stand p l e ({ frames := 2, cells := 1, slots := 10, locals := 29 } : Room) s m #[(.ref ad0)] below meth c s₁ [] 0 0 := Stand.of_body Bd
  have e0 : s₁.heap = h0 := by rw [← hh, Bd.state]; rfl
  have N0 := Fr.nil n0
  obtain ⟨G, hG⟩ : ∃ G, G = own_G s (Q21 Z ad0 mc fd dc h0 n0) ({ frames := 2, cells := 1, slots := 10, locals := 29 } : Room).cells ({ frames := 2, cells := 1, slots := 10, locals := 29 } : Room).slots := ⟨_, rfl⟩
  show own_Fin p e below (own_G s (Q21 Z ad0 mc fd dc h0 n0) ({ frames := 2, cells := 1, slots := 10, locals := 29 } : Room).cells ({ frames := 2, cells := 1, slots := 10, locals := 29 } : Room).slots) (s₁.setTop (entryFrame m #[(.ref ad0)] 1))
  rw [← hG]
  refine own_to (fun _ kz => castTop (ef21 m ad0) kz) ?_
  show own_Fin p e below G (s₁.setTop (mkF m 0 #[.val (.ref ad0)] []))
  refine own_aloadN X0 hx (hb hby d21_0) rfl (rfl) ?_
  refine own_aloadN X0 hx (hb hby d21_1) rfl (rfl) ?_
  obtain ⟨T2, X2, e2, st2⟩ := getF X0 hx hZ hown (host := "") (Or.inl (own_w hw 138 rfl)) Via.refl e0 F_size_ad0 (g := (mkF m 2 #[.val (.ref ad0)] [(.ref ad0), (.ref ad0)])) rfl rfl (hb hby d21_2)
  refine own_to st2 ?_
  show own_Fin p e below G (T2.setTop (mkF m 5 #[.val (.ref ad0)] [(.int (0 : Int32)), (.ref ad0)]))
  refine own_iconst X2 hx (1) (hb hby d21_5) rfl ?_
  refine own_to (fun _ kz => XS.iadd X2.here hx rfl (hb hby d21_6) rfl kz) ?_
  show own_Fin p e below G (T2.setTop (mkF m 7 #[.val (.ref ad0)] [(.int (1 : Int32)), (.ref ad0)]))
  obtain ⟨cq7, qa7, qb7⟩ := Exa.cell E_ad0
  obtain ⟨_, _, ⟨T7, L7, k7, n7⟩, -, X7, ⟨Lc7, hQ7, l7, y7, z7⟩, st7⟩ := X2.privateBack hx (y := own_y22) hown (mvT hZ (own_w hw 150 rfl)) (mvT hZ (own_w hw 151 rfl)) (mvT hZ (own_w hw 153 rfl)) (Cond.privateMethod_at (mvP hZ (own_w hw 152 rfl) (args := #[]))) (mvT hZ (own_w hw 154 rfl)) (by decide) (backOf (W := 0) (rm22 l Z a0 hw [] ad0 mc fd dc h0 n0 Z0 E_ad0 F_modCount_ad0 F_elementData_ad0 F_size_ad0 g_ad0 S_DEFAULTCAPACITY_EMPTY_ELEMENTDATA V_dc ne_dc_ad0) hZ (own_w hw 154 rfl) (own_w hw 48 rfl) (by decide) (by decide)) (g := (mkF m 7 #[.val (.ref ad0)] [(.int (1 : Int32)), (.ref ad0)])) rfl (by rw [hml]; rfl) (Steps.refl _) (a := ad0) (by rw [e2]; exact qa7) qb7 (argsL := [(.int (1 : Int32))]) (rest := []) (lenOf own_pd6 rfl) rfl (by show 2 * 0 + _ ≤ _; exact Nat.le_of_eq rfl) (hb hby d21_7) (fun _ _ => ⟨rfl, e2, (by decide : 0 + 1 ≤ _), (by decide : 0 + 10 ≤ _)⟩)
  dsimp only [Pt.U, Pt.locs, Pt.cells, Pt.slots] at X7 l7 y7 z7 st7 hQ7
  subst l7 y7 z7
  obtain ⟨gr7, rfl, N7q, Kp7, szq_gr7, P7_0, P7_1, P7_2, P7_3, P7_4⟩ := hQ7
  have ne_ad0_gr7 := Nat.ne_of_lt (Nat.lt_of_lt_of_le E_ad0.lt szq_gr7)
  have ne_dc_gr7 := Nat.ne_of_lt (Nat.lt_of_lt_of_le V_dc.lt szq_gr7)
  have g_gr7 : n0 ≤ gr7 := Nat.le_trans Z0 szq_gr7
  have sz_gr7 : h0.size ≤ gr7 := Nat.le_trans (Keep.refl h0 [ad0]).1 szq_gr7
  obtain ⟨lo7, X7, N7⟩ : ∃ lo, Stand p l e _ s m _ below meth c T7 lo _ _ ∧ Fr n0 lo := ⟨_, X7, Fr.app N0 N7q⟩
  refine own_via st7 ?_
  show own_Fin p e below G (T7.setTop (mkF m 10 #[.val (.ref ad0)] [(.ref gr7)]))
  have KP_10 : Keep h0 T7.heap [ad0] := ((Keep.refl h0 [ad0]).trans Kp7 (allS (Or.inl (List.mem_of_getElem? (i := 0) rfl)) all0))
  exact own_retA X7 hx hlk hG Bd.returns rfl rfl (hb hby d21_10) (by decide) (by decide) ⟨gr7, rfl, N7, KP_10, sz_gr7, P7_0, P7_1, P7_2, P7_3, P7_4⟩
theorem own_pd7 : parseMethodDescriptor "()[Ljava/lang/Object;" = some ⟨[], some (.array (.object "java/lang/Object"))⟩ := by decide +kernel
theorem d20_0 : decode jdk_38_method_24_code 0 = .ok (.iload_n 3, 1) := by decide +kernel
theorem d20_1 : decode jdk_38_method_24_code 1 = .ok (.aload_n 2, 1) := by decide +kernel
theorem d20_2 : decode jdk_38_method_24_code 2 = .ok (.arraylength, 1) := by decide +kernel
theorem d20_3 : decode jdk_38_method_24_code 3 = .ok (.if_icmp .ne 8, 3) := by decide +kernel
theorem d20_6 : decode jdk_38_method_24_code 6 = .ok (.aload_n 0, 1) := by decide +kernel
theorem d20_7 : decode jdk_38_method_24_code 7 = .ok (.invokevirtual 129, 3) := by decide +kernel
theorem d20_10 : decode jdk_38_method_24_code 10 = .ok (.astore_n 2, 1) := by decide +kernel
theorem d20_11 : decode jdk_38_method_24_code 11 = .ok (.aload_n 2, 1) := by decide +kernel
theorem d20_12 : decode jdk_38_method_24_code 12 = .ok (.iload_n 3, 1) := by decide +kernel
theorem d20_13 : decode jdk_38_method_24_code 13 = .ok (.aload_n 1, 1) := by decide +kernel
theorem d20_14 : decode jdk_38_method_24_code 14 = .ok (.aastore, 1) := by decide +kernel
theorem d20_15 : decode jdk_38_method_24_code 15 = .ok (.aload_n 0, 1) := by decide +kernel
theorem d20_16 : decode jdk_38_method_24_code 16 = .ok (.iload_n 3, 1) := by decide +kernel
theorem d20_17 : decode jdk_38_method_24_code 17 = .ok (.iconst 1, 1) := by decide +kernel
theorem d20_18 : decode jdk_38_method_24_code 18 = .ok (.iadd, 1) := by decide +kernel
theorem d20_19 : decode jdk_38_method_24_code 19 = .ok (.putfield 48, 3) := by decide +kernel
theorem d20_22 : decode jdk_38_method_24_code 22 = .ok (.return_, 1) := by decide +kernel
theorem ef20_0 (m : MethodId) (ad0 : Addr) (ad1 : Addr) (dc : Addr) : entryFrame m #[(.ref ad0), (.ref ad1), (.ref dc), (.int (0 : Int32))] 4 = mkF m 0 #[.val (.ref ad0), .val (.ref ad1), .val (.ref dc), .val (.int (0 : Int32))] [] := by first | (simp [entryFrame, mkF, argsToLocals, Value.category]; done) | rfl
def Q20_0 (Z : State) (ad0 : Addr) (ad1 : Addr) (dc : Addr) (mc : Int32) (fd : Nat → Value) (h0 : Heap) (n0 : Nat) (v : Option Value) (h : Heap) (L : List Loc) : Prop := ∃ nw0 : Addr, v = none ∧ Fr n0 L ∧ Keep h0 h [ad0] ∧ h0.size ≤ nw0 ∧ Exa Z h ad0 own_cL ∧ Fld Z h ad0 "java/util/AbstractList" "modCount" "I" (.int mc) ∧ Fld Z h ad0 own_cL "elementData" own_cA (.ref nw0) ∧ Fld Z h ad0 own_cL "size" "I" (.int (1 : Int32)) ∧ own_RV Z h nw0 "java/lang/Object" 10 (own_upd (fun _ => Value.null) 0 (.ref ad1))
set_option maxRecDepth 65536 in
set_option maxHeartbeats 40000000 in
theorem rm20_0 (l : Launch) (Z : State) (a0 : Array Value) (hw : ∀ d ∈ tables_1, d.before a0 Z = true) (ws : List Jvm.Cond) (ad0 : Addr) (ad1 : Addr) (dc : Addr) (mc : Int32) (fd : Nat → Value) (h0 : Heap) (n0 : Nat) (Z0 : n0 ≤ h0.size) (E_ad0 : Exa Z h0 ad0 own_cL) (F_modCount_ad0 : Fld Z h0 ad0 "java/util/AbstractList" "modCount" "I" (.int mc)) (F_elementData_ad0 : Fld Z h0 ad0 own_cL "elementData" own_cA (.ref dc)) (F_size_ad0 : Fld Z h0 ad0 own_cL "size" "I" (.int (0 : Int32))) (g_ad0 : n0 ≤ ad0) (S_DEFAULTCAPACITY_EMPTY_ELEMENTDATA : Sta Z h0 own_cL "DEFAULTCAPACITY_EMPTY_ELEMENTDATA" own_cA (.ref dc)) (V_dc : own_AV id Z h0 dc (.object "java/lang/Object") 0 fd) (ne_dc_ad0 : dc ≠ ad0) (E_ad1 : Exa Z h0 ad1 own_cR) :
    MetFree l own_y20 (head1 (Jvm.Cond.code own_y20 jdk_38_method_24_code 4 none :: ws) ({ frames := 3, cells := 1, slots := 10, locals := 41 } : Room)) (fun a U => a = #[(.ref ad0), (.ref ad1), (.ref dc), (.int (0 : Int32))] ∧ Z.Warmed39 U.vm ∧ U.heap = h0) (fun _ _ _ _ _ => True) (fun _ U o U' => ∃ v L, o = .returned v ∧ Q20_0 Z ad0 ad1 dc mc fd h0 n0 v U'.heap L ∧ FrameEnd U o U' L ({ frames := 3, cells := 1, slots := 10, locals := 41 } : Room).cells ({ frames := 3, cells := 1, slots := 10, locals := 41 } : Room).slots) := by
  refine MetFree.of_bodySF (plainFor_of_name own_pn5) hisR ?_
  intro p e s m args below meth c s₁ Bd hml0 hP hK
  obtain ⟨rfl, hZ, hh⟩ := hP
  have hx := Bd.exec
  have hby := Bd.bytes
  have hml : c.maxLocals = 4 := hml0
  have hown : s.vm.findClass own_cL = some m.cls := findClass_of_methodNamed Bd.named
  have hnm := (name_of_methodNamed Bd.named Bd.method).1
  have hlk : meth.locks = false := BodyLoose.notSynchronized Bd
  have X0 : Stand p l e ({ frames := 3, cells := 1, slots := 10, locals := 41 } : Room) s m #[(.ref ad0), (.ref ad1), (.ref dc), (.int (0 : Int32))] below meth c s₁ [] 0 0 := Stand.of_body Bd
  have e0 : s₁.heap = h0 := by rw [← hh, Bd.state]; rfl
  have N0 := Fr.nil n0
  obtain ⟨G, hG⟩ : ∃ G, G = own_G s (Q20_0 Z ad0 ad1 dc mc fd h0 n0) ({ frames := 3, cells := 1, slots := 10, locals := 41 } : Room).cells ({ frames := 3, cells := 1, slots := 10, locals := 41 } : Room).slots := ⟨_, rfl⟩
  show own_Fin p e below (own_G s (Q20_0 Z ad0 ad1 dc mc fd h0 n0) ({ frames := 3, cells := 1, slots := 10, locals := 41 } : Room).cells ({ frames := 3, cells := 1, slots := 10, locals := 41 } : Room).slots) (s₁.setTop (entryFrame m #[(.ref ad0), (.ref ad1), (.ref dc), (.int (0 : Int32))] 4))
  rw [← hG]
  refine own_to (fun _ kz => castTop (ef20_0 m ad0 ad1 dc) kz) ?_
  show own_Fin p e below G (s₁.setTop (mkF m 0 #[.val (.ref ad0), .val (.ref ad1), .val (.ref dc), .val (.int (0 : Int32))] []))
  refine own_iloadN X0 hx (hb hby d20_0) rfl ?_
  refine own_aloadN X0 hx (hb hby d20_1) rfl (rfl) ?_
  refine own_to (fun _ kz => own_alen X0 hx hZ e0 V_dc (z := (0 : Int32)) rfl (g := (mkF m 2 #[.val (.ref ad0), .val (.ref ad1), .val (.ref dc), .val (.int (0 : Int32))] [(.ref dc), (.int (0 : Int32))])) rfl rfl (hb hby d20_2) kz) ?_
  show own_Fin p e below G (s₁.setTop (mkF m 3 #[.val (.ref ad0), .val (.ref ad1), .val (.ref dc), .val (.int (0 : Int32))] [(.int (0 : Int32)), (.int (0 : Int32))]))
  have hc3 : (0 : Int32) = (0 : Int32) := by decide
  refine own_to (fun _ kz => XS.icmpNo X0.here hx rfl (hb hby d20_3) rfl (teq hc3).2 kz) ?_
  show own_Fin p e below G (s₁.setTop (mkF m 6 #[.val (.ref ad0), .val (.ref ad1), .val (.ref dc), .val (.int (0 : Int32))] []))
  refine own_aloadN X0 hx (hb hby d20_6) rfl (rfl) ?_
  obtain ⟨cq7, qa7, qb7⟩ := Exa.cell E_ad0
  obtain ⟨_, _, ⟨T7, L7, k7, n7⟩, -, X7, ⟨Lc7, hQ7, l7, y7, z7⟩, st7⟩ := X0.privateBack hx (y := own_y21) hown (mvT hZ (own_w hw 145 rfl)) (mvT hZ (own_w hw 146 rfl)) (mvT hZ (own_w hw 148 rfl)) (Cond.privateMethod_at (mvP hZ (own_w hw 147 rfl) (args := #[]))) (mvT hZ (own_w hw 149 rfl)) (by decide) (backOf (W := 0) (rm21 l Z a0 hw [] ad0 mc fd dc h0 n0 Z0 E_ad0 F_modCount_ad0 F_elementData_ad0 F_size_ad0 g_ad0 S_DEFAULTCAPACITY_EMPTY_ELEMENTDATA V_dc ne_dc_ad0) hZ (own_w hw 149 rfl) (own_w hw 48 rfl) (by decide) (by decide)) (g := (mkF m 7 #[.val (.ref ad0), .val (.ref ad1), .val (.ref dc), .val (.int (0 : Int32))] [(.ref ad0)])) rfl (by rw [hml]; rfl) (Steps.refl _) (a := ad0) (by rw [e0]; exact qa7) qb7 (argsL := []) (rest := []) (lenOf own_pd7 rfl) rfl (by show 2 * 0 + _ ≤ _; exact Nat.le_of_eq rfl) (hb hby d20_7) (fun _ _ => ⟨rfl, e0, (by decide : 0 + 1 ≤ _), (by decide : 0 + 10 ≤ _)⟩)
  dsimp only [Pt.U, Pt.locs, Pt.cells, Pt.slots] at X7 l7 y7 z7 st7 hQ7
  subst l7 y7 z7
  obtain ⟨gr7, rfl, N7q, Kp7, szq_gr7, P7_0, P7_1, P7_2, P7_3, P7_4⟩ := hQ7
  have ne_ad0_gr7 := Nat.ne_of_lt (Nat.lt_of_lt_of_le E_ad0.lt szq_gr7)
  have ne_dc_gr7 := Nat.ne_of_lt (Nat.lt_of_lt_of_le V_dc.lt szq_gr7)
  have ne_ad1_gr7 := Nat.ne_of_lt (Nat.lt_of_lt_of_le E_ad1.lt szq_gr7)
  have g_gr7 : n0 ≤ gr7 := Nat.le_trans Z0 szq_gr7
  have sz_gr7 : h0.size ≤ gr7 := Nat.le_trans (Keep.refl h0 [ad0]).1 szq_gr7
  obtain ⟨lo7, X7, N7⟩ : ∃ lo, Stand p l e _ s m _ below meth c T7 lo _ _ ∧ Fr n0 lo := ⟨_, X7, Fr.app N0 N7q⟩
  refine own_via st7 ?_
  show own_Fin p e below G (T7.setTop (mkF m 10 #[.val (.ref ad0), .val (.ref ad1), .val (.ref dc), .val (.int (0 : Int32))] [(.ref gr7)]))
  refine own_to (fun _ kz => XS.astoreN X7.here hx rfl (hb hby d20_10) rfl (rfl) (l' := #[.val (.ref ad0), .val (.ref ad1), .val (.ref gr7), .val (.int (0 : Int32))]) rfl kz) ?_
  show own_Fin p e below G (T7.setTop (mkF m 11 #[.val (.ref ad0), .val (.ref ad1), .val (.ref gr7), .val (.int (0 : Int32))] []))
  refine own_aloadN X7 hx (hb hby d20_11) rfl (rfl) ?_
  refine own_iloadN X7 hx (hb hby d20_12) rfl ?_
  refine own_aloadN X7 hx (hb hby d20_13) rfl (rfl) ?_
  have E_ad1_at_14 := (E_ad1.keep Kp7)
  obtain ⟨nn14, cl14, Ar14, Ov14, Sz14, Hs14⟩ := P7_4
  obtain ⟨T14, h14, X14, e14, W14, st14⟩ := stR X7 hx hZ rfl Ar14 (j := (0 : Int32)) (own_in Sz14 (by decide) rfl (by decide)) rfl (Sto.of Ar14 Ov14 (Ins.of_exa E_ad1_at_14 (own_w hw 160 rfl))) (g := (mkF m 14 #[.val (.ref ad0), .val (.ref ad1), .val (.ref gr7), .val (.int (0 : Int32))] [(.ref ad1), (.int (0 : Int32)), (.ref gr7)])) rfl rfl (hb hby d20_14)
  refine own_to st14 ?_
  have V14 : own_RV Z h14 gr7 "java/lang/Object" 10 (own_upd (fun _ => Value.null) 0 (.ref ad1)) := own_RV.set nn14 Ar14 Ov14 Sz14 Hs14 W14 rfl
  obtain ⟨lo14, X14, N14⟩ : ∃ lo, Stand p l e _ s m _ below meth c T14 lo _ _ ∧ Fr n0 lo := ⟨_, X14, Fr.snoc X14 N7 g_gr7⟩
  show own_Fin p e below G (T14.setTop (mkF m 15 #[.val (.ref ad0), .val (.ref ad1), .val (.ref gr7), .val (.int (0 : Int32))] []))
  refine own_aloadN X14 hx (hb hby d20_15) rfl (rfl) ?_
  refine own_iloadN X14 hx (hb hby d20_16) rfl ?_
  refine own_iconst X14 hx (1) (hb hby d20_17) rfl ?_
  refine own_to (fun _ kz => XS.iadd X14.here hx rfl (hb hby d20_18) rfl kz) ?_
  show own_Fin p e below G (T14.setTop (mkF m 19 #[.val (.ref ad0), .val (.ref ad1), .val (.ref gr7), .val (.int (0 : Int32))] [(.int (1 : Int32)), (.ref ad0)]))
  have P7_0_at_19 := (P7_0.wr W14)
  have P7_3_at_19 := (P7_3.other W14 (Or.inl ne_ad0_gr7))
  obtain ⟨T19, h19, X19, e19, W19, st19⟩ := putF X14 hx hZ hown (host := "") (Or.inl (own_w hw 138 rfl)) Via.refl e14 P7_3_at_19 P7_0_at_19 (Or.inl (own_w hw 139 rfl)) (own_w hw 47 rfl) (ty := .int) (by decide) rfl rfl (g := (mkF m 19 #[.val (.ref ad0), .val (.ref ad1), .val (.ref gr7), .val (.int (0 : Int32))] [(.int (1 : Int32)), (.ref ad0)])) rfl rfl (hb hby d20_19)
  refine own_to st19 ?_
  have Fw19 : Fld Z h19 ad0 own_cL "size" "I" (.int (1 : Int32)) := Fld.same W19 P7_3_at_19
  obtain ⟨lo19, X19, N19⟩ : ∃ lo, Stand p l e _ s m _ below meth c T19 lo _ _ ∧ Fr n0 lo := ⟨_, X19, Fr.snoc X19 N14 g_ad0⟩
  show own_Fin p e below G (T19.setTop (mkF m 22 #[.val (.ref ad0), .val (.ref ad1), .val (.ref gr7), .val (.int (0 : Int32))] []))
  have KP_22 : Keep h0 h19 [ad0] := ((((Keep.refl h0 [ad0]).trans Kp7 (allS (Or.inl (List.mem_of_getElem? (i := 0) rfl)) all0)).wr W14 (Or.inr sz_gr7)).wr W19 (Or.inl (List.mem_of_getElem? (i := 0) rfl)))
  have P7_0_at_22 := (P7_0_at_19.wr W19)
  have P7_1_at_22 := ((P7_1.other W14 (Or.inl ne_ad0_gr7)).other W19 (Or.inr (slot_ne (Or.inl (own_w hw 66 rfl)) (Or.inl (own_w hw 139 rfl)) (by decide) (t := .int) (t' := .int) (by decide) (by decide))))
  have P7_2_at_22 := ((P7_2.other W14 (Or.inl ne_ad0_gr7)).other W19 (Or.inr (slot_ne (Or.inl (own_w hw 69 rfl)) (Or.inl (own_w hw 139 rfl)) (by decide) (t := (.array (.object "java/lang/Object"))) (t' := .int) (by decide) (by decide))))
  have V14_at_22 := (V14.other W19 (Ne.symm ne_ad0_gr7))
  exact own_retV X19 hx hlk hG Bd.returns (hb hby d20_22) (by decide) (by decide) (by rw [e19]; exact ⟨gr7, rfl, N19, KP_22, sz_gr7, P7_0_at_22, P7_1_at_22, P7_2_at_22, Fw19, V14_at_22⟩)
theorem own_pd8 : parseMethodDescriptor "(Ljava/lang/Object;[Ljava/lang/Object;I)V" = some ⟨[(.object "java/lang/Object"), (.array (.object "java/lang/Object")), .int], none⟩ := by decide +kernel
theorem d19_0 : decode jdk_38_method_25_code 0 = .ok (.aload_n 0, 1) := by decide +kernel
theorem d19_1 : decode jdk_38_method_25_code 1 = .ok (.dup, 1) := by decide +kernel
theorem d19_2 : decode jdk_38_method_25_code 2 = .ok (.getfield 63, 3) := by decide +kernel
theorem d19_5 : decode jdk_38_method_25_code 5 = .ok (.iconst 1, 1) := by decide +kernel
theorem d19_6 : decode jdk_38_method_25_code 6 = .ok (.iadd, 1) := by decide +kernel
theorem d19_7 : decode jdk_38_method_25_code 7 = .ok (.putfield 63, 3) := by decide +kernel
theorem d19_10 : decode jdk_38_method_25_code 10 = .ok (.aload_n 0, 1) := by decide +kernel
theorem d19_11 : decode jdk_38_method_25_code 11 = .ok (.aload_n 1, 1) := by decide +kernel
theorem d19_12 : decode jdk_38_method_25_code 12 = .ok (.aload_n 0, 1) := by decide +kernel
theorem d19_13 : decode jdk_38_method_25_code 13 = .ok (.getfield 9, 3) := by decide +kernel
theorem d19_16 : decode jdk_38_method_25_code 16 = .ok (.aload_n 0, 1) := by decide +kernel
theorem d19_17 : decode jdk_38_method_25_code 17 = .ok (.getfield 48, 3) := by decide +kernel
theorem d19_20 : decode jdk_38_method_25_code 20 = .ok (.invokevirtual 131, 3) := by decide +kernel
theorem d19_23 : decode jdk_38_method_25_code 23 = .ok (.iconst 1, 1) := by decide +kernel
theorem d19_24 : decode jdk_38_method_25_code 24 = .ok (.ireturn, 1) := by decide +kernel
theorem ef19_0 (m : MethodId) (ad0 : Addr) (ad1 : Addr) : entryFrame m #[(.ref ad0), (.ref ad1)] 2 = mkF m 0 #[.val (.ref ad0), .val (.ref ad1)] [] := by first | (simp [entryFrame, mkF, argsToLocals, Value.category]; done) | rfl
def Q19_0 (Z : State) (ad0 : Addr) (ad1 : Addr) (mc : Int32) (fd : Nat → Value) (dc : Addr) (h0 : Heap) (n0 : Nat) (v : Option Value) (h : Heap) (L : List Loc) : Prop := ∃ nw0 : Addr, v = some (.int (1 : Int32)) ∧ Fr n0 L ∧ Keep h0 h [ad0] ∧ h0.size ≤ nw0 ∧ Exa Z h ad0 own_cL ∧ Fld Z h ad0 "java/util/AbstractList" "modCount" "I" (.int (mc + (1 : Int32))) ∧ Fld Z h ad0 own_cL "elementData" own_cA (.ref nw0) ∧ Fld Z h ad0 own_cL "size" "I" (.int (1 : Int32)) ∧ own_RV Z h nw0 "java/lang/Object" 10 (own_upd (fun _ => Value.null) 0 (.ref ad1))
set_option maxRecDepth 65536 in
set_option maxHeartbeats 40000000 in
theorem rm19_0 (l : Launch) (Z : State) (a0 : Array Value) (hw : ∀ d ∈ tables_1, d.before a0 Z = true) (ws : List Jvm.Cond) (ad0 : Addr) (ad1 : Addr) (mc : Int32) (fd : Nat → Value) (dc : Addr) (h0 : Heap) (n0 : Nat) (Z0 : n0 ≤ h0.size) (E_ad0 : Exa Z h0 ad0 own_cL) (F_modCount_ad0 : Fld Z h0 ad0 "java/util/AbstractList" "modCount" "I" (.int mc)) (F_elementData_ad0 : Fld Z h0 ad0 own_cL "elementData" own_cA (.ref dc)) (F_size_ad0 : Fld Z h0 ad0 own_cL "size" "I" (.int (0 : Int32))) (g_ad0 : n0 ≤ ad0) (S_DEFAULTCAPACITY_EMPTY_ELEMENTDATA : Sta Z h0 own_cL "DEFAULTCAPACITY_EMPTY_ELEMENTDATA" own_cA (.ref dc)) (V_dc : own_AV id Z h0 dc (.object "java/lang/Object") 0 fd) (ne_dc_ad0 : dc ≠ ad0) (E_ad1 : Exa Z h0 ad1 own_cR) :
    MetFree l own_y19 (head1 (Jvm.Cond.code own_y19 jdk_38_method_25_code 2 (some .boolean) :: ws) ({ frames := 4, cells := 1, slots := 10, locals := 56 } : Room)) (fun a U => a = #[(.ref ad0), (.ref ad1)] ∧ Z.Warmed39 U.vm ∧ U.heap = h0) (fun _ _ _ _ _ => True) (fun _ U o U' => ∃ v L, o = .returned v ∧ Q19_0 Z ad0 ad1 mc fd dc h0 n0 v U'.heap L ∧ FrameEnd U o U' L ({ frames := 4, cells := 1, slots := 10, locals := 56 } : Room).cells ({ frames := 4, cells := 1, slots := 10, locals := 56 } : Room).slots) := by
  refine MetFree.of_bodySF (plainFor_of_name own_pn5) hisR ?_
  intro p e s m args below meth c s₁ Bd hml0 hP hK
  obtain ⟨rfl, hZ, hh⟩ := hP
  have hx := Bd.exec
  have hby := Bd.bytes
  have hml : c.maxLocals = 2 := hml0
  have hown : s.vm.findClass own_cL = some m.cls := findClass_of_methodNamed Bd.named
  have hnm := (name_of_methodNamed Bd.named Bd.method).1
  have hlk : meth.locks = false := BodyLoose.notSynchronized Bd
  have X0 : Stand p l e ({ frames := 4, cells := 1, slots := 10, locals := 56 } : Room) s m #[(.ref ad0), (.ref ad1)] below meth c s₁ [] 0 0 := Stand.of_body Bd
  have e0 : s₁.heap = h0 := by rw [← hh, Bd.state]; rfl
  have N0 := Fr.nil n0
  obtain ⟨G, hG⟩ : ∃ G, G = own_G s (Q19_0 Z ad0 ad1 mc fd dc h0 n0) ({ frames := 4, cells := 1, slots := 10, locals := 56 } : Room).cells ({ frames := 4, cells := 1, slots := 10, locals := 56 } : Room).slots := ⟨_, rfl⟩
  show own_Fin p e below (own_G s (Q19_0 Z ad0 ad1 mc fd dc h0 n0) ({ frames := 4, cells := 1, slots := 10, locals := 56 } : Room).cells ({ frames := 4, cells := 1, slots := 10, locals := 56 } : Room).slots) (s₁.setTop (entryFrame m #[(.ref ad0), (.ref ad1)] 2))
  rw [← hG]
  refine own_to (fun _ kz => castTop (ef19_0 m ad0 ad1) kz) ?_
  show own_Fin p e below G (s₁.setTop (mkF m 0 #[.val (.ref ad0), .val (.ref ad1)] []))
  refine own_aloadN X0 hx (hb hby d19_0) rfl (rfl) ?_
  refine own_dup X0 hx (hb hby d19_1) rfl ?_
  obtain ⟨T2, X2, e2, st2⟩ := getF X0 hx hZ hown (host := "") (Or.inl (own_w hw 136 rfl)) (Via.of (own_w hw 137 rfl)) e0 F_modCount_ad0 (g := (mkF m 2 #[.val (.ref ad0), .val (.ref ad1)] [(.ref ad0), (.ref ad0)])) rfl rfl (hb hby d19_2)
  refine own_to st2 ?_
  show own_Fin p e below G (T2.setTop (mkF m 5 #[.val (.ref ad0), .val (.ref ad1)] [(.int mc), (.ref ad0)]))
  refine own_iconst X2 hx (1) (hb hby d19_5) rfl ?_
  refine own_to (fun _ kz => XS.iadd X2.here hx rfl (hb hby d19_6) rfl kz) ?_
  show own_Fin p e below G (T2.setTop (mkF m 7 #[.val (.ref ad0), .val (.ref ad1)] [(.int (mc + (1 : Int32))), (.ref ad0)]))
  obtain ⟨T7, h7, X7, e7, W7, st7⟩ := putF X2 hx hZ hown (host := "") (Or.inl (own_w hw 136 rfl)) (Via.of (own_w hw 137 rfl)) e2 F_modCount_ad0 E_ad0 (Or.inl (own_w hw 66 rfl)) (own_w hw 47 rfl) (ty := .int) (by decide) rfl rfl (g := (mkF m 7 #[.val (.ref ad0), .val (.ref ad1)] [(.int (mc + (1 : Int32))), (.ref ad0)])) rfl rfl (hb hby d19_7)
  refine own_to st7 ?_
  have Fw7 : Fld Z h7 ad0 "java/util/AbstractList" "modCount" "I" (.int (mc + (1 : Int32))) := Fld.same W7 F_modCount_ad0
  obtain ⟨lo7, X7, N7⟩ : ∃ lo, Stand p l e _ s m _ below meth c T7 lo _ _ ∧ Fr n0 lo := ⟨_, X7, Fr.snoc X7 N0 g_ad0⟩
  show own_Fin p e below G (T7.setTop (mkF m 10 #[.val (.ref ad0), .val (.ref ad1)] []))
  refine own_aloadN X7 hx (hb hby d19_10) rfl (rfl) ?_
  refine own_aloadN X7 hx (hb hby d19_11) rfl (rfl) ?_
  refine own_aloadN X7 hx (hb hby d19_12) rfl (rfl) ?_
  have F_elementData_ad0_at_13 := (F_elementData_ad0.other W7 (Or.inr (slot_ne (Or.inl (own_w hw 69 rfl)) (Or.inl (own_w hw 66 rfl)) (by decide) (t := (.array (.object "java/lang/Object"))) (t' := .int) (by decide) (by decide))))
  obtain ⟨T13, X13, e13, st13⟩ := getF X7 hx hZ hown (host := "") (Or.inl (own_w hw 68 rfl)) Via.refl e7 F_elementData_ad0_at_13 (g := (mkF m 13 #[.val (.ref ad0), .val (.ref ad1)] [(.ref ad0), (.ref ad1), (.ref ad0)])) rfl rfl (hb hby d19_13)
  refine own_to st13 ?_
  show own_Fin p e below G (T13.setTop (mkF m 16 #[.val (.ref ad0), .val (.ref ad1)] [(.ref dc), (.ref ad1), (.ref ad0)]))
  refine own_aloadN X13 hx (hb hby d19_16) rfl (rfl) ?_
  have F_size_ad0_at_17 := (F_size_ad0.other W7 (Or.inr (slot_ne (Or.inl (own_w hw 139 rfl)) (Or.inl (own_w hw 66 rfl)) (by decide) (t := .int) (t' := .int) (by decide) (by decide))))
  obtain ⟨T17, X17, e17, st17⟩ := getF X13 hx hZ hown (host := "") (Or.inl (own_w hw 138 rfl)) Via.refl e13 F_size_ad0_at_17 (g := (mkF m 17 #[.val (.ref ad0), .val (.ref ad1)] [(.ref ad0), (.ref dc), (.ref ad1), (.ref ad0)])) rfl rfl (hb hby d19_17)
  refine own_to st17 ?_
  show own_Fin p e below G (T17.setTop (mkF m 20 #[.val (.ref ad0), .val (.ref ad1)] [(.int (0 : Int32)), (.ref dc), (.ref ad1), (.ref ad0)]))
  have E_ad0_at_20 := (E_ad0.wr W7)
  have S_DEFAULTCAPACITY_EMPTY_ELEMENTDATA_at_20 := (S_DEFAULTCAPACITY_EMPTY_ELEMENTDATA.wr W7)
  have V_dc_at_20 := (V_dc.other W7 ne_dc_ad0)
  have E_ad1_at_20 := (E_ad1.wr W7)
  have Zz_20_W7 := Nat.le_trans Z0 (Nat.le_of_eq (Wr.size W7).symm)
  have Z_20 : n0 ≤ h7.size := Zz_20_W7
  obtain ⟨cq20, qa20, qb20⟩ := Exa.cell E_ad0_at_20
  obtain ⟨_, _, ⟨T20, L20, k20, n20⟩, -, X20, ⟨Lc20, hQ20, l20, y20, z20⟩, st20⟩ := X17.privateBack hx (y := own_y20) hown (mvT hZ (own_w hw 140 rfl)) (mvT hZ (own_w hw 141 rfl)) (mvT hZ (own_w hw 143 rfl)) (Cond.privateMethod_at (mvP hZ (own_w hw 142 rfl) (args := #[]))) (mvT hZ (own_w hw 144 rfl)) (by decide) (backOf (W := 0) (rm20_0 l Z a0 hw [] ad0 ad1 dc (mc + (1 : Int32)) fd h7 n0 Z_20 E_ad0_at_20 Fw7 F_elementData_ad0_at_13 F_size_ad0_at_17 g_ad0 S_DEFAULTCAPACITY_EMPTY_ELEMENTDATA_at_20 V_dc_at_20 ne_dc_ad0 E_ad1_at_20) hZ (own_w hw 144 rfl) (own_w hw 48 rfl) (by decide) (by decide)) (g := (mkF m 20 #[.val (.ref ad0), .val (.ref ad1)] [(.int (0 : Int32)), (.ref dc), (.ref ad1), (.ref ad0)])) rfl (by rw [hml]; rfl) (Steps.refl _) (a := ad0) (by rw [e17]; exact qa20) qb20 (argsL := [(.ref ad1), (.ref dc), (.int (0 : Int32))]) (rest := []) (lenOf own_pd8 rfl) rfl (by show 2 * 0 + _ ≤ _; exact Nat.le_of_eq rfl) (hb hby d19_20) (fun _ _ => ⟨rfl, e17, (by decide : 0 + 1 ≤ _), (by decide : 0 + 10 ≤ _)⟩)
  dsimp only [Pt.U, Pt.locs, Pt.cells, Pt.slots] at X20 l20 y20 z20 st20 hQ20
  subst l20 y20 z20
  have KP_20 : Keep h0 h7 [ad0] := ((Keep.refl h0 [ad0]).wr W7 (Or.inl (List.mem_of_getElem? (i := 0) rfl)))
  obtain ⟨ed20, rfl, N20q, Kp20, szq_ed20, P20_0, P20_1, P20_2, P20_3, P20_4⟩ := hQ20
  have ne_ad0_ed20 := Nat.ne_of_lt (Nat.lt_of_lt_of_le E_ad0_at_20.lt szq_ed20)
  have ne_dc_ed20 := Nat.ne_of_lt (Nat.lt_of_lt_of_le V_dc_at_20.lt szq_ed20)
  have ne_ad1_ed20 := Nat.ne_of_lt (Nat.lt_of_lt_of_le E_ad1_at_20.lt szq_ed20)
  have g_ed20 : n0 ≤ ed20 := Nat.le_trans Z_20 szq_ed20
  have sz_ed20 : h0.size ≤ ed20 := Nat.le_trans KP_20.1 szq_ed20
  obtain ⟨lo20, X20, N20⟩ : ∃ lo, Stand p l e _ s m _ below meth c T20 lo _ _ ∧ Fr n0 lo := ⟨_, X20, Fr.app N7 N20q⟩
  refine own_via st20 ?_
  show own_Fin p e below G (T20.setTop (mkF m 23 #[.val (.ref ad0), .val (.ref ad1)] []))
  refine own_iconst X20 hx (1) (hb hby d19_23) rfl ?_
  have KP_24 : Keep h0 T20.heap [ad0] := (KP_20.trans Kp20 (allS (Or.inl (List.mem_of_getElem? (i := 0) rfl)) all0))
  exact own_retN X20 hx hlk hG (t := .boolean) Bd.returns (by simp) (hb hby d19_24) (by decide) (by decide) ⟨ed20, rfl, N20, KP_24, sz_ed20, P20_0, P20_1, P20_2, P20_3, P20_4⟩
theorem ef20_1 (m : MethodId) (ad0 : Addr) (ad1 : Addr) (ed : Addr) (lz : Int32) : entryFrame m #[(.ref ad0), (.ref ad1), (.ref ed), (.int lz)] 4 = mkF m 0 #[.val (.ref ad0), .val (.ref ad1), .val (.ref ed), .val (.int lz)] [] := by first | (simp [entryFrame, mkF, argsToLocals, Value.category]; done) | rfl
def Q20_1 (Z : State) (ad0 : Addr) (ad1 : Addr) (ed : Addr) (lz : Int32) (mc : Int32) (fe : Nat → Value) (jl : Nat) (h0 : Heap) (n0 : Nat) (v : Option Value) (h : Heap) (L : List Loc) : Prop := v = none ∧ Fr n0 L ∧ Keep h0 h [ad0, ed] ∧ Exa Z h ad0 own_cL ∧ Fld Z h ad0 "java/util/AbstractList" "modCount" "I" (.int mc) ∧ Fld Z h ad0 own_cL "elementData" own_cA (.ref ed) ∧ Fld Z h ad0 own_cL "size" "I" (.int (lz + (1 : Int32))) ∧ own_RV Z h ed "java/lang/Object" 10 (own_upd fe jl (.ref ad1))
set_option maxRecDepth 65536 in
set_option maxHeartbeats 40000000 in
theorem rm20_1 (l : Launch) (Z : State) (a0 : Array Value) (hw : ∀ d ∈ tables_1, d.before a0 Z = true) (ws : List Jvm.Cond) (ad0 : Addr) (ad1 : Addr) (ed : Addr) (lz : Int32) (mc : Int32) (fe : Nat → Value) (jl : Nat) (h0 : Heap) (n0 : Nat) (Z0 : n0 ≤ h0.size) (E_ad0 : Exa Z h0 ad0 own_cL) (F_modCount_ad0 : Fld Z h0 ad0 "java/util/AbstractList" "modCount" "I" (.int mc)) (F_elementData_ad0 : Fld Z h0 ad0 own_cL "elementData" own_cA (.ref ed)) (F_size_ad0 : Fld Z h0 ad0 own_cL "size" "I" (.int lz)) (g_ad0 : n0 ≤ ad0) (V_ed : own_RV Z h0 ed "java/lang/Object" 10 fe) (g_ed : n0 ≤ ed) (ne_ed_ad0 : ed ≠ ad0) (hl0 : ¬ lz < (0 : Int32)) (hln_ : lz.toNatClampNeg = jl) (hll : jl < 10) (hl6 : ¬ lz = (10 : Int32)) (E_ad1 : Exa Z h0 ad1 own_cR) :
    MetFree l own_y20 (head1 (Jvm.Cond.code own_y20 jdk_38_method_24_code 4 none :: ws) ({ frames := 0, cells := 0, slots := 0, locals := 0 } : Room)) (fun a U => a = #[(.ref ad0), (.ref ad1), (.ref ed), (.int lz)] ∧ Z.Warmed39 U.vm ∧ U.heap = h0) (fun _ _ _ _ _ => True) (fun _ U o U' => ∃ v L, o = .returned v ∧ Q20_1 Z ad0 ad1 ed lz mc fe jl h0 n0 v U'.heap L ∧ FrameEnd U o U' L ({ frames := 0, cells := 0, slots := 0, locals := 0 } : Room).cells ({ frames := 0, cells := 0, slots := 0, locals := 0 } : Room).slots) := by
  refine MetFree.of_bodySF (plainFor_of_name own_pn5) hisR ?_
  intro p e s m args below meth c s₁ Bd hml0 hP hK
  obtain ⟨rfl, hZ, hh⟩ := hP
  have hx := Bd.exec
  have hby := Bd.bytes
  have hml : c.maxLocals = 4 := hml0
  have hown : s.vm.findClass own_cL = some m.cls := findClass_of_methodNamed Bd.named
  have hnm := (name_of_methodNamed Bd.named Bd.method).1
  have hlk : meth.locks = false := BodyLoose.notSynchronized Bd
  have X0 : Stand p l e ({ frames := 0, cells := 0, slots := 0, locals := 0 } : Room) s m #[(.ref ad0), (.ref ad1), (.ref ed), (.int lz)] below meth c s₁ [] 0 0 := Stand.of_body Bd
  have e0 : s₁.heap = h0 := by rw [← hh, Bd.state]; rfl
  have N0 := Fr.nil n0
  obtain ⟨G, hG⟩ : ∃ G, G = own_G s (Q20_1 Z ad0 ad1 ed lz mc fe jl h0 n0) ({ frames := 0, cells := 0, slots := 0, locals := 0 } : Room).cells ({ frames := 0, cells := 0, slots := 0, locals := 0 } : Room).slots := ⟨_, rfl⟩
  show own_Fin p e below (own_G s (Q20_1 Z ad0 ad1 ed lz mc fe jl h0 n0) ({ frames := 0, cells := 0, slots := 0, locals := 0 } : Room).cells ({ frames := 0, cells := 0, slots := 0, locals := 0 } : Room).slots) (s₁.setTop (entryFrame m #[(.ref ad0), (.ref ad1), (.ref ed), (.int lz)] 4))
  rw [← hG]
  refine own_to (fun _ kz => castTop (ef20_1 m ad0 ad1 ed lz) kz) ?_
  show own_Fin p e below G (s₁.setTop (mkF m 0 #[.val (.ref ad0), .val (.ref ad1), .val (.ref ed), .val (.int lz)] []))
  refine own_iloadN X0 hx (hb hby d20_0) rfl ?_
  refine own_aloadN X0 hx (hb hby d20_1) rfl (rfl) ?_
  refine own_to (fun _ kz => own_alen X0 hx hZ e0 (own_RV.av V_ed) (z := (10 : Int32)) rfl (g := (mkF m 2 #[.val (.ref ad0), .val (.ref ad1), .val (.ref ed), .val (.int lz)] [(.ref ed), (.int lz)])) rfl rfl (hb hby d20_2) kz) ?_
  show own_Fin p e below G (s₁.setTop (mkF m 3 #[.val (.ref ad0), .val (.ref ad1), .val (.ref ed), .val (.int lz)] [(.int (10 : Int32)), (.int lz)]))
  have hc3 : ¬ (lz = (10 : Int32)) := hl6
  refine own_to (fun _ kz => XS.icmpYes X0.here hx rfl (pc0 := 3) (pc' := 11) rfl (hb hby d20_3) rfl (feq hc3).2 (by decide) (by decide) kz) ?_
  show own_Fin p e below G (s₁.setTop (mkF m 11 #[.val (.ref ad0), .val (.ref ad1), .val (.ref ed), .val (.int lz)] []))
  refine own_aloadN X0 hx (hb hby d20_11) rfl (rfl) ?_
  refine own_iloadN X0 hx (hb hby d20_12) rfl ?_
  refine own_aloadN X0 hx (hb hby d20_13) rfl (rfl) ?_
  obtain ⟨nn14, cl14, Ar14, Ov14, Sz14, Hs14⟩ := V_ed
  obtain ⟨T14, h14, X14, e14, W14, st14⟩ := stR X0 hx hZ e0 Ar14 (j := lz) (own_in Sz14 hl0 hln_ hll) rfl (Sto.of Ar14 Ov14 (Ins.of_exa E_ad1 (own_w hw 160 rfl))) (g := (mkF m 14 #[.val (.ref ad0), .val (.ref ad1), .val (.ref ed), .val (.int lz)] [(.ref ad1), (.int lz), (.ref ed)])) rfl rfl (hb hby d20_14)
  refine own_to st14 ?_
  have V14 : own_RV Z h14 ed "java/lang/Object" 10 (own_upd fe jl (.ref ad1)) := own_RV.set nn14 Ar14 Ov14 Sz14 Hs14 W14 hln_
  obtain ⟨lo14, X14, N14⟩ : ∃ lo, Stand p l e _ s m _ below meth c T14 lo _ _ ∧ Fr n0 lo := ⟨_, X14, Fr.snoc X14 N0 g_ed⟩
  show own_Fin p e below G (T14.setTop (mkF m 15 #[.val (.ref ad0), .val (.ref ad1), .val (.ref ed), .val (.int lz)] []))
  refine own_aloadN X14 hx (hb hby d20_15) rfl (rfl) ?_
  refine own_iloadN X14 hx (hb hby d20_16) rfl ?_
  refine own_iconst X14 hx (1) (hb hby d20_17) rfl ?_
  refine own_to (fun _ kz => XS.iadd X14.here hx rfl (hb hby d20_18) rfl kz) ?_
  show own_Fin p e below G (T14.setTop (mkF m 19 #[.val (.ref ad0), .val (.ref ad1), .val (.ref ed), .val (.int lz)] [(.int (lz + (1 : Int32))), (.ref ad0)]))
  have E_ad0_at_19 := (E_ad0.wr W14)
  have F_size_ad0_at_19 := (F_size_ad0.other W14 (Or.inl (Ne.symm ne_ed_ad0)))
  obtain ⟨T19, h19, X19, e19, W19, st19⟩ := putF X14 hx hZ hown (host := "") (Or.inl (own_w hw 138 rfl)) Via.refl e14 F_size_ad0_at_19 E_ad0_at_19 (Or.inl (own_w hw 139 rfl)) (own_w hw 47 rfl) (ty := .int) (by decide) rfl rfl (g := (mkF m 19 #[.val (.ref ad0), .val (.ref ad1), .val (.ref ed), .val (.int lz)] [(.int (lz + (1 : Int32))), (.ref ad0)])) rfl rfl (hb hby d20_19)
  refine own_to st19 ?_
  have Fw19 : Fld Z h19 ad0 own_cL "size" "I" (.int (lz + (1 : Int32))) := Fld.same W19 F_size_ad0_at_19
  obtain ⟨lo19, X19, N19⟩ : ∃ lo, Stand p l e _ s m _ below meth c T19 lo _ _ ∧ Fr n0 lo := ⟨_, X19, Fr.snoc X19 N14 g_ad0⟩
  show own_Fin p e below G (T19.setTop (mkF m 22 #[.val (.ref ad0), .val (.ref ad1), .val (.ref ed), .val (.int lz)] []))
  have KP_22 : Keep h0 h19 [ad0, ed] := (((Keep.refl h0 [ad0, ed]).wr W14 (Or.inl (List.mem_of_getElem? (i := 1) rfl))).wr W19 (Or.inl (List.mem_of_getElem? (i := 0) rfl)))
  have E_ad0_at_22 := (E_ad0_at_19.wr W19)
  have F_modCount_ad0_at_22 := ((F_modCount_ad0.other W14 (Or.inl (Ne.symm ne_ed_ad0))).other W19 (Or.inr (slot_ne (Or.inl (own_w hw 66 rfl)) (Or.inl (own_w hw 139 rfl)) (by decide) (t := .int) (t' := .int) (by decide) (by decide))))
  have F_elementData_ad0_at_22 := ((F_elementData_ad0.other W14 (Or.inl (Ne.symm ne_ed_ad0))).other W19 (Or.inr (slot_ne (Or.inl (own_w hw 69 rfl)) (Or.inl (own_w hw 139 rfl)) (by decide) (t := (.array (.object "java/lang/Object"))) (t' := .int) (by decide) (by decide))))
  have V14_at_22 := (V14.other W19 ne_ed_ad0)
  exact own_retV X19 hx hlk hG Bd.returns (hb hby d20_22) (by decide) (by decide) (by rw [e19]; exact ⟨rfl, N19, KP_22, E_ad0_at_22, F_modCount_ad0_at_22, F_elementData_ad0_at_22, Fw19, V14_at_22⟩)
theorem ef19_1 (m : MethodId) (ad0 : Addr) (ad1 : Addr) : entryFrame m #[(.ref ad0), (.ref ad1)] 2 = mkF m 0 #[.val (.ref ad0), .val (.ref ad1)] [] := by first | (simp [entryFrame, mkF, argsToLocals, Value.category]; done) | rfl
def Q19_1 (Z : State) (ad0 : Addr) (ad1 : Addr) (mc : Int32) (lz : Int32) (fe : Nat → Value) (jl : Nat) (ed : Addr) (h0 : Heap) (n0 : Nat) (v : Option Value) (h : Heap) (L : List Loc) : Prop := v = some (.int (1 : Int32)) ∧ Fr n0 L ∧ Keep h0 h [ad0, ed] ∧ Exa Z h ad0 own_cL ∧ Fld Z h ad0 "java/util/AbstractList" "modCount" "I" (.int (mc + (1 : Int32))) ∧ Fld Z h ad0 own_cL "elementData" own_cA (.ref ed) ∧ Fld Z h ad0 own_cL "size" "I" (.int (lz + (1 : Int32))) ∧ own_RV Z h ed "java/lang/Object" 10 (own_upd fe jl (.ref ad1))
set_option maxRecDepth 65536 in
set_option maxHeartbeats 40000000 in
theorem rm19_1 (l : Launch) (Z : State) (a0 : Array Value) (hw : ∀ d ∈ tables_1, d.before a0 Z = true) (ws : List Jvm.Cond) (ad0 : Addr) (ad1 : Addr) (mc : Int32) (lz : Int32) (fe : Nat → Value) (jl : Nat) (ed : Addr) (h0 : Heap) (n0 : Nat) (Z0 : n0 ≤ h0.size) (E_ad0 : Exa Z h0 ad0 own_cL) (F_modCount_ad0 : Fld Z h0 ad0 "java/util/AbstractList" "modCount" "I" (.int mc)) (F_elementData_ad0 : Fld Z h0 ad0 own_cL "elementData" own_cA (.ref ed)) (F_size_ad0 : Fld Z h0 ad0 own_cL "size" "I" (.int lz)) (g_ad0 : n0 ≤ ad0) (V_ed : own_RV Z h0 ed "java/lang/Object" 10 fe) (g_ed : n0 ≤ ed) (ne_ed_ad0 : ed ≠ ad0) (hl0 : ¬ lz < (0 : Int32)) (hln_ : lz.toNatClampNeg = jl) (hll : jl < 10) (hl6 : ¬ lz = (10 : Int32)) (E_ad1 : Exa Z h0 ad1 own_cR) :
    MetFree l own_y19 (head1 (Jvm.Cond.code own_y19 jdk_38_method_25_code 2 (some .boolean) :: ws) ({ frames := 1, cells := 0, slots := 0, locals := 15 } : Room)) (fun a U => a = #[(.ref ad0), (.ref ad1)] ∧ Z.Warmed39 U.vm ∧ U.heap = h0) (fun _ _ _ _ _ => True) (fun _ U o U' => ∃ v L, o = .returned v ∧ Q19_1 Z ad0 ad1 mc lz fe jl ed h0 n0 v U'.heap L ∧ FrameEnd U o U' L ({ frames := 1, cells := 0, slots := 0, locals := 15 } : Room).cells ({ frames := 1, cells := 0, slots := 0, locals := 15 } : Room).slots) := by
  refine MetFree.of_bodySF (plainFor_of_name own_pn5) hisR ?_
  intro p e s m args below meth c s₁ Bd hml0 hP hK
  obtain ⟨rfl, hZ, hh⟩ := hP
  have hx := Bd.exec
  have hby := Bd.bytes
  have hml : c.maxLocals = 2 := hml0
  have hown : s.vm.findClass own_cL = some m.cls := findClass_of_methodNamed Bd.named
  have hnm := (name_of_methodNamed Bd.named Bd.method).1
  have hlk : meth.locks = false := BodyLoose.notSynchronized Bd
  have X0 : Stand p l e ({ frames := 1, cells := 0, slots := 0, locals := 15 } : Room) s m #[(.ref ad0), (.ref ad1)] below meth c s₁ [] 0 0 := Stand.of_body Bd
  have e0 : s₁.heap = h0 := by rw [← hh, Bd.state]; rfl
  have N0 := Fr.nil n0
  obtain ⟨G, hG⟩ : ∃ G, G = own_G s (Q19_1 Z ad0 ad1 mc lz fe jl ed h0 n0) ({ frames := 1, cells := 0, slots := 0, locals := 15 } : Room).cells ({ frames := 1, cells := 0, slots := 0, locals := 15 } : Room).slots := ⟨_, rfl⟩
  show own_Fin p e below (own_G s (Q19_1 Z ad0 ad1 mc lz fe jl ed h0 n0) ({ frames := 1, cells := 0, slots := 0, locals := 15 } : Room).cells ({ frames := 1, cells := 0, slots := 0, locals := 15 } : Room).slots) (s₁.setTop (entryFrame m #[(.ref ad0), (.ref ad1)] 2))
  rw [← hG]
  refine own_to (fun _ kz => castTop (ef19_1 m ad0 ad1) kz) ?_
  show own_Fin p e below G (s₁.setTop (mkF m 0 #[.val (.ref ad0), .val (.ref ad1)] []))
  refine own_aloadN X0 hx (hb hby d19_0) rfl (rfl) ?_
  refine own_dup X0 hx (hb hby d19_1) rfl ?_
  obtain ⟨T2, X2, e2, st2⟩ := getF X0 hx hZ hown (host := "") (Or.inl (own_w hw 136 rfl)) (Via.of (own_w hw 137 rfl)) e0 F_modCount_ad0 (g := (mkF m 2 #[.val (.ref ad0), .val (.ref ad1)] [(.ref ad0), (.ref ad0)])) rfl rfl (hb hby d19_2)
  refine own_to st2 ?_
  show own_Fin p e below G (T2.setTop (mkF m 5 #[.val (.ref ad0), .val (.ref ad1)] [(.int mc), (.ref ad0)]))
  refine own_iconst X2 hx (1) (hb hby d19_5) rfl ?_
  refine own_to (fun _ kz => XS.iadd X2.here hx rfl (hb hby d19_6) rfl kz) ?_
  show own_Fin p e below G (T2.setTop (mkF m 7 #[.val (.ref ad0), .val (.ref ad1)] [(.int (mc + (1 : Int32))), (.ref ad0)]))
  obtain ⟨T7, h7, X7, e7, W7, st7⟩ := putF X2 hx hZ hown (host := "") (Or.inl (own_w hw 136 rfl)) (Via.of (own_w hw 137 rfl)) e2 F_modCount_ad0 E_ad0 (Or.inl (own_w hw 66 rfl)) (own_w hw 47 rfl) (ty := .int) (by decide) rfl rfl (g := (mkF m 7 #[.val (.ref ad0), .val (.ref ad1)] [(.int (mc + (1 : Int32))), (.ref ad0)])) rfl rfl (hb hby d19_7)
  refine own_to st7 ?_
  have Fw7 : Fld Z h7 ad0 "java/util/AbstractList" "modCount" "I" (.int (mc + (1 : Int32))) := Fld.same W7 F_modCount_ad0
  obtain ⟨lo7, X7, N7⟩ : ∃ lo, Stand p l e _ s m _ below meth c T7 lo _ _ ∧ Fr n0 lo := ⟨_, X7, Fr.snoc X7 N0 g_ad0⟩
  show own_Fin p e below G (T7.setTop (mkF m 10 #[.val (.ref ad0), .val (.ref ad1)] []))
  refine own_aloadN X7 hx (hb hby d19_10) rfl (rfl) ?_
  refine own_aloadN X7 hx (hb hby d19_11) rfl (rfl) ?_
  refine own_aloadN X7 hx (hb hby d19_12) rfl (rfl) ?_
  have F_elementData_ad0_at_13 := (F_elementData_ad0.other W7 (Or.inr (slot_ne (Or.inl (own_w hw 69 rfl)) (Or.inl (own_w hw 66 rfl)) (by decide) (t := (.array (.object "java/lang/Object"))) (t' := .int) (by decide) (by decide))))
  obtain ⟨T13, X13, e13, st13⟩ := getF X7 hx hZ hown (host := "") (Or.inl (own_w hw 68 rfl)) Via.refl e7 F_elementData_ad0_at_13 (g := (mkF m 13 #[.val (.ref ad0), .val (.ref ad1)] [(.ref ad0), (.ref ad1), (.ref ad0)])) rfl rfl (hb hby d19_13)
  refine own_to st13 ?_
  show own_Fin p e below G (T13.setTop (mkF m 16 #[.val (.ref ad0), .val (.ref ad1)] [(.ref ed), (.ref ad1), (.ref ad0)]))
  refine own_aloadN X13 hx (hb hby d19_16) rfl (rfl) ?_
  have F_size_ad0_at_17 := (F_size_ad0.other W7 (Or.inr (slot_ne (Or.inl (own_w hw 139 rfl)) (Or.inl (own_w hw 66 rfl)) (by decide) (t := .int) (t' := .int) (by decide) (by decide))))
  obtain ⟨T17, X17, e17, st17⟩ := getF X13 hx hZ hown (host := "") (Or.inl (own_w hw 138 rfl)) Via.refl e13 F_size_ad0_at_17 (g := (mkF m 17 #[.val (.ref ad0), .val (.ref ad1)] [(.ref ad0), (.ref ed), (.ref ad1), (.ref ad0)])) rfl rfl (hb hby d19_17)
  refine own_to st17 ?_
  show own_Fin p e below G (T17.setTop (mkF m 20 #[.val (.ref ad0), .val (.ref ad1)] [(.int lz), (.ref ed), (.ref ad1), (.ref ad0)]))
  have E_ad0_at_20 := (E_ad0.wr W7)
  have V_ed_at_20 := (V_ed.other W7 ne_ed_ad0)
  have E_ad1_at_20 := (E_ad1.wr W7)
  have Zz_20_W7 := Nat.le_trans Z0 (Nat.le_of_eq (Wr.size W7).symm)
  have Z_20 : n0 ≤ h7.size := Zz_20_W7
  obtain ⟨cq20, qa20, qb20⟩ := Exa.cell E_ad0_at_20
  obtain ⟨_, _, ⟨T20, L20, k20, n20⟩, -, X20, ⟨Lc20, hQ20, l20, y20, z20⟩, st20⟩ := X17.privateBack hx (y := own_y20) hown (mvT hZ (own_w hw 140 rfl)) (mvT hZ (own_w hw 141 rfl)) (mvT hZ (own_w hw 143 rfl)) (Cond.privateMethod_at (mvP hZ (own_w hw 142 rfl) (args := #[]))) (mvT hZ (own_w hw 144 rfl)) (by decide) (backOf (W := 0) (rm20_1 l Z a0 hw [] ad0 ad1 ed lz (mc + (1 : Int32)) fe jl h7 n0 Z_20 E_ad0_at_20 Fw7 F_elementData_ad0_at_13 F_size_ad0_at_17 g_ad0 V_ed_at_20 g_ed ne_ed_ad0 hl0 hln_ hll hl6 E_ad1_at_20) hZ (own_w hw 144 rfl) (own_w hw 48 rfl) (by decide) (by decide)) (g := (mkF m 20 #[.val (.ref ad0), .val (.ref ad1)] [(.int lz), (.ref ed), (.ref ad1), (.ref ad0)])) rfl (by rw [hml]; rfl) (Steps.refl _) (a := ad0) (by rw [e17]; exact qa20) qb20 (argsL := [(.ref ad1), (.ref ed), (.int lz)]) (rest := []) (lenOf own_pd8 rfl) rfl (by show 2 * 0 + _ ≤ _; exact Nat.le_of_eq rfl) (hb hby d19_20) (fun _ _ => ⟨rfl, e17, (by decide : 0 + 0 ≤ _), (by decide : 0 + 0 ≤ _)⟩)
  dsimp only [Pt.U, Pt.locs, Pt.cells, Pt.slots] at X20 l20 y20 z20 st20 hQ20
  subst l20 y20 z20
  obtain ⟨rfl, N20q, Kp20, P20_0, P20_1, P20_2, P20_3, P20_4⟩ := hQ20
  obtain ⟨lo20, X20, N20⟩ : ∃ lo, Stand p l e _ s m _ below meth c T20 lo _ _ ∧ Fr n0 lo := ⟨_, X20, Fr.app N7 N20q⟩
  refine own_via st20 ?_
  show own_Fin p e below G (T20.setTop (mkF m 23 #[.val (.ref ad0), .val (.ref ad1)] []))
  refine own_iconst X20 hx (1) (hb hby d19_23) rfl ?_
  have KP_24 : Keep h0 T20.heap [ad0, ed] := (((Keep.refl h0 [ad0, ed]).wr W7 (Or.inl (List.mem_of_getElem? (i := 0) rfl))).trans Kp20 (allS (Or.inl (List.mem_of_getElem? (i := 0) rfl)) (allS (Or.inl (List.mem_of_getElem? (i := 1) rfl)) all0)))
  exact own_retN X20 hx hlk hG (t := .boolean) Bd.returns (by simp) (hb hby d19_24) (by decide) (by decide) ⟨rfl, N20, KP_24, P20_0, P20_1, P20_2, P20_3, P20_4⟩
theorem d24_0 : decode prog_67_method_5_code 0 = .ok (.aload_n 0, 1) := by decide +kernel
theorem d24_1 : decode prog_67_method_5_code 1 = .ok (.getfield 7, 3) := by decide +kernel
theorem d24_4 : decode prog_67_method_5_code 4 = .ok (.lreturn, 1) := by decide +kernel
theorem ef24 (m : MethodId) (ad0 : Addr) : entryFrame m #[(.ref ad0)] 1 = mkF m 0 #[.val (.ref ad0)] [] := by first | (simp [entryFrame, mkF, argsToLocals, Value.category]; done) | rfl
def f24 (ro : Int64) : Int64 := ro
def Q24 (Z : State) (ad0 : Addr) (ro : Int64) (h0 : Heap) (n0 : Nat) (v : Option Value) (h : Heap) (L : List Loc) : Prop := v = some (.long (f24 ro)) ∧ Fr n0 L ∧ h = h0
set_option maxRecDepth 65536 in
set_option maxHeartbeats 40000000 in
theorem rm24 (l : Launch) (Z : State) (a0 : Array Value) (hw : ∀ d ∈ tables_1, d.before a0 Z = true) (ws : List Jvm.Cond) (ad0 : Addr) (ro : Int64) (h0 : Heap) (n0 : Nat) (Z0 : n0 ≤ h0.size) (E_ad0 : Exa Z h0 ad0 own_cR) (F_offset_ad0 : Fld Z h0 ad0 own_cR "offset" "J" (.long ro)) :
    MetFree l own_y24 (head1 (Jvm.Cond.code own_y24 prog_67_method_5_code 1 (some .long) :: ws) ({ frames := 0, cells := 0, slots := 0, locals := 0 } : Room)) (fun a U => a = #[(.ref ad0)] ∧ Z.Warmed39 U.vm ∧ U.heap = h0) (fun _ _ _ _ _ => True) (fun _ U o U' => ∃ v L, o = .returned v ∧ Q24 Z ad0 ro h0 n0 v U'.heap L ∧ FrameEnd U o U' L ({ frames := 0, cells := 0, slots := 0, locals := 0 } : Room).cells ({ frames := 0, cells := 0, slots := 0, locals := 0 } : Room).slots) := by
  refine MetFree.of_bodySF (plainFor_of_name own_pn3) hisR ?_
  intro p e s m args below meth c s₁ Bd hml0 hP hK
  obtain ⟨rfl, hZ, hh⟩ := hP
  have hx := Bd.exec
  have hby := Bd.bytes
  have hml : c.maxLocals = 1 := hml0
  have hown : s.vm.findClass own_cR = some m.cls := findClass_of_methodNamed Bd.named
  have hnm := (name_of_methodNamed Bd.named Bd.method).1
  have hlk : meth.locks = false := BodyLoose.notSynchronized Bd
  have X0 : Stand p l e ({ frames := 0, cells := 0, slots := 0, locals := 0 } : Room) s m #[(.ref ad0)] below meth c s₁ [] 0 0 := Stand.of_body Bd
  have e0 : s₁.heap = h0 := by rw [← hh, Bd.state]; rfl
  have N0 := Fr.nil n0
  obtain ⟨G, hG⟩ : ∃ G, G = own_G s (Q24 Z ad0 ro h0 n0) ({ frames := 0, cells := 0, slots := 0, locals := 0 } : Room).cells ({ frames := 0, cells := 0, slots := 0, locals := 0 } : Room).slots := ⟨_, rfl⟩
  show own_Fin p e below (own_G s (Q24 Z ad0 ro h0 n0) ({ frames := 0, cells := 0, slots := 0, locals := 0 } : Room).cells ({ frames := 0, cells := 0, slots := 0, locals := 0 } : Room).slots) (s₁.setTop (entryFrame m #[(.ref ad0)] 1))
  rw [← hG]
  refine own_to (fun _ kz => castTop (ef24 m ad0) kz) ?_
  have q0 : (f24 ro) = (f24 ro) := rfl
  show own_Fin p e below G (s₁.setTop (mkF m 0 #[.val (.ref ad0)] []))
  refine own_aloadN X0 hx (hb hby d24_0) rfl (rfl) ?_
  obtain ⟨T1, X1, e1, st1⟩ := getF X0 hx hZ hown (host := "") (Or.inl (own_w hw 21 rfl)) Via.refl e0 F_offset_ad0 (g := (mkF m 1 #[.val (.ref ad0)] [(.ref ad0)])) rfl rfl (hb hby d24_1)
  refine own_to st1 ?_
  show own_Fin p e below G (T1.setTop (mkF m 4 #[.val (.ref ad0)] [(.long ro)]))
  exact own_retJ X1 hx hlk hG Bd.returns (hb hby d24_4) (by decide) (by decide) ⟨(congrArg (fun z => some (Value.long z)) q0).symm, N0, e1⟩
theorem own_pd9 : parseMethodDescriptor "(Ljava/lang/Object;)Z" = some ⟨[(.object "java/lang/Object")], some .boolean⟩ := by decide +kernel
theorem own_pd10 : parseMethodDescriptor "()J" = some ⟨[], some .long⟩ := by decide +kernel
theorem d18_0 : decode prog_47_method_4_code 0 = .ok (.aload_n 0, 1) := by decide +kernel
theorem d18_1 : decode prog_47_method_4_code 1 = .ok (.getfield 37, 3) := by decide +kernel
theorem d18_4 : decode prog_47_method_4_code 4 = .ok (.aload_n 1, 1) := by decide +kernel
theorem d18_5 : decode prog_47_method_4_code 5 = .ok (.invokeinterface 82 2, 5) := by decide +kernel
theorem d18_10 : decode prog_47_method_4_code 10 = .ok (.pop, 1) := by decide +kernel
theorem d18_11 : decode prog_47_method_4_code 11 = .ok (.aload_n 0, 1) := by decide +kernel
theorem d18_12 : decode prog_47_method_4_code 12 = .ok (.aload_n 1, 1) := by decide +kernel
theorem d18_13 : decode prog_47_method_4_code 13 = .ok (.invokevirtual 88, 3) := by decide +kernel
theorem d18_16 : decode prog_47_method_4_code 16 = .ok (.lconst 0, 1) := by decide +kernel
theorem d18_17 : decode prog_47_method_4_code 17 = .ok (.invokevirtual 78, 3) := by decide +kernel
theorem d18_20 : decode prog_47_method_4_code 20 = .ok (.return_, 1) := by decide +kernel
theorem ef18_00 (m : MethodId) (ad0 : Addr) (ad1 : Addr) : entryFrame m #[(.ref ad0), (.ref ad1)] 2 = mkF m 0 #[.val (.ref ad0), .val (.ref ad1)] [] := by first | (simp [entryFrame, mkF, argsToLocals, Value.category]; done) | rfl
def Q18_00 (Z : State) (ad0 : Addr) (ad1 : Addr) (kp : Int32) (ls : Int32) (fz : Nat → Int64) (mc : Int32) (fd : Nat → Value) (ro : Int64) (nent : Addr) (wh : Addr) (dc : Addr) (h0 : Heap) (n0 : Nat) (v : Option Value) (h : Heap) (L : List Loc) : Prop := ∃ nw0 nw1 nw2 : Addr, v = none ∧ Fr n0 L ∧ Keep h0 h [ad0, wh] ∧ h0.size ≤ nw0 ∧ h0.size ≤ nw1 ∧ h0.size ≤ nw2 ∧ nw0 ≠ nw1 ∧ nw0 ≠ nw2 ∧ nw1 ≠ nw2 ∧ Exa Z h ad0 own_cE ∧ Fld Z h ad0 own_cE "kept" "I" (.int kp) ∧ Fld Z h ad0 own_cE "offsets" "[J" (.ref nw0) ∧ Fld Z h ad0 own_cE "lengths" "[J" (.ref nw1) ∧ Fld Z h ad0 own_cE "whole" "Ljava/util/List;" (.ref wh) ∧ Fld Z h ad0 own_cE "size" "I" (.int (1 : Int32)) ∧ Fld Z h ad0 own_cE "lastSpan" "I" (.int ls) ∧ Fld Z h ad0 own_cE "taken" "I" (.int (0 : Int32)) ∧ Fld Z h ad0 own_cE "takenWhole" "I" (.int (0 : Int32)) ∧ own_AV Value.long Z h nw0 .long 16 (own_upd (fun _ => (0 : Int64)) 0 (f24 ro)) ∧ own_AV Value.long Z h nw1 .long 16 (own_upd (fun _ => (0 : Int64)) 0 (0 : Int64)) ∧ Exa Z h wh own_cL ∧ Fld Z h wh "java/util/AbstractList" "modCount" "I" (.int (mc + (1 : Int32))) ∧ Fld Z h wh own_cL "elementData" own_cA (.ref nw2) ∧ Fld Z h wh own_cL "size" "I" (.int (1 : Int32)) ∧ own_RV Z h nw2 "java/lang/Object" 10 (own_upd (fun _ => Value.null) 0 (.ref ad1))
set_option maxRecDepth 65536 in
set_option maxHeartbeats 40000000 in
theorem rm18_00 (l : Launch) (Z : State) (a0 : Array Value) (hw : ∀ d ∈ tables_1, d.before a0 Z = true) (ws : List Jvm.Cond) (ad0 : Addr) (ad1 : Addr) (kp : Int32) (ls : Int32) (fz : Nat → Int64) (mc : Int32) (fd : Nat → Value) (ro : Int64) (nent : Addr) (wh : Addr) (dc : Addr) (h0 : Heap) (n0 : Nat) (Z0 : n0 ≤ h0.size) (E_ad0 : Exa Z h0 ad0 own_cE) (F_kept_ad0 : Fld Z h0 ad0 own_cE "kept" "I" (.int kp)) (F_offsets_ad0 : Fld Z h0 ad0 own_cE "offsets" "[J" (.ref nent)) (F_lengths_ad0 : Fld Z h0 ad0 own_cE "lengths" "[J" (.ref nent)) (F_whole_ad0 : Fld Z h0 ad0 own_cE "whole" "Ljava/util/List;" (.ref wh)) (F_size_ad0 : Fld Z h0 ad0 own_cE "size" "I" (.int (0 : Int32))) (F_lastSpan_ad0 : Fld Z h0 ad0 own_cE "lastSpan" "I" (.int ls)) (F_taken_ad0 : Fld Z h0 ad0 own_cE "taken" "I" (.int (0 : Int32))) (F_takenWhole_ad0 : Fld Z h0 ad0 own_cE "takenWhole" "I" (.int (0 : Int32))) (g_ad0 : n0 ≤ ad0) (V_nent : own_AV Value.long Z h0 nent .long 0 fz) (ne_nent_ad0 : nent ≠ ad0) (E_wh : Exa Z h0 wh own_cL) (F_modCount_wh : Fld Z h0 wh "java/util/AbstractList" "modCount" "I" (.int mc)) (F_elementData_wh : Fld Z h0 wh own_cL "elementData" own_cA (.ref dc)) (F_size_wh : Fld Z h0 wh own_cL "size" "I" (.int (0 : Int32))) (g_wh : n0 ≤ wh) (S_DEFAULTCAPACITY_EMPTY_ELEMENTDATA : Sta Z h0 own_cL "DEFAULTCAPACITY_EMPTY_ELEMENTDATA" own_cA (.ref dc)) (V_dc : own_AV id Z h0 dc (.object "java/lang/Object") 0 fd) (ne_dc_wh : dc ≠ wh) (ne_ad0_wh : ad0 ≠ wh) (ne_nent_wh : nent ≠ wh) (ne_dc_ad0 : dc ≠ ad0) (E_ad1 : Exa Z h0 ad1 own_cR) (F_offset_ad1 : Fld Z h0 ad1 own_cR "offset" "J" (.long ro)) (ne_ad1_wh : ad1 ≠ wh) :
    MetFree l own_y18 (head1 (Jvm.Cond.code own_y18 prog_47_method_4_code 2 none :: ws) ({ frames := 5, cells := 3, slots := 42, locals := 69 } : Room)) (fun a U => a = #[(.ref ad0), (.ref ad1)] ∧ Z.Warmed39 U.vm ∧ U.heap = h0) (fun _ _ _ _ _ => True) (fun _ U o U' => ∃ v L, o = .returned v ∧ Q18_00 Z ad0 ad1 kp ls fz mc fd ro nent wh dc h0 n0 v U'.heap L ∧ FrameEnd U o U' L ({ frames := 5, cells := 3, slots := 42, locals := 69 } : Room).cells ({ frames := 5, cells := 3, slots := 42, locals := 69 } : Room).slots) := by
  refine MetFree.of_bodySF (plainFor_of_name own_pn6) hisR ?_
  intro p e s m args below meth c s₁ Bd hml0 hP hK
  obtain ⟨rfl, hZ, hh⟩ := hP
  have hx := Bd.exec
  have hby := Bd.bytes
  have hml : c.maxLocals = 2 := hml0
  have hown : s.vm.findClass own_cE = some m.cls := findClass_of_methodNamed Bd.named
  have hnm := (name_of_methodNamed Bd.named Bd.method).1
  have hlk : meth.locks = false := BodyLoose.notSynchronized Bd
  have X0 : Stand p l e ({ frames := 5, cells := 3, slots := 42, locals := 69 } : Room) s m #[(.ref ad0), (.ref ad1)] below meth c s₁ [] 0 0 := Stand.of_body Bd
  have e0 : s₁.heap = h0 := by rw [← hh, Bd.state]; rfl
  have N0 := Fr.nil n0
  obtain ⟨G, hG⟩ : ∃ G, G = own_G s (Q18_00 Z ad0 ad1 kp ls fz mc fd ro nent wh dc h0 n0) ({ frames := 5, cells := 3, slots := 42, locals := 69 } : Room).cells ({ frames := 5, cells := 3, slots := 42, locals := 69 } : Room).slots := ⟨_, rfl⟩
  show own_Fin p e below (own_G s (Q18_00 Z ad0 ad1 kp ls fz mc fd ro nent wh dc h0 n0) ({ frames := 5, cells := 3, slots := 42, locals := 69 } : Room).cells ({ frames := 5, cells := 3, slots := 42, locals := 69 } : Room).slots) (s₁.setTop (entryFrame m #[(.ref ad0), (.ref ad1)] 2))
  rw [← hG]
  refine own_to (fun _ kz => castTop (ef18_00 m ad0 ad1) kz) ?_
  show own_Fin p e below G (s₁.setTop (mkF m 0 #[.val (.ref ad0), .val (.ref ad1)] []))
  refine own_aloadN X0 hx (hb hby d18_0) rfl (rfl) ?_
  obtain ⟨T1, X1, e1, st1⟩ := getF X0 hx hZ hown (host := "") (Or.inl (own_w hw 70 rfl)) Via.refl e0 F_whole_ad0 (g := (mkF m 1 #[.val (.ref ad0), .val (.ref ad1)] [(.ref ad0)])) rfl rfl (hb hby d18_1)
  refine own_to st1 ?_
  show own_Fin p e below G (T1.setTop (mkF m 4 #[.val (.ref ad0), .val (.ref ad1)] [(.ref wh)]))
  refine own_aloadN X1 hx (hb hby d18_4) rfl (rfl) ?_
  obtain ⟨cq5, kq5, qa5, qb5, qc5⟩ := isOf hZ e1 E_wh
  obtain ⟨_, _, ⟨T5, L5, k5, n5⟩, -, X5, ⟨Lc5, hQ5, l5, y5, z5⟩, st5⟩ := X1.interfaceBack hx (xi := (⟨"java/util/List", "add", "(Ljava/lang/Object;)Z"⟩ : MethodName)) (y := own_y19) hown (mvT hZ (own_w hw 127 rfl)) (mvT hZ (own_w hw 128 rfl)) (mvT hZ (own_w hw 129 rfl)) (mvT hZ (own_w hw 130 rfl)) (mvT hZ (own_w hw 131 rfl)) (mvT hZ (own_w hw 132 rfl)) (mvT hZ (own_w hw 133 rfl)) (mvT hZ (own_w hw 134 rfl)) (by decide) (backOf (W := 0) (rm19_0 l Z a0 hw [] wh ad1 mc fd dc h0 n0 Z0 E_wh F_modCount_wh F_elementData_wh F_size_wh g_wh S_DEFAULTCAPACITY_EMPTY_ELEMENTDATA V_dc ne_dc_wh E_ad1) hZ (own_w hw 135 rfl) (own_w hw 48 rfl) (by decide) (by decide)) qa5 qb5 qc5 (g := (mkF m 5 #[.val (.ref ad0), .val (.ref ad1)] [(.ref ad1), (.ref wh)])) rfl (by rw [hml]; rfl) (Steps.refl _) (argsL := [(.ref ad1)]) (rest := []) (lenOf own_pd9 rfl) rfl (by show 2 * 0 + _ ≤ _; exact Nat.le_of_eq rfl) (hb hby d18_5) (fun _ _ => ⟨rfl, e1, (by decide : 0 + 1 ≤ _), (by decide : 0 + 10 ≤ _)⟩)
  dsimp only [Pt.U, Pt.locs, Pt.cells, Pt.slots] at X5 l5 y5 z5 st5 hQ5
  subst l5 y5 z5
  obtain ⟨ed5, rfl, N5q, Kp5, szq_ed5, P5_0, P5_1, P5_2, P5_3, P5_4⟩ := hQ5
  have ne_ad0_ed5 := Nat.ne_of_lt (Nat.lt_of_lt_of_le E_ad0.lt szq_ed5)
  have ne_nent_ed5 := Nat.ne_of_lt (Nat.lt_of_lt_of_le V_nent.lt szq_ed5)
  have ne_wh_ed5 := Nat.ne_of_lt (Nat.lt_of_lt_of_le E_wh.lt szq_ed5)
  have ne_dc_ed5 := Nat.ne_of_lt (Nat.lt_of_lt_of_le V_dc.lt szq_ed5)
  have ne_ad1_ed5 := Nat.ne_of_lt (Nat.lt_of_lt_of_le E_ad1.lt szq_ed5)
  have g_ed5 : n0 ≤ ed5 := Nat.le_trans Z0 szq_ed5
  have sz_ed5 : h0.size ≤ ed5 := Nat.le_trans (Keep.refl h0 [ad0, wh]).1 szq_ed5
  obtain ⟨lo5, X5, N5⟩ : ∃ lo, Stand p l e _ s m _ below meth c T5 lo _ _ ∧ Fr n0 lo := ⟨_, X5, Fr.app N0 N5q⟩
  refine own_via st5 ?_
  show own_Fin p e below G (T5.setTop (mkF m 10 #[.val (.ref ad0), .val (.ref ad1)] [(.int (1 : Int32))]))
  refine own_to (fun _ kz => XS.pop X5.here hx rfl (hb hby d18_10) rfl rfl kz) ?_
  show own_Fin p e below G (T5.setTop (mkF m 11 #[.val (.ref ad0), .val (.ref ad1)] []))
  refine own_aloadN X5 hx (hb hby d18_11) rfl (rfl) ?_
  refine own_aloadN X5 hx (hb hby d18_12) rfl (rfl) ?_
  have E_ad1_at_13 := (E_ad1.keep Kp5)
  have F_offset_ad1_at_13 := (F_offset_ad1.keep Kp5 (ninS ne_ad1_wh nin0))
  have Zz_13_Kp5 := Nat.le_trans Z0 Kp5.1
  have Z_13 : n0 ≤ T5.heap.size := Zz_13_Kp5
  obtain ⟨cq13, kq13, qa13, qb13, qc13⟩ := isOf hZ rfl E_ad1_at_13
  obtain ⟨_, _, ⟨T13, L13, k13, n13⟩, -, X13, ⟨Lc13, hQ13, l13, y13, z13⟩, st13⟩ := X5.virtualBack hx (y := own_y24) (z := own_y24) hown (mvT hZ (own_w hw 161 rfl)) (mvT hZ (own_w hw 162 rfl)) (notFace_of_selects (args := #[]) (mvT hZ (own_w hw 164 rfl))) (mvT hZ (own_w hw 164 rfl)) (mvT hZ (own_w hw 163 rfl)) (by decide) (backOf (W := 1) (rm24 l Z a0 hw [] ad1 ro T5.heap n0 Z_13 E_ad1_at_13 F_offset_ad1_at_13) hZ (own_w hw 165 rfl) (own_w hw 9 rfl) (by decide) (by decide)) qa13 qc13 (g := (mkF m 13 #[.val (.ref ad0), .val (.ref ad1)] [(.ref ad1), (.ref ad0)])) rfl (by rw [hml]; rfl) (Steps.refl _) (argsL := []) (rest := [(.ref ad0)]) (lenOf own_pd10 rfl) rfl (by show 2 * 0 + _ ≤ _; exact Nat.le_of_eq rfl) (hb hby d18_13) (fun _ _ => ⟨rfl, rfl, (by decide : 1 + 0 ≤ _), (by decide : 10 + 0 ≤ _)⟩)
  dsimp only [Pt.U, Pt.locs, Pt.cells, Pt.slots] at X13 l13 y13 z13 st13 hQ13
  subst l13 y13 z13
  obtain ⟨rfl, N13q, e13⟩ := hQ13
  obtain ⟨lo13, X13, N13⟩ : ∃ lo, Stand p l e _ s m _ below meth c T13 lo _ _ ∧ Fr n0 lo := ⟨_, X13, Fr.app N5 N13q⟩
  refine own_via st13 ?_
  show own_Fin p e below G (T13.setTop (mkF m 16 #[.val (.ref ad0), .val (.ref ad1)] [(.long (f24 ro)), (.ref ad0)]))
  refine own_to (fun _ kz => XS.lconst X13.here hx rfl (hb hby d18_16) kz) ?_
  show own_Fin p e below G (T13.setTop (mkF m 17 #[.val (.ref ad0), .val (.ref ad1)] [(.long (0 : Int64)), (.long (f24 ro)), (.ref ad0)]))
  have E_ad0_at_17 := (E_ad0.keep Kp5)
  have F_kept_ad0_at_17 := (F_kept_ad0.keep Kp5 (ninS ne_ad0_wh nin0))
  have F_offsets_ad0_at_17 := (F_offsets_ad0.keep Kp5 (ninS ne_ad0_wh nin0))
  have F_lengths_ad0_at_17 := (F_lengths_ad0.keep Kp5 (ninS ne_ad0_wh nin0))
  have F_whole_ad0_at_17 := (F_whole_ad0.keep Kp5 (ninS ne_ad0_wh nin0))
  have F_size_ad0_at_17 := (F_size_ad0.keep Kp5 (ninS ne_ad0_wh nin0))
  have F_lastSpan_ad0_at_17 := (F_lastSpan_ad0.keep Kp5 (ninS ne_ad0_wh nin0))
  have F_taken_ad0_at_17 := (F_taken_ad0.keep Kp5 (ninS ne_ad0_wh nin0))
  have F_takenWhole_ad0_at_17 := (F_takenWhole_ad0.keep Kp5 (ninS ne_ad0_wh nin0))
  have V_nent_at_17 := (V_nent.keep Kp5 (ninS ne_nent_wh nin0))
  obtain ⟨cq17, qa17, qb17⟩ := Exa.cell E_ad0_at_17
  obtain ⟨_, _, ⟨T17, L17, k17, n17⟩, -, X17, ⟨Lc17, hQ17, l17, y17, z17⟩, st17⟩ := X13.privateBack hx (y := own_y14) hown (mvT hZ (own_w hw 98 rfl)) (mvT hZ (own_w hw 99 rfl)) (own_selPriv (y := own_y14) (y' := own_y13) rfl (mvT hZ (own_w hw 94 rfl)) (Cond.privateMethod_at (mvP hZ (own_w hw 100 rfl) (args := #[]))) (mvT hZ (own_w hw 99 rfl)) (by decide)) (Cond.privateMethod_at (mvP hZ (own_w hw 100 rfl) (args := #[]))) (mvT hZ (own_w hw 101 rfl)) (by decide) (backOf (W := 0) (rm14_0 l Z a0 hw [] ad0 (f24 ro) (0 : Int64) kp ls fz nent wh T5.heap n0 Z_13 E_ad0_at_17 F_kept_ad0_at_17 F_offsets_ad0_at_17 F_lengths_ad0_at_17 F_whole_ad0_at_17 F_size_ad0_at_17 F_lastSpan_ad0_at_17 F_taken_ad0_at_17 F_takenWhole_ad0_at_17 g_ad0 V_nent_at_17 ne_nent_ad0) hZ (own_w hw 101 rfl) (own_w hw 31 rfl) (by decide) (by decide)) (g := (mkF m 17 #[.val (.ref ad0), .val (.ref ad1)] [(.long (0 : Int64)), (.long (f24 ro)), (.ref ad0)])) rfl (by rw [hml]; rfl) (Steps.refl _) (a := ad0) (by rw [e13]; exact qa17) qb17 (argsL := [(.long (f24 ro)), (.long (0 : Int64))]) (rest := []) (lenOf own_pd5 rfl) rfl (by show 2 * 0 + _ ≤ _; exact Nat.le_of_eq rfl) (hb hby d18_17) (fun _ _ => ⟨rfl, e13, (by decide : 1 + 2 ≤ _), (by decide : 10 + 32 ≤ _)⟩)
  dsimp only [Pt.U, Pt.locs, Pt.cells, Pt.slots] at X17 l17 y17 z17 st17 hQ17
  subst l17 y17 z17
  have KP_17 : Keep h0 T5.heap [ad0, wh] := ((Keep.refl h0 [ad0, wh]).trans Kp5 (allS (Or.inl (List.mem_of_getElem? (i := 1) rfl)) all0))
  obtain ⟨off17, len17, rfl, N17q, Kp17, szq_off17, szq_len17, neq_off17_len17, P17_0, P17_1, P17_2, P17_3, P17_4, P17_5, P17_6, P17_7, P17_8, P17_9, P17_10⟩ := hQ17
  have ne_ad0_off17 := Nat.ne_of_lt (Nat.lt_of_lt_of_le E_ad0_at_17.lt szq_off17)
  have ne_ad0_len17 := Nat.ne_of_lt (Nat.lt_of_lt_of_le E_ad0_at_17.lt szq_len17)
  have ne_nent_off17 := Nat.ne_of_lt (Nat.lt_of_lt_of_le V_nent_at_17.lt szq_off17)
  have ne_nent_len17 := Nat.ne_of_lt (Nat.lt_of_lt_of_le V_nent_at_17.lt szq_len17)
  have ne_wh_off17 := Nat.ne_of_lt (Nat.lt_of_lt_of_le P5_0.lt szq_off17)
  have ne_wh_len17 := Nat.ne_of_lt (Nat.lt_of_lt_of_le P5_0.lt szq_len17)
  have ne_dc_off17 := Nat.ne_of_lt (Nat.lt_of_lt_of_le (V_dc.keep Kp5 (ninS ne_dc_wh nin0)).lt szq_off17)
  have ne_dc_len17 := Nat.ne_of_lt (Nat.lt_of_lt_of_le (V_dc.keep Kp5 (ninS ne_dc_wh nin0)).lt szq_len17)
  have ne_ad1_off17 := Nat.ne_of_lt (Nat.lt_of_lt_of_le E_ad1_at_13.lt szq_off17)
  have ne_ad1_len17 := Nat.ne_of_lt (Nat.lt_of_lt_of_le E_ad1_at_13.lt szq_len17)
  have ne_ed5_off17 := Nat.ne_of_lt (Nat.lt_of_lt_of_le P5_4.lt szq_off17)
  have ne_ed5_len17 := Nat.ne_of_lt (Nat.lt_of_lt_of_le P5_4.lt szq_len17)
  have g_off17 : n0 ≤ off17 := Nat.le_trans Z_13 szq_off17
  have sz_off17 : h0.size ≤ off17 := Nat.le_trans KP_17.1 szq_off17
  have g_len17 : n0 ≤ len17 := Nat.le_trans Z_13 szq_len17
  have sz_len17 : h0.size ≤ len17 := Nat.le_trans KP_17.1 szq_len17
  obtain ⟨lo17, X17, N17⟩ : ∃ lo, Stand p l e _ s m _ below meth c T17 lo _ _ ∧ Fr n0 lo := ⟨_, X17, Fr.app N13 N17q⟩
  refine own_via st17 ?_
  show own_Fin p e below G (T17.setTop (mkF m 20 #[.val (.ref ad0), .val (.ref ad1)] []))
  have KP_20 : Keep h0 T17.heap [ad0, wh] := (KP_17.trans Kp17 (allS (Or.inl (List.mem_of_getElem? (i := 0) rfl)) all0))
  have P5_0_at_20 := (P5_0.keep Kp17)
  have P5_1_at_20 := (P5_1.keep Kp17 (ninS (Ne.symm ne_ad0_wh) nin0))
  have P5_2_at_20 := (P5_2.keep Kp17 (ninS (Ne.symm ne_ad0_wh) nin0))
  have P5_3_at_20 := (P5_3.keep Kp17 (ninS (Ne.symm ne_ad0_wh) nin0))
  have P5_4_at_20 := (P5_4.keep Kp17 (ninS (Ne.symm ne_ad0_ed5) nin0))
  exact own_retV X17 hx hlk hG Bd.returns (hb hby d18_20) (by decide) (by decide) ⟨off17, len17, ed5, rfl, N17, KP_20, sz_off17, sz_len17, sz_ed5, neq_off17_len17, (Ne.symm ne_ed5_off17), (Ne.symm ne_ed5_len17), P17_0, P17_1, P17_2, P17_3, P17_4, P17_5, P17_6, P17_7, P17_8, P17_9, P17_10, P5_0_at_20, P5_1_at_20, P5_2_at_20, P5_3_at_20, P5_4_at_20⟩
theorem own_pd11 : parseMethodDescriptor "(II)Z" = some ⟨[.int, .int], some .boolean⟩ := by decide +kernel
theorem own_pd12 : parseMethodDescriptor "(Lcom/example/resync/resync/model/LogRecord;)V" = some ⟨[(.object own_cR)], none⟩ := by decide +kernel
theorem d10_0 : decode method_4_code 0 = .ok (.iload_n 1, 1) := by decide +kernel
theorem d10_1 : decode method_4_code 1 = .ok (.iload_n 2, 1) := by decide +kernel
theorem d10_2 : decode method_4_code 2 = .ok (.invokestatic 9, 3) := by decide +kernel
theorem d10_5 : decode method_4_code 5 = .ok (.ifCond .eq 18, 3) := by decide +kernel
theorem d10_23 : decode method_4_code 23 = .ok (.aload_n 0, 1) := by decide +kernel
theorem d10_24 : decode method_4_code 24 = .ok (.aload_n 3, 1) := by decide +kernel
theorem d10_25 : decode method_4_code 25 = .ok (.invokevirtual 25, 3) := by decide +kernel
theorem d10_28 : decode method_4_code 28 = .ok (.return_, 1) := by decide +kernel
theorem ef10_00 (m : MethodId) (ad0 : Addr) (p1 : Int32) (p2 : Int32) (ad3 : Addr) (x4 : Int64) (x5 : Int64) : entryFrame m #[(.ref ad0), (.int p1), (.int p2), (.ref ad3), (.long x4), (.long x5)] 8 = mkF m 0 #[.val (.ref ad0), .val (.int p1), .val (.int p2), .val (.ref ad3), .val (.long x4), .second, .val (.long x5), .second] [] := by first | (simp [entryFrame, mkF, argsToLocals, Value.category]; done) | rfl
def Q10_00 (Z : State) (ad0 : Addr) (p1 : Int32) (p2 : Int32) (ad3 : Addr) (x4 : Int64) (x5 : Int64) (kp : Int32) (ls : Int32) (fz : Nat → Int64) (mc : Int32) (fd : Nat → Value) (ro : Int64) (nent : Addr) (wh : Addr) (dc : Addr) (h0 : Heap) (n0 : Nat) (v : Option Value) (h : Heap) (L : List Loc) : Prop := ∃ nw0 nw1 nw2 : Addr, v = none ∧ Fr n0 L ∧ Keep h0 h [ad0, wh] ∧ h0.size ≤ nw0 ∧ h0.size ≤ nw1 ∧ h0.size ≤ nw2 ∧ nw0 ≠ nw1 ∧ nw0 ≠ nw2 ∧ nw1 ≠ nw2 ∧ Exa Z h ad0 own_cE ∧ Fld Z h ad0 own_cE "kept" "I" (.int kp) ∧ Fld Z h ad0 own_cE "offsets" "[J" (.ref nw0) ∧ Fld Z h ad0 own_cE "lengths" "[J" (.ref nw1) ∧ Fld Z h ad0 own_cE "whole" "Ljava/util/List;" (.ref wh) ∧ Fld Z h ad0 own_cE "size" "I" (.int (1 : Int32)) ∧ Fld Z h ad0 own_cE "lastSpan" "I" (.int ls) ∧ Fld Z h ad0 own_cE "taken" "I" (.int (0 : Int32)) ∧ Fld Z h ad0 own_cE "takenWhole" "I" (.int (0 : Int32)) ∧ own_AV Value.long Z h nw0 .long 16 (own_upd (fun _ => (0 : Int64)) 0 (f24 ro)) ∧ own_AV Value.long Z h nw1 .long 16 (own_upd (fun _ => (0 : Int64)) 0 (0 : Int64)) ∧ Exa Z h wh own_cL ∧ Fld Z h wh "java/util/AbstractList" "modCount" "I" (.int (mc + (1 : Int32))) ∧ Fld Z h wh own_cL "elementData" own_cA (.ref nw2) ∧ Fld Z h wh own_cL "size" "I" (.int (1 : Int32)) ∧ own_RV Z h nw2 "java/lang/Object" 10 (own_upd (fun _ => Value.null) 0 (.ref ad3))
set_option maxRecDepth 65536 in
set_option maxHeartbeats 40000000 in
theorem rm10_00 (l : Launch) (Z : State) (a0 : Array Value) (hw : ∀ d ∈ tables_1, d.before a0 Z = true) (ws : List Jvm.Cond) (ad0 : Addr) (p1 : Int32) (p2 : Int32) (ad3 : Addr) (x4 : Int64) (x5 : Int64) (kp : Int32) (ls : Int32) (fz : Nat → Int64) (mc : Int32) (fd : Nat → Value) (ro : Int64) (nent : Addr) (wh : Addr) (dc : Addr) (h0 : Heap) (n0 : Nat) (Z0 : n0 ≤ h0.size) (E_ad0 : Exa Z h0 ad0 own_cE) (F_kept_ad0 : Fld Z h0 ad0 own_cE "kept" "I" (.int kp)) (F_offsets_ad0 : Fld Z h0 ad0 own_cE "offsets" "[J" (.ref nent)) (F_lengths_ad0 : Fld Z h0 ad0 own_cE "lengths" "[J" (.ref nent)) (F_whole_ad0 : Fld Z h0 ad0 own_cE "whole" "Ljava/util/List;" (.ref wh)) (F_size_ad0 : Fld Z h0 ad0 own_cE "size" "I" (.int (0 : Int32))) (F_lastSpan_ad0 : Fld Z h0 ad0 own_cE "lastSpan" "I" (.int ls)) (F_taken_ad0 : Fld Z h0 ad0 own_cE "taken" "I" (.int (0 : Int32))) (F_takenWhole_ad0 : Fld Z h0 ad0 own_cE "takenWhole" "I" (.int (0 : Int32))) (g_ad0 : n0 ≤ ad0) (V_nent : own_AV Value.long Z h0 nent .long 0 fz) (ne_nent_ad0 : nent ≠ ad0) (E_wh : Exa Z h0 wh own_cL) (F_modCount_wh : Fld Z h0 wh "java/util/AbstractList" "modCount" "I" (.int mc)) (F_elementData_wh : Fld Z h0 wh own_cL "elementData" own_cA (.ref dc)) (F_size_wh : Fld Z h0 wh own_cL "size" "I" (.int (0 : Int32))) (g_wh : n0 ≤ wh) (S_DEFAULTCAPACITY_EMPTY_ELEMENTDATA : Sta Z h0 own_cL "DEFAULTCAPACITY_EMPTY_ELEMENTDATA" own_cA (.ref dc)) (V_dc : own_AV id Z h0 dc (.object "java/lang/Object") 0 fd) (ne_dc_wh : dc ≠ wh) (ne_ad0_wh : ad0 ≠ wh) (ne_nent_wh : nent ≠ wh) (ne_dc_ad0 : dc ≠ ad0) (E_ad3 : Exa Z h0 ad3 own_cR) (F_offset_ad3 : Fld Z h0 ad3 own_cR "offset" "J" (.long ro)) (ne_ad3_wh : ad3 ≠ wh) (hs : (f11 p1 p2) = (0 : Int32)) :
    MetFree l own_y10 (head1 (Jvm.Cond.code own_y10 method_4_code 8 none :: ws) ({ frames := 6, cells := 3, slots := 42, locals := 82 } : Room)) (fun a U => a = #[(.ref ad0), (.int p1), (.int p2), (.ref ad3), (.long x4), (.long x5)] ∧ Z.Warmed39 U.vm ∧ U.heap = h0) (fun _ _ _ _ _ => True) (fun _ U o U' => ∃ v L, o = .returned v ∧ Q10_00 Z ad0 p1 p2 ad3 x4 x5 kp ls fz mc fd ro nent wh dc h0 n0 v U'.heap L ∧ FrameEnd U o U' L ({ frames := 6, cells := 3, slots := 42, locals := 82 } : Room).cells ({ frames := 6, cells := 3, slots := 42, locals := 82 } : Room).slots) := by
  refine MetFree.of_bodySF (plainFor_of_name own_pn0) hisR ?_
  intro p e s m args below meth c s₁ Bd hml0 hP hK
  obtain ⟨rfl, hZ, hh⟩ := hP
  have hx := Bd.exec
  have hby := Bd.bytes
  have hml : c.maxLocals = 8 := hml0
  have hown : s.vm.findClass own_cW = some m.cls := findClass_of_methodNamed Bd.named
  have hnm := (name_of_methodNamed Bd.named Bd.method).1
  have hlk : meth.locks = false := BodyLoose.notSynchronized Bd
  have X0 : Stand p l e ({ frames := 6, cells := 3, slots := 42, locals := 82 } : Room) s m #[(.ref ad0), (.int p1), (.int p2), (.ref ad3), (.long x4), (.long x5)] below meth c s₁ [] 0 0 := Stand.of_body Bd
  have e0 : s₁.heap = h0 := by rw [← hh, Bd.state]; rfl
  have N0 := Fr.nil n0
  obtain ⟨G, hG⟩ : ∃ G, G = own_G s (Q10_00 Z ad0 p1 p2 ad3 x4 x5 kp ls fz mc fd ro nent wh dc h0 n0) ({ frames := 6, cells := 3, slots := 42, locals := 82 } : Room).cells ({ frames := 6, cells := 3, slots := 42, locals := 82 } : Room).slots := ⟨_, rfl⟩
  show own_Fin p e below (own_G s (Q10_00 Z ad0 p1 p2 ad3 x4 x5 kp ls fz mc fd ro nent wh dc h0 n0) ({ frames := 6, cells := 3, slots := 42, locals := 82 } : Room).cells ({ frames := 6, cells := 3, slots := 42, locals := 82 } : Room).slots) (s₁.setTop (entryFrame m #[(.ref ad0), (.int p1), (.int p2), (.ref ad3), (.long x4), (.long x5)] 8))
  rw [← hG]
  refine own_to (fun _ kz => castTop (ef10_00 m ad0 p1 p2 ad3 x4 x5) kz) ?_
  show own_Fin p e below G (s₁.setTop (mkF m 0 #[.val (.ref ad0), .val (.int p1), .val (.int p2), .val (.ref ad3), .val (.long x4), .second, .val (.long x5), .second] []))
  refine own_iloadN X0 hx (hb hby d10_0) rfl ?_
  refine own_iloadN X0 hx (hb hby d10_1) rfl ?_
  obtain ⟨_, _, ⟨T2, L2, k2, n2⟩, -, X2, ⟨Lc2, hQ2, l2, y2, z2⟩, st2⟩ := Jvm.LawKit.callS X0 hx (y := own_y11) hown (mvT hZ (own_w hw 84 rfl)) (mvT hZ (own_w hw 85 rfl)) (mvT hZ (own_w hw 82 rfl)) (mvT hZ (own_w hw 86 rfl)) (by decide) (backOf (W := 0) (rm11 l Z a0 hw [] p1 p2 h0 n0 Z0) hZ (own_w hw 86 rfl) (own_w hw 82 rfl) (by decide) (by decide)) (g := (mkF m 2 #[.val (.ref ad0), .val (.int p1), .val (.int p2), .val (.ref ad3), .val (.long x4), .second, .val (.long x5), .second] [(.int p2), (.int p1)])) rfl (by rw [hml]; rfl) (argsL := [(.int p1), (.int p2)]) (rest := []) (lenOf own_pd11 rfl) rfl (by show 2 * 0 + _ ≤ _; exact Nat.le_of_eq rfl) (hb hby d10_2) (fun _ _ => ⟨rfl, e0, (by decide : 0 + 0 ≤ _), (by decide : 0 + 0 ≤ _)⟩)
  dsimp only [Pt.U, Pt.locs, Pt.cells, Pt.slots] at X2 l2 y2 z2 st2 hQ2
  subst l2 y2 z2
  obtain ⟨rfl, N2q, e2⟩ := hQ2
  obtain ⟨lo2, X2, N2⟩ : ∃ lo, Stand p l e _ s m _ below meth c T2 lo _ _ ∧ Fr n0 lo := ⟨_, X2, Fr.app N0 N2q⟩
  refine own_to st2 ?_
  show own_Fin p e below G (T2.setTop (mkF m 5 #[.val (.ref ad0), .val (.int p1), .val (.int p2), .val (.ref ad3), .val (.long x4), .second, .val (.long x5), .second] [(.int (f11 p1 p2))]))
  have hc5 : (f11 p1 p2) = (0 : Int32) := hs
  refine own_to (fun _ kz => XS.ifYes X2.here hx rfl (pc0 := 5) (pc' := 23) rfl (hb hby d10_5) rfl ((if0 _ _).trans (teq hc5).1) (by decide) (by decide) kz) ?_
  show own_Fin p e below G (T2.setTop (mkF m 23 #[.val (.ref ad0), .val (.int p1), .val (.int p2), .val (.ref ad3), .val (.long x4), .second, .val (.long x5), .second] []))
  refine own_aloadN X2 hx (hb hby d10_23) rfl (rfl) ?_
  refine own_aloadN X2 hx (hb hby d10_24) rfl (rfl) ?_
  obtain ⟨cq25, kq25, qa25, qb25, qc25⟩ := isOf hZ e2 E_ad0
  obtain ⟨_, _, ⟨T25, L25, k25, n25⟩, -, X25, ⟨Lc25, hQ25, l25, y25, z25⟩, st25⟩ := X2.virtualBack hx (y := own_y18) (z := own_y18) hown (mvT hZ (own_w hw 122 rfl)) (mvT hZ (own_w hw 123 rfl)) (notFace_of_selects (args := #[]) (mvT hZ (own_w hw 125 rfl))) (mvT hZ (own_w hw 125 rfl)) (mvT hZ (own_w hw 124 rfl)) (by decide) (backOf (W := 0) (rm18_00 l Z a0 hw [] ad0 ad3 kp ls fz mc fd ro nent wh dc h0 n0 Z0 E_ad0 F_kept_ad0 F_offsets_ad0 F_lengths_ad0 F_whole_ad0 F_size_ad0 F_lastSpan_ad0 F_taken_ad0 F_takenWhole_ad0 g_ad0 V_nent ne_nent_ad0 E_wh F_modCount_wh F_elementData_wh F_size_wh g_wh S_DEFAULTCAPACITY_EMPTY_ELEMENTDATA V_dc ne_dc_wh ne_ad0_wh ne_nent_wh ne_dc_ad0 E_ad3 F_offset_ad3 ne_ad3_wh) hZ (own_w hw 126 rfl) (own_w hw 31 rfl) (by decide) (by decide)) qa25 qc25 (g := (mkF m 25 #[.val (.ref ad0), .val (.int p1), .val (.int p2), .val (.ref ad3), .val (.long x4), .second, .val (.long x5), .second] [(.ref ad3), (.ref ad0)])) rfl (by rw [hml]; rfl) (Steps.refl _) (argsL := [(.ref ad3)]) (rest := []) (lenOf own_pd12 rfl) rfl (by show 2 * 0 + _ ≤ _; exact Nat.le_of_eq rfl) (hb hby d10_25) (fun _ _ => ⟨rfl, e2, (by decide : 0 + 3 ≤ _), (by decide : 0 + 42 ≤ _)⟩)
  dsimp only [Pt.U, Pt.locs, Pt.cells, Pt.slots] at X25 l25 y25 z25 st25 hQ25
  subst l25 y25 z25
  obtain ⟨off25, len25, ed25, rfl, N25q, Kp25, szq_off25, szq_len25, szq_ed25, neq_off25_len25, neq_off25_ed25, neq_len25_ed25, P25_0, P25_1, P25_2, P25_3, P25_4, P25_5, P25_6, P25_7, P25_8, P25_9, P25_10, P25_11, P25_12, P25_13, P25_14, P25_15⟩ := hQ25
  have ne_ad0_off25 := Nat.ne_of_lt (Nat.lt_of_lt_of_le E_ad0.lt szq_off25)
  have ne_ad0_len25 := Nat.ne_of_lt (Nat.lt_of_lt_of_le E_ad0.lt szq_len25)
  have ne_ad0_ed25 := Nat.ne_of_lt (Nat.lt_of_lt_of_le E_ad0.lt szq_ed25)
  have ne_nent_off25 := Nat.ne_of_lt (Nat.lt_of_lt_of_le V_nent.lt szq_off25)
  have ne_nent_len25 := Nat.ne_of_lt (Nat.lt_of_lt_of_le V_nent.lt szq_len25)
  have ne_nent_ed25 := Nat.ne_of_lt (Nat.lt_of_lt_of_le V_nent.lt szq_ed25)
  have ne_wh_off25 := Nat.ne_of_lt (Nat.lt_of_lt_of_le E_wh.lt szq_off25)
  have ne_wh_len25 := Nat.ne_of_lt (Nat.lt_of_lt_of_le E_wh.lt szq_len25)
  have ne_wh_ed25 := Nat.ne_of_lt (Nat.lt_of_lt_of_le E_wh.lt szq_ed25)
  have ne_dc_off25 := Nat.ne_of_lt (Nat.lt_of_lt_of_le V_dc.lt szq_off25)
  have ne_dc_len25 := Nat.ne_of_lt (Nat.lt_of_lt_of_le V_dc.lt szq_len25)
  have ne_dc_ed25 := Nat.ne_of_lt (Nat.lt_of_lt_of_le V_dc.lt szq_ed25)
  have ne_ad3_off25 := Nat.ne_of_lt (Nat.lt_of_lt_of_le E_ad3.lt szq_off25)
  have ne_ad3_len25 := Nat.ne_of_lt (Nat.lt_of_lt_of_le E_ad3.lt szq_len25)
  have ne_ad3_ed25 := Nat.ne_of_lt (Nat.lt_of_lt_of_le E_ad3.lt szq_ed25)
  have g_off25 : n0 ≤ off25 := Nat.le_trans Z0 szq_off25
  have sz_off25 : h0.size ≤ off25 := Nat.le_trans (Keep.refl h0 [ad0, wh]).1 szq_off25
  have g_len25 : n0 ≤ len25 := Nat.le_trans Z0 szq_len25
  have sz_len25 : h0.size ≤ len25 := Nat.le_trans (Keep.refl h0 [ad0, wh]).1 szq_len25
  have g_ed25 : n0 ≤ ed25 := Nat.le_trans Z0 szq_ed25
  have sz_ed25 : h0.size ≤ ed25 := Nat.le_trans (Keep.refl h0 [ad0, wh]).1 szq_ed25
  obtain ⟨lo25, X25, N25⟩ : ∃ lo, Stand p l e _ s m _ below meth c T25 lo _ _ ∧ Fr n0 lo := ⟨_, X25, Fr.app N2 N25q⟩
  refine own_via st25 ?_
  show own_Fin p e below G (T25.setTop (mkF m 28 #[.val (.ref ad0), .val (.int p1), .val (.int p2), .val (.ref ad3), .val (.long x4), .second, .val (.long x5), .second] []))
  have KP_28 : Keep h0 T25.heap [ad0, wh] := ((Keep.refl h0 [ad0, wh]).trans Kp25 (allS (Or.inl (List.mem_of_getElem? (i := 0) rfl)) (allS (Or.inl (List.mem_of_getElem? (i := 1) rfl)) all0)))
  exact own_retV X25 hx hlk hG Bd.returns (hb hby d10_28) (by decide) (by decide) ⟨off25, len25, ed25, rfl, N25, KP_28, sz_off25, sz_len25, sz_ed25, neq_off25_len25, neq_off25_ed25, neq_len25_ed25, P25_0, P25_1, P25_2, P25_3, P25_4, P25_5, P25_6, P25_7, P25_8, P25_9, P25_10, P25_11, P25_12, P25_13, P25_14, P25_15⟩
theorem own_pd13 : parseMethodDescriptor "(JI)J" = some ⟨[.long, .int], some .long⟩ := by decide +kernel
theorem d10_8 : decode method_4_code 8 = .ok (.aload_n 0, 1) := by decide +kernel
theorem d10_9 : decode method_4_code 9 = .ok (.lload 4, 2) := by decide +kernel
theorem d10_11 : decode method_4_code 11 = .ok (.iload_n 2, 1) := by decide +kernel
theorem d10_12 : decode method_4_code 12 = .ok (.invokestatic 15, 3) := by decide +kernel
theorem d10_15 : decode method_4_code 15 = .ok (.lload 6, 2) := by decide +kernel
theorem d10_17 : decode method_4_code 17 = .ok (.invokevirtual 19, 3) := by decide +kernel
theorem d10_20 : decode method_4_code 20 = .ok (.goto 8, 3) := by decide +kernel
theorem ef10_0 (m : MethodId) (ad0 : Addr) (p1 : Int32) (p2 : Int32) (ad3 : Addr) (x4 : Int64) (x5 : Int64) : entryFrame m #[(.ref ad0), (.int p1), (.int p2), (.ref ad3), (.long x4), (.long x5)] 8 = mkF m 0 #[.val (.ref ad0), .val (.int p1), .val (.int p2), .val (.ref ad3), .val (.long x4), .second, .val (.long x5), .second] [] := by first | (simp [entryFrame, mkF, argsToLocals, Value.category]; done) | rfl
def Q10_0 (Z : State) (ad0 : Addr) (p1 : Int32) (p2 : Int32) (ad3 : Addr) (x4 : Int64) (x5 : Int64) (kp : Int32) (ls : Int32) (fz : Nat → Int64) (nent : Addr) (wh : Addr) (h0 : Heap) (n0 : Nat) (v : Option Value) (h : Heap) (L : List Loc) : Prop := ∃ nw0 nw1 : Addr, v = none ∧ Fr n0 L ∧ Keep h0 h [ad0] ∧ h0.size ≤ nw0 ∧ h0.size ≤ nw1 ∧ nw0 ≠ nw1 ∧ Exa Z h ad0 own_cE ∧ Fld Z h ad0 own_cE "kept" "I" (.int kp) ∧ Fld Z h ad0 own_cE "offsets" "[J" (.ref nw0) ∧ Fld Z h ad0 own_cE "lengths" "[J" (.ref nw1) ∧ Fld Z h ad0 own_cE "whole" "Ljava/util/List;" (.ref wh) ∧ Fld Z h ad0 own_cE "size" "I" (.int (1 : Int32)) ∧ Fld Z h ad0 own_cE "lastSpan" "I" (.int (0 : Int32)) ∧ Fld Z h ad0 own_cE "taken" "I" (.int (0 : Int32)) ∧ Fld Z h ad0 own_cE "takenWhole" "I" (.int (0 : Int32)) ∧ own_AV Value.long Z h nw0 .long 16 (own_upd (fun _ => (0 : Int64)) 0 (f12 x4 p2)) ∧ own_AV Value.long Z h nw1 .long 16 (own_upd (fun _ => (0 : Int64)) 0 (-x5))
set_option maxRecDepth 65536 in
set_option maxHeartbeats 40000000 in
theorem rm10_0 (l : Launch) (Z : State) (a0 : Array Value) (hw : ∀ d ∈ tables_1, d.before a0 Z = true) (ws : List Jvm.Cond) (ad0 : Addr) (p1 : Int32) (p2 : Int32) (ad3 : Addr) (x4 : Int64) (x5 : Int64) (kp : Int32) (ls : Int32) (fz : Nat → Int64) (nent : Addr) (wh : Addr) (h0 : Heap) (n0 : Nat) (Z0 : n0 ≤ h0.size) (E_ad0 : Exa Z h0 ad0 own_cE) (F_kept_ad0 : Fld Z h0 ad0 own_cE "kept" "I" (.int kp)) (F_offsets_ad0 : Fld Z h0 ad0 own_cE "offsets" "[J" (.ref nent)) (F_lengths_ad0 : Fld Z h0 ad0 own_cE "lengths" "[J" (.ref nent)) (F_whole_ad0 : Fld Z h0 ad0 own_cE "whole" "Ljava/util/List;" (.ref wh)) (F_size_ad0 : Fld Z h0 ad0 own_cE "size" "I" (.int (0 : Int32))) (F_lastSpan_ad0 : Fld Z h0 ad0 own_cE "lastSpan" "I" (.int ls)) (F_taken_ad0 : Fld Z h0 ad0 own_cE "taken" "I" (.int (0 : Int32))) (F_takenWhole_ad0 : Fld Z h0 ad0 own_cE "takenWhole" "I" (.int (0 : Int32))) (g_ad0 : n0 ≤ ad0) (V_nent : own_AV Value.long Z h0 nent .long 0 fz) (ne_nent_ad0 : nent ≠ ad0) (hs : ¬ (f11 p1 p2) = (0 : Int32)) :
    MetFree l own_y10 (head1 (Jvm.Cond.code own_y10 method_4_code 8 none :: ws) ({ frames := 4, cells := 2, slots := 32, locals := 68 } : Room)) (fun a U => a = #[(.ref ad0), (.int p1), (.int p2), (.ref ad3), (.long x4), (.long x5)] ∧ Z.Warmed39 U.vm ∧ U.heap = h0) (fun _ _ _ _ _ => True) (fun _ U o U' => ∃ v L, o = .returned v ∧ Q10_0 Z ad0 p1 p2 ad3 x4 x5 kp ls fz nent wh h0 n0 v U'.heap L ∧ FrameEnd U o U' L ({ frames := 4, cells := 2, slots := 32, locals := 68 } : Room).cells ({ frames := 4, cells := 2, slots := 32, locals := 68 } : Room).slots) := by
  refine MetFree.of_bodySF (plainFor_of_name own_pn0) hisR ?_
  intro p e s m args below meth c s₁ Bd hml0 hP hK
  obtain ⟨rfl, hZ, hh⟩ := hP
  have hx := Bd.exec
  have hby := Bd.bytes
  have hml : c.maxLocals = 8 := hml0
  have hown : s.vm.findClass own_cW = some m.cls := findClass_of_methodNamed Bd.named
  have hnm := (name_of_methodNamed Bd.named Bd.method).1
  have hlk : meth.locks = false := BodyLoose.notSynchronized Bd
  have X0 : Stand p l e ({ frames := 4, cells := 2, slots := 32, locals := 68 } : Room) s m #[(.ref ad0), (.int p1), (.int p2), (.ref ad3), (.long x4), (.long x5)] below meth c s₁ [] 0 0 := Stand.of_body Bd
  have e0 : s₁.heap = h0 := by rw [← hh, Bd.state]; rfl
  have N0 := Fr.nil n0
  obtain ⟨G, hG⟩ : ∃ G, G = own_G s (Q10_0 Z ad0 p1 p2 ad3 x4 x5 kp ls fz nent wh h0 n0) ({ frames := 4, cells := 2, slots := 32, locals := 68 } : Room).cells ({ frames := 4, cells := 2, slots := 32, locals := 68 } : Room).slots := ⟨_, rfl⟩
  show own_Fin p e below (own_G s (Q10_0 Z ad0 p1 p2 ad3 x4 x5 kp ls fz nent wh h0 n0) ({ frames := 4, cells := 2, slots := 32, locals := 68 } : Room).cells ({ frames := 4, cells := 2, slots := 32, locals := 68 } : Room).slots) (s₁.setTop (entryFrame m #[(.ref ad0), (.int p1), (.int p2), (.ref ad3), (.long x4), (.long x5)] 8))
  rw [← hG]
  refine own_to (fun _ kz => castTop (ef10_0 m ad0 p1 p2 ad3 x4 x5) kz) ?_
  show own_Fin p e below G (s₁.setTop (mkF m 0 #[.val (.ref ad0), .val (.int p1), .val (.int p2), .val (.ref ad3), .val (.long x4), .second, .val (.long x5), .second] []))
  refine own_iloadN X0 hx (hb hby d10_0) rfl ?_
  refine own_iloadN X0 hx (hb hby d10_1) rfl ?_
  obtain ⟨_, _, ⟨T2, L2, k2, n2⟩, -, X2, ⟨Lc2, hQ2, l2, y2, z2⟩, st2⟩ := Jvm.LawKit.callS X0 hx (y := own_y11) hown (mvT hZ (own_w hw 84 rfl)) (mvT hZ (own_w hw 85 rfl)) (mvT hZ (own_w hw 82 rfl)) (mvT hZ (own_w hw 86 rfl)) (by decide) (backOf (W := 0) (rm11 l Z a0 hw [] p1 p2 h0 n0 Z0) hZ (own_w hw 86 rfl) (own_w hw 82 rfl) (by decide) (by decide)) (g := (mkF m 2 #[.val (.ref ad0), .val (.int p1), .val (.int p2), .val (.ref ad3), .val (.long x4), .second, .val (.long x5), .second] [(.int p2), (.int p1)])) rfl (by rw [hml]; rfl) (argsL := [(.int p1), (.int p2)]) (rest := []) (lenOf own_pd11 rfl) rfl (by show 2 * 0 + _ ≤ _; exact Nat.le_of_eq rfl) (hb hby d10_2) (fun _ _ => ⟨rfl, e0, (by decide : 0 + 0 ≤ _), (by decide : 0 + 0 ≤ _)⟩)
  dsimp only [Pt.U, Pt.locs, Pt.cells, Pt.slots] at X2 l2 y2 z2 st2 hQ2
  subst l2 y2 z2
  obtain ⟨rfl, N2q, e2⟩ := hQ2
  obtain ⟨lo2, X2, N2⟩ : ∃ lo, Stand p l e _ s m _ below meth c T2 lo _ _ ∧ Fr n0 lo := ⟨_, X2, Fr.app N0 N2q⟩
  refine own_to st2 ?_
  show own_Fin p e below G (T2.setTop (mkF m 5 #[.val (.ref ad0), .val (.int p1), .val (.int p2), .val (.ref ad3), .val (.long x4), .second, .val (.long x5), .second] [(.int (f11 p1 p2))]))
  have hc5 : ¬ ((f11 p1 p2) = (0 : Int32)) := hs
  refine own_to (fun _ kz => XS.ifNo X2.here hx rfl (hb hby d10_5) rfl ((if0 _ _).trans (feq hc5).1) kz) ?_
  show own_Fin p e below G (T2.setTop (mkF m 8 #[.val (.ref ad0), .val (.int p1), .val (.int p2), .val (.ref ad3), .val (.long x4), .second, .val (.long x5), .second] []))
  refine own_aloadN X2 hx (hb hby d10_8) rfl (rfl) ?_
  refine own_lload X2 hx (hb hby d10_9) rfl ?_
  refine own_iloadN X2 hx (hb hby d10_11) rfl ?_
  obtain ⟨_, _, ⟨T12, L12, k12, n12⟩, -, X12, ⟨Lc12, hQ12, l12, y12, z12⟩, st12⟩ := Jvm.LawKit.callS X2 hx (y := own_y12) hown (mvT hZ (own_w hw 87 rfl)) (mvT hZ (own_w hw 88 rfl)) (mvT hZ (own_w hw 82 rfl)) (mvT hZ (own_w hw 89 rfl)) (by decide) (backOf (W := 1) (rm12 l Z a0 hw [] x4 p2 h0 n0 Z0) hZ (own_w hw 89 rfl) (own_w hw 82 rfl) (by decide) (by decide)) (g := (mkF m 12 #[.val (.ref ad0), .val (.int p1), .val (.int p2), .val (.ref ad3), .val (.long x4), .second, .val (.long x5), .second] [(.int p2), (.long x4), (.ref ad0)])) rfl (by rw [hml]; rfl) (argsL := [(.long x4), (.int p2)]) (rest := [(.ref ad0)]) (lenOf own_pd13 rfl) rfl (by show 2 * 0 + _ ≤ _; exact Nat.le_of_eq rfl) (hb hby d10_12) (fun _ _ => ⟨rfl, e2, (by decide : 0 + 0 ≤ _), (by decide : 0 + 0 ≤ _)⟩)
  dsimp only [Pt.U, Pt.locs, Pt.cells, Pt.slots] at X12 l12 y12 z12 st12 hQ12
  subst l12 y12 z12
  obtain ⟨rfl, N12q, e12⟩ := hQ12
  obtain ⟨lo12, X12, N12⟩ : ∃ lo, Stand p l e _ s m _ below meth c T12 lo _ _ ∧ Fr n0 lo := ⟨_, X12, Fr.app N2 N12q⟩
  refine own_to st12 ?_
  show own_Fin p e below G (T12.setTop (mkF m 15 #[.val (.ref ad0), .val (.int p1), .val (.int p2), .val (.ref ad3), .val (.long x4), .second, .val (.long x5), .second] [(.long (f12 x4 p2)), (.ref ad0)]))
  refine own_lload X12 hx (hb hby d10_15) rfl ?_
  obtain ⟨cq17, kq17, qa17, qb17, qc17⟩ := isOf hZ e12 E_ad0
  obtain ⟨_, _, ⟨T17, L17, k17, n17⟩, -, X17, ⟨Lc17, hQ17, l17, y17, z17⟩, st17⟩ := X12.virtualBack hx (y := own_y13) (z := own_y13) hown (mvT hZ (own_w hw 91 rfl)) (mvT hZ (own_w hw 92 rfl)) (notFace_of_selects (args := #[]) (mvT hZ (own_w hw 94 rfl))) (mvT hZ (own_w hw 94 rfl)) (mvT hZ (own_w hw 93 rfl)) (by decide) (backOf (W := 0) (rm13_0 l Z a0 hw [] ad0 (f12 x4 p2) x5 kp ls fz nent wh h0 n0 Z0 E_ad0 F_kept_ad0 F_offsets_ad0 F_lengths_ad0 F_whole_ad0 F_size_ad0 F_lastSpan_ad0 F_taken_ad0 F_takenWhole_ad0 g_ad0 V_nent ne_nent_ad0) hZ (own_w hw 95 rfl) (own_w hw 31 rfl) (by decide) (by decide)) qa17 qc17 (g := (mkF m 17 #[.val (.ref ad0), .val (.int p1), .val (.int p2), .val (.ref ad3), .val (.long x4), .second, .val (.long x5), .second] [(.long x5), (.long (f12 x4 p2)), (.ref ad0)])) rfl (by rw [hml]; rfl) (Steps.refl _) (argsL := [(.long (f12 x4 p2)), (.long x5)]) (rest := []) (lenOf own_pd5 rfl) rfl (by show 2 * 0 + _ ≤ _; exact Nat.le_of_eq rfl) (hb hby d10_17) (fun _ _ => ⟨rfl, e12, (by decide : 0 + 2 ≤ _), (by decide : 0 + 32 ≤ _)⟩)
  dsimp only [Pt.U, Pt.locs, Pt.cells, Pt.slots] at X17 l17 y17 z17 st17 hQ17
  subst l17 y17 z17
  obtain ⟨off17, len17, rfl, N17q, Kp17, szq_off17, szq_len17, neq_off17_len17, P17_0, P17_1, P17_2, P17_3, P17_4, P17_5, P17_6, P17_7, P17_8, P17_9, P17_10⟩ := hQ17
  have ne_ad0_off17 := Nat.ne_of_lt (Nat.lt_of_lt_of_le E_ad0.lt szq_off17)
  have ne_ad0_len17 := Nat.ne_of_lt (Nat.lt_of_lt_of_le E_ad0.lt szq_len17)
  have ne_nent_off17 := Nat.ne_of_lt (Nat.lt_of_lt_of_le V_nent.lt szq_off17)
  have ne_nent_len17 := Nat.ne_of_lt (Nat.lt_of_lt_of_le V_nent.lt szq_len17)
  have g_off17 : n0 ≤ off17 := Nat.le_trans Z0 szq_off17
  have sz_off17 : h0.size ≤ off17 := Nat.le_trans (Keep.refl h0 [ad0]).1 szq_off17
  have g_len17 : n0 ≤ len17 := Nat.le_trans Z0 szq_len17
  have sz_len17 : h0.size ≤ len17 := Nat.le_trans (Keep.refl h0 [ad0]).1 szq_len17
  obtain ⟨lo17, X17, N17⟩ : ∃ lo, Stand p l e _ s m _ below meth c T17 lo _ _ ∧ Fr n0 lo := ⟨_, X17, Fr.app N12 N17q⟩
  refine own_via st17 ?_
  show own_Fin p e below G (T17.setTop (mkF m 20 #[.val (.ref ad0), .val (.int p1), .val (.int p2), .val (.ref ad3), .val (.long x4), .second, .val (.long x5), .second] []))
  refine own_to (fun _ kz => XS.goto X17.here hx rfl (pc0 := 20) (pc' := 28) rfl (hb hby d10_20) (by decide) (by decide) kz) ?_
  show own_Fin p e below G (T17.setTop (mkF m 28 #[.val (.ref ad0), .val (.int p1), .val (.int p2), .val (.ref ad3), .val (.long x4), .second, .val (.long x5), .second] []))
  have KP_28 : Keep h0 T17.heap [ad0] := ((Keep.refl h0 [ad0]).trans Kp17 (allS (Or.inl (List.mem_of_getElem? (i := 0) rfl)) all0))
  exact own_retV X17 hx hlk hG Bd.returns (hb hby d10_28) (by decide) (by decide) ⟨off17, len17, rfl, N17, KP_28, sz_off17, sz_len17, neq_off17_len17, P17_0, P17_1, P17_2, P17_3, P17_4, P17_5, P17_6, P17_7, P17_8, P17_9, P17_10⟩
theorem ef18_10 (m : MethodId) (ad0 : Addr) (ad1 : Addr) : entryFrame m #[(.ref ad0), (.ref ad1)] 2 = mkF m 0 #[.val (.ref ad0), .val (.ref ad1)] [] := by first | (simp [entryFrame, mkF, argsToLocals, Value.category]; done) | rfl
def Q18_10 (Z : State) (ad0 : Addr) (ad1 : Addr) (kp : Int32) (sz : Int32) (ls : Int32) (fo : Nat → Int64) (fl : Nat → Int64) (jz : Nat) (mc : Int32) (fd : Nat → Value) (ro : Int64) (off : Addr) (len : Addr) (wh : Addr) (dc : Addr) (h0 : Heap) (n0 : Nat) (v : Option Value) (h : Heap) (L : List Loc) : Prop := ∃ nw0 : Addr, v = none ∧ Fr n0 L ∧ Keep h0 h [ad0, off, len, wh] ∧ h0.size ≤ nw0 ∧ Exa Z h ad0 own_cE ∧ Fld Z h ad0 own_cE "kept" "I" (.int kp) ∧ Fld Z h ad0 own_cE "offsets" "[J" (.ref off) ∧ Fld Z h ad0 own_cE "lengths" "[J" (.ref len) ∧ Fld Z h ad0 own_cE "whole" "Ljava/util/List;" (.ref wh) ∧ Fld Z h ad0 own_cE "size" "I" (.int (sz + (1 : Int32))) ∧ Fld Z h ad0 own_cE "lastSpan" "I" (.int ls) ∧ Fld Z h ad0 own_cE "taken" "I" (.int (0 : Int32)) ∧ Fld Z h ad0 own_cE "takenWhole" "I" (.int (0 : Int32)) ∧ own_AV Value.long Z h off .long 16 (own_upd fo jz (f24 ro)) ∧ own_AV Value.long Z h len .long 16 (own_upd fl jz (0 : Int64)) ∧ Exa Z h wh own_cL ∧ Fld Z h wh "java/util/AbstractList" "modCount" "I" (.int (mc + (1 : Int32))) ∧ Fld Z h wh own_cL "elementData" own_cA (.ref nw0) ∧ Fld Z h wh own_cL "size" "I" (.int (1 : Int32)) ∧ own_RV Z h nw0 "java/lang/Object" 10 (own_upd (fun _ => Value.null) 0 (.ref ad1))
set_option maxRecDepth 65536 in
set_option maxHeartbeats 40000000 in
theorem rm18_10 (l : Launch) (Z : State) (a0 : Array Value) (hw : ∀ d ∈ tables_1, d.before a0 Z = true) (ws : List Jvm.Cond) (ad0 : Addr) (ad1 : Addr) (kp : Int32) (sz : Int32) (ls : Int32) (fo : Nat → Int64) (fl : Nat → Int64) (jz : Nat) (mc : Int32) (fd : Nat → Value) (ro : Int64) (off : Addr) (len : Addr) (wh : Addr) (dc : Addr) (h0 : Heap) (n0 : Nat) (Z0 : n0 ≤ h0.size) (E_ad0 : Exa Z h0 ad0 own_cE) (F_kept_ad0 : Fld Z h0 ad0 own_cE "kept" "I" (.int kp)) (F_offsets_ad0 : Fld Z h0 ad0 own_cE "offsets" "[J" (.ref off)) (F_lengths_ad0 : Fld Z h0 ad0 own_cE "lengths" "[J" (.ref len)) (F_whole_ad0 : Fld Z h0 ad0 own_cE "whole" "Ljava/util/List;" (.ref wh)) (F_size_ad0 : Fld Z h0 ad0 own_cE "size" "I" (.int sz)) (F_lastSpan_ad0 : Fld Z h0 ad0 own_cE "lastSpan" "I" (.int ls)) (F_taken_ad0 : Fld Z h0 ad0 own_cE "taken" "I" (.int (0 : Int32))) (F_takenWhole_ad0 : Fld Z h0 ad0 own_cE "takenWhole" "I" (.int (0 : Int32))) (g_ad0 : n0 ≤ ad0) (V_off : own_AV Value.long Z h0 off .long 16 fo) (V_len : own_AV Value.long Z h0 len .long 16 fl) (g_off : n0 ≤ off) (g_len : n0 ≤ len) (ne_off_len : off ≠ len) (ne_ad0_off : ad0 ≠ off) (ne_ad0_len : ad0 ≠ len) (hz0 : ¬ sz < (0 : Int32)) (hzn : sz.toNatClampNeg = jz) (hzl : jz < 16) (hz6 : ¬ sz = (16 : Int32)) (E_wh : Exa Z h0 wh own_cL) (F_modCount_wh : Fld Z h0 wh "java/util/AbstractList" "modCount" "I" (.int mc)) (F_elementData_wh : Fld Z h0 wh own_cL "elementData" own_cA (.ref dc)) (F_size_wh : Fld Z h0 wh own_cL "size" "I" (.int (0 : Int32))) (g_wh : n0 ≤ wh) (S_DEFAULTCAPACITY_EMPTY_ELEMENTDATA : Sta Z h0 own_cL "DEFAULTCAPACITY_EMPTY_ELEMENTDATA" own_cA (.ref dc)) (V_dc : own_AV id Z h0 dc (.object "java/lang/Object") 0 fd) (ne_dc_wh : dc ≠ wh) (ne_ad0_wh : ad0 ≠ wh) (ne_off_wh : off ≠ wh) (ne_len_wh : len ≠ wh) (ne_dc_ad0 : dc ≠ ad0) (ne_dc_off : dc ≠ off) (ne_dc_len : dc ≠ len) (E_ad1 : Exa Z h0 ad1 own_cR) (F_offset_ad1 : Fld Z h0 ad1 own_cR "offset" "J" (.long ro)) (ne_ad1_wh : ad1 ≠ wh) :
    MetFree l own_y18 (head1 (Jvm.Cond.code own_y18 prog_47_method_4_code 2 none :: ws) ({ frames := 5, cells := 1, slots := 10, locals := 69 } : Room)) (fun a U => a = #[(.ref ad0), (.ref ad1)] ∧ Z.Warmed39 U.vm ∧ U.heap = h0) (fun _ _ _ _ _ => True) (fun _ U o U' => ∃ v L, o = .returned v ∧ Q18_10 Z ad0 ad1 kp sz ls fo fl jz mc fd ro off len wh dc h0 n0 v U'.heap L ∧ FrameEnd U o U' L ({ frames := 5, cells := 1, slots := 10, locals := 69 } : Room).cells ({ frames := 5, cells := 1, slots := 10, locals := 69 } : Room).slots) := by
  refine MetFree.of_bodySF (plainFor_of_name own_pn6) hisR ?_
  intro p e s m args below meth c s₁ Bd hml0 hP hK
  obtain ⟨rfl, hZ, hh⟩ := hP
  have hx := Bd.exec
  have hby := Bd.bytes
  have hml : c.maxLocals = 2 := hml0
  have hown : s.vm.findClass own_cE = some m.cls := findClass_of_methodNamed Bd.named
  have hnm := (name_of_methodNamed Bd.named Bd.method).1
  have hlk : meth.locks = false := BodyLoose.notSynchronized Bd
  have X0 : Stand p l e ({ frames := 5, cells := 1, slots := 10, locals := 69 } : Room) s m #[(.ref ad0), (.ref ad1)] below meth c s₁ [] 0 0 := Stand.of_body Bd
  have e0 : s₁.heap = h0 := by rw [← hh, Bd.state]; rfl
  have N0 := Fr.nil n0
  obtain ⟨G, hG⟩ : ∃ G, G = own_G s (Q18_10 Z ad0 ad1 kp sz ls fo fl jz mc fd ro off len wh dc h0 n0) ({ frames := 5, cells := 1, slots := 10, locals := 69 } : Room).cells ({ frames := 5, cells := 1, slots := 10, locals := 69 } : Room).slots := ⟨_, rfl⟩
  show own_Fin p e below (own_G s (Q18_10 Z ad0 ad1 kp sz ls fo fl jz mc fd ro off len wh dc h0 n0) ({ frames := 5, cells := 1, slots := 10, locals := 69 } : Room).cells ({ frames := 5, cells := 1, slots := 10, locals := 69 } : Room).slots) (s₁.setTop (entryFrame m #[(.ref ad0), (.ref ad1)] 2))
  rw [← hG]
  refine own_to (fun _ kz => castTop (ef18_10 m ad0 ad1) kz) ?_
  show own_Fin p e below G (s₁.setTop (mkF m 0 #[.val (.ref ad0), .val (.ref ad1)] []))
  refine own_aloadN X0 hx (hb hby d18_0) rfl (rfl) ?_
  obtain ⟨T1, X1, e1, st1⟩ := getF X0 hx hZ hown (host := "") (Or.inl (own_w hw 70 rfl)) Via.refl e0 F_whole_ad0 (g := (mkF m 1 #[.val (.ref ad0), .val (.ref ad1)] [(.ref ad0)])) rfl rfl (hb hby d18_1)
  refine own_to st1 ?_
  show own_Fin p e below G (T1.setTop (mkF m 4 #[.val (.ref ad0), .val (.ref ad1)] [(.ref wh)]))
  refine own_aloadN X1 hx (hb hby d18_4) rfl (rfl) ?_
  obtain ⟨cq5, kq5, qa5, qb5, qc5⟩ := isOf hZ e1 E_wh
  obtain ⟨_, _, ⟨T5, L5, k5, n5⟩, -, X5, ⟨Lc5, hQ5, l5, y5, z5⟩, st5⟩ := X1.interfaceBack hx (xi := (⟨"java/util/List", "add", "(Ljava/lang/Object;)Z"⟩ : MethodName)) (y := own_y19) hown (mvT hZ (own_w hw 127 rfl)) (mvT hZ (own_w hw 128 rfl)) (mvT hZ (own_w hw 129 rfl)) (mvT hZ (own_w hw 130 rfl)) (mvT hZ (own_w hw 131 rfl)) (mvT hZ (own_w hw 132 rfl)) (mvT hZ (own_w hw 133 rfl)) (mvT hZ (own_w hw 134 rfl)) (by decide) (backOf (W := 0) (rm19_0 l Z a0 hw [] wh ad1 mc fd dc h0 n0 Z0 E_wh F_modCount_wh F_elementData_wh F_size_wh g_wh S_DEFAULTCAPACITY_EMPTY_ELEMENTDATA V_dc ne_dc_wh E_ad1) hZ (own_w hw 135 rfl) (own_w hw 48 rfl) (by decide) (by decide)) qa5 qb5 qc5 (g := (mkF m 5 #[.val (.ref ad0), .val (.ref ad1)] [(.ref ad1), (.ref wh)])) rfl (by rw [hml]; rfl) (Steps.refl _) (argsL := [(.ref ad1)]) (rest := []) (lenOf own_pd9 rfl) rfl (by show 2 * 0 + _ ≤ _; exact Nat.le_of_eq rfl) (hb hby d18_5) (fun _ _ => ⟨rfl, e1, (by decide : 0 + 1 ≤ _), (by decide : 0 + 10 ≤ _)⟩)
  dsimp only [Pt.U, Pt.locs, Pt.cells, Pt.slots] at X5 l5 y5 z5 st5 hQ5
  subst l5 y5 z5
  obtain ⟨ed5, rfl, N5q, Kp5, szq_ed5, P5_0, P5_1, P5_2, P5_3, P5_4⟩ := hQ5
  have ne_ad0_ed5 := Nat.ne_of_lt (Nat.lt_of_lt_of_le E_ad0.lt szq_ed5)
  have ne_off_ed5 := Nat.ne_of_lt (Nat.lt_of_lt_of_le V_off.lt szq_ed5)
  have ne_len_ed5 := Nat.ne_of_lt (Nat.lt_of_lt_of_le V_len.lt szq_ed5)
  have ne_wh_ed5 := Nat.ne_of_lt (Nat.lt_of_lt_of_le E_wh.lt szq_ed5)
  have ne_dc_ed5 := Nat.ne_of_lt (Nat.lt_of_lt_of_le V_dc.lt szq_ed5)
  have ne_ad1_ed5 := Nat.ne_of_lt (Nat.lt_of_lt_of_le E_ad1.lt szq_ed5)
  have g_ed5 : n0 ≤ ed5 := Nat.le_trans Z0 szq_ed5
  have sz_ed5 : h0.size ≤ ed5 := Nat.le_trans (Keep.refl h0 [ad0, off, len, wh]).1 szq_ed5
  obtain ⟨lo5, X5, N5⟩ : ∃ lo, Stand p l e _ s m _ below meth c T5 lo _ _ ∧ Fr n0 lo := ⟨_, X5, Fr.app N0 N5q⟩
  refine own_via st5 ?_
  show own_Fin p e below G (T5.setTop (mkF m 10 #[.val (.ref ad0), .val (.ref ad1)] [(.int (1 : Int32))]))
  refine own_to (fun _ kz => XS.pop X5.here hx rfl (hb hby d18_10) rfl rfl kz) ?_
  show own_Fin p e below G (T5.setTop (mkF m 11 #[.val (.ref ad0), .val (.ref ad1)] []))
  refine own_aloadN X5 hx (hb hby d18_11) rfl (rfl) ?_
  refine own_aloadN X5 hx (hb hby d18_12) rfl (rfl) ?_
  have E_ad1_at_13 := (E_ad1.keep Kp5)
  have F_offset_ad1_at_13 := (F_offset_ad1.keep Kp5 (ninS ne_ad1_wh nin0))
  have Zz_13_Kp5 := Nat.le_trans Z0 Kp5.1
  have Z_13 : n0 ≤ T5.heap.size := Zz_13_Kp5
  obtain ⟨cq13, kq13, qa13, qb13, qc13⟩ := isOf hZ rfl E_ad1_at_13
  obtain ⟨_, _, ⟨T13, L13, k13, n13⟩, -, X13, ⟨Lc13, hQ13, l13, y13, z13⟩, st13⟩ := X5.virtualBack hx (y := own_y24) (z := own_y24) hown (mvT hZ (own_w hw 161 rfl)) (mvT hZ (own_w hw 162 rfl)) (notFace_of_selects (args := #[]) (mvT hZ (own_w hw 164 rfl))) (mvT hZ (own_w hw 164 rfl)) (mvT hZ (own_w hw 163 rfl)) (by decide) (backOf (W := 1) (rm24 l Z a0 hw [] ad1 ro T5.heap n0 Z_13 E_ad1_at_13 F_offset_ad1_at_13) hZ (own_w hw 165 rfl) (own_w hw 9 rfl) (by decide) (by decide)) qa13 qc13 (g := (mkF m 13 #[.val (.ref ad0), .val (.ref ad1)] [(.ref ad1), (.ref ad0)])) rfl (by rw [hml]; rfl) (Steps.refl _) (argsL := []) (rest := [(.ref ad0)]) (lenOf own_pd10 rfl) rfl (by show 2 * 0 + _ ≤ _; exact Nat.le_of_eq rfl) (hb hby d18_13) (fun _ _ => ⟨rfl, rfl, (by decide : 1 + 0 ≤ _), (by decide : 10 + 0 ≤ _)⟩)
  dsimp only [Pt.U, Pt.locs, Pt.cells, Pt.slots] at X13 l13 y13 z13 st13 hQ13
  subst l13 y13 z13
  obtain ⟨rfl, N13q, e13⟩ := hQ13
  obtain ⟨lo13, X13, N13⟩ : ∃ lo, Stand p l e _ s m _ below meth c T13 lo _ _ ∧ Fr n0 lo := ⟨_, X13, Fr.app N5 N13q⟩
  refine own_via st13 ?_
  show own_Fin p e below G (T13.setTop (mkF m 16 #[.val (.ref ad0), .val (.ref ad1)] [(.long (f24 ro)), (.ref ad0)]))
  refine own_to (fun _ kz => XS.lconst X13.here hx rfl (hb hby d18_16) kz) ?_
  show own_Fin p e below G (T13.setTop (mkF m 17 #[.val (.ref ad0), .val (.ref ad1)] [(.long (0 : Int64)), (.long (f24 ro)), (.ref ad0)]))
  have E_ad0_at_17 := (E_ad0.keep Kp5)
  have F_kept_ad0_at_17 := (F_kept_ad0.keep Kp5 (ninS ne_ad0_wh nin0))
  have F_offsets_ad0_at_17 := (F_offsets_ad0.keep Kp5 (ninS ne_ad0_wh nin0))
  have F_lengths_ad0_at_17 := (F_lengths_ad0.keep Kp5 (ninS ne_ad0_wh nin0))
  have F_whole_ad0_at_17 := (F_whole_ad0.keep Kp5 (ninS ne_ad0_wh nin0))
  have F_size_ad0_at_17 := (F_size_ad0.keep Kp5 (ninS ne_ad0_wh nin0))
  have F_lastSpan_ad0_at_17 := (F_lastSpan_ad0.keep Kp5 (ninS ne_ad0_wh nin0))
  have F_taken_ad0_at_17 := (F_taken_ad0.keep Kp5 (ninS ne_ad0_wh nin0))
  have F_takenWhole_ad0_at_17 := (F_takenWhole_ad0.keep Kp5 (ninS ne_ad0_wh nin0))
  have V_off_at_17 := (V_off.keep Kp5 (ninS ne_off_wh nin0))
  have V_len_at_17 := (V_len.keep Kp5 (ninS ne_len_wh nin0))
  obtain ⟨cq17, qa17, qb17⟩ := Exa.cell E_ad0_at_17
  obtain ⟨_, _, ⟨T17, L17, k17, n17⟩, -, X17, ⟨Lc17, hQ17, l17, y17, z17⟩, st17⟩ := X13.privateBack hx (y := own_y14) hown (mvT hZ (own_w hw 98 rfl)) (mvT hZ (own_w hw 99 rfl)) (own_selPriv (y := own_y14) (y' := own_y13) rfl (mvT hZ (own_w hw 94 rfl)) (Cond.privateMethod_at (mvP hZ (own_w hw 100 rfl) (args := #[]))) (mvT hZ (own_w hw 99 rfl)) (by decide)) (Cond.privateMethod_at (mvP hZ (own_w hw 100 rfl) (args := #[]))) (mvT hZ (own_w hw 101 rfl)) (by decide) (backOf (W := 0) (rm14_1 l Z a0 hw [] ad0 (f24 ro) (0 : Int64) kp sz ls fo fl jz off len wh T5.heap n0 Z_13 E_ad0_at_17 F_kept_ad0_at_17 F_offsets_ad0_at_17 F_lengths_ad0_at_17 F_whole_ad0_at_17 F_size_ad0_at_17 F_lastSpan_ad0_at_17 F_taken_ad0_at_17 F_takenWhole_ad0_at_17 g_ad0 V_off_at_17 V_len_at_17 g_off g_len ne_off_len ne_ad0_off ne_ad0_len hz0 hzn hzl hz6) hZ (own_w hw 101 rfl) (own_w hw 31 rfl) (by decide) (by decide)) (g := (mkF m 17 #[.val (.ref ad0), .val (.ref ad1)] [(.long (0 : Int64)), (.long (f24 ro)), (.ref ad0)])) rfl (by rw [hml]; rfl) (Steps.refl _) (a := ad0) (by rw [e13]; exact qa17) qb17 (argsL := [(.long (f24 ro)), (.long (0 : Int64))]) (rest := []) (lenOf own_pd5 rfl) rfl (by show 2 * 0 + _ ≤ _; exact Nat.le_of_eq rfl) (hb hby d18_17) (fun _ _ => ⟨rfl, e13, (by decide : 1 + 0 ≤ _), (by decide : 10 + 0 ≤ _)⟩)
  dsimp only [Pt.U, Pt.locs, Pt.cells, Pt.slots] at X17 l17 y17 z17 st17 hQ17
  subst l17 y17 z17
  obtain ⟨rfl, N17q, Kp17, P17_0, P17_1, P17_2, P17_3, P17_4, P17_5, P17_6, P17_7, P17_8, P17_9, P17_10⟩ := hQ17
  obtain ⟨lo17, X17, N17⟩ : ∃ lo, Stand p l e _ s m _ below meth c T17 lo _ _ ∧ Fr n0 lo := ⟨_, X17, Fr.app N13 N17q⟩
  refine own_via st17 ?_
  show own_Fin p e below G (T17.setTop (mkF m 20 #[.val (.ref ad0), .val (.ref ad1)] []))
  have KP_20 : Keep h0 T17.heap [ad0, off, len, wh] := (((Keep.refl h0 [ad0, off, len, wh]).trans Kp5 (allS (Or.inl (List.mem_of_getElem? (i := 3) rfl)) all0)).trans Kp17 (allS (Or.inl (List.mem_of_getElem? (i := 0) rfl)) (allS (Or.inl (List.mem_of_getElem? (i := 1) rfl)) (allS (Or.inl (List.mem_of_getElem? (i := 2) rfl)) all0))))
  have P5_0_at_20 := (P5_0.keep Kp17)
  have P5_1_at_20 := (P5_1.keep Kp17 (ninS (Ne.symm ne_ad0_wh) (ninS (Ne.symm ne_off_wh) (ninS (Ne.symm ne_len_wh) nin0))))
  have P5_2_at_20 := (P5_2.keep Kp17 (ninS (Ne.symm ne_ad0_wh) (ninS (Ne.symm ne_off_wh) (ninS (Ne.symm ne_len_wh) nin0))))
  have P5_3_at_20 := (P5_3.keep Kp17 (ninS (Ne.symm ne_ad0_wh) (ninS (Ne.symm ne_off_wh) (ninS (Ne.symm ne_len_wh) nin0))))
  have P5_4_at_20 := (P5_4.keep Kp17 (ninS (Ne.symm ne_ad0_ed5) (ninS (Ne.symm ne_off_ed5) (ninS (Ne.symm ne_len_ed5) nin0))))
  exact own_retV X17 hx hlk hG Bd.returns (hb hby d18_20) (by decide) (by decide) ⟨ed5, rfl, N17, KP_20, sz_ed5, P17_0, P17_1, P17_2, P17_3, P17_4, P17_5, P17_6, P17_7, P17_8, P17_9, P17_10, P5_0_at_20, P5_1_at_20, P5_2_at_20, P5_3_at_20, P5_4_at_20⟩
theorem ef10_10 (m : MethodId) (ad0 : Addr) (p1 : Int32) (p2 : Int32) (ad3 : Addr) (x4 : Int64) (x5 : Int64) : entryFrame m #[(.ref ad0), (.int p1), (.int p2), (.ref ad3), (.long x4), (.long x5)] 8 = mkF m 0 #[.val (.ref ad0), .val (.int p1), .val (.int p2), .val (.ref ad3), .val (.long x4), .second, .val (.long x5), .second] [] := by first | (simp [entryFrame, mkF, argsToLocals, Value.category]; done) | rfl
def Q10_10 (Z : State) (ad0 : Addr) (p1 : Int32) (p2 : Int32) (ad3 : Addr) (x4 : Int64) (x5 : Int64) (kp : Int32) (sz : Int32) (ls : Int32) (fo : Nat → Int64) (fl : Nat → Int64) (jz : Nat) (mc : Int32) (fd : Nat → Value) (ro : Int64) (off : Addr) (len : Addr) (wh : Addr) (dc : Addr) (h0 : Heap) (n0 : Nat) (v : Option Value) (h : Heap) (L : List Loc) : Prop := ∃ nw0 : Addr, v = none ∧ Fr n0 L ∧ Keep h0 h [ad0, off, len, wh] ∧ h0.size ≤ nw0 ∧ Exa Z h ad0 own_cE ∧ Fld Z h ad0 own_cE "kept" "I" (.int kp) ∧ Fld Z h ad0 own_cE "offsets" "[J" (.ref off) ∧ Fld Z h ad0 own_cE "lengths" "[J" (.ref len) ∧ Fld Z h ad0 own_cE "whole" "Ljava/util/List;" (.ref wh) ∧ Fld Z h ad0 own_cE "size" "I" (.int (sz + (1 : Int32))) ∧ Fld Z h ad0 own_cE "lastSpan" "I" (.int ls) ∧ Fld Z h ad0 own_cE "taken" "I" (.int (0 : Int32)) ∧ Fld Z h ad0 own_cE "takenWhole" "I" (.int (0 : Int32)) ∧ own_AV Value.long Z h off .long 16 (own_upd fo jz (f24 ro)) ∧ own_AV Value.long Z h len .long 16 (own_upd fl jz (0 : Int64)) ∧ Exa Z h wh own_cL ∧ Fld Z h wh "java/util/AbstractList" "modCount" "I" (.int (mc + (1 : Int32))) ∧ Fld Z h wh own_cL "elementData" own_cA (.ref nw0) ∧ Fld Z h wh own_cL "size" "I" (.int (1 : Int32)) ∧ own_RV Z h nw0 "java/lang/Object" 10 (own_upd (fun _ => Value.null) 0 (.ref ad3))
set_option maxRecDepth 65536 in
set_option maxHeartbeats 40000000 in
theorem rm10_10 (l : Launch) (Z : State) (a0 : Array Value) (hw : ∀ d ∈ tables_1, d.before a0 Z = true) (ws : List Jvm.Cond) (ad0 : Addr) (p1 : Int32) (p2 : Int32) (ad3 : Addr) (x4 : Int64) (x5 : Int64) (kp : Int32) (sz : Int32) (ls : Int32) (fo : Nat → Int64) (fl : Nat → Int64) (jz : Nat) (mc : Int32) (fd : Nat → Value) (ro : Int64) (off : Addr) (len : Addr) (wh : Addr) (dc : Addr) (h0 : Heap) (n0 : Nat) (Z0 : n0 ≤ h0.size) (E_ad0 : Exa Z h0 ad0 own_cE) (F_kept_ad0 : Fld Z h0 ad0 own_cE "kept" "I" (.int kp)) (F_offsets_ad0 : Fld Z h0 ad0 own_cE "offsets" "[J" (.ref off)) (F_lengths_ad0 : Fld Z h0 ad0 own_cE "lengths" "[J" (.ref len)) (F_whole_ad0 : Fld Z h0 ad0 own_cE "whole" "Ljava/util/List;" (.ref wh)) (F_size_ad0 : Fld Z h0 ad0 own_cE "size" "I" (.int sz)) (F_lastSpan_ad0 : Fld Z h0 ad0 own_cE "lastSpan" "I" (.int ls)) (F_taken_ad0 : Fld Z h0 ad0 own_cE "taken" "I" (.int (0 : Int32))) (F_takenWhole_ad0 : Fld Z h0 ad0 own_cE "takenWhole" "I" (.int (0 : Int32))) (g_ad0 : n0 ≤ ad0) (V_off : own_AV Value.long Z h0 off .long 16 fo) (V_len : own_AV Value.long Z h0 len .long 16 fl) (g_off : n0 ≤ off) (g_len : n0 ≤ len) (ne_off_len : off ≠ len) (ne_ad0_off : ad0 ≠ off) (ne_ad0_len : ad0 ≠ len) (hz0 : ¬ sz < (0 : Int32)) (hzn : sz.toNatClampNeg = jz) (hzl : jz < 16) (hz6 : ¬ sz = (16 : Int32)) (E_wh : Exa Z h0 wh own_cL) (F_modCount_wh : Fld Z h0 wh "java/util/AbstractList" "modCount" "I" (.int mc)) (F_elementData_wh : Fld Z h0 wh own_cL "elementData" own_cA (.ref dc)) (F_size_wh : Fld Z h0 wh own_cL "size" "I" (.int (0 : Int32))) (g_wh : n0 ≤ wh) (S_DEFAULTCAPACITY_EMPTY_ELEMENTDATA : Sta Z h0 own_cL "DEFAULTCAPACITY_EMPTY_ELEMENTDATA" own_cA (.ref dc)) (V_dc : own_AV id Z h0 dc (.object "java/lang/Object") 0 fd) (ne_dc_wh : dc ≠ wh) (ne_ad0_wh : ad0 ≠ wh) (ne_off_wh : off ≠ wh) (ne_len_wh : len ≠ wh) (ne_dc_ad0 : dc ≠ ad0) (ne_dc_off : dc ≠ off) (ne_dc_len : dc ≠ len) (E_ad3 : Exa Z h0 ad3 own_cR) (F_offset_ad3 : Fld Z h0 ad3 own_cR "offset" "J" (.long ro)) (ne_ad3_wh : ad3 ≠ wh) (hs : (f11 p1 p2) = (0 : Int32)) :
    MetFree l own_y10 (head1 (Jvm.Cond.code own_y10 method_4_code 8 none :: ws) ({ frames := 6, cells := 1, slots := 10, locals := 82 } : Room)) (fun a U => a = #[(.ref ad0), (.int p1), (.int p2), (.ref ad3), (.long x4), (.long x5)] ∧ Z.Warmed39 U.vm ∧ U.heap = h0) (fun _ _ _ _ _ => True) (fun _ U o U' => ∃ v L, o = .returned v ∧ Q10_10 Z ad0 p1 p2 ad3 x4 x5 kp sz ls fo fl jz mc fd ro off len wh dc h0 n0 v U'.heap L ∧ FrameEnd U o U' L ({ frames := 6, cells := 1, slots := 10, locals := 82 } : Room).cells ({ frames := 6, cells := 1, slots := 10, locals := 82 } : Room).slots) := by
  refine MetFree.of_bodySF (plainFor_of_name own_pn0) hisR ?_
  intro p e s m args below meth c s₁ Bd hml0 hP hK
  obtain ⟨rfl, hZ, hh⟩ := hP
  have hx := Bd.exec
  have hby := Bd.bytes
  have hml : c.maxLocals = 8 := hml0
  have hown : s.vm.findClass own_cW = some m.cls := findClass_of_methodNamed Bd.named
  have hnm := (name_of_methodNamed Bd.named Bd.method).1
  have hlk : meth.locks = false := BodyLoose.notSynchronized Bd
  have X0 : Stand p l e ({ frames := 6, cells := 1, slots := 10, locals := 82 } : Room) s m #[(.ref ad0), (.int p1), (.int p2), (.ref ad3), (.long x4), (.long x5)] below meth c s₁ [] 0 0 := Stand.of_body Bd
  have e0 : s₁.heap = h0 := by rw [← hh, Bd.state]; rfl
  have N0 := Fr.nil n0
  obtain ⟨G, hG⟩ : ∃ G, G = own_G s (Q10_10 Z ad0 p1 p2 ad3 x4 x5 kp sz ls fo fl jz mc fd ro off len wh dc h0 n0) ({ frames := 6, cells := 1, slots := 10, locals := 82 } : Room).cells ({ frames := 6, cells := 1, slots := 10, locals := 82 } : Room).slots := ⟨_, rfl⟩
  show own_Fin p e below (own_G s (Q10_10 Z ad0 p1 p2 ad3 x4 x5 kp sz ls fo fl jz mc fd ro off len wh dc h0 n0) ({ frames := 6, cells := 1, slots := 10, locals := 82 } : Room).cells ({ frames := 6, cells := 1, slots := 10, locals := 82 } : Room).slots) (s₁.setTop (entryFrame m #[(.ref ad0), (.int p1), (.int p2), (.ref ad3), (.long x4), (.long x5)] 8))
  rw [← hG]
  refine own_to (fun _ kz => castTop (ef10_10 m ad0 p1 p2 ad3 x4 x5) kz) ?_
  show own_Fin p e below G (s₁.setTop (mkF m 0 #[.val (.ref ad0), .val (.int p1), .val (.int p2), .val (.ref ad3), .val (.long x4), .second, .val (.long x5), .second] []))
  refine own_iloadN X0 hx (hb hby d10_0) rfl ?_
  refine own_iloadN X0 hx (hb hby d10_1) rfl ?_
  obtain ⟨_, _, ⟨T2, L2, k2, n2⟩, -, X2, ⟨Lc2, hQ2, l2, y2, z2⟩, st2⟩ := Jvm.LawKit.callS X0 hx (y := own_y11) hown (mvT hZ (own_w hw 84 rfl)) (mvT hZ (own_w hw 85 rfl)) (mvT hZ (own_w hw 82 rfl)) (mvT hZ (own_w hw 86 rfl)) (by decide) (backOf (W := 0) (rm11 l Z a0 hw [] p1 p2 h0 n0 Z0) hZ (own_w hw 86 rfl) (own_w hw 82 rfl) (by decide) (by decide)) (g := (mkF m 2 #[.val (.ref ad0), .val (.int p1), .val (.int p2), .val (.ref ad3), .val (.long x4), .second, .val (.long x5), .second] [(.int p2), (.int p1)])) rfl (by rw [hml]; rfl) (argsL := [(.int p1), (.int p2)]) (rest := []) (lenOf own_pd11 rfl) rfl (by show 2 * 0 + _ ≤ _; exact Nat.le_of_eq rfl) (hb hby d10_2) (fun _ _ => ⟨rfl, e0, (by decide : 0 + 0 ≤ _), (by decide : 0 + 0 ≤ _)⟩)
  dsimp only [Pt.U, Pt.locs, Pt.cells, Pt.slots] at X2 l2 y2 z2 st2 hQ2
  subst l2 y2 z2
  obtain ⟨rfl, N2q, e2⟩ := hQ2
  obtain ⟨lo2, X2, N2⟩ : ∃ lo, Stand p l e _ s m _ below meth c T2 lo _ _ ∧ Fr n0 lo := ⟨_, X2, Fr.app N0 N2q⟩
  refine own_to st2 ?_
  show own_Fin p e below G (T2.setTop (mkF m 5 #[.val (.ref ad0), .val (.int p1), .val (.int p2), .val (.ref ad3), .val (.long x4), .second, .val (.long x5), .second] [(.int (f11 p1 p2))]))
  have hc5 : (f11 p1 p2) = (0 : Int32) := hs
  refine own_to (fun _ kz => XS.ifYes X2.here hx rfl (pc0 := 5) (pc' := 23) rfl (hb hby d10_5) rfl ((if0 _ _).trans (teq hc5).1) (by decide) (by decide) kz) ?_
  show own_Fin p e below G (T2.setTop (mkF m 23 #[.val (.ref ad0), .val (.int p1), .val (.int p2), .val (.ref ad3), .val (.long x4), .second, .val (.long x5), .second] []))
  refine own_aloadN X2 hx (hb hby d10_23) rfl (rfl) ?_
  refine own_aloadN X2 hx (hb hby d10_24) rfl (rfl) ?_
  obtain ⟨cq25, kq25, qa25, qb25, qc25⟩ := isOf hZ e2 E_ad0
  obtain ⟨_, _, ⟨T25, L25, k25, n25⟩, -, X25, ⟨Lc25, hQ25, l25, y25, z25⟩, st25⟩ := X2.virtualBack hx (y := own_y18) (z := own_y18) hown (mvT hZ (own_w hw 122 rfl)) (mvT hZ (own_w hw 123 rfl)) (notFace_of_selects (args := #[]) (mvT hZ (own_w hw 125 rfl))) (mvT hZ (own_w hw 125 rfl)) (mvT hZ (own_w hw 124 rfl)) (by decide) (backOf (W := 0) (rm18_10 l Z a0 hw [] ad0 ad3 kp sz ls fo fl jz mc fd ro off len wh dc h0 n0 Z0 E_ad0 F_kept_ad0 F_offsets_ad0 F_lengths_ad0 F_whole_ad0 F_size_ad0 F_lastSpan_ad0 F_taken_ad0 F_takenWhole_ad0 g_ad0 V_off V_len g_off g_len ne_off_len ne_ad0_off ne_ad0_len hz0 hzn hzl hz6 E_wh F_modCount_wh F_elementData_wh F_size_wh g_wh S_DEFAULTCAPACITY_EMPTY_ELEMENTDATA V_dc ne_dc_wh ne_ad0_wh ne_off_wh ne_len_wh ne_dc_ad0 ne_dc_off ne_dc_len E_ad3 F_offset_ad3 ne_ad3_wh) hZ (own_w hw 126 rfl) (own_w hw 31 rfl) (by decide) (by decide)) qa25 qc25 (g := (mkF m 25 #[.val (.ref ad0), .val (.int p1), .val (.int p2), .val (.ref ad3), .val (.long x4), .second, .val (.long x5), .second] [(.ref ad3), (.ref ad0)])) rfl (by rw [hml]; rfl) (Steps.refl _) (argsL := [(.ref ad3)]) (rest := []) (lenOf own_pd12 rfl) rfl (by show 2 * 0 + _ ≤ _; exact Nat.le_of_eq rfl) (hb hby d10_25) (fun _ _ => ⟨rfl, e2, (by decide : 0 + 1 ≤ _), (by decide : 0 + 10 ≤ _)⟩)
  dsimp only [Pt.U, Pt.locs, Pt.cells, Pt.slots] at X25 l25 y25 z25 st25 hQ25
  subst l25 y25 z25
  obtain ⟨ed25, rfl, N25q, Kp25, szq_ed25, P25_0, P25_1, P25_2, P25_3, P25_4, P25_5, P25_6, P25_7, P25_8, P25_9, P25_10, P25_11, P25_12, P25_13, P25_14, P25_15⟩ := hQ25
  have ne_ad0_ed25 := Nat.ne_of_lt (Nat.lt_of_lt_of_le E_ad0.lt szq_ed25)
  have ne_off_ed25 := Nat.ne_of_lt (Nat.lt_of_lt_of_le V_off.lt szq_ed25)
  have ne_len_ed25 := Nat.ne_of_lt (Nat.lt_of_lt_of_le V_len.lt szq_ed25)
  have ne_wh_ed25 := Nat.ne_of_lt (Nat.lt_of_lt_of_le E_wh.lt szq_ed25)
  have ne_dc_ed25 := Nat.ne_of_lt (Nat.lt_of_lt_of_le V_dc.lt szq_ed25)
  have ne_ad3_ed25 := Nat.ne_of_lt (Nat.lt_of_lt_of_le E_ad3.lt szq_ed25)
  have g_ed25 : n0 ≤ ed25 := Nat.le_trans Z0 szq_ed25
  have sz_ed25 : h0.size ≤ ed25 := Nat.le_trans (Keep.refl h0 [ad0, off, len, wh]).1 szq_ed25
  obtain ⟨lo25, X25, N25⟩ : ∃ lo, Stand p l e _ s m _ below meth c T25 lo _ _ ∧ Fr n0 lo := ⟨_, X25, Fr.app N2 N25q⟩
  refine own_via st25 ?_
  show own_Fin p e below G (T25.setTop (mkF m 28 #[.val (.ref ad0), .val (.int p1), .val (.int p2), .val (.ref ad3), .val (.long x4), .second, .val (.long x5), .second] []))
  have KP_28 : Keep h0 T25.heap [ad0, off, len, wh] := ((Keep.refl h0 [ad0, off, len, wh]).trans Kp25 (allS (Or.inl (List.mem_of_getElem? (i := 0) rfl)) (allS (Or.inl (List.mem_of_getElem? (i := 1) rfl)) (allS (Or.inl (List.mem_of_getElem? (i := 2) rfl)) (allS (Or.inl (List.mem_of_getElem? (i := 3) rfl)) all0)))))
  exact own_retV X25 hx hlk hG Bd.returns (hb hby d10_28) (by decide) (by decide) ⟨ed25, rfl, N25, KP_28, sz_ed25, P25_0, P25_1, P25_2, P25_3, P25_4, P25_5, P25_6, P25_7, P25_8, P25_9, P25_10, P25_11, P25_12, P25_13, P25_14, P25_15⟩
theorem ef18_11 (m : MethodId) (ad0 : Addr) (ad1 : Addr) : entryFrame m #[(.ref ad0), (.ref ad1)] 2 = mkF m 0 #[.val (.ref ad0), .val (.ref ad1)] [] := by first | (simp [entryFrame, mkF, argsToLocals, Value.category]; done) | rfl
def Q18_11 (Z : State) (ad0 : Addr) (ad1 : Addr) (kp : Int32) (sz : Int32) (ls : Int32) (fo : Nat → Int64) (fl : Nat → Int64) (jz : Nat) (mc : Int32) (lz : Int32) (fe : Nat → Value) (jl : Nat) (ro : Int64) (off : Addr) (len : Addr) (wh : Addr) (ed : Addr) (h0 : Heap) (n0 : Nat) (v : Option Value) (h : Heap) (L : List Loc) : Prop := v = none ∧ Fr n0 L ∧ Keep h0 h [ad0, off, len, wh, ed] ∧ Exa Z h ad0 own_cE ∧ Fld Z h ad0 own_cE "kept" "I" (.int kp) ∧ Fld Z h ad0 own_cE "offsets" "[J" (.ref off) ∧ Fld Z h ad0 own_cE "lengths" "[J" (.ref len) ∧ Fld Z h ad0 own_cE "whole" "Ljava/util/List;" (.ref wh) ∧ Fld Z h ad0 own_cE "size" "I" (.int (sz + (1 : Int32))) ∧ Fld Z h ad0 own_cE "lastSpan" "I" (.int ls) ∧ Fld Z h ad0 own_cE "taken" "I" (.int (0 : Int32)) ∧ Fld Z h ad0 own_cE "takenWhole" "I" (.int (0 : Int32)) ∧ own_AV Value.long Z h off .long 16 (own_upd fo jz (f24 ro)) ∧ own_AV Value.long Z h len .long 16 (own_upd fl jz (0 : Int64)) ∧ Exa Z h wh own_cL ∧ Fld Z h wh "java/util/AbstractList" "modCount" "I" (.int (mc + (1 : Int32))) ∧ Fld Z h wh own_cL "elementData" own_cA (.ref ed) ∧ Fld Z h wh own_cL "size" "I" (.int (lz + (1 : Int32))) ∧ own_RV Z h ed "java/lang/Object" 10 (own_upd fe jl (.ref ad1))
set_option maxRecDepth 65536 in
set_option maxHeartbeats 40000000 in
theorem rm18_11 (l : Launch) (Z : State) (a0 : Array Value) (hw : ∀ d ∈ tables_1, d.before a0 Z = true) (ws : List Jvm.Cond) (ad0 : Addr) (ad1 : Addr) (kp : Int32) (sz : Int32) (ls : Int32) (fo : Nat → Int64) (fl : Nat → Int64) (jz : Nat) (mc : Int32) (lz : Int32) (fe : Nat → Value) (jl : Nat) (ro : Int64) (off : Addr) (len : Addr) (wh : Addr) (ed : Addr) (h0 : Heap) (n0 : Nat) (Z0 : n0 ≤ h0.size) (E_ad0 : Exa Z h0 ad0 own_cE) (F_kept_ad0 : Fld Z h0 ad0 own_cE "kept" "I" (.int kp)) (F_offsets_ad0 : Fld Z h0 ad0 own_cE "offsets" "[J" (.ref off)) (F_lengths_ad0 : Fld Z h0 ad0 own_cE "lengths" "[J" (.ref len)) (F_whole_ad0 : Fld Z h0 ad0 own_cE "whole" "Ljava/util/List;" (.ref wh)) (F_size_ad0 : Fld Z h0 ad0 own_cE "size" "I" (.int sz)) (F_lastSpan_ad0 : Fld Z h0 ad0 own_cE "lastSpan" "I" (.int ls)) (F_taken_ad0 : Fld Z h0 ad0 own_cE "taken" "I" (.int (0 : Int32))) (F_takenWhole_ad0 : Fld Z h0 ad0 own_cE "takenWhole" "I" (.int (0 : Int32))) (g_ad0 : n0 ≤ ad0) (V_off : own_AV Value.long Z h0 off .long 16 fo) (V_len : own_AV Value.long Z h0 len .long 16 fl) (g_off : n0 ≤ off) (g_len : n0 ≤ len) (ne_off_len : off ≠ len) (ne_ad0_off : ad0 ≠ off) (ne_ad0_len : ad0 ≠ len) (hz0 : ¬ sz < (0 : Int32)) (hzn : sz.toNatClampNeg = jz) (hzl : jz < 16) (hz6 : ¬ sz = (16 : Int32)) (E_wh : Exa Z h0 wh own_cL) (F_modCount_wh : Fld Z h0 wh "java/util/AbstractList" "modCount" "I" (.int mc)) (F_elementData_wh : Fld Z h0 wh own_cL "elementData" own_cA (.ref ed)) (F_size_wh : Fld Z h0 wh own_cL "size" "I" (.int lz)) (g_wh : n0 ≤ wh) (V_ed : own_RV Z h0 ed "java/lang/Object" 10 fe) (g_ed : n0 ≤ ed) (ne_ed_wh : ed ≠ wh) (hl0 : ¬ lz < (0 : Int32)) (hln_ : lz.toNatClampNeg = jl) (hll : jl < 10) (hl6 : ¬ lz = (10 : Int32)) (ne_ad0_wh : ad0 ≠ wh) (ne_off_wh : off ≠ wh) (ne_len_wh : len ≠ wh) (ne_ad0_ed : ad0 ≠ ed) (ne_off_ed : off ≠ ed) (ne_len_ed : len ≠ ed) (E_ad1 : Exa Z h0 ad1 own_cR) (F_offset_ad1 : Fld Z h0 ad1 own_cR "offset" "J" (.long ro)) (ne_ad1_wh : ad1 ≠ wh) (ne_ad1_ed : ad1 ≠ ed) :
    MetFree l own_y18 (head1 (Jvm.Cond.code own_y18 prog_47_method_4_code 2 none :: ws) ({ frames := 2, cells := 0, slots := 0, locals := 28 } : Room)) (fun a U => a = #[(.ref ad0), (.ref ad1)] ∧ Z.Warmed39 U.vm ∧ U.heap = h0) (fun _ _ _ _ _ => True) (fun _ U o U' => ∃ v L, o = .returned v ∧ Q18_11 Z ad0 ad1 kp sz ls fo fl jz mc lz fe jl ro off len wh ed h0 n0 v U'.heap L ∧ FrameEnd U o U' L ({ frames := 2, cells := 0, slots := 0, locals := 28 } : Room).cells ({ frames := 2, cells := 0, slots := 0, locals := 28 } : Room).slots) := by
  refine MetFree.of_bodySF (plainFor_of_name own_pn6) hisR ?_
  intro p e s m args below meth c s₁ Bd hml0 hP hK
  obtain ⟨rfl, hZ, hh⟩ := hP
  have hx := Bd.exec
  have hby := Bd.bytes
  have hml : c.maxLocals = 2 := hml0
  have hown : s.vm.findClass own_cE = some m.cls := findClass_of_methodNamed Bd.named
  have hnm := (name_of_methodNamed Bd.named Bd.method).1
  have hlk : meth.locks = false := BodyLoose.notSynchronized Bd
  have X0 : Stand p l e ({ frames := 2, cells := 0, slots := 0, locals := 28 } : Room) s m #[(.ref ad0), (.ref ad1)] below meth c s₁ [] 0 0 := Stand.of_body Bd
  have e0 : s₁.heap = h0 := by rw [← hh, Bd.state]; rfl
  have N0 := Fr.nil n0
  obtain ⟨G, hG⟩ : ∃ G, G = own_G s (Q18_11 Z ad0 ad1 kp sz ls fo fl jz mc lz fe jl ro off len wh ed h0 n0) ({ frames := 2, cells := 0, slots := 0, locals := 28 } : Room).cells ({ frames := 2, cells := 0, slots := 0, locals := 28 } : Room).slots := ⟨_, rfl⟩
  show own_Fin p e below (own_G s (Q18_11 Z ad0 ad1 kp sz ls fo fl jz mc lz fe jl ro off len wh ed h0 n0) ({ frames := 2, cells := 0, slots := 0, locals := 28 } : Room).cells ({ frames := 2, cells := 0, slots := 0, locals := 28 } : Room).slots) (s₁.setTop (entryFrame m #[(.ref ad0), (.ref ad1)] 2))
  rw [← hG]
  refine own_to (fun _ kz => castTop (ef18_11 m ad0 ad1) kz) ?_
  show own_Fin p e below G (s₁.setTop (mkF m 0 #[.val (.ref ad0), .val (.ref ad1)] []))
  refine own_aloadN X0 hx (hb hby d18_0) rfl (rfl) ?_
  obtain ⟨T1, X1, e1, st1⟩ := getF X0 hx hZ hown (host := "") (Or.inl (own_w hw 70 rfl)) Via.refl e0 F_whole_ad0 (g := (mkF m 1 #[.val (.ref ad0), .val (.ref ad1)] [(.ref ad0)])) rfl rfl (hb hby d18_1)
  refine own_to st1 ?_
  show own_Fin p e below G (T1.setTop (mkF m 4 #[.val (.ref ad0), .val (.ref ad1)] [(.ref wh)]))
  refine own_aloadN X1 hx (hb hby d18_4) rfl (rfl) ?_
  obtain ⟨cq5, kq5, qa5, qb5, qc5⟩ := isOf hZ e1 E_wh
  obtain ⟨_, _, ⟨T5, L5, k5, n5⟩, -, X5, ⟨Lc5, hQ5, l5, y5, z5⟩, st5⟩ := X1.interfaceBack hx (xi := (⟨"java/util/List", "add", "(Ljava/lang/Object;)Z"⟩ : MethodName)) (y := own_y19) hown (mvT hZ (own_w hw 127 rfl)) (mvT hZ (own_w hw 128 rfl)) (mvT hZ (own_w hw 129 rfl)) (mvT hZ (own_w hw 130 rfl)) (mvT hZ (own_w hw 131 rfl)) (mvT hZ (own_w hw 132 rfl)) (mvT hZ (own_w hw 133 rfl)) (mvT hZ (own_w hw 134 rfl)) (by decide) (backOf (W := 0) (rm19_1 l Z a0 hw [] wh ad1 mc lz fe jl ed h0 n0 Z0 E_wh F_modCount_wh F_elementData_wh F_size_wh g_wh V_ed g_ed ne_ed_wh hl0 hln_ hll hl6 E_ad1) hZ (own_w hw 135 rfl) (own_w hw 48 rfl) (by decide) (by decide)) qa5 qb5 qc5 (g := (mkF m 5 #[.val (.ref ad0), .val (.ref ad1)] [(.ref ad1), (.ref wh)])) rfl (by rw [hml]; rfl) (Steps.refl _) (argsL := [(.ref ad1)]) (rest := []) (lenOf own_pd9 rfl) rfl (by show 2 * 0 + _ ≤ _; exact Nat.le_of_eq rfl) (hb hby d18_5) (fun _ _ => ⟨rfl, e1, (by decide : 0 + 0 ≤ _), (by decide : 0 + 0 ≤ _)⟩)
  dsimp only [Pt.U, Pt.locs, Pt.cells, Pt.slots] at X5 l5 y5 z5 st5 hQ5
  subst l5 y5 z5
  obtain ⟨rfl, N5q, Kp5, P5_0, P5_1, P5_2, P5_3, P5_4⟩ := hQ5
  obtain ⟨lo5, X5, N5⟩ : ∃ lo, Stand p l e _ s m _ below meth c T5 lo _ _ ∧ Fr n0 lo := ⟨_, X5, Fr.app N0 N5q⟩
  refine own_via st5 ?_
  show own_Fin p e below G (T5.setTop (mkF m 10 #[.val (.ref ad0), .val (.ref ad1)] [(.int (1 : Int32))]))
  refine own_to (fun _ kz => XS.pop X5.here hx rfl (hb hby d18_10) rfl rfl kz) ?_
  show own_Fin p e below G (T5.setTop (mkF m 11 #[.val (.ref ad0), .val (.ref ad1)] []))
  refine own_aloadN X5 hx (hb hby d18_11) rfl (rfl) ?_
  refine own_aloadN X5 hx (hb hby d18_12) rfl (rfl) ?_
  have E_ad1_at_13 := (E_ad1.keep Kp5)
  have F_offset_ad1_at_13 := (F_offset_ad1.keep Kp5 (ninS ne_ad1_wh (ninS ne_ad1_ed nin0)))
  have Zz_13_Kp5 := Nat.le_trans Z0 Kp5.1
  have Z_13 : n0 ≤ T5.heap.size := Zz_13_Kp5
  obtain ⟨cq13, kq13, qa13, qb13, qc13⟩ := isOf hZ rfl E_ad1_at_13
  obtain ⟨_, _, ⟨T13, L13, k13, n13⟩, -, X13, ⟨Lc13, hQ13, l13, y13, z13⟩, st13⟩ := X5.virtualBack hx (y := own_y24) (z := own_y24) hown (mvT hZ (own_w hw 161 rfl)) (mvT hZ (own_w hw 162 rfl)) (notFace_of_selects (args := #[]) (mvT hZ (own_w hw 164 rfl))) (mvT hZ (own_w hw 164 rfl)) (mvT hZ (own_w hw 163 rfl)) (by decide) (backOf (W := 1) (rm24 l Z a0 hw [] ad1 ro T5.heap n0 Z_13 E_ad1_at_13 F_offset_ad1_at_13) hZ (own_w hw 165 rfl) (own_w hw 9 rfl) (by decide) (by decide)) qa13 qc13 (g := (mkF m 13 #[.val (.ref ad0), .val (.ref ad1)] [(.ref ad1), (.ref ad0)])) rfl (by rw [hml]; rfl) (Steps.refl _) (argsL := []) (rest := [(.ref ad0)]) (lenOf own_pd10 rfl) rfl (by show 2 * 0 + _ ≤ _; exact Nat.le_of_eq rfl) (hb hby d18_13) (fun _ _ => ⟨rfl, rfl, (by decide : 0 + 0 ≤ _), (by decide : 0 + 0 ≤ _)⟩)
  dsimp only [Pt.U, Pt.locs, Pt.cells, Pt.slots] at X13 l13 y13 z13 st13 hQ13
  subst l13 y13 z13
  obtain ⟨rfl, N13q, e13⟩ := hQ13
  obtain ⟨lo13, X13, N13⟩ : ∃ lo, Stand p l e _ s m _ below meth c T13 lo _ _ ∧ Fr n0 lo := ⟨_, X13, Fr.app N5 N13q⟩
  refine own_via st13 ?_
  show own_Fin p e below G (T13.setTop (mkF m 16 #[.val (.ref ad0), .val (.ref ad1)] [(.long (f24 ro)), (.ref ad0)]))
  refine own_to (fun _ kz => XS.lconst X13.here hx rfl (hb hby d18_16) kz) ?_
  show own_Fin p e below G (T13.setTop (mkF m 17 #[.val (.ref ad0), .val (.ref ad1)] [(.long (0 : Int64)), (.long (f24 ro)), (.ref ad0)]))
  have E_ad0_at_17 := (E_ad0.keep Kp5)
  have F_kept_ad0_at_17 := (F_kept_ad0.keep Kp5 (ninS ne_ad0_wh (ninS ne_ad0_ed nin0)))
  have F_offsets_ad0_at_17 := (F_offsets_ad0.keep Kp5 (ninS ne_ad0_wh (ninS ne_ad0_ed nin0)))
  have F_lengths_ad0_at_17 := (F_lengths_ad0.keep Kp5 (ninS ne_ad0_wh (ninS ne_ad0_ed nin0)))
  have F_whole_ad0_at_17 := (F_whole_ad0.keep Kp5 (ninS ne_ad0_wh (ninS ne_ad0_ed nin0)))
  have F_size_ad0_at_17 := (F_size_ad0.keep Kp5 (ninS ne_ad0_wh (ninS ne_ad0_ed nin0)))
  have F_lastSpan_ad0_at_17 := (F_lastSpan_ad0.keep Kp5 (ninS ne_ad0_wh (ninS ne_ad0_ed nin0)))
  have F_taken_ad0_at_17 := (F_taken_ad0.keep Kp5 (ninS ne_ad0_wh (ninS ne_ad0_ed nin0)))
  have F_takenWhole_ad0_at_17 := (F_takenWhole_ad0.keep Kp5 (ninS ne_ad0_wh (ninS ne_ad0_ed nin0)))
  have V_off_at_17 := (V_off.keep Kp5 (ninS ne_off_wh (ninS ne_off_ed nin0)))
  have V_len_at_17 := (V_len.keep Kp5 (ninS ne_len_wh (ninS ne_len_ed nin0)))
  obtain ⟨cq17, qa17, qb17⟩ := Exa.cell E_ad0_at_17
  obtain ⟨_, _, ⟨T17, L17, k17, n17⟩, -, X17, ⟨Lc17, hQ17, l17, y17, z17⟩, st17⟩ := X13.privateBack hx (y := own_y14) hown (mvT hZ (own_w hw 98 rfl)) (mvT hZ (own_w hw 99 rfl)) (own_selPriv (y := own_y14) (y' := own_y13) rfl (mvT hZ (own_w hw 94 rfl)) (Cond.privateMethod_at (mvP hZ (own_w hw 100 rfl) (args := #[]))) (mvT hZ (own_w hw 99 rfl)) (by decide)) (Cond.privateMethod_at (mvP hZ (own_w hw 100 rfl) (args := #[]))) (mvT hZ (own_w hw 101 rfl)) (by decide) (backOf (W := 0) (rm14_1 l Z a0 hw [] ad0 (f24 ro) (0 : Int64) kp sz ls fo fl jz off len wh T5.heap n0 Z_13 E_ad0_at_17 F_kept_ad0_at_17 F_offsets_ad0_at_17 F_lengths_ad0_at_17 F_whole_ad0_at_17 F_size_ad0_at_17 F_lastSpan_ad0_at_17 F_taken_ad0_at_17 F_takenWhole_ad0_at_17 g_ad0 V_off_at_17 V_len_at_17 g_off g_len ne_off_len ne_ad0_off ne_ad0_len hz0 hzn hzl hz6) hZ (own_w hw 101 rfl) (own_w hw 31 rfl) (by decide) (by decide)) (g := (mkF m 17 #[.val (.ref ad0), .val (.ref ad1)] [(.long (0 : Int64)), (.long (f24 ro)), (.ref ad0)])) rfl (by rw [hml]; rfl) (Steps.refl _) (a := ad0) (by rw [e13]; exact qa17) qb17 (argsL := [(.long (f24 ro)), (.long (0 : Int64))]) (rest := []) (lenOf own_pd5 rfl) rfl (by show 2 * 0 + _ ≤ _; exact Nat.le_of_eq rfl) (hb hby d18_17) (fun _ _ => ⟨rfl, e13, (by decide : 0 + 0 ≤ _), (by decide : 0 + 0 ≤ _)⟩)
  dsimp only [Pt.U, Pt.locs, Pt.cells, Pt.slots] at X17 l17 y17 z17 st17 hQ17
  subst l17 y17 z17
  obtain ⟨rfl, N17q, Kp17, P17_0, P17_1, P17_2, P17_3, P17_4, P17_5, P17_6, P17_7, P17_8, P17_9, P17_10⟩ := hQ17
  obtain ⟨lo17, X17, N17⟩ : ∃ lo, Stand p l e _ s m _ below meth c T17 lo _ _ ∧ Fr n0 lo := ⟨_, X17, Fr.app N13 N17q⟩
  refine own_via st17 ?_
  show own_Fin p e below G (T17.setTop (mkF m 20 #[.val (.ref ad0), .val (.ref ad1)] []))
  have KP_20 : Keep h0 T17.heap [ad0, off, len, wh, ed] := (((Keep.refl h0 [ad0, off, len, wh, ed]).trans Kp5 (allS (Or.inl (List.mem_of_getElem? (i := 3) rfl)) (allS (Or.inl (List.mem_of_getElem? (i := 4) rfl)) all0))).trans Kp17 (allS (Or.inl (List.mem_of_getElem? (i := 0) rfl)) (allS (Or.inl (List.mem_of_getElem? (i := 1) rfl)) (allS (Or.inl (List.mem_of_getElem? (i := 2) rfl)) all0))))
  have P5_0_at_20 := (P5_0.keep Kp17)
  have P5_1_at_20 := (P5_1.keep Kp17 (ninS (Ne.symm ne_ad0_wh) (ninS (Ne.symm ne_off_wh) (ninS (Ne.symm ne_len_wh) nin0))))
  have P5_2_at_20 := (P5_2.keep Kp17 (ninS (Ne.symm ne_ad0_wh) (ninS (Ne.symm ne_off_wh) (ninS (Ne.symm ne_len_wh) nin0))))
  have P5_3_at_20 := (P5_3.keep Kp17 (ninS (Ne.symm ne_ad0_wh) (ninS (Ne.symm ne_off_wh) (ninS (Ne.symm ne_len_wh) nin0))))
  have P5_4_at_20 := (P5_4.keep Kp17 (ninS (Ne.symm ne_ad0_ed) (ninS (Ne.symm ne_off_ed) (ninS (Ne.symm ne_len_ed) nin0))))
  exact own_retV X17 hx hlk hG Bd.returns (hb hby d18_20) (by decide) (by decide) ⟨rfl, N17, KP_20, P17_0, P17_1, P17_2, P17_3, P17_4, P17_5, P17_6, P17_7, P17_8, P17_9, P17_10, P5_0_at_20, P5_1_at_20, P5_2_at_20, P5_3_at_20, P5_4_at_20⟩
theorem ef10_11 (m : MethodId) (ad0 : Addr) (p1 : Int32) (p2 : Int32) (ad3 : Addr) (x4 : Int64) (x5 : Int64) : entryFrame m #[(.ref ad0), (.int p1), (.int p2), (.ref ad3), (.long x4), (.long x5)] 8 = mkF m 0 #[.val (.ref ad0), .val (.int p1), .val (.int p2), .val (.ref ad3), .val (.long x4), .second, .val (.long x5), .second] [] := by first | (simp [entryFrame, mkF, argsToLocals, Value.category]; done) | rfl
def Q10_11 (Z : State) (ad0 : Addr) (p1 : Int32) (p2 : Int32) (ad3 : Addr) (x4 : Int64) (x5 : Int64) (kp : Int32) (sz : Int32) (ls : Int32) (fo : Nat → Int64) (fl : Nat → Int64) (jz : Nat) (mc : Int32) (lz : Int32) (fe : Nat → Value) (jl : Nat) (ro : Int64) (off : Addr) (len : Addr) (wh : Addr) (ed : Addr) (h0 : Heap) (n0 : Nat) (v : Option Value) (h : Heap) (L : List Loc) : Prop := v = none ∧ Fr n0 L ∧ Keep h0 h [ad0, off, len, wh, ed] ∧ Exa Z h ad0 own_cE ∧ Fld Z h ad0 own_cE "kept" "I" (.int kp) ∧ Fld Z h ad0 own_cE "offsets" "[J" (.ref off) ∧ Fld Z h ad0 own_cE "lengths" "[J" (.ref len) ∧ Fld Z h ad0 own_cE "whole" "Ljava/util/List;" (.ref wh) ∧ Fld Z h ad0 own_cE "size" "I" (.int (sz + (1 : Int32))) ∧ Fld Z h ad0 own_cE "lastSpan" "I" (.int ls) ∧ Fld Z h ad0 own_cE "taken" "I" (.int (0 : Int32)) ∧ Fld Z h ad0 own_cE "takenWhole" "I" (.int (0 : Int32)) ∧ own_AV Value.long Z h off .long 16 (own_upd fo jz (f24 ro)) ∧ own_AV Value.long Z h len .long 16 (own_upd fl jz (0 : Int64)) ∧ Exa Z h wh own_cL ∧ Fld Z h wh "java/util/AbstractList" "modCount" "I" (.int (mc + (1 : Int32))) ∧ Fld Z h wh own_cL "elementData" own_cA (.ref ed) ∧ Fld Z h wh own_cL "size" "I" (.int (lz + (1 : Int32))) ∧ own_RV Z h ed "java/lang/Object" 10 (own_upd fe jl (.ref ad3))
set_option maxRecDepth 65536 in
set_option maxHeartbeats 40000000 in
theorem rm10_11 (l : Launch) (Z : State) (a0 : Array Value) (hw : ∀ d ∈ tables_1, d.before a0 Z = true) (ws : List Jvm.Cond) (ad0 : Addr) (p1 : Int32) (p2 : Int32) (ad3 : Addr) (x4 : Int64) (x5 : Int64) (kp : Int32) (sz : Int32) (ls : Int32) (fo : Nat → Int64) (fl : Nat → Int64) (jz : Nat) (mc : Int32) (lz : Int32) (fe : Nat → Value) (jl : Nat) (ro : Int64) (off : Addr) (len : Addr) (wh : Addr) (ed : Addr) (h0 : Heap) (n0 : Nat) (Z0 : n0 ≤ h0.size) (E_ad0 : Exa Z h0 ad0 own_cE) (F_kept_ad0 : Fld Z h0 ad0 own_cE "kept" "I" (.int kp)) (F_offsets_ad0 : Fld Z h0 ad0 own_cE "offsets" "[J" (.ref off)) (F_lengths_ad0 : Fld Z h0 ad0 own_cE "lengths" "[J" (.ref len)) (F_whole_ad0 : Fld Z h0 ad0 own_cE "whole" "Ljava/util/List;" (.ref wh)) (F_size_ad0 : Fld Z h0 ad0 own_cE "size" "I" (.int sz)) (F_lastSpan_ad0 : Fld Z h0 ad0 own_cE "lastSpan" "I" (.int ls)) (F_taken_ad0 : Fld Z h0 ad0 own_cE "taken" "I" (.int (0 : Int32))) (F_takenWhole_ad0 : Fld Z h0 ad0 own_cE "takenWhole" "I" (.int (0 : Int32))) (g_ad0 : n0 ≤ ad0) (V_off : own_AV Value.long Z h0 off .long 16 fo) (V_len : own_AV Value.long Z h0 len .long 16 fl) (g_off : n0 ≤ off) (g_len : n0 ≤ len) (ne_off_len : off ≠ len) (ne_ad0_off : ad0 ≠ off) (ne_ad0_len : ad0 ≠ len) (hz0 : ¬ sz < (0 : Int32)) (hzn : sz.toNatClampNeg = jz) (hzl : jz < 16) (hz6 : ¬ sz = (16 : Int32)) (E_wh : Exa Z h0 wh own_cL) (F_modCount_wh : Fld Z h0 wh "java/util/AbstractList" "modCount" "I" (.int mc)) (F_elementData_wh : Fld Z h0 wh own_cL "elementData" own_cA (.ref ed)) (F_size_wh : Fld Z h0 wh own_cL "size" "I" (.int lz)) (g_wh : n0 ≤ wh) (V_ed : own_RV Z h0 ed "java/lang/Object" 10 fe) (g_ed : n0 ≤ ed) (ne_ed_wh : ed ≠ wh) (hl0 : ¬ lz < (0 : Int32)) (hln_ : lz.toNatClampNeg = jl) (hll : jl < 10) (hl6 : ¬ lz = (10 : Int32)) (ne_ad0_wh : ad0 ≠ wh) (ne_off_wh : off ≠ wh) (ne_len_wh : len ≠ wh) (ne_ad0_ed : ad0 ≠ ed) (ne_off_ed : off ≠ ed) (ne_len_ed : len ≠ ed) (E_ad3 : Exa Z h0 ad3 own_cR) (F_offset_ad3 : Fld Z h0 ad3 own_cR "offset" "J" (.long ro)) (ne_ad3_wh : ad3 ≠ wh) (ne_ad3_ed : ad3 ≠ ed) (hs : (f11 p1 p2) = (0 : Int32)) :
    MetFree l own_y10 (head1 (Jvm.Cond.code own_y10 method_4_code 8 none :: ws) ({ frames := 3, cells := 0, slots := 0, locals := 41 } : Room)) (fun a U => a = #[(.ref ad0), (.int p1), (.int p2), (.ref ad3), (.long x4), (.long x5)] ∧ Z.Warmed39 U.vm ∧ U.heap = h0) (fun _ _ _ _ _ => True) (fun _ U o U' => ∃ v L, o = .returned v ∧ Q10_11 Z ad0 p1 p2 ad3 x4 x5 kp sz ls fo fl jz mc lz fe jl ro off len wh ed h0 n0 v U'.heap L ∧ FrameEnd U o U' L ({ frames := 3, cells := 0, slots := 0, locals := 41 } : Room).cells ({ frames := 3, cells := 0, slots := 0, locals := 41 } : Room).slots) := by
  refine MetFree.of_bodySF (plainFor_of_name own_pn0) hisR ?_
  intro p e s m args below meth c s₁ Bd hml0 hP hK
  obtain ⟨rfl, hZ, hh⟩ := hP
  have hx := Bd.exec
  have hby := Bd.bytes
  have hml : c.maxLocals = 8 := hml0
  have hown : s.vm.findClass own_cW = some m.cls := findClass_of_methodNamed Bd.named
  have hnm := (name_of_methodNamed Bd.named Bd.method).1
  have hlk : meth.locks = false := BodyLoose.notSynchronized Bd
  have X0 : Stand p l e ({ frames := 3, cells := 0, slots := 0, locals := 41 } : Room) s m #[(.ref ad0), (.int p1), (.int p2), (.ref ad3), (.long x4), (.long x5)] below meth c s₁ [] 0 0 := Stand.of_body Bd
  have e0 : s₁.heap = h0 := by rw [← hh, Bd.state]; rfl
  have N0 := Fr.nil n0
  obtain ⟨G, hG⟩ : ∃ G, G = own_G s (Q10_11 Z ad0 p1 p2 ad3 x4 x5 kp sz ls fo fl jz mc lz fe jl ro off len wh ed h0 n0) ({ frames := 3, cells := 0, slots := 0, locals := 41 } : Room).cells ({ frames := 3, cells := 0, slots := 0, locals := 41 } : Room).slots := ⟨_, rfl⟩
  show own_Fin p e below (own_G s (Q10_11 Z ad0 p1 p2 ad3 x4 x5 kp sz ls fo fl jz mc lz fe jl ro off len wh ed h0 n0) ({ frames := 3, cells := 0, slots := 0, locals := 41 } : Room).cells ({ frames := 3, cells := 0, slots := 0, locals := 41 } : Room).slots) (s₁.setTop (entryFrame m #[(.ref ad0), (.int p1), (.int p2), (.ref ad3), (.long x4), (.long x5)] 8))
  rw [← hG]
  refine own_to (fun _ kz => castTop (ef10_11 m ad0 p1 p2 ad3 x4 x5) kz) ?_
  show own_Fin p e below G (s₁.setTop (mkF m 0 #[.val (.ref ad0), .val (.int p1), .val (.int p2), .val (.ref ad3), .val (.long x4), .second, .val (.long x5), .second] []))
  refine own_iloadN X0 hx (hb hby d10_0) rfl ?_
  refine own_iloadN X0 hx (hb hby d10_1) rfl ?_
  obtain ⟨_, _, ⟨T2, L2, k2, n2⟩, -, X2, ⟨Lc2, hQ2, l2, y2, z2⟩, st2⟩ := Jvm.LawKit.callS X0 hx (y := own_y11) hown (mvT hZ (own_w hw 84 rfl)) (mvT hZ (own_w hw 85 rfl)) (mvT hZ (own_w hw 82 rfl)) (mvT hZ (own_w hw 86 rfl)) (by decide) (backOf (W := 0) (rm11 l Z a0 hw [] p1 p2 h0 n0 Z0) hZ (own_w hw 86 rfl) (own_w hw 82 rfl) (by decide) (by decide)) (g := (mkF m 2 #[.val (.ref ad0), .val (.int p1), .val (.int p2), .val (.ref ad3), .val (.long x4), .second, .val (.long x5), .second] [(.int p2), (.int p1)])) rfl (by rw [hml]; rfl) (argsL := [(.int p1), (.int p2)]) (rest := []) (lenOf own_pd11 rfl) rfl (by show 2 * 0 + _ ≤ _; exact Nat.le_of_eq rfl) (hb hby d10_2) (fun _ _ => ⟨rfl, e0, (by decide : 0 + 0 ≤ _), (by decide : 0 + 0 ≤ _)⟩)
  dsimp only [Pt.U, Pt.locs, Pt.cells, Pt.slots] at X2 l2 y2 z2 st2 hQ2
  subst l2 y2 z2
  obtain ⟨rfl, N2q, e2⟩ := hQ2
  obtain ⟨lo2, X2, N2⟩ : ∃ lo, Stand p l e _ s m _ below meth c T2 lo _ _ ∧ Fr n0 lo := ⟨_, X2, Fr.app N0 N2q⟩
  refine own_to st2 ?_
  show own_Fin p e below G (T2.setTop (mkF m 5 #[.val (.ref ad0), .val (.int p1), .val (.int p2), .val (.ref ad3), .val (.long x4), .second, .val (.long x5), .second] [(.int (f11 p1 p2))]))
  have hc5 : (f11 p1 p2) = (0 : Int32) := hs
  refine own_to (fun _ kz => XS.ifYes X2.here hx rfl (pc0 := 5) (pc' := 23) rfl (hb hby d10_5) rfl ((if0 _ _).trans (teq hc5).1) (by decide) (by decide) kz) ?_
  show own_Fin p e below G (T2.setTop (mkF m 23 #[.val (.ref ad0), .val (.int p1), .val (.int p2), .val (.ref ad3), .val (.long x4), .second, .val (.long x5), .second] []))
  refine own_aloadN X2 hx (hb hby d10_23) rfl (rfl) ?_
  refine own_aloadN X2 hx (hb hby d10_24) rfl (rfl) ?_
  obtain ⟨cq25, kq25, qa25, qb25, qc25⟩ := isOf hZ e2 E_ad0
  obtain ⟨_, _, ⟨T25, L25, k25, n25⟩, -, X25, ⟨Lc25, hQ25, l25, y25, z25⟩, st25⟩ := X2.virtualBack hx (y := own_y18) (z := own_y18) hown (mvT hZ (own_w hw 122 rfl)) (mvT hZ (own_w hw 123 rfl)) (notFace_of_selects (args := #[]) (mvT hZ (own_w hw 125 rfl))) (mvT hZ (own_w hw 125 rfl)) (mvT hZ (own_w hw 124 rfl)) (by decide) (backOf (W := 0) (rm18_11 l Z a0 hw [] ad0 ad3 kp sz ls fo fl jz mc lz fe jl ro off len wh ed h0 n0 Z0 E_ad0 F_kept_ad0 F_offsets_ad0 F_lengths_ad0 F_whole_ad0 F_size_ad0 F_lastSpan_ad0 F_taken_ad0 F_takenWhole_ad0 g_ad0 V_off V_len g_off g_len ne_off_len ne_ad0_off ne_ad0_len hz0 hzn hzl hz6 E_wh F_modCount_wh F_elementData_wh F_size_wh g_wh V_ed g_ed ne_ed_wh hl0 hln_ hll hl6 ne_ad0_wh ne_off_wh ne_len_wh ne_ad0_ed ne_off_ed ne_len_ed E_ad3 F_offset_ad3 ne_ad3_wh ne_ad3_ed) hZ (own_w hw 126 rfl) (own_w hw 31 rfl) (by decide) (by decide)) qa25 qc25 (g := (mkF m 25 #[.val (.ref ad0), .val (.int p1), .val (.int p2), .val (.ref ad3), .val (.long x4), .second, .val (.long x5), .second] [(.ref ad3), (.ref ad0)])) rfl (by rw [hml]; rfl) (Steps.refl _) (argsL := [(.ref ad3)]) (rest := []) (lenOf own_pd12 rfl) rfl (by show 2 * 0 + _ ≤ _; exact Nat.le_of_eq rfl) (hb hby d10_25) (fun _ _ => ⟨rfl, e2, (by decide : 0 + 0 ≤ _), (by decide : 0 + 0 ≤ _)⟩)
  dsimp only [Pt.U, Pt.locs, Pt.cells, Pt.slots] at X25 l25 y25 z25 st25 hQ25
  subst l25 y25 z25
  obtain ⟨rfl, N25q, Kp25, P25_0, P25_1, P25_2, P25_3, P25_4, P25_5, P25_6, P25_7, P25_8, P25_9, P25_10, P25_11, P25_12, P25_13, P25_14, P25_15⟩ := hQ25
  obtain ⟨lo25, X25, N25⟩ : ∃ lo, Stand p l e _ s m _ below meth c T25 lo _ _ ∧ Fr n0 lo := ⟨_, X25, Fr.app N2 N25q⟩
  refine own_via st25 ?_
  show own_Fin p e below G (T25.setTop (mkF m 28 #[.val (.ref ad0), .val (.int p1), .val (.int p2), .val (.ref ad3), .val (.long x4), .second, .val (.long x5), .second] []))
  have KP_28 : Keep h0 T25.heap [ad0, off, len, wh, ed] := ((Keep.refl h0 [ad0, off, len, wh, ed]).trans Kp25 (allS (Or.inl (List.mem_of_getElem? (i := 0) rfl)) (allS (Or.inl (List.mem_of_getElem? (i := 1) rfl)) (allS (Or.inl (List.mem_of_getElem? (i := 2) rfl)) (allS (Or.inl (List.mem_of_getElem? (i := 3) rfl)) (allS (Or.inl (List.mem_of_getElem? (i := 4) rfl)) all0))))))
  exact own_retV X25 hx hlk hG Bd.returns (hb hby d10_28) (by decide) (by decide) ⟨rfl, N25, KP_28, P25_0, P25_1, P25_2, P25_3, P25_4, P25_5, P25_6, P25_7, P25_8, P25_9, P25_10, P25_11, P25_12, P25_13, P25_14, P25_15⟩
theorem ef10_1 (m : MethodId) (ad0 : Addr) (p1 : Int32) (p2 : Int32) (ad3 : Addr) (x4 : Int64) (x5 : Int64) : entryFrame m #[(.ref ad0), (.int p1), (.int p2), (.ref ad3), (.long x4), (.long x5)] 8 = mkF m 0 #[.val (.ref ad0), .val (.int p1), .val (.int p2), .val (.ref ad3), .val (.long x4), .second, .val (.long x5), .second] [] := by first | (simp [entryFrame, mkF, argsToLocals, Value.category]; done) | rfl
def Q10_1 (Z : State) (ad0 : Addr) (p1 : Int32) (p2 : Int32) (ad3 : Addr) (x4 : Int64) (x5 : Int64) (kp : Int32) (sz : Int32) (ls : Int32) (fo : Nat → Int64) (fl : Nat → Int64) (jz : Nat) (off : Addr) (len : Addr) (wh : Addr) (h0 : Heap) (n0 : Nat) (v : Option Value) (h : Heap) (L : List Loc) : Prop := v = none ∧ Fr n0 L ∧ Keep h0 h [ad0, off, len] ∧ Exa Z h ad0 own_cE ∧ Fld Z h ad0 own_cE "kept" "I" (.int kp) ∧ Fld Z h ad0 own_cE "offsets" "[J" (.ref off) ∧ Fld Z h ad0 own_cE "lengths" "[J" (.ref len) ∧ Fld Z h ad0 own_cE "whole" "Ljava/util/List;" (.ref wh) ∧ Fld Z h ad0 own_cE "size" "I" (.int (sz + (1 : Int32))) ∧ Fld Z h ad0 own_cE "lastSpan" "I" (.int sz) ∧ Fld Z h ad0 own_cE "taken" "I" (.int (0 : Int32)) ∧ Fld Z h ad0 own_cE "takenWhole" "I" (.int (0 : Int32)) ∧ own_AV Value.long Z h off .long 16 (own_upd fo jz (f12 x4 p2)) ∧ own_AV Value.long Z h len .long 16 (own_upd fl jz (-x5))
set_option maxRecDepth 65536 in
set_option maxHeartbeats 40000000 in
theorem rm10_1 (l : Launch) (Z : State) (a0 : Array Value) (hw : ∀ d ∈ tables_1, d.before a0 Z = true) (ws : List Jvm.Cond) (ad0 : Addr) (p1 : Int32) (p2 : Int32) (ad3 : Addr) (x4 : Int64) (x5 : Int64) (kp : Int32) (sz : Int32) (ls : Int32) (fo : Nat → Int64) (fl : Nat → Int64) (jz : Nat) (off : Addr) (len : Addr) (wh : Addr) (h0 : Heap) (n0 : Nat) (Z0 : n0 ≤ h0.size) (E_ad0 : Exa Z h0 ad0 own_cE) (F_kept_ad0 : Fld Z h0 ad0 own_cE "kept" "I" (.int kp)) (F_offsets_ad0 : Fld Z h0 ad0 own_cE "offsets" "[J" (.ref off)) (F_lengths_ad0 : Fld Z h0 ad0 own_cE "lengths" "[J" (.ref len)) (F_whole_ad0 : Fld Z h0 ad0 own_cE "whole" "Ljava/util/List;" (.ref wh)) (F_size_ad0 : Fld Z h0 ad0 own_cE "size" "I" (.int sz)) (F_lastSpan_ad0 : Fld Z h0 ad0 own_cE "lastSpan" "I" (.int ls)) (F_taken_ad0 : Fld Z h0 ad0 own_cE "taken" "I" (.int (0 : Int32))) (F_takenWhole_ad0 : Fld Z h0 ad0 own_cE "takenWhole" "I" (.int (0 : Int32))) (g_ad0 : n0 ≤ ad0) (V_off : own_AV Value.long Z h0 off .long 16 fo) (V_len : own_AV Value.long Z h0 len .long 16 fl) (g_off : n0 ≤ off) (g_len : n0 ≤ len) (ne_off_len : off ≠ len) (ne_ad0_off : ad0 ≠ off) (ne_ad0_len : ad0 ≠ len) (hz0 : ¬ sz < (0 : Int32)) (hzn : sz.toNatClampNeg = jz) (hzl : jz < 16) (hz6 : ¬ sz = (16 : Int32)) (hs : ¬ (f11 p1 p2) = (0 : Int32)) :
    MetFree l own_y10 (head1 (Jvm.Cond.code own_y10 method_4_code 8 none :: ws) ({ frames := 2, cells := 0, slots := 0, locals := 33 } : Room)) (fun a U => a = #[(.ref ad0), (.int p1), (.int p2), (.ref ad3), (.long x4), (.long x5)] ∧ Z.Warmed39 U.vm ∧ U.heap = h0) (fun _ _ _ _ _ => True) (fun _ U o U' => ∃ v L, o = .returned v ∧ Q10_1 Z ad0 p1 p2 ad3 x4 x5 kp sz ls fo fl jz off len wh h0 n0 v U'.heap L ∧ FrameEnd U o U' L ({ frames := 2, cells := 0, slots := 0, locals := 33 } : Room).cells ({ frames := 2, cells := 0, slots := 0, locals := 33 } : Room).slots) := by
  refine MetFree.of_bodySF (plainFor_of_name own_pn0) hisR ?_
  intro p e s m args below meth c s₁ Bd hml0 hP hK
  obtain ⟨rfl, hZ, hh⟩ := hP
  have hx := Bd.exec
  have hby := Bd.bytes
  have hml : c.maxLocals = 8 := hml0
  have hown : s.vm.findClass own_cW = some m.cls := findClass_of_methodNamed Bd.named
  have hnm := (name_of_methodNamed Bd.named Bd.method).1
  have hlk : meth.locks = false := BodyLoose.notSynchronized Bd
  have X0 : Stand p l e ({ frames := 2, cells := 0, slots := 0, locals := 33 } : Room) s m #[(.ref ad0), (.int p1), (.int p2), (.ref ad3), (.long x4), (.long x5)] below meth c s₁ [] 0 0 := Stand.of_body Bd
  have e0 : s₁.heap = h0 := by rw [← hh, Bd.state]; rfl
  have N0 := Fr.nil n0
  obtain ⟨G, hG⟩ : ∃ G, G = own_G s (Q10_1 Z ad0 p1 p2 ad3 x4 x5 kp sz ls fo fl jz off len wh h0 n0) ({ frames := 2, cells := 0, slots := 0, locals := 33 } : Room).cells ({ frames := 2, cells := 0, slots := 0, locals := 33 } : Room).slots := ⟨_, rfl⟩
  show own_Fin p e below (own_G s (Q10_1 Z ad0 p1 p2 ad3 x4 x5 kp sz ls fo fl jz off len wh h0 n0) ({ frames := 2, cells := 0, slots := 0, locals := 33 } : Room).cells ({ frames := 2, cells := 0, slots := 0, locals := 33 } : Room).slots) (s₁.setTop (entryFrame m #[(.ref ad0), (.int p1), (.int p2), (.ref ad3), (.long x4), (.long x5)] 8))
  rw [← hG]
  refine own_to (fun _ kz => castTop (ef10_1 m ad0 p1 p2 ad3 x4 x5) kz) ?_
  show own_Fin p e below G (s₁.setTop (mkF m 0 #[.val (.ref ad0), .val (.int p1), .val (.int p2), .val (.ref ad3), .val (.long x4), .second, .val (.long x5), .second] []))
  refine own_iloadN X0 hx (hb hby d10_0) rfl ?_
  refine own_iloadN X0 hx (hb hby d10_1) rfl ?_
  obtain ⟨_, _, ⟨T2, L2, k2, n2⟩, -, X2, ⟨Lc2, hQ2, l2, y2, z2⟩, st2⟩ := Jvm.LawKit.callS X0 hx (y := own_y11) hown (mvT hZ (own_w hw 84 rfl)) (mvT hZ (own_w hw 85 rfl)) (mvT hZ (own_w hw 82 rfl)) (mvT hZ (own_w hw 86 rfl)) (by decide) (backOf (W := 0) (rm11 l Z a0 hw [] p1 p2 h0 n0 Z0) hZ (own_w hw 86 rfl) (own_w hw 82 rfl) (by decide) (by decide)) (g := (mkF m 2 #[.val (.ref ad0), .val (.int p1), .val (.int p2), .val (.ref ad3), .val (.long x4), .second, .val (.long x5), .second] [(.int p2), (.int p1)])) rfl (by rw [hml]; rfl) (argsL := [(.int p1), (.int p2)]) (rest := []) (lenOf own_pd11 rfl) rfl (by show 2 * 0 + _ ≤ _; exact Nat.le_of_eq rfl) (hb hby d10_2) (fun _ _ => ⟨rfl, e0, (by decide : 0 + 0 ≤ _), (by decide : 0 + 0 ≤ _)⟩)
  dsimp only [Pt.U, Pt.locs, Pt.cells, Pt.slots] at X2 l2 y2 z2 st2 hQ2
  subst l2 y2 z2
  obtain ⟨rfl, N2q, e2⟩ := hQ2
  obtain ⟨lo2, X2, N2⟩ : ∃ lo, Stand p l e _ s m _ below meth c T2 lo _ _ ∧ Fr n0 lo := ⟨_, X2, Fr.app N0 N2q⟩
  refine own_to st2 ?_
  show own_Fin p e below G (T2.setTop (mkF m 5 #[.val (.ref ad0), .val (.int p1), .val (.int p2), .val (.ref ad3), .val (.long x4), .second, .val (.long x5), .second] [(.int (f11 p1 p2))]))
  have hc5 : ¬ ((f11 p1 p2) = (0 : Int32)) := hs
  refine own_to (fun _ kz => XS.ifNo X2.here hx rfl (hb hby d10_5) rfl ((if0 _ _).trans (feq hc5).1) kz) ?_
  show own_Fin p e below G (T2.setTop (mkF m 8 #[.val (.ref ad0), .val (.int p1), .val (.int p2), .val (.ref ad3), .val (.long x4), .second, .val (.long x5), .second] []))
  refine own_aloadN X2 hx (hb hby d10_8) rfl (rfl) ?_
  refine own_lload X2 hx (hb hby d10_9) rfl ?_
  refine own_iloadN X2 hx (hb hby d10_11) rfl ?_
  obtain ⟨_, _, ⟨T12, L12, k12, n12⟩, -, X12, ⟨Lc12, hQ12, l12, y12, z12⟩, st12⟩ := Jvm.LawKit.callS X2 hx (y := own_y12) hown (mvT hZ (own_w hw 87 rfl)) (mvT hZ (own_w hw 88 rfl)) (mvT hZ (own_w hw 82 rfl)) (mvT hZ (own_w hw 89 rfl)) (by decide) (backOf (W := 1) (rm12 l Z a0 hw [] x4 p2 h0 n0 Z0) hZ (own_w hw 89 rfl) (own_w hw 82 rfl) (by decide) (by decide)) (g := (mkF m 12 #[.val (.ref ad0), .val (.int p1), .val (.int p2), .val (.ref ad3), .val (.long x4), .second, .val (.long x5), .second] [(.int p2), (.long x4), (.ref ad0)])) rfl (by rw [hml]; rfl) (argsL := [(.long x4), (.int p2)]) (rest := [(.ref ad0)]) (lenOf own_pd13 rfl) rfl (by show 2 * 0 + _ ≤ _; exact Nat.le_of_eq rfl) (hb hby d10_12) (fun _ _ => ⟨rfl, e2, (by decide : 0 + 0 ≤ _), (by decide : 0 + 0 ≤ _)⟩)
  dsimp only [Pt.U, Pt.locs, Pt.cells, Pt.slots] at X12 l12 y12 z12 st12 hQ12
  subst l12 y12 z12
  obtain ⟨rfl, N12q, e12⟩ := hQ12
  obtain ⟨lo12, X12, N12⟩ : ∃ lo, Stand p l e _ s m _ below meth c T12 lo _ _ ∧ Fr n0 lo := ⟨_, X12, Fr.app N2 N12q⟩
  refine own_to st12 ?_
  show own_Fin p e below G (T12.setTop (mkF m 15 #[.val (.ref ad0), .val (.int p1), .val (.int p2), .val (.ref ad3), .val (.long x4), .second, .val (.long x5), .second] [(.long (f12 x4 p2)), (.ref ad0)]))
  refine own_lload X12 hx (hb hby d10_15) rfl ?_
  obtain ⟨cq17, kq17, qa17, qb17, qc17⟩ := isOf hZ e12 E_ad0
  obtain ⟨_, _, ⟨T17, L17, k17, n17⟩, -, X17, ⟨Lc17, hQ17, l17, y17, z17⟩, st17⟩ := X12.virtualBack hx (y := own_y13) (z := own_y13) hown (mvT hZ (own_w hw 91 rfl)) (mvT hZ (own_w hw 92 rfl)) (notFace_of_selects (args := #[]) (mvT hZ (own_w hw 94 rfl))) (mvT hZ (own_w hw 94 rfl)) (mvT hZ (own_w hw 93 rfl)) (by decide) (backOf (W := 0) (rm13_1 l Z a0 hw [] ad0 (f12 x4 p2) x5 kp sz ls fo fl jz off len wh h0 n0 Z0 E_ad0 F_kept_ad0 F_offsets_ad0 F_lengths_ad0 F_whole_ad0 F_size_ad0 F_lastSpan_ad0 F_taken_ad0 F_takenWhole_ad0 g_ad0 V_off V_len g_off g_len ne_off_len ne_ad0_off ne_ad0_len hz0 hzn hzl hz6) hZ (own_w hw 95 rfl) (own_w hw 31 rfl) (by decide) (by decide)) qa17 qc17 (g := (mkF m 17 #[.val (.ref ad0), .val (.int p1), .val (.int p2), .val (.ref ad3), .val (.long x4), .second, .val (.long x5), .second] [(.long x5), (.long (f12 x4 p2)), (.ref ad0)])) rfl (by rw [hml]; rfl) (Steps.refl _) (argsL := [(.long (f12 x4 p2)), (.long x5)]) (rest := []) (lenOf own_pd5 rfl) rfl (by show 2 * 0 + _ ≤ _; exact Nat.le_of_eq rfl) (hb hby d10_17) (fun _ _ => ⟨rfl, e12, (by decide : 0 + 0 ≤ _), (by decide : 0 + 0 ≤ _)⟩)
  dsimp only [Pt.U, Pt.locs, Pt.cells, Pt.slots] at X17 l17 y17 z17 st17 hQ17
  subst l17 y17 z17
  obtain ⟨rfl, N17q, Kp17, P17_0, P17_1, P17_2, P17_3, P17_4, P17_5, P17_6, P17_7, P17_8, P17_9, P17_10⟩ := hQ17
  obtain ⟨lo17, X17, N17⟩ : ∃ lo, Stand p l e _ s m _ below meth c T17 lo _ _ ∧ Fr n0 lo := ⟨_, X17, Fr.app N12 N17q⟩
  refine own_via st17 ?_
  show own_Fin p e below G (T17.setTop (mkF m 20 #[.val (.ref ad0), .val (.int p1), .val (.int p2), .val (.ref ad3), .val (.long x4), .second, .val (.long x5), .second] []))
  refine own_to (fun _ kz => XS.goto X17.here hx rfl (pc0 := 20) (pc' := 28) rfl (hb hby d10_20) (by decide) (by decide) kz) ?_
  show own_Fin p e below G (T17.setTop (mkF m 28 #[.val (.ref ad0), .val (.int p1), .val (.int p2), .val (.ref ad3), .val (.long x4), .second, .val (.long x5), .second] []))
  have KP_28 : Keep h0 T17.heap [ad0, off, len] := ((Keep.refl h0 [ad0, off, len]).trans Kp17 (allS (Or.inl (List.mem_of_getElem? (i := 0) rfl)) (allS (Or.inl (List.mem_of_getElem? (i := 1) rfl)) (allS (Or.inl (List.mem_of_getElem? (i := 2) rfl)) all0))))
  exact own_retV X17 hx hlk hG Bd.returns (hb hby d10_28) (by decide) (by decide) ⟨rfl, N17, KP_28, P17_0, P17_1, P17_2, P17_3, P17_4, P17_5, P17_6, P17_7, P17_8, P17_9, P17_10⟩
theorem own_pn8 : plainName "jdk/internal/util/Preconditions" = true := by first | (simp [plainName, overriddenIn]; done) | decide +kernel
theorem d33_0 : decode jdk_41_method_11_code 0 = .ok (.iload_n 0, 1) := by decide +kernel
theorem d33_1 : decode jdk_41_method_11_code 1 = .ok (.ifCond .lt 8, 3) := by decide +kernel
theorem d33_4 : decode jdk_41_method_11_code 4 = .ok (.iload_n 0, 1) := by decide +kernel
theorem d33_5 : decode jdk_41_method_11_code 5 = .ok (.iload_n 1, 1) := by decide +kernel
theorem d33_6 : decode jdk_41_method_11_code 6 = .ok (.if_icmp .lt 10, 3) := by decide +kernel
theorem d33_16 : decode jdk_41_method_11_code 16 = .ok (.iload_n 0, 1) := by decide +kernel
theorem d33_17 : decode jdk_41_method_11_code 17 = .ok (.ireturn, 1) := by decide +kernel
theorem ef33 (m : MethodId) (p0 : Int32) (p1 : Int32) : entryFrame m #[(.int p0), (.int p1), .null] 3 = mkF m 0 #[.val (.int p0), .val (.int p1), .val .null] [] := by first | (simp [entryFrame, mkF, argsToLocals, Value.category]; done) | rfl
def Q33 (Z : State) (p0 : Int32) (p1 : Int32) (h0 : Heap) (n0 : Nat) (v : Option Value) (h : Heap) (L : List Loc) : Prop := v = some (.int p0) ∧ Fr n0 L ∧ h = h0
set_option maxRecDepth 65536 in
set_option maxHeartbeats 40000000 in
theorem rm33 (l : Launch) (Z : State) (a0 : Array Value) (hw : ∀ d ∈ tables_1, d.before a0 Z = true) (ws : List Jvm.Cond) (p0 : Int32) (p1 : Int32) (h0 : Heap) (n0 : Nat) (Z0 : n0 ≤ h0.size) (hlo : ¬ p0 < (0 : Int32)) (hup : p0 < p1) :
    MetFree l own_y33 (head1 (Jvm.Cond.code own_y33 jdk_41_method_11_code 3 (some .int) :: ws) ({ frames := 0, cells := 0, slots := 0, locals := 0 } : Room)) (fun a U => a = #[(.int p0), (.int p1), .null] ∧ Z.Warmed39 U.vm ∧ U.heap = h0) (fun _ _ _ _ _ => True) (fun _ U o U' => ∃ v L, o = .returned v ∧ Q33 Z p0 p1 h0 n0 v U'.heap L ∧ FrameEnd U o U' L ({ frames := 0, cells := 0, slots := 0, locals := 0 } : Room).cells ({ frames := 0, cells := 0, slots := 0, locals := 0 } : Room).slots) := by
  refine MetFree.of_bodySF (plainFor_of_name own_pn8) hisR ?_
  intro p e s m args below meth c s₁ Bd hml0 hP hK
  obtain ⟨rfl, hZ, hh⟩ := hP
  have hx := Bd.exec
  have hby := Bd.bytes
  have hml : c.maxLocals = 3 := hml0
  have hown : s.vm.findClass "jdk/internal/util/Preconditions" = some m.cls := findClass_of_methodNamed Bd.named
  have hnm := (name_of_methodNamed Bd.named Bd.method).1
  have hlk : meth.locks = false := BodyLoose.notSynchronized Bd
  have X0 : Stand p l e ({ frames := 0, cells := 0, slots := 0, locals := 0 } : Room) s m #[(.int p0), (.int p1), .null] below meth c s₁ [] 0 0 := Stand.of_body Bd
  have e0 : s₁.heap = h0 := by rw [← hh, Bd.state]; rfl
  have N0 := Fr.nil n0
  obtain ⟨G, hG⟩ : ∃ G, G = own_G s (Q33 Z p0 p1 h0 n0) ({ frames := 0, cells := 0, slots := 0, locals := 0 } : Room).cells ({ frames := 0, cells := 0, slots := 0, locals := 0 } : Room).slots := ⟨_, rfl⟩
  show own_Fin p e below (own_G s (Q33 Z p0 p1 h0 n0) ({ frames := 0, cells := 0, slots := 0, locals := 0 } : Room).cells ({ frames := 0, cells := 0, slots := 0, locals := 0 } : Room).slots) (s₁.setTop (entryFrame m #[(.int p0), (.int p1), .null] 3))
  rw [← hG]
  refine own_to (fun _ kz => castTop (ef33 m p0 p1) kz) ?_
  show own_Fin p e below G (s₁.setTop (mkF m 0 #[.val (.int p0), .val (.int p1), .val .null] []))
  refine own_iloadN X0 hx (hb hby d33_0) rfl ?_
  have hc1 : ¬ (p0 < (0 : Int32)) := hlo
  refine own_to (fun _ kz => XS.ifNo X0.here hx rfl (hb hby d33_1) rfl ((if0 _ _).trans (flt hc1).1) kz) ?_
  show own_Fin p e below G (s₁.setTop (mkF m 4 #[.val (.int p0), .val (.int p1), .val .null] []))
  refine own_iloadN X0 hx (hb hby d33_4) rfl ?_
  refine own_iloadN X0 hx (hb hby d33_5) rfl ?_
  have hc6 : p0 < p1 := hup
  refine own_to (fun _ kz => XS.icmpYes X0.here hx rfl (pc0 := 6) (pc' := 16) rfl (hb hby d33_6) rfl (tlt hc6).1 (by decide) (by decide) kz) ?_
  show own_Fin p e below G (s₁.setTop (mkF m 16 #[.val (.int p0), .val (.int p1), .val .null] []))
  refine own_iloadN X0 hx (hb hby d33_16) rfl ?_
  exact own_retI X0 hx hlk hG Bd.returns (hb hby d33_17) (by decide) (by decide) ⟨rfl, N0, e0⟩
theorem own_pd14 : parseMethodDescriptor "(IILjava/util/function/BiFunction;)I" = some ⟨[.int, .int, (.object "java/util/function/BiFunction")], some .int⟩ := by decide +kernel
theorem own_pn9 : plainName "java/util/Objects" = true := by first | (simp [plainName, overriddenIn]; done) | decide +kernel
theorem d32_0 : decode jdk_31_method_17_code 0 = .ok (.iload_n 0, 1) := by decide +kernel
theorem d32_1 : decode jdk_31_method_17_code 1 = .ok (.iload_n 1, 1) := by decide +kernel
theorem d32_2 : decode jdk_31_method_17_code 2 = .ok (.aconst_null, 1) := by decide +kernel
theorem d32_3 : decode jdk_31_method_17_code 3 = .ok (.invokestatic 105, 3) := by decide +kernel
theorem d32_6 : decode jdk_31_method_17_code 6 = .ok (.ireturn, 1) := by decide +kernel
theorem ef32 (m : MethodId) (p0 : Int32) (p1 : Int32) : entryFrame m #[(.int p0), (.int p1)] 2 = mkF m 0 #[.val (.int p0), .val (.int p1)] [] := by first | (simp [entryFrame, mkF, argsToLocals, Value.category]; done) | rfl
def Q32 (Z : State) (p0 : Int32) (p1 : Int32) (h0 : Heap) (n0 : Nat) (v : Option Value) (h : Heap) (L : List Loc) : Prop := v = some (.int p0) ∧ Fr n0 L ∧ h = h0
set_option maxRecDepth 65536 in
set_option maxHeartbeats 40000000 in
theorem rm32 (l : Launch) (Z : State) (a0 : Array Value) (hw : ∀ d ∈ tables_1, d.before a0 Z = true) (ws : List Jvm.Cond) (p0 : Int32) (p1 : Int32) (h0 : Heap) (n0 : Nat) (Z0 : n0 ≤ h0.size) (hlo : ¬ p0 < (0 : Int32)) (hup : p0 < p1) :
    MetFree l own_y32 (head1 (Jvm.Cond.code own_y32 jdk_31_method_17_code 2 (some .int) :: ws) ({ frames := 1, cells := 0, slots := 0, locals := 14 } : Room)) (fun a U => a = #[(.int p0), (.int p1)] ∧ Z.Warmed39 U.vm ∧ U.heap = h0) (fun _ _ _ _ _ => True) (fun _ U o U' => ∃ v L, o = .returned v ∧ Q32 Z p0 p1 h0 n0 v U'.heap L ∧ FrameEnd U o U' L ({ frames := 1, cells := 0, slots := 0, locals := 14 } : Room).cells ({ frames := 1, cells := 0, slots := 0, locals := 14 } : Room).slots) := by
  refine MetFree.of_bodySF (plainFor_of_name own_pn9) hisR ?_
  intro p e s m args below meth c s₁ Bd hml0 hP hK
  obtain ⟨rfl, hZ, hh⟩ := hP
  have hx := Bd.exec
  have hby := Bd.bytes
  have hml : c.maxLocals = 2 := hml0
  have hown : s.vm.findClass "java/util/Objects" = some m.cls := findClass_of_methodNamed Bd.named
  have hnm := (name_of_methodNamed Bd.named Bd.method).1
  have hlk : meth.locks = false := BodyLoose.notSynchronized Bd
  have X0 : Stand p l e ({ frames := 1, cells := 0, slots := 0, locals := 14 } : Room) s m #[(.int p0), (.int p1)] below meth c s₁ [] 0 0 := Stand.of_body Bd
  have e0 : s₁.heap = h0 := by rw [← hh, Bd.state]; rfl
  have N0 := Fr.nil n0
  obtain ⟨G, hG⟩ : ∃ G, G = own_G s (Q32 Z p0 p1 h0 n0) ({ frames := 1, cells := 0, slots := 0, locals := 14 } : Room).cells ({ frames := 1, cells := 0, slots := 0, locals := 14 } : Room).slots := ⟨_, rfl⟩
  show own_Fin p e below (own_G s (Q32 Z p0 p1 h0 n0) ({ frames := 1, cells := 0, slots := 0, locals := 14 } : Room).cells ({ frames := 1, cells := 0, slots := 0, locals := 14 } : Room).slots) (s₁.setTop (entryFrame m #[(.int p0), (.int p1)] 2))
  rw [← hG]
  refine own_to (fun _ kz => castTop (ef32 m p0 p1) kz) ?_
  show own_Fin p e below G (s₁.setTop (mkF m 0 #[.val (.int p0), .val (.int p1)] []))
  refine own_iloadN X0 hx (hb hby d32_0) rfl ?_
  refine own_iloadN X0 hx (hb hby d32_1) rfl ?_
  refine own_to (fun _ kz => XS.aconstNull X0.here hx rfl (hb hby d32_2) kz) ?_
  show own_Fin p e below G (s₁.setTop (mkF m 3 #[.val (.int p0), .val (.int p1)] [.null, (.int p1), (.int p0)]))
  obtain ⟨_, _, ⟨T3, L3, k3, n3⟩, -, X3, ⟨Lc3, hQ3, l3, y3, z3⟩, st3⟩ := Jvm.LawKit.callS X0 hx (y := own_y33) hown (mvT hZ (own_w hw 218 rfl)) (mvT hZ (own_w hw 219 rfl)) (mvT hZ (own_w hw 220 rfl)) (mvT hZ (own_w hw 221 rfl)) (by decide) (backOf (W := 0) (rm33 l Z a0 hw [] p0 p1 h0 n0 Z0 hlo hup) hZ (own_w hw 221 rfl) (own_w hw 220 rfl) (by decide) (by decide)) (g := (mkF m 3 #[.val (.int p0), .val (.int p1)] [.null, (.int p1), (.int p0)])) rfl (by rw [hml]; rfl) (argsL := [(.int p0), (.int p1), .null]) (rest := []) (lenOf own_pd14 rfl) rfl (by show 2 * 0 + _ ≤ _; exact Nat.le_of_eq rfl) (hb hby d32_3) (fun _ _ => ⟨rfl, e0, (by decide : 0 + 0 ≤ _), (by decide : 0 + 0 ≤ _)⟩)
  dsimp only [Pt.U, Pt.locs, Pt.cells, Pt.slots] at X3 l3 y3 z3 st3 hQ3
  subst l3 y3 z3
  obtain ⟨rfl, N3q, e3⟩ := hQ3
  obtain ⟨lo3, X3, N3⟩ : ∃ lo, Stand p l e _ s m _ below meth c T3 lo _ _ ∧ Fr n0 lo := ⟨_, X3, Fr.app N0 N3q⟩
  refine own_to st3 ?_
  show own_Fin p e below G (T3.setTop (mkF m 6 #[.val (.int p0), .val (.int p1)] [(.int p0)]))
  exact own_retI X3 hx hlk hG Bd.returns (hb hby d32_6) (by decide) (by decide) ⟨rfl, N3, e3⟩
theorem d34_0 : decode jdk_38_method_18_code 0 = .ok (.aload_n 0, 1) := by decide +kernel
theorem d34_1 : decode jdk_38_method_18_code 1 = .ok (.getfield 9, 3) := by decide +kernel
theorem d34_4 : decode jdk_38_method_18_code 4 = .ok (.iload_n 1, 1) := by decide +kernel
theorem d34_5 : decode jdk_38_method_18_code 5 = .ok (.aaload, 1) := by decide +kernel
theorem d34_6 : decode jdk_38_method_18_code 6 = .ok (.areturn, 1) := by decide +kernel
theorem ef34 (m : MethodId) (ad0 : Addr) (p1 : Int32) : entryFrame m #[(.ref ad0), (.int p1)] 2 = mkF m 0 #[.val (.ref ad0), .val (.int p1)] [] := by first | (simp [entryFrame, mkF, argsToLocals, Value.category]; done) | rfl
def Q34 (Z : State) (ad0 : Addr) (p1 : Int32) (jn : Nat) (nn_ : Nat) (fe : Nat → Value) (rt : Addr) (ed : Addr) (h0 : Heap) (n0 : Nat) (v : Option Value) (h : Heap) (L : List Loc) : Prop := v = some (.ref rt) ∧ Fr n0 L ∧ h = h0
set_option maxRecDepth 65536 in
set_option maxHeartbeats 40000000 in
theorem rm34 (l : Launch) (Z : State) (a0 : Array Value) (hw : ∀ d ∈ tables_1, d.before a0 Z = true) (ws : List Jvm.Cond) (ad0 : Addr) (p1 : Int32) (jn : Nat) (nn_ : Nat) (fe : Nat → Value) (rt : Addr) (ed : Addr) (h0 : Heap) (n0 : Nat) (Z0 : n0 ≤ h0.size) (E_ad0 : Exa Z h0 ad0 own_cL) (F_elementData_ad0 : Fld Z h0 ad0 own_cL "elementData" own_cA (.ref ed)) (V_ed : own_AV id Z h0 ed (.object "java/lang/Object") nn_ fe) (hj0 : ¬ p1 < (0 : Int32)) (hjn : p1.toNatClampNeg = jn) (hjl : jn < nn_) (hjv : fe jn = .ref rt) :
    MetFree l own_y34 (head1 (Jvm.Cond.code own_y34 jdk_38_method_18_code 2 (some (.object "java/lang/Object")) :: ws) ({ frames := 0, cells := 0, slots := 0, locals := 0 } : Room)) (fun a U => a = #[(.ref ad0), (.int p1)] ∧ Z.Warmed39 U.vm ∧ U.heap = h0) (fun _ _ _ _ _ => True) (fun _ U o U' => ∃ v L, o = .returned v ∧ Q34 Z ad0 p1 jn nn_ fe rt ed h0 n0 v U'.heap L ∧ FrameEnd U o U' L ({ frames := 0, cells := 0, slots := 0, locals := 0 } : Room).cells ({ frames := 0, cells := 0, slots := 0, locals := 0 } : Room).slots) := by
  refine MetFree.of_bodySF (plainFor_of_name own_pn5) hisR ?_
  intro p e s m args below meth c s₁ Bd hml0 hP hK
  obtain ⟨rfl, hZ, hh⟩ := hP
  have hx := Bd.exec
  have hby := Bd.bytes
  have hml : c.maxLocals = 2 := hml0
  have hown : s.vm.findClass own_cL = some m.cls := findClass_of_methodNamed Bd.named
  have hnm := (name_of_methodNamed Bd.named Bd.method).1
  have hlk : meth.locks = false := BodyLoose.notSynchronized Bd
  have X0 : Stand p l e ({ frames := 0, cells := 0, slots := 0, locals := 0 } : Room) s m #[(.ref ad0), (.int p1)] below meth c s₁ [] 0 0 := Stand.of_body Bd
  have e0 : s₁.heap = h0 := by rw [← hh, Bd.state]; rfl
  have N0 := Fr.nil n0
  obtain ⟨G, hG⟩ : ∃ G, G = own_G s (Q34 Z ad0 p1 jn nn_ fe rt ed h0 n0) ({ frames := 0, cells := 0, slots := 0, locals := 0 } : Room).cells ({ frames := 0, cells := 0, slots := 0, locals := 0 } : Room).slots := ⟨_, rfl⟩
  show own_Fin p e below (own_G s (Q34 Z ad0 p1 jn nn_ fe rt ed h0 n0) ({ frames := 0, cells := 0, slots := 0, locals := 0 } : Room).cells ({ frames := 0, cells := 0, slots := 0, locals := 0 } : Room).slots) (s₁.setTop (entryFrame m #[(.ref ad0), (.int p1)] 2))
  rw [← hG]
  refine own_to (fun _ kz => castTop (ef34 m ad0 p1) kz) ?_
  show own_Fin p e below G (s₁.setTop (mkF m 0 #[.val (.ref ad0), .val (.int p1)] []))
  refine own_aloadN X0 hx (hb hby d34_0) rfl (rfl) ?_
  obtain ⟨T1, X1, e1, st1⟩ := getF X0 hx hZ hown (host := "") (Or.inl (own_w hw 68 rfl)) Via.refl e0 F_elementData_ad0 (g := (mkF m 1 #[.val (.ref ad0), .val (.int p1)] [(.ref ad0)])) rfl rfl (hb hby d34_1)
  refine own_to st1 ?_
  show own_Fin p e below G (T1.setTop (mkF m 4 #[.val (.ref ad0), .val (.int p1)] [(.ref ed)]))
  refine own_iloadN X1 hx (hb hby d34_4) rfl ?_
  refine own_to (fun _ kz => own_aaload X1 hx hZ e1 V_ed (j := p1) hj0 hjn hjl (v := (.ref rt)) hjv (g := (mkF m 5 #[.val (.ref ad0), .val (.int p1)] [(.int p1), (.ref ed)])) rfl rfl (hb hby d34_5) kz) ?_
  show own_Fin p e below G (T1.setTop (mkF m 6 #[.val (.ref ad0), .val (.int p1)] [(.ref rt)]))
  exact own_retA X1 hx hlk hG Bd.returns rfl rfl (hb hby d34_6) (by decide) (by decide) ⟨rfl, N0, e1⟩
theorem own_pd15 : parseMethodDescriptor "(I)Ljava/lang/Object;" = some ⟨[.int], some (.object "java/lang/Object")⟩ := by decide +kernel
theorem d31_0 : decode jdk_38_method_20_code 0 = .ok (.iload_n 1, 1) := by decide +kernel
theorem d31_1 : decode jdk_38_method_20_code 1 = .ok (.aload_n 0, 1) := by decide +kernel
theorem d31_2 : decode jdk_38_method_20_code 2 = .ok (.getfield 48, 3) := by decide +kernel
theorem d31_5 : decode jdk_38_method_20_code 5 = .ok (.invokestatic 118, 3) := by decide +kernel
theorem d31_8 : decode jdk_38_method_20_code 8 = .ok (.pop, 1) := by decide +kernel
theorem d31_9 : decode jdk_38_method_20_code 9 = .ok (.aload_n 0, 1) := by decide +kernel
theorem d31_10 : decode jdk_38_method_20_code 10 = .ok (.iload_n 1, 1) := by decide +kernel
theorem d31_11 : decode jdk_38_method_20_code 11 = .ok (.invokevirtual 123, 3) := by decide +kernel
theorem d31_14 : decode jdk_38_method_20_code 14 = .ok (.areturn, 1) := by decide +kernel
theorem ef31 (m : MethodId) (ad0 : Addr) (p1 : Int32) : entryFrame m #[(.ref ad0), (.int p1)] 2 = mkF m 0 #[.val (.ref ad0), .val (.int p1)] [] := by first | (simp [entryFrame, mkF, argsToLocals, Value.category]; done) | rfl
def Q31 (Z : State) (ad0 : Addr) (p1 : Int32) (jn : Nat) (nn_ : Nat) (fe : Nat → Value) (cnt : Int32) (rt : Addr) (ed : Addr) (h0 : Heap) (n0 : Nat) (v : Option Value) (h : Heap) (L : List Loc) : Prop := v = some (.ref rt) ∧ Fr n0 L ∧ h = h0
set_option maxRecDepth 65536 in
set_option maxHeartbeats 40000000 in
theorem rm31 (l : Launch) (Z : State) (a0 : Array Value) (hw : ∀ d ∈ tables_1, d.before a0 Z = true) (ws : List Jvm.Cond) (ad0 : Addr) (p1 : Int32) (jn : Nat) (nn_ : Nat) (fe : Nat → Value) (cnt : Int32) (rt : Addr) (ed : Addr) (h0 : Heap) (n0 : Nat) (Z0 : n0 ≤ h0.size) (E_ad0 : Exa Z h0 ad0 own_cL) (F_elementData_ad0 : Fld Z h0 ad0 own_cL "elementData" own_cA (.ref ed)) (V_ed : own_AV id Z h0 ed (.object "java/lang/Object") nn_ fe) (hj0 : ¬ p1 < (0 : Int32)) (hjn : p1.toNatClampNeg = jn) (hjl : jn < nn_) (hjv : fe jn = .ref rt) (F_size_ad0 : Fld Z h0 ad0 own_cL "size" "I" (.int cnt)) (hjc : p1 < cnt) :
    MetFree l own_y31 (head1 (Jvm.Cond.code own_y31 jdk_38_method_20_code 2 (some (.object "java/lang/Object")) :: ws) ({ frames := 2, cells := 0, slots := 0, locals := 27 } : Room)) (fun a U => a = #[(.ref ad0), (.int p1)] ∧ Z.Warmed39 U.vm ∧ U.heap = h0) (fun _ _ _ _ _ => True) (fun _ U o U' => ∃ v L, o = .returned v ∧ Q31 Z ad0 p1 jn nn_ fe cnt rt ed h0 n0 v U'.heap L ∧ FrameEnd U o U' L ({ frames := 2, cells := 0, slots := 0, locals := 27 } : Room).cells ({ frames := 2, cells := 0, slots := 0, locals := 27 } : Room).slots) := by
  refine MetFree.of_bodySF (plainFor_of_name own_pn5) hisR ?_
  intro p e s m args below meth c s₁ Bd hml0 hP hK
  obtain ⟨rfl, hZ, hh⟩ := hP
  have hx := Bd.exec
  have hby := Bd.bytes
  have hml : c.maxLocals = 2 := hml0
  have hown : s.vm.findClass own_cL = some m.cls := findClass_of_methodNamed Bd.named
  have hnm := (name_of_methodNamed Bd.named Bd.method).1
  have hlk : meth.locks = false := BodyLoose.notSynchronized Bd
  have X0 : Stand p l e ({ frames := 2, cells := 0, slots := 0, locals := 27 } : Room) s m #[(.ref ad0), (.int p1)] below meth c s₁ [] 0 0 := Stand.of_body Bd
  have e0 : s₁.heap = h0 := by rw [← hh, Bd.state]; rfl
  have N0 := Fr.nil n0
  obtain ⟨G, hG⟩ : ∃ G, G = own_G s (Q31 Z ad0 p1 jn nn_ fe cnt rt ed h0 n0) ({ frames := 2, cells := 0, slots := 0, locals := 27 } : Room).cells ({ frames := 2, cells := 0, slots := 0, locals := 27 } : Room).slots := ⟨_, rfl⟩
  show own_Fin p e below (own_G s (Q31 Z ad0 p1 jn nn_ fe cnt rt ed h0 n0) ({ frames := 2, cells := 0, slots := 0, locals := 27 } : Room).cells ({ frames := 2, cells := 0, slots := 0, locals := 27 } : Room).slots) (s₁.setTop (entryFrame m #[(.ref ad0), (.int p1)] 2))
  rw [← hG]
  refine own_to (fun _ kz => castTop (ef31 m ad0 p1) kz) ?_
  show own_Fin p e below G (s₁.setTop (mkF m 0 #[.val (.ref ad0), .val (.int p1)] []))
  refine own_iloadN X0 hx (hb hby d31_0) rfl ?_
  refine own_aloadN X0 hx (hb hby d31_1) rfl (rfl) ?_
  obtain ⟨T2, X2, e2, st2⟩ := getF X0 hx hZ hown (host := "") (Or.inl (own_w hw 138 rfl)) Via.refl e0 F_size_ad0 (g := (mkF m 2 #[.val (.ref ad0), .val (.int p1)] [(.ref ad0), (.int p1)])) rfl rfl (hb hby d31_2)
  refine own_to st2 ?_
  show own_Fin p e below G (T2.setTop (mkF m 5 #[.val (.ref ad0), .val (.int p1)] [(.int cnt), (.int p1)]))
  obtain ⟨_, _, ⟨T5, L5, k5, n5⟩, -, X5, ⟨Lc5, hQ5, l5, y5, z5⟩, st5⟩ := Jvm.LawKit.callS X2 hx (y := own_y32) hown (mvT hZ (own_w hw 214 rfl)) (mvT hZ (own_w hw 215 rfl)) (mvT hZ (own_w hw 216 rfl)) (mvT hZ (own_w hw 217 rfl)) (by decide) (backOf (W := 0) (rm32 l Z a0 hw [] p1 cnt h0 n0 Z0 hj0 hjc) hZ (own_w hw 217 rfl) (own_w hw 216 rfl) (by decide) (by decide)) (g := (mkF m 5 #[.val (.ref ad0), .val (.int p1)] [(.int cnt), (.int p1)])) rfl (by rw [hml]; rfl) (argsL := [(.int p1), (.int cnt)]) (rest := []) (lenOf own_pd1 rfl) rfl (by show 2 * 0 + _ ≤ _; exact Nat.le_of_eq rfl) (hb hby d31_5) (fun _ _ => ⟨rfl, e2, (by decide : 0 + 0 ≤ _), (by decide : 0 + 0 ≤ _)⟩)
  dsimp only [Pt.U, Pt.locs, Pt.cells, Pt.slots] at X5 l5 y5 z5 st5 hQ5
  subst l5 y5 z5
  obtain ⟨rfl, N5q, e5⟩ := hQ5
  obtain ⟨lo5, X5, N5⟩ : ∃ lo, Stand p l e _ s m _ below meth c T5 lo _ _ ∧ Fr n0 lo := ⟨_, X5, Fr.app N0 N5q⟩
  refine own_to st5 ?_
  show own_Fin p e below G (T5.setTop (mkF m 8 #[.val (.ref ad0), .val (.int p1)] [(.int p1)]))
  refine own_to (fun _ kz => XS.pop X5.here hx rfl (hb hby d31_8) rfl rfl kz) ?_
  show own_Fin p e below G (T5.setTop (mkF m 9 #[.val (.ref ad0), .val (.int p1)] []))
  refine own_aloadN X5 hx (hb hby d31_9) rfl (rfl) ?_
  refine own_iloadN X5 hx (hb hby d31_10) rfl ?_
  obtain ⟨cq11, kq11, qa11, qb11, qc11⟩ := isOf hZ e5 E_ad0
  obtain ⟨_, _, ⟨T11, L11, k11, n11⟩, -, X11, ⟨Lc11, hQ11, l11, y11, z11⟩, st11⟩ := X5.virtualBack hx (y := own_y34) (z := own_y34) hown (mvT hZ (own_w hw 222 rfl)) (mvT hZ (own_w hw 223 rfl)) (notFace_of_selects (args := #[]) (mvT hZ (own_w hw 225 rfl))) (mvT hZ (own_w hw 225 rfl)) (mvT hZ (own_w hw 224 rfl)) (by decide) (backOf (W := 0) (rm34 l Z a0 hw [] ad0 p1 jn nn_ fe rt ed h0 n0 Z0 E_ad0 F_elementData_ad0 V_ed hj0 hjn hjl hjv) hZ (own_w hw 226 rfl) (own_w hw 48 rfl) (by decide) (by decide)) qa11 qc11 (g := (mkF m 11 #[.val (.ref ad0), .val (.int p1)] [(.int p1), (.ref ad0)])) rfl (by rw [hml]; rfl) (Steps.refl _) (argsL := [(.int p1)]) (rest := []) (lenOf own_pd15 rfl) rfl (by show 2 * 0 + _ ≤ _; exact Nat.le_of_eq rfl) (hb hby d31_11) (fun _ _ => ⟨rfl, e5, (by decide : 0 + 0 ≤ _), (by decide : 0 + 0 ≤ _)⟩)
  dsimp only [Pt.U, Pt.locs, Pt.cells, Pt.slots] at X11 l11 y11 z11 st11 hQ11
  subst l11 y11 z11
  obtain ⟨rfl, N11q, e11⟩ := hQ11
  obtain ⟨lo11, X11, N11⟩ : ∃ lo, Stand p l e _ s m _ below meth c T11 lo _ _ ∧ Fr n0 lo := ⟨_, X11, Fr.app N5 N11q⟩
  refine own_via st11 ?_
  show own_Fin p e below G (T11.setTop (mkF m 14 #[.val (.ref ad0), .val (.int p1)] [(.ref rt)]))
  exact own_retA X11 hx hlk hG Bd.returns rfl rfl (hb hby d31_14) (by decide) (by decide) ⟨rfl, N11, e11⟩
theorem own_pn10 : plainName own_cD = true := by first | (simp [plainName, overriddenIn]; done) | decide +kernel
theorem d28_0 : decode prog_65_method_6_code 0 = .ok (.aload_n 0, 1) := by decide +kernel
theorem d28_1 : decode prog_65_method_6_code 1 = .ok (.getfield 16, 3) := by decide +kernel
theorem d28_4 : decode prog_65_method_6_code 4 = .ok (.lreturn, 1) := by decide +kernel
theorem ef28 (m : MethodId) (ad0 : Addr) : entryFrame m #[(.ref ad0)] 1 = mkF m 0 #[.val (.ref ad0)] [] := by first | (simp [entryFrame, mkF, argsToLocals, Value.category]; done) | rfl
def f28 (so : Int64) : Int64 := so
def Q28 (Z : State) (ad0 : Addr) (so : Int64) (h0 : Heap) (n0 : Nat) (v : Option Value) (h : Heap) (L : List Loc) : Prop := v = some (.long (f28 so)) ∧ Fr n0 L ∧ h = h0
set_option maxRecDepth 65536 in
set_option maxHeartbeats 40000000 in
theorem rm28 (l : Launch) (Z : State) (a0 : Array Value) (hw : ∀ d ∈ tables_1, d.before a0 Z = true) (ws : List Jvm.Cond) (ad0 : Addr) (so : Int64) (h0 : Heap) (n0 : Nat) (Z0 : n0 ≤ h0.size) (E_ad0 : Exa Z h0 ad0 own_cD) (F_offset_ad0 : Fld Z h0 ad0 own_cD "offset" "J" (.long so)) :
    MetFree l own_y28 (head1 (Jvm.Cond.code own_y28 prog_65_method_6_code 1 (some .long) :: ws) ({ frames := 0, cells := 0, slots := 0, locals := 0 } : Room)) (fun a U => a = #[(.ref ad0)] ∧ Z.Warmed39 U.vm ∧ U.heap = h0) (fun _ _ _ _ _ => True) (fun _ U o U' => ∃ v L, o = .returned v ∧ Q28 Z ad0 so h0 n0 v U'.heap L ∧ FrameEnd U o U' L ({ frames := 0, cells := 0, slots := 0, locals := 0 } : Room).cells ({ frames := 0, cells := 0, slots := 0, locals := 0 } : Room).slots) := by
  refine MetFree.of_bodySF (plainFor_of_name own_pn10) hisR ?_
  intro p e s m args below meth c s₁ Bd hml0 hP hK
  obtain ⟨rfl, hZ, hh⟩ := hP
  have hx := Bd.exec
  have hby := Bd.bytes
  have hml : c.maxLocals = 1 := hml0
  have hown : s.vm.findClass own_cD = some m.cls := findClass_of_methodNamed Bd.named
  have hnm := (name_of_methodNamed Bd.named Bd.method).1
  have hlk : meth.locks = false := BodyLoose.notSynchronized Bd
  have X0 : Stand p l e ({ frames := 0, cells := 0, slots := 0, locals := 0 } : Room) s m #[(.ref ad0)] below meth c s₁ [] 0 0 := Stand.of_body Bd
  have e0 : s₁.heap = h0 := by rw [← hh, Bd.state]; rfl
  have N0 := Fr.nil n0
  obtain ⟨G, hG⟩ : ∃ G, G = own_G s (Q28 Z ad0 so h0 n0) ({ frames := 0, cells := 0, slots := 0, locals := 0 } : Room).cells ({ frames := 0, cells := 0, slots := 0, locals := 0 } : Room).slots := ⟨_, rfl⟩
  show own_Fin p e below (own_G s (Q28 Z ad0 so h0 n0) ({ frames := 0, cells := 0, slots := 0, locals := 0 } : Room).cells ({ frames := 0, cells := 0, slots := 0, locals := 0 } : Room).slots) (s₁.setTop (entryFrame m #[(.ref ad0)] 1))
  rw [← hG]
  refine own_to (fun _ kz => castTop (ef28 m ad0) kz) ?_
  have q0 : (f28 so) = (f28 so) := rfl
  show own_Fin p e below G (s₁.setTop (mkF m 0 #[.val (.ref ad0)] []))
  refine own_aloadN X0 hx (hb hby d28_0) rfl (rfl) ?_
  obtain ⟨T1, X1, e1, st1⟩ := getF X0 hx hZ hown (host := "") (Or.inl (own_w hw 180 rfl)) Via.refl e0 F_offset_ad0 (g := (mkF m 1 #[.val (.ref ad0)] [(.ref ad0)])) rfl rfl (hb hby d28_1)
  refine own_to st1 ?_
  show own_Fin p e below G (T1.setTop (mkF m 4 #[.val (.ref ad0)] [(.long so)]))
  exact own_retJ X1 hx hlk hG Bd.returns (hb hby d28_4) (by decide) (by decide) ⟨(congrArg (fun z => some (Value.long z)) q0).symm, N0, e1⟩
theorem d29_0 : decode prog_65_method_7_code 0 = .ok (.aload_n 0, 1) := by decide +kernel
theorem d29_1 : decode prog_65_method_7_code 1 = .ok (.getfield 22, 3) := by decide +kernel
theorem d29_4 : decode prog_65_method_7_code 4 = .ok (.lreturn, 1) := by decide +kernel
theorem ef29 (m : MethodId) (ad0 : Addr) : entryFrame m #[(.ref ad0)] 1 = mkF m 0 #[.val (.ref ad0)] [] := by first | (simp [entryFrame, mkF, argsToLocals, Value.category]; done) | rfl
def f29 (so : Int64) : Int64 := so
def Q29 (Z : State) (ad0 : Addr) (so : Int64) (h0 : Heap) (n0 : Nat) (v : Option Value) (h : Heap) (L : List Loc) : Prop := v = some (.long (f29 so)) ∧ Fr n0 L ∧ h = h0
set_option maxRecDepth 65536 in
set_option maxHeartbeats 40000000 in
theorem rm29 (l : Launch) (Z : State) (a0 : Array Value) (hw : ∀ d ∈ tables_1, d.before a0 Z = true) (ws : List Jvm.Cond) (ad0 : Addr) (so : Int64) (h0 : Heap) (n0 : Nat) (Z0 : n0 ≤ h0.size) (E_ad0 : Exa Z h0 ad0 own_cD) (F_length_ad0 : Fld Z h0 ad0 own_cD "length" "J" (.long so)) :
    MetFree l own_y29 (head1 (Jvm.Cond.code own_y29 prog_65_method_7_code 1 (some .long) :: ws) ({ frames := 0, cells := 0, slots := 0, locals := 0 } : Room)) (fun a U => a = #[(.ref ad0)] ∧ Z.Warmed39 U.vm ∧ U.heap = h0) (fun _ _ _ _ _ => True) (fun _ U o U' => ∃ v L, o = .returned v ∧ Q29 Z ad0 so h0 n0 v U'.heap L ∧ FrameEnd U o U' L ({ frames := 0, cells := 0, slots := 0, locals := 0 } : Room).cells ({ frames := 0, cells := 0, slots := 0, locals := 0 } : Room).slots) := by
  refine MetFree.of_bodySF (plainFor_of_name own_pn10) hisR ?_
  intro p e s m args below meth c s₁ Bd hml0 hP hK
  obtain ⟨rfl, hZ, hh⟩ := hP
  have hx := Bd.exec
  have hby := Bd.bytes
  have hml : c.maxLocals = 1 := hml0
  have hown : s.vm.findClass own_cD = some m.cls := findClass_of_methodNamed Bd.named
  have hnm := (name_of_methodNamed Bd.named Bd.method).1
  have hlk : meth.locks = false := BodyLoose.notSynchronized Bd
  have X0 : Stand p l e ({ frames := 0, cells := 0, slots := 0, locals := 0 } : Room) s m #[(.ref ad0)] below meth c s₁ [] 0 0 := Stand.of_body Bd
  have e0 : s₁.heap = h0 := by rw [← hh, Bd.state]; rfl
  have N0 := Fr.nil n0
  obtain ⟨G, hG⟩ : ∃ G, G = own_G s (Q29 Z ad0 so h0 n0) ({ frames := 0, cells := 0, slots := 0, locals := 0 } : Room).cells ({ frames := 0, cells := 0, slots := 0, locals := 0 } : Room).slots := ⟨_, rfl⟩
  show own_Fin p e below (own_G s (Q29 Z ad0 so h0 n0) ({ frames := 0, cells := 0, slots := 0, locals := 0 } : Room).cells ({ frames := 0, cells := 0, slots := 0, locals := 0 } : Room).slots) (s₁.setTop (entryFrame m #[(.ref ad0)] 1))
  rw [← hG]
  refine own_to (fun _ kz => castTop (ef29 m ad0) kz) ?_
  have q0 : (f29 so) = (f29 so) := rfl
  show own_Fin p e below G (s₁.setTop (mkF m 0 #[.val (.ref ad0)] []))
  refine own_aloadN X0 hx (hb hby d29_0) rfl (rfl) ?_
  obtain ⟨T1, X1, e1, st1⟩ := getF X0 hx hZ hown (host := "") (Or.inl (own_w hw 182 rfl)) Via.refl e0 F_length_ad0 (g := (mkF m 1 #[.val (.ref ad0)] [(.ref ad0)])) rfl rfl (hb hby d29_1)
  refine own_to st1 ?_
  show own_Fin p e below G (T1.setTop (mkF m 4 #[.val (.ref ad0)] [(.long so)]))
  exact own_retJ X1 hx hlk hG Bd.returns (hb hby d29_4) (by decide) (by decide) ⟨(congrArg (fun z => some (Value.long z)) q0).symm, N0, e1⟩
theorem d26_0 : decode prog_65_method_1_code 0 = .ok (.aload_n 0, 1) := by decide +kernel
theorem d26_1 : decode prog_65_method_1_code 1 = .ok (.invokespecial 1, 3) := by decide +kernel
theorem d26_4 : decode prog_65_method_1_code 4 = .ok (.lload_n 1, 1) := by decide +kernel
theorem d26_5 : decode prog_65_method_1_code 5 = .ok (.lconst 0, 1) := by decide +kernel
theorem d26_6 : decode prog_65_method_1_code 6 = .ok (.lcmp, 1) := by decide +kernel
theorem d26_7 : decode prog_65_method_1_code 7 = .ok (.ifCond .lt 9, 3) := by decide +kernel
theorem d26_10 : decode prog_65_method_1_code 10 = .ok (.lload_n 3, 1) := by decide +kernel
theorem d26_11 : decode prog_65_method_1_code 11 = .ok (.lconst 0, 1) := by decide +kernel
theorem d26_12 : decode prog_65_method_1_code 12 = .ok (.lcmp, 1) := by decide +kernel
theorem d26_13 : decode prog_65_method_1_code 13 = .ok (.ifCond .gt 18, 3) := by decide +kernel
theorem d26_31 : decode prog_65_method_1_code 31 = .ok (.aload_n 0, 1) := by decide +kernel
theorem d26_32 : decode prog_65_method_1_code 32 = .ok (.lload_n 1, 1) := by decide +kernel
theorem d26_33 : decode prog_65_method_1_code 33 = .ok (.putfield 16, 3) := by decide +kernel
theorem d26_36 : decode prog_65_method_1_code 36 = .ok (.aload_n 0, 1) := by decide +kernel
theorem d26_37 : decode prog_65_method_1_code 37 = .ok (.lload_n 3, 1) := by decide +kernel
theorem d26_38 : decode prog_65_method_1_code 38 = .ok (.putfield 22, 3) := by decide +kernel
theorem d26_41 : decode prog_65_method_1_code 41 = .ok (.return_, 1) := by decide +kernel
theorem ef26 (m : MethodId) (ad0 : Addr) (x1 : Int64) (x2 : Int64) : entryFrame m #[(.ref ad0), (.long x1), (.long x2)] 5 = mkF m 0 #[.val (.ref ad0), .val (.long x1), .second, .val (.long x2), .second] [] := by first | (simp [entryFrame, mkF, argsToLocals, Value.category]; done) | rfl
def Q26 (Z : State) (ad0 : Addr) (x1 : Int64) (x2 : Int64) (h0 : Heap) (n0 : Nat) (v : Option Value) (h : Heap) (L : List Loc) : Prop := v = none ∧ Fr n0 L ∧ Keep h0 h [ad0] ∧ Exa Z h ad0 own_cD ∧ Fld Z h ad0 own_cD "offset" "J" (.long x1) ∧ Fld Z h ad0 own_cD "length" "J" (.long x2)
set_option maxRecDepth 65536 in
set_option maxHeartbeats 40000000 in
theorem rm26 (l : Launch) (Z : State) (a0 : Array Value) (hw : ∀ d ∈ tables_1, d.before a0 Z = true) (ws : List Jvm.Cond) (ad0 : Addr) (x1 : Int64) (x2 : Int64) (h0 : Heap) (n0 : Nat) (Z0 : n0 ≤ h0.size) (E_ad0 : Exa Z h0 ad0 own_cD) (F_offset_ad0 : Fld Z h0 ad0 own_cD "offset" "J" (.long (0 : Int64))) (F_length_ad0 : Fld Z h0 ad0 own_cD "length" "J" (.long (0 : Int64))) (g_ad0 : n0 ≤ ad0) (hoff : ¬ x1 < (0 : Int64)) (hln : (0 : Int64) < x2) :
    MetFree l own_y26 (head1 (Jvm.Cond.code own_y26 prog_65_method_1_code 5 none :: ws) ({ frames := 2, cells := 0, slots := 0, locals := 24 } : Room)) (fun a U => a = #[(.ref ad0), (.long x1), (.long x2)] ∧ Z.Warmed39 U.vm ∧ U.heap = h0) (fun _ _ _ _ _ => True) (fun _ U o U' => ∃ v L, o = .returned v ∧ Q26 Z ad0 x1 x2 h0 n0 v U'.heap L ∧ FrameEnd U o U' L ({ frames := 2, cells := 0, slots := 0, locals := 24 } : Room).cells ({ frames := 2, cells := 0, slots := 0, locals := 24 } : Room).slots) := by
  refine MetFree.of_bodySF (plainFor_of_name own_pn10) hisR ?_
  intro p e s m args below meth c s₁ Bd hml0 hP hK
  obtain ⟨rfl, hZ, hh⟩ := hP
  have hx := Bd.exec
  have hby := Bd.bytes
  have hml : c.maxLocals = 5 := hml0
  have hown : s.vm.findClass own_cD = some m.cls := findClass_of_methodNamed Bd.named
  have hnm := (name_of_methodNamed Bd.named Bd.method).1
  have hlk : meth.locks = false := BodyLoose.notSynchronized Bd
  have X0 : Stand p l e ({ frames := 2, cells := 0, slots := 0, locals := 24 } : Room) s m #[(.ref ad0), (.long x1), (.long x2)] below meth c s₁ [] 0 0 := Stand.of_body Bd
  have e0 : s₁.heap = h0 := by rw [← hh, Bd.state]; rfl
  have N0 := Fr.nil n0
  obtain ⟨G, hG⟩ : ∃ G, G = own_G s (Q26 Z ad0 x1 x2 h0 n0) ({ frames := 2, cells := 0, slots := 0, locals := 24 } : Room).cells ({ frames := 2, cells := 0, slots := 0, locals := 24 } : Room).slots := ⟨_, rfl⟩
  show own_Fin p e below (own_G s (Q26 Z ad0 x1 x2 h0 n0) ({ frames := 2, cells := 0, slots := 0, locals := 24 } : Room).cells ({ frames := 2, cells := 0, slots := 0, locals := 24 } : Room).slots) (s₁.setTop (entryFrame m #[(.ref ad0), (.long x1), (.long x2)] 5))
  rw [← hG]
  refine own_to (fun _ kz => castTop (ef26 m ad0 x1 x2) kz) ?_
  show own_Fin p e below G (s₁.setTop (mkF m 0 #[.val (.ref ad0), .val (.long x1), .second, .val (.long x2), .second] []))
  refine own_aloadN X0 hx (hb hby d26_0) rfl (rfl) ?_
  obtain ⟨_, _, ⟨T1, L1, k1, n1⟩, -, X1, ⟨Lc1, hQ1, l1, y1, z1⟩, st1⟩ := X0.specialBack hx (y := own_y3) rfl hown (mvT hZ (own_w hw 179 rfl)) (mvT hZ (own_w hw 14 rfl)) (mvT hZ (own_w hw 17 rfl)) (by decide) (backOf (W := 0) (rm3 l Z a0 hw [] ad0 h0 n0 Z0 ) hZ (own_w hw 17 rfl) (own_w hw 16 rfl) (by decide) (by decide)) (g := (mkF m 1 #[.val (.ref ad0), .val (.long x1), .second, .val (.long x2), .second] [(.ref ad0)])) rfl (by rw [hml]; rfl) (Steps.refl _) (a := ad0) (argsL := []) (rest := []) (lenOf own_pd0 rfl) rfl (by show 2 * 0 + _ ≤ _; exact Nat.le_of_eq rfl) (hb hby d26_1) (fun _ _ => ⟨rfl, e0, (by decide : 0 + 0 ≤ _), (by decide : 0 + 0 ≤ _)⟩)
  dsimp only [Pt.U, Pt.locs, Pt.cells, Pt.slots] at X1 l1 y1 z1 st1 hQ1
  subst l1 y1 z1
  obtain ⟨rfl, N1q, e1⟩ := hQ1
  obtain ⟨lo1, X1, N1⟩ : ∃ lo, Stand p l e _ s m _ below meth c T1 lo _ _ ∧ Fr n0 lo := ⟨_, X1, Fr.app N0 N1q⟩
  refine own_via st1 ?_
  show own_Fin p e below G (T1.setTop (mkF m 4 #[.val (.ref ad0), .val (.long x1), .second, .val (.long x2), .second] []))
  refine own_lloadN X1 hx (hb hby d26_4) rfl ?_
  refine own_to (fun _ kz => XS.lconst X1.here hx rfl (hb hby d26_5) kz) ?_
  show own_Fin p e below G (T1.setTop (mkF m 6 #[.val (.ref ad0), .val (.long x1), .second, .val (.long x2), .second] [(.long (0 : Int64)), (.long x1)]))
  refine own_to (fun _ kz => XS.lcmp X1.here hx rfl (hb hby d26_6) rfl kz) ?_
  show own_Fin p e below G (T1.setTop (mkF m 7 #[.val (.ref ad0), .val (.long x1), .second, .val (.long x2), .second] [(.int (lcmpW x1 (0 : Int64)))]))
  have hc7 : ¬ (x1 < (0 : Int64)) := hoff
  refine own_to (fun _ kz => XS.ifNo X1.here hx rfl (hb hby d26_7) rfl ((if0 _ _).trans (flt (fun q => hc7 ((lw_lt _ _).mp q))).1) kz) ?_
  show own_Fin p e below G (T1.setTop (mkF m 10 #[.val (.ref ad0), .val (.long x1), .second, .val (.long x2), .second] []))
  refine own_lloadN X1 hx (hb hby d26_10) rfl ?_
  refine own_to (fun _ kz => XS.lconst X1.here hx rfl (hb hby d26_11) kz) ?_
  show own_Fin p e below G (T1.setTop (mkF m 12 #[.val (.ref ad0), .val (.long x1), .second, .val (.long x2), .second] [(.long (0 : Int64)), (.long x2)]))
  refine own_to (fun _ kz => XS.lcmp X1.here hx rfl (hb hby d26_12) rfl kz) ?_
  show own_Fin p e below G (T1.setTop (mkF m 13 #[.val (.ref ad0), .val (.long x1), .second, .val (.long x2), .second] [(.int (lcmpW x2 (0 : Int64)))]))
  have hc13 : (0 : Int64) < x2 := hln
  refine own_to (fun _ kz => XS.ifYes X1.here hx rfl (pc0 := 13) (pc' := 31) rfl (hb hby d26_13) rfl ((if0 _ _).trans (tlt ((lw_gt _ _).mpr hc13)).2.2.1) (by decide) (by decide) kz) ?_
  show own_Fin p e below G (T1.setTop (mkF m 31 #[.val (.ref ad0), .val (.long x1), .second, .val (.long x2), .second] []))
  refine own_aloadN X1 hx (hb hby d26_31) rfl (rfl) ?_
  refine own_lloadN X1 hx (hb hby d26_32) rfl ?_
  obtain ⟨T33, h33, X33, e33, W33, st33⟩ := putF X1 hx hZ hown (host := "") (Or.inl (own_w hw 180 rfl)) Via.refl e1 F_offset_ad0 E_ad0 (Or.inr ⟨(own_w hw 181 rfl), rfl, hnm⟩) (own_w hw 174 rfl) (ty := .long) (by decide) rfl rfl (g := (mkF m 33 #[.val (.ref ad0), .val (.long x1), .second, .val (.long x2), .second] [(.long x1), (.ref ad0)])) rfl rfl (hb hby d26_33)
  refine own_to st33 ?_
  have Fw33 : Fld Z h33 ad0 own_cD "offset" "J" (.long x1) := Fld.same W33 F_offset_ad0
  obtain ⟨lo33, X33, N33⟩ : ∃ lo, Stand p l e _ s m _ below meth c T33 lo _ _ ∧ Fr n0 lo := ⟨_, X33, Fr.snoc X33 N1 g_ad0⟩
  show own_Fin p e below G (T33.setTop (mkF m 36 #[.val (.ref ad0), .val (.long x1), .second, .val (.long x2), .second] []))
  refine own_aloadN X33 hx (hb hby d26_36) rfl (rfl) ?_
  refine own_lloadN X33 hx (hb hby d26_37) rfl ?_
  have E_ad0_at_38 := (E_ad0.wr W33)
  have F_length_ad0_at_38 := (F_length_ad0.other W33 (Or.inr (slot_ne (Or.inr (own_w hw 183 rfl)) (Or.inr (own_w hw 181 rfl)) (by decide) (t := .long) (t' := .long) (by decide) (by decide))))
  obtain ⟨T38, h38, X38, e38, W38, st38⟩ := putF X33 hx hZ hown (host := "") (Or.inl (own_w hw 182 rfl)) Via.refl e33 F_length_ad0_at_38 E_ad0_at_38 (Or.inr ⟨(own_w hw 183 rfl), rfl, hnm⟩) (own_w hw 174 rfl) (ty := .long) (by decide) rfl rfl (g := (mkF m 38 #[.val (.ref ad0), .val (.long x1), .second, .val (.long x2), .second] [(.long x2), (.ref ad0)])) rfl rfl (hb hby d26_38)
  refine own_to st38 ?_
  have Fw38 : Fld Z h38 ad0 own_cD "length" "J" (.long x2) := Fld.same W38 F_length_ad0_at_38
  obtain ⟨lo38, X38, N38⟩ : ∃ lo, Stand p l e _ s m _ below meth c T38 lo _ _ ∧ Fr n0 lo := ⟨_, X38, Fr.snoc X38 N33 g_ad0⟩
  show own_Fin p e below G (T38.setTop (mkF m 41 #[.val (.ref ad0), .val (.long x1), .second, .val (.long x2), .second] []))
  have KP_41 : Keep h0 h38 [ad0] := (((Keep.refl h0 [ad0]).wr W33 (Or.inl (List.mem_of_getElem? (i := 0) rfl))).wr W38 (Or.inl (List.mem_of_getElem? (i := 0) rfl)))
  have E_ad0_at_41 := (E_ad0_at_38.wr W38)
  have Fw33_at_41 := (Fw33.other W38 (Or.inr (slot_ne (Or.inr (own_w hw 181 rfl)) (Or.inr (own_w hw 183 rfl)) (by decide) (t := .long) (t' := .long) (by decide) (by decide))))
  exact own_retV X38 hx hlk hG Bd.returns (hb hby d26_41) (by decide) (by decide) (by rw [e38]; exact ⟨rfl, N38, KP_41, E_ad0_at_41, Fw33_at_41, Fw38⟩)
theorem d25_0 : decode prog_47_method_6_code 0 = .ok (.aload_n 0, 1) := by decide +kernel
theorem d25_1 : decode prog_47_method_6_code 1 = .ok (.getfield 97, 3) := by decide +kernel
theorem d25_4 : decode prog_47_method_6_code 4 = .ok (.aload_n 0, 1) := by decide +kernel
theorem d25_5 : decode prog_47_method_6_code 5 = .ok (.getfield 94, 3) := by decide +kernel
theorem d25_8 : decode prog_47_method_6_code 8 = .ok (.if_icmp .ne 5, 3) := by decide +kernel
theorem d25_11 : decode prog_47_method_6_code 11 = .ok (.aconst_null, 1) := by decide +kernel
theorem d25_12 : decode prog_47_method_6_code 12 = .ok (.areturn, 1) := by decide +kernel
theorem d25_13 : decode prog_47_method_6_code 13 = .ok (.aload_n 0, 1) := by decide +kernel
theorem d25_14 : decode prog_47_method_6_code 14 = .ok (.getfield 28, 3) := by decide +kernel
theorem d25_17 : decode prog_47_method_6_code 17 = .ok (.aload_n 0, 1) := by decide +kernel
theorem d25_18 : decode prog_47_method_6_code 18 = .ok (.getfield 97, 3) := by decide +kernel
theorem d25_21 : decode prog_47_method_6_code 21 = .ok (.laload, 1) := by decide +kernel
theorem d25_22 : decode prog_47_method_6_code 22 = .ok (.lstore_n 1, 1) := by decide +kernel
theorem d25_23 : decode prog_47_method_6_code 23 = .ok (.aload_n 0, 1) := by decide +kernel
theorem d25_24 : decode prog_47_method_6_code 24 = .ok (.getfield 31, 3) := by decide +kernel
theorem d25_27 : decode prog_47_method_6_code 27 = .ok (.aload_n 0, 1) := by decide +kernel
theorem d25_28 : decode prog_47_method_6_code 28 = .ok (.getfield 97, 3) := by decide +kernel
theorem d25_31 : decode prog_47_method_6_code 31 = .ok (.laload, 1) := by decide +kernel
theorem d25_32 : decode prog_47_method_6_code 32 = .ok (.lstore_n 3, 1) := by decide +kernel
theorem d25_33 : decode prog_47_method_6_code 33 = .ok (.aload_n 0, 1) := by decide +kernel
theorem d25_34 : decode prog_47_method_6_code 34 = .ok (.dup, 1) := by decide +kernel
theorem d25_35 : decode prog_47_method_6_code 35 = .ok (.getfield 97, 3) := by decide +kernel
theorem d25_38 : decode prog_47_method_6_code 38 = .ok (.iconst 1, 1) := by decide +kernel
theorem d25_39 : decode prog_47_method_6_code 39 = .ok (.iadd, 1) := by decide +kernel
theorem d25_40 : decode prog_47_method_6_code 40 = .ok (.putfield 97, 3) := by decide +kernel
theorem d25_43 : decode prog_47_method_6_code 43 = .ok (.lload_n 3, 1) := by decide +kernel
theorem d25_44 : decode prog_47_method_6_code 44 = .ok (.lconst 0, 1) := by decide +kernel
theorem d25_45 : decode prog_47_method_6_code 45 = .ok (.lcmp, 1) := by decide +kernel
theorem d25_46 : decode prog_47_method_6_code 46 = .ok (.ifCond .le 33, 3) := by decide +kernel
theorem d25_49 : decode prog_47_method_6_code 49 = .ok (.lload_n 1, 1) := by decide +kernel
theorem d25_50 : decode prog_47_method_6_code 50 = .ok (.aload_n 0, 1) := by decide +kernel
theorem d25_51 : decode prog_47_method_6_code 51 = .ok (.getfield 21, 3) := by decide +kernel
theorem d25_54 : decode prog_47_method_6_code 54 = .ok (.aload_n 0, 1) := by decide +kernel
theorem d25_55 : decode prog_47_method_6_code 55 = .ok (.getfield 100, 3) := by decide +kernel
theorem d25_58 : decode prog_47_method_6_code 58 = .ok (.lload_n 3, 1) := by decide +kernel
theorem d25_59 : decode prog_47_method_6_code 59 = .ok (.l2i, 1) := by decide +kernel
theorem d25_60 : decode prog_47_method_6_code 60 = .ok (.invokestatic 103, 3) := by decide +kernel
theorem d25_63 : decode prog_47_method_6_code 63 = .ok (.astore 5, 2) := by decide +kernel
theorem d25_65 : decode prog_47_method_6_code 65 = .ok (.aload_n 0, 1) := by decide +kernel
theorem d25_66 : decode prog_47_method_6_code 66 = .ok (.dup, 1) := by decide +kernel
theorem d25_67 : decode prog_47_method_6_code 67 = .ok (.getfield 100, 3) := by decide +kernel
theorem d25_70 : decode prog_47_method_6_code 70 = .ok (.lload_n 3, 1) := by decide +kernel
theorem d25_71 : decode prog_47_method_6_code 71 = .ok (.l2i, 1) := by decide +kernel
theorem d25_72 : decode prog_47_method_6_code 72 = .ok (.iadd, 1) := by decide +kernel
theorem d25_73 : decode prog_47_method_6_code 73 = .ok (.putfield 100, 3) := by decide +kernel
theorem d25_76 : decode prog_47_method_6_code 76 = .ok (.goto 49, 3) := by decide +kernel
theorem d25_79 : decode prog_47_method_6_code 79 = .ok (.lload_n 3, 1) := by decide +kernel
theorem d25_80 : decode prog_47_method_6_code 80 = .ok (.lconst 0, 1) := by decide +kernel
theorem d25_81 : decode prog_47_method_6_code 81 = .ok (.lcmp, 1) := by decide +kernel
theorem d25_82 : decode prog_47_method_6_code 82 = .ok (.ifCond .ne 31, 3) := by decide +kernel
theorem d25_85 : decode prog_47_method_6_code 85 = .ok (.aload_n 0, 1) := by decide +kernel
theorem d25_86 : decode prog_47_method_6_code 86 = .ok (.getfield 37, 3) := by decide +kernel
theorem d25_89 : decode prog_47_method_6_code 89 = .ok (.aload_n 0, 1) := by decide +kernel
theorem d25_90 : decode prog_47_method_6_code 90 = .ok (.dup, 1) := by decide +kernel
theorem d25_91 : decode prog_47_method_6_code 91 = .ok (.getfield 107, 3) := by decide +kernel
theorem d25_94 : decode prog_47_method_6_code 94 = .ok (.dup_x1, 1) := by decide +kernel
theorem d25_95 : decode prog_47_method_6_code 95 = .ok (.iconst 1, 1) := by decide +kernel
theorem d25_96 : decode prog_47_method_6_code 96 = .ok (.iadd, 1) := by decide +kernel
theorem d25_97 : decode prog_47_method_6_code 97 = .ok (.putfield 107, 3) := by decide +kernel
theorem d25_100 : decode prog_47_method_6_code 100 = .ok (.invokeinterface 110 2, 5) := by decide +kernel
theorem d25_105 : decode prog_47_method_6_code 105 = .ok (.checkcast 114, 3) := by decide +kernel
theorem d25_108 : decode prog_47_method_6_code 108 = .ok (.astore 5, 2) := by decide +kernel
theorem d25_110 : decode prog_47_method_6_code 110 = .ok (.goto 15, 3) := by decide +kernel
theorem d25_113 : decode prog_47_method_6_code 113 = .ok (.new 116, 3) := by decide +kernel
theorem d25_116 : decode prog_47_method_6_code 116 = .ok (.dup, 1) := by decide +kernel
theorem d25_117 : decode prog_47_method_6_code 117 = .ok (.lload_n 1, 1) := by decide +kernel
theorem d25_118 : decode prog_47_method_6_code 118 = .ok (.lload_n 3, 1) := by decide +kernel
theorem d25_119 : decode prog_47_method_6_code 119 = .ok (.lneg, 1) := by decide +kernel
theorem d25_120 : decode prog_47_method_6_code 120 = .ok (.invokespecial 118, 3) := by decide +kernel
theorem d25_123 : decode prog_47_method_6_code 123 = .ok (.astore 5, 2) := by decide +kernel
theorem d25_125 : decode prog_47_method_6_code 125 = .ok (.aload 5, 2) := by decide +kernel
theorem d25_127 : decode prog_47_method_6_code 127 = .ok (.areturn, 1) := by decide +kernel
theorem efTN (m : MethodId) (ad0 : Addr) : entryFrame m #[(.ref ad0)] 6 = mkF m 0 #[.val (.ref ad0), .unset, .unset, .unset, .unset, .unset] [] := by first | (simp [entryFrame, mkF, argsToLocals, Value.category]; done) | rfl
def QTN (Z : State) (ad0 : Addr) (kp : Int32) (ls : Int32) (w : Int32) (off : Addr) (len : Addr) (wh : Addr) (h0 : Heap) (n0 : Nat) (v : Option Value) (h : Heap) (L : List Loc) : Prop := v = some .null ∧ Fr n0 L ∧ h = h0
set_option maxRecDepth 65536 in
set_option maxHeartbeats 40000000 in
theorem rmTN (l : Launch) (Z : State) (a0 : Array Value) (hw : ∀ d ∈ tables_1, d.before a0 Z = true) (ws : List Jvm.Cond) (ad0 : Addr) (kp : Int32) (ls : Int32) (w : Int32) (off : Addr) (len : Addr) (wh : Addr) (h0 : Heap) (n0 : Nat) (Z0 : n0 ≤ h0.size) (E_ad0 : Exa Z h0 ad0 own_cE) (F_kept_ad0 : Fld Z h0 ad0 own_cE "kept" "I" (.int kp)) (F_offsets_ad0 : Fld Z h0 ad0 own_cE "offsets" "[J" (.ref off)) (F_lengths_ad0 : Fld Z h0 ad0 own_cE "lengths" "[J" (.ref len)) (F_whole_ad0 : Fld Z h0 ad0 own_cE "whole" "Ljava/util/List;" (.ref wh)) (F_size_ad0 : Fld Z h0 ad0 own_cE "size" "I" (.int (3 : Int32))) (F_lastSpan_ad0 : Fld Z h0 ad0 own_cE "lastSpan" "I" (.int ls)) (F_taken_ad0 : Fld Z h0 ad0 own_cE "taken" "I" (.int (3 : Int32))) (F_takenWhole_ad0 : Fld Z h0 ad0 own_cE "takenWhole" "I" (.int w)) (g_ad0 : n0 ≤ ad0) :
    MetFree l own_y25 (head1 (Jvm.Cond.code own_y25 prog_47_method_6_code 6 (some (.object "com/example/resync/resync/model/LogEntry")) :: ws) ({ frames := 4, cells := 1, slots := 2, locals := 80 } : Room)) (fun a U => a = #[(.ref ad0)] ∧ Z.Warmed39 U.vm ∧ U.heap = h0) (fun _ _ _ _ _ => True) (fun _ U o U' => ∃ v L, o = .returned v ∧ QTN Z ad0 kp ls w off len wh h0 n0 v U'.heap L ∧ FrameEnd U o U' L ({ frames := 4, cells := 1, slots := 2, locals := 80 } : Room).cells ({ frames := 4, cells := 1, slots := 2, locals := 80 } : Room).slots) := by
  refine MetFree.of_bodySF (plainFor_of_name own_pn6) hisR ?_
  intro p e s m args below meth c s₁ Bd hml0 hP hK
  obtain ⟨rfl, hZ, hh⟩ := hP
  have hx := Bd.exec
  have hby := Bd.bytes
  have hml : c.maxLocals = 6 := hml0
  have hown : s.vm.findClass own_cE = some m.cls := findClass_of_methodNamed Bd.named
  have hnm := (name_of_methodNamed Bd.named Bd.method).1
  have hlk : meth.locks = false := BodyLoose.notSynchronized Bd
  have X0 : Stand p l e ({ frames := 4, cells := 1, slots := 2, locals := 80 } : Room) s m #[(.ref ad0)] below meth c s₁ [] 0 0 := Stand.of_body Bd
  have e0 : s₁.heap = h0 := by rw [← hh, Bd.state]; rfl
  have N0 := Fr.nil n0
  obtain ⟨G, hG⟩ : ∃ G, G = own_G s (QTN Z ad0 kp ls w off len wh h0 n0) ({ frames := 4, cells := 1, slots := 2, locals := 80 } : Room).cells ({ frames := 4, cells := 1, slots := 2, locals := 80 } : Room).slots := ⟨_, rfl⟩
  show own_Fin p e below (own_G s (QTN Z ad0 kp ls w off len wh h0 n0) ({ frames := 4, cells := 1, slots := 2, locals := 80 } : Room).cells ({ frames := 4, cells := 1, slots := 2, locals := 80 } : Room).slots) (s₁.setTop (entryFrame m #[(.ref ad0)] 6))
  rw [← hG]
  refine own_to (fun _ kz => castTop (efTN m ad0) kz) ?_
  show own_Fin p e below G (s₁.setTop (mkF m 0 #[.val (.ref ad0), .unset, .unset, .unset, .unset, .unset] []))
  refine own_aloadN X0 hx (hb hby d25_0) rfl (rfl) ?_
  obtain ⟨T1, X1, e1, st1⟩ := getF X0 hx hZ hown (host := "") (Or.inl (own_w hw 171 rfl)) Via.refl e0 F_taken_ad0 (g := (mkF m 1 #[.val (.ref ad0), .unset, .unset, .unset, .unset, .unset] [(.ref ad0)])) rfl rfl (hb hby d25_1)
  refine own_to st1 ?_
  show own_Fin p e below G (T1.setTop (mkF m 4 #[.val (.ref ad0), .unset, .unset, .unset, .unset, .unset] [(.int (3 : Int32))]))
  refine own_aloadN X1 hx (hb hby d25_4) rfl (rfl) ?_
  obtain ⟨T5, X5, e5, st5⟩ := getF X1 hx hZ hown (host := "") (Or.inl (own_w hw 96 rfl)) Via.refl e1 F_size_ad0 (g := (mkF m 5 #[.val (.ref ad0), .unset, .unset, .unset, .unset, .unset] [(.ref ad0), (.int (3 : Int32))])) rfl rfl (hb hby d25_5)
  refine own_to st5 ?_
  show own_Fin p e below G (T5.setTop (mkF m 8 #[.val (.ref ad0), .unset, .unset, .unset, .unset, .unset] [(.int (3 : Int32)), (.int (3 : Int32))]))
  have hc8 : (3 : Int32) = (3 : Int32) := by decide
  refine own_to (fun _ kz => XS.icmpNo X5.here hx rfl (hb hby d25_8) rfl (teq hc8).2 kz) ?_
  show own_Fin p e below G (T5.setTop (mkF m 11 #[.val (.ref ad0), .unset, .unset, .unset, .unset, .unset] []))
  refine own_to (fun _ kz => XS.aconstNull X5.here hx rfl (hb hby d25_11) kz) ?_
  show own_Fin p e below G (T5.setTop (mkF m 12 #[.val (.ref ad0), .unset, .unset, .unset, .unset, .unset] [.null]))
  exact own_retA X5 hx hlk hG Bd.returns rfl rfl (hb hby d25_12) (by decide) (by decide) ⟨rfl, N0, e5⟩
theorem efTS (m : MethodId) (ad0 : Addr) : entryFrame m #[(.ref ad0)] 6 = mkF m 0 #[.val (.ref ad0), .unset, .unset, .unset, .unset, .unset] [] := by first | (simp [entryFrame, mkF, argsToLocals, Value.category]; done) | rfl
def QTS (Z : State) (ad0 : Addr) (jn : Nat) (kp : Int32) (ls : Int32) (tk : Int32) (w : Int32) (fo : Nat → Int64) (fl : Nat → Int64) (off : Addr) (len : Addr) (wh : Addr) (h0 : Heap) (n0 : Nat) (v : Option Value) (h : Heap) (L : List Loc) : Prop := ∃ nw0 : Addr, v = some (.ref nw0) ∧ Fr n0 L ∧ Keep h0 h [ad0] ∧ h0.size ≤ nw0 ∧ Exa Z h ad0 own_cE ∧ Fld Z h ad0 own_cE "kept" "I" (.int kp) ∧ Fld Z h ad0 own_cE "offsets" "[J" (.ref off) ∧ Fld Z h ad0 own_cE "lengths" "[J" (.ref len) ∧ Fld Z h ad0 own_cE "whole" "Ljava/util/List;" (.ref wh) ∧ Fld Z h ad0 own_cE "size" "I" (.int (3 : Int32)) ∧ Fld Z h ad0 own_cE "lastSpan" "I" (.int ls) ∧ Fld Z h ad0 own_cE "taken" "I" (.int (tk + (1 : Int32))) ∧ Fld Z h ad0 own_cE "takenWhole" "I" (.int w) ∧ Exa Z h nw0 own_cD ∧ Fld Z h nw0 own_cD "offset" "J" (.long (fo jn)) ∧ Fld Z h nw0 own_cD "length" "J" (.long (-(fl jn)))
set_option maxRecDepth 65536 in
set_option maxHeartbeats 40000000 in
theorem rmTS (l : Launch) (Z : State) (a0 : Array Value) (hw : ∀ d ∈ tables_1, d.before a0 Z = true) (ws : List Jvm.Cond) (ad0 : Addr) (jn : Nat) (kp : Int32) (ls : Int32) (tk : Int32) (w : Int32) (fo : Nat → Int64) (fl : Nat → Int64) (off : Addr) (len : Addr) (wh : Addr) (h0 : Heap) (n0 : Nat) (Z0 : n0 ≤ h0.size) (E_ad0 : Exa Z h0 ad0 own_cE) (F_kept_ad0 : Fld Z h0 ad0 own_cE "kept" "I" (.int kp)) (F_offsets_ad0 : Fld Z h0 ad0 own_cE "offsets" "[J" (.ref off)) (F_lengths_ad0 : Fld Z h0 ad0 own_cE "lengths" "[J" (.ref len)) (F_whole_ad0 : Fld Z h0 ad0 own_cE "whole" "Ljava/util/List;" (.ref wh)) (F_size_ad0 : Fld Z h0 ad0 own_cE "size" "I" (.int (3 : Int32))) (F_lastSpan_ad0 : Fld Z h0 ad0 own_cE "lastSpan" "I" (.int ls)) (F_taken_ad0 : Fld Z h0 ad0 own_cE "taken" "I" (.int tk)) (F_takenWhole_ad0 : Fld Z h0 ad0 own_cE "takenWhole" "I" (.int w)) (g_ad0 : n0 ≤ ad0) (V_off : own_AV Value.long Z h0 off .long 16 fo) (V_len : own_AV Value.long Z h0 len .long 16 fl) (ne_off_ad0 : off ≠ ad0) (ne_len_ad0 : len ≠ ad0) (hj0 : ¬ tk < (0 : Int32)) (hjn : tk.toNatClampNeg = jn) (hjl : jn < 16) (h3 : ¬ tk = (3 : Int32)) (hle : ¬ (0 : Int64) < (fl jn)) (hne : ¬ (fl jn) = (0 : Int64)) (hoff : ¬ (fo jn) < (0 : Int64)) (hln : (0 : Int64) < (-(fl jn))) :
    MetFree l own_y25 (head1 (Jvm.Cond.code own_y25 prog_47_method_6_code 6 (some (.object "com/example/resync/resync/model/LogEntry")) :: ws) ({ frames := 4, cells := 1, slots := 2, locals := 80 } : Room)) (fun a U => a = #[(.ref ad0)] ∧ Z.Warmed39 U.vm ∧ U.heap = h0) (fun _ _ _ _ _ => True) (fun _ U o U' => ∃ v L, o = .returned v ∧ QTS Z ad0 jn kp ls tk w fo fl off len wh h0 n0 v U'.heap L ∧ FrameEnd U o U' L ({ frames := 4, cells := 1, slots := 2, locals := 80 } : Room).cells ({ frames := 4, cells := 1, slots := 2, locals := 80 } : Room).slots) := by
  refine MetFree.of_bodySF (plainFor_of_name own_pn6) hisR ?_
  intro p e s m args below meth c s₁ Bd hml0 hP hK
  obtain ⟨rfl, hZ, hh⟩ := hP
  have hx := Bd.exec
  have hby := Bd.bytes
  have hml : c.maxLocals = 6 := hml0
  have hown : s.vm.findClass own_cE = some m.cls := findClass_of_methodNamed Bd.named
  have hnm := (name_of_methodNamed Bd.named Bd.method).1
  have hlk : meth.locks = false := BodyLoose.notSynchronized Bd
  have X0 : Stand p l e ({ frames := 4, cells := 1, slots := 2, locals := 80 } : Room) s m #[(.ref ad0)] below meth c s₁ [] 0 0 := Stand.of_body Bd
  have e0 : s₁.heap = h0 := by rw [← hh, Bd.state]; rfl
  have N0 := Fr.nil n0
  obtain ⟨G, hG⟩ : ∃ G, G = own_G s (QTS Z ad0 jn kp ls tk w fo fl off len wh h0 n0) ({ frames := 4, cells := 1, slots := 2, locals := 80 } : Room).cells ({ frames := 4, cells := 1, slots := 2, locals := 80 } : Room).slots := ⟨_, rfl⟩
  show own_Fin p e below (own_G s (QTS Z ad0 jn kp ls tk w fo fl off len wh h0 n0) ({ frames := 4, cells := 1, slots := 2, locals := 80 } : Room).cells ({ frames := 4, cells := 1, slots := 2, locals := 80 } : Room).slots) (s₁.setTop (entryFrame m #[(.ref ad0)] 6))
  rw [← hG]
  refine own_to (fun _ kz => castTop (efTS m ad0) kz) ?_
  show own_Fin p e below G (s₁.setTop (mkF m 0 #[.val (.ref ad0), .unset, .unset, .unset, .unset, .unset] []))
  refine own_aloadN X0 hx (hb hby d25_0) rfl (rfl) ?_
  obtain ⟨T1, X1, e1, st1⟩ := getF X0 hx hZ hown (host := "") (Or.inl (own_w hw 171 rfl)) Via.refl e0 F_taken_ad0 (g := (mkF m 1 #[.val (.ref ad0), .unset, .unset, .unset, .unset, .unset] [(.ref ad0)])) rfl rfl (hb hby d25_1)
  refine own_to st1 ?_
  show own_Fin p e below G (T1.setTop (mkF m 4 #[.val (.ref ad0), .unset, .unset, .unset, .unset, .unset] [(.int tk)]))
  refine own_aloadN X1 hx (hb hby d25_4) rfl (rfl) ?_
  obtain ⟨T5, X5, e5, st5⟩ := getF X1 hx hZ hown (host := "") (Or.inl (own_w hw 96 rfl)) Via.refl e1 F_size_ad0 (g := (mkF m 5 #[.val (.ref ad0), .unset, .unset, .unset, .unset, .unset] [(.ref ad0), (.int tk)])) rfl rfl (hb hby d25_5)
  refine own_to st5 ?_
  show own_Fin p e below G (T5.setTop (mkF m 8 #[.val (.ref ad0), .unset, .unset, .unset, .unset, .unset] [(.int (3 : Int32)), (.int tk)]))
  have hc8 : ¬ (tk = (3 : Int32)) := h3
  refine own_to (fun _ kz => XS.icmpYes X5.here hx rfl (pc0 := 8) (pc' := 13) rfl (hb hby d25_8) rfl (feq hc8).2 (by decide) (by decide) kz) ?_
  show own_Fin p e below G (T5.setTop (mkF m 13 #[.val (.ref ad0), .unset, .unset, .unset, .unset, .unset] []))
  refine own_aloadN X5 hx (hb hby d25_13) rfl (rfl) ?_
  obtain ⟨T14, X14, e14, st14⟩ := getF X5 hx hZ hown (host := "") (Or.inl (own_w hw 42 rfl)) Via.refl e5 F_offsets_ad0 (g := (mkF m 14 #[.val (.ref ad0), .unset, .unset, .unset, .unset, .unset] [(.ref ad0)])) rfl rfl (hb hby d25_14)
  refine own_to st14 ?_
  show own_Fin p e below G (T14.setTop (mkF m 17 #[.val (.ref ad0), .unset, .unset, .unset, .unset, .unset] [(.ref off)]))
  refine own_aloadN X14 hx (hb hby d25_17) rfl (rfl) ?_
  obtain ⟨T18, X18, e18, st18⟩ := getF X14 hx hZ hown (host := "") (Or.inl (own_w hw 171 rfl)) Via.refl e14 F_taken_ad0 (g := (mkF m 18 #[.val (.ref ad0), .unset, .unset, .unset, .unset, .unset] [(.ref ad0), (.ref off)])) rfl rfl (hb hby d25_18)
  refine own_to st18 ?_
  show own_Fin p e below G (T18.setTop (mkF m 21 #[.val (.ref ad0), .unset, .unset, .unset, .unset, .unset] [(.int tk), (.ref off)]))
  refine own_to (fun _ kz => own_laload X18 hx hZ e18 V_off (j := tk) hj0 hjn hjl (g := (mkF m 21 #[.val (.ref ad0), .unset, .unset, .unset, .unset, .unset] [(.int tk), (.ref off)])) rfl rfl (hb hby d25_21) kz) ?_
  show own_Fin p e below G (T18.setTop (mkF m 22 #[.val (.ref ad0), .unset, .unset, .unset, .unset, .unset] [(.long (fo jn))]))
  refine own_to (fun _ kz => XS.lstoreN X18.here hx rfl (hb hby d25_22) rfl (l' := #[.val (.ref ad0), .val (.long (fo jn)), .second, .unset, .unset, .unset]) rfl kz) ?_
  show own_Fin p e below G (T18.setTop (mkF m 23 #[.val (.ref ad0), .val (.long (fo jn)), .second, .unset, .unset, .unset] []))
  refine own_aloadN X18 hx (hb hby d25_23) rfl (rfl) ?_
  obtain ⟨T24, X24, e24, st24⟩ := getF X18 hx hZ hown (host := "") (Or.inl (own_w hw 44 rfl)) Via.refl e18 F_lengths_ad0 (g := (mkF m 24 #[.val (.ref ad0), .val (.long (fo jn)), .second, .unset, .unset, .unset] [(.ref ad0)])) rfl rfl (hb hby d25_24)
  refine own_to st24 ?_
  show own_Fin p e below G (T24.setTop (mkF m 27 #[.val (.ref ad0), .val (.long (fo jn)), .second, .unset, .unset, .unset] [(.ref len)]))
  refine own_aloadN X24 hx (hb hby d25_27) rfl (rfl) ?_
  obtain ⟨T28, X28, e28, st28⟩ := getF X24 hx hZ hown (host := "") (Or.inl (own_w hw 171 rfl)) Via.refl e24 F_taken_ad0 (g := (mkF m 28 #[.val (.ref ad0), .val (.long (fo jn)), .second, .unset, .unset, .unset] [(.ref ad0), (.ref len)])) rfl rfl (hb hby d25_28)
  refine own_to st28 ?_
  show own_Fin p e below G (T28.setTop (mkF m 31 #[.val (.ref ad0), .val (.long (fo jn)), .second, .unset, .unset, .unset] [(.int tk), (.ref len)]))
  refine own_to (fun _ kz => own_laload X28 hx hZ e28 V_len (j := tk) hj0 hjn hjl (g := (mkF m 31 #[.val (.ref ad0), .val (.long (fo jn)), .second, .unset, .unset, .unset] [(.int tk), (.ref len)])) rfl rfl (hb hby d25_31) kz) ?_
  show own_Fin p e below G (T28.setTop (mkF m 32 #[.val (.ref ad0), .val (.long (fo jn)), .second, .unset, .unset, .unset] [(.long (fl jn))]))
  refine own_to (fun _ kz => XS.lstoreN X28.here hx rfl (hb hby d25_32) rfl (l' := #[.val (.ref ad0), .val (.long (fo jn)), .second, .val (.long (fl jn)), .second, .unset]) rfl kz) ?_
  show own_Fin p e below G (T28.setTop (mkF m 33 #[.val (.ref ad0), .val (.long (fo jn)), .second, .val (.long (fl jn)), .second, .unset] []))
  refine own_aloadN X28 hx (hb hby d25_33) rfl (rfl) ?_
  refine own_dup X28 hx (hb hby d25_34) rfl ?_
  obtain ⟨T35, X35, e35, st35⟩ := getF X28 hx hZ hown (host := "") (Or.inl (own_w hw 171 rfl)) Via.refl e28 F_taken_ad0 (g := (mkF m 35 #[.val (.ref ad0), .val (.long (fo jn)), .second, .val (.long (fl jn)), .second, .unset] [(.ref ad0), (.ref ad0)])) rfl rfl (hb hby d25_35)
  refine own_to st35 ?_
  show own_Fin p e below G (T35.setTop (mkF m 38 #[.val (.ref ad0), .val (.long (fo jn)), .second, .val (.long (fl jn)), .second, .unset] [(.int tk), (.ref ad0)]))
  refine own_iconst X35 hx (1) (hb hby d25_38) rfl ?_
  refine own_to (fun _ kz => XS.iadd X35.here hx rfl (hb hby d25_39) rfl kz) ?_
  show own_Fin p e below G (T35.setTop (mkF m 40 #[.val (.ref ad0), .val (.long (fo jn)), .second, .val (.long (fl jn)), .second, .unset] [(.int (tk + (1 : Int32))), (.ref ad0)]))
  obtain ⟨T40, h40, X40, e40, W40, st40⟩ := putF X35 hx hZ hown (host := "") (Or.inl (own_w hw 171 rfl)) Via.refl e35 F_taken_ad0 E_ad0 (Or.inl (own_w hw 172 rfl)) (own_w hw 30 rfl) (ty := .int) (by decide) rfl rfl (g := (mkF m 40 #[.val (.ref ad0), .val (.long (fo jn)), .second, .val (.long (fl jn)), .second, .unset] [(.int (tk + (1 : Int32))), (.ref ad0)])) rfl rfl (hb hby d25_40)
  refine own_to st40 ?_
  have Fw40 : Fld Z h40 ad0 own_cE "taken" "I" (.int (tk + (1 : Int32))) := Fld.same W40 F_taken_ad0
  obtain ⟨lo40, X40, N40⟩ : ∃ lo, Stand p l e _ s m _ below meth c T40 lo _ _ ∧ Fr n0 lo := ⟨_, X40, Fr.snoc X40 N0 g_ad0⟩
  show own_Fin p e below G (T40.setTop (mkF m 43 #[.val (.ref ad0), .val (.long (fo jn)), .second, .val (.long (fl jn)), .second, .unset] []))
  refine own_lloadN X40 hx (hb hby d25_43) rfl ?_
  refine own_to (fun _ kz => XS.lconst X40.here hx rfl (hb hby d25_44) kz) ?_
  show own_Fin p e below G (T40.setTop (mkF m 45 #[.val (.ref ad0), .val (.long (fo jn)), .second, .val (.long (fl jn)), .second, .unset] [(.long (0 : Int64)), (.long (fl jn))]))
  refine own_to (fun _ kz => XS.lcmp X40.here hx rfl (hb hby d25_45) rfl kz) ?_
  show own_Fin p e below G (T40.setTop (mkF m 46 #[.val (.ref ad0), .val (.long (fo jn)), .second, .val (.long (fl jn)), .second, .unset] [(.int (lcmpW (fl jn) (0 : Int64)))]))
  have hc46 : ¬ ((0 : Int64) < (fl jn)) := hle
  refine own_to (fun _ kz => XS.ifYes X40.here hx rfl (pc0 := 46) (pc' := 79) rfl (hb hby d25_46) rfl ((if0 _ _).trans (flt (fun q => hc46 ((lw_gt _ _).mp q))).2.2.2) (by decide) (by decide) kz) ?_
  show own_Fin p e below G (T40.setTop (mkF m 79 #[.val (.ref ad0), .val (.long (fo jn)), .second, .val (.long (fl jn)), .second, .unset] []))
  refine own_lloadN X40 hx (hb hby d25_79) rfl ?_
  refine own_to (fun _ kz => XS.lconst X40.here hx rfl (hb hby d25_80) kz) ?_
  show own_Fin p e below G (T40.setTop (mkF m 81 #[.val (.ref ad0), .val (.long (fo jn)), .second, .val (.long (fl jn)), .second, .unset] [(.long (0 : Int64)), (.long (fl jn))]))
  refine own_to (fun _ kz => XS.lcmp X40.here hx rfl (hb hby d25_81) rfl kz) ?_
  show own_Fin p e below G (T40.setTop (mkF m 82 #[.val (.ref ad0), .val (.long (fo jn)), .second, .val (.long (fl jn)), .second, .unset] [(.int (lcmpW (fl jn) (0 : Int64)))]))
  have hc82 : ¬ ((fl jn) = (0 : Int64)) := hne
  refine own_to (fun _ kz => XS.ifYes X40.here hx rfl (pc0 := 82) (pc' := 113) rfl (hb hby d25_82) rfl ((if0 _ _).trans (feq (fun q => hc82 ((lw_eq _ _).mp q))).2) (by decide) (by decide) kz) ?_
  show own_Fin p e below G (T40.setTop (mkF m 113 #[.val (.ref ad0), .val (.long (fo jn)), .second, .val (.long (fl jn)), .second, .unset] []))
  have Zz_113_W40 := Nat.le_trans Z0 (Nat.le_of_eq (Wr.size W40).symm)
  have Z_113 : n0 ≤ h40.size := Zz_113_W40
  have KP_113 : Keep h0 h40 [ad0] := ((Keep.refl h0 [ad0]).wr W40 (Or.inl (List.mem_of_getElem? (i := 0) rfl)))
  obtain ⟨T113, h113, X113, e113, E113, A113, D113, -, st113⟩ := newO X40 hx hZ hown (own_w hw 173 rfl) (own_w hw 174 rfl) (own_w hw 175 rfl) e40 (g := (mkF m 113 #[.val (.ref ad0), .val (.long (fo jn)), .second, .val (.long (fl jn)), .second, .unset] [])) rfl (hb hby d25_113) (by decide) (by decide)
  obtain ⟨b113, g113⟩ : ∃ z, z = h40.size := ⟨_, rfl⟩
  rw [← g113] at A113 D113 st113
  refine own_to st113 ?_
  have ne_ad0_b113 := Nat.ne_of_lt (Nat.lt_of_lt_of_le (E_ad0.wr W40).lt (Nat.le_of_eq g113.symm))
  have ne_off_b113 := Nat.ne_of_lt (Nat.lt_of_lt_of_le (V_off.other W40 ne_off_ad0).lt (Nat.le_of_eq g113.symm))
  have ne_len_b113 := Nat.ne_of_lt (Nat.lt_of_lt_of_le (V_len.other W40 ne_len_ad0).lt (Nat.le_of_eq g113.symm))
  have g_b113 : n0 ≤ b113 := Nat.le_trans Z_113 (Nat.le_of_eq g113.symm)
  have sz_b113 : h0.size ≤ b113 := Nat.le_trans KP_113.1 (Nat.le_of_eq g113.symm)
  have F_offset_b113 : Fld Z h113 b113 own_cD "offset" "J" (.long (0 : Int64)) := D113 (Or.inr (own_w hw 181 rfl)) (ty := .long) (by decide)
  have F_length_b113 : Fld Z h113 b113 own_cD "length" "J" (.long (0 : Int64)) := D113 (Or.inr (own_w hw 183 rfl)) (ty := .long) (by decide)
  show own_Fin p e below G (T113.setTop (mkF m 116 #[.val (.ref ad0), .val (.long (fo jn)), .second, .val (.long (fl jn)), .second, .unset] [(.ref b113)]))
  refine own_dup X113 hx (hb hby d25_116) rfl ?_
  refine own_lloadN X113 hx (hb hby d25_117) rfl ?_
  refine own_lloadN X113 hx (hb hby d25_118) rfl ?_
  refine own_to (fun _ kz => XS.lneg X113.here hx rfl (hb hby d25_119) rfl kz) ?_
  show own_Fin p e below G (T113.setTop (mkF m 120 #[.val (.ref ad0), .val (.long (fo jn)), .second, .val (.long (fl jn)), .second, .unset] [(.long (-(fl jn))), (.long (fo jn)), (.ref b113), (.ref b113)]))
  have Zz_120_E113 := Nat.le_trans Z_113 E113.1
  have Z_120 : n0 ≤ h113.size := Zz_120_E113
  obtain ⟨_, _, ⟨T120, L120, k120, n120⟩, -, X120, ⟨Lc120, hQ120, l120, y120, z120⟩, st120⟩ := X113.specialBack hx (y := own_y26) rfl hown (mvT hZ (own_w hw 176 rfl)) (mvT hZ (own_w hw 177 rfl)) (mvT hZ (own_w hw 178 rfl)) (by decide) (backOf (W := 1) (rm26 l Z a0 hw [] b113 (fo jn) (-(fl jn)) h113 n0 Z_120 A113 F_offset_b113 F_length_b113 g_b113 hoff hln) hZ (own_w hw 178 rfl) (own_w hw 175 rfl) (by decide) (by decide)) (g := (mkF m 120 #[.val (.ref ad0), .val (.long (fo jn)), .second, .val (.long (fl jn)), .second, .unset] [(.long (-(fl jn))), (.long (fo jn)), (.ref b113), (.ref b113)])) rfl (by rw [hml]; rfl) (Steps.refl _) (a := b113) (argsL := [(.long (fo jn)), (.long (-(fl jn)))]) (rest := [(.ref b113)]) (lenOf own_pd5 rfl) rfl (by show 2 * 0 + _ ≤ _; exact Nat.le_of_eq rfl) (hb hby d25_120) (fun _ _ => ⟨rfl, e113, (by decide : 1 + 0 ≤ _), (by decide : 2 + 0 ≤ _)⟩)
  dsimp only [Pt.U, Pt.locs, Pt.cells, Pt.slots] at X120 l120 y120 z120 st120 hQ120
  subst l120 y120 z120
  obtain ⟨rfl, N120q, Kp120, P120_0, P120_1, P120_2⟩ := hQ120
  obtain ⟨lo120, X120, N120⟩ : ∃ lo, Stand p l e _ s m _ below meth c T120 lo _ _ ∧ Fr n0 lo := ⟨_, X120, Fr.app N40 N120q⟩
  refine own_via st120 ?_
  show own_Fin p e below G (T120.setTop (mkF m 123 #[.val (.ref ad0), .val (.long (fo jn)), .second, .val (.long (fl jn)), .second, .unset] [(.ref b113)]))
  refine own_to (fun _ kz => XS.astore X120.here hx rfl (hb hby d25_123) rfl (rfl) (l' := #[.val (.ref ad0), .val (.long (fo jn)), .second, .val (.long (fl jn)), .second, .val (.ref b113)]) rfl kz) ?_
  show own_Fin p e below G (T120.setTop (mkF m 125 #[.val (.ref ad0), .val (.long (fo jn)), .second, .val (.long (fl jn)), .second, .val (.ref b113)] []))
  refine own_aload X120 hx (hb hby d25_125) rfl (rfl) ?_
  have KP_127 : Keep h0 T120.heap [ad0] := ((KP_113.ext E113).trans Kp120 (allS (Or.inr sz_b113) all0))
  have E_ad0_at_127 := (((E_ad0.wr W40).ext E113).keep Kp120)
  have F_kept_ad0_at_127 := (((F_kept_ad0.other W40 (Or.inr (slot_ne (Or.inr (own_w hw 79 rfl)) (Or.inl (own_w hw 172 rfl)) (by decide) (t := .int) (t' := .int) (by decide) (by decide)))).ext E113).keep Kp120 (ninS ne_ad0_b113 nin0))
  have F_offsets_ad0_at_127 := (((F_offsets_ad0.other W40 (Or.inr (slot_ne (Or.inl (own_w hw 43 rfl)) (Or.inl (own_w hw 172 rfl)) (by decide) (t := (.array .long)) (t' := .int) (by decide) (by decide)))).ext E113).keep Kp120 (ninS ne_ad0_b113 nin0))
  have F_lengths_ad0_at_127 := (((F_lengths_ad0.other W40 (Or.inr (slot_ne (Or.inl (own_w hw 45 rfl)) (Or.inl (own_w hw 172 rfl)) (by decide) (t := (.array .long)) (t' := .int) (by decide) (by decide)))).ext E113).keep Kp120 (ninS ne_ad0_b113 nin0))
  have F_whole_ad0_at_127 := (((F_whole_ad0.other W40 (Or.inr (slot_ne (Or.inr (own_w hw 71 rfl)) (Or.inl (own_w hw 172 rfl)) (by decide) (t := (.object "java/util/List")) (t' := .int) (by decide) (by decide)))).ext E113).keep Kp120 (ninS ne_ad0_b113 nin0))
  have F_size_ad0_at_127 := (((F_size_ad0.other W40 (Or.inr (slot_ne (Or.inl (own_w hw 97 rfl)) (Or.inl (own_w hw 172 rfl)) (by decide) (t := .int) (t' := .int) (by decide) (by decide)))).ext E113).keep Kp120 (ninS ne_ad0_b113 nin0))
  have F_lastSpan_ad0_at_127 := (((F_lastSpan_ad0.other W40 (Or.inr (slot_ne (Or.inl (own_w hw 73 rfl)) (Or.inl (own_w hw 172 rfl)) (by decide) (t := .int) (t' := .int) (by decide) (by decide)))).ext E113).keep Kp120 (ninS ne_ad0_b113 nin0))
  have Fw40_at_127 := ((Fw40.ext E113).keep Kp120 (ninS ne_ad0_b113 nin0))
  have F_takenWhole_ad0_at_127 := (((F_takenWhole_ad0.other W40 (Or.inr (slot_ne (Or.inl (own_w hw 205 rfl)) (Or.inl (own_w hw 172 rfl)) (by decide) (t := .int) (t' := .int) (by decide) (by decide)))).ext E113).keep Kp120 (ninS ne_ad0_b113 nin0))
  exact own_retA X120 hx hlk hG Bd.returns rfl rfl (hb hby d25_127) (by decide) (by decide) ⟨b113, rfl, N120, KP_127, sz_b113, E_ad0_at_127, F_kept_ad0_at_127, F_offsets_ad0_at_127, F_lengths_ad0_at_127, F_whole_ad0_at_127, F_size_ad0_at_127, F_lastSpan_ad0_at_127, Fw40_at_127, F_takenWhole_ad0_at_127, P120_0, P120_1, P120_2⟩
theorem efTR (m : MethodId) (ad0 : Addr) : entryFrame m #[(.ref ad0)] 6 = mkF m 0 #[.val (.ref ad0), .unset, .unset, .unset, .unset, .unset] [] := by first | (simp [entryFrame, mkF, argsToLocals, Value.category]; done) | rfl
def QTR (Z : State) (ad0 : Addr) (jn : Nat) (kp : Int32) (ls : Int32) (tk : Int32) (w : Int32) (fo : Nat → Int64) (fl : Nat → Int64) (jq : Nat) (cnt : Int32) (nn_ : Nat) (fe : Nat → Value) (off : Addr) (len : Addr) (wh : Addr) (rt : Addr) (ed : Addr) (h0 : Heap) (n0 : Nat) (v : Option Value) (h : Heap) (L : List Loc) : Prop := v = some (.ref rt) ∧ Fr n0 L ∧ Keep h0 h [ad0] ∧ Exa Z h ad0 own_cE ∧ Fld Z h ad0 own_cE "kept" "I" (.int kp) ∧ Fld Z h ad0 own_cE "offsets" "[J" (.ref off) ∧ Fld Z h ad0 own_cE "lengths" "[J" (.ref len) ∧ Fld Z h ad0 own_cE "whole" "Ljava/util/List;" (.ref wh) ∧ Fld Z h ad0 own_cE "size" "I" (.int (3 : Int32)) ∧ Fld Z h ad0 own_cE "lastSpan" "I" (.int ls) ∧ Fld Z h ad0 own_cE "taken" "I" (.int (tk + (1 : Int32))) ∧ Fld Z h ad0 own_cE "takenWhole" "I" (.int (w + (1 : Int32)))
set_option maxRecDepth 65536 in
set_option maxHeartbeats 40000000 in
theorem rmTR (l : Launch) (Z : State) (a0 : Array Value) (hw : ∀ d ∈ tables_1, d.before a0 Z = true) (ws : List Jvm.Cond) (ad0 : Addr) (jn : Nat) (kp : Int32) (ls : Int32) (tk : Int32) (w : Int32) (fo : Nat → Int64) (fl : Nat → Int64) (jq : Nat) (cnt : Int32) (nn_ : Nat) (fe : Nat → Value) (off : Addr) (len : Addr) (wh : Addr) (rt : Addr) (ed : Addr) (h0 : Heap) (n0 : Nat) (Z0 : n0 ≤ h0.size) (E_ad0 : Exa Z h0 ad0 own_cE) (F_kept_ad0 : Fld Z h0 ad0 own_cE "kept" "I" (.int kp)) (F_offsets_ad0 : Fld Z h0 ad0 own_cE "offsets" "[J" (.ref off)) (F_lengths_ad0 : Fld Z h0 ad0 own_cE "lengths" "[J" (.ref len)) (F_whole_ad0 : Fld Z h0 ad0 own_cE "whole" "Ljava/util/List;" (.ref wh)) (F_size_ad0 : Fld Z h0 ad0 own_cE "size" "I" (.int (3 : Int32))) (F_lastSpan_ad0 : Fld Z h0 ad0 own_cE "lastSpan" "I" (.int ls)) (F_taken_ad0 : Fld Z h0 ad0 own_cE "taken" "I" (.int tk)) (F_takenWhole_ad0 : Fld Z h0 ad0 own_cE "takenWhole" "I" (.int w)) (g_ad0 : n0 ≤ ad0) (V_off : own_AV Value.long Z h0 off .long 16 fo) (V_len : own_AV Value.long Z h0 len .long 16 fl) (ne_off_ad0 : off ≠ ad0) (ne_len_ad0 : len ≠ ad0) (hj0 : ¬ tk < (0 : Int32)) (hjn : tk.toNatClampNeg = jn) (hjl : jn < 16) (h3 : ¬ tk = (3 : Int32)) (hle : ¬ (0 : Int64) < (fl jn)) (heq : (fl jn) = (0 : Int64)) (E_rt : Exa Z h0 rt own_cR) (E_wh : Exa Z h0 wh own_cL) (F_elementData_wh : Fld Z h0 wh own_cL "elementData" own_cA (.ref ed)) (F_size_wh : Fld Z h0 wh own_cL "size" "I" (.int cnt)) (V_ed : own_AV id Z h0 ed (.object "java/lang/Object") nn_ fe) (ne_wh_ad0 : wh ≠ ad0) (ne_ed_ad0 : ed ≠ ad0) (hq0 : ¬ w < (0 : Int32)) (hqn : w.toNatClampNeg = jq) (hql : jq < nn_) (hqv : fe jq = .ref rt) (hqc : w < cnt) :
    MetFree l own_y25 (head1 (Jvm.Cond.code own_y25 prog_47_method_6_code 6 (some (.object "com/example/resync/resync/model/LogEntry")) :: ws) ({ frames := 4, cells := 1, slots := 2, locals := 80 } : Room)) (fun a U => a = #[(.ref ad0)] ∧ Z.Warmed39 U.vm ∧ U.heap = h0) (fun _ _ _ _ _ => True) (fun _ U o U' => ∃ v L, o = .returned v ∧ QTR Z ad0 jn kp ls tk w fo fl jq cnt nn_ fe off len wh rt ed h0 n0 v U'.heap L ∧ FrameEnd U o U' L ({ frames := 4, cells := 1, slots := 2, locals := 80 } : Room).cells ({ frames := 4, cells := 1, slots := 2, locals := 80 } : Room).slots) := by
  refine MetFree.of_bodySF (plainFor_of_name own_pn6) hisR ?_
  intro p e s m args below meth c s₁ Bd hml0 hP hK
  obtain ⟨rfl, hZ, hh⟩ := hP
  have hx := Bd.exec
  have hby := Bd.bytes
  have hml : c.maxLocals = 6 := hml0
  have hown : s.vm.findClass own_cE = some m.cls := findClass_of_methodNamed Bd.named
  have hnm := (name_of_methodNamed Bd.named Bd.method).1
  have hlk : meth.locks = false := BodyLoose.notSynchronized Bd
  have X0 : Stand p l e ({ frames := 4, cells := 1, slots := 2, locals := 80 } : Room) s m #[(.ref ad0)] below meth c s₁ [] 0 0 := Stand.of_body Bd
  have e0 : s₁.heap = h0 := by rw [← hh, Bd.state]; rfl
  have N0 := Fr.nil n0
  obtain ⟨G, hG⟩ : ∃ G, G = own_G s (QTR Z ad0 jn kp ls tk w fo fl jq cnt nn_ fe off len wh rt ed h0 n0) ({ frames := 4, cells := 1, slots := 2, locals := 80 } : Room).cells ({ frames := 4, cells := 1, slots := 2, locals := 80 } : Room).slots := ⟨_, rfl⟩
  show own_Fin p e below (own_G s (QTR Z ad0 jn kp ls tk w fo fl jq cnt nn_ fe off len wh rt ed h0 n0) ({ frames := 4, cells := 1, slots := 2, locals := 80 } : Room).cells ({ frames := 4, cells := 1, slots := 2, locals := 80 } : Room).slots) (s₁.setTop (entryFrame m #[(.ref ad0)] 6))
  rw [← hG]
  refine own_to (fun _ kz => castTop (efTR m ad0) kz) ?_
  show own_Fin p e below G (s₁.setTop (mkF m 0 #[.val (.ref ad0), .unset, .unset, .unset, .unset, .unset] []))
  refine own_aloadN X0 hx (hb hby d25_0) rfl (rfl) ?_
  obtain ⟨T1, X1, e1, st1⟩ := getF X0 hx hZ hown (host := "") (Or.inl (own_w hw 171 rfl)) Via.refl e0 F_taken_ad0 (g := (mkF m 1 #[.val (.ref ad0), .unset, .unset, .unset, .unset, .unset] [(.ref ad0)])) rfl rfl (hb hby d25_1)
  refine own_to st1 ?_
  show own_Fin p e below G (T1.setTop (mkF m 4 #[.val (.ref ad0), .unset, .unset, .unset, .unset, .unset] [(.int tk)]))
  refine own_aloadN X1 hx (hb hby d25_4) rfl (rfl) ?_
  obtain ⟨T5, X5, e5, st5⟩ := getF X1 hx hZ hown (host := "") (Or.inl (own_w hw 96 rfl)) Via.refl e1 F_size_ad0 (g := (mkF m 5 #[.val (.ref ad0), .unset, .unset, .unset, .unset, .unset] [(.ref ad0), (.int tk)])) rfl rfl (hb hby d25_5)
  refine own_to st5 ?_
  show own_Fin p e below G (T5.setTop (mkF m 8 #[.val (.ref ad0), .unset, .unset, .unset, .unset, .unset] [(.int (3 : Int32)), (.int tk)]))
  have hc8 : ¬ (tk = (3 : Int32)) := h3
  refine own_to (fun _ kz => XS.icmpYes X5.here hx rfl (pc0 := 8) (pc' := 13) rfl (hb hby d25_8) rfl (feq hc8).2 (by decide) (by decide) kz) ?_
  show own_Fin p e below G (T5.setTop (mkF m 13 #[.val (.ref ad0), .unset, .unset, .unset, .unset, .unset] []))
  refine own_aloadN X5 hx (hb hby d25_13) rfl (rfl) ?_
  obtain ⟨T14, X14, e14, st14⟩ := getF X5 hx hZ hown (host := "") (Or.inl (own_w hw 42 rfl)) Via.refl e5 F_offsets_ad0 (g := (mkF m 14 #[.val (.ref ad0), .unset, .unset, .unset, .unset, .unset] [(.ref ad0)])) rfl rfl (hb hby d25_14)
  refine own_to st14 ?_
  show own_Fin p e below G (T14.setTop (mkF m 17 #[.val (.ref ad0), .unset, .unset, .unset, .unset, .unset] [(.ref off)]))
  refine own_aloadN X14 hx (hb hby d25_17) rfl (rfl) ?_
  obtain ⟨T18, X18, e18, st18⟩ := getF X14 hx hZ hown (host := "") (Or.inl (own_w hw 171 rfl)) Via.refl e14 F_taken_ad0 (g := (mkF m 18 #[.val (.ref ad0), .unset, .unset, .unset, .unset, .unset] [(.ref ad0), (.ref off)])) rfl rfl (hb hby d25_18)
  refine own_to st18 ?_
  show own_Fin p e below G (T18.setTop (mkF m 21 #[.val (.ref ad0), .unset, .unset, .unset, .unset, .unset] [(.int tk), (.ref off)]))
  refine own_to (fun _ kz => own_laload X18 hx hZ e18 V_off (j := tk) hj0 hjn hjl (g := (mkF m 21 #[.val (.ref ad0), .unset, .unset, .unset, .unset, .unset] [(.int tk), (.ref off)])) rfl rfl (hb hby d25_21) kz) ?_
  show own_Fin p e below G (T18.setTop (mkF m 22 #[.val (.ref ad0), .unset, .unset, .unset, .unset, .unset] [(.long (fo jn))]))
  refine own_to (fun _ kz => XS.lstoreN X18.here hx rfl (hb hby d25_22) rfl (l' := #[.val (.ref ad0), .val (.long (fo jn)), .second, .unset, .unset, .unset]) rfl kz) ?_
  show own_Fin p e below G (T18.setTop (mkF m 23 #[.val (.ref ad0), .val (.long (fo jn)), .second, .unset, .unset, .unset] []))
  refine own_aloadN X18 hx (hb hby d25_23) rfl (rfl) ?_
  obtain ⟨T24, X24, e24, st24⟩ := getF X18 hx hZ hown (host := "") (Or.inl (own_w hw 44 rfl)) Via.refl e18 F_lengths_ad0 (g := (mkF m 24 #[.val (.ref ad0), .val (.long (fo jn)), .second, .unset, .unset, .unset] [(.ref ad0)])) rfl rfl (hb hby d25_24)
  refine own_to st24 ?_
  show own_Fin p e below G (T24.setTop (mkF m 27 #[.val (.ref ad0), .val (.long (fo jn)), .second, .unset, .unset, .unset] [(.ref len)]))
  refine own_aloadN X24 hx (hb hby d25_27) rfl (rfl) ?_
  obtain ⟨T28, X28, e28, st28⟩ := getF X24 hx hZ hown (host := "") (Or.inl (own_w hw 171 rfl)) Via.refl e24 F_taken_ad0 (g := (mkF m 28 #[.val (.ref ad0), .val (.long (fo jn)), .second, .unset, .unset, .unset] [(.ref ad0), (.ref len)])) rfl rfl (hb hby d25_28)
  refine own_to st28 ?_
  show own_Fin p e below G (T28.setTop (mkF m 31 #[.val (.ref ad0), .val (.long (fo jn)), .second, .unset, .unset, .unset] [(.int tk), (.ref len)]))
  refine own_to (fun _ kz => own_laload X28 hx hZ e28 V_len (j := tk) hj0 hjn hjl (g := (mkF m 31 #[.val (.ref ad0), .val (.long (fo jn)), .second, .unset, .unset, .unset] [(.int tk), (.ref len)])) rfl rfl (hb hby d25_31) kz) ?_
  show own_Fin p e below G (T28.setTop (mkF m 32 #[.val (.ref ad0), .val (.long (fo jn)), .second, .unset, .unset, .unset] [(.long (fl jn))]))
  refine own_to (fun _ kz => XS.lstoreN X28.here hx rfl (hb hby d25_32) rfl (l' := #[.val (.ref ad0), .val (.long (fo jn)), .second, .val (.long (fl jn)), .second, .unset]) rfl kz) ?_
  show own_Fin p e below G (T28.setTop (mkF m 33 #[.val (.ref ad0), .val (.long (fo jn)), .second, .val (.long (fl jn)), .second, .unset] []))
  refine own_aloadN X28 hx (hb hby d25_33) rfl (rfl) ?_
  refine own_dup X28 hx (hb hby d25_34) rfl ?_
  obtain ⟨T35, X35, e35, st35⟩ := getF X28 hx hZ hown (host := "") (Or.inl (own_w hw 171 rfl)) Via.refl e28 F_taken_ad0 (g := (mkF m 35 #[.val (.ref ad0), .val (.long (fo jn)), .second, .val (.long (fl jn)), .second, .unset] [(.ref ad0), (.ref ad0)])) rfl rfl (hb hby d25_35)
  refine own_to st35 ?_
  show own_Fin p e below G (T35.setTop (mkF m 38 #[.val (.ref ad0), .val (.long (fo jn)), .second, .val (.long (fl jn)), .second, .unset] [(.int tk), (.ref ad0)]))
  refine own_iconst X35 hx (1) (hb hby d25_38) rfl ?_
  refine own_to (fun _ kz => XS.iadd X35.here hx rfl (hb hby d25_39) rfl kz) ?_
  show own_Fin p e below G (T35.setTop (mkF m 40 #[.val (.ref ad0), .val (.long (fo jn)), .second, .val (.long (fl jn)), .second, .unset] [(.int (tk + (1 : Int32))), (.ref ad0)]))
  obtain ⟨T40, h40, X40, e40, W40, st40⟩ := putF X35 hx hZ hown (host := "") (Or.inl (own_w hw 171 rfl)) Via.refl e35 F_taken_ad0 E_ad0 (Or.inl (own_w hw 172 rfl)) (own_w hw 30 rfl) (ty := .int) (by decide) rfl rfl (g := (mkF m 40 #[.val (.ref ad0), .val (.long (fo jn)), .second, .val (.long (fl jn)), .second, .unset] [(.int (tk + (1 : Int32))), (.ref ad0)])) rfl rfl (hb hby d25_40)
  refine own_to st40 ?_
  have Fw40 : Fld Z h40 ad0 own_cE "taken" "I" (.int (tk + (1 : Int32))) := Fld.same W40 F_taken_ad0
  obtain ⟨lo40, X40, N40⟩ : ∃ lo, Stand p l e _ s m _ below meth c T40 lo _ _ ∧ Fr n0 lo := ⟨_, X40, Fr.snoc X40 N0 g_ad0⟩
  show own_Fin p e below G (T40.setTop (mkF m 43 #[.val (.ref ad0), .val (.long (fo jn)), .second, .val (.long (fl jn)), .second, .unset] []))
  refine own_lloadN X40 hx (hb hby d25_43) rfl ?_
  refine own_to (fun _ kz => XS.lconst X40.here hx rfl (hb hby d25_44) kz) ?_
  show own_Fin p e below G (T40.setTop (mkF m 45 #[.val (.ref ad0), .val (.long (fo jn)), .second, .val (.long (fl jn)), .second, .unset] [(.long (0 : Int64)), (.long (fl jn))]))
  refine own_to (fun _ kz => XS.lcmp X40.here hx rfl (hb hby d25_45) rfl kz) ?_
  show own_Fin p e below G (T40.setTop (mkF m 46 #[.val (.ref ad0), .val (.long (fo jn)), .second, .val (.long (fl jn)), .second, .unset] [(.int (lcmpW (fl jn) (0 : Int64)))]))
  have hc46 : ¬ ((0 : Int64) < (fl jn)) := hle
  refine own_to (fun _ kz => XS.ifYes X40.here hx rfl (pc0 := 46) (pc' := 79) rfl (hb hby d25_46) rfl ((if0 _ _).trans (flt (fun q => hc46 ((lw_gt _ _).mp q))).2.2.2) (by decide) (by decide) kz) ?_
  show own_Fin p e below G (T40.setTop (mkF m 79 #[.val (.ref ad0), .val (.long (fo jn)), .second, .val (.long (fl jn)), .second, .unset] []))
  refine own_lloadN X40 hx (hb hby d25_79) rfl ?_
  refine own_to (fun _ kz => XS.lconst X40.here hx rfl (hb hby d25_80) kz) ?_
  show own_Fin p e below G (T40.setTop (mkF m 81 #[.val (.ref ad0), .val (.long (fo jn)), .second, .val (.long (fl jn)), .second, .unset] [(.long (0 : Int64)), (.long (fl jn))]))
  refine own_to (fun _ kz => XS.lcmp X40.here hx rfl (hb hby d25_81) rfl kz) ?_
  show own_Fin p e below G (T40.setTop (mkF m 82 #[.val (.ref ad0), .val (.long (fo jn)), .second, .val (.long (fl jn)), .second, .unset] [(.int (lcmpW (fl jn) (0 : Int64)))]))
  have hc82 : (fl jn) = (0 : Int64) := heq
  refine own_to (fun _ kz => XS.ifNo X40.here hx rfl (hb hby d25_82) rfl ((if0 _ _).trans (teq ((lw_eq _ _).mpr hc82)).2) kz) ?_
  show own_Fin p e below G (T40.setTop (mkF m 85 #[.val (.ref ad0), .val (.long (fo jn)), .second, .val (.long (fl jn)), .second, .unset] []))
  refine own_aloadN X40 hx (hb hby d25_85) rfl (rfl) ?_
  have F_whole_ad0_at_86 := (F_whole_ad0.other W40 (Or.inr (slot_ne (Or.inr (own_w hw 71 rfl)) (Or.inl (own_w hw 172 rfl)) (by decide) (t := (.object "java/util/List")) (t' := .int) (by decide) (by decide))))
  obtain ⟨T86, X86, e86, st86⟩ := getF X40 hx hZ hown (host := "") (Or.inl (own_w hw 70 rfl)) Via.refl e40 F_whole_ad0_at_86 (g := (mkF m 86 #[.val (.ref ad0), .val (.long (fo jn)), .second, .val (.long (fl jn)), .second, .unset] [(.ref ad0)])) rfl rfl (hb hby d25_86)
  refine own_to st86 ?_
  show own_Fin p e below G (T86.setTop (mkF m 89 #[.val (.ref ad0), .val (.long (fo jn)), .second, .val (.long (fl jn)), .second, .unset] [(.ref wh)]))
  refine own_aloadN X86 hx (hb hby d25_89) rfl (rfl) ?_
  refine own_dup X86 hx (hb hby d25_90) rfl ?_
  have F_takenWhole_ad0_at_91 := (F_takenWhole_ad0.other W40 (Or.inr (slot_ne (Or.inl (own_w hw 205 rfl)) (Or.inl (own_w hw 172 rfl)) (by decide) (t := .int) (t' := .int) (by decide) (by decide))))
  obtain ⟨T91, X91, e91, st91⟩ := getF X86 hx hZ hown (host := "") (Or.inl (own_w hw 204 rfl)) Via.refl e86 F_takenWhole_ad0_at_91 (g := (mkF m 91 #[.val (.ref ad0), .val (.long (fo jn)), .second, .val (.long (fl jn)), .second, .unset] [(.ref ad0), (.ref ad0), (.ref wh)])) rfl rfl (hb hby d25_91)
  refine own_to st91 ?_
  show own_Fin p e below G (T91.setTop (mkF m 94 #[.val (.ref ad0), .val (.long (fo jn)), .second, .val (.long (fl jn)), .second, .unset] [(.int w), (.ref ad0), (.ref wh)]))
  refine own_to (fun _ kz => XS.dupX1 X91.here hx rfl (hb hby d25_94) rfl rfl rfl kz) ?_
  show own_Fin p e below G (T91.setTop (mkF m 95 #[.val (.ref ad0), .val (.long (fo jn)), .second, .val (.long (fl jn)), .second, .unset] [(.int w), (.ref ad0), (.int w), (.ref wh)]))
  refine own_iconst X91 hx (1) (hb hby d25_95) rfl ?_
  refine own_to (fun _ kz => XS.iadd X91.here hx rfl (hb hby d25_96) rfl kz) ?_
  show own_Fin p e below G (T91.setTop (mkF m 97 #[.val (.ref ad0), .val (.long (fo jn)), .second, .val (.long (fl jn)), .second, .unset] [(.int (w + (1 : Int32))), (.ref ad0), (.int w), (.ref wh)]))
  have E_ad0_at_97 := (E_ad0.wr W40)
  obtain ⟨T97, h97, X97, e97, W97, st97⟩ := putF X91 hx hZ hown (host := "") (Or.inl (own_w hw 204 rfl)) Via.refl e91 F_takenWhole_ad0_at_91 E_ad0_at_97 (Or.inl (own_w hw 205 rfl)) (own_w hw 30 rfl) (ty := .int) (by decide) rfl rfl (g := (mkF m 97 #[.val (.ref ad0), .val (.long (fo jn)), .second, .val (.long (fl jn)), .second, .unset] [(.int (w + (1 : Int32))), (.ref ad0), (.int w), (.ref wh)])) rfl rfl (hb hby d25_97)
  refine own_to st97 ?_
  have Fw97 : Fld Z h97 ad0 own_cE "takenWhole" "I" (.int (w + (1 : Int32))) := Fld.same W97 F_takenWhole_ad0_at_91
  obtain ⟨lo97, X97, N97⟩ : ∃ lo, Stand p l e _ s m _ below meth c T97 lo _ _ ∧ Fr n0 lo := ⟨_, X97, Fr.snoc X97 N40 g_ad0⟩
  show own_Fin p e below G (T97.setTop (mkF m 100 #[.val (.ref ad0), .val (.long (fo jn)), .second, .val (.long (fl jn)), .second, .unset] [(.int w), (.ref wh)]))
  have E_wh_at_100 := ((E_wh.wr W40).wr W97)
  have F_elementData_wh_at_100 := ((F_elementData_wh.other W40 (Or.inl ne_wh_ad0)).other W97 (Or.inl ne_wh_ad0))
  have V_ed_at_100 := ((V_ed.other W40 ne_ed_ad0).other W97 ne_ed_ad0)
  have F_size_wh_at_100 := ((F_size_wh.other W40 (Or.inl ne_wh_ad0)).other W97 (Or.inl ne_wh_ad0))
  have Zz_100_W40 := Nat.le_trans Z0 (Nat.le_of_eq (Wr.size W40).symm)
  have Zz_100_W97 := Nat.le_trans Zz_100_W40 (Nat.le_of_eq (Wr.size W97).symm)
  have Z_100 : n0 ≤ h97.size := Zz_100_W97
  obtain ⟨cq100, kq100, qa100, qb100, qc100⟩ := isOf hZ e97 E_wh_at_100
  obtain ⟨_, _, ⟨T100, L100, k100, n100⟩, -, X100, ⟨Lc100, hQ100, l100, y100, z100⟩, st100⟩ := X97.interfaceBack hx (xi := (⟨"java/util/List", "get", "(I)Ljava/lang/Object;"⟩ : MethodName)) (y := own_y31) hown (mvT hZ (own_w hw 206 rfl)) (mvT hZ (own_w hw 207 rfl)) (mvT hZ (own_w hw 208 rfl)) (mvT hZ (own_w hw 209 rfl)) (mvT hZ (own_w hw 210 rfl)) (mvT hZ (own_w hw 211 rfl)) (mvT hZ (own_w hw 212 rfl)) (mvT hZ (own_w hw 134 rfl)) (by decide) (backOf (W := 0) (rm31 l Z a0 hw [] wh w jq nn_ fe cnt rt ed h97 n0 Z_100 E_wh_at_100 F_elementData_wh_at_100 V_ed_at_100 hq0 hqn hql hqv F_size_wh_at_100 hqc) hZ (own_w hw 213 rfl) (own_w hw 48 rfl) (by decide) (by decide)) qa100 qb100 qc100 (g := (mkF m 100 #[.val (.ref ad0), .val (.long (fo jn)), .second, .val (.long (fl jn)), .second, .unset] [(.int w), (.ref wh)])) rfl (by rw [hml]; rfl) (Steps.refl _) (argsL := [(.int w)]) (rest := []) (lenOf own_pd15 rfl) rfl (by show 2 * 0 + _ ≤ _; exact Nat.le_of_eq rfl) (hb hby d25_100) (fun _ _ => ⟨rfl, e97, (by decide : 0 + 0 ≤ _), (by decide : 0 + 0 ≤ _)⟩)
  dsimp only [Pt.U, Pt.locs, Pt.cells, Pt.slots] at X100 l100 y100 z100 st100 hQ100
  subst l100 y100 z100
  obtain ⟨rfl, N100q, e100⟩ := hQ100
  obtain ⟨lo100, X100, N100⟩ : ∃ lo, Stand p l e _ s m _ below meth c T100 lo _ _ ∧ Fr n0 lo := ⟨_, X100, Fr.app N97 N100q⟩
  refine own_via st100 ?_
  show own_Fin p e below G (T100.setTop (mkF m 105 #[.val (.ref ad0), .val (.long (fo jn)), .second, .val (.long (fl jn)), .second, .unset] [(.ref rt)]))
  have E_rt_at_105 := ((E_rt.wr W40).wr W97)
  obtain ⟨T105, X105, e105, st105⟩ := castY X100 hx hZ hown (own_w hw 227 rfl) e100 (Ins.of_exa E_rt_at_105 (own_w hw 228 rfl)) (g := (mkF m 105 #[.val (.ref ad0), .val (.long (fo jn)), .second, .val (.long (fl jn)), .second, .unset] [(.ref rt)])) rfl rfl (hb hby d25_105)
  refine own_to st105 ?_
  show own_Fin p e below G (T105.setTop (mkF m 108 #[.val (.ref ad0), .val (.long (fo jn)), .second, .val (.long (fl jn)), .second, .unset] [(.ref rt)]))
  refine own_to (fun _ kz => XS.astore X105.here hx rfl (hb hby d25_108) rfl (rfl) (l' := #[.val (.ref ad0), .val (.long (fo jn)), .second, .val (.long (fl jn)), .second, .val (.ref rt)]) rfl kz) ?_
  show own_Fin p e below G (T105.setTop (mkF m 110 #[.val (.ref ad0), .val (.long (fo jn)), .second, .val (.long (fl jn)), .second, .val (.ref rt)] []))
  refine own_to (fun _ kz => XS.goto X105.here hx rfl (pc0 := 110) (pc' := 125) rfl (hb hby d25_110) (by decide) (by decide) kz) ?_
  show own_Fin p e below G (T105.setTop (mkF m 125 #[.val (.ref ad0), .val (.long (fo jn)), .second, .val (.long (fl jn)), .second, .val (.ref rt)] []))
  refine own_aload X105 hx (hb hby d25_125) rfl (rfl) ?_
  have KP_127 : Keep h0 h97 [ad0] := (((Keep.refl h0 [ad0]).wr W40 (Or.inl (List.mem_of_getElem? (i := 0) rfl))).wr W97 (Or.inl (List.mem_of_getElem? (i := 0) rfl)))
  have E_ad0_at_127 := (E_ad0_at_97.wr W97)
  have F_kept_ad0_at_127 := ((F_kept_ad0.other W40 (Or.inr (slot_ne (Or.inr (own_w hw 79 rfl)) (Or.inl (own_w hw 172 rfl)) (by decide) (t := .int) (t' := .int) (by decide) (by decide)))).other W97 (Or.inr (slot_ne (Or.inr (own_w hw 79 rfl)) (Or.inl (own_w hw 205 rfl)) (by decide) (t := .int) (t' := .int) (by decide) (by decide))))
  have F_offsets_ad0_at_127 := ((F_offsets_ad0.other W40 (Or.inr (slot_ne (Or.inl (own_w hw 43 rfl)) (Or.inl (own_w hw 172 rfl)) (by decide) (t := (.array .long)) (t' := .int) (by decide) (by decide)))).other W97 (Or.inr (slot_ne (Or.inl (own_w hw 43 rfl)) (Or.inl (own_w hw 205 rfl)) (by decide) (t := (.array .long)) (t' := .int) (by decide) (by decide))))
  have F_lengths_ad0_at_127 := ((F_lengths_ad0.other W40 (Or.inr (slot_ne (Or.inl (own_w hw 45 rfl)) (Or.inl (own_w hw 172 rfl)) (by decide) (t := (.array .long)) (t' := .int) (by decide) (by decide)))).other W97 (Or.inr (slot_ne (Or.inl (own_w hw 45 rfl)) (Or.inl (own_w hw 205 rfl)) (by decide) (t := (.array .long)) (t' := .int) (by decide) (by decide))))
  have F_whole_ad0_at_127 := (F_whole_ad0_at_86.other W97 (Or.inr (slot_ne (Or.inr (own_w hw 71 rfl)) (Or.inl (own_w hw 205 rfl)) (by decide) (t := (.object "java/util/List")) (t' := .int) (by decide) (by decide))))
  have F_size_ad0_at_127 := ((F_size_ad0.other W40 (Or.inr (slot_ne (Or.inl (own_w hw 97 rfl)) (Or.inl (own_w hw 172 rfl)) (by decide) (t := .int) (t' := .int) (by decide) (by decide)))).other W97 (Or.inr (slot_ne (Or.inl (own_w hw 97 rfl)) (Or.inl (own_w hw 205 rfl)) (by decide) (t := .int) (t' := .int) (by decide) (by decide))))
  have F_lastSpan_ad0_at_127 := ((F_lastSpan_ad0.other W40 (Or.inr (slot_ne (Or.inl (own_w hw 73 rfl)) (Or.inl (own_w hw 172 rfl)) (by decide) (t := .int) (t' := .int) (by decide) (by decide)))).other W97 (Or.inr (slot_ne (Or.inl (own_w hw 73 rfl)) (Or.inl (own_w hw 205 rfl)) (by decide) (t := .int) (t' := .int) (by decide) (by decide))))
  have Fw40_at_127 := (Fw40.other W97 (Or.inr (slot_ne (Or.inl (own_w hw 172 rfl)) (Or.inl (own_w hw 205 rfl)) (by decide) (t := .int) (t' := .int) (by decide) (by decide))))
  exact own_retA X105 hx hlk hG Bd.returns rfl rfl (hb hby d25_127) (by decide) (by decide) (by rw [e105]; exact ⟨rfl, N100, KP_127, E_ad0_at_127, F_kept_ad0_at_127, F_offsets_ad0_at_127, F_lengths_ad0_at_127, F_whole_ad0_at_127, F_size_ad0_at_127, F_lastSpan_ad0_at_127, Fw40_at_127, Fw97⟩)
theorem d27_0 : decode method_5_code 0 = .ok (.iload_n 1, 1) := by decide +kernel
theorem d27_1 : decode method_5_code 1 = .ok (.iconst 3, 1) := by decide +kernel
theorem d27_2 : decode method_5_code 2 = .ok (.if_icmp .lt 13, 3) := by decide +kernel
theorem d27_5 : decode method_5_code 5 = .ok (.aload_n 0, 1) := by decide +kernel
theorem d27_6 : decode method_5_code 6 = .ok (.ifnonnull 7, 3) := by decide +kernel
theorem d27_9 : decode method_5_code 9 = .ok (.iconst 1, 1) := by decide +kernel
theorem d27_10 : decode method_5_code 10 = .ok (.goto 4, 3) := by decide +kernel
theorem d27_13 : decode method_5_code 13 = .ok (.iconst 0, 1) := by decide +kernel
theorem d27_14 : decode method_5_code 14 = .ok (.ireturn, 1) := by decide +kernel
theorem efMN (m : MethodId) (p1 : Int32) (p2 : Int32) (ad3 : Addr) (x4 : Int64) (x5 : Int64) : entryFrame m #[.null, (.int p1), (.int p2), (.ref ad3), (.long x4), (.long x5)] 9 = mkF m 0 #[.val .null, .val (.int p1), .val (.int p2), .val (.ref ad3), .val (.long x4), .second, .val (.long x5), .second, .unset] [] := by first | (simp [entryFrame, mkF, argsToLocals, Value.category]; done) | rfl
def QMN (Z : State) (p1 : Int32) (p2 : Int32) (ad3 : Addr) (x4 : Int64) (x5 : Int64) (h0 : Heap) (n0 : Nat) (v : Option Value) (h : Heap) (L : List Loc) : Prop := v = some (.int 1) ∧ Fr n0 L ∧ h = h0
set_option maxRecDepth 65536 in
set_option maxHeartbeats 40000000 in
theorem rmMN (l : Launch) (Z : State) (a0 : Array Value) (hw : ∀ d ∈ tables_1, d.before a0 Z = true) (ws : List Jvm.Cond) (p1 : Int32) (p2 : Int32) (ad3 : Addr) (x4 : Int64) (x5 : Int64) (h0 : Heap) (n0 : Nat) (Z0 : n0 ≤ h0.size) (h3 : ¬ p1 < (3 : Int32)) :
    MetFree l own_y27 (head1 (Jvm.Cond.code own_y27 method_5_code 9 (some .boolean) :: ws) ({ frames := 1, cells := 0, slots := 0, locals := 40 } : Room)) (fun a U => a = #[.null, (.int p1), (.int p2), (.ref ad3), (.long x4), (.long x5)] ∧ Z.Warmed39 U.vm ∧ U.heap = h0) (fun _ _ _ _ _ => True) (fun _ U o U' => ∃ v L, o = .returned v ∧ QMN Z p1 p2 ad3 x4 x5 h0 n0 v U'.heap L ∧ FrameEnd U o U' L ({ frames := 1, cells := 0, slots := 0, locals := 40 } : Room).cells ({ frames := 1, cells := 0, slots := 0, locals := 40 } : Room).slots) := by
  refine MetFree.of_bodySF (plainFor_of_name own_pn0) hisR ?_
  intro p e s m args below meth c s₁ Bd hml0 hP hK
  obtain ⟨rfl, hZ, hh⟩ := hP
  have hx := Bd.exec
  have hby := Bd.bytes
  have hml : c.maxLocals = 9 := hml0
  have hown : s.vm.findClass own_cW = some m.cls := findClass_of_methodNamed Bd.named
  have hnm := (name_of_methodNamed Bd.named Bd.method).1
  have hlk : meth.locks = false := BodyLoose.notSynchronized Bd
  have X0 : Stand p l e ({ frames := 1, cells := 0, slots := 0, locals := 40 } : Room) s m #[.null, (.int p1), (.int p2), (.ref ad3), (.long x4), (.long x5)] below meth c s₁ [] 0 0 := Stand.of_body Bd
  have e0 : s₁.heap = h0 := by rw [← hh, Bd.state]; rfl
  have N0 := Fr.nil n0
  obtain ⟨G, hG⟩ : ∃ G, G = own_G s (QMN Z p1 p2 ad3 x4 x5 h0 n0) ({ frames := 1, cells := 0, slots := 0, locals := 40 } : Room).cells ({ frames := 1, cells := 0, slots := 0, locals := 40 } : Room).slots := ⟨_, rfl⟩
  show own_Fin p e below (own_G s (QMN Z p1 p2 ad3 x4 x5 h0 n0) ({ frames := 1, cells := 0, slots := 0, locals := 40 } : Room).cells ({ frames := 1, cells := 0, slots := 0, locals := 40 } : Room).slots) (s₁.setTop (entryFrame m #[.null, (.int p1), (.int p2), (.ref ad3), (.long x4), (.long x5)] 9))
  rw [← hG]
  refine own_to (fun _ kz => castTop (efMN m p1 p2 ad3 x4 x5) kz) ?_
  show own_Fin p e below G (s₁.setTop (mkF m 0 #[.val .null, .val (.int p1), .val (.int p2), .val (.ref ad3), .val (.long x4), .second, .val (.long x5), .second, .unset] []))
  refine own_iloadN X0 hx (hb hby d27_0) rfl ?_
  refine own_iconst X0 hx (3) (hb hby d27_1) rfl ?_
  have hc2 : ¬ (p1 < (3 : Int32)) := h3
  refine own_to (fun _ kz => XS.icmpNo X0.here hx rfl (hb hby d27_2) rfl (flt hc2).1 kz) ?_
  show own_Fin p e below G (s₁.setTop (mkF m 5 #[.val .null, .val (.int p1), .val (.int p2), .val (.ref ad3), .val (.long x4), .second, .val (.long x5), .second, .unset] []))
  refine own_aloadN X0 hx (hb hby d27_5) rfl (rfl) ?_
  refine own_to (fun _ kz => XS.ifnonnullNo X0.here hx rfl (hb hby d27_6) rfl kz) ?_
  show own_Fin p e below G (s₁.setTop (mkF m 9 #[.val .null, .val (.int p1), .val (.int p2), .val (.ref ad3), .val (.long x4), .second, .val (.long x5), .second, .unset] []))
  refine own_iconst X0 hx (1) (hb hby d27_9) rfl ?_
  refine own_to (fun _ kz => XS.goto X0.here hx rfl (pc0 := 10) (pc' := 14) rfl (hb hby d27_10) (by decide) (by decide) kz) ?_
  show own_Fin p e below G (s₁.setTop (mkF m 14 #[.val .null, .val (.int p1), .val (.int p2), .val (.ref ad3), .val (.long x4), .second, .val (.long x5), .second, .unset] [(.int (1 : Int32))]))
  exact own_retN X0 hx hlk hG (t := .boolean) Bd.returns (by simp) (hb hby d27_14) (by decide) (by decide) ⟨rfl, N0, e0⟩
theorem d27_15 : decode method_5_code 15 = .ok (.iload_n 2, 1) := by decide +kernel
theorem d27_16 : decode method_5_code 16 = .ok (.iload_n 1, 1) := by decide +kernel
theorem d27_17 : decode method_5_code 17 = .ok (.invokestatic 9, 3) := by decide +kernel
theorem d27_20 : decode method_5_code 20 = .ok (.ifCond .eq 50, 3) := by decide +kernel
theorem d27_23 : decode method_5_code 23 = .ok (.aload_n 0, 1) := by decide +kernel
theorem d27_24 : decode method_5_code 24 = .ok (.instanceof 29, 3) := by decide +kernel
theorem d27_27 : decode method_5_code 27 = .ok (.ifCond .ne 5, 3) := by decide +kernel
theorem d27_30 : decode method_5_code 30 = .ok (.iconst 0, 1) := by decide +kernel
theorem d27_31 : decode method_5_code 31 = .ok (.ireturn, 1) := by decide +kernel
theorem d27_32 : decode method_5_code 32 = .ok (.aload_n 0, 1) := by decide +kernel
theorem d27_33 : decode method_5_code 33 = .ok (.checkcast 29, 3) := by decide +kernel
theorem d27_36 : decode method_5_code 36 = .ok (.astore 8, 2) := by decide +kernel
theorem d27_38 : decode method_5_code 38 = .ok (.aload 8, 2) := by decide +kernel
theorem d27_40 : decode method_5_code 40 = .ok (.invokevirtual 31, 3) := by decide +kernel
theorem d27_43 : decode method_5_code 43 = .ok (.lload 4, 2) := by decide +kernel
theorem d27_45 : decode method_5_code 45 = .ok (.iload_n 1, 1) := by decide +kernel
theorem d27_46 : decode method_5_code 46 = .ok (.invokestatic 15, 3) := by decide +kernel
theorem d27_49 : decode method_5_code 49 = .ok (.lcmp, 1) := by decide +kernel
theorem d27_50 : decode method_5_code 50 = .ok (.ifCond .ne 18, 3) := by decide +kernel
theorem d27_53 : decode method_5_code 53 = .ok (.aload 8, 2) := by decide +kernel
theorem d27_55 : decode method_5_code 55 = .ok (.invokevirtual 35, 3) := by decide +kernel
theorem d27_58 : decode method_5_code 58 = .ok (.lload 6, 2) := by decide +kernel
theorem d27_60 : decode method_5_code 60 = .ok (.lcmp, 1) := by decide +kernel
theorem d27_61 : decode method_5_code 61 = .ok (.ifCond .ne 7, 3) := by decide +kernel
theorem d27_64 : decode method_5_code 64 = .ok (.iconst 1, 1) := by decide +kernel
theorem d27_65 : decode method_5_code 65 = .ok (.goto 4, 3) := by decide +kernel
theorem d27_69 : decode method_5_code 69 = .ok (.ireturn, 1) := by decide +kernel
theorem efMS (m : MethodId) (ad0 : Addr) (p1 : Int32) (p2 : Int32) (ad3 : Addr) (x4 : Int64) (x5 : Int64) : entryFrame m #[(.ref ad0), (.int p1), (.int p2), (.ref ad3), (.long x4), (.long x5)] 9 = mkF m 0 #[.val (.ref ad0), .val (.int p1), .val (.int p2), .val (.ref ad3), .val (.long x4), .second, .val (.long x5), .second, .unset] [] := by first | (simp [entryFrame, mkF, argsToLocals, Value.category]; done) | rfl
def QMS (Z : State) (ad0 : Addr) (p1 : Int32) (p2 : Int32) (ad3 : Addr) (x4 : Int64) (x5 : Int64) (h0 : Heap) (n0 : Nat) (v : Option Value) (h : Heap) (L : List Loc) : Prop := v = some (.int 1) ∧ Fr n0 L ∧ h = h0
set_option maxRecDepth 65536 in
set_option maxHeartbeats 40000000 in
theorem rmMS (l : Launch) (Z : State) (a0 : Array Value) (hw : ∀ d ∈ tables_1, d.before a0 Z = true) (ws : List Jvm.Cond) (ad0 : Addr) (p1 : Int32) (p2 : Int32) (ad3 : Addr) (x4 : Int64) (x5 : Int64) (h0 : Heap) (n0 : Nat) (Z0 : n0 ≤ h0.size) (E_ad0 : Exa Z h0 ad0 own_cD) (F_offset_ad0 : Fld Z h0 ad0 own_cD "offset" "J" (.long (f12 x4 p1))) (F_length_ad0 : Fld Z h0 ad0 own_cD "length" "J" (.long (x5))) (h3 : p1 < (3 : Int32)) (hs : ¬ (f11 p2 p1) = (0 : Int32)) :
    MetFree l own_y27 (head1 (Jvm.Cond.code own_y27 method_5_code 9 (some .boolean) :: ws) ({ frames := 1, cells := 0, slots := 0, locals := 40 } : Room)) (fun a U => a = #[(.ref ad0), (.int p1), (.int p2), (.ref ad3), (.long x4), (.long x5)] ∧ Z.Warmed39 U.vm ∧ U.heap = h0) (fun _ _ _ _ _ => True) (fun _ U o U' => ∃ v L, o = .returned v ∧ QMS Z ad0 p1 p2 ad3 x4 x5 h0 n0 v U'.heap L ∧ FrameEnd U o U' L ({ frames := 1, cells := 0, slots := 0, locals := 40 } : Room).cells ({ frames := 1, cells := 0, slots := 0, locals := 40 } : Room).slots) := by
  refine MetFree.of_bodySF (plainFor_of_name own_pn0) hisR ?_
  intro p e s m args below meth c s₁ Bd hml0 hP hK
  obtain ⟨rfl, hZ, hh⟩ := hP
  have hx := Bd.exec
  have hby := Bd.bytes
  have hml : c.maxLocals = 9 := hml0
  have hown : s.vm.findClass own_cW = some m.cls := findClass_of_methodNamed Bd.named
  have hnm := (name_of_methodNamed Bd.named Bd.method).1
  have hlk : meth.locks = false := BodyLoose.notSynchronized Bd
  have X0 : Stand p l e ({ frames := 1, cells := 0, slots := 0, locals := 40 } : Room) s m #[(.ref ad0), (.int p1), (.int p2), (.ref ad3), (.long x4), (.long x5)] below meth c s₁ [] 0 0 := Stand.of_body Bd
  have e0 : s₁.heap = h0 := by rw [← hh, Bd.state]; rfl
  have N0 := Fr.nil n0
  obtain ⟨G, hG⟩ : ∃ G, G = own_G s (QMS Z ad0 p1 p2 ad3 x4 x5 h0 n0) ({ frames := 1, cells := 0, slots := 0, locals := 40 } : Room).cells ({ frames := 1, cells := 0, slots := 0, locals := 40 } : Room).slots := ⟨_, rfl⟩
  show own_Fin p e below (own_G s (QMS Z ad0 p1 p2 ad3 x4 x5 h0 n0) ({ frames := 1, cells := 0, slots := 0, locals := 40 } : Room).cells ({ frames := 1, cells := 0, slots := 0, locals := 40 } : Room).slots) (s₁.setTop (entryFrame m #[(.ref ad0), (.int p1), (.int p2), (.ref ad3), (.long x4), (.long x5)] 9))
  rw [← hG]
  refine own_to (fun _ kz => castTop (efMS m ad0 p1 p2 ad3 x4 x5) kz) ?_
  show own_Fin p e below G (s₁.setTop (mkF m 0 #[.val (.ref ad0), .val (.int p1), .val (.int p2), .val (.ref ad3), .val (.long x4), .second, .val (.long x5), .second, .unset] []))
  refine own_iloadN X0 hx (hb hby d27_0) rfl ?_
  refine own_iconst X0 hx (3) (hb hby d27_1) rfl ?_
  have hc2 : p1 < (3 : Int32) := h3
  refine own_to (fun _ kz => XS.icmpYes X0.here hx rfl (pc0 := 2) (pc' := 15) rfl (hb hby d27_2) rfl (tlt hc2).1 (by decide) (by decide) kz) ?_
  show own_Fin p e below G (s₁.setTop (mkF m 15 #[.val (.ref ad0), .val (.int p1), .val (.int p2), .val (.ref ad3), .val (.long x4), .second, .val (.long x5), .second, .unset] []))
  refine own_iloadN X0 hx (hb hby d27_15) rfl ?_
  refine own_iloadN X0 hx (hb hby d27_16) rfl ?_
  obtain ⟨_, _, ⟨T17, L17, k17, n17⟩, -, X17, ⟨Lc17, hQ17, l17, y17, z17⟩, st17⟩ := Jvm.LawKit.callS X0 hx (y := own_y11) hown (mvT hZ (own_w hw 84 rfl)) (mvT hZ (own_w hw 85 rfl)) (mvT hZ (own_w hw 82 rfl)) (mvT hZ (own_w hw 86 rfl)) (by decide) (backOf (W := 0) (rm11 l Z a0 hw [] p2 p1 h0 n0 Z0) hZ (own_w hw 86 rfl) (own_w hw 82 rfl) (by decide) (by decide)) (g := (mkF m 17 #[.val (.ref ad0), .val (.int p1), .val (.int p2), .val (.ref ad3), .val (.long x4), .second, .val (.long x5), .second, .unset] [(.int p1), (.int p2)])) rfl (by rw [hml]; rfl) (argsL := [(.int p2), (.int p1)]) (rest := []) (lenOf own_pd11 rfl) rfl (by show 2 * 0 + _ ≤ _; exact Nat.le_of_eq rfl) (hb hby d27_17) (fun _ _ => ⟨rfl, e0, (by decide : 0 + 0 ≤ _), (by decide : 0 + 0 ≤ _)⟩)
  dsimp only [Pt.U, Pt.locs, Pt.cells, Pt.slots] at X17 l17 y17 z17 st17 hQ17
  subst l17 y17 z17
  obtain ⟨rfl, N17q, e17⟩ := hQ17
  obtain ⟨lo17, X17, N17⟩ : ∃ lo, Stand p l e _ s m _ below meth c T17 lo _ _ ∧ Fr n0 lo := ⟨_, X17, Fr.app N0 N17q⟩
  refine own_to st17 ?_
  show own_Fin p e below G (T17.setTop (mkF m 20 #[.val (.ref ad0), .val (.int p1), .val (.int p2), .val (.ref ad3), .val (.long x4), .second, .val (.long x5), .second, .unset] [(.int (f11 p2 p1))]))
  have hc20 : ¬ ((f11 p2 p1) = (0 : Int32)) := hs
  refine own_to (fun _ kz => XS.ifNo X17.here hx rfl (hb hby d27_20) rfl ((if0 _ _).trans (feq hc20).1) kz) ?_
  show own_Fin p e below G (T17.setTop (mkF m 23 #[.val (.ref ad0), .val (.int p1), .val (.int p2), .val (.ref ad3), .val (.long x4), .second, .val (.long x5), .second, .unset] []))
  refine own_aloadN X17 hx (hb hby d27_23) rfl (rfl) ?_
  obtain ⟨T24, X24, e24, st24⟩ := instY X17 hx hZ hown (own_w hw 187 rfl) e17 (Ins.self E_ad0) (g := (mkF m 24 #[.val (.ref ad0), .val (.int p1), .val (.int p2), .val (.ref ad3), .val (.long x4), .second, .val (.long x5), .second, .unset] [(.ref ad0)])) rfl rfl (hb hby d27_24)
  refine own_to st24 ?_
  show own_Fin p e below G (T24.setTop (mkF m 27 #[.val (.ref ad0), .val (.int p1), .val (.int p2), .val (.ref ad3), .val (.long x4), .second, .val (.long x5), .second, .unset] [(.int (1 : Int32))]))
  have hc27 : ¬ ((1 : Int32) = (0 : Int32)) := by decide
  refine own_to (fun _ kz => XS.ifYes X24.here hx rfl (pc0 := 27) (pc' := 32) rfl (hb hby d27_27) rfl ((if0 _ _).trans (feq hc27).2) (by decide) (by decide) kz) ?_
  show own_Fin p e below G (T24.setTop (mkF m 32 #[.val (.ref ad0), .val (.int p1), .val (.int p2), .val (.ref ad3), .val (.long x4), .second, .val (.long x5), .second, .unset] []))
  refine own_aloadN X24 hx (hb hby d27_32) rfl (rfl) ?_
  obtain ⟨T33, X33, e33, st33⟩ := castY X24 hx hZ hown (own_w hw 187 rfl) e24 (Ins.self E_ad0) (g := (mkF m 33 #[.val (.ref ad0), .val (.int p1), .val (.int p2), .val (.ref ad3), .val (.long x4), .second, .val (.long x5), .second, .unset] [(.ref ad0)])) rfl rfl (hb hby d27_33)
  refine own_to st33 ?_
  show own_Fin p e below G (T33.setTop (mkF m 36 #[.val (.ref ad0), .val (.int p1), .val (.int p2), .val (.ref ad3), .val (.long x4), .second, .val (.long x5), .second, .unset] [(.ref ad0)]))
  refine own_to (fun _ kz => XS.astore X33.here hx rfl (hb hby d27_36) rfl (rfl) (l' := #[.val (.ref ad0), .val (.int p1), .val (.int p2), .val (.ref ad3), .val (.long x4), .second, .val (.long x5), .second, .val (.ref ad0)]) rfl kz) ?_
  show own_Fin p e below G (T33.setTop (mkF m 38 #[.val (.ref ad0), .val (.int p1), .val (.int p2), .val (.ref ad3), .val (.long x4), .second, .val (.long x5), .second, .val (.ref ad0)] []))
  refine own_aload X33 hx (hb hby d27_38) rfl (rfl) ?_
  obtain ⟨cq40, kq40, qa40, qb40, qc40⟩ := isOf hZ e33 E_ad0
  obtain ⟨_, _, ⟨T40, L40, k40, n40⟩, -, X40, ⟨Lc40, hQ40, l40, y40, z40⟩, st40⟩ := X33.virtualBack hx (y := own_y28) (z := own_y28) hown (mvT hZ (own_w hw 189 rfl)) (mvT hZ (own_w hw 190 rfl)) (notFace_of_selects (args := #[]) (mvT hZ (own_w hw 192 rfl))) (mvT hZ (own_w hw 192 rfl)) (mvT hZ (own_w hw 191 rfl)) (by decide) (backOf (W := 0) (rm28 l Z a0 hw [] ad0 (f12 x4 p1) h0 n0 Z0 E_ad0 F_offset_ad0) hZ (own_w hw 193 rfl) (own_w hw 175 rfl) (by decide) (by decide)) qa40 qc40 (g := (mkF m 40 #[.val (.ref ad0), .val (.int p1), .val (.int p2), .val (.ref ad3), .val (.long x4), .second, .val (.long x5), .second, .val (.ref ad0)] [(.ref ad0)])) rfl (by rw [hml]; rfl) (Steps.refl _) (argsL := []) (rest := []) (lenOf own_pd10 rfl) rfl (by show 2 * 0 + _ ≤ _; exact Nat.le_of_eq rfl) (hb hby d27_40) (fun _ _ => ⟨rfl, e33, (by decide : 0 + 0 ≤ _), (by decide : 0 + 0 ≤ _)⟩)
  dsimp only [Pt.U, Pt.locs, Pt.cells, Pt.slots] at X40 l40 y40 z40 st40 hQ40
  subst l40 y40 z40
  obtain ⟨rfl, N40q, e40⟩ := hQ40
  obtain ⟨lo40, X40, N40⟩ : ∃ lo, Stand p l e _ s m _ below meth c T40 lo _ _ ∧ Fr n0 lo := ⟨_, X40, Fr.app N17 N40q⟩
  refine own_via st40 ?_
  show own_Fin p e below G (T40.setTop (mkF m 43 #[.val (.ref ad0), .val (.int p1), .val (.int p2), .val (.ref ad3), .val (.long x4), .second, .val (.long x5), .second, .val (.ref ad0)] [(.long (f28 (f12 x4 p1)))]))
  refine own_lload X40 hx (hb hby d27_43) rfl ?_
  refine own_iloadN X40 hx (hb hby d27_45) rfl ?_
  obtain ⟨_, _, ⟨T46, L46, k46, n46⟩, -, X46, ⟨Lc46, hQ46, l46, y46, z46⟩, st46⟩ := Jvm.LawKit.callS X40 hx (y := own_y12) hown (mvT hZ (own_w hw 87 rfl)) (mvT hZ (own_w hw 88 rfl)) (mvT hZ (own_w hw 82 rfl)) (mvT hZ (own_w hw 89 rfl)) (by decide) (backOf (W := 2) (rm12 l Z a0 hw [] x4 p1 h0 n0 Z0) hZ (own_w hw 89 rfl) (own_w hw 82 rfl) (by decide) (by decide)) (g := (mkF m 46 #[.val (.ref ad0), .val (.int p1), .val (.int p2), .val (.ref ad3), .val (.long x4), .second, .val (.long x5), .second, .val (.ref ad0)] [(.int p1), (.long x4), (.long (f28 (f12 x4 p1)))])) rfl (by rw [hml]; rfl) (argsL := [(.long x4), (.int p1)]) (rest := [(.long (f28 (f12 x4 p1)))]) (lenOf own_pd13 rfl) rfl (by show 2 * 0 + _ ≤ _; exact Nat.le_of_eq rfl) (hb hby d27_46) (fun _ _ => ⟨rfl, e40, (by decide : 0 + 0 ≤ _), (by decide : 0 + 0 ≤ _)⟩)
  dsimp only [Pt.U, Pt.locs, Pt.cells, Pt.slots] at X46 l46 y46 z46 st46 hQ46
  subst l46 y46 z46
  obtain ⟨rfl, N46q, e46⟩ := hQ46
  obtain ⟨lo46, X46, N46⟩ : ∃ lo, Stand p l e _ s m _ below meth c T46 lo _ _ ∧ Fr n0 lo := ⟨_, X46, Fr.app N40 N46q⟩
  refine own_to st46 ?_
  show own_Fin p e below G (T46.setTop (mkF m 49 #[.val (.ref ad0), .val (.int p1), .val (.int p2), .val (.ref ad3), .val (.long x4), .second, .val (.long x5), .second, .val (.ref ad0)] [(.long (f12 x4 p1)), (.long (f28 (f12 x4 p1)))]))
  refine own_to (fun _ kz => XS.lcmp X46.here hx rfl (hb hby d27_49) rfl kz) ?_
  show own_Fin p e below G (T46.setTop (mkF m 50 #[.val (.ref ad0), .val (.int p1), .val (.int p2), .val (.ref ad3), .val (.long x4), .second, .val (.long x5), .second, .val (.ref ad0)] [(.int (lcmpW (f28 (f12 x4 p1)) (f12 x4 p1)))]))
  have hc50 : (f28 (f12 x4 p1)) = (f12 x4 p1) := rfl
  refine own_to (fun _ kz => XS.ifNo X46.here hx rfl (hb hby d27_50) rfl ((if0 _ _).trans (teq ((lw_eq _ _).mpr hc50)).2) kz) ?_
  show own_Fin p e below G (T46.setTop (mkF m 53 #[.val (.ref ad0), .val (.int p1), .val (.int p2), .val (.ref ad3), .val (.long x4), .second, .val (.long x5), .second, .val (.ref ad0)] []))
  refine own_aload X46 hx (hb hby d27_53) rfl (rfl) ?_
  obtain ⟨cq55, kq55, qa55, qb55, qc55⟩ := isOf hZ e46 E_ad0
  obtain ⟨_, _, ⟨T55, L55, k55, n55⟩, -, X55, ⟨Lc55, hQ55, l55, y55, z55⟩, st55⟩ := X46.virtualBack hx (y := own_y29) (z := own_y29) hown (mvT hZ (own_w hw 194 rfl)) (mvT hZ (own_w hw 195 rfl)) (notFace_of_selects (args := #[]) (mvT hZ (own_w hw 197 rfl))) (mvT hZ (own_w hw 197 rfl)) (mvT hZ (own_w hw 196 rfl)) (by decide) (backOf (W := 0) (rm29 l Z a0 hw [] ad0 (x5) h0 n0 Z0 E_ad0 F_length_ad0) hZ (own_w hw 198 rfl) (own_w hw 175 rfl) (by decide) (by decide)) qa55 qc55 (g := (mkF m 55 #[.val (.ref ad0), .val (.int p1), .val (.int p2), .val (.ref ad3), .val (.long x4), .second, .val (.long x5), .second, .val (.ref ad0)] [(.ref ad0)])) rfl (by rw [hml]; rfl) (Steps.refl _) (argsL := []) (rest := []) (lenOf own_pd10 rfl) rfl (by show 2 * 0 + _ ≤ _; exact Nat.le_of_eq rfl) (hb hby d27_55) (fun _ _ => ⟨rfl, e46, (by decide : 0 + 0 ≤ _), (by decide : 0 + 0 ≤ _)⟩)
  dsimp only [Pt.U, Pt.locs, Pt.cells, Pt.slots] at X55 l55 y55 z55 st55 hQ55
  subst l55 y55 z55
  obtain ⟨rfl, N55q, e55⟩ := hQ55
  obtain ⟨lo55, X55, N55⟩ : ∃ lo, Stand p l e _ s m _ below meth c T55 lo _ _ ∧ Fr n0 lo := ⟨_, X55, Fr.app N46 N55q⟩
  refine own_via st55 ?_
  show own_Fin p e below G (T55.setTop (mkF m 58 #[.val (.ref ad0), .val (.int p1), .val (.int p2), .val (.ref ad3), .val (.long x4), .second, .val (.long x5), .second, .val (.ref ad0)] [(.long (f29 (x5)))]))
  refine own_lload X55 hx (hb hby d27_58) rfl ?_
  refine own_to (fun _ kz => XS.lcmp X55.here hx rfl (hb hby d27_60) rfl kz) ?_
  show own_Fin p e below G (T55.setTop (mkF m 61 #[.val (.ref ad0), .val (.int p1), .val (.int p2), .val (.ref ad3), .val (.long x4), .second, .val (.long x5), .second, .val (.ref ad0)] [(.int (lcmpW (f29 (x5)) x5))]))
  have hc61 : (f29 (x5)) = x5 := rfl
  refine own_to (fun _ kz => XS.ifNo X55.here hx rfl (hb hby d27_61) rfl ((if0 _ _).trans (teq ((lw_eq _ _).mpr hc61)).2) kz) ?_
  show own_Fin p e below G (T55.setTop (mkF m 64 #[.val (.ref ad0), .val (.int p1), .val (.int p2), .val (.ref ad3), .val (.long x4), .second, .val (.long x5), .second, .val (.ref ad0)] []))
  refine own_iconst X55 hx (1) (hb hby d27_64) rfl ?_
  refine own_to (fun _ kz => XS.goto X55.here hx rfl (pc0 := 65) (pc' := 69) rfl (hb hby d27_65) (by decide) (by decide) kz) ?_
  show own_Fin p e below G (T55.setTop (mkF m 69 #[.val (.ref ad0), .val (.int p1), .val (.int p2), .val (.ref ad3), .val (.long x4), .second, .val (.long x5), .second, .val (.ref ad0)] [(.int (1 : Int32))]))
  exact own_retN X55 hx hlk hG (t := .boolean) Bd.returns (by simp) (hb hby d27_69) (by decide) (by decide) ⟨rfl, N55, e55⟩
theorem d27_70 : decode method_5_code 70 = .ok (.aload_n 0, 1) := by decide +kernel
theorem d27_71 : decode method_5_code 71 = .ok (.aload_n 3, 1) := by decide +kernel
theorem d27_72 : decode method_5_code 72 = .ok (.iload_n 1, 1) := by decide +kernel
theorem d27_73 : decode method_5_code 73 = .ok (.aaload, 1) := by decide +kernel
theorem d27_74 : decode method_5_code 74 = .ok (.if_acmp .ne 7, 3) := by decide +kernel
theorem d27_77 : decode method_5_code 77 = .ok (.iconst 1, 1) := by decide +kernel
theorem d27_78 : decode method_5_code 78 = .ok (.goto 4, 3) := by decide +kernel
theorem d27_81 : decode method_5_code 81 = .ok (.iconst 0, 1) := by decide +kernel
theorem d27_82 : decode method_5_code 82 = .ok (.ireturn, 1) := by decide +kernel
theorem efMR (m : MethodId) (ad0 : Addr) (p1 : Int32) (p2 : Int32) (ad3 : Addr) (x4 : Int64) (x5 : Int64) : entryFrame m #[(.ref ad0), (.int p1), (.int p2), (.ref ad3), (.long x4), (.long x5)] 9 = mkF m 0 #[.val (.ref ad0), .val (.int p1), .val (.int p2), .val (.ref ad3), .val (.long x4), .second, .val (.long x5), .second, .unset] [] := by first | (simp [entryFrame, mkF, argsToLocals, Value.category]; done) | rfl
def QMR (Z : State) (ad0 : Addr) (p1 : Int32) (p2 : Int32) (ad3 : Addr) (x4 : Int64) (x5 : Int64) (jn : Nat) (fr : Nat → Value) (h0 : Heap) (n0 : Nat) (v : Option Value) (h : Heap) (L : List Loc) : Prop := v = some (.int 1) ∧ Fr n0 L ∧ h = h0
set_option maxRecDepth 65536 in
set_option maxHeartbeats 40000000 in
theorem rmMR (l : Launch) (Z : State) (a0 : Array Value) (hw : ∀ d ∈ tables_1, d.before a0 Z = true) (ws : List Jvm.Cond) (ad0 : Addr) (p1 : Int32) (p2 : Int32) (ad3 : Addr) (x4 : Int64) (x5 : Int64) (jn : Nat) (fr : Nat → Value) (h0 : Heap) (n0 : Nat) (Z0 : n0 ≤ h0.size) (V_ad3 : own_AV id Z h0 ad3 (.object own_cR) 3 fr) (h3 : p1 < (3 : Int32)) (hs : (f11 p2 p1) = (0 : Int32)) (hj0 : ¬ p1 < (0 : Int32)) (hjn : p1.toNatClampNeg = jn) (hjl : jn < 3) (hjv : fr jn = .ref ad0) :
    MetFree l own_y27 (head1 (Jvm.Cond.code own_y27 method_5_code 9 (some .boolean) :: ws) ({ frames := 1, cells := 0, slots := 0, locals := 40 } : Room)) (fun a U => a = #[(.ref ad0), (.int p1), (.int p2), (.ref ad3), (.long x4), (.long x5)] ∧ Z.Warmed39 U.vm ∧ U.heap = h0) (fun _ _ _ _ _ => True) (fun _ U o U' => ∃ v L, o = .returned v ∧ QMR Z ad0 p1 p2 ad3 x4 x5 jn fr h0 n0 v U'.heap L ∧ FrameEnd U o U' L ({ frames := 1, cells := 0, slots := 0, locals := 40 } : Room).cells ({ frames := 1, cells := 0, slots := 0, locals := 40 } : Room).slots) := by
  refine MetFree.of_bodySF (plainFor_of_name own_pn0) hisR ?_
  intro p e s m args below meth c s₁ Bd hml0 hP hK
  obtain ⟨rfl, hZ, hh⟩ := hP
  have hx := Bd.exec
  have hby := Bd.bytes
  have hml : c.maxLocals = 9 := hml0
  have hown : s.vm.findClass own_cW = some m.cls := findClass_of_methodNamed Bd.named
  have hnm := (name_of_methodNamed Bd.named Bd.method).1
  have hlk : meth.locks = false := BodyLoose.notSynchronized Bd
  have X0 : Stand p l e ({ frames := 1, cells := 0, slots := 0, locals := 40 } : Room) s m #[(.ref ad0), (.int p1), (.int p2), (.ref ad3), (.long x4), (.long x5)] below meth c s₁ [] 0 0 := Stand.of_body Bd
  have e0 : s₁.heap = h0 := by rw [← hh, Bd.state]; rfl
  have N0 := Fr.nil n0
  obtain ⟨G, hG⟩ : ∃ G, G = own_G s (QMR Z ad0 p1 p2 ad3 x4 x5 jn fr h0 n0) ({ frames := 1, cells := 0, slots := 0, locals := 40 } : Room).cells ({ frames := 1, cells := 0, slots := 0, locals := 40 } : Room).slots := ⟨_, rfl⟩
  show own_Fin p e below (own_G s (QMR Z ad0 p1 p2 ad3 x4 x5 jn fr h0 n0) ({ frames := 1, cells := 0, slots := 0, locals := 40 } : Room).cells ({ frames := 1, cells := 0, slots := 0, locals := 40 } : Room).slots) (s₁.setTop (entryFrame m #[(.ref ad0), (.int p1), (.int p2), (.ref ad3), (.long x4), (.long x5)] 9))
  rw [← hG]
  refine own_to (fun _ kz => castTop (efMR m ad0 p1 p2 ad3 x4 x5) kz) ?_
  show own_Fin p e below G (s₁.setTop (mkF m 0 #[.val (.ref ad0), .val (.int p1), .val (.int p2), .val (.ref ad3), .val (.long x4), .second, .val (.long x5), .second, .unset] []))
  refine own_iloadN X0 hx (hb hby d27_0) rfl ?_
  refine own_iconst X0 hx (3) (hb hby d27_1) rfl ?_
  have hc2 : p1 < (3 : Int32) := h3
  refine own_to (fun _ kz => XS.icmpYes X0.here hx rfl (pc0 := 2) (pc' := 15) rfl (hb hby d27_2) rfl (tlt hc2).1 (by decide) (by decide) kz) ?_
  show own_Fin p e below G (s₁.setTop (mkF m 15 #[.val (.ref ad0), .val (.int p1), .val (.int p2), .val (.ref ad3), .val (.long x4), .second, .val (.long x5), .second, .unset] []))
  refine own_iloadN X0 hx (hb hby d27_15) rfl ?_
  refine own_iloadN X0 hx (hb hby d27_16) rfl ?_
  obtain ⟨_, _, ⟨T17, L17, k17, n17⟩, -, X17, ⟨Lc17, hQ17, l17, y17, z17⟩, st17⟩ := Jvm.LawKit.callS X0 hx (y := own_y11) hown (mvT hZ (own_w hw 84 rfl)) (mvT hZ (own_w hw 85 rfl)) (mvT hZ (own_w hw 82 rfl)) (mvT hZ (own_w hw 86 rfl)) (by decide) (backOf (W := 0) (rm11 l Z a0 hw [] p2 p1 h0 n0 Z0) hZ (own_w hw 86 rfl) (own_w hw 82 rfl) (by decide) (by decide)) (g := (mkF m 17 #[.val (.ref ad0), .val (.int p1), .val (.int p2), .val (.ref ad3), .val (.long x4), .second, .val (.long x5), .second, .unset] [(.int p1), (.int p2)])) rfl (by rw [hml]; rfl) (argsL := [(.int p2), (.int p1)]) (rest := []) (lenOf own_pd11 rfl) rfl (by show 2 * 0 + _ ≤ _; exact Nat.le_of_eq rfl) (hb hby d27_17) (fun _ _ => ⟨rfl, e0, (by decide : 0 + 0 ≤ _), (by decide : 0 + 0 ≤ _)⟩)
  dsimp only [Pt.U, Pt.locs, Pt.cells, Pt.slots] at X17 l17 y17 z17 st17 hQ17
  subst l17 y17 z17
  obtain ⟨rfl, N17q, e17⟩ := hQ17
  obtain ⟨lo17, X17, N17⟩ : ∃ lo, Stand p l e _ s m _ below meth c T17 lo _ _ ∧ Fr n0 lo := ⟨_, X17, Fr.app N0 N17q⟩
  refine own_to st17 ?_
  show own_Fin p e below G (T17.setTop (mkF m 20 #[.val (.ref ad0), .val (.int p1), .val (.int p2), .val (.ref ad3), .val (.long x4), .second, .val (.long x5), .second, .unset] [(.int (f11 p2 p1))]))
  have hc20 : (f11 p2 p1) = (0 : Int32) := hs
  refine own_to (fun _ kz => XS.ifYes X17.here hx rfl (pc0 := 20) (pc' := 70) rfl (hb hby d27_20) rfl ((if0 _ _).trans (teq hc20).1) (by decide) (by decide) kz) ?_
  show own_Fin p e below G (T17.setTop (mkF m 70 #[.val (.ref ad0), .val (.int p1), .val (.int p2), .val (.ref ad3), .val (.long x4), .second, .val (.long x5), .second, .unset] []))
  refine own_aloadN X17 hx (hb hby d27_70) rfl (rfl) ?_
  refine own_aloadN X17 hx (hb hby d27_71) rfl (rfl) ?_
  refine own_iloadN X17 hx (hb hby d27_72) rfl ?_
  refine own_to (fun _ kz => own_aaload X17 hx hZ e17 V_ad3 (j := p1) hj0 hjn hjl (v := (.ref ad0)) hjv (g := (mkF m 73 #[.val (.ref ad0), .val (.int p1), .val (.int p2), .val (.ref ad3), .val (.long x4), .second, .val (.long x5), .second, .unset] [(.int p1), (.ref ad3), (.ref ad0)])) rfl rfl (hb hby d27_73) kz) ?_
  show own_Fin p e below G (T17.setTop (mkF m 74 #[.val (.ref ad0), .val (.int p1), .val (.int p2), .val (.ref ad3), .val (.long x4), .second, .val (.long x5), .second, .unset] [(.ref ad0), (.ref ad0)]))
  refine own_to (fun _ kz => Jvm.RoadKit.acmp (g := (mkF m 74 #[.val (.ref ad0), .val (.int p1), .val (.int p2), .val (.ref ad3), .val (.long x4), .second, .val (.long x5), .second, .unset] [(.ref ad0), (.ref ad0)])) X17 hx rfl rfl rfl (pc0 := 74) (pc' := 77) (same := true) rfl (hb hby d27_74) rfl (decide_eq_true rfl) (by decide) (by decide) kz) ?_
  show own_Fin p e below G (T17.setTop (mkF m 77 #[.val (.ref ad0), .val (.int p1), .val (.int p2), .val (.ref ad3), .val (.long x4), .second, .val (.long x5), .second, .unset] []))
  refine own_iconst X17 hx (1) (hb hby d27_77) rfl ?_
  refine own_to (fun _ kz => XS.goto X17.here hx rfl (pc0 := 78) (pc' := 82) rfl (hb hby d27_78) (by decide) (by decide) kz) ?_
  show own_Fin p e below G (T17.setTop (mkF m 82 #[.val (.ref ad0), .val (.int p1), .val (.int p2), .val (.ref ad3), .val (.long x4), .second, .val (.long x5), .second, .unset] [(.int (1 : Int32))]))
  exact own_retN X17 hx hlk hG (t := .boolean) Bd.returns (by simp) (hb hby d27_82) (by decide) (by decide) ⟨rfl, N17, e17⟩
theorem d30_0 : decode prog_47_method_7_code 0 = .ok (.aload_n 0, 1) := by decide +kernel
theorem d30_1 : decode prog_47_method_7_code 1 = .ok (.getfield 97, 3) := by decide +kernel
theorem d30_4 : decode prog_47_method_7_code 4 = .ok (.istore_n 1, 1) := by decide +kernel
theorem d30_5 : decode prog_47_method_7_code 5 = .ok (.aload_n 0, 1) := by decide +kernel
theorem d30_6 : decode prog_47_method_7_code 6 = .ok (.getfield 97, 3) := by decide +kernel
theorem d30_9 : decode prog_47_method_7_code 9 = .ok (.aload_n 0, 1) := by decide +kernel
theorem d30_10 : decode prog_47_method_7_code 10 = .ok (.getfield 41, 3) := by decide +kernel
theorem d30_13 : decode prog_47_method_7_code 13 = .ok (.if_icmp .le 14, 3) := by decide +kernel
theorem d30_16 : decode prog_47_method_7_code 16 = .ok (.aload_n 0, 1) := by decide +kernel
theorem d30_17 : decode prog_47_method_7_code 17 = .ok (.aload_n 0, 1) := by decide +kernel
theorem d30_18 : decode prog_47_method_7_code 18 = .ok (.getfield 94, 3) := by decide +kernel
theorem d30_21 : decode prog_47_method_7_code 21 = .ok (.putfield 97, 3) := by decide +kernel
theorem d30_24 : decode prog_47_method_7_code 24 = .ok (.goto 87, 3) := by decide +kernel
theorem d30_111 : decode prog_47_method_7_code 111 = .ok (.aload_n 0, 1) := by decide +kernel
theorem d30_112 : decode prog_47_method_7_code 112 = .ok (.getfield 97, 3) := by decide +kernel
theorem d30_115 : decode prog_47_method_7_code 115 = .ok (.iload_n 1, 1) := by decide +kernel
theorem d30_116 : decode prog_47_method_7_code 116 = .ok (.isub, 1) := by decide +kernel
theorem d30_117 : decode prog_47_method_7_code 117 = .ok (.ireturn, 1) := by decide +kernel
theorem efSA (m : MethodId) (ad0 : Addr) : entryFrame m #[(.ref ad0)] 2 = mkF m 0 #[.val (.ref ad0), .unset] [] := by first | (simp [entryFrame, mkF, argsToLocals, Value.category]; done) | rfl
def QSA (Z : State) (ad0 : Addr) (kp : Int32) (ls : Int32) (tk : Int32) (w : Int32) (off : Addr) (len : Addr) (wh : Addr) (h0 : Heap) (n0 : Nat) (v : Option Value) (h : Heap) (L : List Loc) : Prop := v = some (.int ((3 : Int32) - tk)) ∧ Fr n0 L ∧ Keep h0 h [ad0] ∧ Exa Z h ad0 own_cE ∧ Fld Z h ad0 own_cE "kept" "I" (.int kp) ∧ Fld Z h ad0 own_cE "offsets" "[J" (.ref off) ∧ Fld Z h ad0 own_cE "lengths" "[J" (.ref len) ∧ Fld Z h ad0 own_cE "whole" "Ljava/util/List;" (.ref wh) ∧ Fld Z h ad0 own_cE "size" "I" (.int (3 : Int32)) ∧ Fld Z h ad0 own_cE "lastSpan" "I" (.int ls) ∧ Fld Z h ad0 own_cE "taken" "I" (.int (3 : Int32)) ∧ Fld Z h ad0 own_cE "takenWhole" "I" (.int w)
set_option maxRecDepth 65536 in
set_option maxHeartbeats 40000000 in
theorem rmSA (l : Launch) (Z : State) (a0 : Array Value) (hw : ∀ d ∈ tables_1, d.before a0 Z = true) (ws : List Jvm.Cond) (ad0 : Addr) (kp : Int32) (ls : Int32) (tk : Int32) (w : Int32) (off : Addr) (len : Addr) (wh : Addr) (h0 : Heap) (n0 : Nat) (Z0 : n0 ≤ h0.size) (E_ad0 : Exa Z h0 ad0 own_cE) (F_kept_ad0 : Fld Z h0 ad0 own_cE "kept" "I" (.int kp)) (F_offsets_ad0 : Fld Z h0 ad0 own_cE "offsets" "[J" (.ref off)) (F_lengths_ad0 : Fld Z h0 ad0 own_cE "lengths" "[J" (.ref len)) (F_whole_ad0 : Fld Z h0 ad0 own_cE "whole" "Ljava/util/List;" (.ref wh)) (F_size_ad0 : Fld Z h0 ad0 own_cE "size" "I" (.int (3 : Int32))) (F_lastSpan_ad0 : Fld Z h0 ad0 own_cE "lastSpan" "I" (.int ls)) (F_taken_ad0 : Fld Z h0 ad0 own_cE "taken" "I" (.int tk)) (F_takenWhole_ad0 : Fld Z h0 ad0 own_cE "takenWhole" "I" (.int w)) (g_ad0 : n0 ≤ ad0) (hgt : ls < tk) :
    MetFree l own_y30 (head1 (Jvm.Cond.code own_y30 prog_47_method_7_code 2 (some .int) :: ws) ({ frames := 0, cells := 0, slots := 0, locals := 0 } : Room)) (fun a U => a = #[(.ref ad0)] ∧ Z.Warmed39 U.vm ∧ U.heap = h0) (fun _ _ _ _ _ => True) (fun _ U o U' => ∃ v L, o = .returned v ∧ QSA Z ad0 kp ls tk w off len wh h0 n0 v U'.heap L ∧ FrameEnd U o U' L ({ frames := 0, cells := 0, slots := 0, locals := 0 } : Room).cells ({ frames := 0, cells := 0, slots := 0, locals := 0 } : Room).slots) := by
  refine MetFree.of_bodySF (plainFor_of_name own_pn6) hisR ?_
  intro p e s m args below meth c s₁ Bd hml0 hP hK
  obtain ⟨rfl, hZ, hh⟩ := hP
  have hx := Bd.exec
  have hby := Bd.bytes
  have hml : c.maxLocals = 2 := hml0
  have hown : s.vm.findClass own_cE = some m.cls := findClass_of_methodNamed Bd.named
  have hnm := (name_of_methodNamed Bd.named Bd.method).1
  have hlk : meth.locks = false := BodyLoose.notSynchronized Bd
  have X0 : Stand p l e ({ frames := 0, cells := 0, slots := 0, locals := 0 } : Room) s m #[(.ref ad0)] below meth c s₁ [] 0 0 := Stand.of_body Bd
  have e0 : s₁.heap = h0 := by rw [← hh, Bd.state]; rfl
  have N0 := Fr.nil n0
  obtain ⟨G, hG⟩ : ∃ G, G = own_G s (QSA Z ad0 kp ls tk w off len wh h0 n0) ({ frames := 0, cells := 0, slots := 0, locals := 0 } : Room).cells ({ frames := 0, cells := 0, slots := 0, locals := 0 } : Room).slots := ⟨_, rfl⟩
  show own_Fin p e below (own_G s (QSA Z ad0 kp ls tk w off len wh h0 n0) ({ frames := 0, cells := 0, slots := 0, locals := 0 } : Room).cells ({ frames := 0, cells := 0, slots := 0, locals := 0 } : Room).slots) (s₁.setTop (entryFrame m #[(.ref ad0)] 2))
  rw [← hG]
  refine own_to (fun _ kz => castTop (efSA m ad0) kz) ?_
  show own_Fin p e below G (s₁.setTop (mkF m 0 #[.val (.ref ad0), .unset] []))
  refine own_aloadN X0 hx (hb hby d30_0) rfl (rfl) ?_
  obtain ⟨T1, X1, e1, st1⟩ := getF X0 hx hZ hown (host := "") (Or.inl (own_w hw 171 rfl)) Via.refl e0 F_taken_ad0 (g := (mkF m 1 #[.val (.ref ad0), .unset] [(.ref ad0)])) rfl rfl (hb hby d30_1)
  refine own_to st1 ?_
  show own_Fin p e below G (T1.setTop (mkF m 4 #[.val (.ref ad0), .unset] [(.int tk)]))
  refine own_to (fun _ kz => XS.istoreN X1.here hx rfl (hb hby d30_4) rfl (l' := #[.val (.ref ad0), .val (.int tk)]) rfl kz) ?_
  show own_Fin p e below G (T1.setTop (mkF m 5 #[.val (.ref ad0), .val (.int tk)] []))
  refine own_aloadN X1 hx (hb hby d30_5) rfl (rfl) ?_
  obtain ⟨T6, X6, e6, st6⟩ := getF X1 hx hZ hown (host := "") (Or.inl (own_w hw 171 rfl)) Via.refl e1 F_taken_ad0 (g := (mkF m 6 #[.val (.ref ad0), .val (.int tk)] [(.ref ad0)])) rfl rfl (hb hby d30_6)
  refine own_to st6 ?_
  show own_Fin p e below G (T6.setTop (mkF m 9 #[.val (.ref ad0), .val (.int tk)] [(.int tk)]))
  refine own_aloadN X6 hx (hb hby d30_9) rfl (rfl) ?_
  obtain ⟨T10, X10, e10, st10⟩ := getF X6 hx hZ hown (host := "") (Or.inl (own_w hw 72 rfl)) Via.refl e6 F_lastSpan_ad0 (g := (mkF m 10 #[.val (.ref ad0), .val (.int tk)] [(.ref ad0), (.int tk)])) rfl rfl (hb hby d30_10)
  refine own_to st10 ?_
  show own_Fin p e below G (T10.setTop (mkF m 13 #[.val (.ref ad0), .val (.int tk)] [(.int ls), (.int tk)]))
  have hc13 : ls < tk := hgt
  refine own_to (fun _ kz => XS.icmpNo X10.here hx rfl (hb hby d30_13) rfl (tlt hc13).2.2.2 kz) ?_
  show own_Fin p e below G (T10.setTop (mkF m 16 #[.val (.ref ad0), .val (.int tk)] []))
  refine own_aloadN X10 hx (hb hby d30_16) rfl (rfl) ?_
  refine own_aloadN X10 hx (hb hby d30_17) rfl (rfl) ?_
  obtain ⟨T18, X18, e18, st18⟩ := getF X10 hx hZ hown (host := "") (Or.inl (own_w hw 96 rfl)) Via.refl e10 F_size_ad0 (g := (mkF m 18 #[.val (.ref ad0), .val (.int tk)] [(.ref ad0), (.ref ad0)])) rfl rfl (hb hby d30_18)
  refine own_to st18 ?_
  show own_Fin p e below G (T18.setTop (mkF m 21 #[.val (.ref ad0), .val (.int tk)] [(.int (3 : Int32)), (.ref ad0)]))
  obtain ⟨T21, h21, X21, e21, W21, st21⟩ := putF X18 hx hZ hown (host := "") (Or.inl (own_w hw 171 rfl)) Via.refl e18 F_taken_ad0 E_ad0 (Or.inl (own_w hw 172 rfl)) (own_w hw 30 rfl) (ty := .int) (by decide) rfl rfl (g := (mkF m 21 #[.val (.ref ad0), .val (.int tk)] [(.int (3 : Int32)), (.ref ad0)])) rfl rfl (hb hby d30_21)
  refine own_to st21 ?_
  have Fw21 : Fld Z h21 ad0 own_cE "taken" "I" (.int (3 : Int32)) := Fld.same W21 F_taken_ad0
  obtain ⟨lo21, X21, N21⟩ : ∃ lo, Stand p l e _ s m _ below meth c T21 lo _ _ ∧ Fr n0 lo := ⟨_, X21, Fr.snoc X21 N0 g_ad0⟩
  show own_Fin p e below G (T21.setTop (mkF m 24 #[.val (.ref ad0), .val (.int tk)] []))
  refine own_to (fun _ kz => XS.goto X21.here hx rfl (pc0 := 24) (pc' := 111) rfl (hb hby d30_24) (by decide) (by decide) kz) ?_
  show own_Fin p e below G (T21.setTop (mkF m 111 #[.val (.ref ad0), .val (.int tk)] []))
  refine own_aloadN X21 hx (hb hby d30_111) rfl (rfl) ?_
  obtain ⟨T112, X112, e112, st112⟩ := getF X21 hx hZ hown (host := "") (Or.inl (own_w hw 171 rfl)) Via.refl e21 Fw21 (g := (mkF m 112 #[.val (.ref ad0), .val (.int tk)] [(.ref ad0)])) rfl rfl (hb hby d30_112)
  refine own_to st112 ?_
  show own_Fin p e below G (T112.setTop (mkF m 115 #[.val (.ref ad0), .val (.int tk)] [(.int (3 : Int32))]))
  refine own_iloadN X112 hx (hb hby d30_115) rfl ?_
  refine own_to (fun _ kz => XS.isub X112.here hx rfl (hb hby d30_116) rfl kz) ?_
  show own_Fin p e below G (T112.setTop (mkF m 117 #[.val (.ref ad0), .val (.int tk)] [(.int ((3 : Int32) - tk))]))
  have KP_117 : Keep h0 h21 [ad0] := ((Keep.refl h0 [ad0]).wr W21 (Or.inl (List.mem_of_getElem? (i := 0) rfl)))
  have E_ad0_at_117 := (E_ad0.wr W21)
  have F_kept_ad0_at_117 := (F_kept_ad0.other W21 (Or.inr (slot_ne (Or.inr (own_w hw 79 rfl)) (Or.inl (own_w hw 172 rfl)) (by decide) (t := .int) (t' := .int) (by decide) (by decide))))
  have F_offsets_ad0_at_117 := (F_offsets_ad0.other W21 (Or.inr (slot_ne (Or.inl (own_w hw 43 rfl)) (Or.inl (own_w hw 172 rfl)) (by decide) (t := (.array .long)) (t' := .int) (by decide) (by decide))))
  have F_lengths_ad0_at_117 := (F_lengths_ad0.other W21 (Or.inr (slot_ne (Or.inl (own_w hw 45 rfl)) (Or.inl (own_w hw 172 rfl)) (by decide) (t := (.array .long)) (t' := .int) (by decide) (by decide))))
  have F_whole_ad0_at_117 := (F_whole_ad0.other W21 (Or.inr (slot_ne (Or.inr (own_w hw 71 rfl)) (Or.inl (own_w hw 172 rfl)) (by decide) (t := (.object "java/util/List")) (t' := .int) (by decide) (by decide))))
  have F_size_ad0_at_117 := (F_size_ad0.other W21 (Or.inr (slot_ne (Or.inl (own_w hw 97 rfl)) (Or.inl (own_w hw 172 rfl)) (by decide) (t := .int) (t' := .int) (by decide) (by decide))))
  have F_lastSpan_ad0_at_117 := (F_lastSpan_ad0.other W21 (Or.inr (slot_ne (Or.inl (own_w hw 73 rfl)) (Or.inl (own_w hw 172 rfl)) (by decide) (t := .int) (t' := .int) (by decide) (by decide))))
  have F_takenWhole_ad0_at_117 := (F_takenWhole_ad0.other W21 (Or.inr (slot_ne (Or.inl (own_w hw 205 rfl)) (Or.inl (own_w hw 172 rfl)) (by decide) (t := .int) (t' := .int) (by decide) (by decide))))
  exact own_retI X112 hx hlk hG Bd.returns (hb hby d30_117) (by decide) (by decide) (by rw [e112]; exact ⟨rfl, N21, KP_117, E_ad0_at_117, F_kept_ad0_at_117, F_offsets_ad0_at_117, F_lengths_ad0_at_117, F_whole_ad0_at_117, F_size_ad0_at_117, F_lastSpan_ad0_at_117, Fw21, F_takenWhole_ad0_at_117⟩)
theorem d30_27 : decode prog_47_method_7_code 27 = .ok (.aload_n 0, 1) := by decide +kernel
theorem d30_28 : decode prog_47_method_7_code 28 = .ok (.getfield 97, 3) := by decide +kernel
theorem d30_31 : decode prog_47_method_7_code 31 = .ok (.aload_n 0, 1) := by decide +kernel
theorem d30_32 : decode prog_47_method_7_code 32 = .ok (.getfield 94, 3) := by decide +kernel
theorem d30_35 : decode prog_47_method_7_code 35 = .ok (.if_icmp .ge 76, 3) := by decide +kernel
theorem d30_38 : decode prog_47_method_7_code 38 = .ok (.aload_n 0, 1) := by decide +kernel
theorem d30_39 : decode prog_47_method_7_code 39 = .ok (.getfield 31, 3) := by decide +kernel
theorem d30_42 : decode prog_47_method_7_code 42 = .ok (.aload_n 0, 1) := by decide +kernel
theorem d30_43 : decode prog_47_method_7_code 43 = .ok (.getfield 97, 3) := by decide +kernel
theorem d30_46 : decode prog_47_method_7_code 46 = .ok (.laload, 1) := by decide +kernel
theorem d30_47 : decode prog_47_method_7_code 47 = .ok (.lconst 0, 1) := by decide +kernel
theorem d30_48 : decode prog_47_method_7_code 48 = .ok (.lcmp, 1) := by decide +kernel
theorem d30_49 : decode prog_47_method_7_code 49 = .ok (.ifCond .lt 62, 3) := by decide +kernel
theorem d30_52 : decode prog_47_method_7_code 52 = .ok (.aload_n 0, 1) := by decide +kernel
theorem d30_53 : decode prog_47_method_7_code 53 = .ok (.getfield 31, 3) := by decide +kernel
theorem d30_56 : decode prog_47_method_7_code 56 = .ok (.aload_n 0, 1) := by decide +kernel
theorem d30_57 : decode prog_47_method_7_code 57 = .ok (.getfield 97, 3) := by decide +kernel
theorem d30_60 : decode prog_47_method_7_code 60 = .ok (.laload, 1) := by decide +kernel
theorem d30_61 : decode prog_47_method_7_code 61 = .ok (.lconst 0, 1) := by decide +kernel
theorem d30_62 : decode prog_47_method_7_code 62 = .ok (.lcmp, 1) := by decide +kernel
theorem d30_63 : decode prog_47_method_7_code 63 = .ok (.ifCond .le 25, 3) := by decide +kernel
theorem d30_66 : decode prog_47_method_7_code 66 = .ok (.aload_n 0, 1) := by decide +kernel
theorem d30_67 : decode prog_47_method_7_code 67 = .ok (.dup, 1) := by decide +kernel
theorem d30_68 : decode prog_47_method_7_code 68 = .ok (.getfield 100, 3) := by decide +kernel
theorem d30_71 : decode prog_47_method_7_code 71 = .ok (.aload_n 0, 1) := by decide +kernel
theorem d30_72 : decode prog_47_method_7_code 72 = .ok (.getfield 31, 3) := by decide +kernel
theorem d30_75 : decode prog_47_method_7_code 75 = .ok (.aload_n 0, 1) := by decide +kernel
theorem d30_76 : decode prog_47_method_7_code 76 = .ok (.getfield 97, 3) := by decide +kernel
theorem d30_79 : decode prog_47_method_7_code 79 = .ok (.laload, 1) := by decide +kernel
theorem d30_80 : decode prog_47_method_7_code 80 = .ok (.l2i, 1) := by decide +kernel
theorem d30_81 : decode prog_47_method_7_code 81 = .ok (.iadd, 1) := by decide +kernel
theorem d30_82 : decode prog_47_method_7_code 82 = .ok (.putfield 100, 3) := by decide +kernel
theorem d30_85 : decode prog_47_method_7_code 85 = .ok (.goto 13, 3) := by decide +kernel
theorem d30_88 : decode prog_47_method_7_code 88 = .ok (.aload_n 0, 1) := by decide +kernel
theorem d30_89 : decode prog_47_method_7_code 89 = .ok (.dup, 1) := by decide +kernel
theorem d30_90 : decode prog_47_method_7_code 90 = .ok (.getfield 107, 3) := by decide +kernel
theorem d30_93 : decode prog_47_method_7_code 93 = .ok (.iconst 1, 1) := by decide +kernel
theorem d30_94 : decode prog_47_method_7_code 94 = .ok (.iadd, 1) := by decide +kernel
theorem d30_95 : decode prog_47_method_7_code 95 = .ok (.putfield 107, 3) := by decide +kernel
theorem d30_98 : decode prog_47_method_7_code 98 = .ok (.aload_n 0, 1) := by decide +kernel
theorem d30_99 : decode prog_47_method_7_code 99 = .ok (.dup, 1) := by decide +kernel
theorem d30_100 : decode prog_47_method_7_code 100 = .ok (.getfield 97, 3) := by decide +kernel
theorem d30_103 : decode prog_47_method_7_code 103 = .ok (.iconst 1, 1) := by decide +kernel
theorem d30_104 : decode prog_47_method_7_code 104 = .ok (.iadd, 1) := by decide +kernel
theorem d30_105 : decode prog_47_method_7_code 105 = .ok (.putfield 97, 3) := by decide +kernel
theorem d30_108 : decode prog_47_method_7_code 108 = .ok (.goto (-81), 3) := by decide +kernel
theorem efS00 (m : MethodId) (ad0 : Addr) : entryFrame m #[(.ref ad0)] 2 = mkF m 0 #[.val (.ref ad0), .unset] [] := by first | (simp [entryFrame, mkF, argsToLocals, Value.category]; done) | rfl
def QS00 (Z : State) (ad0 : Addr) (kp : Int32) (ls : Int32) (w : Int32) (fl : Nat → Int64) (off : Addr) (len : Addr) (wh : Addr) (h0 : Heap) (n0 : Nat) (v : Option Value) (h : Heap) (L : List Loc) : Prop := v = some (.int (0 : Int32)) ∧ Fr n0 L ∧ Keep h0 h [ad0] ∧ Exa Z h ad0 own_cE ∧ Fld Z h ad0 own_cE "kept" "I" (.int kp) ∧ Fld Z h ad0 own_cE "offsets" "[J" (.ref off) ∧ Fld Z h ad0 own_cE "lengths" "[J" (.ref len) ∧ Fld Z h ad0 own_cE "whole" "Ljava/util/List;" (.ref wh) ∧ Fld Z h ad0 own_cE "size" "I" (.int (3 : Int32)) ∧ Fld Z h ad0 own_cE "lastSpan" "I" (.int ls) ∧ Fld Z h ad0 own_cE "taken" "I" (.int (0 : Int32)) ∧ Fld Z h ad0 own_cE "takenWhole" "I" (.int w)
set_option maxRecDepth 65536 in
set_option maxHeartbeats 40000000 in
theorem rmS00 (l : Launch) (Z : State) (a0 : Array Value) (hw : ∀ d ∈ tables_1, d.before a0 Z = true) (ws : List Jvm.Cond) (ad0 : Addr) (kp : Int32) (ls : Int32) (w : Int32) (fl : Nat → Int64) (off : Addr) (len : Addr) (wh : Addr) (h0 : Heap) (n0 : Nat) (Z0 : n0 ≤ h0.size) (E_ad0 : Exa Z h0 ad0 own_cE) (F_kept_ad0 : Fld Z h0 ad0 own_cE "kept" "I" (.int kp)) (F_offsets_ad0 : Fld Z h0 ad0 own_cE "offsets" "[J" (.ref off)) (F_lengths_ad0 : Fld Z h0 ad0 own_cE "lengths" "[J" (.ref len)) (F_whole_ad0 : Fld Z h0 ad0 own_cE "whole" "Ljava/util/List;" (.ref wh)) (F_size_ad0 : Fld Z h0 ad0 own_cE "size" "I" (.int (3 : Int32))) (F_lastSpan_ad0 : Fld Z h0 ad0 own_cE "lastSpan" "I" (.int ls)) (F_taken_ad0 : Fld Z h0 ad0 own_cE "taken" "I" (.int (0 : Int32))) (F_takenWhole_ad0 : Fld Z h0 ad0 own_cE "takenWhole" "I" (.int w)) (g_ad0 : n0 ≤ ad0) (V_len : own_AV Value.long Z h0 len .long 16 fl) (ne_len_ad0 : len ≠ ad0) (hgt : ¬ ls < (0 : Int32)) (hneg : (fl 0) < (0 : Int64)) :
    MetFree l own_y30 (head1 (Jvm.Cond.code own_y30 prog_47_method_7_code 2 (some .int) :: ws) ({ frames := 0, cells := 0, slots := 0, locals := 0 } : Room)) (fun a U => a = #[(.ref ad0)] ∧ Z.Warmed39 U.vm ∧ U.heap = h0) (fun _ _ _ _ _ => True) (fun _ U o U' => ∃ v L, o = .returned v ∧ QS00 Z ad0 kp ls w fl off len wh h0 n0 v U'.heap L ∧ FrameEnd U o U' L ({ frames := 0, cells := 0, slots := 0, locals := 0 } : Room).cells ({ frames := 0, cells := 0, slots := 0, locals := 0 } : Room).slots) := by
  refine MetFree.of_bodySF (plainFor_of_name own_pn6) hisR ?_
  intro p e s m args below meth c s₁ Bd hml0 hP hK
  obtain ⟨rfl, hZ, hh⟩ := hP
  have hx := Bd.exec
  have hby := Bd.bytes
  have hml : c.maxLocals = 2 := hml0
  have hown : s.vm.findClass own_cE = some m.cls := findClass_of_methodNamed Bd.named
  have hnm := (name_of_methodNamed Bd.named Bd.method).1
  have hlk : meth.locks = false := BodyLoose.notSynchronized Bd
  have X0 : Stand p l e ({ frames := 0, cells := 0, slots := 0, locals := 0 } : Room) s m #[(.ref ad0)] below meth c s₁ [] 0 0 := Stand.of_body Bd
  have e0 : s₁.heap = h0 := by rw [← hh, Bd.state]; rfl
  have N0 := Fr.nil n0
  obtain ⟨G, hG⟩ : ∃ G, G = own_G s (QS00 Z ad0 kp ls w fl off len wh h0 n0) ({ frames := 0, cells := 0, slots := 0, locals := 0 } : Room).cells ({ frames := 0, cells := 0, slots := 0, locals := 0 } : Room).slots := ⟨_, rfl⟩
  show own_Fin p e below (own_G s (QS00 Z ad0 kp ls w fl off len wh h0 n0) ({ frames := 0, cells := 0, slots := 0, locals := 0 } : Room).cells ({ frames := 0, cells := 0, slots := 0, locals := 0 } : Room).slots) (s₁.setTop (entryFrame m #[(.ref ad0)] 2))
  rw [← hG]
  refine own_to (fun _ kz => castTop (efS00 m ad0) kz) ?_
  show own_Fin p e below G (s₁.setTop (mkF m 0 #[.val (.ref ad0), .unset] []))
  refine own_aloadN X0 hx (hb hby d30_0) rfl (rfl) ?_
  obtain ⟨T1, X1, e1, st1⟩ := getF X0 hx hZ hown (host := "") (Or.inl (own_w hw 171 rfl)) Via.refl e0 F_taken_ad0 (g := (mkF m 1 #[.val (.ref ad0), .unset] [(.ref ad0)])) rfl rfl (hb hby d30_1)
  refine own_to st1 ?_
  show own_Fin p e below G (T1.setTop (mkF m 4 #[.val (.ref ad0), .unset] [(.int (0 : Int32))]))
  refine own_to (fun _ kz => XS.istoreN X1.here hx rfl (hb hby d30_4) rfl (l' := #[.val (.ref ad0), .val (.int (0 : Int32))]) rfl kz) ?_
  show own_Fin p e below G (T1.setTop (mkF m 5 #[.val (.ref ad0), .val (.int (0 : Int32))] []))
  refine own_aloadN X1 hx (hb hby d30_5) rfl (rfl) ?_
  obtain ⟨T6, X6, e6, st6⟩ := getF X1 hx hZ hown (host := "") (Or.inl (own_w hw 171 rfl)) Via.refl e1 F_taken_ad0 (g := (mkF m 6 #[.val (.ref ad0), .val (.int (0 : Int32))] [(.ref ad0)])) rfl rfl (hb hby d30_6)
  refine own_to st6 ?_
  show own_Fin p e below G (T6.setTop (mkF m 9 #[.val (.ref ad0), .val (.int (0 : Int32))] [(.int (0 : Int32))]))
  refine own_aloadN X6 hx (hb hby d30_9) rfl (rfl) ?_
  obtain ⟨T10, X10, e10, st10⟩ := getF X6 hx hZ hown (host := "") (Or.inl (own_w hw 72 rfl)) Via.refl e6 F_lastSpan_ad0 (g := (mkF m 10 #[.val (.ref ad0), .val (.int (0 : Int32))] [(.ref ad0), (.int (0 : Int32))])) rfl rfl (hb hby d30_10)
  refine own_to st10 ?_
  show own_Fin p e below G (T10.setTop (mkF m 13 #[.val (.ref ad0), .val (.int (0 : Int32))] [(.int ls), (.int (0 : Int32))]))
  have hc13 : ¬ (ls < (0 : Int32)) := hgt
  refine own_to (fun _ kz => XS.icmpYes X10.here hx rfl (pc0 := 13) (pc' := 27) rfl (hb hby d30_13) rfl (flt hc13).2.2.2 (by decide) (by decide) kz) ?_
  show own_Fin p e below G (T10.setTop (mkF m 27 #[.val (.ref ad0), .val (.int (0 : Int32))] []))
  refine own_aloadN X10 hx (hb hby d30_27) rfl (rfl) ?_
  obtain ⟨T28, X28, e28, st28⟩ := getF X10 hx hZ hown (host := "") (Or.inl (own_w hw 171 rfl)) Via.refl e10 F_taken_ad0 (g := (mkF m 28 #[.val (.ref ad0), .val (.int (0 : Int32))] [(.ref ad0)])) rfl rfl (hb hby d30_28)
  refine own_to st28 ?_
  show own_Fin p e below G (T28.setTop (mkF m 31 #[.val (.ref ad0), .val (.int (0 : Int32))] [(.int (0 : Int32))]))
  refine own_aloadN X28 hx (hb hby d30_31) rfl (rfl) ?_
  obtain ⟨T32, X32, e32, st32⟩ := getF X28 hx hZ hown (host := "") (Or.inl (own_w hw 96 rfl)) Via.refl e28 F_size_ad0 (g := (mkF m 32 #[.val (.ref ad0), .val (.int (0 : Int32))] [(.ref ad0), (.int (0 : Int32))])) rfl rfl (hb hby d30_32)
  refine own_to st32 ?_
  show own_Fin p e below G (T32.setTop (mkF m 35 #[.val (.ref ad0), .val (.int (0 : Int32))] [(.int (3 : Int32)), (.int (0 : Int32))]))
  have hc35 : (0 : Int32) < (3 : Int32) := by decide
  refine own_to (fun _ kz => XS.icmpNo X32.here hx rfl (hb hby d30_35) rfl (tlt hc35).2.1 kz) ?_
  show own_Fin p e below G (T32.setTop (mkF m 38 #[.val (.ref ad0), .val (.int (0 : Int32))] []))
  refine own_aloadN X32 hx (hb hby d30_38) rfl (rfl) ?_
  obtain ⟨T39, X39, e39, st39⟩ := getF X32 hx hZ hown (host := "") (Or.inl (own_w hw 44 rfl)) Via.refl e32 F_lengths_ad0 (g := (mkF m 39 #[.val (.ref ad0), .val (.int (0 : Int32))] [(.ref ad0)])) rfl rfl (hb hby d30_39)
  refine own_to st39 ?_
  show own_Fin p e below G (T39.setTop (mkF m 42 #[.val (.ref ad0), .val (.int (0 : Int32))] [(.ref len)]))
  refine own_aloadN X39 hx (hb hby d30_42) rfl (rfl) ?_
  obtain ⟨T43, X43, e43, st43⟩ := getF X39 hx hZ hown (host := "") (Or.inl (own_w hw 171 rfl)) Via.refl e39 F_taken_ad0 (g := (mkF m 43 #[.val (.ref ad0), .val (.int (0 : Int32))] [(.ref ad0), (.ref len)])) rfl rfl (hb hby d30_43)
  refine own_to st43 ?_
  show own_Fin p e below G (T43.setTop (mkF m 46 #[.val (.ref ad0), .val (.int (0 : Int32))] [(.int (0 : Int32)), (.ref len)]))
  refine own_to (fun _ kz => own_laload X43 hx hZ e43 V_len (j := (0 : Int32)) (by decide) rfl (by decide) (g := (mkF m 46 #[.val (.ref ad0), .val (.int (0 : Int32))] [(.int (0 : Int32)), (.ref len)])) rfl rfl (hb hby d30_46) kz) ?_
  show own_Fin p e below G (T43.setTop (mkF m 47 #[.val (.ref ad0), .val (.int (0 : Int32))] [(.long (fl 0))]))
  refine own_to (fun _ kz => XS.lconst X43.here hx rfl (hb hby d30_47) kz) ?_
  show own_Fin p e below G (T43.setTop (mkF m 48 #[.val (.ref ad0), .val (.int (0 : Int32))] [(.long (0 : Int64)), (.long (fl 0))]))
  refine own_to (fun _ kz => XS.lcmp X43.here hx rfl (hb hby d30_48) rfl kz) ?_
  show own_Fin p e below G (T43.setTop (mkF m 49 #[.val (.ref ad0), .val (.int (0 : Int32))] [(.int (lcmpW (fl 0) (0 : Int64)))]))
  have hc49 : (fl 0) < (0 : Int64) := hneg
  refine own_to (fun _ kz => XS.ifYes X43.here hx rfl (pc0 := 49) (pc' := 111) rfl (hb hby d30_49) rfl ((if0 _ _).trans (tlt ((lw_lt _ _).mpr hc49)).1) (by decide) (by decide) kz) ?_
  show own_Fin p e below G (T43.setTop (mkF m 111 #[.val (.ref ad0), .val (.int (0 : Int32))] []))
  refine own_aloadN X43 hx (hb hby d30_111) rfl (rfl) ?_
  obtain ⟨T112, X112, e112, st112⟩ := getF X43 hx hZ hown (host := "") (Or.inl (own_w hw 171 rfl)) Via.refl e43 F_taken_ad0 (g := (mkF m 112 #[.val (.ref ad0), .val (.int (0 : Int32))] [(.ref ad0)])) rfl rfl (hb hby d30_112)
  refine own_to st112 ?_
  show own_Fin p e below G (T112.setTop (mkF m 115 #[.val (.ref ad0), .val (.int (0 : Int32))] [(.int (0 : Int32))]))
  refine own_iloadN X112 hx (hb hby d30_115) rfl ?_
  refine own_to (fun _ kz => XS.isub X112.here hx rfl (hb hby d30_116) rfl kz) ?_
  show own_Fin p e below G (T112.setTop (mkF m 117 #[.val (.ref ad0), .val (.int (0 : Int32))] [(.int (0 : Int32))]))
  exact own_retI X112 hx hlk hG Bd.returns (hb hby d30_117) (by decide) (by decide) (by rw [e112]; exact ⟨rfl, N0, (Keep.refl h0 [ad0]), E_ad0, F_kept_ad0, F_offsets_ad0, F_lengths_ad0, F_whole_ad0, F_size_ad0, F_lastSpan_ad0, F_taken_ad0, F_takenWhole_ad0⟩)
theorem efS01 (m : MethodId) (ad0 : Addr) : entryFrame m #[(.ref ad0)] 2 = mkF m 0 #[.val (.ref ad0), .unset] [] := by first | (simp [entryFrame, mkF, argsToLocals, Value.category]; done) | rfl
def QS01 (Z : State) (ad0 : Addr) (kp : Int32) (ls : Int32) (w : Int32) (fl : Nat → Int64) (off : Addr) (len : Addr) (wh : Addr) (h0 : Heap) (n0 : Nat) (v : Option Value) (h : Heap) (L : List Loc) : Prop := v = some (.int (1 : Int32)) ∧ Fr n0 L ∧ Keep h0 h [ad0] ∧ Exa Z h ad0 own_cE ∧ Fld Z h ad0 own_cE "kept" "I" (.int kp) ∧ Fld Z h ad0 own_cE "offsets" "[J" (.ref off) ∧ Fld Z h ad0 own_cE "lengths" "[J" (.ref len) ∧ Fld Z h ad0 own_cE "whole" "Ljava/util/List;" (.ref wh) ∧ Fld Z h ad0 own_cE "size" "I" (.int (3 : Int32)) ∧ Fld Z h ad0 own_cE "lastSpan" "I" (.int ls) ∧ Fld Z h ad0 own_cE "taken" "I" (.int (1 : Int32)) ∧ Fld Z h ad0 own_cE "takenWhole" "I" (.int (w + (1 : Int32)))
set_option maxRecDepth 65536 in
set_option maxHeartbeats 40000000 in
theorem rmS01 (l : Launch) (Z : State) (a0 : Array Value) (hw : ∀ d ∈ tables_1, d.before a0 Z = true) (ws : List Jvm.Cond) (ad0 : Addr) (kp : Int32) (ls : Int32) (w : Int32) (fl : Nat → Int64) (off : Addr) (len : Addr) (wh : Addr) (h0 : Heap) (n0 : Nat) (Z0 : n0 ≤ h0.size) (E_ad0 : Exa Z h0 ad0 own_cE) (F_kept_ad0 : Fld Z h0 ad0 own_cE "kept" "I" (.int kp)) (F_offsets_ad0 : Fld Z h0 ad0 own_cE "offsets" "[J" (.ref off)) (F_lengths_ad0 : Fld Z h0 ad0 own_cE "lengths" "[J" (.ref len)) (F_whole_ad0 : Fld Z h0 ad0 own_cE "whole" "Ljava/util/List;" (.ref wh)) (F_size_ad0 : Fld Z h0 ad0 own_cE "size" "I" (.int (3 : Int32))) (F_lastSpan_ad0 : Fld Z h0 ad0 own_cE "lastSpan" "I" (.int ls)) (F_taken_ad0 : Fld Z h0 ad0 own_cE "taken" "I" (.int (0 : Int32))) (F_takenWhole_ad0 : Fld Z h0 ad0 own_cE "takenWhole" "I" (.int w)) (g_ad0 : n0 ≤ ad0) (V_len : own_AV Value.long Z h0 len .long 16 fl) (ne_len_ad0 : len ≠ ad0) (hgt : ¬ ls < (0 : Int32)) (hz0 : (fl 0) = (0 : Int64)) (hneg : (fl 1) < (0 : Int64)) :
    MetFree l own_y30 (head1 (Jvm.Cond.code own_y30 prog_47_method_7_code 2 (some .int) :: ws) ({ frames := 0, cells := 0, slots := 0, locals := 0 } : Room)) (fun a U => a = #[(.ref ad0)] ∧ Z.Warmed39 U.vm ∧ U.heap = h0) (fun _ _ _ _ _ => True) (fun _ U o U' => ∃ v L, o = .returned v ∧ QS01 Z ad0 kp ls w fl off len wh h0 n0 v U'.heap L ∧ FrameEnd U o U' L ({ frames := 0, cells := 0, slots := 0, locals := 0 } : Room).cells ({ frames := 0, cells := 0, slots := 0, locals := 0 } : Room).slots) := by
  refine MetFree.of_bodySF (plainFor_of_name own_pn6) hisR ?_
  intro p e s m args below meth c s₁ Bd hml0 hP hK
  obtain ⟨rfl, hZ, hh⟩ := hP
  have hx := Bd.exec
  have hby := Bd.bytes
  have hml : c.maxLocals = 2 := hml0
  have hown : s.vm.findClass own_cE = some m.cls := findClass_of_methodNamed Bd.named
  have hnm := (name_of_methodNamed Bd.named Bd.method).1
  have hlk : meth.locks = false := BodyLoose.notSynchronized Bd
  have X0 : Stand p l e ({ frames := 0, cells := 0, slots := 0, locals := 0 } : Room) s m #[(.ref ad0)] below meth c s₁ [] 0 0 := Stand.of_body Bd
  have e0 : s₁.heap = h0 := by rw [← hh, Bd.state]; rfl
  have N0 := Fr.nil n0
  obtain ⟨G, hG⟩ : ∃ G, G = own_G s (QS01 Z ad0 kp ls w fl off len wh h0 n0) ({ frames := 0, cells := 0, slots := 0, locals := 0 } : Room).cells ({ frames := 0, cells := 0, slots := 0, locals := 0 } : Room).slots := ⟨_, rfl⟩
  show own_Fin p e below (own_G s (QS01 Z ad0 kp ls w fl off len wh h0 n0) ({ frames := 0, cells := 0, slots := 0, locals := 0 } : Room).cells ({ frames := 0, cells := 0, slots := 0, locals := 0 } : Room).slots) (s₁.setTop (entryFrame m #[(.ref ad0)] 2))
  rw [← hG]
  refine own_to (fun _ kz => castTop (efS01 m ad0) kz) ?_
  show own_Fin p e below G (s₁.setTop (mkF m 0 #[.val (.ref ad0), .unset] []))
  refine own_aloadN X0 hx (hb hby d30_0) rfl (rfl) ?_
  obtain ⟨T1, X1, e1, st1⟩ := getF X0 hx hZ hown (host := "") (Or.inl (own_w hw 171 rfl)) Via.refl e0 F_taken_ad0 (g := (mkF m 1 #[.val (.ref ad0), .unset] [(.ref ad0)])) rfl rfl (hb hby d30_1)
  refine own_to st1 ?_
  show own_Fin p e below G (T1.setTop (mkF m 4 #[.val (.ref ad0), .unset] [(.int (0 : Int32))]))
  refine own_to (fun _ kz => XS.istoreN X1.here hx rfl (hb hby d30_4) rfl (l' := #[.val (.ref ad0), .val (.int (0 : Int32))]) rfl kz) ?_
  show own_Fin p e below G (T1.setTop (mkF m 5 #[.val (.ref ad0), .val (.int (0 : Int32))] []))
  refine own_aloadN X1 hx (hb hby d30_5) rfl (rfl) ?_
  obtain ⟨T6, X6, e6, st6⟩ := getF X1 hx hZ hown (host := "") (Or.inl (own_w hw 171 rfl)) Via.refl e1 F_taken_ad0 (g := (mkF m 6 #[.val (.ref ad0), .val (.int (0 : Int32))] [(.ref ad0)])) rfl rfl (hb hby d30_6)
  refine own_to st6 ?_
  show own_Fin p e below G (T6.setTop (mkF m 9 #[.val (.ref ad0), .val (.int (0 : Int32))] [(.int (0 : Int32))]))
  refine own_aloadN X6 hx (hb hby d30_9) rfl (rfl) ?_
  obtain ⟨T10, X10, e10, st10⟩ := getF X6 hx hZ hown (host := "") (Or.inl (own_w hw 72 rfl)) Via.refl e6 F_lastSpan_ad0 (g := (mkF m 10 #[.val (.ref ad0), .val (.int (0 : Int32))] [(.ref ad0), (.int (0 : Int32))])) rfl rfl (hb hby d30_10)
  refine own_to st10 ?_
  show own_Fin p e below G (T10.setTop (mkF m 13 #[.val (.ref ad0), .val (.int (0 : Int32))] [(.int ls), (.int (0 : Int32))]))
  have hc13 : ¬ (ls < (0 : Int32)) := hgt
  refine own_to (fun _ kz => XS.icmpYes X10.here hx rfl (pc0 := 13) (pc' := 27) rfl (hb hby d30_13) rfl (flt hc13).2.2.2 (by decide) (by decide) kz) ?_
  show own_Fin p e below G (T10.setTop (mkF m 27 #[.val (.ref ad0), .val (.int (0 : Int32))] []))
  refine own_aloadN X10 hx (hb hby d30_27) rfl (rfl) ?_
  obtain ⟨T28, X28, e28, st28⟩ := getF X10 hx hZ hown (host := "") (Or.inl (own_w hw 171 rfl)) Via.refl e10 F_taken_ad0 (g := (mkF m 28 #[.val (.ref ad0), .val (.int (0 : Int32))] [(.ref ad0)])) rfl rfl (hb hby d30_28)
  refine own_to st28 ?_
  show own_Fin p e below G (T28.setTop (mkF m 31 #[.val (.ref ad0), .val (.int (0 : Int32))] [(.int (0 : Int32))]))
  refine own_aloadN X28 hx (hb hby d30_31) rfl (rfl) ?_
  obtain ⟨T32, X32, e32, st32⟩ := getF X28 hx hZ hown (host := "") (Or.inl (own_w hw 96 rfl)) Via.refl e28 F_size_ad0 (g := (mkF m 32 #[.val (.ref ad0), .val (.int (0 : Int32))] [(.ref ad0), (.int (0 : Int32))])) rfl rfl (hb hby d30_32)
  refine own_to st32 ?_
  show own_Fin p e below G (T32.setTop (mkF m 35 #[.val (.ref ad0), .val (.int (0 : Int32))] [(.int (3 : Int32)), (.int (0 : Int32))]))
  have hc35 : (0 : Int32) < (3 : Int32) := by decide
  refine own_to (fun _ kz => XS.icmpNo X32.here hx rfl (hb hby d30_35) rfl (tlt hc35).2.1 kz) ?_
  show own_Fin p e below G (T32.setTop (mkF m 38 #[.val (.ref ad0), .val (.int (0 : Int32))] []))
  refine own_aloadN X32 hx (hb hby d30_38) rfl (rfl) ?_
  obtain ⟨T39, X39, e39, st39⟩ := getF X32 hx hZ hown (host := "") (Or.inl (own_w hw 44 rfl)) Via.refl e32 F_lengths_ad0 (g := (mkF m 39 #[.val (.ref ad0), .val (.int (0 : Int32))] [(.ref ad0)])) rfl rfl (hb hby d30_39)
  refine own_to st39 ?_
  show own_Fin p e below G (T39.setTop (mkF m 42 #[.val (.ref ad0), .val (.int (0 : Int32))] [(.ref len)]))
  refine own_aloadN X39 hx (hb hby d30_42) rfl (rfl) ?_
  obtain ⟨T43, X43, e43, st43⟩ := getF X39 hx hZ hown (host := "") (Or.inl (own_w hw 171 rfl)) Via.refl e39 F_taken_ad0 (g := (mkF m 43 #[.val (.ref ad0), .val (.int (0 : Int32))] [(.ref ad0), (.ref len)])) rfl rfl (hb hby d30_43)
  refine own_to st43 ?_
  show own_Fin p e below G (T43.setTop (mkF m 46 #[.val (.ref ad0), .val (.int (0 : Int32))] [(.int (0 : Int32)), (.ref len)]))
  refine own_to (fun _ kz => own_laload X43 hx hZ e43 V_len (j := (0 : Int32)) (by decide) rfl (by decide) (g := (mkF m 46 #[.val (.ref ad0), .val (.int (0 : Int32))] [(.int (0 : Int32)), (.ref len)])) rfl rfl (hb hby d30_46) kz) ?_
  show own_Fin p e below G (T43.setTop (mkF m 47 #[.val (.ref ad0), .val (.int (0 : Int32))] [(.long (fl 0))]))
  rw [hz0]
  show own_Fin p e below G (T43.setTop (mkF m 47 #[.val (.ref ad0), .val (.int (0 : Int32))] [(.long (0 : Int64))]))
  refine own_to (fun _ kz => XS.lconst X43.here hx rfl (hb hby d30_47) kz) ?_
  show own_Fin p e below G (T43.setTop (mkF m 48 #[.val (.ref ad0), .val (.int (0 : Int32))] [(.long (0 : Int64)), (.long (0 : Int64))]))
  refine own_to (fun _ kz => XS.lcmp X43.here hx rfl (hb hby d30_48) rfl kz) ?_
  show own_Fin p e below G (T43.setTop (mkF m 49 #[.val (.ref ad0), .val (.int (0 : Int32))] [(.int (lcmpW (0 : Int64) (0 : Int64)))]))
  have hc49 : ¬ ((0 : Int64) < (0 : Int64)) := by decide
  refine own_to (fun _ kz => XS.ifNo X43.here hx rfl (hb hby d30_49) rfl ((if0 _ _).trans (flt (fun q => hc49 ((lw_lt _ _).mp q))).1) kz) ?_
  show own_Fin p e below G (T43.setTop (mkF m 52 #[.val (.ref ad0), .val (.int (0 : Int32))] []))
  refine own_aloadN X43 hx (hb hby d30_52) rfl (rfl) ?_
  obtain ⟨T53, X53, e53, st53⟩ := getF X43 hx hZ hown (host := "") (Or.inl (own_w hw 44 rfl)) Via.refl e43 F_lengths_ad0 (g := (mkF m 53 #[.val (.ref ad0), .val (.int (0 : Int32))] [(.ref ad0)])) rfl rfl (hb hby d30_53)
  refine own_to st53 ?_
  show own_Fin p e below G (T53.setTop (mkF m 56 #[.val (.ref ad0), .val (.int (0 : Int32))] [(.ref len)]))
  refine own_aloadN X53 hx (hb hby d30_56) rfl (rfl) ?_
  obtain ⟨T57, X57, e57, st57⟩ := getF X53 hx hZ hown (host := "") (Or.inl (own_w hw 171 rfl)) Via.refl e53 F_taken_ad0 (g := (mkF m 57 #[.val (.ref ad0), .val (.int (0 : Int32))] [(.ref ad0), (.ref len)])) rfl rfl (hb hby d30_57)
  refine own_to st57 ?_
  show own_Fin p e below G (T57.setTop (mkF m 60 #[.val (.ref ad0), .val (.int (0 : Int32))] [(.int (0 : Int32)), (.ref len)]))
  refine own_to (fun _ kz => own_laload X57 hx hZ e57 V_len (j := (0 : Int32)) (by decide) rfl (by decide) (g := (mkF m 60 #[.val (.ref ad0), .val (.int (0 : Int32))] [(.int (0 : Int32)), (.ref len)])) rfl rfl (hb hby d30_60) kz) ?_
  show own_Fin p e below G (T57.setTop (mkF m 61 #[.val (.ref ad0), .val (.int (0 : Int32))] [(.long (fl 0))]))
  rw [hz0]
  show own_Fin p e below G (T57.setTop (mkF m 61 #[.val (.ref ad0), .val (.int (0 : Int32))] [(.long (0 : Int64))]))
  refine own_to (fun _ kz => XS.lconst X57.here hx rfl (hb hby d30_61) kz) ?_
  show own_Fin p e below G (T57.setTop (mkF m 62 #[.val (.ref ad0), .val (.int (0 : Int32))] [(.long (0 : Int64)), (.long (0 : Int64))]))
  refine own_to (fun _ kz => XS.lcmp X57.here hx rfl (hb hby d30_62) rfl kz) ?_
  show own_Fin p e below G (T57.setTop (mkF m 63 #[.val (.ref ad0), .val (.int (0 : Int32))] [(.int (lcmpW (0 : Int64) (0 : Int64)))]))
  have hc63 : ¬ ((0 : Int64) < (0 : Int64)) := by decide
  refine own_to (fun _ kz => XS.ifYes X57.here hx rfl (pc0 := 63) (pc' := 88) rfl (hb hby d30_63) rfl ((if0 _ _).trans (flt (fun q => hc63 ((lw_gt _ _).mp q))).2.2.2) (by decide) (by decide) kz) ?_
  show own_Fin p e below G (T57.setTop (mkF m 88 #[.val (.ref ad0), .val (.int (0 : Int32))] []))
  refine own_aloadN X57 hx (hb hby d30_88) rfl (rfl) ?_
  refine own_dup X57 hx (hb hby d30_89) rfl ?_
  obtain ⟨T90, X90, e90, st90⟩ := getF X57 hx hZ hown (host := "") (Or.inl (own_w hw 204 rfl)) Via.refl e57 F_takenWhole_ad0 (g := (mkF m 90 #[.val (.ref ad0), .val (.int (0 : Int32))] [(.ref ad0), (.ref ad0)])) rfl rfl (hb hby d30_90)
  refine own_to st90 ?_
  show own_Fin p e below G (T90.setTop (mkF m 93 #[.val (.ref ad0), .val (.int (0 : Int32))] [(.int w), (.ref ad0)]))
  refine own_iconst X90 hx (1) (hb hby d30_93) rfl ?_
  refine own_to (fun _ kz => XS.iadd X90.here hx rfl (hb hby d30_94) rfl kz) ?_
  show own_Fin p e below G (T90.setTop (mkF m 95 #[.val (.ref ad0), .val (.int (0 : Int32))] [(.int (w + (1 : Int32))), (.ref ad0)]))
  obtain ⟨T95, h95, X95, e95, W95, st95⟩ := putF X90 hx hZ hown (host := "") (Or.inl (own_w hw 204 rfl)) Via.refl e90 F_takenWhole_ad0 E_ad0 (Or.inl (own_w hw 205 rfl)) (own_w hw 30 rfl) (ty := .int) (by decide) rfl rfl (g := (mkF m 95 #[.val (.ref ad0), .val (.int (0 : Int32))] [(.int (w + (1 : Int32))), (.ref ad0)])) rfl rfl (hb hby d30_95)
  refine own_to st95 ?_
  have Fw95 : Fld Z h95 ad0 own_cE "takenWhole" "I" (.int (w + (1 : Int32))) := Fld.same W95 F_takenWhole_ad0
  obtain ⟨lo95, X95, N95⟩ : ∃ lo, Stand p l e _ s m _ below meth c T95 lo _ _ ∧ Fr n0 lo := ⟨_, X95, Fr.snoc X95 N0 g_ad0⟩
  show own_Fin p e below G (T95.setTop (mkF m 98 #[.val (.ref ad0), .val (.int (0 : Int32))] []))
  refine own_aloadN X95 hx (hb hby d30_98) rfl (rfl) ?_
  refine own_dup X95 hx (hb hby d30_99) rfl ?_
  have F_taken_ad0_at_100 := (F_taken_ad0.other W95 (Or.inr (slot_ne (Or.inl (own_w hw 172 rfl)) (Or.inl (own_w hw 205 rfl)) (by decide) (t := .int) (t' := .int) (by decide) (by decide))))
  obtain ⟨T100, X100, e100, st100⟩ := getF X95 hx hZ hown (host := "") (Or.inl (own_w hw 171 rfl)) Via.refl e95 F_taken_ad0_at_100 (g := (mkF m 100 #[.val (.ref ad0), .val (.int (0 : Int32))] [(.ref ad0), (.ref ad0)])) rfl rfl (hb hby d30_100)
  refine own_to st100 ?_
  show own_Fin p e below G (T100.setTop (mkF m 103 #[.val (.ref ad0), .val (.int (0 : Int32))] [(.int (0 : Int32)), (.ref ad0)]))
  refine own_iconst X100 hx (1) (hb hby d30_103) rfl ?_
  refine own_to (fun _ kz => XS.iadd X100.here hx rfl (hb hby d30_104) rfl kz) ?_
  show own_Fin p e below G (T100.setTop (mkF m 105 #[.val (.ref ad0), .val (.int (0 : Int32))] [(.int (1 : Int32)), (.ref ad0)]))
  have E_ad0_at_105 := (E_ad0.wr W95)
  obtain ⟨T105, h105, X105, e105, W105, st105⟩ := putF X100 hx hZ hown (host := "") (Or.inl (own_w hw 171 rfl)) Via.refl e100 F_taken_ad0_at_100 E_ad0_at_105 (Or.inl (own_w hw 172 rfl)) (own_w hw 30 rfl) (ty := .int) (by decide) rfl rfl (g := (mkF m 105 #[.val (.ref ad0), .val (.int (0 : Int32))] [(.int (1 : Int32)), (.ref ad0)])) rfl rfl (hb hby d30_105)
  refine own_to st105 ?_
  have Fw105 : Fld Z h105 ad0 own_cE "taken" "I" (.int (1 : Int32)) := Fld.same W105 F_taken_ad0_at_100
  obtain ⟨lo105, X105, N105⟩ : ∃ lo, Stand p l e _ s m _ below meth c T105 lo _ _ ∧ Fr n0 lo := ⟨_, X105, Fr.snoc X105 N95 g_ad0⟩
  show own_Fin p e below G (T105.setTop (mkF m 108 #[.val (.ref ad0), .val (.int (0 : Int32))] []))
  refine own_to (fun _ kz => XS.goto X105.here hx rfl (pc0 := 108) (pc' := 27) rfl (hb hby d30_108) (by decide) (by decide) kz) ?_
  show own_Fin p e below G (T105.setTop (mkF m 27 #[.val (.ref ad0), .val (.int (0 : Int32))] []))
  refine own_aloadN X105 hx (hb hby d30_27) rfl (rfl) ?_
  obtain ⟨T28v2, X28v2, e28v2, st28v2⟩ := getF X105 hx hZ hown (host := "") (Or.inl (own_w hw 171 rfl)) Via.refl e105 Fw105 (g := (mkF m 28 #[.val (.ref ad0), .val (.int (0 : Int32))] [(.ref ad0)])) rfl rfl (hb hby d30_28)
  refine own_to st28v2 ?_
  show own_Fin p e below G (T28v2.setTop (mkF m 31 #[.val (.ref ad0), .val (.int (0 : Int32))] [(.int (1 : Int32))]))
  refine own_aloadN X28v2 hx (hb hby d30_31) rfl (rfl) ?_
  have F_size_ad0_at_32 := ((F_size_ad0.other W95 (Or.inr (slot_ne (Or.inl (own_w hw 97 rfl)) (Or.inl (own_w hw 205 rfl)) (by decide) (t := .int) (t' := .int) (by decide) (by decide)))).other W105 (Or.inr (slot_ne (Or.inl (own_w hw 97 rfl)) (Or.inl (own_w hw 172 rfl)) (by decide) (t := .int) (t' := .int) (by decide) (by decide))))
  obtain ⟨T32v2, X32v2, e32v2, st32v2⟩ := getF X28v2 hx hZ hown (host := "") (Or.inl (own_w hw 96 rfl)) Via.refl e28v2 F_size_ad0_at_32 (g := (mkF m 32 #[.val (.ref ad0), .val (.int (0 : Int32))] [(.ref ad0), (.int (1 : Int32))])) rfl rfl (hb hby d30_32)
  refine own_to st32v2 ?_
  show own_Fin p e below G (T32v2.setTop (mkF m 35 #[.val (.ref ad0), .val (.int (0 : Int32))] [(.int (3 : Int32)), (.int (1 : Int32))]))
  have hc35v2 : (1 : Int32) < (3 : Int32) := by decide
  refine own_to (fun _ kz => XS.icmpNo X32v2.here hx rfl (hb hby d30_35) rfl (tlt hc35v2).2.1 kz) ?_
  show own_Fin p e below G (T32v2.setTop (mkF m 38 #[.val (.ref ad0), .val (.int (0 : Int32))] []))
  refine own_aloadN X32v2 hx (hb hby d30_38) rfl (rfl) ?_
  have F_lengths_ad0_at_39 := ((F_lengths_ad0.other W95 (Or.inr (slot_ne (Or.inl (own_w hw 45 rfl)) (Or.inl (own_w hw 205 rfl)) (by decide) (t := (.array .long)) (t' := .int) (by decide) (by decide)))).other W105 (Or.inr (slot_ne (Or.inl (own_w hw 45 rfl)) (Or.inl (own_w hw 172 rfl)) (by decide) (t := (.array .long)) (t' := .int) (by decide) (by decide))))
  obtain ⟨T39v2, X39v2, e39v2, st39v2⟩ := getF X32v2 hx hZ hown (host := "") (Or.inl (own_w hw 44 rfl)) Via.refl e32v2 F_lengths_ad0_at_39 (g := (mkF m 39 #[.val (.ref ad0), .val (.int (0 : Int32))] [(.ref ad0)])) rfl rfl (hb hby d30_39)
  refine own_to st39v2 ?_
  show own_Fin p e below G (T39v2.setTop (mkF m 42 #[.val (.ref ad0), .val (.int (0 : Int32))] [(.ref len)]))
  refine own_aloadN X39v2 hx (hb hby d30_42) rfl (rfl) ?_
  obtain ⟨T43v2, X43v2, e43v2, st43v2⟩ := getF X39v2 hx hZ hown (host := "") (Or.inl (own_w hw 171 rfl)) Via.refl e39v2 Fw105 (g := (mkF m 43 #[.val (.ref ad0), .val (.int (0 : Int32))] [(.ref ad0), (.ref len)])) rfl rfl (hb hby d30_43)
  refine own_to st43v2 ?_
  show own_Fin p e below G (T43v2.setTop (mkF m 46 #[.val (.ref ad0), .val (.int (0 : Int32))] [(.int (1 : Int32)), (.ref len)]))
  have V_len_at_46 := ((V_len.other W95 ne_len_ad0).other W105 ne_len_ad0)
  refine own_to (fun _ kz => own_laload X43v2 hx hZ e43v2 V_len_at_46 (j := (1 : Int32)) (by decide) rfl (by decide) (g := (mkF m 46 #[.val (.ref ad0), .val (.int (0 : Int32))] [(.int (1 : Int32)), (.ref len)])) rfl rfl (hb hby d30_46) kz) ?_
  show own_Fin p e below G (T43v2.setTop (mkF m 47 #[.val (.ref ad0), .val (.int (0 : Int32))] [(.long (fl 1))]))
  refine own_to (fun _ kz => XS.lconst X43v2.here hx rfl (hb hby d30_47) kz) ?_
  show own_Fin p e below G (T43v2.setTop (mkF m 48 #[.val (.ref ad0), .val (.int (0 : Int32))] [(.long (0 : Int64)), (.long (fl 1))]))
  refine own_to (fun _ kz => XS.lcmp X43v2.here hx rfl (hb hby d30_48) rfl kz) ?_
  show own_Fin p e below G (T43v2.setTop (mkF m 49 #[.val (.ref ad0), .val (.int (0 : Int32))] [(.int (lcmpW (fl 1) (0 : Int64)))]))
  have hc49v2 : (fl 1) < (0 : Int64) := hneg
  refine own_to (fun _ kz => XS.ifYes X43v2.here hx rfl (pc0 := 49) (pc' := 111) rfl (hb hby d30_49) rfl ((if0 _ _).trans (tlt ((lw_lt _ _).mpr hc49v2)).1) (by decide) (by decide) kz) ?_
  show own_Fin p e below G (T43v2.setTop (mkF m 111 #[.val (.ref ad0), .val (.int (0 : Int32))] []))
  refine own_aloadN X43v2 hx (hb hby d30_111) rfl (rfl) ?_
  obtain ⟨T112, X112, e112, st112⟩ := getF X43v2 hx hZ hown (host := "") (Or.inl (own_w hw 171 rfl)) Via.refl e43v2 Fw105 (g := (mkF m 112 #[.val (.ref ad0), .val (.int (0 : Int32))] [(.ref ad0)])) rfl rfl (hb hby d30_112)
  refine own_to st112 ?_
  show own_Fin p e below G (T112.setTop (mkF m 115 #[.val (.ref ad0), .val (.int (0 : Int32))] [(.int (1 : Int32))]))
  refine own_iloadN X112 hx (hb hby d30_115) rfl ?_
  refine own_to (fun _ kz => XS.isub X112.here hx rfl (hb hby d30_116) rfl kz) ?_
  show own_Fin p e below G (T112.setTop (mkF m 117 #[.val (.ref ad0), .val (.int (0 : Int32))] [(.int (1 : Int32))]))
  have KP_117 : Keep h0 h105 [ad0] := (((Keep.refl h0 [ad0]).wr W95 (Or.inl (List.mem_of_getElem? (i := 0) rfl))).wr W105 (Or.inl (List.mem_of_getElem? (i := 0) rfl)))
  have E_ad0_at_117 := (E_ad0_at_105.wr W105)
  have F_kept_ad0_at_117 := ((F_kept_ad0.other W95 (Or.inr (slot_ne (Or.inr (own_w hw 79 rfl)) (Or.inl (own_w hw 205 rfl)) (by decide) (t := .int) (t' := .int) (by decide) (by decide)))).other W105 (Or.inr (slot_ne (Or.inr (own_w hw 79 rfl)) (Or.inl (own_w hw 172 rfl)) (by decide) (t := .int) (t' := .int) (by decide) (by decide))))
  have F_offsets_ad0_at_117 := ((F_offsets_ad0.other W95 (Or.inr (slot_ne (Or.inl (own_w hw 43 rfl)) (Or.inl (own_w hw 205 rfl)) (by decide) (t := (.array .long)) (t' := .int) (by decide) (by decide)))).other W105 (Or.inr (slot_ne (Or.inl (own_w hw 43 rfl)) (Or.inl (own_w hw 172 rfl)) (by decide) (t := (.array .long)) (t' := .int) (by decide) (by decide))))
  have F_whole_ad0_at_117 := ((F_whole_ad0.other W95 (Or.inr (slot_ne (Or.inr (own_w hw 71 rfl)) (Or.inl (own_w hw 205 rfl)) (by decide) (t := (.object "java/util/List")) (t' := .int) (by decide) (by decide)))).other W105 (Or.inr (slot_ne (Or.inr (own_w hw 71 rfl)) (Or.inl (own_w hw 172 rfl)) (by decide) (t := (.object "java/util/List")) (t' := .int) (by decide) (by decide))))
  have F_lastSpan_ad0_at_117 := ((F_lastSpan_ad0.other W95 (Or.inr (slot_ne (Or.inl (own_w hw 73 rfl)) (Or.inl (own_w hw 205 rfl)) (by decide) (t := .int) (t' := .int) (by decide) (by decide)))).other W105 (Or.inr (slot_ne (Or.inl (own_w hw 73 rfl)) (Or.inl (own_w hw 172 rfl)) (by decide) (t := .int) (t' := .int) (by decide) (by decide))))
  have Fw95_at_117 := (Fw95.other W105 (Or.inr (slot_ne (Or.inl (own_w hw 205 rfl)) (Or.inl (own_w hw 172 rfl)) (by decide) (t := .int) (t' := .int) (by decide) (by decide))))
  exact own_retI X112 hx hlk hG Bd.returns (hb hby d30_117) (by decide) (by decide) (by rw [e112]; exact ⟨rfl, N105, KP_117, E_ad0_at_117, F_kept_ad0_at_117, F_offsets_ad0_at_117, F_lengths_ad0_at_39, F_whole_ad0_at_117, F_size_ad0_at_32, F_lastSpan_ad0_at_117, Fw105, Fw95_at_117⟩)
theorem efS02 (m : MethodId) (ad0 : Addr) : entryFrame m #[(.ref ad0)] 2 = mkF m 0 #[.val (.ref ad0), .unset] [] := by first | (simp [entryFrame, mkF, argsToLocals, Value.category]; done) | rfl
def QS02 (Z : State) (ad0 : Addr) (kp : Int32) (ls : Int32) (w : Int32) (fl : Nat → Int64) (off : Addr) (len : Addr) (wh : Addr) (h0 : Heap) (n0 : Nat) (v : Option Value) (h : Heap) (L : List Loc) : Prop := v = some (.int (2 : Int32)) ∧ Fr n0 L ∧ Keep h0 h [ad0] ∧ Exa Z h ad0 own_cE ∧ Fld Z h ad0 own_cE "kept" "I" (.int kp) ∧ Fld Z h ad0 own_cE "offsets" "[J" (.ref off) ∧ Fld Z h ad0 own_cE "lengths" "[J" (.ref len) ∧ Fld Z h ad0 own_cE "whole" "Ljava/util/List;" (.ref wh) ∧ Fld Z h ad0 own_cE "size" "I" (.int (3 : Int32)) ∧ Fld Z h ad0 own_cE "lastSpan" "I" (.int ls) ∧ Fld Z h ad0 own_cE "taken" "I" (.int (2 : Int32)) ∧ Fld Z h ad0 own_cE "takenWhole" "I" (.int ((w + (1 : Int32)) + (1 : Int32)))
set_option maxRecDepth 65536 in
set_option maxHeartbeats 40000000 in
theorem rmS02 (l : Launch) (Z : State) (a0 : Array Value) (hw : ∀ d ∈ tables_1, d.before a0 Z = true) (ws : List Jvm.Cond) (ad0 : Addr) (kp : Int32) (ls : Int32) (w : Int32) (fl : Nat → Int64) (off : Addr) (len : Addr) (wh : Addr) (h0 : Heap) (n0 : Nat) (Z0 : n0 ≤ h0.size) (E_ad0 : Exa Z h0 ad0 own_cE) (F_kept_ad0 : Fld Z h0 ad0 own_cE "kept" "I" (.int kp)) (F_offsets_ad0 : Fld Z h0 ad0 own_cE "offsets" "[J" (.ref off)) (F_lengths_ad0 : Fld Z h0 ad0 own_cE "lengths" "[J" (.ref len)) (F_whole_ad0 : Fld Z h0 ad0 own_cE "whole" "Ljava/util/List;" (.ref wh)) (F_size_ad0 : Fld Z h0 ad0 own_cE "size" "I" (.int (3 : Int32))) (F_lastSpan_ad0 : Fld Z h0 ad0 own_cE "lastSpan" "I" (.int ls)) (F_taken_ad0 : Fld Z h0 ad0 own_cE "taken" "I" (.int (0 : Int32))) (F_takenWhole_ad0 : Fld Z h0 ad0 own_cE "takenWhole" "I" (.int w)) (g_ad0 : n0 ≤ ad0) (V_len : own_AV Value.long Z h0 len .long 16 fl) (ne_len_ad0 : len ≠ ad0) (hgt : ¬ ls < (0 : Int32)) (hz0 : (fl 0) = (0 : Int64)) (hz1 : (fl 1) = (0 : Int64)) (hneg : (fl 2) < (0 : Int64)) :
    MetFree l own_y30 (head1 (Jvm.Cond.code own_y30 prog_47_method_7_code 2 (some .int) :: ws) ({ frames := 0, cells := 0, slots := 0, locals := 0 } : Room)) (fun a U => a = #[(.ref ad0)] ∧ Z.Warmed39 U.vm ∧ U.heap = h0) (fun _ _ _ _ _ => True) (fun _ U o U' => ∃ v L, o = .returned v ∧ QS02 Z ad0 kp ls w fl off len wh h0 n0 v U'.heap L ∧ FrameEnd U o U' L ({ frames := 0, cells := 0, slots := 0, locals := 0 } : Room).cells ({ frames := 0, cells := 0, slots := 0, locals := 0 } : Room).slots) := by
  refine MetFree.of_bodySF (plainFor_of_name own_pn6) hisR ?_
  intro p e s m args below meth c s₁ Bd hml0 hP hK
  obtain ⟨rfl, hZ, hh⟩ := hP
  have hx := Bd.exec
  have hby := Bd.bytes
  have hml : c.maxLocals = 2 := hml0
  have hown : s.vm.findClass own_cE = some m.cls := findClass_of_methodNamed Bd.named
  have hnm := (name_of_methodNamed Bd.named Bd.method).1
  have hlk : meth.locks = false := BodyLoose.notSynchronized Bd
  have X0 : Stand p l e ({ frames := 0, cells := 0, slots := 0, locals := 0 } : Room) s m #[(.ref ad0)] below meth c s₁ [] 0 0 := Stand.of_body Bd
  have e0 : s₁.heap = h0 := by rw [← hh, Bd.state]; rfl
  have N0 := Fr.nil n0
  obtain ⟨G, hG⟩ : ∃ G, G = own_G s (QS02 Z ad0 kp ls w fl off len wh h0 n0) ({ frames := 0, cells := 0, slots := 0, locals := 0 } : Room).cells ({ frames := 0, cells := 0, slots := 0, locals := 0 } : Room).slots := ⟨_, rfl⟩
  show own_Fin p e below (own_G s (QS02 Z ad0 kp ls w fl off len wh h0 n0) ({ frames := 0, cells := 0, slots := 0, locals := 0 } : Room).cells ({ frames := 0, cells := 0, slots := 0, locals := 0 } : Room).slots) (s₁.setTop (entryFrame m #[(.ref ad0)] 2))
  rw [← hG]
  refine own_to (fun _ kz => castTop (efS02 m ad0) kz) ?_
  show own_Fin p e below G (s₁.setTop (mkF m 0 #[.val (.ref ad0), .unset] []))
  refine own_aloadN X0 hx (hb hby d30_0) rfl (rfl) ?_
  obtain ⟨T1, X1, e1, st1⟩ := getF X0 hx hZ hown (host := "") (Or.inl (own_w hw 171 rfl)) Via.refl e0 F_taken_ad0 (g := (mkF m 1 #[.val (.ref ad0), .unset] [(.ref ad0)])) rfl rfl (hb hby d30_1)
  refine own_to st1 ?_
  show own_Fin p e below G (T1.setTop (mkF m 4 #[.val (.ref ad0), .unset] [(.int (0 : Int32))]))
  refine own_to (fun _ kz => XS.istoreN X1.here hx rfl (hb hby d30_4) rfl (l' := #[.val (.ref ad0), .val (.int (0 : Int32))]) rfl kz) ?_
  show own_Fin p e below G (T1.setTop (mkF m 5 #[.val (.ref ad0), .val (.int (0 : Int32))] []))
  refine own_aloadN X1 hx (hb hby d30_5) rfl (rfl) ?_
  obtain ⟨T6, X6, e6, st6⟩ := getF X1 hx hZ hown (host := "") (Or.inl (own_w hw 171 rfl)) Via.refl e1 F_taken_ad0 (g := (mkF m 6 #[.val (.ref ad0), .val (.int (0 : Int32))] [(.ref ad0)])) rfl rfl (hb hby d30_6)
  refine own_to st6 ?_
  show own_Fin p e below G (T6.setTop (mkF m 9 #[.val (.ref ad0), .val (.int (0 : Int32))] [(.int (0 : Int32))]))
  refine own_aloadN X6 hx (hb hby d30_9) rfl (rfl) ?_
  obtain ⟨T10, X10, e10, st10⟩ := getF X6 hx hZ hown (host := "") (Or.inl (own_w hw 72 rfl)) Via.refl e6 F_lastSpan_ad0 (g := (mkF m 10 #[.val (.ref ad0), .val (.int (0 : Int32))] [(.ref ad0), (.int (0 : Int32))])) rfl rfl (hb hby d30_10)
  refine own_to st10 ?_
  show own_Fin p e below G (T10.setTop (mkF m 13 #[.val (.ref ad0), .val (.int (0 : Int32))] [(.int ls), (.int (0 : Int32))]))
  have hc13 : ¬ (ls < (0 : Int32)) := hgt
  refine own_to (fun _ kz => XS.icmpYes X10.here hx rfl (pc0 := 13) (pc' := 27) rfl (hb hby d30_13) rfl (flt hc13).2.2.2 (by decide) (by decide) kz) ?_
  show own_Fin p e below G (T10.setTop (mkF m 27 #[.val (.ref ad0), .val (.int (0 : Int32))] []))
  refine own_aloadN X10 hx (hb hby d30_27) rfl (rfl) ?_
  obtain ⟨T28, X28, e28, st28⟩ := getF X10 hx hZ hown (host := "") (Or.inl (own_w hw 171 rfl)) Via.refl e10 F_taken_ad0 (g := (mkF m 28 #[.val (.ref ad0), .val (.int (0 : Int32))] [(.ref ad0)])) rfl rfl (hb hby d30_28)
  refine own_to st28 ?_
  show own_Fin p e below G (T28.setTop (mkF m 31 #[.val (.ref ad0), .val (.int (0 : Int32))] [(.int (0 : Int32))]))
  refine own_aloadN X28 hx (hb hby d30_31) rfl (rfl) ?_
  obtain ⟨T32, X32, e32, st32⟩ := getF X28 hx hZ hown (host := "") (Or.inl (own_w hw 96 rfl)) Via.refl e28 F_size_ad0 (g := (mkF m 32 #[.val (.ref ad0), .val (.int (0 : Int32))] [(.ref ad0), (.int (0 : Int32))])) rfl rfl (hb hby d30_32)
  refine own_to st32 ?_
  show own_Fin p e below G (T32.setTop (mkF m 35 #[.val (.ref ad0), .val (.int (0 : Int32))] [(.int (3 : Int32)), (.int (0 : Int32))]))
  have hc35 : (0 : Int32) < (3 : Int32) := by decide
  refine own_to (fun _ kz => XS.icmpNo X32.here hx rfl (hb hby d30_35) rfl (tlt hc35).2.1 kz) ?_
  show own_Fin p e below G (T32.setTop (mkF m 38 #[.val (.ref ad0), .val (.int (0 : Int32))] []))
  refine own_aloadN X32 hx (hb hby d30_38) rfl (rfl) ?_
  obtain ⟨T39, X39, e39, st39⟩ := getF X32 hx hZ hown (host := "") (Or.inl (own_w hw 44 rfl)) Via.refl e32 F_lengths_ad0 (g := (mkF m 39 #[.val (.ref ad0), .val (.int (0 : Int32))] [(.ref ad0)])) rfl rfl (hb hby d30_39)
  refine own_to st39 ?_
  show own_Fin p e below G (T39.setTop (mkF m 42 #[.val (.ref ad0), .val (.int (0 : Int32))] [(.ref len)]))
  refine own_aloadN X39 hx (hb hby d30_42) rfl (rfl) ?_
  obtain ⟨T43, X43, e43, st43⟩ := getF X39 hx hZ hown (host := "") (Or.inl (own_w hw 171 rfl)) Via.refl e39 F_taken_ad0 (g := (mkF m 43 #[.val (.ref ad0), .val (.int (0 : Int32))] [(.ref ad0), (.ref len)])) rfl rfl (hb hby d30_43)
  refine own_to st43 ?_
  show own_Fin p e below G (T43.setTop (mkF m 46 #[.val (.ref ad0), .val (.int (0 : Int32))] [(.int (0 : Int32)), (.ref len)]))
  refine own_to (fun _ kz => own_laload X43 hx hZ e43 V_len (j := (0 : Int32)) (by decide) rfl (by decide) (g := (mkF m 46 #[.val (.ref ad0), .val (.int (0 : Int32))] [(.int (0 : Int32)), (.ref len)])) rfl rfl (hb hby d30_46) kz) ?_
  show own_Fin p e below G (T43.setTop (mkF m 47 #[.val (.ref ad0), .val (.int (0 : Int32))] [(.long (fl 0))]))
  rw [hz0]
  show own_Fin p e below G (T43.setTop (mkF m 47 #[.val (.ref ad0), .val (.int (0 : Int32))] [(.long (0 : Int64))]))
  refine own_to (fun _ kz => XS.lconst X43.here hx rfl (hb hby d30_47) kz) ?_
  show own_Fin p e below G (T43.setTop (mkF m 48 #[.val (.ref ad0), .val (.int (0 : Int32))] [(.long (0 : Int64)), (.long (0 : Int64))]))
  refine own_to (fun _ kz => XS.lcmp X43.here hx rfl (hb hby d30_48) rfl kz) ?_
  show own_Fin p e below G (T43.setTop (mkF m 49 #[.val (.ref ad0), .val (.int (0 : Int32))] [(.int (lcmpW (0 : Int64) (0 : Int64)))]))
  have hc49 : ¬ ((0 : Int64) < (0 : Int64)) := by decide
  refine own_to (fun _ kz => XS.ifNo X43.here hx rfl (hb hby d30_49) rfl ((if0 _ _).trans (flt (fun q => hc49 ((lw_lt _ _).mp q))).1) kz) ?_
  show own_Fin p e below G (T43.setTop (mkF m 52 #[.val (.ref ad0), .val (.int (0 : Int32))] []))
  refine own_aloadN X43 hx (hb hby d30_52) rfl (rfl) ?_
  obtain ⟨T53, X53, e53, st53⟩ := getF X43 hx hZ hown (host := "") (Or.inl (own_w hw 44 rfl)) Via.refl e43 F_lengths_ad0 (g := (mkF m 53 #[.val (.ref ad0), .val (.int (0 : Int32))] [(.ref ad0)])) rfl rfl (hb hby d30_53)
  refine own_to st53 ?_
  show own_Fin p e below G (T53.setTop (mkF m 56 #[.val (.ref ad0), .val (.int (0 : Int32))] [(.ref len)]))
  refine own_aloadN X53 hx (hb hby d30_56) rfl (rfl) ?_
  obtain ⟨T57, X57, e57, st57⟩ := getF X53 hx hZ hown (host := "") (Or.inl (own_w hw 171 rfl)) Via.refl e53 F_taken_ad0 (g := (mkF m 57 #[.val (.ref ad0), .val (.int (0 : Int32))] [(.ref ad0), (.ref len)])) rfl rfl (hb hby d30_57)
  refine own_to st57 ?_
  show own_Fin p e below G (T57.setTop (mkF m 60 #[.val (.ref ad0), .val (.int (0 : Int32))] [(.int (0 : Int32)), (.ref len)]))
  refine own_to (fun _ kz => own_laload X57 hx hZ e57 V_len (j := (0 : Int32)) (by decide) rfl (by decide) (g := (mkF m 60 #[.val (.ref ad0), .val (.int (0 : Int32))] [(.int (0 : Int32)), (.ref len)])) rfl rfl (hb hby d30_60) kz) ?_
  show own_Fin p e below G (T57.setTop (mkF m 61 #[.val (.ref ad0), .val (.int (0 : Int32))] [(.long (fl 0))]))
  rw [hz0]
  show own_Fin p e below G (T57.setTop (mkF m 61 #[.val (.ref ad0), .val (.int (0 : Int32))] [(.long (0 : Int64))]))
  refine own_to (fun _ kz => XS.lconst X57.here hx rfl (hb hby d30_61) kz) ?_
  show own_Fin p e below G (T57.setTop (mkF m 62 #[.val (.ref ad0), .val (.int (0 : Int32))] [(.long (0 : Int64)), (.long (0 : Int64))]))
  refine own_to (fun _ kz => XS.lcmp X57.here hx rfl (hb hby d30_62) rfl kz) ?_
  show own_Fin p e below G (T57.setTop (mkF m 63 #[.val (.ref ad0), .val (.int (0 : Int32))] [(.int (lcmpW (0 : Int64) (0 : Int64)))]))
  have hc63 : ¬ ((0 : Int64) < (0 : Int64)) := by decide
  refine own_to (fun _ kz => XS.ifYes X57.here hx rfl (pc0 := 63) (pc' := 88) rfl (hb hby d30_63) rfl ((if0 _ _).trans (flt (fun q => hc63 ((lw_gt _ _).mp q))).2.2.2) (by decide) (by decide) kz) ?_
  show own_Fin p e below G (T57.setTop (mkF m 88 #[.val (.ref ad0), .val (.int (0 : Int32))] []))
  refine own_aloadN X57 hx (hb hby d30_88) rfl (rfl) ?_
  refine own_dup X57 hx (hb hby d30_89) rfl ?_
  obtain ⟨T90, X90, e90, st90⟩ := getF X57 hx hZ hown (host := "") (Or.inl (own_w hw 204 rfl)) Via.refl e57 F_takenWhole_ad0 (g := (mkF m 90 #[.val (.ref ad0), .val (.int (0 : Int32))] [(.ref ad0), (.ref ad0)])) rfl rfl (hb hby d30_90)
  refine own_to st90 ?_
  show own_Fin p e below G (T90.setTop (mkF m 93 #[.val (.ref ad0), .val (.int (0 : Int32))] [(.int w), (.ref ad0)]))
  refine own_iconst X90 hx (1) (hb hby d30_93) rfl ?_
  refine own_to (fun _ kz => XS.iadd X90.here hx rfl (hb hby d30_94) rfl kz) ?_
  show own_Fin p e below G (T90.setTop (mkF m 95 #[.val (.ref ad0), .val (.int (0 : Int32))] [(.int (w + (1 : Int32))), (.ref ad0)]))
  obtain ⟨T95, h95, X95, e95, W95, st95⟩ := putF X90 hx hZ hown (host := "") (Or.inl (own_w hw 204 rfl)) Via.refl e90 F_takenWhole_ad0 E_ad0 (Or.inl (own_w hw 205 rfl)) (own_w hw 30 rfl) (ty := .int) (by decide) rfl rfl (g := (mkF m 95 #[.val (.ref ad0), .val (.int (0 : Int32))] [(.int (w + (1 : Int32))), (.ref ad0)])) rfl rfl (hb hby d30_95)
  refine own_to st95 ?_
  have Fw95 : Fld Z h95 ad0 own_cE "takenWhole" "I" (.int (w + (1 : Int32))) := Fld.same W95 F_takenWhole_ad0
  obtain ⟨lo95, X95, N95⟩ : ∃ lo, Stand p l e _ s m _ below meth c T95 lo _ _ ∧ Fr n0 lo := ⟨_, X95, Fr.snoc X95 N0 g_ad0⟩
  show own_Fin p e below G (T95.setTop (mkF m 98 #[.val (.ref ad0), .val (.int (0 : Int32))] []))
  refine own_aloadN X95 hx (hb hby d30_98) rfl (rfl) ?_
  refine own_dup X95 hx (hb hby d30_99) rfl ?_
  have F_taken_ad0_at_100 := (F_taken_ad0.other W95 (Or.inr (slot_ne (Or.inl (own_w hw 172 rfl)) (Or.inl (own_w hw 205 rfl)) (by decide) (t := .int) (t' := .int) (by decide) (by decide))))
  obtain ⟨T100, X100, e100, st100⟩ := getF X95 hx hZ hown (host := "") (Or.inl (own_w hw 171 rfl)) Via.refl e95 F_taken_ad0_at_100 (g := (mkF m 100 #[.val (.ref ad0), .val (.int (0 : Int32))] [(.ref ad0), (.ref ad0)])) rfl rfl (hb hby d30_100)
  refine own_to st100 ?_
  show own_Fin p e below G (T100.setTop (mkF m 103 #[.val (.ref ad0), .val (.int (0 : Int32))] [(.int (0 : Int32)), (.ref ad0)]))
  refine own_iconst X100 hx (1) (hb hby d30_103) rfl ?_
  refine own_to (fun _ kz => XS.iadd X100.here hx rfl (hb hby d30_104) rfl kz) ?_
  show own_Fin p e below G (T100.setTop (mkF m 105 #[.val (.ref ad0), .val (.int (0 : Int32))] [(.int (1 : Int32)), (.ref ad0)]))
  have E_ad0_at_105 := (E_ad0.wr W95)
  obtain ⟨T105, h105, X105, e105, W105, st105⟩ := putF X100 hx hZ hown (host := "") (Or.inl (own_w hw 171 rfl)) Via.refl e100 F_taken_ad0_at_100 E_ad0_at_105 (Or.inl (own_w hw 172 rfl)) (own_w hw 30 rfl) (ty := .int) (by decide) rfl rfl (g := (mkF m 105 #[.val (.ref ad0), .val (.int (0 : Int32))] [(.int (1 : Int32)), (.ref ad0)])) rfl rfl (hb hby d30_105)
  refine own_to st105 ?_
  have Fw105 : Fld Z h105 ad0 own_cE "taken" "I" (.int (1 : Int32)) := Fld.same W105 F_taken_ad0_at_100
  obtain ⟨lo105, X105, N105⟩ : ∃ lo, Stand p l e _ s m _ below meth c T105 lo _ _ ∧ Fr n0 lo := ⟨_, X105, Fr.snoc X105 N95 g_ad0⟩
  show own_Fin p e below G (T105.setTop (mkF m 108 #[.val (.ref ad0), .val (.int (0 : Int32))] []))
  refine own_to (fun _ kz => XS.goto X105.here hx rfl (pc0 := 108) (pc' := 27) rfl (hb hby d30_108) (by decide) (by decide) kz) ?_
  show own_Fin p e below G (T105.setTop (mkF m 27 #[.val (.ref ad0), .val (.int (0 : Int32))] []))
  refine own_aloadN X105 hx (hb hby d30_27) rfl (rfl) ?_
  obtain ⟨T28v2, X28v2, e28v2, st28v2⟩ := getF X105 hx hZ hown (host := "") (Or.inl (own_w hw 171 rfl)) Via.refl e105 Fw105 (g := (mkF m 28 #[.val (.ref ad0), .val (.int (0 : Int32))] [(.ref ad0)])) rfl rfl (hb hby d30_28)
  refine own_to st28v2 ?_
  show own_Fin p e below G (T28v2.setTop (mkF m 31 #[.val (.ref ad0), .val (.int (0 : Int32))] [(.int (1 : Int32))]))
  refine own_aloadN X28v2 hx (hb hby d30_31) rfl (rfl) ?_
  have F_size_ad0_at_32 := ((F_size_ad0.other W95 (Or.inr (slot_ne (Or.inl (own_w hw 97 rfl)) (Or.inl (own_w hw 205 rfl)) (by decide) (t := .int) (t' := .int) (by decide) (by decide)))).other W105 (Or.inr (slot_ne (Or.inl (own_w hw 97 rfl)) (Or.inl (own_w hw 172 rfl)) (by decide) (t := .int) (t' := .int) (by decide) (by decide))))
  obtain ⟨T32v2, X32v2, e32v2, st32v2⟩ := getF X28v2 hx hZ hown (host := "") (Or.inl (own_w hw 96 rfl)) Via.refl e28v2 F_size_ad0_at_32 (g := (mkF m 32 #[.val (.ref ad0), .val (.int (0 : Int32))] [(.ref ad0), (.int (1 : Int32))])) rfl rfl (hb hby d30_32)
  refine own_to st32v2 ?_
  show own_Fin p e below G (T32v2.setTop (mkF m 35 #[.val (.ref ad0), .val (.int (0 : Int32))] [(.int (3 : Int32)), (.int (1 : Int32))]))
  have hc35v2 : (1 : Int32) < (3 : Int32) := by decide
  refine own_to (fun _ kz => XS.icmpNo X32v2.here hx rfl (hb hby d30_35) rfl (tlt hc35v2).2.1 kz) ?_
  show own_Fin p e below G (T32v2.setTop (mkF m 38 #[.val (.ref ad0), .val (.int (0 : Int32))] []))
  refine own_aloadN X32v2 hx (hb hby d30_38) rfl (rfl) ?_
  have F_lengths_ad0_at_39 := ((F_lengths_ad0.other W95 (Or.inr (slot_ne (Or.inl (own_w hw 45 rfl)) (Or.inl (own_w hw 205 rfl)) (by decide) (t := (.array .long)) (t' := .int) (by decide) (by decide)))).other W105 (Or.inr (slot_ne (Or.inl (own_w hw 45 rfl)) (Or.inl (own_w hw 172 rfl)) (by decide) (t := (.array .long)) (t' := .int) (by decide) (by decide))))
  obtain ⟨T39v2, X39v2, e39v2, st39v2⟩ := getF X32v2 hx hZ hown (host := "") (Or.inl (own_w hw 44 rfl)) Via.refl e32v2 F_lengths_ad0_at_39 (g := (mkF m 39 #[.val (.ref ad0), .val (.int (0 : Int32))] [(.ref ad0)])) rfl rfl (hb hby d30_39)
  refine own_to st39v2 ?_
  show own_Fin p e below G (T39v2.setTop (mkF m 42 #[.val (.ref ad0), .val (.int (0 : Int32))] [(.ref len)]))
  refine own_aloadN X39v2 hx (hb hby d30_42) rfl (rfl) ?_
  obtain ⟨T43v2, X43v2, e43v2, st43v2⟩ := getF X39v2 hx hZ hown (host := "") (Or.inl (own_w hw 171 rfl)) Via.refl e39v2 Fw105 (g := (mkF m 43 #[.val (.ref ad0), .val (.int (0 : Int32))] [(.ref ad0), (.ref len)])) rfl rfl (hb hby d30_43)
  refine own_to st43v2 ?_
  show own_Fin p e below G (T43v2.setTop (mkF m 46 #[.val (.ref ad0), .val (.int (0 : Int32))] [(.int (1 : Int32)), (.ref len)]))
  have V_len_at_46 := ((V_len.other W95 ne_len_ad0).other W105 ne_len_ad0)
  refine own_to (fun _ kz => own_laload X43v2 hx hZ e43v2 V_len_at_46 (j := (1 : Int32)) (by decide) rfl (by decide) (g := (mkF m 46 #[.val (.ref ad0), .val (.int (0 : Int32))] [(.int (1 : Int32)), (.ref len)])) rfl rfl (hb hby d30_46) kz) ?_
  show own_Fin p e below G (T43v2.setTop (mkF m 47 #[.val (.ref ad0), .val (.int (0 : Int32))] [(.long (fl 1))]))
  rw [hz1]
  show own_Fin p e below G (T43v2.setTop (mkF m 47 #[.val (.ref ad0), .val (.int (0 : Int32))] [(.long (0 : Int64))]))
  refine own_to (fun _ kz => XS.lconst X43v2.here hx rfl (hb hby d30_47) kz) ?_
  show own_Fin p e below G (T43v2.setTop (mkF m 48 #[.val (.ref ad0), .val (.int (0 : Int32))] [(.long (0 : Int64)), (.long (0 : Int64))]))
  refine own_to (fun _ kz => XS.lcmp X43v2.here hx rfl (hb hby d30_48) rfl kz) ?_
  show own_Fin p e below G (T43v2.setTop (mkF m 49 #[.val (.ref ad0), .val (.int (0 : Int32))] [(.int (lcmpW (0 : Int64) (0 : Int64)))]))
  have hc49v2 : ¬ ((0 : Int64) < (0 : Int64)) := by decide
  refine own_to (fun _ kz => XS.ifNo X43v2.here hx rfl (hb hby d30_49) rfl ((if0 _ _).trans (flt (fun q => hc49v2 ((lw_lt _ _).mp q))).1) kz) ?_
  show own_Fin p e below G (T43v2.setTop (mkF m 52 #[.val (.ref ad0), .val (.int (0 : Int32))] []))
  refine own_aloadN X43v2 hx (hb hby d30_52) rfl (rfl) ?_
  obtain ⟨T53v2, X53v2, e53v2, st53v2⟩ := getF X43v2 hx hZ hown (host := "") (Or.inl (own_w hw 44 rfl)) Via.refl e43v2 F_lengths_ad0_at_39 (g := (mkF m 53 #[.val (.ref ad0), .val (.int (0 : Int32))] [(.ref ad0)])) rfl rfl (hb hby d30_53)
  refine own_to st53v2 ?_
  show own_Fin p e below G (T53v2.setTop (mkF m 56 #[.val (.ref ad0), .val (.int (0 : Int32))] [(.ref len)]))
  refine own_aloadN X53v2 hx (hb hby d30_56) rfl (rfl) ?_
  obtain ⟨T57v2, X57v2, e57v2, st57v2⟩ := getF X53v2 hx hZ hown (host := "") (Or.inl (own_w hw 171 rfl)) Via.refl e53v2 Fw105 (g := (mkF m 57 #[.val (.ref ad0), .val (.int (0 : Int32))] [(.ref ad0), (.ref len)])) rfl rfl (hb hby d30_57)
  refine own_to st57v2 ?_
  show own_Fin p e below G (T57v2.setTop (mkF m 60 #[.val (.ref ad0), .val (.int (0 : Int32))] [(.int (1 : Int32)), (.ref len)]))
  refine own_to (fun _ kz => own_laload X57v2 hx hZ e57v2 V_len_at_46 (j := (1 : Int32)) (by decide) rfl (by decide) (g := (mkF m 60 #[.val (.ref ad0), .val (.int (0 : Int32))] [(.int (1 : Int32)), (.ref len)])) rfl rfl (hb hby d30_60) kz) ?_
  show own_Fin p e below G (T57v2.setTop (mkF m 61 #[.val (.ref ad0), .val (.int (0 : Int32))] [(.long (fl 1))]))
  rw [hz1]
  show own_Fin p e below G (T57v2.setTop (mkF m 61 #[.val (.ref ad0), .val (.int (0 : Int32))] [(.long (0 : Int64))]))
  refine own_to (fun _ kz => XS.lconst X57v2.here hx rfl (hb hby d30_61) kz) ?_
  show own_Fin p e below G (T57v2.setTop (mkF m 62 #[.val (.ref ad0), .val (.int (0 : Int32))] [(.long (0 : Int64)), (.long (0 : Int64))]))
  refine own_to (fun _ kz => XS.lcmp X57v2.here hx rfl (hb hby d30_62) rfl kz) ?_
  show own_Fin p e below G (T57v2.setTop (mkF m 63 #[.val (.ref ad0), .val (.int (0 : Int32))] [(.int (lcmpW (0 : Int64) (0 : Int64)))]))
  have hc63v2 : ¬ ((0 : Int64) < (0 : Int64)) := by decide
  refine own_to (fun _ kz => XS.ifYes X57v2.here hx rfl (pc0 := 63) (pc' := 88) rfl (hb hby d30_63) rfl ((if0 _ _).trans (flt (fun q => hc63v2 ((lw_gt _ _).mp q))).2.2.2) (by decide) (by decide) kz) ?_
  show own_Fin p e below G (T57v2.setTop (mkF m 88 #[.val (.ref ad0), .val (.int (0 : Int32))] []))
  refine own_aloadN X57v2 hx (hb hby d30_88) rfl (rfl) ?_
  refine own_dup X57v2 hx (hb hby d30_89) rfl ?_
  have Fw95_at_90 := (Fw95.other W105 (Or.inr (slot_ne (Or.inl (own_w hw 205 rfl)) (Or.inl (own_w hw 172 rfl)) (by decide) (t := .int) (t' := .int) (by decide) (by decide))))
  obtain ⟨T90v2, X90v2, e90v2, st90v2⟩ := getF X57v2 hx hZ hown (host := "") (Or.inl (own_w hw 204 rfl)) Via.refl e57v2 Fw95_at_90 (g := (mkF m 90 #[.val (.ref ad0), .val (.int (0 : Int32))] [(.ref ad0), (.ref ad0)])) rfl rfl (hb hby d30_90)
  refine own_to st90v2 ?_
  show own_Fin p e below G (T90v2.setTop (mkF m 93 #[.val (.ref ad0), .val (.int (0 : Int32))] [(.int (w + (1 : Int32))), (.ref ad0)]))
  refine own_iconst X90v2 hx (1) (hb hby d30_93) rfl ?_
  refine own_to (fun _ kz => XS.iadd X90v2.here hx rfl (hb hby d30_94) rfl kz) ?_
  show own_Fin p e below G (T90v2.setTop (mkF m 95 #[.val (.ref ad0), .val (.int (0 : Int32))] [(.int ((w + (1 : Int32)) + (1 : Int32))), (.ref ad0)]))
  have E_ad0_at_95 := (E_ad0_at_105.wr W105)
  obtain ⟨T95v2, h95v2, X95v2, e95v2, W95v2, st95v2⟩ := putF X90v2 hx hZ hown (host := "") (Or.inl (own_w hw 204 rfl)) Via.refl e90v2 Fw95_at_90 E_ad0_at_95 (Or.inl (own_w hw 205 rfl)) (own_w hw 30 rfl) (ty := .int) (by decide) rfl rfl (g := (mkF m 95 #[.val (.ref ad0), .val (.int (0 : Int32))] [(.int ((w + (1 : Int32)) + (1 : Int32))), (.ref ad0)])) rfl rfl (hb hby d30_95)
  refine own_to st95v2 ?_
  have Fw95v2 : Fld Z h95v2 ad0 own_cE "takenWhole" "I" (.int ((w + (1 : Int32)) + (1 : Int32))) := Fld.same W95v2 Fw95_at_90
  obtain ⟨lo95v2, X95v2, N95v2⟩ : ∃ lo, Stand p l e _ s m _ below meth c T95v2 lo _ _ ∧ Fr n0 lo := ⟨_, X95v2, Fr.snoc X95v2 N105 g_ad0⟩
  show own_Fin p e below G (T95v2.setTop (mkF m 98 #[.val (.ref ad0), .val (.int (0 : Int32))] []))
  refine own_aloadN X95v2 hx (hb hby d30_98) rfl (rfl) ?_
  refine own_dup X95v2 hx (hb hby d30_99) rfl ?_
  have Fw105_at_100 := (Fw105.other W95v2 (Or.inr (slot_ne (Or.inl (own_w hw 172 rfl)) (Or.inl (own_w hw 205 rfl)) (by decide) (t := .int) (t' := .int) (by decide) (by decide))))
  obtain ⟨T100v2, X100v2, e100v2, st100v2⟩ := getF X95v2 hx hZ hown (host := "") (Or.inl (own_w hw 171 rfl)) Via.refl e95v2 Fw105_at_100 (g := (mkF m 100 #[.val (.ref ad0), .val (.int (0 : Int32))] [(.ref ad0), (.ref ad0)])) rfl rfl (hb hby d30_100)
  refine own_to st100v2 ?_
  show own_Fin p e below G (T100v2.setTop (mkF m 103 #[.val (.ref ad0), .val (.int (0 : Int32))] [(.int (1 : Int32)), (.ref ad0)]))
  refine own_iconst X100v2 hx (1) (hb hby d30_103) rfl ?_
  refine own_to (fun _ kz => XS.iadd X100v2.here hx rfl (hb hby d30_104) rfl kz) ?_
  show own_Fin p e below G (T100v2.setTop (mkF m 105 #[.val (.ref ad0), .val (.int (0 : Int32))] [(.int (2 : Int32)), (.ref ad0)]))
  have E_ad0_at_105'1 := (E_ad0_at_95.wr W95v2)
  obtain ⟨T105v2, h105v2, X105v2, e105v2, W105v2, st105v2⟩ := putF X100v2 hx hZ hown (host := "") (Or.inl (own_w hw 171 rfl)) Via.refl e100v2 Fw105_at_100 E_ad0_at_105'1 (Or.inl (own_w hw 172 rfl)) (own_w hw 30 rfl) (ty := .int) (by decide) rfl rfl (g := (mkF m 105 #[.val (.ref ad0), .val (.int (0 : Int32))] [(.int (2 : Int32)), (.ref ad0)])) rfl rfl (hb hby d30_105)
  refine own_to st105v2 ?_
  have Fw105v2 : Fld Z h105v2 ad0 own_cE "taken" "I" (.int (2 : Int32)) := Fld.same W105v2 Fw105_at_100
  obtain ⟨lo105v2, X105v2, N105v2⟩ : ∃ lo, Stand p l e _ s m _ below meth c T105v2 lo _ _ ∧ Fr n0 lo := ⟨_, X105v2, Fr.snoc X105v2 N95v2 g_ad0⟩
  show own_Fin p e below G (T105v2.setTop (mkF m 108 #[.val (.ref ad0), .val (.int (0 : Int32))] []))
  refine own_to (fun _ kz => XS.goto X105v2.here hx rfl (pc0 := 108) (pc' := 27) rfl (hb hby d30_108) (by decide) (by decide) kz) ?_
  show own_Fin p e below G (T105v2.setTop (mkF m 27 #[.val (.ref ad0), .val (.int (0 : Int32))] []))
  refine own_aloadN X105v2 hx (hb hby d30_27) rfl (rfl) ?_
  obtain ⟨T28v3, X28v3, e28v3, st28v3⟩ := getF X105v2 hx hZ hown (host := "") (Or.inl (own_w hw 171 rfl)) Via.refl e105v2 Fw105v2 (g := (mkF m 28 #[.val (.ref ad0), .val (.int (0 : Int32))] [(.ref ad0)])) rfl rfl (hb hby d30_28)
  refine own_to st28v3 ?_
  show own_Fin p e below G (T28v3.setTop (mkF m 31 #[.val (.ref ad0), .val (.int (0 : Int32))] [(.int (2 : Int32))]))
  refine own_aloadN X28v3 hx (hb hby d30_31) rfl (rfl) ?_
  have F_size_ad0_at_32'1 := ((F_size_ad0_at_32.other W95v2 (Or.inr (slot_ne (Or.inl (own_w hw 97 rfl)) (Or.inl (own_w hw 205 rfl)) (by decide) (t := .int) (t' := .int) (by decide) (by decide)))).other W105v2 (Or.inr (slot_ne (Or.inl (own_w hw 97 rfl)) (Or.inl (own_w hw 172 rfl)) (by decide) (t := .int) (t' := .int) (by decide) (by decide))))
  obtain ⟨T32v3, X32v3, e32v3, st32v3⟩ := getF X28v3 hx hZ hown (host := "") (Or.inl (own_w hw 96 rfl)) Via.refl e28v3 F_size_ad0_at_32'1 (g := (mkF m 32 #[.val (.ref ad0), .val (.int (0 : Int32))] [(.ref ad0), (.int (2 : Int32))])) rfl rfl (hb hby d30_32)
  refine own_to st32v3 ?_
  show own_Fin p e below G (T32v3.setTop (mkF m 35 #[.val (.ref ad0), .val (.int (0 : Int32))] [(.int (3 : Int32)), (.int (2 : Int32))]))
  have hc35v3 : (2 : Int32) < (3 : Int32) := by decide
  refine own_to (fun _ kz => XS.icmpNo X32v3.here hx rfl (hb hby d30_35) rfl (tlt hc35v3).2.1 kz) ?_
  show own_Fin p e below G (T32v3.setTop (mkF m 38 #[.val (.ref ad0), .val (.int (0 : Int32))] []))
  refine own_aloadN X32v3 hx (hb hby d30_38) rfl (rfl) ?_
  have F_lengths_ad0_at_39'1 := ((F_lengths_ad0_at_39.other W95v2 (Or.inr (slot_ne (Or.inl (own_w hw 45 rfl)) (Or.inl (own_w hw 205 rfl)) (by decide) (t := (.array .long)) (t' := .int) (by decide) (by decide)))).other W105v2 (Or.inr (slot_ne (Or.inl (own_w hw 45 rfl)) (Or.inl (own_w hw 172 rfl)) (by decide) (t := (.array .long)) (t' := .int) (by decide) (by decide))))
  obtain ⟨T39v3, X39v3, e39v3, st39v3⟩ := getF X32v3 hx hZ hown (host := "") (Or.inl (own_w hw 44 rfl)) Via.refl e32v3 F_lengths_ad0_at_39'1 (g := (mkF m 39 #[.val (.ref ad0), .val (.int (0 : Int32))] [(.ref ad0)])) rfl rfl (hb hby d30_39)
  refine own_to st39v3 ?_
  show own_Fin p e below G (T39v3.setTop (mkF m 42 #[.val (.ref ad0), .val (.int (0 : Int32))] [(.ref len)]))
  refine own_aloadN X39v3 hx (hb hby d30_42) rfl (rfl) ?_
  obtain ⟨T43v3, X43v3, e43v3, st43v3⟩ := getF X39v3 hx hZ hown (host := "") (Or.inl (own_w hw 171 rfl)) Via.refl e39v3 Fw105v2 (g := (mkF m 43 #[.val (.ref ad0), .val (.int (0 : Int32))] [(.ref ad0), (.ref len)])) rfl rfl (hb hby d30_43)
  refine own_to st43v3 ?_
  show own_Fin p e below G (T43v3.setTop (mkF m 46 #[.val (.ref ad0), .val (.int (0 : Int32))] [(.int (2 : Int32)), (.ref len)]))
  have V_len_at_46'1 := ((V_len_at_46.other W95v2 ne_len_ad0).other W105v2 ne_len_ad0)
  refine own_to (fun _ kz => own_laload X43v3 hx hZ e43v3 V_len_at_46'1 (j := (2 : Int32)) (by decide) rfl (by decide) (g := (mkF m 46 #[.val (.ref ad0), .val (.int (0 : Int32))] [(.int (2 : Int32)), (.ref len)])) rfl rfl (hb hby d30_46) kz) ?_
  show own_Fin p e below G (T43v3.setTop (mkF m 47 #[.val (.ref ad0), .val (.int (0 : Int32))] [(.long (fl 2))]))
  refine own_to (fun _ kz => XS.lconst X43v3.here hx rfl (hb hby d30_47) kz) ?_
  show own_Fin p e below G (T43v3.setTop (mkF m 48 #[.val (.ref ad0), .val (.int (0 : Int32))] [(.long (0 : Int64)), (.long (fl 2))]))
  refine own_to (fun _ kz => XS.lcmp X43v3.here hx rfl (hb hby d30_48) rfl kz) ?_
  show own_Fin p e below G (T43v3.setTop (mkF m 49 #[.val (.ref ad0), .val (.int (0 : Int32))] [(.int (lcmpW (fl 2) (0 : Int64)))]))
  have hc49v3 : (fl 2) < (0 : Int64) := hneg
  refine own_to (fun _ kz => XS.ifYes X43v3.here hx rfl (pc0 := 49) (pc' := 111) rfl (hb hby d30_49) rfl ((if0 _ _).trans (tlt ((lw_lt _ _).mpr hc49v3)).1) (by decide) (by decide) kz) ?_
  show own_Fin p e below G (T43v3.setTop (mkF m 111 #[.val (.ref ad0), .val (.int (0 : Int32))] []))
  refine own_aloadN X43v3 hx (hb hby d30_111) rfl (rfl) ?_
  obtain ⟨T112, X112, e112, st112⟩ := getF X43v3 hx hZ hown (host := "") (Or.inl (own_w hw 171 rfl)) Via.refl e43v3 Fw105v2 (g := (mkF m 112 #[.val (.ref ad0), .val (.int (0 : Int32))] [(.ref ad0)])) rfl rfl (hb hby d30_112)
  refine own_to st112 ?_
  show own_Fin p e below G (T112.setTop (mkF m 115 #[.val (.ref ad0), .val (.int (0 : Int32))] [(.int (2 : Int32))]))
  refine own_iloadN X112 hx (hb hby d30_115) rfl ?_
  refine own_to (fun _ kz => XS.isub X112.here hx rfl (hb hby d30_116) rfl kz) ?_
  show own_Fin p e below G (T112.setTop (mkF m 117 #[.val (.ref ad0), .val (.int (0 : Int32))] [(.int (2 : Int32))]))
  have KP_117 : Keep h0 h105v2 [ad0] := (((((Keep.refl h0 [ad0]).wr W95 (Or.inl (List.mem_of_getElem? (i := 0) rfl))).wr W105 (Or.inl (List.mem_of_getElem? (i := 0) rfl))).wr W95v2 (Or.inl (List.mem_of_getElem? (i := 0) rfl))).wr W105v2 (Or.inl (List.mem_of_getElem? (i := 0) rfl)))
  have E_ad0_at_117 := (E_ad0_at_105'1.wr W105v2)
  have F_kept_ad0_at_117 := ((((F_kept_ad0.other W95 (Or.inr (slot_ne (Or.inr (own_w hw 79 rfl)) (Or.inl (own_w hw 205 rfl)) (by decide) (t := .int) (t' := .int) (by decide) (by decide)))).other W105 (Or.inr (slot_ne (Or.inr (own_w hw 79 rfl)) (Or.inl (own_w hw 172 rfl)) (by decide) (t := .int) (t' := .int) (by decide) (by decide)))).other W95v2 (Or.inr (slot_ne (Or.inr (own_w hw 79 rfl)) (Or.inl (own_w hw 205 rfl)) (by decide) (t := .int) (t' := .int) (by decide) (by decide)))).other W105v2 (Or.inr (slot_ne (Or.inr (own_w hw 79 rfl)) (Or.inl (own_w hw 172 rfl)) (by decide) (t := .int) (t' := .int) (by decide) (by decide))))
  have F_offsets_ad0_at_117 := ((((F_offsets_ad0.other W95 (Or.inr (slot_ne (Or.inl (own_w hw 43 rfl)) (Or.inl (own_w hw 205 rfl)) (by decide) (t := (.array .long)) (t' := .int) (by decide) (by decide)))).other W105 (Or.inr (slot_ne (Or.inl (own_w hw 43 rfl)) (Or.inl (own_w hw 172 rfl)) (by decide) (t := (.array .long)) (t' := .int) (by decide) (by decide)))).other W95v2 (Or.inr (slot_ne (Or.inl (own_w hw 43 rfl)) (Or.inl (own_w hw 205 rfl)) (by decide) (t := (.array .long)) (t' := .int) (by decide) (by decide)))).other W105v2 (Or.inr (slot_ne (Or.inl (own_w hw 43 rfl)) (Or.inl (own_w hw 172 rfl)) (by decide) (t := (.array .long)) (t' := .int) (by decide) (by decide))))
  have F_whole_ad0_at_117 := ((((F_whole_ad0.other W95 (Or.inr (slot_ne (Or.inr (own_w hw 71 rfl)) (Or.inl (own_w hw 205 rfl)) (by decide) (t := (.object "java/util/List")) (t' := .int) (by decide) (by decide)))).other W105 (Or.inr (slot_ne (Or.inr (own_w hw 71 rfl)) (Or.inl (own_w hw 172 rfl)) (by decide) (t := (.object "java/util/List")) (t' := .int) (by decide) (by decide)))).other W95v2 (Or.inr (slot_ne (Or.inr (own_w hw 71 rfl)) (Or.inl (own_w hw 205 rfl)) (by decide) (t := (.object "java/util/List")) (t' := .int) (by decide) (by decide)))).other W105v2 (Or.inr (slot_ne (Or.inr (own_w hw 71 rfl)) (Or.inl (own_w hw 172 rfl)) (by decide) (t := (.object "java/util/List")) (t' := .int) (by decide) (by decide))))
  have F_lastSpan_ad0_at_117 := ((((F_lastSpan_ad0.other W95 (Or.inr (slot_ne (Or.inl (own_w hw 73 rfl)) (Or.inl (own_w hw 205 rfl)) (by decide) (t := .int) (t' := .int) (by decide) (by decide)))).other W105 (Or.inr (slot_ne (Or.inl (own_w hw 73 rfl)) (Or.inl (own_w hw 172 rfl)) (by decide) (t := .int) (t' := .int) (by decide) (by decide)))).other W95v2 (Or.inr (slot_ne (Or.inl (own_w hw 73 rfl)) (Or.inl (own_w hw 205 rfl)) (by decide) (t := .int) (t' := .int) (by decide) (by decide)))).other W105v2 (Or.inr (slot_ne (Or.inl (own_w hw 73 rfl)) (Or.inl (own_w hw 172 rfl)) (by decide) (t := .int) (t' := .int) (by decide) (by decide))))
  have Fw95v2_at_117 := (Fw95v2.other W105v2 (Or.inr (slot_ne (Or.inl (own_w hw 205 rfl)) (Or.inl (own_w hw 172 rfl)) (by decide) (t := .int) (t' := .int) (by decide) (by decide))))
  exact own_retI X112 hx hlk hG Bd.returns (hb hby d30_117) (by decide) (by decide) (by rw [e112]; exact ⟨rfl, N105v2, KP_117, E_ad0_at_117, F_kept_ad0_at_117, F_offsets_ad0_at_117, F_lengths_ad0_at_39'1, F_whole_ad0_at_117, F_size_ad0_at_32'1, F_lastSpan_ad0_at_117, Fw105v2, Fw95v2_at_117⟩)
theorem efS11 (m : MethodId) (ad0 : Addr) : entryFrame m #[(.ref ad0)] 2 = mkF m 0 #[.val (.ref ad0), .unset] [] := by first | (simp [entryFrame, mkF, argsToLocals, Value.category]; done) | rfl
def QS11 (Z : State) (ad0 : Addr) (kp : Int32) (ls : Int32) (w : Int32) (fl : Nat → Int64) (off : Addr) (len : Addr) (wh : Addr) (h0 : Heap) (n0 : Nat) (v : Option Value) (h : Heap) (L : List Loc) : Prop := v = some (.int (0 : Int32)) ∧ Fr n0 L ∧ Keep h0 h [ad0] ∧ Exa Z h ad0 own_cE ∧ Fld Z h ad0 own_cE "kept" "I" (.int kp) ∧ Fld Z h ad0 own_cE "offsets" "[J" (.ref off) ∧ Fld Z h ad0 own_cE "lengths" "[J" (.ref len) ∧ Fld Z h ad0 own_cE "whole" "Ljava/util/List;" (.ref wh) ∧ Fld Z h ad0 own_cE "size" "I" (.int (3 : Int32)) ∧ Fld Z h ad0 own_cE "lastSpan" "I" (.int ls) ∧ Fld Z h ad0 own_cE "taken" "I" (.int (1 : Int32)) ∧ Fld Z h ad0 own_cE "takenWhole" "I" (.int w)
set_option maxRecDepth 65536 in
set_option maxHeartbeats 40000000 in
theorem rmS11 (l : Launch) (Z : State) (a0 : Array Value) (hw : ∀ d ∈ tables_1, d.before a0 Z = true) (ws : List Jvm.Cond) (ad0 : Addr) (kp : Int32) (ls : Int32) (w : Int32) (fl : Nat → Int64) (off : Addr) (len : Addr) (wh : Addr) (h0 : Heap) (n0 : Nat) (Z0 : n0 ≤ h0.size) (E_ad0 : Exa Z h0 ad0 own_cE) (F_kept_ad0 : Fld Z h0 ad0 own_cE "kept" "I" (.int kp)) (F_offsets_ad0 : Fld Z h0 ad0 own_cE "offsets" "[J" (.ref off)) (F_lengths_ad0 : Fld Z h0 ad0 own_cE "lengths" "[J" (.ref len)) (F_whole_ad0 : Fld Z h0 ad0 own_cE "whole" "Ljava/util/List;" (.ref wh)) (F_size_ad0 : Fld Z h0 ad0 own_cE "size" "I" (.int (3 : Int32))) (F_lastSpan_ad0 : Fld Z h0 ad0 own_cE "lastSpan" "I" (.int ls)) (F_taken_ad0 : Fld Z h0 ad0 own_cE "taken" "I" (.int (1 : Int32))) (F_takenWhole_ad0 : Fld Z h0 ad0 own_cE "takenWhole" "I" (.int w)) (g_ad0 : n0 ≤ ad0) (V_len : own_AV Value.long Z h0 len .long 16 fl) (ne_len_ad0 : len ≠ ad0) (hgt : ¬ ls < (1 : Int32)) (hneg : (fl 1) < (0 : Int64)) :
    MetFree l own_y30 (head1 (Jvm.Cond.code own_y30 prog_47_method_7_code 2 (some .int) :: ws) ({ frames := 0, cells := 0, slots := 0, locals := 0 } : Room)) (fun a U => a = #[(.ref ad0)] ∧ Z.Warmed39 U.vm ∧ U.heap = h0) (fun _ _ _ _ _ => True) (fun _ U o U' => ∃ v L, o = .returned v ∧ QS11 Z ad0 kp ls w fl off len wh h0 n0 v U'.heap L ∧ FrameEnd U o U' L ({ frames := 0, cells := 0, slots := 0, locals := 0 } : Room).cells ({ frames := 0, cells := 0, slots := 0, locals := 0 } : Room).slots) := by
  refine MetFree.of_bodySF (plainFor_of_name own_pn6) hisR ?_
  intro p e s m args below meth c s₁ Bd hml0 hP hK
  obtain ⟨rfl, hZ, hh⟩ := hP
  have hx := Bd.exec
  have hby := Bd.bytes
  have hml : c.maxLocals = 2 := hml0
  have hown : s.vm.findClass own_cE = some m.cls := findClass_of_methodNamed Bd.named
  have hnm := (name_of_methodNamed Bd.named Bd.method).1
  have hlk : meth.locks = false := BodyLoose.notSynchronized Bd
  have X0 : Stand p l e ({ frames := 0, cells := 0, slots := 0, locals := 0 } : Room) s m #[(.ref ad0)] below meth c s₁ [] 0 0 := Stand.of_body Bd
  have e0 : s₁.heap = h0 := by rw [← hh, Bd.state]; rfl
  have N0 := Fr.nil n0
  obtain ⟨G, hG⟩ : ∃ G, G = own_G s (QS11 Z ad0 kp ls w fl off len wh h0 n0) ({ frames := 0, cells := 0, slots := 0, locals := 0 } : Room).cells ({ frames := 0, cells := 0, slots := 0, locals := 0 } : Room).slots := ⟨_, rfl⟩
  show own_Fin p e below (own_G s (QS11 Z ad0 kp ls w fl off len wh h0 n0) ({ frames := 0, cells := 0, slots := 0, locals := 0 } : Room).cells ({ frames := 0, cells := 0, slots := 0, locals := 0 } : Room).slots) (s₁.setTop (entryFrame m #[(.ref ad0)] 2))
  rw [← hG]
  refine own_to (fun _ kz => castTop (efS11 m ad0) kz) ?_
  show own_Fin p e below G (s₁.setTop (mkF m 0 #[.val (.ref ad0), .unset] []))
  refine own_aloadN X0 hx (hb hby d30_0) rfl (rfl) ?_
  obtain ⟨T1, X1, e1, st1⟩ := getF X0 hx hZ hown (host := "") (Or.inl (own_w hw 171 rfl)) Via.refl e0 F_taken_ad0 (g := (mkF m 1 #[.val (.ref ad0), .unset] [(.ref ad0)])) rfl rfl (hb hby d30_1)
  refine own_to st1 ?_
  show own_Fin p e below G (T1.setTop (mkF m 4 #[.val (.ref ad0), .unset] [(.int (1 : Int32))]))
  refine own_to (fun _ kz => XS.istoreN X1.here hx rfl (hb hby d30_4) rfl (l' := #[.val (.ref ad0), .val (.int (1 : Int32))]) rfl kz) ?_
  show own_Fin p e below G (T1.setTop (mkF m 5 #[.val (.ref ad0), .val (.int (1 : Int32))] []))
  refine own_aloadN X1 hx (hb hby d30_5) rfl (rfl) ?_
  obtain ⟨T6, X6, e6, st6⟩ := getF X1 hx hZ hown (host := "") (Or.inl (own_w hw 171 rfl)) Via.refl e1 F_taken_ad0 (g := (mkF m 6 #[.val (.ref ad0), .val (.int (1 : Int32))] [(.ref ad0)])) rfl rfl (hb hby d30_6)
  refine own_to st6 ?_
  show own_Fin p e below G (T6.setTop (mkF m 9 #[.val (.ref ad0), .val (.int (1 : Int32))] [(.int (1 : Int32))]))
  refine own_aloadN X6 hx (hb hby d30_9) rfl (rfl) ?_
  obtain ⟨T10, X10, e10, st10⟩ := getF X6 hx hZ hown (host := "") (Or.inl (own_w hw 72 rfl)) Via.refl e6 F_lastSpan_ad0 (g := (mkF m 10 #[.val (.ref ad0), .val (.int (1 : Int32))] [(.ref ad0), (.int (1 : Int32))])) rfl rfl (hb hby d30_10)
  refine own_to st10 ?_
  show own_Fin p e below G (T10.setTop (mkF m 13 #[.val (.ref ad0), .val (.int (1 : Int32))] [(.int ls), (.int (1 : Int32))]))
  have hc13 : ¬ (ls < (1 : Int32)) := hgt
  refine own_to (fun _ kz => XS.icmpYes X10.here hx rfl (pc0 := 13) (pc' := 27) rfl (hb hby d30_13) rfl (flt hc13).2.2.2 (by decide) (by decide) kz) ?_
  show own_Fin p e below G (T10.setTop (mkF m 27 #[.val (.ref ad0), .val (.int (1 : Int32))] []))
  refine own_aloadN X10 hx (hb hby d30_27) rfl (rfl) ?_
  obtain ⟨T28, X28, e28, st28⟩ := getF X10 hx hZ hown (host := "") (Or.inl (own_w hw 171 rfl)) Via.refl e10 F_taken_ad0 (g := (mkF m 28 #[.val (.ref ad0), .val (.int (1 : Int32))] [(.ref ad0)])) rfl rfl (hb hby d30_28)
  refine own_to st28 ?_
  show own_Fin p e below G (T28.setTop (mkF m 31 #[.val (.ref ad0), .val (.int (1 : Int32))] [(.int (1 : Int32))]))
  refine own_aloadN X28 hx (hb hby d30_31) rfl (rfl) ?_
  obtain ⟨T32, X32, e32, st32⟩ := getF X28 hx hZ hown (host := "") (Or.inl (own_w hw 96 rfl)) Via.refl e28 F_size_ad0 (g := (mkF m 32 #[.val (.ref ad0), .val (.int (1 : Int32))] [(.ref ad0), (.int (1 : Int32))])) rfl rfl (hb hby d30_32)
  refine own_to st32 ?_
  show own_Fin p e below G (T32.setTop (mkF m 35 #[.val (.ref ad0), .val (.int (1 : Int32))] [(.int (3 : Int32)), (.int (1 : Int32))]))
  have hc35 : (1 : Int32) < (3 : Int32) := by decide
  refine own_to (fun _ kz => XS.icmpNo X32.here hx rfl (hb hby d30_35) rfl (tlt hc35).2.1 kz) ?_
  show own_Fin p e below G (T32.setTop (mkF m 38 #[.val (.ref ad0), .val (.int (1 : Int32))] []))
  refine own_aloadN X32 hx (hb hby d30_38) rfl (rfl) ?_
  obtain ⟨T39, X39, e39, st39⟩ := getF X32 hx hZ hown (host := "") (Or.inl (own_w hw 44 rfl)) Via.refl e32 F_lengths_ad0 (g := (mkF m 39 #[.val (.ref ad0), .val (.int (1 : Int32))] [(.ref ad0)])) rfl rfl (hb hby d30_39)
  refine own_to st39 ?_
  show own_Fin p e below G (T39.setTop (mkF m 42 #[.val (.ref ad0), .val (.int (1 : Int32))] [(.ref len)]))
  refine own_aloadN X39 hx (hb hby d30_42) rfl (rfl) ?_
  obtain ⟨T43, X43, e43, st43⟩ := getF X39 hx hZ hown (host := "") (Or.inl (own_w hw 171 rfl)) Via.refl e39 F_taken_ad0 (g := (mkF m 43 #[.val (.ref ad0), .val (.int (1 : Int32))] [(.ref ad0), (.ref len)])) rfl rfl (hb hby d30_43)
  refine own_to st43 ?_
  show own_Fin p e below G (T43.setTop (mkF m 46 #[.val (.ref ad0), .val (.int (1 : Int32))] [(.int (1 : Int32)), (.ref len)]))
  refine own_to (fun _ kz => own_laload X43 hx hZ e43 V_len (j := (1 : Int32)) (by decide) rfl (by decide) (g := (mkF m 46 #[.val (.ref ad0), .val (.int (1 : Int32))] [(.int (1 : Int32)), (.ref len)])) rfl rfl (hb hby d30_46) kz) ?_
  show own_Fin p e below G (T43.setTop (mkF m 47 #[.val (.ref ad0), .val (.int (1 : Int32))] [(.long (fl 1))]))
  refine own_to (fun _ kz => XS.lconst X43.here hx rfl (hb hby d30_47) kz) ?_
  show own_Fin p e below G (T43.setTop (mkF m 48 #[.val (.ref ad0), .val (.int (1 : Int32))] [(.long (0 : Int64)), (.long (fl 1))]))
  refine own_to (fun _ kz => XS.lcmp X43.here hx rfl (hb hby d30_48) rfl kz) ?_
  show own_Fin p e below G (T43.setTop (mkF m 49 #[.val (.ref ad0), .val (.int (1 : Int32))] [(.int (lcmpW (fl 1) (0 : Int64)))]))
  have hc49 : (fl 1) < (0 : Int64) := hneg
  refine own_to (fun _ kz => XS.ifYes X43.here hx rfl (pc0 := 49) (pc' := 111) rfl (hb hby d30_49) rfl ((if0 _ _).trans (tlt ((lw_lt _ _).mpr hc49)).1) (by decide) (by decide) kz) ?_
  show own_Fin p e below G (T43.setTop (mkF m 111 #[.val (.ref ad0), .val (.int (1 : Int32))] []))
  refine own_aloadN X43 hx (hb hby d30_111) rfl (rfl) ?_
  obtain ⟨T112, X112, e112, st112⟩ := getF X43 hx hZ hown (host := "") (Or.inl (own_w hw 171 rfl)) Via.refl e43 F_taken_ad0 (g := (mkF m 112 #[.val (.ref ad0), .val (.int (1 : Int32))] [(.ref ad0)])) rfl rfl (hb hby d30_112)
  refine own_to st112 ?_
  show own_Fin p e below G (T112.setTop (mkF m 115 #[.val (.ref ad0), .val (.int (1 : Int32))] [(.int (1 : Int32))]))
  refine own_iloadN X112 hx (hb hby d30_115) rfl ?_
  refine own_to (fun _ kz => XS.isub X112.here hx rfl (hb hby d30_116) rfl kz) ?_
  show own_Fin p e below G (T112.setTop (mkF m 117 #[.val (.ref ad0), .val (.int (1 : Int32))] [(.int (0 : Int32))]))
  exact own_retI X112 hx hlk hG Bd.returns (hb hby d30_117) (by decide) (by decide) (by rw [e112]; exact ⟨rfl, N0, (Keep.refl h0 [ad0]), E_ad0, F_kept_ad0, F_offsets_ad0, F_lengths_ad0, F_whole_ad0, F_size_ad0, F_lastSpan_ad0, F_taken_ad0, F_takenWhole_ad0⟩)
theorem efS12 (m : MethodId) (ad0 : Addr) : entryFrame m #[(.ref ad0)] 2 = mkF m 0 #[.val (.ref ad0), .unset] [] := by first | (simp [entryFrame, mkF, argsToLocals, Value.category]; done) | rfl
def QS12 (Z : State) (ad0 : Addr) (kp : Int32) (ls : Int32) (w : Int32) (fl : Nat → Int64) (off : Addr) (len : Addr) (wh : Addr) (h0 : Heap) (n0 : Nat) (v : Option Value) (h : Heap) (L : List Loc) : Prop := v = some (.int (1 : Int32)) ∧ Fr n0 L ∧ Keep h0 h [ad0] ∧ Exa Z h ad0 own_cE ∧ Fld Z h ad0 own_cE "kept" "I" (.int kp) ∧ Fld Z h ad0 own_cE "offsets" "[J" (.ref off) ∧ Fld Z h ad0 own_cE "lengths" "[J" (.ref len) ∧ Fld Z h ad0 own_cE "whole" "Ljava/util/List;" (.ref wh) ∧ Fld Z h ad0 own_cE "size" "I" (.int (3 : Int32)) ∧ Fld Z h ad0 own_cE "lastSpan" "I" (.int ls) ∧ Fld Z h ad0 own_cE "taken" "I" (.int (2 : Int32)) ∧ Fld Z h ad0 own_cE "takenWhole" "I" (.int (w + (1 : Int32)))
set_option maxRecDepth 65536 in
set_option maxHeartbeats 40000000 in
theorem rmS12 (l : Launch) (Z : State) (a0 : Array Value) (hw : ∀ d ∈ tables_1, d.before a0 Z = true) (ws : List Jvm.Cond) (ad0 : Addr) (kp : Int32) (ls : Int32) (w : Int32) (fl : Nat → Int64) (off : Addr) (len : Addr) (wh : Addr) (h0 : Heap) (n0 : Nat) (Z0 : n0 ≤ h0.size) (E_ad0 : Exa Z h0 ad0 own_cE) (F_kept_ad0 : Fld Z h0 ad0 own_cE "kept" "I" (.int kp)) (F_offsets_ad0 : Fld Z h0 ad0 own_cE "offsets" "[J" (.ref off)) (F_lengths_ad0 : Fld Z h0 ad0 own_cE "lengths" "[J" (.ref len)) (F_whole_ad0 : Fld Z h0 ad0 own_cE "whole" "Ljava/util/List;" (.ref wh)) (F_size_ad0 : Fld Z h0 ad0 own_cE "size" "I" (.int (3 : Int32))) (F_lastSpan_ad0 : Fld Z h0 ad0 own_cE "lastSpan" "I" (.int ls)) (F_taken_ad0 : Fld Z h0 ad0 own_cE "taken" "I" (.int (1 : Int32))) (F_takenWhole_ad0 : Fld Z h0 ad0 own_cE "takenWhole" "I" (.int w)) (g_ad0 : n0 ≤ ad0) (V_len : own_AV Value.long Z h0 len .long 16 fl) (ne_len_ad0 : len ≠ ad0) (hgt : ¬ ls < (1 : Int32)) (hz1 : (fl 1) = (0 : Int64)) (hneg : (fl 2) < (0 : Int64)) :
    MetFree l own_y30 (head1 (Jvm.Cond.code own_y30 prog_47_method_7_code 2 (some .int) :: ws) ({ frames := 0, cells := 0, slots := 0, locals := 0 } : Room)) (fun a U => a = #[(.ref ad0)] ∧ Z.Warmed39 U.vm ∧ U.heap = h0) (fun _ _ _ _ _ => True) (fun _ U o U' => ∃ v L, o = .returned v ∧ QS12 Z ad0 kp ls w fl off len wh h0 n0 v U'.heap L ∧ FrameEnd U o U' L ({ frames := 0, cells := 0, slots := 0, locals := 0 } : Room).cells ({ frames := 0, cells := 0, slots := 0, locals := 0 } : Room).slots) := by
  refine MetFree.of_bodySF (plainFor_of_name own_pn6) hisR ?_
  intro p e s m args below meth c s₁ Bd hml0 hP hK
  obtain ⟨rfl, hZ, hh⟩ := hP
  have hx := Bd.exec
  have hby := Bd.bytes
  have hml : c.maxLocals = 2 := hml0
  have hown : s.vm.findClass own_cE = some m.cls := findClass_of_methodNamed Bd.named
  have hnm := (name_of_methodNamed Bd.named Bd.method).1
  have hlk : meth.locks = false := BodyLoose.notSynchronized Bd
  have X0 : Stand p l e ({ frames := 0, cells := 0, slots := 0, locals := 0 } : Room) s m #[(.ref ad0)] below meth c s₁ [] 0 0 := Stand.of_body Bd
  have e0 : s₁.heap = h0 := by rw [← hh, Bd.state]; rfl
  have N0 := Fr.nil n0
  obtain ⟨G, hG⟩ : ∃ G, G = own_G s (QS12 Z ad0 kp ls w fl off len wh h0 n0) ({ frames := 0, cells := 0, slots := 0, locals := 0 } : Room).cells ({ frames := 0, cells := 0, slots := 0, locals := 0 } : Room).slots := ⟨_, rfl⟩
  show own_Fin p e below (own_G s (QS12 Z ad0 kp ls w fl off len wh h0 n0) ({ frames := 0, cells := 0, slots := 0, locals := 0 } : Room).cells ({ frames := 0, cells := 0, slots := 0, locals := 0 } : Room).slots) (s₁.setTop (entryFrame m #[(.ref ad0)] 2))
  rw [← hG]
  refine own_to (fun _ kz => castTop (efS12 m ad0) kz) ?_
  show own_Fin p e below G (s₁.setTop (mkF m 0 #[.val (.ref ad0), .unset] []))
  refine own_aloadN X0 hx (hb hby d30_0) rfl (rfl) ?_
  obtain ⟨T1, X1, e1, st1⟩ := getF X0 hx hZ hown (host := "") (Or.inl (own_w hw 171 rfl)) Via.refl e0 F_taken_ad0 (g := (mkF m 1 #[.val (.ref ad0), .unset] [(.ref ad0)])) rfl rfl (hb hby d30_1)
  refine own_to st1 ?_
  show own_Fin p e below G (T1.setTop (mkF m 4 #[.val (.ref ad0), .unset] [(.int (1 : Int32))]))
  refine own_to (fun _ kz => XS.istoreN X1.here hx rfl (hb hby d30_4) rfl (l' := #[.val (.ref ad0), .val (.int (1 : Int32))]) rfl kz) ?_
  show own_Fin p e below G (T1.setTop (mkF m 5 #[.val (.ref ad0), .val (.int (1 : Int32))] []))
  refine own_aloadN X1 hx (hb hby d30_5) rfl (rfl) ?_
  obtain ⟨T6, X6, e6, st6⟩ := getF X1 hx hZ hown (host := "") (Or.inl (own_w hw 171 rfl)) Via.refl e1 F_taken_ad0 (g := (mkF m 6 #[.val (.ref ad0), .val (.int (1 : Int32))] [(.ref ad0)])) rfl rfl (hb hby d30_6)
  refine own_to st6 ?_
  show own_Fin p e below G (T6.setTop (mkF m 9 #[.val (.ref ad0), .val (.int (1 : Int32))] [(.int (1 : Int32))]))
  refine own_aloadN X6 hx (hb hby d30_9) rfl (rfl) ?_
  obtain ⟨T10, X10, e10, st10⟩ := getF X6 hx hZ hown (host := "") (Or.inl (own_w hw 72 rfl)) Via.refl e6 F_lastSpan_ad0 (g := (mkF m 10 #[.val (.ref ad0), .val (.int (1 : Int32))] [(.ref ad0), (.int (1 : Int32))])) rfl rfl (hb hby d30_10)
  refine own_to st10 ?_
  show own_Fin p e below G (T10.setTop (mkF m 13 #[.val (.ref ad0), .val (.int (1 : Int32))] [(.int ls), (.int (1 : Int32))]))
  have hc13 : ¬ (ls < (1 : Int32)) := hgt
  refine own_to (fun _ kz => XS.icmpYes X10.here hx rfl (pc0 := 13) (pc' := 27) rfl (hb hby d30_13) rfl (flt hc13).2.2.2 (by decide) (by decide) kz) ?_
  show own_Fin p e below G (T10.setTop (mkF m 27 #[.val (.ref ad0), .val (.int (1 : Int32))] []))
  refine own_aloadN X10 hx (hb hby d30_27) rfl (rfl) ?_
  obtain ⟨T28, X28, e28, st28⟩ := getF X10 hx hZ hown (host := "") (Or.inl (own_w hw 171 rfl)) Via.refl e10 F_taken_ad0 (g := (mkF m 28 #[.val (.ref ad0), .val (.int (1 : Int32))] [(.ref ad0)])) rfl rfl (hb hby d30_28)
  refine own_to st28 ?_
  show own_Fin p e below G (T28.setTop (mkF m 31 #[.val (.ref ad0), .val (.int (1 : Int32))] [(.int (1 : Int32))]))
  refine own_aloadN X28 hx (hb hby d30_31) rfl (rfl) ?_
  obtain ⟨T32, X32, e32, st32⟩ := getF X28 hx hZ hown (host := "") (Or.inl (own_w hw 96 rfl)) Via.refl e28 F_size_ad0 (g := (mkF m 32 #[.val (.ref ad0), .val (.int (1 : Int32))] [(.ref ad0), (.int (1 : Int32))])) rfl rfl (hb hby d30_32)
  refine own_to st32 ?_
  show own_Fin p e below G (T32.setTop (mkF m 35 #[.val (.ref ad0), .val (.int (1 : Int32))] [(.int (3 : Int32)), (.int (1 : Int32))]))
  have hc35 : (1 : Int32) < (3 : Int32) := by decide
  refine own_to (fun _ kz => XS.icmpNo X32.here hx rfl (hb hby d30_35) rfl (tlt hc35).2.1 kz) ?_
  show own_Fin p e below G (T32.setTop (mkF m 38 #[.val (.ref ad0), .val (.int (1 : Int32))] []))
  refine own_aloadN X32 hx (hb hby d30_38) rfl (rfl) ?_
  obtain ⟨T39, X39, e39, st39⟩ := getF X32 hx hZ hown (host := "") (Or.inl (own_w hw 44 rfl)) Via.refl e32 F_lengths_ad0 (g := (mkF m 39 #[.val (.ref ad0), .val (.int (1 : Int32))] [(.ref ad0)])) rfl rfl (hb hby d30_39)
  refine own_to st39 ?_
  show own_Fin p e below G (T39.setTop (mkF m 42 #[.val (.ref ad0), .val (.int (1 : Int32))] [(.ref len)]))
  refine own_aloadN X39 hx (hb hby d30_42) rfl (rfl) ?_
  obtain ⟨T43, X43, e43, st43⟩ := getF X39 hx hZ hown (host := "") (Or.inl (own_w hw 171 rfl)) Via.refl e39 F_taken_ad0 (g := (mkF m 43 #[.val (.ref ad0), .val (.int (1 : Int32))] [(.ref ad0), (.ref len)])) rfl rfl (hb hby d30_43)
  refine own_to st43 ?_
  show own_Fin p e below G (T43.setTop (mkF m 46 #[.val (.ref ad0), .val (.int (1 : Int32))] [(.int (1 : Int32)), (.ref len)]))
  refine own_to (fun _ kz => own_laload X43 hx hZ e43 V_len (j := (1 : Int32)) (by decide) rfl (by decide) (g := (mkF m 46 #[.val (.ref ad0), .val (.int (1 : Int32))] [(.int (1 : Int32)), (.ref len)])) rfl rfl (hb hby d30_46) kz) ?_
  show own_Fin p e below G (T43.setTop (mkF m 47 #[.val (.ref ad0), .val (.int (1 : Int32))] [(.long (fl 1))]))
  rw [hz1]
  show own_Fin p e below G (T43.setTop (mkF m 47 #[.val (.ref ad0), .val (.int (1 : Int32))] [(.long (0 : Int64))]))
  refine own_to (fun _ kz => XS.lconst X43.here hx rfl (hb hby d30_47) kz) ?_
  show own_Fin p e below G (T43.setTop (mkF m 48 #[.val (.ref ad0), .val (.int (1 : Int32))] [(.long (0 : Int64)), (.long (0 : Int64))]))
  refine own_to (fun _ kz => XS.lcmp X43.here hx rfl (hb hby d30_48) rfl kz) ?_
  show own_Fin p e below G (T43.setTop (mkF m 49 #[.val (.ref ad0), .val (.int (1 : Int32))] [(.int (lcmpW (0 : Int64) (0 : Int64)))]))
  have hc49 : ¬ ((0 : Int64) < (0 : Int64)) := by decide
  refine own_to (fun _ kz => XS.ifNo X43.here hx rfl (hb hby d30_49) rfl ((if0 _ _).trans (flt (fun q => hc49 ((lw_lt _ _).mp q))).1) kz) ?_
  show own_Fin p e below G (T43.setTop (mkF m 52 #[.val (.ref ad0), .val (.int (1 : Int32))] []))
  refine own_aloadN X43 hx (hb hby d30_52) rfl (rfl) ?_
  obtain ⟨T53, X53, e53, st53⟩ := getF X43 hx hZ hown (host := "") (Or.inl (own_w hw 44 rfl)) Via.refl e43 F_lengths_ad0 (g := (mkF m 53 #[.val (.ref ad0), .val (.int (1 : Int32))] [(.ref ad0)])) rfl rfl (hb hby d30_53)
  refine own_to st53 ?_
  show own_Fin p e below G (T53.setTop (mkF m 56 #[.val (.ref ad0), .val (.int (1 : Int32))] [(.ref len)]))
  refine own_aloadN X53 hx (hb hby d30_56) rfl (rfl) ?_
  obtain ⟨T57, X57, e57, st57⟩ := getF X53 hx hZ hown (host := "") (Or.inl (own_w hw 171 rfl)) Via.refl e53 F_taken_ad0 (g := (mkF m 57 #[.val (.ref ad0), .val (.int (1 : Int32))] [(.ref ad0), (.ref len)])) rfl rfl (hb hby d30_57)
  refine own_to st57 ?_
  show own_Fin p e below G (T57.setTop (mkF m 60 #[.val (.ref ad0), .val (.int (1 : Int32))] [(.int (1 : Int32)), (.ref len)]))
  refine own_to (fun _ kz => own_laload X57 hx hZ e57 V_len (j := (1 : Int32)) (by decide) rfl (by decide) (g := (mkF m 60 #[.val (.ref ad0), .val (.int (1 : Int32))] [(.int (1 : Int32)), (.ref len)])) rfl rfl (hb hby d30_60) kz) ?_
  show own_Fin p e below G (T57.setTop (mkF m 61 #[.val (.ref ad0), .val (.int (1 : Int32))] [(.long (fl 1))]))
  rw [hz1]
  show own_Fin p e below G (T57.setTop (mkF m 61 #[.val (.ref ad0), .val (.int (1 : Int32))] [(.long (0 : Int64))]))
  refine own_to (fun _ kz => XS.lconst X57.here hx rfl (hb hby d30_61) kz) ?_
  show own_Fin p e below G (T57.setTop (mkF m 62 #[.val (.ref ad0), .val (.int (1 : Int32))] [(.long (0 : Int64)), (.long (0 : Int64))]))
  refine own_to (fun _ kz => XS.lcmp X57.here hx rfl (hb hby d30_62) rfl kz) ?_
  show own_Fin p e below G (T57.setTop (mkF m 63 #[.val (.ref ad0), .val (.int (1 : Int32))] [(.int (lcmpW (0 : Int64) (0 : Int64)))]))
  have hc63 : ¬ ((0 : Int64) < (0 : Int64)) := by decide
  refine own_to (fun _ kz => XS.ifYes X57.here hx rfl (pc0 := 63) (pc' := 88) rfl (hb hby d30_63) rfl ((if0 _ _).trans (flt (fun q => hc63 ((lw_gt _ _).mp q))).2.2.2) (by decide) (by decide) kz) ?_
  show own_Fin p e below G (T57.setTop (mkF m 88 #[.val (.ref ad0), .val (.int (1 : Int32))] []))
  refine own_aloadN X57 hx (hb hby d30_88) rfl (rfl) ?_
  refine own_dup X57 hx (hb hby d30_89) rfl ?_
  obtain ⟨T90, X90, e90, st90⟩ := getF X57 hx hZ hown (host := "") (Or.inl (own_w hw 204 rfl)) Via.refl e57 F_takenWhole_ad0 (g := (mkF m 90 #[.val (.ref ad0), .val (.int (1 : Int32))] [(.ref ad0), (.ref ad0)])) rfl rfl (hb hby d30_90)
  refine own_to st90 ?_
  show own_Fin p e below G (T90.setTop (mkF m 93 #[.val (.ref ad0), .val (.int (1 : Int32))] [(.int w), (.ref ad0)]))
  refine own_iconst X90 hx (1) (hb hby d30_93) rfl ?_
  refine own_to (fun _ kz => XS.iadd X90.here hx rfl (hb hby d30_94) rfl kz) ?_
  show own_Fin p e below G (T90.setTop (mkF m 95 #[.val (.ref ad0), .val (.int (1 : Int32))] [(.int (w + (1 : Int32))), (.ref ad0)]))
  obtain ⟨T95, h95, X95, e95, W95, st95⟩ := putF X90 hx hZ hown (host := "") (Or.inl (own_w hw 204 rfl)) Via.refl e90 F_takenWhole_ad0 E_ad0 (Or.inl (own_w hw 205 rfl)) (own_w hw 30 rfl) (ty := .int) (by decide) rfl rfl (g := (mkF m 95 #[.val (.ref ad0), .val (.int (1 : Int32))] [(.int (w + (1 : Int32))), (.ref ad0)])) rfl rfl (hb hby d30_95)
  refine own_to st95 ?_
  have Fw95 : Fld Z h95 ad0 own_cE "takenWhole" "I" (.int (w + (1 : Int32))) := Fld.same W95 F_takenWhole_ad0
  obtain ⟨lo95, X95, N95⟩ : ∃ lo, Stand p l e _ s m _ below meth c T95 lo _ _ ∧ Fr n0 lo := ⟨_, X95, Fr.snoc X95 N0 g_ad0⟩
  show own_Fin p e below G (T95.setTop (mkF m 98 #[.val (.ref ad0), .val (.int (1 : Int32))] []))
  refine own_aloadN X95 hx (hb hby d30_98) rfl (rfl) ?_
  refine own_dup X95 hx (hb hby d30_99) rfl ?_
  have F_taken_ad0_at_100 := (F_taken_ad0.other W95 (Or.inr (slot_ne (Or.inl (own_w hw 172 rfl)) (Or.inl (own_w hw 205 rfl)) (by decide) (t := .int) (t' := .int) (by decide) (by decide))))
  obtain ⟨T100, X100, e100, st100⟩ := getF X95 hx hZ hown (host := "") (Or.inl (own_w hw 171 rfl)) Via.refl e95 F_taken_ad0_at_100 (g := (mkF m 100 #[.val (.ref ad0), .val (.int (1 : Int32))] [(.ref ad0), (.ref ad0)])) rfl rfl (hb hby d30_100)
  refine own_to st100 ?_
  show own_Fin p e below G (T100.setTop (mkF m 103 #[.val (.ref ad0), .val (.int (1 : Int32))] [(.int (1 : Int32)), (.ref ad0)]))
  refine own_iconst X100 hx (1) (hb hby d30_103) rfl ?_
  refine own_to (fun _ kz => XS.iadd X100.here hx rfl (hb hby d30_104) rfl kz) ?_
  show own_Fin p e below G (T100.setTop (mkF m 105 #[.val (.ref ad0), .val (.int (1 : Int32))] [(.int (2 : Int32)), (.ref ad0)]))
  have E_ad0_at_105 := (E_ad0.wr W95)
  obtain ⟨T105, h105, X105, e105, W105, st105⟩ := putF X100 hx hZ hown (host := "") (Or.inl (own_w hw 171 rfl)) Via.refl e100 F_taken_ad0_at_100 E_ad0_at_105 (Or.inl (own_w hw 172 rfl)) (own_w hw 30 rfl) (ty := .int) (by decide) rfl rfl (g := (mkF m 105 #[.val (.ref ad0), .val (.int (1 : Int32))] [(.int (2 : Int32)), (.ref ad0)])) rfl rfl (hb hby d30_105)
  refine own_to st105 ?_
  have Fw105 : Fld Z h105 ad0 own_cE "taken" "I" (.int (2 : Int32)) := Fld.same W105 F_taken_ad0_at_100
  obtain ⟨lo105, X105, N105⟩ : ∃ lo, Stand p l e _ s m _ below meth c T105 lo _ _ ∧ Fr n0 lo := ⟨_, X105, Fr.snoc X105 N95 g_ad0⟩
  show own_Fin p e below G (T105.setTop (mkF m 108 #[.val (.ref ad0), .val (.int (1 : Int32))] []))
  refine own_to (fun _ kz => XS.goto X105.here hx rfl (pc0 := 108) (pc' := 27) rfl (hb hby d30_108) (by decide) (by decide) kz) ?_
  show own_Fin p e below G (T105.setTop (mkF m 27 #[.val (.ref ad0), .val (.int (1 : Int32))] []))
  refine own_aloadN X105 hx (hb hby d30_27) rfl (rfl) ?_
  obtain ⟨T28v2, X28v2, e28v2, st28v2⟩ := getF X105 hx hZ hown (host := "") (Or.inl (own_w hw 171 rfl)) Via.refl e105 Fw105 (g := (mkF m 28 #[.val (.ref ad0), .val (.int (1 : Int32))] [(.ref ad0)])) rfl rfl (hb hby d30_28)
  refine own_to st28v2 ?_
  show own_Fin p e below G (T28v2.setTop (mkF m 31 #[.val (.ref ad0), .val (.int (1 : Int32))] [(.int (2 : Int32))]))
  refine own_aloadN X28v2 hx (hb hby d30_31) rfl (rfl) ?_
  have F_size_ad0_at_32 := ((F_size_ad0.other W95 (Or.inr (slot_ne (Or.inl (own_w hw 97 rfl)) (Or.inl (own_w hw 205 rfl)) (by decide) (t := .int) (t' := .int) (by decide) (by decide)))).other W105 (Or.inr (slot_ne (Or.inl (own_w hw 97 rfl)) (Or.inl (own_w hw 172 rfl)) (by decide) (t := .int) (t' := .int) (by decide) (by decide))))
  obtain ⟨T32v2, X32v2, e32v2, st32v2⟩ := getF X28v2 hx hZ hown (host := "") (Or.inl (own_w hw 96 rfl)) Via.refl e28v2 F_size_ad0_at_32 (g := (mkF m 32 #[.val (.ref ad0), .val (.int (1 : Int32))] [(.ref ad0), (.int (2 : Int32))])) rfl rfl (hb hby d30_32)
  refine own_to st32v2 ?_
  show own_Fin p e below G (T32v2.setTop (mkF m 35 #[.val (.ref ad0), .val (.int (1 : Int32))] [(.int (3 : Int32)), (.int (2 : Int32))]))
  have hc35v2 : (2 : Int32) < (3 : Int32) := by decide
  refine own_to (fun _ kz => XS.icmpNo X32v2.here hx rfl (hb hby d30_35) rfl (tlt hc35v2).2.1 kz) ?_
  show own_Fin p e below G (T32v2.setTop (mkF m 38 #[.val (.ref ad0), .val (.int (1 : Int32))] []))
  refine own_aloadN X32v2 hx (hb hby d30_38) rfl (rfl) ?_
  have F_lengths_ad0_at_39 := ((F_lengths_ad0.other W95 (Or.inr (slot_ne (Or.inl (own_w hw 45 rfl)) (Or.inl (own_w hw 205 rfl)) (by decide) (t := (.array .long)) (t' := .int) (by decide) (by decide)))).other W105 (Or.inr (slot_ne (Or.inl (own_w hw 45 rfl)) (Or.inl (own_w hw 172 rfl)) (by decide) (t := (.array .long)) (t' := .int) (by decide) (by decide))))
  obtain ⟨T39v2, X39v2, e39v2, st39v2⟩ := getF X32v2 hx hZ hown (host := "") (Or.inl (own_w hw 44 rfl)) Via.refl e32v2 F_lengths_ad0_at_39 (g := (mkF m 39 #[.val (.ref ad0), .val (.int (1 : Int32))] [(.ref ad0)])) rfl rfl (hb hby d30_39)
  refine own_to st39v2 ?_
  show own_Fin p e below G (T39v2.setTop (mkF m 42 #[.val (.ref ad0), .val (.int (1 : Int32))] [(.ref len)]))
  refine own_aloadN X39v2 hx (hb hby d30_42) rfl (rfl) ?_
  obtain ⟨T43v2, X43v2, e43v2, st43v2⟩ := getF X39v2 hx hZ hown (host := "") (Or.inl (own_w hw 171 rfl)) Via.refl e39v2 Fw105 (g := (mkF m 43 #[.val (.ref ad0), .val (.int (1 : Int32))] [(.ref ad0), (.ref len)])) rfl rfl (hb hby d30_43)
  refine own_to st43v2 ?_
  show own_Fin p e below G (T43v2.setTop (mkF m 46 #[.val (.ref ad0), .val (.int (1 : Int32))] [(.int (2 : Int32)), (.ref len)]))
  have V_len_at_46 := ((V_len.other W95 ne_len_ad0).other W105 ne_len_ad0)
  refine own_to (fun _ kz => own_laload X43v2 hx hZ e43v2 V_len_at_46 (j := (2 : Int32)) (by decide) rfl (by decide) (g := (mkF m 46 #[.val (.ref ad0), .val (.int (1 : Int32))] [(.int (2 : Int32)), (.ref len)])) rfl rfl (hb hby d30_46) kz) ?_
  show own_Fin p e below G (T43v2.setTop (mkF m 47 #[.val (.ref ad0), .val (.int (1 : Int32))] [(.long (fl 2))]))
  refine own_to (fun _ kz => XS.lconst X43v2.here hx rfl (hb hby d30_47) kz) ?_
  show own_Fin p e below G (T43v2.setTop (mkF m 48 #[.val (.ref ad0), .val (.int (1 : Int32))] [(.long (0 : Int64)), (.long (fl 2))]))
  refine own_to (fun _ kz => XS.lcmp X43v2.here hx rfl (hb hby d30_48) rfl kz) ?_
  show own_Fin p e below G (T43v2.setTop (mkF m 49 #[.val (.ref ad0), .val (.int (1 : Int32))] [(.int (lcmpW (fl 2) (0 : Int64)))]))
  have hc49v2 : (fl 2) < (0 : Int64) := hneg
  refine own_to (fun _ kz => XS.ifYes X43v2.here hx rfl (pc0 := 49) (pc' := 111) rfl (hb hby d30_49) rfl ((if0 _ _).trans (tlt ((lw_lt _ _).mpr hc49v2)).1) (by decide) (by decide) kz) ?_
  show own_Fin p e below G (T43v2.setTop (mkF m 111 #[.val (.ref ad0), .val (.int (1 : Int32))] []))
  refine own_aloadN X43v2 hx (hb hby d30_111) rfl (rfl) ?_
  obtain ⟨T112, X112, e112, st112⟩ := getF X43v2 hx hZ hown (host := "") (Or.inl (own_w hw 171 rfl)) Via.refl e43v2 Fw105 (g := (mkF m 112 #[.val (.ref ad0), .val (.int (1 : Int32))] [(.ref ad0)])) rfl rfl (hb hby d30_112)
  refine own_to st112 ?_
  show own_Fin p e below G (T112.setTop (mkF m 115 #[.val (.ref ad0), .val (.int (1 : Int32))] [(.int (2 : Int32))]))
  refine own_iloadN X112 hx (hb hby d30_115) rfl ?_
  refine own_to (fun _ kz => XS.isub X112.here hx rfl (hb hby d30_116) rfl kz) ?_
  show own_Fin p e below G (T112.setTop (mkF m 117 #[.val (.ref ad0), .val (.int (1 : Int32))] [(.int (1 : Int32))]))
  have KP_117 : Keep h0 h105 [ad0] := (((Keep.refl h0 [ad0]).wr W95 (Or.inl (List.mem_of_getElem? (i := 0) rfl))).wr W105 (Or.inl (List.mem_of_getElem? (i := 0) rfl)))
  have E_ad0_at_117 := (E_ad0_at_105.wr W105)
  have F_kept_ad0_at_117 := ((F_kept_ad0.other W95 (Or.inr (slot_ne (Or.inr (own_w hw 79 rfl)) (Or.inl (own_w hw 205 rfl)) (by decide) (t := .int) (t' := .int) (by decide) (by decide)))).other W105 (Or.inr (slot_ne (Or.inr (own_w hw 79 rfl)) (Or.inl (own_w hw 172 rfl)) (by decide) (t := .int) (t' := .int) (by decide) (by decide))))
  have F_offsets_ad0_at_117 := ((F_offsets_ad0.other W95 (Or.inr (slot_ne (Or.inl (own_w hw 43 rfl)) (Or.inl (own_w hw 205 rfl)) (by decide) (t := (.array .long)) (t' := .int) (by decide) (by decide)))).other W105 (Or.inr (slot_ne (Or.inl (own_w hw 43 rfl)) (Or.inl (own_w hw 172 rfl)) (by decide) (t := (.array .long)) (t' := .int) (by decide) (by decide))))
  have F_whole_ad0_at_117 := ((F_whole_ad0.other W95 (Or.inr (slot_ne (Or.inr (own_w hw 71 rfl)) (Or.inl (own_w hw 205 rfl)) (by decide) (t := (.object "java/util/List")) (t' := .int) (by decide) (by decide)))).other W105 (Or.inr (slot_ne (Or.inr (own_w hw 71 rfl)) (Or.inl (own_w hw 172 rfl)) (by decide) (t := (.object "java/util/List")) (t' := .int) (by decide) (by decide))))
  have F_lastSpan_ad0_at_117 := ((F_lastSpan_ad0.other W95 (Or.inr (slot_ne (Or.inl (own_w hw 73 rfl)) (Or.inl (own_w hw 205 rfl)) (by decide) (t := .int) (t' := .int) (by decide) (by decide)))).other W105 (Or.inr (slot_ne (Or.inl (own_w hw 73 rfl)) (Or.inl (own_w hw 172 rfl)) (by decide) (t := .int) (t' := .int) (by decide) (by decide))))
  have Fw95_at_117 := (Fw95.other W105 (Or.inr (slot_ne (Or.inl (own_w hw 205 rfl)) (Or.inl (own_w hw 172 rfl)) (by decide) (t := .int) (t' := .int) (by decide) (by decide))))
  exact own_retI X112 hx hlk hG Bd.returns (hb hby d30_117) (by decide) (by decide) (by rw [e112]; exact ⟨rfl, N105, KP_117, E_ad0_at_117, F_kept_ad0_at_117, F_offsets_ad0_at_117, F_lengths_ad0_at_39, F_whole_ad0_at_117, F_size_ad0_at_32, F_lastSpan_ad0_at_117, Fw105, Fw95_at_117⟩)
theorem efS22 (m : MethodId) (ad0 : Addr) : entryFrame m #[(.ref ad0)] 2 = mkF m 0 #[.val (.ref ad0), .unset] [] := by first | (simp [entryFrame, mkF, argsToLocals, Value.category]; done) | rfl
def QS22 (Z : State) (ad0 : Addr) (kp : Int32) (ls : Int32) (w : Int32) (fl : Nat → Int64) (off : Addr) (len : Addr) (wh : Addr) (h0 : Heap) (n0 : Nat) (v : Option Value) (h : Heap) (L : List Loc) : Prop := v = some (.int (0 : Int32)) ∧ Fr n0 L ∧ Keep h0 h [ad0] ∧ Exa Z h ad0 own_cE ∧ Fld Z h ad0 own_cE "kept" "I" (.int kp) ∧ Fld Z h ad0 own_cE "offsets" "[J" (.ref off) ∧ Fld Z h ad0 own_cE "lengths" "[J" (.ref len) ∧ Fld Z h ad0 own_cE "whole" "Ljava/util/List;" (.ref wh) ∧ Fld Z h ad0 own_cE "size" "I" (.int (3 : Int32)) ∧ Fld Z h ad0 own_cE "lastSpan" "I" (.int ls) ∧ Fld Z h ad0 own_cE "taken" "I" (.int (2 : Int32)) ∧ Fld Z h ad0 own_cE "takenWhole" "I" (.int w)
set_option maxRecDepth 65536 in
set_option maxHeartbeats 40000000 in
theorem rmS22 (l : Launch) (Z : State) (a0 : Array Value) (hw : ∀ d ∈ tables_1, d.before a0 Z = true) (ws : List Jvm.Cond) (ad0 : Addr) (kp : Int32) (ls : Int32) (w : Int32) (fl : Nat → Int64) (off : Addr) (len : Addr) (wh : Addr) (h0 : Heap) (n0 : Nat) (Z0 : n0 ≤ h0.size) (E_ad0 : Exa Z h0 ad0 own_cE) (F_kept_ad0 : Fld Z h0 ad0 own_cE "kept" "I" (.int kp)) (F_offsets_ad0 : Fld Z h0 ad0 own_cE "offsets" "[J" (.ref off)) (F_lengths_ad0 : Fld Z h0 ad0 own_cE "lengths" "[J" (.ref len)) (F_whole_ad0 : Fld Z h0 ad0 own_cE "whole" "Ljava/util/List;" (.ref wh)) (F_size_ad0 : Fld Z h0 ad0 own_cE "size" "I" (.int (3 : Int32))) (F_lastSpan_ad0 : Fld Z h0 ad0 own_cE "lastSpan" "I" (.int ls)) (F_taken_ad0 : Fld Z h0 ad0 own_cE "taken" "I" (.int (2 : Int32))) (F_takenWhole_ad0 : Fld Z h0 ad0 own_cE "takenWhole" "I" (.int w)) (g_ad0 : n0 ≤ ad0) (V_len : own_AV Value.long Z h0 len .long 16 fl) (ne_len_ad0 : len ≠ ad0) (hgt : ¬ ls < (2 : Int32)) (hneg : (fl 2) < (0 : Int64)) :
    MetFree l own_y30 (head1 (Jvm.Cond.code own_y30 prog_47_method_7_code 2 (some .int) :: ws) ({ frames := 0, cells := 0, slots := 0, locals := 0 } : Room)) (fun a U => a = #[(.ref ad0)] ∧ Z.Warmed39 U.vm ∧ U.heap = h0) (fun _ _ _ _ _ => True) (fun _ U o U' => ∃ v L, o = .returned v ∧ QS22 Z ad0 kp ls w fl off len wh h0 n0 v U'.heap L ∧ FrameEnd U o U' L ({ frames := 0, cells := 0, slots := 0, locals := 0 } : Room).cells ({ frames := 0, cells := 0, slots := 0, locals := 0 } : Room).slots) := by
  refine MetFree.of_bodySF (plainFor_of_name own_pn6) hisR ?_
  intro p e s m args below meth c s₁ Bd hml0 hP hK
  obtain ⟨rfl, hZ, hh⟩ := hP
  have hx := Bd.exec
  have hby := Bd.bytes
  have hml : c.maxLocals = 2 := hml0
  have hown : s.vm.findClass own_cE = some m.cls := findClass_of_methodNamed Bd.named
  have hnm := (name_of_methodNamed Bd.named Bd.method).1
  have hlk : meth.locks = false := BodyLoose.notSynchronized Bd
  have X0 : Stand p l e ({ frames := 0, cells := 0, slots := 0, locals := 0 } : Room) s m #[(.ref ad0)] below meth c s₁ [] 0 0 := Stand.of_body Bd
  have e0 : s₁.heap = h0 := by rw [← hh, Bd.state]; rfl
  have N0 := Fr.nil n0
  obtain ⟨G, hG⟩ : ∃ G, G = own_G s (QS22 Z ad0 kp ls w fl off len wh h0 n0) ({ frames := 0, cells := 0, slots := 0, locals := 0 } : Room).cells ({ frames := 0, cells := 0, slots := 0, locals := 0 } : Room).slots := ⟨_, rfl⟩
  show own_Fin p e below (own_G s (QS22 Z ad0 kp ls w fl off len wh h0 n0) ({ frames := 0, cells := 0, slots := 0, locals := 0 } : Room).cells ({ frames := 0, cells := 0, slots := 0, locals := 0 } : Room).slots) (s₁.setTop (entryFrame m #[(.ref ad0)] 2))
  rw [← hG]
  refine own_to (fun _ kz => castTop (efS22 m ad0) kz) ?_
  show own_Fin p e below G (s₁.setTop (mkF m 0 #[.val (.ref ad0), .unset] []))
  refine own_aloadN X0 hx (hb hby d30_0) rfl (rfl) ?_
  obtain ⟨T1, X1, e1, st1⟩ := getF X0 hx hZ hown (host := "") (Or.inl (own_w hw 171 rfl)) Via.refl e0 F_taken_ad0 (g := (mkF m 1 #[.val (.ref ad0), .unset] [(.ref ad0)])) rfl rfl (hb hby d30_1)
  refine own_to st1 ?_
  show own_Fin p e below G (T1.setTop (mkF m 4 #[.val (.ref ad0), .unset] [(.int (2 : Int32))]))
  refine own_to (fun _ kz => XS.istoreN X1.here hx rfl (hb hby d30_4) rfl (l' := #[.val (.ref ad0), .val (.int (2 : Int32))]) rfl kz) ?_
  show own_Fin p e below G (T1.setTop (mkF m 5 #[.val (.ref ad0), .val (.int (2 : Int32))] []))
  refine own_aloadN X1 hx (hb hby d30_5) rfl (rfl) ?_
  obtain ⟨T6, X6, e6, st6⟩ := getF X1 hx hZ hown (host := "") (Or.inl (own_w hw 171 rfl)) Via.refl e1 F_taken_ad0 (g := (mkF m 6 #[.val (.ref ad0), .val (.int (2 : Int32))] [(.ref ad0)])) rfl rfl (hb hby d30_6)
  refine own_to st6 ?_
  show own_Fin p e below G (T6.setTop (mkF m 9 #[.val (.ref ad0), .val (.int (2 : Int32))] [(.int (2 : Int32))]))
  refine own_aloadN X6 hx (hb hby d30_9) rfl (rfl) ?_
  obtain ⟨T10, X10, e10, st10⟩ := getF X6 hx hZ hown (host := "") (Or.inl (own_w hw 72 rfl)) Via.refl e6 F_lastSpan_ad0 (g := (mkF m 10 #[.val (.ref ad0), .val (.int (2 : Int32))] [(.ref ad0), (.int (2 : Int32))])) rfl rfl (hb hby d30_10)
  refine own_to st10 ?_
  show own_Fin p e below G (T10.setTop (mkF m 13 #[.val (.ref ad0), .val (.int (2 : Int32))] [(.int ls), (.int (2 : Int32))]))
  have hc13 : ¬ (ls < (2 : Int32)) := hgt
  refine own_to (fun _ kz => XS.icmpYes X10.here hx rfl (pc0 := 13) (pc' := 27) rfl (hb hby d30_13) rfl (flt hc13).2.2.2 (by decide) (by decide) kz) ?_
  show own_Fin p e below G (T10.setTop (mkF m 27 #[.val (.ref ad0), .val (.int (2 : Int32))] []))
  refine own_aloadN X10 hx (hb hby d30_27) rfl (rfl) ?_
  obtain ⟨T28, X28, e28, st28⟩ := getF X10 hx hZ hown (host := "") (Or.inl (own_w hw 171 rfl)) Via.refl e10 F_taken_ad0 (g := (mkF m 28 #[.val (.ref ad0), .val (.int (2 : Int32))] [(.ref ad0)])) rfl rfl (hb hby d30_28)
  refine own_to st28 ?_
  show own_Fin p e below G (T28.setTop (mkF m 31 #[.val (.ref ad0), .val (.int (2 : Int32))] [(.int (2 : Int32))]))
  refine own_aloadN X28 hx (hb hby d30_31) rfl (rfl) ?_
  obtain ⟨T32, X32, e32, st32⟩ := getF X28 hx hZ hown (host := "") (Or.inl (own_w hw 96 rfl)) Via.refl e28 F_size_ad0 (g := (mkF m 32 #[.val (.ref ad0), .val (.int (2 : Int32))] [(.ref ad0), (.int (2 : Int32))])) rfl rfl (hb hby d30_32)
  refine own_to st32 ?_
  show own_Fin p e below G (T32.setTop (mkF m 35 #[.val (.ref ad0), .val (.int (2 : Int32))] [(.int (3 : Int32)), (.int (2 : Int32))]))
  have hc35 : (2 : Int32) < (3 : Int32) := by decide
  refine own_to (fun _ kz => XS.icmpNo X32.here hx rfl (hb hby d30_35) rfl (tlt hc35).2.1 kz) ?_
  show own_Fin p e below G (T32.setTop (mkF m 38 #[.val (.ref ad0), .val (.int (2 : Int32))] []))
  refine own_aloadN X32 hx (hb hby d30_38) rfl (rfl) ?_
  obtain ⟨T39, X39, e39, st39⟩ := getF X32 hx hZ hown (host := "") (Or.inl (own_w hw 44 rfl)) Via.refl e32 F_lengths_ad0 (g := (mkF m 39 #[.val (.ref ad0), .val (.int (2 : Int32))] [(.ref ad0)])) rfl rfl (hb hby d30_39)
  refine own_to st39 ?_
  show own_Fin p e below G (T39.setTop (mkF m 42 #[.val (.ref ad0), .val (.int (2 : Int32))] [(.ref len)]))
  refine own_aloadN X39 hx (hb hby d30_42) rfl (rfl) ?_
  obtain ⟨T43, X43, e43, st43⟩ := getF X39 hx hZ hown (host := "") (Or.inl (own_w hw 171 rfl)) Via.refl e39 F_taken_ad0 (g := (mkF m 43 #[.val (.ref ad0), .val (.int (2 : Int32))] [(.ref ad0), (.ref len)])) rfl rfl (hb hby d30_43)
  refine own_to st43 ?_
  show own_Fin p e below G (T43.setTop (mkF m 46 #[.val (.ref ad0), .val (.int (2 : Int32))] [(.int (2 : Int32)), (.ref len)]))
  refine own_to (fun _ kz => own_laload X43 hx hZ e43 V_len (j := (2 : Int32)) (by decide) rfl (by decide) (g := (mkF m 46 #[.val (.ref ad0), .val (.int (2 : Int32))] [(.int (2 : Int32)), (.ref len)])) rfl rfl (hb hby d30_46) kz) ?_
  show own_Fin p e below G (T43.setTop (mkF m 47 #[.val (.ref ad0), .val (.int (2 : Int32))] [(.long (fl 2))]))
  refine own_to (fun _ kz => XS.lconst X43.here hx rfl (hb hby d30_47) kz) ?_
  show own_Fin p e below G (T43.setTop (mkF m 48 #[.val (.ref ad0), .val (.int (2 : Int32))] [(.long (0 : Int64)), (.long (fl 2))]))
  refine own_to (fun _ kz => XS.lcmp X43.here hx rfl (hb hby d30_48) rfl kz) ?_
  show own_Fin p e below G (T43.setTop (mkF m 49 #[.val (.ref ad0), .val (.int (2 : Int32))] [(.int (lcmpW (fl 2) (0 : Int64)))]))
  have hc49 : (fl 2) < (0 : Int64) := hneg
  refine own_to (fun _ kz => XS.ifYes X43.here hx rfl (pc0 := 49) (pc' := 111) rfl (hb hby d30_49) rfl ((if0 _ _).trans (tlt ((lw_lt _ _).mpr hc49)).1) (by decide) (by decide) kz) ?_
  show own_Fin p e below G (T43.setTop (mkF m 111 #[.val (.ref ad0), .val (.int (2 : Int32))] []))
  refine own_aloadN X43 hx (hb hby d30_111) rfl (rfl) ?_
  obtain ⟨T112, X112, e112, st112⟩ := getF X43 hx hZ hown (host := "") (Or.inl (own_w hw 171 rfl)) Via.refl e43 F_taken_ad0 (g := (mkF m 112 #[.val (.ref ad0), .val (.int (2 : Int32))] [(.ref ad0)])) rfl rfl (hb hby d30_112)
  refine own_to st112 ?_
  show own_Fin p e below G (T112.setTop (mkF m 115 #[.val (.ref ad0), .val (.int (2 : Int32))] [(.int (2 : Int32))]))
  refine own_iloadN X112 hx (hb hby d30_115) rfl ?_
  refine own_to (fun _ kz => XS.isub X112.here hx rfl (hb hby d30_116) rfl kz) ?_
  show own_Fin p e below G (T112.setTop (mkF m 117 #[.val (.ref ad0), .val (.int (2 : Int32))] [(.int (0 : Int32))]))
  exact own_retI X112 hx hlk hG Bd.returns (hb hby d30_117) (by decide) (by decide) (by rw [e112]; exact ⟨rfl, N0, (Keep.refl h0 [ad0]), E_ad0, F_kept_ad0, F_offsets_ad0, F_lengths_ad0, F_whole_ad0, F_size_ad0, F_lastSpan_ad0, F_taken_ad0, F_takenWhole_ad0⟩)
def own_i : Nat → Int32
  | 0 => 0
  | 1 => 1
  | 2 => 2
  | 3 => 3
  | _ => 4
def own_W (k : Int32) : Nat → Nat
  | 0 => 0
  | i + 1 => own_W k i + if f11 k (own_i i) = 0 then 1 else 0
def own_ls (k : Int32) : Int32 := if f11 k 2 = 0 then (if f11 k 1 = 0 then (if f11 k 0 = 0 then -1 else 0) else 1) else 2
def own_N (k : Int32) (ln : Int64) (i : Nat) : Int64 := if f11 k (own_i i) = 0 then 0 else -ln
def own_stop (k : Int32) (t : Nat) : Nat := if t ≤ 0 ∧ ¬ f11 k 0 = 0 then 0 else if t ≤ 1 ∧ ¬ f11 k 1 = 0 then 1 else if t ≤ 2 ∧ ¬ f11 k 2 = 0 then 2 else 3
def own_nx (t : Nat) : Nat := if t < 3 then t + 1 else t
def own_r (a b c : Addr) (i : Nat) : Addr := if i = 0 then a else if i = 1 then b else c
def own_Fs (Z : State) (h : Heap) (B off len wh : Addr) (kp ls tk w : Int32) : Prop := Exa Z h B own_cE ∧ Fld Z h B own_cE "kept" "I" (.int kp) ∧ Fld Z h B own_cE "offsets" "[J" (.ref off) ∧ Fld Z h B own_cE "lengths" "[J" (.ref len) ∧ Fld Z h B own_cE "whole" "Ljava/util/List;" (.ref wh) ∧ Fld Z h B own_cE "size" "I" (.int 3) ∧ Fld Z h B own_cE "lastSpan" "I" (.int ls) ∧ Fld Z h B own_cE "taken" "I" (.int tk) ∧ Fld Z h B own_cE "takenWhole" "I" (.int w)
def own_Oth (Z : State) (n0 : Nat) (h : Heap) (B rc : Addr) (r : Nat → Addr) (k : Int32) (a ln : Int64) (off len wh ed : Addr) (nn_ : Nat) (fo fl : Nat → Int64) (fe fr : Nat → Value) : Prop :=
  (own_AV Value.long Z h off .long 16 fo ∧ own_AV Value.long Z h len .long 16 fl ∧ Exa Z h wh own_cL ∧ Fld Z h wh own_cL "elementData" own_cA (.ref ed) ∧ Fld Z h wh own_cL "size" "I" (.int (own_i (own_W k 3))) ∧ own_AV id Z h ed (.object "java/lang/Object") nn_ fe ∧ own_AV id Z h rc (.object own_cR) 3 fr ∧ ∀ i, i < 3 → Exa Z h (r i) own_cR) ∧
  (off ≠ B ∧ len ≠ B ∧ wh ≠ B ∧ ed ≠ B ∧ rc ≠ B ∧ n0 ≤ B) ∧
  ∀ i, i < 3 → (¬ f11 k (own_i i) = 0 → fo i = f12 a (own_i i)) ∧ fl i = own_N k ln i ∧ fr i = .ref (r i) ∧ (f11 k (own_i i) = 0 → own_W k i < nn_ ∧ fe (own_W k i) = .ref (r i))
def own_Bt (Z : State) (n0 : Nat) (h : Heap) (B rc : Addr) (r : Nat → Addr) (k : Int32) (a ln : Int64) (t : Nat) : Prop :=
  ∃ (off len wh ed : Addr) (w kp : Int32) (nn_ : Nat) (fo fl : Nat → Int64) (fe fr : Nat → Value), own_Fs Z h B off len wh kp (own_ls k) (own_i t) w ∧ own_Oth Z n0 h B rc r k a ln off len wh ed nn_ fo fl fe fr ∧ (t < 3 → w = own_i (own_W k t))
def own_ent (Z : State) (h : Heap) (B : Addr) (r : Nat → Addr) (k : Int32) (a ln : Int64) (t : Nat) (e : Value) : Prop :=
  (3 ≤ t ∧ e = .null) ∨ (t < 3 ∧ ¬ f11 k (own_i t) = 0 ∧ ∃ b : Addr, e = .ref b ∧ b ≠ B ∧ Exa Z h b own_cD ∧ Fld Z h b own_cD "offset" "J" (.long (f12 a (own_i t))) ∧ Fld Z h b own_cD "length" "J" (.long ln)) ∨ (t < 3 ∧ f11 k (own_i t) = 0 ∧ e = .ref (r t))
section OwnBt
variable {Z : State} {n0 : Nat} {h h' : Heap} {B rc : Addr} {r : Nat → Addr} {k : Int32} {a ln : Int64} {t : Nat} {e : Value} {off len wh ed : Addr} {nn_ : Nat} {fo fl : Nat → Int64} {fe fr : Nat → Value}
theorem own_Bt.exa (Bt : own_Bt Z n0 h B rc r k a ln t) : Exa Z h B own_cE := by obtain ⟨off, len, wh, ed, w, kp, nn_, fo, fl, fe, fr, F, -⟩ := Bt; exact F.1
theorem own_ent.ref (E : own_ent Z h B r k a ln t e) : e.isRef = true := by
  rcases E with ⟨-, rfl⟩ | ⟨-, -, b, rfl, -⟩ | ⟨-, -, rfl⟩ <;> rfl
theorem own_ent.keep (E : own_ent Z h B r k a ln t e) (K : Keep h h' [B]) : own_ent Z h' B r k a ln t e := by
  rcases E with E | ⟨q1, q2, b, q3, q4, q5, q6, q7⟩ | E
  · exact Or.inl E
  · exact Or.inr (Or.inl ⟨q1, q2, b, q3, q4, q5.keep K, q6.keep K (ninS q4 nin0), q7.keep K (ninS q4 nin0)⟩)
  · exact Or.inr (Or.inr E)
theorem own_ent.last (E : own_ent Z h B r k a ln 3 e) : own_ent Z h B r k a ln 4 e := by
  rcases E with ⟨-, q⟩ | ⟨q, -⟩ | ⟨q, -⟩
  · exact Or.inl ⟨by decide, q⟩
  · exact absurd q (by decide)
  · exact absurd q (by decide)
theorem own_Oth.keep (O : own_Oth Z n0 h B rc r k a ln off len wh ed nn_ fo fl fe fr) (K : Keep h h' [B]) : own_Oth Z n0 h' B rc r k a ln off len wh ed nn_ fo fl fe fr := by
  obtain ⟨⟨c1, c2, c3, c4, c5, c6, c7, c8⟩, ⟨d1, d2, d3, d4, d5, d6⟩, q⟩ := O
  exact ⟨⟨c1.keep K (ninS d1 nin0), c2.keep K (ninS d2 nin0), c3.keep K, c4.keep K (ninS d3 nin0), c5.keep K (ninS d3 nin0), c6.keep K (ninS d4 nin0), c7.keep K (ninS d5 nin0), fun i hi => (c8 i hi).keep K⟩, ⟨d1, d2, d3, d4, d5, d6⟩, q⟩
theorem own_ent.nxt (ht : t ≤ 3) (E : own_ent Z h B r k a ln (own_nx t) e) : own_ent Z h B r k a ln (t + 1) e := by
  by_cases q : t < 3
  · rw [own_nx, if_pos q] at E; exact E
  · obtain rfl : t = 3 := by omega
    exact own_ent.last E
theorem own_nxle (ht : t ≤ 3) : own_nx t ≤ 3 := by unfold own_nx; split <;> omega
theorem own_stle : own_stop k t ≤ 3 := by unfold own_stop; split <;> (try split) <;> (try split) <;> decide
theorem own_i1' (ht : t ≤ 3) : own_i t + (1 : Int32) = own_i (t + 1) := by
  have : t = 0 ∨ t = 1 ∨ t = 2 ∨ t = 3 := by omega
  rcases this with rfl | rfl | rfl | rfl <;> decide
theorem own_neg (h : (0 : Int64) < ln) : ¬ (0 : Int64) < -ln ∧ ¬ (-ln) = (0 : Int64) ∧ (-ln) < (0 : Int64) ∧ (0 : Int64) < -(-ln) ∧ -(-ln) = ln := by
  have z : (0 : Int64).toInt = 0 := by decide
  have e2 : -(-ln) = ln := by simp
  rw [Int64.lt_iff_toInt_lt, z] at h
  have hl := Int64.toInt_lt ln
  have e : (-ln).toInt = -ln.toInt := by rw [Int64.toInt_neg]; exact Int.bmod_eq_of_le (by omega) (by omega)
  refine ⟨by rw [Int64.lt_iff_toInt_lt, z, e]; omega, fun q => ?_, by rw [Int64.lt_iff_toInt_lt, z, e]; omega, by rw [e2, Int64.lt_iff_toInt_lt, z]; exact h, e2⟩
  have := congrArg Int64.toInt q
  rw [e, z] at this; omega
theorem own_off (a : Int64) : ∀ i, i < 3 → ¬ f12 a (own_i i) < (0 : Int64) := by
  intro i hi
  have : i = 0 ∨ i = 1 ∨ i = 2 := by omega
  rw [Int64.lt_iff_toBitVec_slt]
  rcases this with rfl | rfl | rfl <;> simp [f12, own_i, BitVec.slt_zero_eq_msb, BitVec.msb_or, BitVec.msb_and] <;> (first | done | decide | (intro _; decide) | exact ⟨fun _ => by decide, by decide⟩)
theorem own_Wle (k : Int32) : ∀ i, own_W k i ≤ i
  | 0 => Nat.le_refl _
  | i + 1 => by have := own_Wle k i; simp only [own_W]; split <;> omega
theorem own_Wlt (k : Int32) {i : Nat} (hi : i < 3) (hs : f11 k (own_i i) = 0) : own_W k i < own_W k 3 := by
  have : i = 0 ∨ i = 1 ∨ i = 2 := by omega
  rcases this with rfl | rfl | rfl <;> simp only [own_i] at hs <;> simp only [own_W, own_i, hs] <;> simp <;> omega
theorem own_i0 : ∀ i, i ≤ 3 → ¬ own_i i < (0 : Int32) ∧ (own_i i).toNatClampNeg = i := by
  intro i hi
  have : i = 0 ∨ i = 1 ∨ i = 2 ∨ i = 3 := by omega
  rcases this with rfl | rfl | rfl | rfl <;> exact ⟨by decide, by decide⟩
theorem own_i1 : ∀ i, i < 3 → own_i i + (1 : Int32) = own_i (i + 1) := by
  intro i hi
  have : i = 0 ∨ i = 1 ∨ i = 2 := by omega
  rcases this with rfl | rfl | rfl <;> decide
theorem own_ilt : ∀ i j, i < j → j ≤ 3 → own_i i < own_i j := by
  intro i j hij hj
  have : (i = 0 ∧ j = 1) ∨ (i = 0 ∧ j = 2) ∨ (i = 0 ∧ j = 3) ∨ (i = 1 ∧ j = 2) ∨ (i = 1 ∧ j = 3) ∨ (i = 2 ∧ j = 3) := by omega
  rcases this with ⟨rfl, rfl⟩ | ⟨rfl, rfl⟩ | ⟨rfl, rfl⟩ | ⟨rfl, rfl⟩ | ⟨rfl, rfl⟩ | ⟨rfl, rfl⟩ <;> decide
end OwnBt
def own_QT (Z : State) (B rc : Addr) (r : Nat → Addr) (k : Int32) (a ln : Int64) (t : Nat) (h0 : Heap) (n0 : Nat) (v : Option Value) (h : Heap) (L : List Loc) : Prop := ∃ e : Value, v = some e ∧ Fr n0 L ∧ Keep h0 h [B] ∧ own_Bt Z n0 h B rc r k a ln (own_nx t) ∧ own_ent Z h B r k a ln t e
set_option maxRecDepth 65536 in
set_option maxHeartbeats 40000000 in
theorem rmT (l : Launch) (Z : State) (a0 : Array Value) (hw : ∀ d ∈ tables_1, d.before a0 Z = true) (B rc : Addr) (r : Nat → Addr) (k : Int32) (a ln : Int64) (t : Nat) (h0 : Heap) (n0 : Nat) (Z0 : n0 ≤ h0.size) (hln : (0 : Int64) < ln) (ht : t ≤ 3) (Bt : own_Bt Z n0 h0 B rc r k a ln t) :
    MetFree l own_y25 (head1 [Jvm.Cond.code own_y25 prog_47_method_6_code 6 (some (.object "com/example/resync/resync/model/LogEntry"))] ({ frames := 4, cells := 1, slots := 2, locals := 80 } : Room)) (fun a' U => a' = #[.ref B] ∧ Z.Warmed39 U.vm ∧ U.heap = h0) (fun _ _ _ _ _ => True) (fun _ U o U' => ∃ v L, o = .returned v ∧ own_QT Z B rc r k a ln t h0 n0 v U'.heap L ∧ FrameEnd U o U' L ({ frames := 4, cells := 1, slots := 2, locals := 80 } : Room).cells ({ frames := 4, cells := 1, slots := 2, locals := 80 } : Room).slots) := by
  obtain ⟨off, len, wh, ed, w, kp, nn_, fo, fl, fe, fr, ⟨b1, b2, b3, b4, b5, b6, b7, b8, b9⟩, O, hwt⟩ := Bt
  have O' := O
  obtain ⟨⟨c1, c2, c3, c4, c5, c6, c7, c8⟩, ⟨d1, d2, d3, d4, d5, d6⟩, q⟩ := O'
  by_cases h3 : t = 3
  · subst h3
    refine own_mono (rmTN l Z a0 hw [] (ad0 := B) (kp := kp) (off := off) (len := len) (wh := wh) (ls := own_ls k) (w := w) h0 n0 Z0 b1 b2 b3 b4 b5 b6 b7 b8 b9 d6) ?_
    rintro _ U _ U' ⟨-, -, hU⟩ ⟨v, L, rfl, ⟨rfl, N, hh⟩, hF⟩
    refine ⟨_, L, rfl, ⟨.null, rfl, N, ?_, ?_, Or.inl ⟨Nat.le_refl _, rfl⟩⟩, hF⟩
    · rw [hh]; exact Keep.refl _ _
    · rw [hh]; exact ⟨off, len, wh, ed, w, kp, nn_, fo, fl, fe, fr, ⟨b1, b2, b3, b4, b5, b6, b7, b8, b9⟩, O, hwt⟩
  · have ht3 : t < 3 := by omega
    have i0 := own_i0 t ht
    have hn3 : ¬ own_i t = (3 : Int32) := by
      have : t = 0 ∨ t = 1 ∨ t = 2 := by omega
      rcases this with rfl | rfl | rfl <;> decide
    obtain ⟨q1, q2, q3, q4⟩ := q t ht3
    have e1 : own_nx t = t + 1 := if_pos ht3
    by_cases hs : f11 k (own_i t) = 0
    · have f0 : fl t = 0 := by rw [q2, own_N, if_pos hs]
      obtain ⟨q5, q6⟩ := q4 hs
      have w3 : own_W k t ≤ 3 := Nat.le_trans (own_Wle k t) ht
      have j0 := own_i0 _ w3
      obtain rfl : w = own_i (own_W k t) := hwt ht3
      refine own_mono (rmTR l Z a0 hw [] (ad0 := B) (jn := t) (kp := kp) (off := off) (len := len) (wh := wh) (ls := own_ls k) (tk := own_i t) (w := own_i (own_W k t)) (fo := fo) (fl := fl) (jq := own_W k t) (rt := r t) (ed := ed) (cnt := own_i (own_W k 3)) (nn_ := nn_) (fe := fe) h0 n0 Z0 b1 b2 b3 b4 b5 b6 b7 b8 b9 d6 c1 c2 d1 d2 i0.1 i0.2 (by omega) hn3 (by rw [f0]; decide) f0 (c8 t ht3) c3 c4 c5 c6 d3 d4 j0.1 j0.2 q5 q6 (own_ilt _ _ (own_Wlt k ht3 hs) (own_Wle k 3))) ?_
      rintro _ U _ U' ⟨-, -, hU⟩ ⟨v, L, rfl, ⟨rfl, N, K, e1', e2, e3, e4, e5, e6, e7, e8, e9⟩, hF⟩
      rw [own_i1 t ht3] at e8
      refine ⟨_, L, rfl, ⟨_, rfl, N, K, ?_, Or.inr (Or.inr ⟨ht3, hs, rfl⟩)⟩, hF⟩
      rw [e1]
      exact ⟨off, len, wh, ed, _, kp, nn_, fo, fl, fe, fr, ⟨e1', e2, e3, e4, e5, e6, e7, e8, e9⟩, O.keep K, fun _ => by
        have := own_Wlt k ht3 hs
        have h3' := own_Wle k 3
        rw [own_i1 _ (by omega)]; simp only [own_W, hs, if_true]⟩
    · have f0 : fl t = -ln := by rw [q2, own_N, if_neg hs]
      have g := own_neg hln
      refine own_mono (rmTS l Z a0 hw [] (ad0 := B) (jn := t) (kp := kp) (off := off) (len := len) (wh := wh) (ls := own_ls k) (tk := own_i t) (w := w) (fo := fo) (fl := fl) h0 n0 Z0 b1 b2 b3 b4 b5 b6 b7 b8 b9 d6 c1 c2 d1 d2 i0.1 i0.2 (by omega) hn3 (by rw [f0]; exact g.1) (by rw [f0]; exact g.2.1) (by rw [q1 hs]; exact own_off a t ht3) (by rw [f0]; exact g.2.2.2.1)) ?_
      rintro _ U _ U' ⟨-, -, hU⟩ ⟨v, L, rfl, ⟨b, rfl, N, K, sz, e1', e2, e3, e4, e5, e6, e7, e8, e9, x1, x2, x3⟩, hF⟩
      rw [own_i1 t ht3] at e8
      rw [q1 hs] at x2
      rw [f0, g.2.2.2.2] at x3
      refine ⟨_, L, rfl, ⟨_, rfl, N, K, ?_, Or.inr (Or.inl ⟨ht3, hs, b, rfl, (Nat.ne_of_lt (Nat.lt_of_lt_of_le b1.lt sz)).symm, x1, x2, x3⟩)⟩, hF⟩
      rw [e1]
      exact ⟨off, len, wh, ed, w, kp, nn_, fo, fl, fe, fr, ⟨e1', e2, e3, e4, e5, e6, e7, e8, e9⟩, O.keep K, fun _ => by
        rw [hwt ht3]; simp only [own_W, hs, if_false, Nat.add_zero]⟩
def own_QM (h0 : Heap) (n0 : Nat) (v : Option Value) (h : Heap) (L : List Loc) : Prop := v = some (.int 1) ∧ Fr n0 L ∧ h = h0
set_option maxRecDepth 65536 in
set_option maxHeartbeats 40000000 in
theorem rmM (l : Launch) (Z : State) (a0 : Array Value) (hw : ∀ d ∈ tables_1, d.before a0 Z = true) (B rc : Addr) (r : Nat → Addr) (k : Int32) (a ln : Int64) (t : Nat) (i : Nat) (e : Value) (h0 : Heap) (n0 : Nat) (Z0 : n0 ≤ h0.size) (Bt : own_Bt Z n0 h0 B rc r k a ln t) (hi : i ≤ 4) (En : own_ent Z h0 B r k a ln i e) :
    MetFree l own_y27 (head1 [Jvm.Cond.code own_y27 method_5_code 9 (some .boolean)] ({ frames := 1, cells := 0, slots := 0, locals := 40 } : Room)) (fun a' U => a' = #[e, .int (own_i i), .int k, .ref rc, .long a, .long ln] ∧ Z.Warmed39 U.vm ∧ U.heap = h0) (fun _ _ _ _ _ => True) (fun _ U o U' => ∃ v L, o = .returned v ∧ own_QM h0 n0 v U'.heap L ∧ FrameEnd U o U' L ({ frames := 1, cells := 0, slots := 0, locals := 40 } : Room).cells ({ frames := 1, cells := 0, slots := 0, locals := 40 } : Room).slots) := by
  obtain ⟨off, len, wh, ed, w, kp, nn_, fo, fl, fe, fr, ⟨b1, b2, b3, b4, b5, b6, b7, b8, b9⟩, O, hwt⟩ := Bt
  have O' := O
  obtain ⟨⟨c1, c2, c3, c4, c5, c6, c7, c8⟩, ⟨d1, d2, d3, d4, d5, d6⟩, q⟩ := O'
  rcases En with ⟨g, rfl⟩ | ⟨g, hs, b, rfl, -, x1, x2, x3⟩ | ⟨g, hs, rfl⟩
  · refine own_mono (rmMN l Z a0 hw [] (own_i i) k rc a ln h0 n0 Z0 ?_) fun _ _ _ _ _ q => q
    have : i = 3 ∨ i = 4 := by omega
    rcases this with rfl | rfl <;> decide
  · exact own_mono (rmMS l Z a0 hw [] b (own_i i) k rc a ln h0 n0 Z0 x1 x2 x3 (own_ilt i 3 g (by decide)) hs) fun _ _ _ _ _ q => q
  · exact own_mono (rmMR l Z a0 hw [] (ad0 := r i) (p1 := own_i i) (p2 := k) (ad3 := rc) (x4 := a) (x5 := ln) (jn := i) (fr := fr) h0 n0 Z0 c7 (own_ilt i 3 g (by decide)) hs (own_i0 i (by omega)).1 (own_i0 i (by omega)).2 g (q i g).2.2.1) fun _ _ _ _ _ q => q
theorem own_lsA3 {k : Int32} : own_ls k < own_i 3 := by unfold own_ls; split <;> (try split) <;> (try split) <;> decide
theorem own_lsA2 {k : Int32} (h2 : f11 k 2 = 0) : own_ls k < own_i 2 := by unfold own_ls; rw [if_pos h2]; split <;> (try split) <;> decide
theorem own_lsA1 {k : Int32} (h1 : f11 k 1 = 0) (h2 : f11 k 2 = 0) : own_ls k < own_i 1 := by unfold own_ls; rw [if_pos h2, if_pos h1]; split <;> decide
theorem own_lsA0 {k : Int32} (h0 : f11 k 0 = 0) (h1 : f11 k 1 = 0) (h2 : f11 k 2 = 0) : own_ls k < own_i 0 := by unfold own_ls; rw [if_pos h2, if_pos h1, if_pos h0]; decide
theorem own_lsC (k : Int32) (t s : Nat) (hts : t ≤ s) (h3 : s < 3) (h : ¬ f11 k (own_i s) = 0) : ¬ own_ls k < own_i t := by
  have : (t = 0 ∧ s = 0) ∨ (t = 0 ∧ s = 1) ∨ (t = 0 ∧ s = 2) ∨ (t = 1 ∧ s = 1) ∨ (t = 1 ∧ s = 2) ∨ (t = 2 ∧ s = 2) := by omega
  rcases this with ⟨rfl, rfl⟩ | ⟨rfl, rfl⟩ | ⟨rfl, rfl⟩ | ⟨rfl, rfl⟩ | ⟨rfl, rfl⟩ | ⟨rfl, rfl⟩ <;> simp only [own_i] at h <;> unfold own_ls <;> simp only [h, if_false] <;> (try split) <;> (try split) <;> decide
theorem own_z {k : Int32} {a ln : Int64} {r : Nat → Addr} {fo fl : Nat → Int64} {fe fr : Nat → Value} {nn_ : Nat} (q : ∀ i, i < 3 → (¬ f11 k (own_i i) = 0 → fo i = f12 a (own_i i)) ∧ fl i = own_N k ln i ∧ fr i = .ref (r i) ∧ (f11 k (own_i i) = 0 → own_W k i < nn_ ∧ fe (own_W k i) = .ref (r i))) (j : Nat) (hj : j < 3) (h : f11 k (own_i j) = 0) : fl j = (0 : Int64) := by rw [(q j hj).2.1, own_N, if_pos h]
theorem own_n {k : Int32} {a ln : Int64} {r : Nat → Addr} {fo fl : Nat → Int64} {fe fr : Nat → Value} {nn_ : Nat} (q : ∀ i, i < 3 → (¬ f11 k (own_i i) = 0 → fo i = f12 a (own_i i)) ∧ fl i = own_N k ln i ∧ fr i = .ref (r i) ∧ (f11 k (own_i i) = 0 → own_W k i < nn_ ∧ fe (own_W k i) = .ref (r i))) (hln : (0 : Int64) < ln) (j : Nat) (hj : j < 3) (h : ¬ f11 k (own_i j) = 0) : fl j < (0 : Int64) := by rw [(q j hj).2.1, own_N, if_neg h]; exact (own_neg hln).2.2.1
theorem own_wst1 (k : Int32) (t : Nat) (ht : t < 2) (h : f11 k (own_i t) = 0) : own_i (own_W k t) + (1 : Int32) = own_i (own_W k (t + 1)) := by
  rw [own_i1 _ (by have := own_Wle k t; omega)]; simp only [own_W, h, if_true]
def own_QS (Z : State) (B rc : Addr) (r : Nat → Addr) (k : Int32) (a ln : Int64) (t : Nat) (h0 : Heap) (n0 : Nat) (v : Option Value) (h : Heap) (L : List Loc) : Prop := v = some (.int (own_i (own_stop k t) - own_i t)) ∧ Fr n0 L ∧ Keep h0 h [B] ∧ own_Bt Z n0 h B rc r k a ln (own_stop k t)
set_option maxRecDepth 65536 in
set_option maxHeartbeats 40000000 in
theorem rmS (l : Launch) (Z : State) (a0 : Array Value) (hw : ∀ d ∈ tables_1, d.before a0 Z = true) (B rc : Addr) (r : Nat → Addr) (k : Int32) (a ln : Int64) (t : Nat) (h0 : Heap) (n0 : Nat) (Z0 : n0 ≤ h0.size) (hln : (0 : Int64) < ln) (ht : t ≤ 3) (Bt : own_Bt Z n0 h0 B rc r k a ln t) :
    MetFree l own_y30 (head1 [Jvm.Cond.code own_y30 prog_47_method_7_code 2 (some .int)] ({ frames := 0, cells := 0, slots := 0, locals := 0 } : Room)) (fun a' U => a' = #[.ref B] ∧ Z.Warmed39 U.vm ∧ U.heap = h0) (fun _ _ _ _ _ => True) (fun _ U o U' => ∃ v L, o = .returned v ∧ own_QS Z B rc r k a ln t h0 n0 v U'.heap L ∧ FrameEnd U o U' L ({ frames := 0, cells := 0, slots := 0, locals := 0 } : Room).cells ({ frames := 0, cells := 0, slots := 0, locals := 0 } : Room).slots) := by
  obtain ⟨off, len, wh, ed, w, kp, nn_, fo, fl, fe, fr, ⟨b1, b2, b3, b4, b5, b6, b7, b8, b9⟩, O, hwt⟩ := Bt
  have O' := O
  obtain ⟨⟨c1, c2, c3, c4, c5, c6, c7, c8⟩, ⟨d1, d2, d3, d4, d5, d6⟩, q⟩ := O'
  have : t = 0 ∨ t = 1 ∨ t = 2 ∨ t = 3 := by omega
  rcases this with rfl | rfl | rfl | rfl
  · by_cases g0 : f11 k 0 = 0
    · by_cases g1 : f11 k 1 = 0
      · by_cases g2 : f11 k 2 = 0
        · have hst : own_stop k 0 = 3 := by simp [own_stop, g0, g1, g2]
          refine own_mono (rmSA l Z a0 hw [] (ad0 := B) (kp := kp) (off := off) (len := len) (wh := wh) (ls := own_ls k) (w := w) (tk := own_i 0) h0 n0 Z0 b1 b2 b3 b4 b5 b6 b7 b8 b9 d6 (own_lsA0 g0 g1 g2)) ?_
          rintro _ U _ U' ⟨-, -, hU⟩ ⟨v, L, rfl, ⟨rfl, N, K, e1', e2, e3, e4, e5, e6, e7, e8, e9⟩, hF⟩
          refine ⟨_, L, rfl, ⟨by rw [hst]; rfl, N, K, ?_⟩, hF⟩
          rw [hst]
          exact ⟨off, len, wh, ed, _, kp, nn_, fo, fl, fe, fr, ⟨e1', e2, e3, e4, e5, e6, e7, e8, e9⟩, O.keep K, fun q => absurd q (by decide)⟩
        · have hst : own_stop k 0 = 2 := by simp [own_stop, g0, g1, g2]
          refine own_mono (rmS02 l Z a0 hw [] (ad0 := B) (kp := kp) (off := off) (len := len) (wh := wh) (ls := own_ls k) (w := w) (fl := fl) h0 n0 Z0 b1 b2 b3 b4 b5 b6 b7 b8 b9 d6 c2 d2 (own_lsC k 0 2 (by decide) (by decide) g2) (own_z q 0 (by decide) g0) (own_z q 1 (by decide) g1) (own_n q hln 2 (by decide) g2)) ?_
          rintro _ U _ U' ⟨-, -, hU⟩ ⟨v, L, rfl, ⟨rfl, N, K, e1', e2, e3, e4, e5, e6, e7, e8, e9⟩, hF⟩
          refine ⟨_, L, rfl, ⟨by rw [hst]; rfl, N, K, ?_⟩, hF⟩
          rw [hst]
          exact ⟨off, len, wh, ed, _, kp, nn_, fo, fl, fe, fr, ⟨e1', e2, e3, e4, e5, e6, e7, e8, e9⟩, O.keep K, fun _ => by rw [hwt (by decide)]; rw [own_wst1 k 0 (by decide) g0]; exact own_wst1 k 1 (by decide) g1⟩
      · have hst : own_stop k 0 = 1 := by simp [own_stop, g0, g1]
        refine own_mono (rmS01 l Z a0 hw [] (ad0 := B) (kp := kp) (off := off) (len := len) (wh := wh) (ls := own_ls k) (w := w) (fl := fl) h0 n0 Z0 b1 b2 b3 b4 b5 b6 b7 b8 b9 d6 c2 d2 (own_lsC k 0 1 (by decide) (by decide) g1) (own_z q 0 (by decide) g0) (own_n q hln 1 (by decide) g1)) ?_
        rintro _ U _ U' ⟨-, -, hU⟩ ⟨v, L, rfl, ⟨rfl, N, K, e1', e2, e3, e4, e5, e6, e7, e8, e9⟩, hF⟩
        refine ⟨_, L, rfl, ⟨by rw [hst]; rfl, N, K, ?_⟩, hF⟩
        rw [hst]
        exact ⟨off, len, wh, ed, _, kp, nn_, fo, fl, fe, fr, ⟨e1', e2, e3, e4, e5, e6, e7, e8, e9⟩, O.keep K, fun _ => by rw [hwt (by decide)]; exact own_wst1 k 0 (by decide) g0⟩
    · have hst : own_stop k 0 = 0 := by simp [own_stop, g0]
      refine own_mono (rmS00 l Z a0 hw [] (ad0 := B) (kp := kp) (off := off) (len := len) (wh := wh) (ls := own_ls k) (w := w) (fl := fl) h0 n0 Z0 b1 b2 b3 b4 b5 b6 b7 b8 b9 d6 c2 d2 (own_lsC k 0 0 (by decide) (by decide) g0) (own_n q hln 0 (by decide) g0)) ?_
      rintro _ U _ U' ⟨-, -, hU⟩ ⟨v, L, rfl, ⟨rfl, N, K, e1', e2, e3, e4, e5, e6, e7, e8, e9⟩, hF⟩
      refine ⟨_, L, rfl, ⟨by rw [hst]; rfl, N, K, ?_⟩, hF⟩
      rw [hst]
      exact ⟨off, len, wh, ed, _, kp, nn_, fo, fl, fe, fr, ⟨e1', e2, e3, e4, e5, e6, e7, e8, e9⟩, O.keep K, fun _ => hwt (by decide)⟩
  · by_cases g1 : f11 k 1 = 0
    · by_cases g2 : f11 k 2 = 0
      · have hst : own_stop k 1 = 3 := by simp [own_stop, g1, g2]
        refine own_mono (rmSA l Z a0 hw [] (ad0 := B) (kp := kp) (off := off) (len := len) (wh := wh) (ls := own_ls k) (w := w) (tk := own_i 1) h0 n0 Z0 b1 b2 b3 b4 b5 b6 b7 b8 b9 d6 (own_lsA1 g1 g2)) ?_
        rintro _ U _ U' ⟨-, -, hU⟩ ⟨v, L, rfl, ⟨rfl, N, K, e1', e2, e3, e4, e5, e6, e7, e8, e9⟩, hF⟩
        refine ⟨_, L, rfl, ⟨by rw [hst]; rfl, N, K, ?_⟩, hF⟩
        rw [hst]
        exact ⟨off, len, wh, ed, _, kp, nn_, fo, fl, fe, fr, ⟨e1', e2, e3, e4, e5, e6, e7, e8, e9⟩, O.keep K, fun q => absurd q (by decide)⟩
      · have hst : own_stop k 1 = 2 := by simp [own_stop, g1, g2]
        refine own_mono (rmS12 l Z a0 hw [] (ad0 := B) (kp := kp) (off := off) (len := len) (wh := wh) (ls := own_ls k) (w := w) (fl := fl) h0 n0 Z0 b1 b2 b3 b4 b5 b6 b7 b8 b9 d6 c2 d2 (own_lsC k 1 2 (by decide) (by decide) g2) (own_z q 1 (by decide) g1) (own_n q hln 2 (by decide) g2)) ?_
        rintro _ U _ U' ⟨-, -, hU⟩ ⟨v, L, rfl, ⟨rfl, N, K, e1', e2, e3, e4, e5, e6, e7, e8, e9⟩, hF⟩
        refine ⟨_, L, rfl, ⟨by rw [hst]; rfl, N, K, ?_⟩, hF⟩
        rw [hst]
        exact ⟨off, len, wh, ed, _, kp, nn_, fo, fl, fe, fr, ⟨e1', e2, e3, e4, e5, e6, e7, e8, e9⟩, O.keep K, fun _ => by rw [hwt (by decide)]; exact own_wst1 k 1 (by decide) g1⟩
    · have hst : own_stop k 1 = 1 := by simp [own_stop, g1]
      refine own_mono (rmS11 l Z a0 hw [] (ad0 := B) (kp := kp) (off := off) (len := len) (wh := wh) (ls := own_ls k) (w := w) (fl := fl) h0 n0 Z0 b1 b2 b3 b4 b5 b6 b7 b8 b9 d6 c2 d2 (own_lsC k 1 1 (by decide) (by decide) g1) (own_n q hln 1 (by decide) g1)) ?_
      rintro _ U _ U' ⟨-, -, hU⟩ ⟨v, L, rfl, ⟨rfl, N, K, e1', e2, e3, e4, e5, e6, e7, e8, e9⟩, hF⟩
      refine ⟨_, L, rfl, ⟨by rw [hst]; rfl, N, K, ?_⟩, hF⟩
      rw [hst]
      exact ⟨off, len, wh, ed, _, kp, nn_, fo, fl, fe, fr, ⟨e1', e2, e3, e4, e5, e6, e7, e8, e9⟩, O.keep K, fun _ => hwt (by decide)⟩
  · by_cases g2 : f11 k 2 = 0
    · have hst : own_stop k 2 = 3 := by simp [own_stop, g2]
      refine own_mono (rmSA l Z a0 hw [] (ad0 := B) (kp := kp) (off := off) (len := len) (wh := wh) (ls := own_ls k) (w := w) (tk := own_i 2) h0 n0 Z0 b1 b2 b3 b4 b5 b6 b7 b8 b9 d6 (own_lsA2 g2)) ?_
      rintro _ U _ U' ⟨-, -, hU⟩ ⟨v, L, rfl, ⟨rfl, N, K, e1', e2, e3, e4, e5, e6, e7, e8, e9⟩, hF⟩
      refine ⟨_, L, rfl, ⟨by rw [hst]; rfl, N, K, ?_⟩, hF⟩
      rw [hst]
      exact ⟨off, len, wh, ed, _, kp, nn_, fo, fl, fe, fr, ⟨e1', e2, e3, e4, e5, e6, e7, e8, e9⟩, O.keep K, fun q => absurd q (by decide)⟩
    · have hst : own_stop k 2 = 2 := by simp [own_stop, g2]
      refine own_mono (rmS22 l Z a0 hw [] (ad0 := B) (kp := kp) (off := off) (len := len) (wh := wh) (ls := own_ls k) (w := w) (fl := fl) h0 n0 Z0 b1 b2 b3 b4 b5 b6 b7 b8 b9 d6 c2 d2 (own_lsC k 2 2 (by decide) (by decide) g2) (own_n q hln 2 (by decide) g2)) ?_
      rintro _ U _ U' ⟨-, -, hU⟩ ⟨v, L, rfl, ⟨rfl, N, K, e1', e2, e3, e4, e5, e6, e7, e8, e9⟩, hF⟩
      refine ⟨_, L, rfl, ⟨by rw [hst]; rfl, N, K, ?_⟩, hF⟩
      rw [hst]
      exact ⟨off, len, wh, ed, _, kp, nn_, fo, fl, fe, fr, ⟨e1', e2, e3, e4, e5, e6, e7, e8, e9⟩, O.keep K, fun _ => hwt (by decide)⟩
  · have hst : own_stop k 3 = 3 := by simp [own_stop]
    refine own_mono (rmSA l Z a0 hw [] (ad0 := B) (kp := kp) (off := off) (len := len) (wh := wh) (ls := own_ls k) (w := w) (tk := own_i 3) h0 n0 Z0 b1 b2 b3 b4 b5 b6 b7 b8 b9 d6 (own_lsA3 )) ?_
    rintro _ U _ U' ⟨-, -, hU⟩ ⟨v, L, rfl, ⟨rfl, N, K, e1', e2, e3, e4, e5, e6, e7, e8, e9⟩, hF⟩
    refine ⟨_, L, rfl, ⟨by rw [hst]; rfl, N, K, ?_⟩, hF⟩
    rw [hst]
    exact ⟨off, len, wh, ed, _, kp, nn_, fo, fl, fe, fr, ⟨e1', e2, e3, e4, e5, e6, e7, e8, e9⟩, O.keep K, fun q => absurd q (by decide)⟩
theorem own_4 {s : Int32} (h0 : 0 ≤ s.toInt ∧ s.toInt ≤ 3) : s = 0 ∨ s = 1 ∨ s = 2 ∨ s = 3 := by
  have e : ∀ k : Int32, s.toInt = k.toInt → s = k := fun k h => Int32.toInt_inj.mp h
  have : s.toInt = 0 ∨ s.toInt = 1 ∨ s.toInt = 2 ∨ s.toInt = 3 := by omega
  rcases this with h | h | h | h
  · exact Or.inl (e 0 h)
  · exact Or.inr (Or.inl (e 1 h))
  · exact Or.inr (Or.inr (Or.inl (e 2 h)))
  · exact Or.inr (Or.inr (Or.inr (e 3 h)))
theorem own_and3 (a : Int32) : 0 ≤ (a &&& (3 : Int32)).toInt ∧ (a &&& (3 : Int32)).toInt ≤ 3 := c_and a 3 (by decide)
theorem own_max1 (a : Int64) : (0 : Int64) < f1 (1 : Int64) a := by
  unfold f1
  by_cases h : (1 : Int64) < a
  · rw [if_pos h]; rw [Int64.lt_iff_toInt_lt] at h ⊢
    have e0 : (0 : Int64).toInt = 0 := by decide
    have e1 : (1 : Int64).toInt = 1 := by decide
    omega
  · rw [if_neg h]; decide
theorem own_pd16 : parseMethodDescriptor "(JJ[B)V" = some ⟨[.long, .long, (.array .byte)], none⟩ := by decide +kernel
theorem own_pd17 : parseMethodDescriptor "(I)V" = some ⟨[.int], none⟩ := by decide +kernel
theorem own_pd18 : parseMethodDescriptor "()I" = some ⟨[], some .int⟩ := by decide +kernel
theorem own_pd19 : parseMethodDescriptor "()Lcom/example/resync/resync/model/LogEntry;" = some ⟨[], some (.object "com/example/resync/resync/model/LogEntry")⟩ := by decide +kernel
theorem own_pd20 : parseMethodDescriptor "(Ljava/lang/Object;II[Lcom/example/resync/resync/model/LogRecord;JJ)Z" = some ⟨[(.object "java/lang/Object"), .int, .int, (.array (.object own_cR)), .long, .long], some .boolean⟩ := by decide +kernel
theorem own_pd21 : parseMethodDescriptor "(Lcom/example/resync/resync/io/EntryBatch;IILcom/example/resync/resync/model/LogRecord;JJ)V" = some ⟨[(.object own_cE), .int, .int, (.object own_cR), .long, .long], none⟩ := by decide +kernel
theorem ef0 (m : MethodId) (p0 : Int32) (p1 : Int32) (p2 : Int32) (x3 : Int64) (x4 : Int64) : entryFrame m #[(.int p0), (.int p1), (.int p2), (.long x3), (.long x4)] maxLocals = mkF m 0 #[.val (.int p0), .val (.int p1), .val (.int p2), .val (.long x3), .second, .val (.long x4), .second, .unset, .unset, .unset, .unset, .unset, .unset, .unset, .unset, .unset, .unset, .unset] [] := by first | (simp [entryFrame, mkF, argsToLocals, Value.category, maxLocals]; done) | rfl
def Q0 (Z : State) (p0 : Int32) (p1 : Int32) (p2 : Int32) (x3 : Int64) (x4 : Int64) (fz : Nat → Int64) (fd : Nat → Value) (dc : Addr) (nd : Addr) (nent : Addr) (h0 : Heap) (n0 : Nat) (v : Option Value) (h : Heap) (L : List Loc) : Prop := v = some (.int 1) ∧ Fr n0 L ∧ True
set_option maxRecDepth 65536 in
set_option maxHeartbeats 40000000 in
theorem rm0 (l : Launch) (Z : State) (a0 : Array Value) (hw : ∀ d ∈ tables_1, d.before a0 Z = true) (ws : List Jvm.Cond) (p0 : Int32) (p1 : Int32) (p2 : Int32) (x3 : Int64) (x4 : Int64) (fz : Nat → Int64) (fd : Nat → Value) (dc : Addr) (nd : Addr) (nent : Addr) (h0 : Heap) (n0 : Nat) (Z0 : n0 ≤ h0.size) (S_DEFAULTCAPACITY_EMPTY_ELEMENTDATA : Sta Z h0 own_cL "DEFAULTCAPACITY_EMPTY_ELEMENTDATA" own_cA (.ref dc)) (S_NO_DATA : Sta Z h0 own_cE "NO_DATA" "[B" (.ref nd)) (S_NO_ENTRIES : Sta Z h0 own_cE "NO_ENTRIES" "[J" (.ref nent)) (V_nent : own_AV Value.long Z h0 nent .long 0 fz) (V_dc : own_AV id Z h0 dc (.object "java/lang/Object") 0 fd) :
    MetFree l x (head1 (Jvm.Cond.code x code maxLocals ret :: ws) room_1) (fun a U => a = #[(.int p0), (.int p1), (.int p2), (.long x3), (.long x4)] ∧ Z.Warmed39 U.vm ∧ U.heap = h0) (fun _ _ _ _ _ => True) (fun _ U o U' => ∃ v L, o = .returned v ∧ Q0 Z p0 p1 p2 x3 x4 fz fd dc nd nent h0 n0 v U'.heap L ∧ FrameEnd U o U' L room_1.cells room_1.slots) := by
  refine MetFree.of_bodySF (plainFor_of_name own_pn0) hisR ?_
  intro p e s m args below meth c s₁ Bd hml0 hP hK
  obtain ⟨rfl, hZ, hh⟩ := hP
  have hx := Bd.exec
  have hby := Bd.bytes
  have hml : c.maxLocals = 18 := hml0
  have hown : s.vm.findClass own_cW = some m.cls := findClass_of_methodNamed Bd.named
  have hnm := (name_of_methodNamed Bd.named Bd.method).1
  have hlk : meth.locks = false := BodyLoose.notSynchronized Bd
  have X0 : Stand p l e room_1 s m #[(.int p0), (.int p1), (.int p2), (.long x3), (.long x4)] below meth c s₁ [] 0 0 := Stand.of_body Bd
  have e0 : s₁.heap = h0 := by rw [← hh, Bd.state]; rfl
  have N0 := Fr.nil n0
  obtain ⟨G, hG⟩ : ∃ G, G = own_G s (Q0 Z p0 p1 p2 x3 x4 fz fd dc nd nent h0 n0) room_1.cells room_1.slots := ⟨_, rfl⟩
  show own_Fin p e below (own_G s (Q0 Z p0 p1 p2 x3 x4 fz fd dc nd nent h0 n0) room_1.cells room_1.slots) (s₁.setTop (entryFrame m #[(.int p0), (.int p1), (.int p2), (.long x3), (.long x4)] maxLocals))
  rw [← hG]
  refine own_to (fun _ kz => castTop (ef0 m p0 p1 p2 x3 x4) kz) ?_
  show own_Fin p e below G (s₁.setTop (mkF m 0 #[.val (.int p0), .val (.int p1), .val (.int p2), .val (.long x3), .second, .val (.long x4), .second, .unset, .unset, .unset, .unset, .unset, .unset, .unset, .unset, .unset, .unset, .unset] []))
  refine own_iloadN X0 hx (hb hby at_0) rfl ?_
  refine own_to (fun _ kz => XS.bipush X0.here hx rfl (hb hby at_1) kz) ?_
  show own_Fin p e below G (s₁.setTop (mkF m 3 #[.val (.int p0), .val (.int p1), .val (.int p2), .val (.long x3), .second, .val (.long x4), .second, .unset, .unset, .unset, .unset, .unset, .unset, .unset, .unset, .unset, .unset, .unset] [(.int (7 : Int32)), (.int p1)]))
  refine own_to (fun _ kz => XS.iand X0.here hx rfl (hb hby at_3) rfl kz) ?_
  show own_Fin p e below G (s₁.setTop (mkF m 4 #[.val (.int p0), .val (.int p1), .val (.int p2), .val (.long x3), .second, .val (.long x4), .second, .unset, .unset, .unset, .unset, .unset, .unset, .unset, .unset, .unset, .unset, .unset] [(.int (p1 &&& (7 : Int32)))]))
  refine own_to (fun _ kz => XS.istore X0.here hx rfl (hb hby at_4) rfl (l' := #[.val (.int p0), .val (.int p1), .val (.int p2), .val (.long x3), .second, .val (.long x4), .second, .val (.int (p1 &&& (7 : Int32))), .unset, .unset, .unset, .unset, .unset, .unset, .unset, .unset, .unset, .unset]) rfl kz) ?_
  show own_Fin p e below G (s₁.setTop (mkF m 6 #[.val (.int p0), .val (.int p1), .val (.int p2), .val (.long x3), .second, .val (.long x4), .second, .val (.int (p1 &&& (7 : Int32))), .unset, .unset, .unset, .unset, .unset, .unset, .unset, .unset, .unset, .unset] []))
  refine own_iloadN X0 hx (hb hby at_6) rfl ?_
  refine own_iconst X0 hx (3) (hb hby at_7) rfl ?_
  refine own_to (fun _ kz => XS.iand X0.here hx rfl (hb hby at_8) rfl kz) ?_
  show own_Fin p e below G (s₁.setTop (mkF m 9 #[.val (.int p0), .val (.int p1), .val (.int p2), .val (.long x3), .second, .val (.long x4), .second, .val (.int (p1 &&& (7 : Int32))), .unset, .unset, .unset, .unset, .unset, .unset, .unset, .unset, .unset, .unset] [(.int (p2 &&& (3 : Int32)))]))
  refine own_to (fun _ kz => XS.istore X0.here hx rfl (hb hby at_9) rfl (l' := #[.val (.int p0), .val (.int p1), .val (.int p2), .val (.long x3), .second, .val (.long x4), .second, .val (.int (p1 &&& (7 : Int32))), .val (.int (p2 &&& (3 : Int32))), .unset, .unset, .unset, .unset, .unset, .unset, .unset, .unset, .unset]) rfl kz) ?_
  show own_Fin p e below G (s₁.setTop (mkF m 11 #[.val (.int p0), .val (.int p1), .val (.int p2), .val (.long x3), .second, .val (.long x4), .second, .val (.int (p1 &&& (7 : Int32))), .val (.int (p2 &&& (3 : Int32))), .unset, .unset, .unset, .unset, .unset, .unset, .unset, .unset, .unset] []))
  refine own_to (fun _ kz => XS.lconst X0.here hx rfl (hb hby at_11) kz) ?_
  show own_Fin p e below G (s₁.setTop (mkF m 12 #[.val (.int p0), .val (.int p1), .val (.int p2), .val (.long x3), .second, .val (.long x4), .second, .val (.int (p1 &&& (7 : Int32))), .val (.int (p2 &&& (3 : Int32))), .unset, .unset, .unset, .unset, .unset, .unset, .unset, .unset, .unset] [(.long (1 : Int64))]))
  refine own_lload X0 hx (hb hby at_12) rfl ?_
  refine own_to (fun _ kz => X0.ldc2Long hx hown (mvT hZ (own_w hw 0 rfl)) (g := (mkF m 14 #[.val (.int p0), .val (.int p1), .val (.int p2), .val (.long x3), .second, .val (.long x4), .second, .val (.int (p1 &&& (7 : Int32))), .val (.int (p2 &&& (3 : Int32))), .unset, .unset, .unset, .unset, .unset, .unset, .unset, .unset, .unset] [(.long x4), (.long (1 : Int64))])) rfl (hb hby at_14) _ kz) ?_
  show own_Fin p e below G (s₁.setTop (mkF m 17 #[.val (.int p0), .val (.int p1), .val (.int p2), .val (.long x3), .second, .val (.long x4), .second, .val (.int (p1 &&& (7 : Int32))), .val (.int (p2 &&& (3 : Int32))), .unset, .unset, .unset, .unset, .unset, .unset, .unset, .unset, .unset] [(.long (9223372036854775807 : Int64)), (.long x4), (.long (1 : Int64))]))
  refine own_to (fun _ kz => XS.land X0.here hx rfl (hb hby at_17) rfl kz) ?_
  show own_Fin p e below G (s₁.setTop (mkF m 18 #[.val (.int p0), .val (.int p1), .val (.int p2), .val (.long x3), .second, .val (.long x4), .second, .val (.int (p1 &&& (7 : Int32))), .val (.int (p2 &&& (3 : Int32))), .unset, .unset, .unset, .unset, .unset, .unset, .unset, .unset, .unset] [(.long (x4 &&& (9223372036854775807 : Int64))), (.long (1 : Int64))]))
  obtain ⟨_, _, ⟨T18, L18, k18, n18⟩, -, X18, ⟨Lc18, hQ18, l18, y18, z18⟩, st18⟩ := Jvm.LawKit.callS X0 hx (y := own_y1) hown (mvT hZ (own_w hw 1 rfl)) (mvT hZ (own_w hw 2 rfl)) (mvT hZ (own_w hw 3 rfl)) (mvT hZ (own_w hw 4 rfl)) (by decide) (backOf (W := 0) (rm1 l Z a0 hw [] (1 : Int64) (x4 &&& (9223372036854775807 : Int64)) h0 n0 Z0) hZ (own_w hw 4 rfl) (own_w hw 3 rfl) (by decide) (by decide)) (g := (mkF m 18 #[.val (.int p0), .val (.int p1), .val (.int p2), .val (.long x3), .second, .val (.long x4), .second, .val (.int (p1 &&& (7 : Int32))), .val (.int (p2 &&& (3 : Int32))), .unset, .unset, .unset, .unset, .unset, .unset, .unset, .unset, .unset] [(.long (x4 &&& (9223372036854775807 : Int64))), (.long (1 : Int64))])) rfl (by rw [hml]; rfl) (argsL := [(.long (1 : Int64)), (.long (x4 &&& (9223372036854775807 : Int64)))]) (rest := []) (lenOf own_pd2 rfl) rfl (by show 2 * 0 + _ ≤ _; exact Nat.le_of_eq rfl) (hb hby at_18) (fun _ _ => ⟨rfl, e0, (by decide : 0 + 0 ≤ _), (by decide : 0 + 0 ≤ _)⟩)
  dsimp only [Pt.U, Pt.locs, Pt.cells, Pt.slots] at X18 l18 y18 z18 st18 hQ18
  subst l18 y18 z18
  obtain ⟨rfl, N18q, e18⟩ := hQ18
  obtain ⟨lo18, X18, N18⟩ : ∃ lo, Stand p l e _ s m _ below meth c T18 lo _ _ ∧ Fr n0 lo := ⟨_, X18, Fr.app N0 N18q⟩
  refine own_to st18 ?_
  show own_Fin p e below G (T18.setTop (mkF m 21 #[.val (.int p0), .val (.int p1), .val (.int p2), .val (.long x3), .second, .val (.long x4), .second, .val (.int (p1 &&& (7 : Int32))), .val (.int (p2 &&& (3 : Int32))), .unset, .unset, .unset, .unset, .unset, .unset, .unset, .unset, .unset] [(.long (f1 (1 : Int64) (x4 &&& (9223372036854775807 : Int64))))]))
  refine own_to (fun _ kz => XS.lstore X18.here hx rfl (hb hby at_21) rfl (l' := #[.val (.int p0), .val (.int p1), .val (.int p2), .val (.long x3), .second, .val (.long x4), .second, .val (.int (p1 &&& (7 : Int32))), .val (.int (p2 &&& (3 : Int32))), .val (.long (f1 (1 : Int64) (x4 &&& (9223372036854775807 : Int64)))), .second, .unset, .unset, .unset, .unset, .unset, .unset, .unset]) rfl kz) ?_
  show own_Fin p e below G (T18.setTop (mkF m 23 #[.val (.int p0), .val (.int p1), .val (.int p2), .val (.long x3), .second, .val (.long x4), .second, .val (.int (p1 &&& (7 : Int32))), .val (.int (p2 &&& (3 : Int32))), .val (.long (f1 (1 : Int64) (x4 &&& (9223372036854775807 : Int64)))), .second, .unset, .unset, .unset, .unset, .unset, .unset, .unset] []))
  have K23 : ∀ (v7_23 : Int32) (v8_23 : Int32) (w9_23 : Int64) (jh0_23 : 0 ≤ v8_23.toInt ∧ v8_23.toInt ≤ 3) (jh1_23 : (0 : Int64) < w9_23), own_Fin p e below G (T18.setTop (mkF m 23 #[.val (.int p0), .val (.int p1), .val (.int p2), .val (.long x3), .second, .val (.long x4), .second, .val (.int v7_23), .val (.int v8_23), .val (.long w9_23), .second, .unset, .unset, .unset, .unset, .unset, .unset, .unset] [])) := by
    intro v7_23 v8_23 w9_23 jh0_23 jh1_23
    refine own_iconst X18 hx (0) (hb hby at_23) rfl ?_
    obtain ⟨T24, h24, k24, X24, e24, E24, A24, st24⟩ := newP X18 hx hZ (own_w hw 5 rfl) e18 (g := (mkF m 24 #[.val (.int p0), .val (.int p1), .val (.int p2), .val (.long x3), .second, .val (.long x4), .second, .val (.int v7_23), .val (.int v8_23), .val (.long w9_23), .second, .unset, .unset, .unset, .unset, .unset, .unset, .unset] [(.int (0 : Int32))])) rfl (hb hby at_24) rfl (by decide) (cap := 0) (by decide) (by decide) (by decide) (by decide)
    obtain ⟨b24, g24⟩ : ∃ z, z = h0.size := ⟨_, rfl⟩
    rw [← g24] at A24 st24
    refine own_to st24 ?_
    have ne_nent_b24 := Nat.ne_of_lt (Nat.lt_of_lt_of_le V_nent.lt (Nat.le_of_eq g24.symm))
    have ne_dc_b24 := Nat.ne_of_lt (Nat.lt_of_lt_of_le V_dc.lt (Nat.le_of_eq g24.symm))
    have g_b24 : n0 ≤ b24 := Nat.le_trans Z0 (Nat.le_of_eq g24.symm)
    have V24 : own_AV Value.int Z h24 b24 .byte 0 (fun _ => (0 : Int32)) := own_AV.new A24 (by decide) (by decide) (fun _ => rfl)
    show own_Fin p e below G (T24.setTop (mkF m 26 #[.val (.int p0), .val (.int p1), .val (.int p2), .val (.long x3), .second, .val (.long x4), .second, .val (.int v7_23), .val (.int v8_23), .val (.long w9_23), .second, .unset, .unset, .unset, .unset, .unset, .unset, .unset] [(.ref b24)]))
    refine own_to (fun _ kz => XS.astore X24.here hx rfl (hb hby at_26) rfl (rfl) (l' := #[.val (.int p0), .val (.int p1), .val (.int p2), .val (.long x3), .second, .val (.long x4), .second, .val (.int v7_23), .val (.int v8_23), .val (.long w9_23), .second, .val (.ref b24), .unset, .unset, .unset, .unset, .unset, .unset]) rfl kz) ?_
    show own_Fin p e below G (T24.setTop (mkF m 28 #[.val (.int p0), .val (.int p1), .val (.int p2), .val (.long x3), .second, .val (.long x4), .second, .val (.int v7_23), .val (.int v8_23), .val (.long w9_23), .second, .val (.ref b24), .unset, .unset, .unset, .unset, .unset, .unset] []))
    refine own_iconst X24 hx (3) (hb hby at_28) rfl ?_
    have Zz_29_E24 := Nat.le_trans Z0 E24.1
    have Z_29 : n0 ≤ h24.size := Zz_29_E24
    obtain ⟨T29, h29, k29, X29, e29, E29, A29, O29, st29⟩ := newR X24 hx hZ hown (own_w hw 6 rfl) (own_w hw 7 rfl) e24 (g := (mkF m 29 #[.val (.int p0), .val (.int p1), .val (.int p2), .val (.long x3), .second, .val (.long x4), .second, .val (.int v7_23), .val (.int v8_23), .val (.long w9_23), .second, .val (.ref b24), .unset, .unset, .unset, .unset, .unset, .unset] [(.int (3 : Int32))])) rfl (hb hby at_29) (n := (3 : Int32)) rfl (by decide) (cap := 3) (by decide) (by decide) (by decide) (by decide)
    obtain ⟨b29, g29⟩ : ∃ z, z = h24.size := ⟨_, rfl⟩
    rw [← g29] at A29 st29
    refine own_to st29 ?_
    have ne_nent_b29 := Nat.ne_of_lt (Nat.lt_of_lt_of_le (V_nent.ext E24).lt (Nat.le_of_eq g29.symm))
    have ne_dc_b29 := Nat.ne_of_lt (Nat.lt_of_lt_of_le (V_dc.ext E24).lt (Nat.le_of_eq g29.symm))
    have ne_b24_b29 := Nat.ne_of_lt (Nat.lt_of_lt_of_le V24.lt (Nat.le_of_eq g29.symm))
    have g_b29 : n0 ≤ b29 := Nat.le_trans Z_29 (Nat.le_of_eq g29.symm)
    have V29 : own_RV Z h29 b29 own_cR 3 (fun _ => Value.null) := own_RV.new A29 O29 (by decide) (by decide)
    show own_Fin p e below G (T29.setTop (mkF m 32 #[.val (.int p0), .val (.int p1), .val (.int p2), .val (.long x3), .second, .val (.long x4), .second, .val (.int v7_23), .val (.int v8_23), .val (.long w9_23), .second, .val (.ref b24), .unset, .unset, .unset, .unset, .unset, .unset] [(.ref b29)]))
    refine own_to (fun _ kz => XS.astore X29.here hx rfl (hb hby at_32) rfl (rfl) (l' := #[.val (.int p0), .val (.int p1), .val (.int p2), .val (.long x3), .second, .val (.long x4), .second, .val (.int v7_23), .val (.int v8_23), .val (.long w9_23), .second, .val (.ref b24), .val (.ref b29), .unset, .unset, .unset, .unset, .unset]) rfl kz) ?_
    show own_Fin p e below G (T29.setTop (mkF m 34 #[.val (.int p0), .val (.int p1), .val (.int p2), .val (.long x3), .second, .val (.long x4), .second, .val (.int v7_23), .val (.int v8_23), .val (.long w9_23), .second, .val (.ref b24), .val (.ref b29), .unset, .unset, .unset, .unset, .unset] []))
    refine own_aload X29 hx (hb hby at_34) rfl (rfl) ?_
    refine own_iconst X29 hx (0) (hb hby at_36) rfl ?_
    have Zz_37_E29 := Nat.le_trans Z_29 E29.1
    have Z_37 : n0 ≤ h29.size := Zz_37_E29
    obtain ⟨T37, h37, X37, e37, E37, A37, D37, -, st37⟩ := newO X29 hx hZ hown (own_w hw 6 rfl) (own_w hw 8 rfl) (own_w hw 9 rfl) e29 (g := (mkF m 37 #[.val (.int p0), .val (.int p1), .val (.int p2), .val (.long x3), .second, .val (.long x4), .second, .val (.int v7_23), .val (.int v8_23), .val (.long w9_23), .second, .val (.ref b24), .val (.ref b29), .unset, .unset, .unset, .unset, .unset] [(.int (0 : Int32)), (.ref b29)])) rfl (hb hby at_37) (by decide) (by decide)
    obtain ⟨b37, g37⟩ : ∃ z, z = h29.size := ⟨_, rfl⟩
    rw [← g37] at A37 D37 st37
    refine own_to st37 ?_
    have ne_nent_b37 := Nat.ne_of_lt (Nat.lt_of_lt_of_le ((V_nent.ext E24).ext E29).lt (Nat.le_of_eq g37.symm))
    have ne_dc_b37 := Nat.ne_of_lt (Nat.lt_of_lt_of_le ((V_dc.ext E24).ext E29).lt (Nat.le_of_eq g37.symm))
    have ne_b24_b37 := Nat.ne_of_lt (Nat.lt_of_lt_of_le (V24.ext E29).lt (Nat.le_of_eq g37.symm))
    have ne_b29_b37 := Nat.ne_of_lt (Nat.lt_of_lt_of_le V29.lt (Nat.le_of_eq g37.symm))
    have g_b37 : n0 ≤ b37 := Nat.le_trans Z_37 (Nat.le_of_eq g37.symm)
    have F_offset_b37 : Fld Z h37 b37 own_cR "offset" "J" (.long (0 : Int64)) := D37 (Or.inr (own_w hw 22 rfl)) (ty := .long) (by decide)
    have F_generation_b37 : Fld Z h37 b37 own_cR "generation" "J" (.long (0 : Int64)) := D37 (Or.inr (own_w hw 24 rfl)) (ty := .long) (by decide)
    have F_payload_b37 : Fld Z h37 b37 own_cR "payload" "[B" .null := D37 (Or.inr (own_w hw 26 rfl)) (ty := (.array .byte)) (by decide)
    show own_Fin p e below G (T37.setTop (mkF m 40 #[.val (.int p0), .val (.int p1), .val (.int p2), .val (.long x3), .second, .val (.long x4), .second, .val (.int v7_23), .val (.int v8_23), .val (.long w9_23), .second, .val (.ref b24), .val (.ref b29), .unset, .unset, .unset, .unset, .unset] [(.ref b37), (.int (0 : Int32)), (.ref b29)]))
    refine own_dup X37 hx (hb hby at_40) rfl ?_
    refine own_to (fun _ kz => XS.lconst X37.here hx rfl (hb hby at_41) kz) ?_
    show own_Fin p e below G (T37.setTop (mkF m 42 #[.val (.int p0), .val (.int p1), .val (.int p2), .val (.long x3), .second, .val (.long x4), .second, .val (.int v7_23), .val (.int v8_23), .val (.long w9_23), .second, .val (.ref b24), .val (.ref b29), .unset, .unset, .unset, .unset, .unset] [(.long (0 : Int64)), (.ref b37), (.ref b37), (.int (0 : Int32)), (.ref b29)]))
    refine own_to (fun _ kz => XS.lconst X37.here hx rfl (hb hby at_42) kz) ?_
    show own_Fin p e below G (T37.setTop (mkF m 43 #[.val (.int p0), .val (.int p1), .val (.int p2), .val (.long x3), .second, .val (.long x4), .second, .val (.int v7_23), .val (.int v8_23), .val (.long w9_23), .second, .val (.ref b24), .val (.ref b29), .unset, .unset, .unset, .unset, .unset] [(.long (0 : Int64)), (.long (0 : Int64)), (.ref b37), (.ref b37), (.int (0 : Int32)), (.ref b29)]))
    refine own_aload X37 hx (hb hby at_43) rfl (rfl) ?_
    have Zz_45_E37 := Nat.le_trans Z_37 E37.1
    have Z_45 : n0 ≤ h37.size := Zz_45_E37
    obtain ⟨_, _, ⟨T45, L45, k45, n45⟩, -, X45, ⟨Lc45, hQ45, l45, y45, z45⟩, st45⟩ := X37.specialBack hx (y := own_y2) rfl hown (mvT hZ (own_w hw 10 rfl)) (mvT hZ (own_w hw 11 rfl)) (mvT hZ (own_w hw 12 rfl)) (by decide) (backOf (W := 3) (rm2 l Z a0 hw [] b37 (0 : Int64) (0 : Int64) b24 h37 n0 Z_45 A37 F_offset_b37 F_generation_b37 F_payload_b37 g_b37) hZ (own_w hw 12 rfl) (own_w hw 9 rfl) (by decide) (by decide)) (g := (mkF m 45 #[.val (.int p0), .val (.int p1), .val (.int p2), .val (.long x3), .second, .val (.long x4), .second, .val (.int v7_23), .val (.int v8_23), .val (.long w9_23), .second, .val (.ref b24), .val (.ref b29), .unset, .unset, .unset, .unset, .unset] [(.ref b24), (.long (0 : Int64)), (.long (0 : Int64)), (.ref b37), (.ref b37), (.int (0 : Int32)), (.ref b29)])) rfl (by rw [hml]; rfl) (Steps.refl _) (a := b37) (argsL := [(.long (0 : Int64)), (.long (0 : Int64)), (.ref b24)]) (rest := [(.ref b37), (.int (0 : Int32)), (.ref b29)]) (lenOf own_pd16 rfl) rfl (by show 2 * 0 + _ ≤ _; exact Nat.le_of_eq rfl) (hb hby at_45) (fun _ _ => ⟨rfl, e37, (by decide : 3 + 0 ≤ _), (by decide : 6 + 0 ≤ _)⟩)
    dsimp only [Pt.U, Pt.locs, Pt.cells, Pt.slots] at X45 l45 y45 z45 st45 hQ45
    subst l45 y45 z45
    obtain ⟨rfl, N45q, Kp45, P45_0, P45_1, P45_2, P45_3⟩ := hQ45
    obtain ⟨lo45, X45, N45⟩ : ∃ lo, Stand p l e _ s m _ below meth c T45 lo _ _ ∧ Fr n0 lo := ⟨_, X45, Fr.app N18 N45q⟩
    refine own_via st45 ?_
    show own_Fin p e below G (T45.setTop (mkF m 48 #[.val (.int p0), .val (.int p1), .val (.int p2), .val (.long x3), .second, .val (.long x4), .second, .val (.int v7_23), .val (.int v8_23), .val (.long w9_23), .second, .val (.ref b24), .val (.ref b29), .unset, .unset, .unset, .unset, .unset] [(.ref b37), (.int (0 : Int32)), (.ref b29)]))
    have V29_at_48 := ((V29.ext E37).keep Kp45 (ninS ne_b29_b37 nin0))
    obtain ⟨nn48, cl48, Ar48, Ov48, Sz48, Hs48⟩ := V29_at_48
    obtain ⟨T48, h48, X48, e48, W48, st48⟩ := stR X45 hx hZ rfl Ar48 (j := (0 : Int32)) (own_in Sz48 (by decide) rfl (by decide)) rfl (Sto.of Ar48 Ov48 (Ins.self P45_0)) (g := (mkF m 48 #[.val (.int p0), .val (.int p1), .val (.int p2), .val (.long x3), .second, .val (.long x4), .second, .val (.int v7_23), .val (.int v8_23), .val (.long w9_23), .second, .val (.ref b24), .val (.ref b29), .unset, .unset, .unset, .unset, .unset] [(.ref b37), (.int (0 : Int32)), (.ref b29)])) rfl rfl (hb hby at_48)
    refine own_to st48 ?_
    have V48 : own_RV Z h48 b29 own_cR 3 (own_upd (fun _ => Value.null) 0 (.ref b37)) := own_RV.set nn48 Ar48 Ov48 Sz48 Hs48 W48 rfl
    obtain ⟨lo48, X48, N48⟩ : ∃ lo, Stand p l e _ s m _ below meth c T48 lo _ _ ∧ Fr n0 lo := ⟨_, X48, Fr.snoc X48 N45 g_b29⟩
    show own_Fin p e below G (T48.setTop (mkF m 49 #[.val (.int p0), .val (.int p1), .val (.int p2), .val (.long x3), .second, .val (.long x4), .second, .val (.int v7_23), .val (.int v8_23), .val (.long w9_23), .second, .val (.ref b24), .val (.ref b29), .unset, .unset, .unset, .unset, .unset] []))
    refine own_aload X48 hx (hb hby at_49) rfl (rfl) ?_
    refine own_iconst X48 hx (1) (hb hby at_51) rfl ?_
    have Zz_52_Kp45 := Nat.le_trans Z_45 Kp45.1
    have Zz_52_W48 := Nat.le_trans Zz_52_Kp45 (Nat.le_of_eq (Wr.size W48).symm)
    have Z_52 : n0 ≤ h48.size := Zz_52_W48
    obtain ⟨T52, h52, X52, e52, E52, A52, D52, -, st52⟩ := newO X48 hx hZ hown (own_w hw 6 rfl) (own_w hw 8 rfl) (own_w hw 9 rfl) e48 (g := (mkF m 52 #[.val (.int p0), .val (.int p1), .val (.int p2), .val (.long x3), .second, .val (.long x4), .second, .val (.int v7_23), .val (.int v8_23), .val (.long w9_23), .second, .val (.ref b24), .val (.ref b29), .unset, .unset, .unset, .unset, .unset] [(.int (1 : Int32)), (.ref b29)])) rfl (hb hby at_52) (by decide) (by decide)
    obtain ⟨b52, g52⟩ : ∃ z, z = h48.size := ⟨_, rfl⟩
    rw [← g52] at A52 D52 st52
    refine own_to st52 ?_
    have ne_nent_b52 := Nat.ne_of_lt (Nat.lt_of_lt_of_le (((((V_nent.ext E24).ext E29).ext E37).keep Kp45 (ninS ne_nent_b37 nin0)).other W48 ne_nent_b29).lt (Nat.le_of_eq g52.symm))
    have ne_dc_b52 := Nat.ne_of_lt (Nat.lt_of_lt_of_le (((((V_dc.ext E24).ext E29).ext E37).keep Kp45 (ninS ne_dc_b37 nin0)).other W48 ne_dc_b29).lt (Nat.le_of_eq g52.symm))
    have ne_b24_b52 := Nat.ne_of_lt (Nat.lt_of_lt_of_le ((((V24.ext E29).ext E37).keep Kp45 (ninS ne_b24_b37 nin0)).other W48 ne_b24_b29).lt (Nat.le_of_eq g52.symm))
    have ne_b29_b52 := Nat.ne_of_lt (Nat.lt_of_lt_of_le V48.lt (Nat.le_of_eq g52.symm))
    have ne_b37_b52 := Nat.ne_of_lt (Nat.lt_of_lt_of_le (P45_0.wr W48).lt (Nat.le_of_eq g52.symm))
    have g_b52 : n0 ≤ b52 := Nat.le_trans Z_52 (Nat.le_of_eq g52.symm)
    have F_offset_b52 : Fld Z h52 b52 own_cR "offset" "J" (.long (0 : Int64)) := D52 (Or.inr (own_w hw 22 rfl)) (ty := .long) (by decide)
    have F_generation_b52 : Fld Z h52 b52 own_cR "generation" "J" (.long (0 : Int64)) := D52 (Or.inr (own_w hw 24 rfl)) (ty := .long) (by decide)
    have F_payload_b52 : Fld Z h52 b52 own_cR "payload" "[B" .null := D52 (Or.inr (own_w hw 26 rfl)) (ty := (.array .byte)) (by decide)
    show own_Fin p e below G (T52.setTop (mkF m 55 #[.val (.int p0), .val (.int p1), .val (.int p2), .val (.long x3), .second, .val (.long x4), .second, .val (.int v7_23), .val (.int v8_23), .val (.long w9_23), .second, .val (.ref b24), .val (.ref b29), .unset, .unset, .unset, .unset, .unset] [(.ref b52), (.int (1 : Int32)), (.ref b29)]))
    refine own_dup X52 hx (hb hby at_55) rfl ?_
    refine own_to (fun _ kz => XS.lconst X52.here hx rfl (hb hby at_56) kz) ?_
    show own_Fin p e below G (T52.setTop (mkF m 57 #[.val (.int p0), .val (.int p1), .val (.int p2), .val (.long x3), .second, .val (.long x4), .second, .val (.int v7_23), .val (.int v8_23), .val (.long w9_23), .second, .val (.ref b24), .val (.ref b29), .unset, .unset, .unset, .unset, .unset] [(.long (1 : Int64)), (.ref b52), (.ref b52), (.int (1 : Int32)), (.ref b29)]))
    refine own_to (fun _ kz => XS.lconst X52.here hx rfl (hb hby at_57) kz) ?_
    show own_Fin p e below G (T52.setTop (mkF m 58 #[.val (.int p0), .val (.int p1), .val (.int p2), .val (.long x3), .second, .val (.long x4), .second, .val (.int v7_23), .val (.int v8_23), .val (.long w9_23), .second, .val (.ref b24), .val (.ref b29), .unset, .unset, .unset, .unset, .unset] [(.long (0 : Int64)), (.long (1 : Int64)), (.ref b52), (.ref b52), (.int (1 : Int32)), (.ref b29)]))
    refine own_aload X52 hx (hb hby at_58) rfl (rfl) ?_
    have Zz_60_E52 := Nat.le_trans Z_52 E52.1
    have Z_60 : n0 ≤ h52.size := Zz_60_E52
    obtain ⟨_, _, ⟨T60, L60, k60, n60⟩, -, X60, ⟨Lc60, hQ60, l60, y60, z60⟩, st60⟩ := X52.specialBack hx (y := own_y2) rfl hown (mvT hZ (own_w hw 10 rfl)) (mvT hZ (own_w hw 11 rfl)) (mvT hZ (own_w hw 12 rfl)) (by decide) (backOf (W := 3) (rm2 l Z a0 hw [] b52 (1 : Int64) (0 : Int64) b24 h52 n0 Z_60 A52 F_offset_b52 F_generation_b52 F_payload_b52 g_b52) hZ (own_w hw 12 rfl) (own_w hw 9 rfl) (by decide) (by decide)) (g := (mkF m 60 #[.val (.int p0), .val (.int p1), .val (.int p2), .val (.long x3), .second, .val (.long x4), .second, .val (.int v7_23), .val (.int v8_23), .val (.long w9_23), .second, .val (.ref b24), .val (.ref b29), .unset, .unset, .unset, .unset, .unset] [(.ref b24), (.long (0 : Int64)), (.long (1 : Int64)), (.ref b52), (.ref b52), (.int (1 : Int32)), (.ref b29)])) rfl (by rw [hml]; rfl) (Steps.refl _) (a := b52) (argsL := [(.long (1 : Int64)), (.long (0 : Int64)), (.ref b24)]) (rest := [(.ref b52), (.int (1 : Int32)), (.ref b29)]) (lenOf own_pd16 rfl) rfl (by show 2 * 0 + _ ≤ _; exact Nat.le_of_eq rfl) (hb hby at_60) (fun _ _ => ⟨rfl, e52, (by decide : 4 + 0 ≤ _), (by decide : 9 + 0 ≤ _)⟩)
    dsimp only [Pt.U, Pt.locs, Pt.cells, Pt.slots] at X60 l60 y60 z60 st60 hQ60
    subst l60 y60 z60
    obtain ⟨rfl, N60q, Kp60, P60_0, P60_1, P60_2, P60_3⟩ := hQ60
    obtain ⟨lo60, X60, N60⟩ : ∃ lo, Stand p l e _ s m _ below meth c T60 lo _ _ ∧ Fr n0 lo := ⟨_, X60, Fr.app N48 N60q⟩
    refine own_via st60 ?_
    show own_Fin p e below G (T60.setTop (mkF m 63 #[.val (.int p0), .val (.int p1), .val (.int p2), .val (.long x3), .second, .val (.long x4), .second, .val (.int v7_23), .val (.int v8_23), .val (.long w9_23), .second, .val (.ref b24), .val (.ref b29), .unset, .unset, .unset, .unset, .unset] [(.ref b52), (.int (1 : Int32)), (.ref b29)]))
    have V48_at_63 := ((V48.ext E52).keep Kp60 (ninS ne_b29_b52 nin0))
    obtain ⟨nn63, cl63, Ar63, Ov63, Sz63, Hs63⟩ := V48_at_63
    obtain ⟨T63, h63, X63, e63, W63, st63⟩ := stR X60 hx hZ rfl Ar63 (j := (1 : Int32)) (own_in Sz63 (by decide) rfl (by decide)) rfl (Sto.of Ar63 Ov63 (Ins.self P60_0)) (g := (mkF m 63 #[.val (.int p0), .val (.int p1), .val (.int p2), .val (.long x3), .second, .val (.long x4), .second, .val (.int v7_23), .val (.int v8_23), .val (.long w9_23), .second, .val (.ref b24), .val (.ref b29), .unset, .unset, .unset, .unset, .unset] [(.ref b52), (.int (1 : Int32)), (.ref b29)])) rfl rfl (hb hby at_63)
    refine own_to st63 ?_
    have V63 : own_RV Z h63 b29 own_cR 3 (own_upd (own_upd (fun _ => Value.null) 0 (.ref b37)) 1 (.ref b52)) := own_RV.set nn63 Ar63 Ov63 Sz63 Hs63 W63 rfl
    obtain ⟨lo63, X63, N63⟩ : ∃ lo, Stand p l e _ s m _ below meth c T63 lo _ _ ∧ Fr n0 lo := ⟨_, X63, Fr.snoc X63 N60 g_b29⟩
    show own_Fin p e below G (T63.setTop (mkF m 64 #[.val (.int p0), .val (.int p1), .val (.int p2), .val (.long x3), .second, .val (.long x4), .second, .val (.int v7_23), .val (.int v8_23), .val (.long w9_23), .second, .val (.ref b24), .val (.ref b29), .unset, .unset, .unset, .unset, .unset] []))
    refine own_aload X63 hx (hb hby at_64) rfl (rfl) ?_
    refine own_iconst X63 hx (2) (hb hby at_66) rfl ?_
    have Zz_67_Kp60 := Nat.le_trans Z_60 Kp60.1
    have Zz_67_W63 := Nat.le_trans Zz_67_Kp60 (Nat.le_of_eq (Wr.size W63).symm)
    have Z_67 : n0 ≤ h63.size := Zz_67_W63
    obtain ⟨T67, h67, X67, e67, E67, A67, D67, -, st67⟩ := newO X63 hx hZ hown (own_w hw 6 rfl) (own_w hw 8 rfl) (own_w hw 9 rfl) e63 (g := (mkF m 67 #[.val (.int p0), .val (.int p1), .val (.int p2), .val (.long x3), .second, .val (.long x4), .second, .val (.int v7_23), .val (.int v8_23), .val (.long w9_23), .second, .val (.ref b24), .val (.ref b29), .unset, .unset, .unset, .unset, .unset] [(.int (2 : Int32)), (.ref b29)])) rfl (hb hby at_67) (by decide) (by decide)
    obtain ⟨b67, g67⟩ : ∃ z, z = h63.size := ⟨_, rfl⟩
    rw [← g67] at A67 D67 st67
    refine own_to st67 ?_
    have ne_nent_b67 := Nat.ne_of_lt (Nat.lt_of_lt_of_le ((((((((V_nent.ext E24).ext E29).ext E37).keep Kp45 (ninS ne_nent_b37 nin0)).other W48 ne_nent_b29).ext E52).keep Kp60 (ninS ne_nent_b52 nin0)).other W63 ne_nent_b29).lt (Nat.le_of_eq g67.symm))
    have ne_dc_b67 := Nat.ne_of_lt (Nat.lt_of_lt_of_le ((((((((V_dc.ext E24).ext E29).ext E37).keep Kp45 (ninS ne_dc_b37 nin0)).other W48 ne_dc_b29).ext E52).keep Kp60 (ninS ne_dc_b52 nin0)).other W63 ne_dc_b29).lt (Nat.le_of_eq g67.symm))
    have ne_b24_b67 := Nat.ne_of_lt (Nat.lt_of_lt_of_le (((((((V24.ext E29).ext E37).keep Kp45 (ninS ne_b24_b37 nin0)).other W48 ne_b24_b29).ext E52).keep Kp60 (ninS ne_b24_b52 nin0)).other W63 ne_b24_b29).lt (Nat.le_of_eq g67.symm))
    have ne_b29_b67 := Nat.ne_of_lt (Nat.lt_of_lt_of_le V63.lt (Nat.le_of_eq g67.symm))
    have ne_b37_b67 := Nat.ne_of_lt (Nat.lt_of_lt_of_le ((((P45_0.wr W48).ext E52).keep Kp60).wr W63).lt (Nat.le_of_eq g67.symm))
    have ne_b52_b67 := Nat.ne_of_lt (Nat.lt_of_lt_of_le (P60_0.wr W63).lt (Nat.le_of_eq g67.symm))
    have g_b67 : n0 ≤ b67 := Nat.le_trans Z_67 (Nat.le_of_eq g67.symm)
    have F_offset_b67 : Fld Z h67 b67 own_cR "offset" "J" (.long (0 : Int64)) := D67 (Or.inr (own_w hw 22 rfl)) (ty := .long) (by decide)
    have F_generation_b67 : Fld Z h67 b67 own_cR "generation" "J" (.long (0 : Int64)) := D67 (Or.inr (own_w hw 24 rfl)) (ty := .long) (by decide)
    have F_payload_b67 : Fld Z h67 b67 own_cR "payload" "[B" .null := D67 (Or.inr (own_w hw 26 rfl)) (ty := (.array .byte)) (by decide)
    show own_Fin p e below G (T67.setTop (mkF m 70 #[.val (.int p0), .val (.int p1), .val (.int p2), .val (.long x3), .second, .val (.long x4), .second, .val (.int v7_23), .val (.int v8_23), .val (.long w9_23), .second, .val (.ref b24), .val (.ref b29), .unset, .unset, .unset, .unset, .unset] [(.ref b67), (.int (2 : Int32)), (.ref b29)]))
    refine own_dup X67 hx (hb hby at_70) rfl ?_
    refine own_to (fun _ kz => X67.ldc2Long hx hown (mvT hZ (own_w hw 28 rfl)) (g := (mkF m 71 #[.val (.int p0), .val (.int p1), .val (.int p2), .val (.long x3), .second, .val (.long x4), .second, .val (.int v7_23), .val (.int v8_23), .val (.long w9_23), .second, .val (.ref b24), .val (.ref b29), .unset, .unset, .unset, .unset, .unset] [(.ref b67), (.ref b67), (.int (2 : Int32)), (.ref b29)])) rfl (hb hby at_71) _ kz) ?_
    show own_Fin p e below G (T67.setTop (mkF m 74 #[.val (.int p0), .val (.int p1), .val (.int p2), .val (.long x3), .second, .val (.long x4), .second, .val (.int v7_23), .val (.int v8_23), .val (.long w9_23), .second, .val (.ref b24), .val (.ref b29), .unset, .unset, .unset, .unset, .unset] [(.long (2 : Int64)), (.ref b67), (.ref b67), (.int (2 : Int32)), (.ref b29)]))
    refine own_to (fun _ kz => XS.lconst X67.here hx rfl (hb hby at_74) kz) ?_
    show own_Fin p e below G (T67.setTop (mkF m 75 #[.val (.int p0), .val (.int p1), .val (.int p2), .val (.long x3), .second, .val (.long x4), .second, .val (.int v7_23), .val (.int v8_23), .val (.long w9_23), .second, .val (.ref b24), .val (.ref b29), .unset, .unset, .unset, .unset, .unset] [(.long (0 : Int64)), (.long (2 : Int64)), (.ref b67), (.ref b67), (.int (2 : Int32)), (.ref b29)]))
    refine own_aload X67 hx (hb hby at_75) rfl (rfl) ?_
    have Zz_77_E67 := Nat.le_trans Z_67 E67.1
    have Z_77 : n0 ≤ h67.size := Zz_77_E67
    obtain ⟨_, _, ⟨T77, L77, k77, n77⟩, -, X77, ⟨Lc77, hQ77, l77, y77, z77⟩, st77⟩ := X67.specialBack hx (y := own_y2) rfl hown (mvT hZ (own_w hw 10 rfl)) (mvT hZ (own_w hw 11 rfl)) (mvT hZ (own_w hw 12 rfl)) (by decide) (backOf (W := 3) (rm2 l Z a0 hw [] b67 (2 : Int64) (0 : Int64) b24 h67 n0 Z_77 A67 F_offset_b67 F_generation_b67 F_payload_b67 g_b67) hZ (own_w hw 12 rfl) (own_w hw 9 rfl) (by decide) (by decide)) (g := (mkF m 77 #[.val (.int p0), .val (.int p1), .val (.int p2), .val (.long x3), .second, .val (.long x4), .second, .val (.int v7_23), .val (.int v8_23), .val (.long w9_23), .second, .val (.ref b24), .val (.ref b29), .unset, .unset, .unset, .unset, .unset] [(.ref b24), (.long (0 : Int64)), (.long (2 : Int64)), (.ref b67), (.ref b67), (.int (2 : Int32)), (.ref b29)])) rfl (by rw [hml]; rfl) (Steps.refl _) (a := b67) (argsL := [(.long (2 : Int64)), (.long (0 : Int64)), (.ref b24)]) (rest := [(.ref b67), (.int (2 : Int32)), (.ref b29)]) (lenOf own_pd16 rfl) rfl (by show 2 * 0 + _ ≤ _; exact Nat.le_of_eq rfl) (hb hby at_77) (fun _ _ => ⟨rfl, e67, (by decide : 5 + 0 ≤ _), (by decide : 12 + 0 ≤ _)⟩)
    dsimp only [Pt.U, Pt.locs, Pt.cells, Pt.slots] at X77 l77 y77 z77 st77 hQ77
    subst l77 y77 z77
    obtain ⟨rfl, N77q, Kp77, P77_0, P77_1, P77_2, P77_3⟩ := hQ77
    obtain ⟨lo77, X77, N77⟩ : ∃ lo, Stand p l e _ s m _ below meth c T77 lo _ _ ∧ Fr n0 lo := ⟨_, X77, Fr.app N63 N77q⟩
    refine own_via st77 ?_
    show own_Fin p e below G (T77.setTop (mkF m 80 #[.val (.int p0), .val (.int p1), .val (.int p2), .val (.long x3), .second, .val (.long x4), .second, .val (.int v7_23), .val (.int v8_23), .val (.long w9_23), .second, .val (.ref b24), .val (.ref b29), .unset, .unset, .unset, .unset, .unset] [(.ref b67), (.int (2 : Int32)), (.ref b29)]))
    have V63_at_80 := ((V63.ext E67).keep Kp77 (ninS ne_b29_b67 nin0))
    obtain ⟨nn80, cl80, Ar80, Ov80, Sz80, Hs80⟩ := V63_at_80
    obtain ⟨T80, h80, X80, e80, W80, st80⟩ := stR X77 hx hZ rfl Ar80 (j := (2 : Int32)) (own_in Sz80 (by decide) rfl (by decide)) rfl (Sto.of Ar80 Ov80 (Ins.self P77_0)) (g := (mkF m 80 #[.val (.int p0), .val (.int p1), .val (.int p2), .val (.long x3), .second, .val (.long x4), .second, .val (.int v7_23), .val (.int v8_23), .val (.long w9_23), .second, .val (.ref b24), .val (.ref b29), .unset, .unset, .unset, .unset, .unset] [(.ref b67), (.int (2 : Int32)), (.ref b29)])) rfl rfl (hb hby at_80)
    refine own_to st80 ?_
    have V80 : own_RV Z h80 b29 own_cR 3 (own_upd (own_upd (own_upd (fun _ => Value.null) 0 (.ref b37)) 1 (.ref b52)) 2 (.ref b67)) := own_RV.set nn80 Ar80 Ov80 Sz80 Hs80 W80 rfl
    obtain ⟨lo80, X80, N80⟩ : ∃ lo, Stand p l e _ s m _ below meth c T80 lo _ _ ∧ Fr n0 lo := ⟨_, X80, Fr.snoc X80 N77 g_b29⟩
    show own_Fin p e below G (T80.setTop (mkF m 81 #[.val (.int p0), .val (.int p1), .val (.int p2), .val (.long x3), .second, .val (.long x4), .second, .val (.int v7_23), .val (.int v8_23), .val (.long w9_23), .second, .val (.ref b24), .val (.ref b29), .unset, .unset, .unset, .unset, .unset] []))
    have Zz_81_Kp77 := Nat.le_trans Z_77 Kp77.1
    have Zz_81_W80 := Nat.le_trans Zz_81_Kp77 (Nat.le_of_eq (Wr.size W80).symm)
    have Z_81 : n0 ≤ h80.size := Zz_81_W80
    obtain ⟨T81, h81, X81, e81, E81, A81, D81, -, st81⟩ := newO X80 hx hZ hown (own_w hw 29 rfl) (own_w hw 30 rfl) (own_w hw 31 rfl) e80 (g := (mkF m 81 #[.val (.int p0), .val (.int p1), .val (.int p2), .val (.long x3), .second, .val (.long x4), .second, .val (.int v7_23), .val (.int v8_23), .val (.long w9_23), .second, .val (.ref b24), .val (.ref b29), .unset, .unset, .unset, .unset, .unset] [])) rfl (hb hby at_81) (by decide) (by decide)
    obtain ⟨b81, g81⟩ : ∃ z, z = h80.size := ⟨_, rfl⟩
    rw [← g81] at A81 D81 st81
    refine own_to st81 ?_
    have ne_nent_b81 := Nat.ne_of_lt (Nat.lt_of_lt_of_le (((((((((((V_nent.ext E24).ext E29).ext E37).keep Kp45 (ninS ne_nent_b37 nin0)).other W48 ne_nent_b29).ext E52).keep Kp60 (ninS ne_nent_b52 nin0)).other W63 ne_nent_b29).ext E67).keep Kp77 (ninS ne_nent_b67 nin0)).other W80 ne_nent_b29).lt (Nat.le_of_eq g81.symm))
    have ne_dc_b81 := Nat.ne_of_lt (Nat.lt_of_lt_of_le (((((((((((V_dc.ext E24).ext E29).ext E37).keep Kp45 (ninS ne_dc_b37 nin0)).other W48 ne_dc_b29).ext E52).keep Kp60 (ninS ne_dc_b52 nin0)).other W63 ne_dc_b29).ext E67).keep Kp77 (ninS ne_dc_b67 nin0)).other W80 ne_dc_b29).lt (Nat.le_of_eq g81.symm))
    have ne_b24_b81 := Nat.ne_of_lt (Nat.lt_of_lt_of_le ((((((((((V24.ext E29).ext E37).keep Kp45 (ninS ne_b24_b37 nin0)).other W48 ne_b24_b29).ext E52).keep Kp60 (ninS ne_b24_b52 nin0)).other W63 ne_b24_b29).ext E67).keep Kp77 (ninS ne_b24_b67 nin0)).other W80 ne_b24_b29).lt (Nat.le_of_eq g81.symm))
    have ne_b29_b81 := Nat.ne_of_lt (Nat.lt_of_lt_of_le V80.lt (Nat.le_of_eq g81.symm))
    have ne_b37_b81 := Nat.ne_of_lt (Nat.lt_of_lt_of_le (((((((P45_0.wr W48).ext E52).keep Kp60).wr W63).ext E67).keep Kp77).wr W80).lt (Nat.le_of_eq g81.symm))
    have ne_b52_b81 := Nat.ne_of_lt (Nat.lt_of_lt_of_le ((((P60_0.wr W63).ext E67).keep Kp77).wr W80).lt (Nat.le_of_eq g81.symm))
    have ne_b67_b81 := Nat.ne_of_lt (Nat.lt_of_lt_of_le (P77_0.wr W80).lt (Nat.le_of_eq g81.symm))
    have g_b81 : n0 ≤ b81 := Nat.le_trans Z_81 (Nat.le_of_eq g81.symm)
    have F_data_b81 : Fld Z h81 b81 own_cE "data" "[B" .null := D81 (Or.inl (own_w hw 39 rfl)) (ty := (.array .byte)) (by decide)
    have F_offsets_b81 : Fld Z h81 b81 own_cE "offsets" "[J" .null := D81 (Or.inl (own_w hw 43 rfl)) (ty := (.array .long)) (by decide)
    have F_lengths_b81 : Fld Z h81 b81 own_cE "lengths" "[J" .null := D81 (Or.inl (own_w hw 45 rfl)) (ty := (.array .long)) (by decide)
    have F_whole_b81 : Fld Z h81 b81 own_cE "whole" "Ljava/util/List;" .null := D81 (Or.inr (own_w hw 71 rfl)) (ty := (.object "java/util/List")) (by decide)
    have F_lastSpan_b81 : Fld Z h81 b81 own_cE "lastSpan" "I" (.int (0 : Int32)) := D81 (Or.inl (own_w hw 73 rfl)) (ty := .int) (by decide)
    have F_kept_b81 : Fld Z h81 b81 own_cE "kept" "I" (.int (0 : Int32)) := D81 (Or.inr (own_w hw 79 rfl)) (ty := .int) (by decide)
    have F_size_b81 : Fld Z h81 b81 own_cE "size" "I" (.int (0 : Int32)) := D81 (Or.inl (own_w hw 97 rfl)) (ty := .int) (by decide)
    have F_taken_b81 : Fld Z h81 b81 own_cE "taken" "I" (.int (0 : Int32)) := D81 (Or.inl (own_w hw 172 rfl)) (ty := .int) (by decide)
    have F_takenWhole_b81 : Fld Z h81 b81 own_cE "takenWhole" "I" (.int (0 : Int32)) := D81 (Or.inl (own_w hw 205 rfl)) (ty := .int) (by decide)
    have F_takenData_b81 : Fld Z h81 b81 own_cE "takenData" "I" (.int (0 : Int32)) := D81 (Or.inl (own_w hw 230 rfl)) (ty := .int) (by decide)
    show own_Fin p e below G (T81.setTop (mkF m 84 #[.val (.int p0), .val (.int p1), .val (.int p2), .val (.long x3), .second, .val (.long x4), .second, .val (.int v7_23), .val (.int v8_23), .val (.long w9_23), .second, .val (.ref b24), .val (.ref b29), .unset, .unset, .unset, .unset, .unset] [(.ref b81)]))
    refine own_dup X81 hx (hb hby at_84) rfl ?_
    refine own_iloadN X81 hx (hb hby at_85) rfl ?_
    have S_DEFAULTCAPACITY_EMPTY_ELEMENTDATA_at_86 := (((own_staKeep (((own_staKeep (((own_staKeep (((S_DEFAULTCAPACITY_EMPTY_ELEMENTDATA.ext E24).ext E29).ext E37) Kp45 (allS (Exa.cell A37) all0)).wr W48).ext E52) Kp60 (allS (Exa.cell A52) all0)).wr W63).ext E67) Kp77 (allS (Exa.cell A67) all0)).wr W80).ext E81)
    have S_NO_DATA_at_86 := (((own_staKeep (((own_staKeep (((own_staKeep (((S_NO_DATA.ext E24).ext E29).ext E37) Kp45 (allS (Exa.cell A37) all0)).wr W48).ext E52) Kp60 (allS (Exa.cell A52) all0)).wr W63).ext E67) Kp77 (allS (Exa.cell A67) all0)).wr W80).ext E81)
    have S_NO_ENTRIES_at_86 := (((own_staKeep (((own_staKeep (((own_staKeep (((S_NO_ENTRIES.ext E24).ext E29).ext E37) Kp45 (allS (Exa.cell A37) all0)).wr W48).ext E52) Kp60 (allS (Exa.cell A52) all0)).wr W63).ext E67) Kp77 (allS (Exa.cell A67) all0)).wr W80).ext E81)
    have Zz_86_E81 := Nat.le_trans Z_81 E81.1
    have Z_86 : n0 ≤ h81.size := Zz_86_E81
    obtain ⟨_, _, ⟨T86, L86, k86, n86⟩, -, X86, ⟨Lc86, hQ86, l86, y86, z86⟩, st86⟩ := X81.specialBack hx (y := own_y5) rfl hown (mvT hZ (own_w hw 32 rfl)) (mvT hZ (own_w hw 33 rfl)) (mvT hZ (own_w hw 34 rfl)) (by decide) (backOf (W := 1) (rm5 l Z a0 hw [] b81 p0 dc nd nent h81 n0 Z_86 A81 F_kept_b81 F_offsets_b81 F_lengths_b81 F_whole_b81 F_size_b81 F_lastSpan_b81 F_taken_b81 F_takenWhole_b81 F_data_b81 g_b81 S_DEFAULTCAPACITY_EMPTY_ELEMENTDATA_at_86 S_NO_DATA_at_86 S_NO_ENTRIES_at_86) hZ (own_w hw 34 rfl) (own_w hw 31 rfl) (by decide) (by decide)) (g := (mkF m 86 #[.val (.int p0), .val (.int p1), .val (.int p2), .val (.long x3), .second, .val (.long x4), .second, .val (.int v7_23), .val (.int v8_23), .val (.long w9_23), .second, .val (.ref b24), .val (.ref b29), .unset, .unset, .unset, .unset, .unset] [(.int p0), (.ref b81), (.ref b81)])) rfl (by rw [hml]; rfl) (Steps.refl _) (a := b81) (argsL := [(.int p0)]) (rest := [(.ref b81)]) (lenOf own_pd17 rfl) rfl (by show 2 * 0 + _ ≤ _; exact Nat.le_of_eq rfl) (hb hby at_86) (fun _ _ => ⟨rfl, e81, (by decide : 6 + 1 ≤ _), (by decide : 24 + 3 ≤ _)⟩)
    dsimp only [Pt.U, Pt.locs, Pt.cells, Pt.slots] at X86 l86 y86 z86 st86 hQ86
    subst l86 y86 z86
    obtain ⟨wh86, rfl, N86q, Kp86, szq_wh86, P86_0, P86_1, P86_2, P86_3, P86_4, P86_5, P86_6, P86_7, P86_8, P86_9, P86_10, P86_11, P86_12⟩ := hQ86
    have ne_nent_wh86 := Nat.ne_of_lt (Nat.lt_of_lt_of_le ((((((((((((V_nent.ext E24).ext E29).ext E37).keep Kp45 (ninS ne_nent_b37 nin0)).other W48 ne_nent_b29).ext E52).keep Kp60 (ninS ne_nent_b52 nin0)).other W63 ne_nent_b29).ext E67).keep Kp77 (ninS ne_nent_b67 nin0)).other W80 ne_nent_b29).ext E81).lt szq_wh86)
    have ne_dc_wh86 := Nat.ne_of_lt (Nat.lt_of_lt_of_le ((((((((((((V_dc.ext E24).ext E29).ext E37).keep Kp45 (ninS ne_dc_b37 nin0)).other W48 ne_dc_b29).ext E52).keep Kp60 (ninS ne_dc_b52 nin0)).other W63 ne_dc_b29).ext E67).keep Kp77 (ninS ne_dc_b67 nin0)).other W80 ne_dc_b29).ext E81).lt szq_wh86)
    have ne_b24_wh86 := Nat.ne_of_lt (Nat.lt_of_lt_of_le (((((((((((V24.ext E29).ext E37).keep Kp45 (ninS ne_b24_b37 nin0)).other W48 ne_b24_b29).ext E52).keep Kp60 (ninS ne_b24_b52 nin0)).other W63 ne_b24_b29).ext E67).keep Kp77 (ninS ne_b24_b67 nin0)).other W80 ne_b24_b29).ext E81).lt szq_wh86)
    have ne_b29_wh86 := Nat.ne_of_lt (Nat.lt_of_lt_of_le (V80.ext E81).lt szq_wh86)
    have ne_b37_wh86 := Nat.ne_of_lt (Nat.lt_of_lt_of_le ((((((((P45_0.wr W48).ext E52).keep Kp60).wr W63).ext E67).keep Kp77).wr W80).ext E81).lt szq_wh86)
    have ne_b52_wh86 := Nat.ne_of_lt (Nat.lt_of_lt_of_le (((((P60_0.wr W63).ext E67).keep Kp77).wr W80).ext E81).lt szq_wh86)
    have ne_b67_wh86 := Nat.ne_of_lt (Nat.lt_of_lt_of_le ((P77_0.wr W80).ext E81).lt szq_wh86)
    have ne_b81_wh86 := Nat.ne_of_lt (Nat.lt_of_lt_of_le A81.lt szq_wh86)
    have g_wh86 : n0 ≤ wh86 := Nat.le_trans Z_86 szq_wh86
    obtain ⟨lo86, X86, N86⟩ : ∃ lo, Stand p l e _ s m _ below meth c T86 lo _ _ ∧ Fr n0 lo := ⟨_, X86, Fr.app N80 N86q⟩
    refine own_via st86 ?_
    show own_Fin p e below G (T86.setTop (mkF m 89 #[.val (.int p0), .val (.int p1), .val (.int p2), .val (.long x3), .second, .val (.long x4), .second, .val (.int v7_23), .val (.int v8_23), .val (.long w9_23), .second, .val (.ref b24), .val (.ref b29), .unset, .unset, .unset, .unset, .unset] [(.ref b81)]))
    refine own_to (fun _ kz => XS.astore X86.here hx rfl (hb hby at_89) rfl (rfl) (l' := #[.val (.int p0), .val (.int p1), .val (.int p2), .val (.long x3), .second, .val (.long x4), .second, .val (.int v7_23), .val (.int v8_23), .val (.long w9_23), .second, .val (.ref b24), .val (.ref b29), .val (.ref b81), .unset, .unset, .unset, .unset]) rfl kz) ?_
    show own_Fin p e below G (T86.setTop (mkF m 91 #[.val (.int p0), .val (.int p1), .val (.int p2), .val (.long x3), .second, .val (.long x4), .second, .val (.int v7_23), .val (.int v8_23), .val (.long w9_23), .second, .val (.ref b24), .val (.ref b29), .val (.ref b81), .unset, .unset, .unset, .unset] []))
    have K273 : ∀ (tN sN : Nat) (ht_ : tN ≤ 3) (hs_ : own_stop v7_23 tN = sN) (T_c : State) (locs_c : List Loc) (N_c : Fr n0 locs_c) (X_c : Stand p l e room_1 s m #[(.int p0), (.int p1), (.int p2), (.long x3), (.long x4)] below meth c T_c locs_c 15 86) (h_c : Heap) (e_c : T_c.heap = h_c) (Z_c : n0 ≤ h_c.size) (Bt_c : own_Bt Z n0 h_c b81 b29 (own_r b37 b52 b67) v7_23 x3 w9_23 tN), own_Fin p e below G (T_c.setTop (mkF m 273 #[.val (.int p0), .val (.int p1), .val (.int p2), .val (.long x3), .second, .val (.long x4), .second, .val (.int v7_23), .val (.int (own_i tN)), .val (.long w9_23), .second, .val (.ref b24), .val (.ref b29), .val (.ref b81), .val (.int (own_i sN)), .unset, .unset, .unset] [])) := by
      intro tN sN ht_ hs_ T_c locs_c N_c X_c h_c e_c Z_c Bt_c
      have hs3 : sN ≤ 3 := hs_ ▸ own_stle
      have Eb_c := own_Bt.exa Bt_c
      refine own_aload X_c hx (hb hby at_273) rfl (rfl) ?_
      obtain ⟨cq275, kq275, qa275, qb275, qc275⟩ := isOf hZ e_c Eb_c
      obtain ⟨_, _, ⟨T275, L275, k275, n275⟩, -, X275, ⟨Lc275, hQ275, l275, y275, z275⟩, st275⟩ := X_c.virtualBack hx (y := own_y30) (z := own_y30) hown (mvT hZ (own_w hw 199 rfl)) (mvT hZ (own_w hw 200 rfl)) (notFace_of_selects (args := #[]) (mvT hZ (own_w hw 202 rfl))) (mvT hZ (own_w hw 202 rfl)) (mvT hZ (own_w hw 201 rfl)) (by decide) (backOf (W := 0) (rmS l Z a0 hw b81 b29 (own_r b37 b52 b67) v7_23 x3 w9_23 tN h_c n0 Z_c jh1_23 ht_ Bt_c) hZ (own_w hw 203 rfl) (own_w hw 31 rfl) (by decide) (by decide)) qa275 qc275 (g := (mkF m 275 #[.val (.int p0), .val (.int p1), .val (.int p2), .val (.long x3), .second, .val (.long x4), .second, .val (.int v7_23), .val (.int (own_i tN)), .val (.long w9_23), .second, .val (.ref b24), .val (.ref b29), .val (.ref b81), .val (.int (own_i sN)), .unset, .unset, .unset] [(.ref b81)])) rfl (by rw [hml]; rfl) (Steps.refl _) (argsL := []) (rest := []) (lenOf own_pd18 rfl) rfl (by show 2 * 0 + _ ≤ _; exact Nat.le_of_eq rfl) (hb hby at_275) (fun _ _ => ⟨rfl, e_c, (by decide : 15 + 0 ≤ _), (by decide : 86 + 0 ≤ _)⟩)
      dsimp only [Pt.U, Pt.locs, Pt.cells, Pt.slots] at X275 l275 y275 z275 st275 hQ275
      subst l275 y275 z275
      obtain ⟨hv275, N275q, Kp275, Bt275⟩ := hQ275
      rw [hs_] at hv275 Bt275
      subst hv275
      obtain ⟨lo275, X275, N275⟩ : ∃ lo, Stand p l e _ s m _ below meth c T275 lo _ _ ∧ Fr n0 lo := ⟨_, X275, Fr.app N_c N275q⟩
      refine own_via st275 ?_
      show own_Fin p e below G (T275.setTop (mkF m 278 #[.val (.int p0), .val (.int p1), .val (.int p2), .val (.long x3), .second, .val (.long x4), .second, .val (.int v7_23), .val (.int (own_i tN)), .val (.long w9_23), .second, .val (.ref b24), .val (.ref b29), .val (.ref b81), .val (.int (own_i sN)), .unset, .unset, .unset] [(.int ((own_i sN) - (own_i tN)))]))
      refine own_to (fun _ kz => XS.istore X275.here hx rfl (hb hby at_278) rfl (l' := #[.val (.int p0), .val (.int p1), .val (.int p2), .val (.long x3), .second, .val (.long x4), .second, .val (.int v7_23), .val (.int (own_i tN)), .val (.long w9_23), .second, .val (.ref b24), .val (.ref b29), .val (.ref b81), .val (.int (own_i sN)), .val (.int ((own_i sN) - (own_i tN))), .unset, .unset]) rfl kz) ?_
      show own_Fin p e below G (T275.setTop (mkF m 280 #[.val (.int p0), .val (.int p1), .val (.int p2), .val (.long x3), .second, .val (.long x4), .second, .val (.int v7_23), .val (.int (own_i tN)), .val (.long w9_23), .second, .val (.ref b24), .val (.ref b29), .val (.ref b81), .val (.int (own_i sN)), .val (.int ((own_i sN) - (own_i tN))), .unset, .unset] []))
      refine own_aload X275 hx (hb hby at_280) rfl (rfl) ?_
      have Zz_282_Kp275 := Nat.le_trans Z_c Kp275.1
      have Z_282 : n0 ≤ T275.heap.size := Zz_282_Kp275
      have Eb_c_at_282 := (Eb_c.keep Kp275)
      obtain ⟨cq282, kq282, qa282, qb282, qc282⟩ := isOf hZ rfl Eb_c_at_282
      obtain ⟨_, _, ⟨T282, L282, k282, n282⟩, -, X282, ⟨Lc282, hQ282, l282, y282, z282⟩, st282⟩ := X275.virtualBack hx (y := own_y25) (z := own_y25) hown (mvT hZ (own_w hw 166 rfl)) (mvT hZ (own_w hw 167 rfl)) (notFace_of_selects (args := #[]) (mvT hZ (own_w hw 169 rfl))) (mvT hZ (own_w hw 169 rfl)) (mvT hZ (own_w hw 168 rfl)) (by decide) (backOf (W := 0) (rmT l Z a0 hw b81 b29 (own_r b37 b52 b67) v7_23 x3 w9_23 sN T275.heap n0 Z_282 jh1_23 hs3 Bt275) hZ (own_w hw 170 rfl) (own_w hw 31 rfl) (by decide) (by decide)) qa282 qc282 (g := (mkF m 282 #[.val (.int p0), .val (.int p1), .val (.int p2), .val (.long x3), .second, .val (.long x4), .second, .val (.int v7_23), .val (.int (own_i tN)), .val (.long w9_23), .second, .val (.ref b24), .val (.ref b29), .val (.ref b81), .val (.int (own_i sN)), .val (.int ((own_i sN) - (own_i tN))), .unset, .unset] [(.ref b81)])) rfl (by rw [hml]; rfl) (Steps.refl _) (argsL := []) (rest := []) (lenOf own_pd19 rfl) rfl (by show 2 * 0 + _ ≤ _; exact Nat.le_of_eq rfl) (hb hby at_282) (fun _ _ => ⟨rfl, rfl, (by decide : 15 + 1 ≤ _), (by decide : 86 + 2 ≤ _)⟩)
      dsimp only [Pt.U, Pt.locs, Pt.cells, Pt.slots] at X282 l282 y282 z282 st282 hQ282
      subst l282 y282 z282
      obtain ⟨en282, rfl, N282q, Kp282, Bq282, En282⟩ := hQ282
      have Bt282 : own_Bt Z n0 T282.heap b81 b29 (own_r b37 b52 b67) v7_23 x3 w9_23 (own_nx sN) := Bq282
      obtain ⟨lo282, X282, N282⟩ : ∃ lo, Stand p l e _ s m _ below meth c T282 lo _ _ ∧ Fr n0 lo := ⟨_, X282, Fr.app N275 N282q⟩
      refine own_via st282 ?_
      show own_Fin p e below G (T282.setTop (mkF m 285 #[.val (.int p0), .val (.int p1), .val (.int p2), .val (.long x3), .second, .val (.long x4), .second, .val (.int v7_23), .val (.int (own_i tN)), .val (.long w9_23), .second, .val (.ref b24), .val (.ref b29), .val (.ref b81), .val (.int (own_i sN)), .val (.int ((own_i sN) - (own_i tN))), .unset, .unset] [en282]))
      refine own_to (fun _ kz => XS.astore X282.here hx rfl (hb hby at_285) rfl ((own_ent.ref En282)) (l' := #[.val (.int p0), .val (.int p1), .val (.int p2), .val (.long x3), .second, .val (.long x4), .second, .val (.int v7_23), .val (.int (own_i tN)), .val (.long w9_23), .second, .val (.ref b24), .val (.ref b29), .val (.ref b81), .val (.int (own_i sN)), .val (.int ((own_i sN) - (own_i tN))), .val en282, .unset]) (by rcases ref_cases ((own_ent.ref En282)) with hz | ⟨za, hz⟩ <;> rw [hz] <;> rfl) kz) ?_
      show own_Fin p e below G (T282.setTop (mkF m 287 #[.val (.int p0), .val (.int p1), .val (.int p2), .val (.long x3), .second, .val (.long x4), .second, .val (.int v7_23), .val (.int (own_i tN)), .val (.long w9_23), .second, .val (.ref b24), .val (.ref b29), .val (.ref b81), .val (.int (own_i sN)), .val (.int ((own_i sN) - (own_i tN))), .val en282, .unset] []))
      refine own_aload X282 hx (hb hby at_287) rfl (rfl) ?_
      have Zz_289_Kp282 := Nat.le_trans Z_282 Kp282.1
      have Z_289 : n0 ≤ T282.heap.size := Zz_289_Kp282
      have Eb_c_at_289 := (Eb_c_at_282.keep Kp282)
      obtain ⟨cq289, kq289, qa289, qb289, qc289⟩ := isOf hZ rfl Eb_c_at_289
      obtain ⟨_, _, ⟨T289, L289, k289, n289⟩, -, X289, ⟨Lc289, hQ289, l289, y289, z289⟩, st289⟩ := X282.virtualBack hx (y := own_y25) (z := own_y25) hown (mvT hZ (own_w hw 166 rfl)) (mvT hZ (own_w hw 167 rfl)) (notFace_of_selects (args := #[]) (mvT hZ (own_w hw 169 rfl))) (mvT hZ (own_w hw 169 rfl)) (mvT hZ (own_w hw 168 rfl)) (by decide) (backOf (W := 0) (rmT l Z a0 hw b81 b29 (own_r b37 b52 b67) v7_23 x3 w9_23 (own_nx sN) T282.heap n0 Z_289 jh1_23 (own_nxle hs3) Bt282) hZ (own_w hw 170 rfl) (own_w hw 31 rfl) (by decide) (by decide)) qa289 qc289 (g := (mkF m 289 #[.val (.int p0), .val (.int p1), .val (.int p2), .val (.long x3), .second, .val (.long x4), .second, .val (.int v7_23), .val (.int (own_i tN)), .val (.long w9_23), .second, .val (.ref b24), .val (.ref b29), .val (.ref b81), .val (.int (own_i sN)), .val (.int ((own_i sN) - (own_i tN))), .val en282, .unset] [(.ref b81)])) rfl (by rw [hml]; rfl) (Steps.refl _) (argsL := []) (rest := []) (lenOf own_pd19 rfl) rfl (by show 2 * 0 + _ ≤ _; exact Nat.le_of_eq rfl) (hb hby at_289) (fun _ _ => ⟨rfl, rfl, (by decide : 16 + 1 ≤ _), (by decide : 88 + 2 ≤ _)⟩)
      dsimp only [Pt.U, Pt.locs, Pt.cells, Pt.slots] at X289 l289 y289 z289 st289 hQ289
      subst l289 y289 z289
      obtain ⟨en289, rfl, N289q, Kp289, Bq289, En289⟩ := hQ289
      have Bt289 : own_Bt Z n0 T289.heap b81 b29 (own_r b37 b52 b67) v7_23 x3 w9_23 (own_nx (own_nx sN)) := Bq289
      have En289_en282 := own_ent.keep En282 Kp289
      obtain ⟨lo289, X289, N289⟩ : ∃ lo, Stand p l e _ s m _ below meth c T289 lo _ _ ∧ Fr n0 lo := ⟨_, X289, Fr.app N282 N289q⟩
      refine own_via st289 ?_
      show own_Fin p e below G (T289.setTop (mkF m 292 #[.val (.int p0), .val (.int p1), .val (.int p2), .val (.long x3), .second, .val (.long x4), .second, .val (.int v7_23), .val (.int (own_i tN)), .val (.long w9_23), .second, .val (.ref b24), .val (.ref b29), .val (.ref b81), .val (.int (own_i sN)), .val (.int ((own_i sN) - (own_i tN))), .val en282, .unset] [en289]))
      refine own_to (fun _ kz => XS.astore X289.here hx rfl (hb hby at_292) rfl ((own_ent.ref En289)) (l' := #[.val (.int p0), .val (.int p1), .val (.int p2), .val (.long x3), .second, .val (.long x4), .second, .val (.int v7_23), .val (.int (own_i tN)), .val (.long w9_23), .second, .val (.ref b24), .val (.ref b29), .val (.ref b81), .val (.int (own_i sN)), .val (.int ((own_i sN) - (own_i tN))), .val en282, .val en289]) (by rcases ref_cases ((own_ent.ref En289)) with hz | ⟨za, hz⟩ <;> rw [hz] <;> rfl) kz) ?_
      show own_Fin p e below G (T289.setTop (mkF m 294 #[.val (.int p0), .val (.int p1), .val (.int p2), .val (.long x3), .second, .val (.long x4), .second, .val (.int v7_23), .val (.int (own_i tN)), .val (.long w9_23), .second, .val (.ref b24), .val (.ref b29), .val (.ref b81), .val (.int (own_i sN)), .val (.int ((own_i sN) - (own_i tN))), .val en282, .val en289] []))
      refine own_iload X289 hx (hb hby at_294) rfl ?_
      refine own_iload X289 hx (hb hby at_296) rfl ?_
      refine own_iload X289 hx (hb hby at_298) rfl ?_
      refine own_to (fun _ kz => XS.isub X289.here hx rfl (hb hby at_300) rfl kz) ?_
      show own_Fin p e below G (T289.setTop (mkF m 301 #[.val (.int p0), .val (.int p1), .val (.int p2), .val (.long x3), .second, .val (.long x4), .second, .val (.int v7_23), .val (.int (own_i tN)), .val (.long w9_23), .second, .val (.ref b24), .val (.ref b29), .val (.ref b81), .val (.int (own_i sN)), .val (.int ((own_i sN) - (own_i tN))), .val en282, .val en289] [(.int ((own_i sN) - (own_i tN))), (.int ((own_i sN) - (own_i tN)))]))
      have hc301 : ((own_i sN) - (own_i tN)) = ((own_i sN) - (own_i tN)) := rfl
      refine own_to (fun _ kz => XS.icmpNo X289.here hx rfl (hb hby at_301) rfl (teq hc301).2 kz) ?_
      show own_Fin p e below G (T289.setTop (mkF m 304 #[.val (.int p0), .val (.int p1), .val (.int p2), .val (.long x3), .second, .val (.long x4), .second, .val (.int v7_23), .val (.int (own_i tN)), .val (.long w9_23), .second, .val (.ref b24), .val (.ref b29), .val (.ref b81), .val (.int (own_i sN)), .val (.int ((own_i sN) - (own_i tN))), .val en282, .val en289] []))
      refine own_aload X289 hx (hb hby at_304) rfl ((own_ent.ref En282)) ?_
      refine own_iload X289 hx (hb hby at_306) rfl ?_
      refine own_iload X289 hx (hb hby at_308) rfl ?_
      refine own_aload X289 hx (hb hby at_310) rfl (rfl) ?_
      refine own_lloadN X289 hx (hb hby at_312) rfl ?_
      refine own_lload X289 hx (hb hby at_313) rfl ?_
      have Zz_315_Kp289 := Nat.le_trans Z_289 Kp289.1
      have Z_315 : n0 ≤ T289.heap.size := Zz_315_Kp289
      obtain ⟨_, _, ⟨T315, L315, k315, n315⟩, -, X315, ⟨Lc315, hQ315, l315, y315, z315⟩, st315⟩ := Jvm.LawKit.callS X289 hx (y := own_y27) hown (mvT hZ (own_w hw 184 rfl)) (mvT hZ (own_w hw 185 rfl)) (mvT hZ (own_w hw 82 rfl)) (mvT hZ (own_w hw 186 rfl)) (by decide) (backOf (W := 0) (rmM l Z a0 hw b81 b29 (own_r b37 b52 b67) v7_23 x3 w9_23 (own_nx (own_nx sN)) sN en282 T289.heap n0 Z_315 Bt289 (Nat.le_succ_of_le hs3) En289_en282) hZ (own_w hw 186 rfl) (own_w hw 82 rfl) (by decide) (by decide)) (g := (mkF m 315 #[.val (.int p0), .val (.int p1), .val (.int p2), .val (.long x3), .second, .val (.long x4), .second, .val (.int v7_23), .val (.int (own_i tN)), .val (.long w9_23), .second, .val (.ref b24), .val (.ref b29), .val (.ref b81), .val (.int (own_i sN)), .val (.int ((own_i sN) - (own_i tN))), .val en282, .val en289] [(.long w9_23), (.long x3), (.ref b29), (.int v7_23), (.int (own_i sN)), en282])) rfl (by rw [hml]; rfl) (argsL := [en282, (.int (own_i sN)), (.int v7_23), (.ref b29), (.long x3), (.long w9_23)]) (rest := []) (lenOf own_pd20 rfl) rfl (by show 2 * 0 + _ ≤ _; exact Nat.le_of_eq rfl) (hb hby at_315) (fun _ _ => ⟨rfl, rfl, (by decide : 17 + 0 ≤ _), (by decide : 90 + 0 ≤ _)⟩)
      dsimp only [Pt.U, Pt.locs, Pt.cells, Pt.slots] at X315 l315 y315 z315 st315 hQ315
      subst l315 y315 z315
      obtain ⟨rfl, N315q, e315⟩ := hQ315
      obtain ⟨lo315, X315, N315⟩ : ∃ lo, Stand p l e _ s m _ below meth c T315 lo _ _ ∧ Fr n0 lo := ⟨_, X315, Fr.app N289 N315q⟩
      refine own_to st315 ?_
      show own_Fin p e below G (T315.setTop (mkF m 318 #[.val (.int p0), .val (.int p1), .val (.int p2), .val (.long x3), .second, .val (.long x4), .second, .val (.int v7_23), .val (.int (own_i tN)), .val (.long w9_23), .second, .val (.ref b24), .val (.ref b29), .val (.ref b81), .val (.int (own_i sN)), .val (.int ((own_i sN) - (own_i tN))), .val en282, .val en289] [(.int (1 : Int32))]))
      have hc318 : ¬ ((1 : Int32) = (0 : Int32)) := by decide
      refine own_to (fun _ kz => XS.ifNo X315.here hx rfl (hb hby at_318) rfl ((if0 _ _).trans (feq hc318).1) kz) ?_
      show own_Fin p e below G (T315.setTop (mkF m 321 #[.val (.int p0), .val (.int p1), .val (.int p2), .val (.long x3), .second, .val (.long x4), .second, .val (.int v7_23), .val (.int (own_i tN)), .val (.long w9_23), .second, .val (.ref b24), .val (.ref b29), .val (.ref b81), .val (.int (own_i sN)), .val (.int ((own_i sN) - (own_i tN))), .val en282, .val en289] []))
      refine own_aload X315 hx (hb hby at_321) rfl ((own_ent.ref En289)) ?_
      refine own_iload X315 hx (hb hby at_323) rfl ?_
      refine own_iconst X315 hx (1) (hb hby at_325) rfl ?_
      refine own_to (fun _ kz => XS.iadd X315.here hx rfl (hb hby at_326) rfl kz) ?_
      show own_Fin p e below G (T315.setTop (mkF m 327 #[.val (.int p0), .val (.int p1), .val (.int p2), .val (.long x3), .second, .val (.long x4), .second, .val (.int v7_23), .val (.int (own_i tN)), .val (.long w9_23), .second, .val (.ref b24), .val (.ref b29), .val (.ref b81), .val (.int (own_i sN)), .val (.int ((own_i sN) - (own_i tN))), .val en282, .val en289] [(.int ((own_i sN) + (1 : Int32))), en289]))
      rw [own_i1' hs3]
      show own_Fin p e below G (T315.setTop (mkF m 327 #[.val (.int p0), .val (.int p1), .val (.int p2), .val (.long x3), .second, .val (.long x4), .second, .val (.int v7_23), .val (.int (own_i tN)), .val (.long w9_23), .second, .val (.ref b24), .val (.ref b29), .val (.ref b81), .val (.int (own_i sN)), .val (.int ((own_i sN) - (own_i tN))), .val en282, .val en289] [(.int (own_i (sN + 1))), en289]))
      refine own_iload X315 hx (hb hby at_327) rfl ?_
      refine own_aload X315 hx (hb hby at_329) rfl (rfl) ?_
      refine own_lloadN X315 hx (hb hby at_331) rfl ?_
      refine own_lload X315 hx (hb hby at_332) rfl ?_
      obtain ⟨_, _, ⟨T334, L334, k334, n334⟩, -, X334, ⟨Lc334, hQ334, l334, y334, z334⟩, st334⟩ := Jvm.LawKit.callS X315 hx (y := own_y27) hown (mvT hZ (own_w hw 184 rfl)) (mvT hZ (own_w hw 185 rfl)) (mvT hZ (own_w hw 82 rfl)) (mvT hZ (own_w hw 186 rfl)) (by decide) (backOf (W := 0) (rmM l Z a0 hw b81 b29 (own_r b37 b52 b67) v7_23 x3 w9_23 (own_nx (own_nx sN)) (sN + 1) en289 T289.heap n0 Z_315 Bt289 (Nat.succ_le_succ hs3) (own_ent.nxt hs3 En289)) hZ (own_w hw 186 rfl) (own_w hw 82 rfl) (by decide) (by decide)) (g := (mkF m 334 #[.val (.int p0), .val (.int p1), .val (.int p2), .val (.long x3), .second, .val (.long x4), .second, .val (.int v7_23), .val (.int (own_i tN)), .val (.long w9_23), .second, .val (.ref b24), .val (.ref b29), .val (.ref b81), .val (.int (own_i sN)), .val (.int ((own_i sN) - (own_i tN))), .val en282, .val en289] [(.long w9_23), (.long x3), (.ref b29), (.int v7_23), (.int (own_i (sN + 1))), en289])) rfl (by rw [hml]; rfl) (argsL := [en289, (.int (own_i (sN + 1))), (.int v7_23), (.ref b29), (.long x3), (.long w9_23)]) (rest := []) (lenOf own_pd20 rfl) rfl (by show 2 * 0 + _ ≤ _; exact Nat.le_of_eq rfl) (hb hby at_334) (fun _ _ => ⟨rfl, e315, (by decide : 17 + 0 ≤ _), (by decide : 90 + 0 ≤ _)⟩)
      dsimp only [Pt.U, Pt.locs, Pt.cells, Pt.slots] at X334 l334 y334 z334 st334 hQ334
      subst l334 y334 z334
      obtain ⟨rfl, N334q, e334⟩ := hQ334
      obtain ⟨lo334, X334, N334⟩ : ∃ lo, Stand p l e _ s m _ below meth c T334 lo _ _ ∧ Fr n0 lo := ⟨_, X334, Fr.app N315 N334q⟩
      refine own_to st334 ?_
      show own_Fin p e below G (T334.setTop (mkF m 337 #[.val (.int p0), .val (.int p1), .val (.int p2), .val (.long x3), .second, .val (.long x4), .second, .val (.int v7_23), .val (.int (own_i tN)), .val (.long w9_23), .second, .val (.ref b24), .val (.ref b29), .val (.ref b81), .val (.int (own_i sN)), .val (.int ((own_i sN) - (own_i tN))), .val en282, .val en289] [(.int (1 : Int32))]))
      have hc337 : ¬ ((1 : Int32) = (0 : Int32)) := by decide
      refine own_to (fun _ kz => XS.ifNo X334.here hx rfl (hb hby at_337) rfl ((if0 _ _).trans (feq hc337).1) kz) ?_
      show own_Fin p e below G (T334.setTop (mkF m 340 #[.val (.int p0), .val (.int p1), .val (.int p2), .val (.long x3), .second, .val (.long x4), .second, .val (.int v7_23), .val (.int (own_i tN)), .val (.long w9_23), .second, .val (.ref b24), .val (.ref b29), .val (.ref b81), .val (.int (own_i sN)), .val (.int ((own_i sN) - (own_i tN))), .val en282, .val en289] []))
      refine own_iconst X334 hx (1) (hb hby at_340) rfl ?_
      refine own_to (fun _ kz => XS.goto X334.here hx rfl (pc0 := 341) (pc' := 345) rfl (hb hby at_341) (by decide) (by decide) kz) ?_
      show own_Fin p e below G (T334.setTop (mkF m 345 #[.val (.int p0), .val (.int p1), .val (.int p2), .val (.long x3), .second, .val (.long x4), .second, .val (.int v7_23), .val (.int (own_i tN)), .val (.long w9_23), .second, .val (.ref b24), .val (.ref b29), .val (.ref b81), .val (.int (own_i sN)), .val (.int ((own_i sN) - (own_i tN))), .val en282, .val en289] [(.int (1 : Int32))]))
      exact own_retN X334 hx hlk hG (t := .boolean) Bd.returns (by simp) (hb hby at_345) (by decide) (by decide) (by rw [e334]; exact ⟨rfl, N334, trivial⟩)
    have K136 : ∀ (T_b : State) (locs_b : List Loc) (N_b : Fr n0 locs_b) (X_b : Stand p l e room_1 s m #[(.int p0), (.int p1), (.int p2), (.long x3), (.long x4)] below meth c T_b locs_b 12 80) (h_b : Heap) (e_b : T_b.heap = h_b) (Z_b : n0 ≤ h_b.size) (Bt_b : own_Bt Z n0 h_b b81 b29 (own_r b37 b52 b67) v7_23 x3 w9_23 0), own_Fin p e below G (T_b.setTop (mkF m 136 #[.val (.int p0), .val (.int p1), .val (.int p2), .val (.long x3), .second, .val (.long x4), .second, .val (.int v7_23), .val (.int v8_23), .val (.long w9_23), .second, .val (.ref b24), .val (.ref b29), .val (.ref b81), .unset, .unset, .unset, .unset] [])) := by
      intro T_b locs_b N_b X_b h_b e_b Z_b Bt_b
      have Eb_b := own_Bt.exa Bt_b
      rcases own_4 jh0_23 with hp | hp | hp | hp
      · subst hp
        show own_Fin p e below G (T_b.setTop (mkF m 136 #[.val (.int p0), .val (.int p1), .val (.int p2), .val (.long x3), .second, .val (.long x4), .second, .val (.int v7_23), .val (.int (0 : Int32)), .val (.long w9_23), .second, .val (.ref b24), .val (.ref b29), .val (.ref b81), .unset, .unset, .unset, .unset] []))
        refine own_iload X_b hx (hb hby at_136) rfl ?_
        refine own_iconst X_b hx (1) (hb hby at_138) rfl ?_
        have hc139 : (0 : Int32) < (1 : Int32) := by decide
        refine own_to (fun _ kz => XS.icmpYes X_b.here hx rfl (pc0 := 139) (pc' := 163) rfl (hb hby at_139) rfl (tlt hc139).1 (by decide) (by decide) kz) ?_
        show own_Fin p e below G (T_b.setTop (mkF m 163 #[.val (.int p0), .val (.int p1), .val (.int p2), .val (.long x3), .second, .val (.long x4), .second, .val (.int v7_23), .val (.int (0 : Int32)), .val (.long w9_23), .second, .val (.ref b24), .val (.ref b29), .val (.ref b81), .unset, .unset, .unset, .unset] []))
        refine own_iload X_b hx (hb hby at_163) rfl ?_
        refine own_iconst X_b hx (2) (hb hby at_165) rfl ?_
        have hc166 : (0 : Int32) < (2 : Int32) := by decide
        refine own_to (fun _ kz => XS.icmpYes X_b.here hx rfl (pc0 := 166) (pc' := 190) rfl (hb hby at_166) rfl (tlt hc166).1 (by decide) (by decide) kz) ?_
        show own_Fin p e below G (T_b.setTop (mkF m 190 #[.val (.int p0), .val (.int p1), .val (.int p2), .val (.long x3), .second, .val (.long x4), .second, .val (.int v7_23), .val (.int (0 : Int32)), .val (.long w9_23), .second, .val (.ref b24), .val (.ref b29), .val (.ref b81), .unset, .unset, .unset, .unset] []))
        refine own_iload X_b hx (hb hby at_190) rfl ?_
        refine own_iconst X_b hx (3) (hb hby at_192) rfl ?_
        have hc193 : (0 : Int32) < (3 : Int32) := by decide
        refine own_to (fun _ kz => XS.icmpYes X_b.here hx rfl (pc0 := 193) (pc' := 217) rfl (hb hby at_193) rfl (tlt hc193).1 (by decide) (by decide) kz) ?_
        show own_Fin p e below G (T_b.setTop (mkF m 217 #[.val (.int p0), .val (.int p1), .val (.int p2), .val (.long x3), .second, .val (.long x4), .second, .val (.int v7_23), .val (.int (0 : Int32)), .val (.long w9_23), .second, .val (.ref b24), .val (.ref b29), .val (.ref b81), .unset, .unset, .unset, .unset] []))
        refine own_iconst X_b hx (3) (hb hby at_217) rfl ?_
        refine own_to (fun _ kz => XS.istore X_b.here hx rfl (hb hby at_218) rfl (l' := #[.val (.int p0), .val (.int p1), .val (.int p2), .val (.long x3), .second, .val (.long x4), .second, .val (.int v7_23), .val (.int (0 : Int32)), .val (.long w9_23), .second, .val (.ref b24), .val (.ref b29), .val (.ref b81), .val (.int (3 : Int32)), .unset, .unset, .unset]) rfl kz) ?_
        show own_Fin p e below G (T_b.setTop (mkF m 220 #[.val (.int p0), .val (.int p1), .val (.int p2), .val (.long x3), .second, .val (.long x4), .second, .val (.int v7_23), .val (.int (0 : Int32)), .val (.long w9_23), .second, .val (.ref b24), .val (.ref b29), .val (.ref b81), .val (.int (3 : Int32)), .unset, .unset, .unset] []))
        refine own_iload X_b hx (hb hby at_220) rfl ?_
        refine own_iconst X_b hx (2) (hb hby at_222) rfl ?_
        have hc223 : ¬ ((2 : Int32) < (0 : Int32)) := by decide
        refine own_to (fun _ kz => XS.icmpNo X_b.here hx rfl (hb hby at_223) rfl (flt hc223).2.2.1 kz) ?_
        show own_Fin p e below G (T_b.setTop (mkF m 226 #[.val (.int p0), .val (.int p1), .val (.int p2), .val (.long x3), .second, .val (.long x4), .second, .val (.int v7_23), .val (.int (0 : Int32)), .val (.long w9_23), .second, .val (.ref b24), .val (.ref b29), .val (.ref b81), .val (.int (3 : Int32)), .unset, .unset, .unset] []))
        refine own_iload X_b hx (hb hby at_226) rfl ?_
        refine own_iconst X_b hx (2) (hb hby at_228) rfl ?_
        obtain ⟨_, _, ⟨T229, L229, k229, n229⟩, -, X229, ⟨Lc229, hQ229, l229, y229, z229⟩, st229⟩ := Jvm.LawKit.callS X_b hx (y := own_y11) hown (mvT hZ (own_w hw 84 rfl)) (mvT hZ (own_w hw 85 rfl)) (mvT hZ (own_w hw 82 rfl)) (mvT hZ (own_w hw 86 rfl)) (by decide) (backOf (W := 0) (rm11 l Z a0 hw [] v7_23 (2 : Int32) h_b n0 Z_b) hZ (own_w hw 86 rfl) (own_w hw 82 rfl) (by decide) (by decide)) (g := (mkF m 229 #[.val (.int p0), .val (.int p1), .val (.int p2), .val (.long x3), .second, .val (.long x4), .second, .val (.int v7_23), .val (.int (0 : Int32)), .val (.long w9_23), .second, .val (.ref b24), .val (.ref b29), .val (.ref b81), .val (.int (3 : Int32)), .unset, .unset, .unset] [(.int (2 : Int32)), (.int v7_23)])) rfl (by rw [hml]; rfl) (argsL := [(.int v7_23), (.int (2 : Int32))]) (rest := []) (lenOf own_pd11 rfl) rfl (by show 2 * 0 + _ ≤ _; exact Nat.le_of_eq rfl) (hb hby at_229) (fun _ _ => ⟨rfl, e_b, (by decide : 12 + 0 ≤ _), (by decide : 80 + 0 ≤ _)⟩)
        dsimp only [Pt.U, Pt.locs, Pt.cells, Pt.slots] at X229 l229 y229 z229 st229 hQ229
        subst l229 y229 z229
        obtain ⟨rfl, N229q, e229⟩ := hQ229
        obtain ⟨lo229, X229, N229⟩ : ∃ lo, Stand p l e _ s m _ below meth c T229 lo _ _ ∧ Fr n0 lo := ⟨_, X229, Fr.app N_b N229q⟩
        refine own_to st229 ?_
        show own_Fin p e below G (T229.setTop (mkF m 232 #[.val (.int p0), .val (.int p1), .val (.int p2), .val (.long x3), .second, .val (.long x4), .second, .val (.int v7_23), .val (.int (0 : Int32)), .val (.long w9_23), .second, .val (.ref b24), .val (.ref b29), .val (.ref b81), .val (.int (3 : Int32)), .unset, .unset, .unset] [(.int (f11 v7_23 (2 : Int32)))]))
        by_cases hc232 : (f11 v7_23 (2 : Int32)) = (0 : Int32)
        · refine own_to (fun _ kz => XS.ifYes X229.here hx rfl (pc0 := 232) (pc' := 238) rfl (hb hby at_232) rfl ((if0 _ _).trans (teq hc232).1) (by decide) (by decide) kz) ?_
          show own_Fin p e below G (T229.setTop (mkF m 238 #[.val (.int p0), .val (.int p1), .val (.int p2), .val (.long x3), .second, .val (.long x4), .second, .val (.int v7_23), .val (.int (0 : Int32)), .val (.long w9_23), .second, .val (.ref b24), .val (.ref b29), .val (.ref b81), .val (.int (3 : Int32)), .unset, .unset, .unset] []))
          refine own_iload X229 hx (hb hby at_238) rfl ?_
          refine own_iconst X229 hx (1) (hb hby at_240) rfl ?_
          have hc241 : ¬ ((1 : Int32) < (0 : Int32)) := by decide
          refine own_to (fun _ kz => XS.icmpNo X229.here hx rfl (hb hby at_241) rfl (flt hc241).2.2.1 kz) ?_
          show own_Fin p e below G (T229.setTop (mkF m 244 #[.val (.int p0), .val (.int p1), .val (.int p2), .val (.long x3), .second, .val (.long x4), .second, .val (.int v7_23), .val (.int (0 : Int32)), .val (.long w9_23), .second, .val (.ref b24), .val (.ref b29), .val (.ref b81), .val (.int (3 : Int32)), .unset, .unset, .unset] []))
          refine own_iload X229 hx (hb hby at_244) rfl ?_
          refine own_iconst X229 hx (1) (hb hby at_246) rfl ?_
          obtain ⟨_, _, ⟨T247, L247, k247, n247⟩, -, X247, ⟨Lc247, hQ247, l247, y247, z247⟩, st247⟩ := Jvm.LawKit.callS X229 hx (y := own_y11) hown (mvT hZ (own_w hw 84 rfl)) (mvT hZ (own_w hw 85 rfl)) (mvT hZ (own_w hw 82 rfl)) (mvT hZ (own_w hw 86 rfl)) (by decide) (backOf (W := 0) (rm11 l Z a0 hw [] v7_23 (1 : Int32) h_b n0 Z_b) hZ (own_w hw 86 rfl) (own_w hw 82 rfl) (by decide) (by decide)) (g := (mkF m 247 #[.val (.int p0), .val (.int p1), .val (.int p2), .val (.long x3), .second, .val (.long x4), .second, .val (.int v7_23), .val (.int (0 : Int32)), .val (.long w9_23), .second, .val (.ref b24), .val (.ref b29), .val (.ref b81), .val (.int (3 : Int32)), .unset, .unset, .unset] [(.int (1 : Int32)), (.int v7_23)])) rfl (by rw [hml]; rfl) (argsL := [(.int v7_23), (.int (1 : Int32))]) (rest := []) (lenOf own_pd11 rfl) rfl (by show 2 * 0 + _ ≤ _; exact Nat.le_of_eq rfl) (hb hby at_247) (fun _ _ => ⟨rfl, e229, (by decide : 12 + 0 ≤ _), (by decide : 80 + 0 ≤ _)⟩)
          dsimp only [Pt.U, Pt.locs, Pt.cells, Pt.slots] at X247 l247 y247 z247 st247 hQ247
          subst l247 y247 z247
          obtain ⟨rfl, N247q, e247⟩ := hQ247
          obtain ⟨lo247, X247, N247⟩ : ∃ lo, Stand p l e _ s m _ below meth c T247 lo _ _ ∧ Fr n0 lo := ⟨_, X247, Fr.app N229 N247q⟩
          refine own_to st247 ?_
          show own_Fin p e below G (T247.setTop (mkF m 250 #[.val (.int p0), .val (.int p1), .val (.int p2), .val (.long x3), .second, .val (.long x4), .second, .val (.int v7_23), .val (.int (0 : Int32)), .val (.long w9_23), .second, .val (.ref b24), .val (.ref b29), .val (.ref b81), .val (.int (3 : Int32)), .unset, .unset, .unset] [(.int (f11 v7_23 (1 : Int32)))]))
          by_cases hc250 : (f11 v7_23 (1 : Int32)) = (0 : Int32)
          · refine own_to (fun _ kz => XS.ifYes X247.here hx rfl (pc0 := 250) (pc' := 256) rfl (hb hby at_250) rfl ((if0 _ _).trans (teq hc250).1) (by decide) (by decide) kz) ?_
            show own_Fin p e below G (T247.setTop (mkF m 256 #[.val (.int p0), .val (.int p1), .val (.int p2), .val (.long x3), .second, .val (.long x4), .second, .val (.int v7_23), .val (.int (0 : Int32)), .val (.long w9_23), .second, .val (.ref b24), .val (.ref b29), .val (.ref b81), .val (.int (3 : Int32)), .unset, .unset, .unset] []))
            refine own_iload X247 hx (hb hby at_256) rfl ?_
            have hc258 : ¬ ((0 : Int32) < (0 : Int32)) := by decide
            refine own_to (fun _ kz => XS.ifNo X247.here hx rfl (hb hby at_258) rfl ((if0 _ _).trans (flt hc258).2.2.1) kz) ?_
            show own_Fin p e below G (T247.setTop (mkF m 261 #[.val (.int p0), .val (.int p1), .val (.int p2), .val (.long x3), .second, .val (.long x4), .second, .val (.int v7_23), .val (.int (0 : Int32)), .val (.long w9_23), .second, .val (.ref b24), .val (.ref b29), .val (.ref b81), .val (.int (3 : Int32)), .unset, .unset, .unset] []))
            refine own_iload X247 hx (hb hby at_261) rfl ?_
            refine own_iconst X247 hx (0) (hb hby at_263) rfl ?_
            obtain ⟨_, _, ⟨T264, L264, k264, n264⟩, -, X264, ⟨Lc264, hQ264, l264, y264, z264⟩, st264⟩ := Jvm.LawKit.callS X247 hx (y := own_y11) hown (mvT hZ (own_w hw 84 rfl)) (mvT hZ (own_w hw 85 rfl)) (mvT hZ (own_w hw 82 rfl)) (mvT hZ (own_w hw 86 rfl)) (by decide) (backOf (W := 0) (rm11 l Z a0 hw [] v7_23 (0 : Int32) h_b n0 Z_b) hZ (own_w hw 86 rfl) (own_w hw 82 rfl) (by decide) (by decide)) (g := (mkF m 264 #[.val (.int p0), .val (.int p1), .val (.int p2), .val (.long x3), .second, .val (.long x4), .second, .val (.int v7_23), .val (.int (0 : Int32)), .val (.long w9_23), .second, .val (.ref b24), .val (.ref b29), .val (.ref b81), .val (.int (3 : Int32)), .unset, .unset, .unset] [(.int (0 : Int32)), (.int v7_23)])) rfl (by rw [hml]; rfl) (argsL := [(.int v7_23), (.int (0 : Int32))]) (rest := []) (lenOf own_pd11 rfl) rfl (by show 2 * 0 + _ ≤ _; exact Nat.le_of_eq rfl) (hb hby at_264) (fun _ _ => ⟨rfl, e247, (by decide : 12 + 0 ≤ _), (by decide : 80 + 0 ≤ _)⟩)
            dsimp only [Pt.U, Pt.locs, Pt.cells, Pt.slots] at X264 l264 y264 z264 st264 hQ264
            subst l264 y264 z264
            obtain ⟨rfl, N264q, e264⟩ := hQ264
            obtain ⟨lo264, X264, N264⟩ : ∃ lo, Stand p l e _ s m _ below meth c T264 lo _ _ ∧ Fr n0 lo := ⟨_, X264, Fr.app N247 N264q⟩
            refine own_to st264 ?_
            show own_Fin p e below G (T264.setTop (mkF m 267 #[.val (.int p0), .val (.int p1), .val (.int p2), .val (.long x3), .second, .val (.long x4), .second, .val (.int v7_23), .val (.int (0 : Int32)), .val (.long w9_23), .second, .val (.ref b24), .val (.ref b29), .val (.ref b81), .val (.int (3 : Int32)), .unset, .unset, .unset] [(.int (f11 v7_23 (0 : Int32)))]))
            by_cases hc267 : (f11 v7_23 (0 : Int32)) = (0 : Int32)
            · refine own_to (fun _ kz => XS.ifYes X264.here hx rfl (pc0 := 267) (pc' := 273) rfl (hb hby at_267) rfl ((if0 _ _).trans (teq hc267).1) (by decide) (by decide) kz) ?_
              show own_Fin p e below G (T264.setTop (mkF m 273 #[.val (.int p0), .val (.int p1), .val (.int p2), .val (.long x3), .second, .val (.long x4), .second, .val (.int v7_23), .val (.int (0 : Int32)), .val (.long w9_23), .second, .val (.ref b24), .val (.ref b29), .val (.ref b81), .val (.int (3 : Int32)), .unset, .unset, .unset] []))
              exact K273 0 3 (by decide) (by simp [own_stop, hc232, hc250, hc267]) _ _ N264 (X264.more (by decide) (by decide)) _ e264 Z_b Bt_b
            · refine own_to (fun _ kz => XS.ifNo X264.here hx rfl (hb hby at_267) rfl ((if0 _ _).trans (feq hc267).1) kz) ?_
              show own_Fin p e below G (T264.setTop (mkF m 270 #[.val (.int p0), .val (.int p1), .val (.int p2), .val (.long x3), .second, .val (.long x4), .second, .val (.int v7_23), .val (.int (0 : Int32)), .val (.long w9_23), .second, .val (.ref b24), .val (.ref b29), .val (.ref b81), .val (.int (3 : Int32)), .unset, .unset, .unset] []))
              refine own_iconst X264 hx (0) (hb hby at_270) rfl ?_
              refine own_to (fun _ kz => XS.istore X264.here hx rfl (hb hby at_271) rfl (l' := #[.val (.int p0), .val (.int p1), .val (.int p2), .val (.long x3), .second, .val (.long x4), .second, .val (.int v7_23), .val (.int (0 : Int32)), .val (.long w9_23), .second, .val (.ref b24), .val (.ref b29), .val (.ref b81), .val (.int (0 : Int32)), .unset, .unset, .unset]) rfl kz) ?_
              show own_Fin p e below G (T264.setTop (mkF m 273 #[.val (.int p0), .val (.int p1), .val (.int p2), .val (.long x3), .second, .val (.long x4), .second, .val (.int v7_23), .val (.int (0 : Int32)), .val (.long w9_23), .second, .val (.ref b24), .val (.ref b29), .val (.ref b81), .val (.int (0 : Int32)), .unset, .unset, .unset] []))
              exact K273 0 0 (by decide) (by simp [own_stop, hc232, hc250, hc267]) _ _ N264 (X264.more (by decide) (by decide)) _ e264 Z_b Bt_b
          · refine own_to (fun _ kz => XS.ifNo X247.here hx rfl (hb hby at_250) rfl ((if0 _ _).trans (feq hc250).1) kz) ?_
            show own_Fin p e below G (T247.setTop (mkF m 253 #[.val (.int p0), .val (.int p1), .val (.int p2), .val (.long x3), .second, .val (.long x4), .second, .val (.int v7_23), .val (.int (0 : Int32)), .val (.long w9_23), .second, .val (.ref b24), .val (.ref b29), .val (.ref b81), .val (.int (3 : Int32)), .unset, .unset, .unset] []))
            refine own_iconst X247 hx (1) (hb hby at_253) rfl ?_
            refine own_to (fun _ kz => XS.istore X247.here hx rfl (hb hby at_254) rfl (l' := #[.val (.int p0), .val (.int p1), .val (.int p2), .val (.long x3), .second, .val (.long x4), .second, .val (.int v7_23), .val (.int (0 : Int32)), .val (.long w9_23), .second, .val (.ref b24), .val (.ref b29), .val (.ref b81), .val (.int (1 : Int32)), .unset, .unset, .unset]) rfl kz) ?_
            show own_Fin p e below G (T247.setTop (mkF m 256 #[.val (.int p0), .val (.int p1), .val (.int p2), .val (.long x3), .second, .val (.long x4), .second, .val (.int v7_23), .val (.int (0 : Int32)), .val (.long w9_23), .second, .val (.ref b24), .val (.ref b29), .val (.ref b81), .val (.int (1 : Int32)), .unset, .unset, .unset] []))
            refine own_iload X247 hx (hb hby at_256) rfl ?_
            have hc258 : ¬ ((0 : Int32) < (0 : Int32)) := by decide
            refine own_to (fun _ kz => XS.ifNo X247.here hx rfl (hb hby at_258) rfl ((if0 _ _).trans (flt hc258).2.2.1) kz) ?_
            show own_Fin p e below G (T247.setTop (mkF m 261 #[.val (.int p0), .val (.int p1), .val (.int p2), .val (.long x3), .second, .val (.long x4), .second, .val (.int v7_23), .val (.int (0 : Int32)), .val (.long w9_23), .second, .val (.ref b24), .val (.ref b29), .val (.ref b81), .val (.int (1 : Int32)), .unset, .unset, .unset] []))
            refine own_iload X247 hx (hb hby at_261) rfl ?_
            refine own_iconst X247 hx (0) (hb hby at_263) rfl ?_
            obtain ⟨_, _, ⟨T264, L264, k264, n264⟩, -, X264, ⟨Lc264, hQ264, l264, y264, z264⟩, st264⟩ := Jvm.LawKit.callS X247 hx (y := own_y11) hown (mvT hZ (own_w hw 84 rfl)) (mvT hZ (own_w hw 85 rfl)) (mvT hZ (own_w hw 82 rfl)) (mvT hZ (own_w hw 86 rfl)) (by decide) (backOf (W := 0) (rm11 l Z a0 hw [] v7_23 (0 : Int32) h_b n0 Z_b) hZ (own_w hw 86 rfl) (own_w hw 82 rfl) (by decide) (by decide)) (g := (mkF m 264 #[.val (.int p0), .val (.int p1), .val (.int p2), .val (.long x3), .second, .val (.long x4), .second, .val (.int v7_23), .val (.int (0 : Int32)), .val (.long w9_23), .second, .val (.ref b24), .val (.ref b29), .val (.ref b81), .val (.int (1 : Int32)), .unset, .unset, .unset] [(.int (0 : Int32)), (.int v7_23)])) rfl (by rw [hml]; rfl) (argsL := [(.int v7_23), (.int (0 : Int32))]) (rest := []) (lenOf own_pd11 rfl) rfl (by show 2 * 0 + _ ≤ _; exact Nat.le_of_eq rfl) (hb hby at_264) (fun _ _ => ⟨rfl, e247, (by decide : 12 + 0 ≤ _), (by decide : 80 + 0 ≤ _)⟩)
            dsimp only [Pt.U, Pt.locs, Pt.cells, Pt.slots] at X264 l264 y264 z264 st264 hQ264
            subst l264 y264 z264
            obtain ⟨rfl, N264q, e264⟩ := hQ264
            obtain ⟨lo264, X264, N264⟩ : ∃ lo, Stand p l e _ s m _ below meth c T264 lo _ _ ∧ Fr n0 lo := ⟨_, X264, Fr.app N247 N264q⟩
            refine own_to st264 ?_
            show own_Fin p e below G (T264.setTop (mkF m 267 #[.val (.int p0), .val (.int p1), .val (.int p2), .val (.long x3), .second, .val (.long x4), .second, .val (.int v7_23), .val (.int (0 : Int32)), .val (.long w9_23), .second, .val (.ref b24), .val (.ref b29), .val (.ref b81), .val (.int (1 : Int32)), .unset, .unset, .unset] [(.int (f11 v7_23 (0 : Int32)))]))
            by_cases hc267 : (f11 v7_23 (0 : Int32)) = (0 : Int32)
            · refine own_to (fun _ kz => XS.ifYes X264.here hx rfl (pc0 := 267) (pc' := 273) rfl (hb hby at_267) rfl ((if0 _ _).trans (teq hc267).1) (by decide) (by decide) kz) ?_
              show own_Fin p e below G (T264.setTop (mkF m 273 #[.val (.int p0), .val (.int p1), .val (.int p2), .val (.long x3), .second, .val (.long x4), .second, .val (.int v7_23), .val (.int (0 : Int32)), .val (.long w9_23), .second, .val (.ref b24), .val (.ref b29), .val (.ref b81), .val (.int (1 : Int32)), .unset, .unset, .unset] []))
              exact K273 0 1 (by decide) (by simp [own_stop, hc232, hc250, hc267]) _ _ N264 (X264.more (by decide) (by decide)) _ e264 Z_b Bt_b
            · refine own_to (fun _ kz => XS.ifNo X264.here hx rfl (hb hby at_267) rfl ((if0 _ _).trans (feq hc267).1) kz) ?_
              show own_Fin p e below G (T264.setTop (mkF m 270 #[.val (.int p0), .val (.int p1), .val (.int p2), .val (.long x3), .second, .val (.long x4), .second, .val (.int v7_23), .val (.int (0 : Int32)), .val (.long w9_23), .second, .val (.ref b24), .val (.ref b29), .val (.ref b81), .val (.int (1 : Int32)), .unset, .unset, .unset] []))
              refine own_iconst X264 hx (0) (hb hby at_270) rfl ?_
              refine own_to (fun _ kz => XS.istore X264.here hx rfl (hb hby at_271) rfl (l' := #[.val (.int p0), .val (.int p1), .val (.int p2), .val (.long x3), .second, .val (.long x4), .second, .val (.int v7_23), .val (.int (0 : Int32)), .val (.long w9_23), .second, .val (.ref b24), .val (.ref b29), .val (.ref b81), .val (.int (0 : Int32)), .unset, .unset, .unset]) rfl kz) ?_
              show own_Fin p e below G (T264.setTop (mkF m 273 #[.val (.int p0), .val (.int p1), .val (.int p2), .val (.long x3), .second, .val (.long x4), .second, .val (.int v7_23), .val (.int (0 : Int32)), .val (.long w9_23), .second, .val (.ref b24), .val (.ref b29), .val (.ref b81), .val (.int (0 : Int32)), .unset, .unset, .unset] []))
              exact K273 0 0 (by decide) (by simp [own_stop, hc232, hc250, hc267]) _ _ N264 (X264.more (by decide) (by decide)) _ e264 Z_b Bt_b
        · refine own_to (fun _ kz => XS.ifNo X229.here hx rfl (hb hby at_232) rfl ((if0 _ _).trans (feq hc232).1) kz) ?_
          show own_Fin p e below G (T229.setTop (mkF m 235 #[.val (.int p0), .val (.int p1), .val (.int p2), .val (.long x3), .second, .val (.long x4), .second, .val (.int v7_23), .val (.int (0 : Int32)), .val (.long w9_23), .second, .val (.ref b24), .val (.ref b29), .val (.ref b81), .val (.int (3 : Int32)), .unset, .unset, .unset] []))
          refine own_iconst X229 hx (2) (hb hby at_235) rfl ?_
          refine own_to (fun _ kz => XS.istore X229.here hx rfl (hb hby at_236) rfl (l' := #[.val (.int p0), .val (.int p1), .val (.int p2), .val (.long x3), .second, .val (.long x4), .second, .val (.int v7_23), .val (.int (0 : Int32)), .val (.long w9_23), .second, .val (.ref b24), .val (.ref b29), .val (.ref b81), .val (.int (2 : Int32)), .unset, .unset, .unset]) rfl kz) ?_
          show own_Fin p e below G (T229.setTop (mkF m 238 #[.val (.int p0), .val (.int p1), .val (.int p2), .val (.long x3), .second, .val (.long x4), .second, .val (.int v7_23), .val (.int (0 : Int32)), .val (.long w9_23), .second, .val (.ref b24), .val (.ref b29), .val (.ref b81), .val (.int (2 : Int32)), .unset, .unset, .unset] []))
          refine own_iload X229 hx (hb hby at_238) rfl ?_
          refine own_iconst X229 hx (1) (hb hby at_240) rfl ?_
          have hc241 : ¬ ((1 : Int32) < (0 : Int32)) := by decide
          refine own_to (fun _ kz => XS.icmpNo X229.here hx rfl (hb hby at_241) rfl (flt hc241).2.2.1 kz) ?_
          show own_Fin p e below G (T229.setTop (mkF m 244 #[.val (.int p0), .val (.int p1), .val (.int p2), .val (.long x3), .second, .val (.long x4), .second, .val (.int v7_23), .val (.int (0 : Int32)), .val (.long w9_23), .second, .val (.ref b24), .val (.ref b29), .val (.ref b81), .val (.int (2 : Int32)), .unset, .unset, .unset] []))
          refine own_iload X229 hx (hb hby at_244) rfl ?_
          refine own_iconst X229 hx (1) (hb hby at_246) rfl ?_
          obtain ⟨_, _, ⟨T247, L247, k247, n247⟩, -, X247, ⟨Lc247, hQ247, l247, y247, z247⟩, st247⟩ := Jvm.LawKit.callS X229 hx (y := own_y11) hown (mvT hZ (own_w hw 84 rfl)) (mvT hZ (own_w hw 85 rfl)) (mvT hZ (own_w hw 82 rfl)) (mvT hZ (own_w hw 86 rfl)) (by decide) (backOf (W := 0) (rm11 l Z a0 hw [] v7_23 (1 : Int32) h_b n0 Z_b) hZ (own_w hw 86 rfl) (own_w hw 82 rfl) (by decide) (by decide)) (g := (mkF m 247 #[.val (.int p0), .val (.int p1), .val (.int p2), .val (.long x3), .second, .val (.long x4), .second, .val (.int v7_23), .val (.int (0 : Int32)), .val (.long w9_23), .second, .val (.ref b24), .val (.ref b29), .val (.ref b81), .val (.int (2 : Int32)), .unset, .unset, .unset] [(.int (1 : Int32)), (.int v7_23)])) rfl (by rw [hml]; rfl) (argsL := [(.int v7_23), (.int (1 : Int32))]) (rest := []) (lenOf own_pd11 rfl) rfl (by show 2 * 0 + _ ≤ _; exact Nat.le_of_eq rfl) (hb hby at_247) (fun _ _ => ⟨rfl, e229, (by decide : 12 + 0 ≤ _), (by decide : 80 + 0 ≤ _)⟩)
          dsimp only [Pt.U, Pt.locs, Pt.cells, Pt.slots] at X247 l247 y247 z247 st247 hQ247
          subst l247 y247 z247
          obtain ⟨rfl, N247q, e247⟩ := hQ247
          obtain ⟨lo247, X247, N247⟩ : ∃ lo, Stand p l e _ s m _ below meth c T247 lo _ _ ∧ Fr n0 lo := ⟨_, X247, Fr.app N229 N247q⟩
          refine own_to st247 ?_
          show own_Fin p e below G (T247.setTop (mkF m 250 #[.val (.int p0), .val (.int p1), .val (.int p2), .val (.long x3), .second, .val (.long x4), .second, .val (.int v7_23), .val (.int (0 : Int32)), .val (.long w9_23), .second, .val (.ref b24), .val (.ref b29), .val (.ref b81), .val (.int (2 : Int32)), .unset, .unset, .unset] [(.int (f11 v7_23 (1 : Int32)))]))
          by_cases hc250 : (f11 v7_23 (1 : Int32)) = (0 : Int32)
          · refine own_to (fun _ kz => XS.ifYes X247.here hx rfl (pc0 := 250) (pc' := 256) rfl (hb hby at_250) rfl ((if0 _ _).trans (teq hc250).1) (by decide) (by decide) kz) ?_
            show own_Fin p e below G (T247.setTop (mkF m 256 #[.val (.int p0), .val (.int p1), .val (.int p2), .val (.long x3), .second, .val (.long x4), .second, .val (.int v7_23), .val (.int (0 : Int32)), .val (.long w9_23), .second, .val (.ref b24), .val (.ref b29), .val (.ref b81), .val (.int (2 : Int32)), .unset, .unset, .unset] []))
            refine own_iload X247 hx (hb hby at_256) rfl ?_
            have hc258 : ¬ ((0 : Int32) < (0 : Int32)) := by decide
            refine own_to (fun _ kz => XS.ifNo X247.here hx rfl (hb hby at_258) rfl ((if0 _ _).trans (flt hc258).2.2.1) kz) ?_
            show own_Fin p e below G (T247.setTop (mkF m 261 #[.val (.int p0), .val (.int p1), .val (.int p2), .val (.long x3), .second, .val (.long x4), .second, .val (.int v7_23), .val (.int (0 : Int32)), .val (.long w9_23), .second, .val (.ref b24), .val (.ref b29), .val (.ref b81), .val (.int (2 : Int32)), .unset, .unset, .unset] []))
            refine own_iload X247 hx (hb hby at_261) rfl ?_
            refine own_iconst X247 hx (0) (hb hby at_263) rfl ?_
            obtain ⟨_, _, ⟨T264, L264, k264, n264⟩, -, X264, ⟨Lc264, hQ264, l264, y264, z264⟩, st264⟩ := Jvm.LawKit.callS X247 hx (y := own_y11) hown (mvT hZ (own_w hw 84 rfl)) (mvT hZ (own_w hw 85 rfl)) (mvT hZ (own_w hw 82 rfl)) (mvT hZ (own_w hw 86 rfl)) (by decide) (backOf (W := 0) (rm11 l Z a0 hw [] v7_23 (0 : Int32) h_b n0 Z_b) hZ (own_w hw 86 rfl) (own_w hw 82 rfl) (by decide) (by decide)) (g := (mkF m 264 #[.val (.int p0), .val (.int p1), .val (.int p2), .val (.long x3), .second, .val (.long x4), .second, .val (.int v7_23), .val (.int (0 : Int32)), .val (.long w9_23), .second, .val (.ref b24), .val (.ref b29), .val (.ref b81), .val (.int (2 : Int32)), .unset, .unset, .unset] [(.int (0 : Int32)), (.int v7_23)])) rfl (by rw [hml]; rfl) (argsL := [(.int v7_23), (.int (0 : Int32))]) (rest := []) (lenOf own_pd11 rfl) rfl (by show 2 * 0 + _ ≤ _; exact Nat.le_of_eq rfl) (hb hby at_264) (fun _ _ => ⟨rfl, e247, (by decide : 12 + 0 ≤ _), (by decide : 80 + 0 ≤ _)⟩)
            dsimp only [Pt.U, Pt.locs, Pt.cells, Pt.slots] at X264 l264 y264 z264 st264 hQ264
            subst l264 y264 z264
            obtain ⟨rfl, N264q, e264⟩ := hQ264
            obtain ⟨lo264, X264, N264⟩ : ∃ lo, Stand p l e _ s m _ below meth c T264 lo _ _ ∧ Fr n0 lo := ⟨_, X264, Fr.app N247 N264q⟩
            refine own_to st264 ?_
            show own_Fin p e below G (T264.setTop (mkF m 267 #[.val (.int p0), .val (.int p1), .val (.int p2), .val (.long x3), .second, .val (.long x4), .second, .val (.int v7_23), .val (.int (0 : Int32)), .val (.long w9_23), .second, .val (.ref b24), .val (.ref b29), .val (.ref b81), .val (.int (2 : Int32)), .unset, .unset, .unset] [(.int (f11 v7_23 (0 : Int32)))]))
            by_cases hc267 : (f11 v7_23 (0 : Int32)) = (0 : Int32)
            · refine own_to (fun _ kz => XS.ifYes X264.here hx rfl (pc0 := 267) (pc' := 273) rfl (hb hby at_267) rfl ((if0 _ _).trans (teq hc267).1) (by decide) (by decide) kz) ?_
              show own_Fin p e below G (T264.setTop (mkF m 273 #[.val (.int p0), .val (.int p1), .val (.int p2), .val (.long x3), .second, .val (.long x4), .second, .val (.int v7_23), .val (.int (0 : Int32)), .val (.long w9_23), .second, .val (.ref b24), .val (.ref b29), .val (.ref b81), .val (.int (2 : Int32)), .unset, .unset, .unset] []))
              exact K273 0 2 (by decide) (by simp [own_stop, hc232, hc250, hc267]) _ _ N264 (X264.more (by decide) (by decide)) _ e264 Z_b Bt_b
            · refine own_to (fun _ kz => XS.ifNo X264.here hx rfl (hb hby at_267) rfl ((if0 _ _).trans (feq hc267).1) kz) ?_
              show own_Fin p e below G (T264.setTop (mkF m 270 #[.val (.int p0), .val (.int p1), .val (.int p2), .val (.long x3), .second, .val (.long x4), .second, .val (.int v7_23), .val (.int (0 : Int32)), .val (.long w9_23), .second, .val (.ref b24), .val (.ref b29), .val (.ref b81), .val (.int (2 : Int32)), .unset, .unset, .unset] []))
              refine own_iconst X264 hx (0) (hb hby at_270) rfl ?_
              refine own_to (fun _ kz => XS.istore X264.here hx rfl (hb hby at_271) rfl (l' := #[.val (.int p0), .val (.int p1), .val (.int p2), .val (.long x3), .second, .val (.long x4), .second, .val (.int v7_23), .val (.int (0 : Int32)), .val (.long w9_23), .second, .val (.ref b24), .val (.ref b29), .val (.ref b81), .val (.int (0 : Int32)), .unset, .unset, .unset]) rfl kz) ?_
              show own_Fin p e below G (T264.setTop (mkF m 273 #[.val (.int p0), .val (.int p1), .val (.int p2), .val (.long x3), .second, .val (.long x4), .second, .val (.int v7_23), .val (.int (0 : Int32)), .val (.long w9_23), .second, .val (.ref b24), .val (.ref b29), .val (.ref b81), .val (.int (0 : Int32)), .unset, .unset, .unset] []))
              exact K273 0 0 (by decide) (by simp [own_stop, hc232, hc250, hc267]) _ _ N264 (X264.more (by decide) (by decide)) _ e264 Z_b Bt_b
          · refine own_to (fun _ kz => XS.ifNo X247.here hx rfl (hb hby at_250) rfl ((if0 _ _).trans (feq hc250).1) kz) ?_
            show own_Fin p e below G (T247.setTop (mkF m 253 #[.val (.int p0), .val (.int p1), .val (.int p2), .val (.long x3), .second, .val (.long x4), .second, .val (.int v7_23), .val (.int (0 : Int32)), .val (.long w9_23), .second, .val (.ref b24), .val (.ref b29), .val (.ref b81), .val (.int (2 : Int32)), .unset, .unset, .unset] []))
            refine own_iconst X247 hx (1) (hb hby at_253) rfl ?_
            refine own_to (fun _ kz => XS.istore X247.here hx rfl (hb hby at_254) rfl (l' := #[.val (.int p0), .val (.int p1), .val (.int p2), .val (.long x3), .second, .val (.long x4), .second, .val (.int v7_23), .val (.int (0 : Int32)), .val (.long w9_23), .second, .val (.ref b24), .val (.ref b29), .val (.ref b81), .val (.int (1 : Int32)), .unset, .unset, .unset]) rfl kz) ?_
            show own_Fin p e below G (T247.setTop (mkF m 256 #[.val (.int p0), .val (.int p1), .val (.int p2), .val (.long x3), .second, .val (.long x4), .second, .val (.int v7_23), .val (.int (0 : Int32)), .val (.long w9_23), .second, .val (.ref b24), .val (.ref b29), .val (.ref b81), .val (.int (1 : Int32)), .unset, .unset, .unset] []))
            refine own_iload X247 hx (hb hby at_256) rfl ?_
            have hc258 : ¬ ((0 : Int32) < (0 : Int32)) := by decide
            refine own_to (fun _ kz => XS.ifNo X247.here hx rfl (hb hby at_258) rfl ((if0 _ _).trans (flt hc258).2.2.1) kz) ?_
            show own_Fin p e below G (T247.setTop (mkF m 261 #[.val (.int p0), .val (.int p1), .val (.int p2), .val (.long x3), .second, .val (.long x4), .second, .val (.int v7_23), .val (.int (0 : Int32)), .val (.long w9_23), .second, .val (.ref b24), .val (.ref b29), .val (.ref b81), .val (.int (1 : Int32)), .unset, .unset, .unset] []))
            refine own_iload X247 hx (hb hby at_261) rfl ?_
            refine own_iconst X247 hx (0) (hb hby at_263) rfl ?_
            obtain ⟨_, _, ⟨T264, L264, k264, n264⟩, -, X264, ⟨Lc264, hQ264, l264, y264, z264⟩, st264⟩ := Jvm.LawKit.callS X247 hx (y := own_y11) hown (mvT hZ (own_w hw 84 rfl)) (mvT hZ (own_w hw 85 rfl)) (mvT hZ (own_w hw 82 rfl)) (mvT hZ (own_w hw 86 rfl)) (by decide) (backOf (W := 0) (rm11 l Z a0 hw [] v7_23 (0 : Int32) h_b n0 Z_b) hZ (own_w hw 86 rfl) (own_w hw 82 rfl) (by decide) (by decide)) (g := (mkF m 264 #[.val (.int p0), .val (.int p1), .val (.int p2), .val (.long x3), .second, .val (.long x4), .second, .val (.int v7_23), .val (.int (0 : Int32)), .val (.long w9_23), .second, .val (.ref b24), .val (.ref b29), .val (.ref b81), .val (.int (1 : Int32)), .unset, .unset, .unset] [(.int (0 : Int32)), (.int v7_23)])) rfl (by rw [hml]; rfl) (argsL := [(.int v7_23), (.int (0 : Int32))]) (rest := []) (lenOf own_pd11 rfl) rfl (by show 2 * 0 + _ ≤ _; exact Nat.le_of_eq rfl) (hb hby at_264) (fun _ _ => ⟨rfl, e247, (by decide : 12 + 0 ≤ _), (by decide : 80 + 0 ≤ _)⟩)
            dsimp only [Pt.U, Pt.locs, Pt.cells, Pt.slots] at X264 l264 y264 z264 st264 hQ264
            subst l264 y264 z264
            obtain ⟨rfl, N264q, e264⟩ := hQ264
            obtain ⟨lo264, X264, N264⟩ : ∃ lo, Stand p l e _ s m _ below meth c T264 lo _ _ ∧ Fr n0 lo := ⟨_, X264, Fr.app N247 N264q⟩
            refine own_to st264 ?_
            show own_Fin p e below G (T264.setTop (mkF m 267 #[.val (.int p0), .val (.int p1), .val (.int p2), .val (.long x3), .second, .val (.long x4), .second, .val (.int v7_23), .val (.int (0 : Int32)), .val (.long w9_23), .second, .val (.ref b24), .val (.ref b29), .val (.ref b81), .val (.int (1 : Int32)), .unset, .unset, .unset] [(.int (f11 v7_23 (0 : Int32)))]))
            by_cases hc267 : (f11 v7_23 (0 : Int32)) = (0 : Int32)
            · refine own_to (fun _ kz => XS.ifYes X264.here hx rfl (pc0 := 267) (pc' := 273) rfl (hb hby at_267) rfl ((if0 _ _).trans (teq hc267).1) (by decide) (by decide) kz) ?_
              show own_Fin p e below G (T264.setTop (mkF m 273 #[.val (.int p0), .val (.int p1), .val (.int p2), .val (.long x3), .second, .val (.long x4), .second, .val (.int v7_23), .val (.int (0 : Int32)), .val (.long w9_23), .second, .val (.ref b24), .val (.ref b29), .val (.ref b81), .val (.int (1 : Int32)), .unset, .unset, .unset] []))
              exact K273 0 1 (by decide) (by simp [own_stop, hc232, hc250, hc267]) _ _ N264 (X264.more (by decide) (by decide)) _ e264 Z_b Bt_b
            · refine own_to (fun _ kz => XS.ifNo X264.here hx rfl (hb hby at_267) rfl ((if0 _ _).trans (feq hc267).1) kz) ?_
              show own_Fin p e below G (T264.setTop (mkF m 270 #[.val (.int p0), .val (.int p1), .val (.int p2), .val (.long x3), .second, .val (.long x4), .second, .val (.int v7_23), .val (.int (0 : Int32)), .val (.long w9_23), .second, .val (.ref b24), .val (.ref b29), .val (.ref b81), .val (.int (1 : Int32)), .unset, .unset, .unset] []))
              refine own_iconst X264 hx (0) (hb hby at_270) rfl ?_
              refine own_to (fun _ kz => XS.istore X264.here hx rfl (hb hby at_271) rfl (l' := #[.val (.int p0), .val (.int p1), .val (.int p2), .val (.long x3), .second, .val (.long x4), .second, .val (.int v7_23), .val (.int (0 : Int32)), .val (.long w9_23), .second, .val (.ref b24), .val (.ref b29), .val (.ref b81), .val (.int (0 : Int32)), .unset, .unset, .unset]) rfl kz) ?_
              show own_Fin p e below G (T264.setTop (mkF m 273 #[.val (.int p0), .val (.int p1), .val (.int p2), .val (.long x3), .second, .val (.long x4), .second, .val (.int v7_23), .val (.int (0 : Int32)), .val (.long w9_23), .second, .val (.ref b24), .val (.ref b29), .val (.ref b81), .val (.int (0 : Int32)), .unset, .unset, .unset] []))
              exact K273 0 0 (by decide) (by simp [own_stop, hc232, hc250, hc267]) _ _ N264 (X264.more (by decide) (by decide)) _ e264 Z_b Bt_b
      · subst hp
        show own_Fin p e below G (T_b.setTop (mkF m 136 #[.val (.int p0), .val (.int p1), .val (.int p2), .val (.long x3), .second, .val (.long x4), .second, .val (.int v7_23), .val (.int (1 : Int32)), .val (.long w9_23), .second, .val (.ref b24), .val (.ref b29), .val (.ref b81), .unset, .unset, .unset, .unset] []))
        refine own_iload X_b hx (hb hby at_136) rfl ?_
        refine own_iconst X_b hx (1) (hb hby at_138) rfl ?_
        have hc139 : ¬ ((1 : Int32) < (1 : Int32)) := by decide
        refine own_to (fun _ kz => XS.icmpNo X_b.here hx rfl (hb hby at_139) rfl (flt hc139).1 kz) ?_
        show own_Fin p e below G (T_b.setTop (mkF m 142 #[.val (.int p0), .val (.int p1), .val (.int p2), .val (.long x3), .second, .val (.long x4), .second, .val (.int v7_23), .val (.int (1 : Int32)), .val (.long w9_23), .second, .val (.ref b24), .val (.ref b29), .val (.ref b81), .unset, .unset, .unset, .unset] []))
        refine own_aload X_b hx (hb hby at_142) rfl (rfl) ?_
        obtain ⟨cq144, kq144, qa144, qb144, qc144⟩ := isOf hZ e_b Eb_b
        obtain ⟨_, _, ⟨T144, L144, k144, n144⟩, -, X144, ⟨Lc144, hQ144, l144, y144, z144⟩, st144⟩ := X_b.virtualBack hx (y := own_y25) (z := own_y25) hown (mvT hZ (own_w hw 166 rfl)) (mvT hZ (own_w hw 167 rfl)) (notFace_of_selects (args := #[]) (mvT hZ (own_w hw 169 rfl))) (mvT hZ (own_w hw 169 rfl)) (mvT hZ (own_w hw 168 rfl)) (by decide) (backOf (W := 0) (rmT l Z a0 hw b81 b29 (own_r b37 b52 b67) v7_23 x3 w9_23 0 h_b n0 Z_b jh1_23 (by decide) Bt_b) hZ (own_w hw 170 rfl) (own_w hw 31 rfl) (by decide) (by decide)) qa144 qc144 (g := (mkF m 144 #[.val (.int p0), .val (.int p1), .val (.int p2), .val (.long x3), .second, .val (.long x4), .second, .val (.int v7_23), .val (.int (1 : Int32)), .val (.long w9_23), .second, .val (.ref b24), .val (.ref b29), .val (.ref b81), .unset, .unset, .unset, .unset] [(.ref b81)])) rfl (by rw [hml]; rfl) (Steps.refl _) (argsL := []) (rest := []) (lenOf own_pd19 rfl) rfl (by show 2 * 0 + _ ≤ _; exact Nat.le_of_eq rfl) (hb hby at_144) (fun _ _ => ⟨rfl, e_b, (by decide : 12 + 1 ≤ _), (by decide : 80 + 2 ≤ _)⟩)
        dsimp only [Pt.U, Pt.locs, Pt.cells, Pt.slots] at X144 l144 y144 z144 st144 hQ144
        subst l144 y144 z144
        obtain ⟨en144, rfl, N144q, Kp144, Bq144, En144⟩ := hQ144
        have Bt144 : own_Bt Z n0 T144.heap b81 b29 (own_r b37 b52 b67) v7_23 x3 w9_23 1 := Bq144
        obtain ⟨lo144, X144, N144⟩ : ∃ lo, Stand p l e _ s m _ below meth c T144 lo _ _ ∧ Fr n0 lo := ⟨_, X144, Fr.app N_b N144q⟩
        refine own_via st144 ?_
        show own_Fin p e below G (T144.setTop (mkF m 147 #[.val (.int p0), .val (.int p1), .val (.int p2), .val (.long x3), .second, .val (.long x4), .second, .val (.int v7_23), .val (.int (1 : Int32)), .val (.long w9_23), .second, .val (.ref b24), .val (.ref b29), .val (.ref b81), .unset, .unset, .unset, .unset] [en144]))
        refine own_iconst X144 hx (0) (hb hby at_147) rfl ?_
        refine own_iload X144 hx (hb hby at_148) rfl ?_
        refine own_aload X144 hx (hb hby at_150) rfl (rfl) ?_
        refine own_lloadN X144 hx (hb hby at_152) rfl ?_
        refine own_lload X144 hx (hb hby at_153) rfl ?_
        have Zz_155_Kp144 := Nat.le_trans Z_b Kp144.1
        have Z_155 : n0 ≤ T144.heap.size := Zz_155_Kp144
        obtain ⟨_, _, ⟨T155, L155, k155, n155⟩, -, X155, ⟨Lc155, hQ155, l155, y155, z155⟩, st155⟩ := Jvm.LawKit.callS X144 hx (y := own_y27) hown (mvT hZ (own_w hw 184 rfl)) (mvT hZ (own_w hw 185 rfl)) (mvT hZ (own_w hw 82 rfl)) (mvT hZ (own_w hw 186 rfl)) (by decide) (backOf (W := 0) (rmM l Z a0 hw b81 b29 (own_r b37 b52 b67) v7_23 x3 w9_23 1 0 en144 T144.heap n0 Z_155 Bt144 (by decide) En144) hZ (own_w hw 186 rfl) (own_w hw 82 rfl) (by decide) (by decide)) (g := (mkF m 155 #[.val (.int p0), .val (.int p1), .val (.int p2), .val (.long x3), .second, .val (.long x4), .second, .val (.int v7_23), .val (.int (1 : Int32)), .val (.long w9_23), .second, .val (.ref b24), .val (.ref b29), .val (.ref b81), .unset, .unset, .unset, .unset] [(.long w9_23), (.long x3), (.ref b29), (.int v7_23), (.int (0 : Int32)), en144])) rfl (by rw [hml]; rfl) (argsL := [en144, (.int (0 : Int32)), (.int v7_23), (.ref b29), (.long x3), (.long w9_23)]) (rest := []) (lenOf own_pd20 rfl) rfl (by show 2 * 0 + _ ≤ _; exact Nat.le_of_eq rfl) (hb hby at_155) (fun _ _ => ⟨rfl, rfl, (by decide : 13 + 0 ≤ _), (by decide : 82 + 0 ≤ _)⟩)
        dsimp only [Pt.U, Pt.locs, Pt.cells, Pt.slots] at X155 l155 y155 z155 st155 hQ155
        subst l155 y155 z155
        obtain ⟨rfl, N155q, e155⟩ := hQ155
        obtain ⟨lo155, X155, N155⟩ : ∃ lo, Stand p l e _ s m _ below meth c T155 lo _ _ ∧ Fr n0 lo := ⟨_, X155, Fr.app N144 N155q⟩
        refine own_to st155 ?_
        show own_Fin p e below G (T155.setTop (mkF m 158 #[.val (.int p0), .val (.int p1), .val (.int p2), .val (.long x3), .second, .val (.long x4), .second, .val (.int v7_23), .val (.int (1 : Int32)), .val (.long w9_23), .second, .val (.ref b24), .val (.ref b29), .val (.ref b81), .unset, .unset, .unset, .unset] [(.int (1 : Int32))]))
        have hc158 : ¬ ((1 : Int32) = (0 : Int32)) := by decide
        refine own_to (fun _ kz => XS.ifYes X155.here hx rfl (pc0 := 158) (pc' := 163) rfl (hb hby at_158) rfl ((if0 _ _).trans (feq hc158).2) (by decide) (by decide) kz) ?_
        show own_Fin p e below G (T155.setTop (mkF m 163 #[.val (.int p0), .val (.int p1), .val (.int p2), .val (.long x3), .second, .val (.long x4), .second, .val (.int v7_23), .val (.int (1 : Int32)), .val (.long w9_23), .second, .val (.ref b24), .val (.ref b29), .val (.ref b81), .unset, .unset, .unset, .unset] []))
        refine own_iload X155 hx (hb hby at_163) rfl ?_
        refine own_iconst X155 hx (2) (hb hby at_165) rfl ?_
        have hc166 : (1 : Int32) < (2 : Int32) := by decide
        refine own_to (fun _ kz => XS.icmpYes X155.here hx rfl (pc0 := 166) (pc' := 190) rfl (hb hby at_166) rfl (tlt hc166).1 (by decide) (by decide) kz) ?_
        show own_Fin p e below G (T155.setTop (mkF m 190 #[.val (.int p0), .val (.int p1), .val (.int p2), .val (.long x3), .second, .val (.long x4), .second, .val (.int v7_23), .val (.int (1 : Int32)), .val (.long w9_23), .second, .val (.ref b24), .val (.ref b29), .val (.ref b81), .unset, .unset, .unset, .unset] []))
        refine own_iload X155 hx (hb hby at_190) rfl ?_
        refine own_iconst X155 hx (3) (hb hby at_192) rfl ?_
        have hc193 : (1 : Int32) < (3 : Int32) := by decide
        refine own_to (fun _ kz => XS.icmpYes X155.here hx rfl (pc0 := 193) (pc' := 217) rfl (hb hby at_193) rfl (tlt hc193).1 (by decide) (by decide) kz) ?_
        show own_Fin p e below G (T155.setTop (mkF m 217 #[.val (.int p0), .val (.int p1), .val (.int p2), .val (.long x3), .second, .val (.long x4), .second, .val (.int v7_23), .val (.int (1 : Int32)), .val (.long w9_23), .second, .val (.ref b24), .val (.ref b29), .val (.ref b81), .unset, .unset, .unset, .unset] []))
        refine own_iconst X155 hx (3) (hb hby at_217) rfl ?_
        refine own_to (fun _ kz => XS.istore X155.here hx rfl (hb hby at_218) rfl (l' := #[.val (.int p0), .val (.int p1), .val (.int p2), .val (.long x3), .second, .val (.long x4), .second, .val (.int v7_23), .val (.int (1 : Int32)), .val (.long w9_23), .second, .val (.ref b24), .val (.ref b29), .val (.ref b81), .val (.int (3 : Int32)), .unset, .unset, .unset]) rfl kz) ?_
        show own_Fin p e below G (T155.setTop (mkF m 220 #[.val (.int p0), .val (.int p1), .val (.int p2), .val (.long x3), .second, .val (.long x4), .second, .val (.int v7_23), .val (.int (1 : Int32)), .val (.long w9_23), .second, .val (.ref b24), .val (.ref b29), .val (.ref b81), .val (.int (3 : Int32)), .unset, .unset, .unset] []))
        refine own_iload X155 hx (hb hby at_220) rfl ?_
        refine own_iconst X155 hx (2) (hb hby at_222) rfl ?_
        have hc223 : ¬ ((2 : Int32) < (1 : Int32)) := by decide
        refine own_to (fun _ kz => XS.icmpNo X155.here hx rfl (hb hby at_223) rfl (flt hc223).2.2.1 kz) ?_
        show own_Fin p e below G (T155.setTop (mkF m 226 #[.val (.int p0), .val (.int p1), .val (.int p2), .val (.long x3), .second, .val (.long x4), .second, .val (.int v7_23), .val (.int (1 : Int32)), .val (.long w9_23), .second, .val (.ref b24), .val (.ref b29), .val (.ref b81), .val (.int (3 : Int32)), .unset, .unset, .unset] []))
        refine own_iload X155 hx (hb hby at_226) rfl ?_
        refine own_iconst X155 hx (2) (hb hby at_228) rfl ?_
        obtain ⟨_, _, ⟨T229, L229, k229, n229⟩, -, X229, ⟨Lc229, hQ229, l229, y229, z229⟩, st229⟩ := Jvm.LawKit.callS X155 hx (y := own_y11) hown (mvT hZ (own_w hw 84 rfl)) (mvT hZ (own_w hw 85 rfl)) (mvT hZ (own_w hw 82 rfl)) (mvT hZ (own_w hw 86 rfl)) (by decide) (backOf (W := 0) (rm11 l Z a0 hw [] v7_23 (2 : Int32) T144.heap n0 Z_155) hZ (own_w hw 86 rfl) (own_w hw 82 rfl) (by decide) (by decide)) (g := (mkF m 229 #[.val (.int p0), .val (.int p1), .val (.int p2), .val (.long x3), .second, .val (.long x4), .second, .val (.int v7_23), .val (.int (1 : Int32)), .val (.long w9_23), .second, .val (.ref b24), .val (.ref b29), .val (.ref b81), .val (.int (3 : Int32)), .unset, .unset, .unset] [(.int (2 : Int32)), (.int v7_23)])) rfl (by rw [hml]; rfl) (argsL := [(.int v7_23), (.int (2 : Int32))]) (rest := []) (lenOf own_pd11 rfl) rfl (by show 2 * 0 + _ ≤ _; exact Nat.le_of_eq rfl) (hb hby at_229) (fun _ _ => ⟨rfl, e155, (by decide : 13 + 0 ≤ _), (by decide : 82 + 0 ≤ _)⟩)
        dsimp only [Pt.U, Pt.locs, Pt.cells, Pt.slots] at X229 l229 y229 z229 st229 hQ229
        subst l229 y229 z229
        obtain ⟨rfl, N229q, e229⟩ := hQ229
        obtain ⟨lo229, X229, N229⟩ : ∃ lo, Stand p l e _ s m _ below meth c T229 lo _ _ ∧ Fr n0 lo := ⟨_, X229, Fr.app N155 N229q⟩
        refine own_to st229 ?_
        show own_Fin p e below G (T229.setTop (mkF m 232 #[.val (.int p0), .val (.int p1), .val (.int p2), .val (.long x3), .second, .val (.long x4), .second, .val (.int v7_23), .val (.int (1 : Int32)), .val (.long w9_23), .second, .val (.ref b24), .val (.ref b29), .val (.ref b81), .val (.int (3 : Int32)), .unset, .unset, .unset] [(.int (f11 v7_23 (2 : Int32)))]))
        by_cases hc232 : (f11 v7_23 (2 : Int32)) = (0 : Int32)
        · refine own_to (fun _ kz => XS.ifYes X229.here hx rfl (pc0 := 232) (pc' := 238) rfl (hb hby at_232) rfl ((if0 _ _).trans (teq hc232).1) (by decide) (by decide) kz) ?_
          show own_Fin p e below G (T229.setTop (mkF m 238 #[.val (.int p0), .val (.int p1), .val (.int p2), .val (.long x3), .second, .val (.long x4), .second, .val (.int v7_23), .val (.int (1 : Int32)), .val (.long w9_23), .second, .val (.ref b24), .val (.ref b29), .val (.ref b81), .val (.int (3 : Int32)), .unset, .unset, .unset] []))
          refine own_iload X229 hx (hb hby at_238) rfl ?_
          refine own_iconst X229 hx (1) (hb hby at_240) rfl ?_
          have hc241 : ¬ ((1 : Int32) < (1 : Int32)) := by decide
          refine own_to (fun _ kz => XS.icmpNo X229.here hx rfl (hb hby at_241) rfl (flt hc241).2.2.1 kz) ?_
          show own_Fin p e below G (T229.setTop (mkF m 244 #[.val (.int p0), .val (.int p1), .val (.int p2), .val (.long x3), .second, .val (.long x4), .second, .val (.int v7_23), .val (.int (1 : Int32)), .val (.long w9_23), .second, .val (.ref b24), .val (.ref b29), .val (.ref b81), .val (.int (3 : Int32)), .unset, .unset, .unset] []))
          refine own_iload X229 hx (hb hby at_244) rfl ?_
          refine own_iconst X229 hx (1) (hb hby at_246) rfl ?_
          obtain ⟨_, _, ⟨T247, L247, k247, n247⟩, -, X247, ⟨Lc247, hQ247, l247, y247, z247⟩, st247⟩ := Jvm.LawKit.callS X229 hx (y := own_y11) hown (mvT hZ (own_w hw 84 rfl)) (mvT hZ (own_w hw 85 rfl)) (mvT hZ (own_w hw 82 rfl)) (mvT hZ (own_w hw 86 rfl)) (by decide) (backOf (W := 0) (rm11 l Z a0 hw [] v7_23 (1 : Int32) T144.heap n0 Z_155) hZ (own_w hw 86 rfl) (own_w hw 82 rfl) (by decide) (by decide)) (g := (mkF m 247 #[.val (.int p0), .val (.int p1), .val (.int p2), .val (.long x3), .second, .val (.long x4), .second, .val (.int v7_23), .val (.int (1 : Int32)), .val (.long w9_23), .second, .val (.ref b24), .val (.ref b29), .val (.ref b81), .val (.int (3 : Int32)), .unset, .unset, .unset] [(.int (1 : Int32)), (.int v7_23)])) rfl (by rw [hml]; rfl) (argsL := [(.int v7_23), (.int (1 : Int32))]) (rest := []) (lenOf own_pd11 rfl) rfl (by show 2 * 0 + _ ≤ _; exact Nat.le_of_eq rfl) (hb hby at_247) (fun _ _ => ⟨rfl, e229, (by decide : 13 + 0 ≤ _), (by decide : 82 + 0 ≤ _)⟩)
          dsimp only [Pt.U, Pt.locs, Pt.cells, Pt.slots] at X247 l247 y247 z247 st247 hQ247
          subst l247 y247 z247
          obtain ⟨rfl, N247q, e247⟩ := hQ247
          obtain ⟨lo247, X247, N247⟩ : ∃ lo, Stand p l e _ s m _ below meth c T247 lo _ _ ∧ Fr n0 lo := ⟨_, X247, Fr.app N229 N247q⟩
          refine own_to st247 ?_
          show own_Fin p e below G (T247.setTop (mkF m 250 #[.val (.int p0), .val (.int p1), .val (.int p2), .val (.long x3), .second, .val (.long x4), .second, .val (.int v7_23), .val (.int (1 : Int32)), .val (.long w9_23), .second, .val (.ref b24), .val (.ref b29), .val (.ref b81), .val (.int (3 : Int32)), .unset, .unset, .unset] [(.int (f11 v7_23 (1 : Int32)))]))
          by_cases hc250 : (f11 v7_23 (1 : Int32)) = (0 : Int32)
          · refine own_to (fun _ kz => XS.ifYes X247.here hx rfl (pc0 := 250) (pc' := 256) rfl (hb hby at_250) rfl ((if0 _ _).trans (teq hc250).1) (by decide) (by decide) kz) ?_
            show own_Fin p e below G (T247.setTop (mkF m 256 #[.val (.int p0), .val (.int p1), .val (.int p2), .val (.long x3), .second, .val (.long x4), .second, .val (.int v7_23), .val (.int (1 : Int32)), .val (.long w9_23), .second, .val (.ref b24), .val (.ref b29), .val (.ref b81), .val (.int (3 : Int32)), .unset, .unset, .unset] []))
            refine own_iload X247 hx (hb hby at_256) rfl ?_
            have hc258 : (0 : Int32) < (1 : Int32) := by decide
            refine own_to (fun _ kz => XS.ifYes X247.here hx rfl (pc0 := 258) (pc' := 273) rfl (hb hby at_258) rfl ((if0 _ _).trans (tlt hc258).2.2.1) (by decide) (by decide) kz) ?_
            show own_Fin p e below G (T247.setTop (mkF m 273 #[.val (.int p0), .val (.int p1), .val (.int p2), .val (.long x3), .second, .val (.long x4), .second, .val (.int v7_23), .val (.int (1 : Int32)), .val (.long w9_23), .second, .val (.ref b24), .val (.ref b29), .val (.ref b81), .val (.int (3 : Int32)), .unset, .unset, .unset] []))
            exact K273 1 3 (by decide) (by simp [own_stop, hc232, hc250]) _ _ N247 (X247.more (by decide) (by decide)) _ e247 Z_155 Bt144
          · refine own_to (fun _ kz => XS.ifNo X247.here hx rfl (hb hby at_250) rfl ((if0 _ _).trans (feq hc250).1) kz) ?_
            show own_Fin p e below G (T247.setTop (mkF m 253 #[.val (.int p0), .val (.int p1), .val (.int p2), .val (.long x3), .second, .val (.long x4), .second, .val (.int v7_23), .val (.int (1 : Int32)), .val (.long w9_23), .second, .val (.ref b24), .val (.ref b29), .val (.ref b81), .val (.int (3 : Int32)), .unset, .unset, .unset] []))
            refine own_iconst X247 hx (1) (hb hby at_253) rfl ?_
            refine own_to (fun _ kz => XS.istore X247.here hx rfl (hb hby at_254) rfl (l' := #[.val (.int p0), .val (.int p1), .val (.int p2), .val (.long x3), .second, .val (.long x4), .second, .val (.int v7_23), .val (.int (1 : Int32)), .val (.long w9_23), .second, .val (.ref b24), .val (.ref b29), .val (.ref b81), .val (.int (1 : Int32)), .unset, .unset, .unset]) rfl kz) ?_
            show own_Fin p e below G (T247.setTop (mkF m 256 #[.val (.int p0), .val (.int p1), .val (.int p2), .val (.long x3), .second, .val (.long x4), .second, .val (.int v7_23), .val (.int (1 : Int32)), .val (.long w9_23), .second, .val (.ref b24), .val (.ref b29), .val (.ref b81), .val (.int (1 : Int32)), .unset, .unset, .unset] []))
            refine own_iload X247 hx (hb hby at_256) rfl ?_
            have hc258 : (0 : Int32) < (1 : Int32) := by decide
            refine own_to (fun _ kz => XS.ifYes X247.here hx rfl (pc0 := 258) (pc' := 273) rfl (hb hby at_258) rfl ((if0 _ _).trans (tlt hc258).2.2.1) (by decide) (by decide) kz) ?_
            show own_Fin p e below G (T247.setTop (mkF m 273 #[.val (.int p0), .val (.int p1), .val (.int p2), .val (.long x3), .second, .val (.long x4), .second, .val (.int v7_23), .val (.int (1 : Int32)), .val (.long w9_23), .second, .val (.ref b24), .val (.ref b29), .val (.ref b81), .val (.int (1 : Int32)), .unset, .unset, .unset] []))
            exact K273 1 1 (by decide) (by simp [own_stop, hc232, hc250]) _ _ N247 (X247.more (by decide) (by decide)) _ e247 Z_155 Bt144
        · refine own_to (fun _ kz => XS.ifNo X229.here hx rfl (hb hby at_232) rfl ((if0 _ _).trans (feq hc232).1) kz) ?_
          show own_Fin p e below G (T229.setTop (mkF m 235 #[.val (.int p0), .val (.int p1), .val (.int p2), .val (.long x3), .second, .val (.long x4), .second, .val (.int v7_23), .val (.int (1 : Int32)), .val (.long w9_23), .second, .val (.ref b24), .val (.ref b29), .val (.ref b81), .val (.int (3 : Int32)), .unset, .unset, .unset] []))
          refine own_iconst X229 hx (2) (hb hby at_235) rfl ?_
          refine own_to (fun _ kz => XS.istore X229.here hx rfl (hb hby at_236) rfl (l' := #[.val (.int p0), .val (.int p1), .val (.int p2), .val (.long x3), .second, .val (.long x4), .second, .val (.int v7_23), .val (.int (1 : Int32)), .val (.long w9_23), .second, .val (.ref b24), .val (.ref b29), .val (.ref b81), .val (.int (2 : Int32)), .unset, .unset, .unset]) rfl kz) ?_
          show own_Fin p e below G (T229.setTop (mkF m 238 #[.val (.int p0), .val (.int p1), .val (.int p2), .val (.long x3), .second, .val (.long x4), .second, .val (.int v7_23), .val (.int (1 : Int32)), .val (.long w9_23), .second, .val (.ref b24), .val (.ref b29), .val (.ref b81), .val (.int (2 : Int32)), .unset, .unset, .unset] []))
          refine own_iload X229 hx (hb hby at_238) rfl ?_
          refine own_iconst X229 hx (1) (hb hby at_240) rfl ?_
          have hc241 : ¬ ((1 : Int32) < (1 : Int32)) := by decide
          refine own_to (fun _ kz => XS.icmpNo X229.here hx rfl (hb hby at_241) rfl (flt hc241).2.2.1 kz) ?_
          show own_Fin p e below G (T229.setTop (mkF m 244 #[.val (.int p0), .val (.int p1), .val (.int p2), .val (.long x3), .second, .val (.long x4), .second, .val (.int v7_23), .val (.int (1 : Int32)), .val (.long w9_23), .second, .val (.ref b24), .val (.ref b29), .val (.ref b81), .val (.int (2 : Int32)), .unset, .unset, .unset] []))
          refine own_iload X229 hx (hb hby at_244) rfl ?_
          refine own_iconst X229 hx (1) (hb hby at_246) rfl ?_
          obtain ⟨_, _, ⟨T247, L247, k247, n247⟩, -, X247, ⟨Lc247, hQ247, l247, y247, z247⟩, st247⟩ := Jvm.LawKit.callS X229 hx (y := own_y11) hown (mvT hZ (own_w hw 84 rfl)) (mvT hZ (own_w hw 85 rfl)) (mvT hZ (own_w hw 82 rfl)) (mvT hZ (own_w hw 86 rfl)) (by decide) (backOf (W := 0) (rm11 l Z a0 hw [] v7_23 (1 : Int32) T144.heap n0 Z_155) hZ (own_w hw 86 rfl) (own_w hw 82 rfl) (by decide) (by decide)) (g := (mkF m 247 #[.val (.int p0), .val (.int p1), .val (.int p2), .val (.long x3), .second, .val (.long x4), .second, .val (.int v7_23), .val (.int (1 : Int32)), .val (.long w9_23), .second, .val (.ref b24), .val (.ref b29), .val (.ref b81), .val (.int (2 : Int32)), .unset, .unset, .unset] [(.int (1 : Int32)), (.int v7_23)])) rfl (by rw [hml]; rfl) (argsL := [(.int v7_23), (.int (1 : Int32))]) (rest := []) (lenOf own_pd11 rfl) rfl (by show 2 * 0 + _ ≤ _; exact Nat.le_of_eq rfl) (hb hby at_247) (fun _ _ => ⟨rfl, e229, (by decide : 13 + 0 ≤ _), (by decide : 82 + 0 ≤ _)⟩)
          dsimp only [Pt.U, Pt.locs, Pt.cells, Pt.slots] at X247 l247 y247 z247 st247 hQ247
          subst l247 y247 z247
          obtain ⟨rfl, N247q, e247⟩ := hQ247
          obtain ⟨lo247, X247, N247⟩ : ∃ lo, Stand p l e _ s m _ below meth c T247 lo _ _ ∧ Fr n0 lo := ⟨_, X247, Fr.app N229 N247q⟩
          refine own_to st247 ?_
          show own_Fin p e below G (T247.setTop (mkF m 250 #[.val (.int p0), .val (.int p1), .val (.int p2), .val (.long x3), .second, .val (.long x4), .second, .val (.int v7_23), .val (.int (1 : Int32)), .val (.long w9_23), .second, .val (.ref b24), .val (.ref b29), .val (.ref b81), .val (.int (2 : Int32)), .unset, .unset, .unset] [(.int (f11 v7_23 (1 : Int32)))]))
          by_cases hc250 : (f11 v7_23 (1 : Int32)) = (0 : Int32)
          · refine own_to (fun _ kz => XS.ifYes X247.here hx rfl (pc0 := 250) (pc' := 256) rfl (hb hby at_250) rfl ((if0 _ _).trans (teq hc250).1) (by decide) (by decide) kz) ?_
            show own_Fin p e below G (T247.setTop (mkF m 256 #[.val (.int p0), .val (.int p1), .val (.int p2), .val (.long x3), .second, .val (.long x4), .second, .val (.int v7_23), .val (.int (1 : Int32)), .val (.long w9_23), .second, .val (.ref b24), .val (.ref b29), .val (.ref b81), .val (.int (2 : Int32)), .unset, .unset, .unset] []))
            refine own_iload X247 hx (hb hby at_256) rfl ?_
            have hc258 : (0 : Int32) < (1 : Int32) := by decide
            refine own_to (fun _ kz => XS.ifYes X247.here hx rfl (pc0 := 258) (pc' := 273) rfl (hb hby at_258) rfl ((if0 _ _).trans (tlt hc258).2.2.1) (by decide) (by decide) kz) ?_
            show own_Fin p e below G (T247.setTop (mkF m 273 #[.val (.int p0), .val (.int p1), .val (.int p2), .val (.long x3), .second, .val (.long x4), .second, .val (.int v7_23), .val (.int (1 : Int32)), .val (.long w9_23), .second, .val (.ref b24), .val (.ref b29), .val (.ref b81), .val (.int (2 : Int32)), .unset, .unset, .unset] []))
            exact K273 1 2 (by decide) (by simp [own_stop, hc232, hc250]) _ _ N247 (X247.more (by decide) (by decide)) _ e247 Z_155 Bt144
          · refine own_to (fun _ kz => XS.ifNo X247.here hx rfl (hb hby at_250) rfl ((if0 _ _).trans (feq hc250).1) kz) ?_
            show own_Fin p e below G (T247.setTop (mkF m 253 #[.val (.int p0), .val (.int p1), .val (.int p2), .val (.long x3), .second, .val (.long x4), .second, .val (.int v7_23), .val (.int (1 : Int32)), .val (.long w9_23), .second, .val (.ref b24), .val (.ref b29), .val (.ref b81), .val (.int (2 : Int32)), .unset, .unset, .unset] []))
            refine own_iconst X247 hx (1) (hb hby at_253) rfl ?_
            refine own_to (fun _ kz => XS.istore X247.here hx rfl (hb hby at_254) rfl (l' := #[.val (.int p0), .val (.int p1), .val (.int p2), .val (.long x3), .second, .val (.long x4), .second, .val (.int v7_23), .val (.int (1 : Int32)), .val (.long w9_23), .second, .val (.ref b24), .val (.ref b29), .val (.ref b81), .val (.int (1 : Int32)), .unset, .unset, .unset]) rfl kz) ?_
            show own_Fin p e below G (T247.setTop (mkF m 256 #[.val (.int p0), .val (.int p1), .val (.int p2), .val (.long x3), .second, .val (.long x4), .second, .val (.int v7_23), .val (.int (1 : Int32)), .val (.long w9_23), .second, .val (.ref b24), .val (.ref b29), .val (.ref b81), .val (.int (1 : Int32)), .unset, .unset, .unset] []))
            refine own_iload X247 hx (hb hby at_256) rfl ?_
            have hc258 : (0 : Int32) < (1 : Int32) := by decide
            refine own_to (fun _ kz => XS.ifYes X247.here hx rfl (pc0 := 258) (pc' := 273) rfl (hb hby at_258) rfl ((if0 _ _).trans (tlt hc258).2.2.1) (by decide) (by decide) kz) ?_
            show own_Fin p e below G (T247.setTop (mkF m 273 #[.val (.int p0), .val (.int p1), .val (.int p2), .val (.long x3), .second, .val (.long x4), .second, .val (.int v7_23), .val (.int (1 : Int32)), .val (.long w9_23), .second, .val (.ref b24), .val (.ref b29), .val (.ref b81), .val (.int (1 : Int32)), .unset, .unset, .unset] []))
            exact K273 1 1 (by decide) (by simp [own_stop, hc232, hc250]) _ _ N247 (X247.more (by decide) (by decide)) _ e247 Z_155 Bt144
      · subst hp
        show own_Fin p e below G (T_b.setTop (mkF m 136 #[.val (.int p0), .val (.int p1), .val (.int p2), .val (.long x3), .second, .val (.long x4), .second, .val (.int v7_23), .val (.int (2 : Int32)), .val (.long w9_23), .second, .val (.ref b24), .val (.ref b29), .val (.ref b81), .unset, .unset, .unset, .unset] []))
        refine own_iload X_b hx (hb hby at_136) rfl ?_
        refine own_iconst X_b hx (1) (hb hby at_138) rfl ?_
        have hc139 : ¬ ((2 : Int32) < (1 : Int32)) := by decide
        refine own_to (fun _ kz => XS.icmpNo X_b.here hx rfl (hb hby at_139) rfl (flt hc139).1 kz) ?_
        show own_Fin p e below G (T_b.setTop (mkF m 142 #[.val (.int p0), .val (.int p1), .val (.int p2), .val (.long x3), .second, .val (.long x4), .second, .val (.int v7_23), .val (.int (2 : Int32)), .val (.long w9_23), .second, .val (.ref b24), .val (.ref b29), .val (.ref b81), .unset, .unset, .unset, .unset] []))
        refine own_aload X_b hx (hb hby at_142) rfl (rfl) ?_
        obtain ⟨cq144, kq144, qa144, qb144, qc144⟩ := isOf hZ e_b Eb_b
        obtain ⟨_, _, ⟨T144, L144, k144, n144⟩, -, X144, ⟨Lc144, hQ144, l144, y144, z144⟩, st144⟩ := X_b.virtualBack hx (y := own_y25) (z := own_y25) hown (mvT hZ (own_w hw 166 rfl)) (mvT hZ (own_w hw 167 rfl)) (notFace_of_selects (args := #[]) (mvT hZ (own_w hw 169 rfl))) (mvT hZ (own_w hw 169 rfl)) (mvT hZ (own_w hw 168 rfl)) (by decide) (backOf (W := 0) (rmT l Z a0 hw b81 b29 (own_r b37 b52 b67) v7_23 x3 w9_23 0 h_b n0 Z_b jh1_23 (by decide) Bt_b) hZ (own_w hw 170 rfl) (own_w hw 31 rfl) (by decide) (by decide)) qa144 qc144 (g := (mkF m 144 #[.val (.int p0), .val (.int p1), .val (.int p2), .val (.long x3), .second, .val (.long x4), .second, .val (.int v7_23), .val (.int (2 : Int32)), .val (.long w9_23), .second, .val (.ref b24), .val (.ref b29), .val (.ref b81), .unset, .unset, .unset, .unset] [(.ref b81)])) rfl (by rw [hml]; rfl) (Steps.refl _) (argsL := []) (rest := []) (lenOf own_pd19 rfl) rfl (by show 2 * 0 + _ ≤ _; exact Nat.le_of_eq rfl) (hb hby at_144) (fun _ _ => ⟨rfl, e_b, (by decide : 12 + 1 ≤ _), (by decide : 80 + 2 ≤ _)⟩)
        dsimp only [Pt.U, Pt.locs, Pt.cells, Pt.slots] at X144 l144 y144 z144 st144 hQ144
        subst l144 y144 z144
        obtain ⟨en144, rfl, N144q, Kp144, Bq144, En144⟩ := hQ144
        have Bt144 : own_Bt Z n0 T144.heap b81 b29 (own_r b37 b52 b67) v7_23 x3 w9_23 1 := Bq144
        obtain ⟨lo144, X144, N144⟩ : ∃ lo, Stand p l e _ s m _ below meth c T144 lo _ _ ∧ Fr n0 lo := ⟨_, X144, Fr.app N_b N144q⟩
        refine own_via st144 ?_
        show own_Fin p e below G (T144.setTop (mkF m 147 #[.val (.int p0), .val (.int p1), .val (.int p2), .val (.long x3), .second, .val (.long x4), .second, .val (.int v7_23), .val (.int (2 : Int32)), .val (.long w9_23), .second, .val (.ref b24), .val (.ref b29), .val (.ref b81), .unset, .unset, .unset, .unset] [en144]))
        refine own_iconst X144 hx (0) (hb hby at_147) rfl ?_
        refine own_iload X144 hx (hb hby at_148) rfl ?_
        refine own_aload X144 hx (hb hby at_150) rfl (rfl) ?_
        refine own_lloadN X144 hx (hb hby at_152) rfl ?_
        refine own_lload X144 hx (hb hby at_153) rfl ?_
        have Zz_155_Kp144'1 := Nat.le_trans Z_b Kp144.1
        have Z_155'1 : n0 ≤ T144.heap.size := Zz_155_Kp144'1
        obtain ⟨_, _, ⟨T155, L155, k155, n155⟩, -, X155, ⟨Lc155, hQ155, l155, y155, z155⟩, st155⟩ := Jvm.LawKit.callS X144 hx (y := own_y27) hown (mvT hZ (own_w hw 184 rfl)) (mvT hZ (own_w hw 185 rfl)) (mvT hZ (own_w hw 82 rfl)) (mvT hZ (own_w hw 186 rfl)) (by decide) (backOf (W := 0) (rmM l Z a0 hw b81 b29 (own_r b37 b52 b67) v7_23 x3 w9_23 1 0 en144 T144.heap n0 Z_155'1 Bt144 (by decide) En144) hZ (own_w hw 186 rfl) (own_w hw 82 rfl) (by decide) (by decide)) (g := (mkF m 155 #[.val (.int p0), .val (.int p1), .val (.int p2), .val (.long x3), .second, .val (.long x4), .second, .val (.int v7_23), .val (.int (2 : Int32)), .val (.long w9_23), .second, .val (.ref b24), .val (.ref b29), .val (.ref b81), .unset, .unset, .unset, .unset] [(.long w9_23), (.long x3), (.ref b29), (.int v7_23), (.int (0 : Int32)), en144])) rfl (by rw [hml]; rfl) (argsL := [en144, (.int (0 : Int32)), (.int v7_23), (.ref b29), (.long x3), (.long w9_23)]) (rest := []) (lenOf own_pd20 rfl) rfl (by show 2 * 0 + _ ≤ _; exact Nat.le_of_eq rfl) (hb hby at_155) (fun _ _ => ⟨rfl, rfl, (by decide : 13 + 0 ≤ _), (by decide : 82 + 0 ≤ _)⟩)
        dsimp only [Pt.U, Pt.locs, Pt.cells, Pt.slots] at X155 l155 y155 z155 st155 hQ155
        subst l155 y155 z155
        obtain ⟨rfl, N155q, e155⟩ := hQ155
        obtain ⟨lo155, X155, N155⟩ : ∃ lo, Stand p l e _ s m _ below meth c T155 lo _ _ ∧ Fr n0 lo := ⟨_, X155, Fr.app N144 N155q⟩
        refine own_to st155 ?_
        show own_Fin p e below G (T155.setTop (mkF m 158 #[.val (.int p0), .val (.int p1), .val (.int p2), .val (.long x3), .second, .val (.long x4), .second, .val (.int v7_23), .val (.int (2 : Int32)), .val (.long w9_23), .second, .val (.ref b24), .val (.ref b29), .val (.ref b81), .unset, .unset, .unset, .unset] [(.int (1 : Int32))]))
        have hc158 : ¬ ((1 : Int32) = (0 : Int32)) := by decide
        refine own_to (fun _ kz => XS.ifYes X155.here hx rfl (pc0 := 158) (pc' := 163) rfl (hb hby at_158) rfl ((if0 _ _).trans (feq hc158).2) (by decide) (by decide) kz) ?_
        show own_Fin p e below G (T155.setTop (mkF m 163 #[.val (.int p0), .val (.int p1), .val (.int p2), .val (.long x3), .second, .val (.long x4), .second, .val (.int v7_23), .val (.int (2 : Int32)), .val (.long w9_23), .second, .val (.ref b24), .val (.ref b29), .val (.ref b81), .unset, .unset, .unset, .unset] []))
        refine own_iload X155 hx (hb hby at_163) rfl ?_
        refine own_iconst X155 hx (2) (hb hby at_165) rfl ?_
        have hc166 : ¬ ((2 : Int32) < (2 : Int32)) := by decide
        refine own_to (fun _ kz => XS.icmpNo X155.here hx rfl (hb hby at_166) rfl (flt hc166).1 kz) ?_
        show own_Fin p e below G (T155.setTop (mkF m 169 #[.val (.int p0), .val (.int p1), .val (.int p2), .val (.long x3), .second, .val (.long x4), .second, .val (.int v7_23), .val (.int (2 : Int32)), .val (.long w9_23), .second, .val (.ref b24), .val (.ref b29), .val (.ref b81), .unset, .unset, .unset, .unset] []))
        refine own_aload X155 hx (hb hby at_169) rfl (rfl) ?_
        have Eb_b_at_171 := (Eb_b.keep Kp144)
        obtain ⟨cq171, kq171, qa171, qb171, qc171⟩ := isOf hZ e155 Eb_b_at_171
        obtain ⟨_, _, ⟨T171, L171, k171, n171⟩, -, X171, ⟨Lc171, hQ171, l171, y171, z171⟩, st171⟩ := X155.virtualBack hx (y := own_y25) (z := own_y25) hown (mvT hZ (own_w hw 166 rfl)) (mvT hZ (own_w hw 167 rfl)) (notFace_of_selects (args := #[]) (mvT hZ (own_w hw 169 rfl))) (mvT hZ (own_w hw 169 rfl)) (mvT hZ (own_w hw 168 rfl)) (by decide) (backOf (W := 0) (rmT l Z a0 hw b81 b29 (own_r b37 b52 b67) v7_23 x3 w9_23 1 T144.heap n0 Z_155'1 jh1_23 (by decide) Bt144) hZ (own_w hw 170 rfl) (own_w hw 31 rfl) (by decide) (by decide)) qa171 qc171 (g := (mkF m 171 #[.val (.int p0), .val (.int p1), .val (.int p2), .val (.long x3), .second, .val (.long x4), .second, .val (.int v7_23), .val (.int (2 : Int32)), .val (.long w9_23), .second, .val (.ref b24), .val (.ref b29), .val (.ref b81), .unset, .unset, .unset, .unset] [(.ref b81)])) rfl (by rw [hml]; rfl) (Steps.refl _) (argsL := []) (rest := []) (lenOf own_pd19 rfl) rfl (by show 2 * 0 + _ ≤ _; exact Nat.le_of_eq rfl) (hb hby at_171) (fun _ _ => ⟨rfl, e155, (by decide : 13 + 1 ≤ _), (by decide : 82 + 2 ≤ _)⟩)
        dsimp only [Pt.U, Pt.locs, Pt.cells, Pt.slots] at X171 l171 y171 z171 st171 hQ171
        subst l171 y171 z171
        obtain ⟨en171, rfl, N171q, Kp171, Bq171, En171⟩ := hQ171
        have Bt171 : own_Bt Z n0 T171.heap b81 b29 (own_r b37 b52 b67) v7_23 x3 w9_23 2 := Bq171
        have En171_en144 := own_ent.keep En144 Kp171
        obtain ⟨lo171, X171, N171⟩ : ∃ lo, Stand p l e _ s m _ below meth c T171 lo _ _ ∧ Fr n0 lo := ⟨_, X171, Fr.app N155 N171q⟩
        refine own_via st171 ?_
        show own_Fin p e below G (T171.setTop (mkF m 174 #[.val (.int p0), .val (.int p1), .val (.int p2), .val (.long x3), .second, .val (.long x4), .second, .val (.int v7_23), .val (.int (2 : Int32)), .val (.long w9_23), .second, .val (.ref b24), .val (.ref b29), .val (.ref b81), .unset, .unset, .unset, .unset] [en171]))
        refine own_iconst X171 hx (1) (hb hby at_174) rfl ?_
        refine own_iload X171 hx (hb hby at_175) rfl ?_
        refine own_aload X171 hx (hb hby at_177) rfl (rfl) ?_
        refine own_lloadN X171 hx (hb hby at_179) rfl ?_
        refine own_lload X171 hx (hb hby at_180) rfl ?_
        have Zz_182_Kp171 := Nat.le_trans Z_155'1 Kp171.1
        have Z_182 : n0 ≤ T171.heap.size := Zz_182_Kp171
        obtain ⟨_, _, ⟨T182, L182, k182, n182⟩, -, X182, ⟨Lc182, hQ182, l182, y182, z182⟩, st182⟩ := Jvm.LawKit.callS X171 hx (y := own_y27) hown (mvT hZ (own_w hw 184 rfl)) (mvT hZ (own_w hw 185 rfl)) (mvT hZ (own_w hw 82 rfl)) (mvT hZ (own_w hw 186 rfl)) (by decide) (backOf (W := 0) (rmM l Z a0 hw b81 b29 (own_r b37 b52 b67) v7_23 x3 w9_23 2 1 en171 T171.heap n0 Z_182 Bt171 (by decide) En171) hZ (own_w hw 186 rfl) (own_w hw 82 rfl) (by decide) (by decide)) (g := (mkF m 182 #[.val (.int p0), .val (.int p1), .val (.int p2), .val (.long x3), .second, .val (.long x4), .second, .val (.int v7_23), .val (.int (2 : Int32)), .val (.long w9_23), .second, .val (.ref b24), .val (.ref b29), .val (.ref b81), .unset, .unset, .unset, .unset] [(.long w9_23), (.long x3), (.ref b29), (.int v7_23), (.int (1 : Int32)), en171])) rfl (by rw [hml]; rfl) (argsL := [en171, (.int (1 : Int32)), (.int v7_23), (.ref b29), (.long x3), (.long w9_23)]) (rest := []) (lenOf own_pd20 rfl) rfl (by show 2 * 0 + _ ≤ _; exact Nat.le_of_eq rfl) (hb hby at_182) (fun _ _ => ⟨rfl, rfl, (by decide : 14 + 0 ≤ _), (by decide : 84 + 0 ≤ _)⟩)
        dsimp only [Pt.U, Pt.locs, Pt.cells, Pt.slots] at X182 l182 y182 z182 st182 hQ182
        subst l182 y182 z182
        obtain ⟨rfl, N182q, e182⟩ := hQ182
        obtain ⟨lo182, X182, N182⟩ : ∃ lo, Stand p l e _ s m _ below meth c T182 lo _ _ ∧ Fr n0 lo := ⟨_, X182, Fr.app N171 N182q⟩
        refine own_to st182 ?_
        show own_Fin p e below G (T182.setTop (mkF m 185 #[.val (.int p0), .val (.int p1), .val (.int p2), .val (.long x3), .second, .val (.long x4), .second, .val (.int v7_23), .val (.int (2 : Int32)), .val (.long w9_23), .second, .val (.ref b24), .val (.ref b29), .val (.ref b81), .unset, .unset, .unset, .unset] [(.int (1 : Int32))]))
        have hc185 : ¬ ((1 : Int32) = (0 : Int32)) := by decide
        refine own_to (fun _ kz => XS.ifYes X182.here hx rfl (pc0 := 185) (pc' := 190) rfl (hb hby at_185) rfl ((if0 _ _).trans (feq hc185).2) (by decide) (by decide) kz) ?_
        show own_Fin p e below G (T182.setTop (mkF m 190 #[.val (.int p0), .val (.int p1), .val (.int p2), .val (.long x3), .second, .val (.long x4), .second, .val (.int v7_23), .val (.int (2 : Int32)), .val (.long w9_23), .second, .val (.ref b24), .val (.ref b29), .val (.ref b81), .unset, .unset, .unset, .unset] []))
        refine own_iload X182 hx (hb hby at_190) rfl ?_
        refine own_iconst X182 hx (3) (hb hby at_192) rfl ?_
        have hc193 : (2 : Int32) < (3 : Int32) := by decide
        refine own_to (fun _ kz => XS.icmpYes X182.here hx rfl (pc0 := 193) (pc' := 217) rfl (hb hby at_193) rfl (tlt hc193).1 (by decide) (by decide) kz) ?_
        show own_Fin p e below G (T182.setTop (mkF m 217 #[.val (.int p0), .val (.int p1), .val (.int p2), .val (.long x3), .second, .val (.long x4), .second, .val (.int v7_23), .val (.int (2 : Int32)), .val (.long w9_23), .second, .val (.ref b24), .val (.ref b29), .val (.ref b81), .unset, .unset, .unset, .unset] []))
        refine own_iconst X182 hx (3) (hb hby at_217) rfl ?_
        refine own_to (fun _ kz => XS.istore X182.here hx rfl (hb hby at_218) rfl (l' := #[.val (.int p0), .val (.int p1), .val (.int p2), .val (.long x3), .second, .val (.long x4), .second, .val (.int v7_23), .val (.int (2 : Int32)), .val (.long w9_23), .second, .val (.ref b24), .val (.ref b29), .val (.ref b81), .val (.int (3 : Int32)), .unset, .unset, .unset]) rfl kz) ?_
        show own_Fin p e below G (T182.setTop (mkF m 220 #[.val (.int p0), .val (.int p1), .val (.int p2), .val (.long x3), .second, .val (.long x4), .second, .val (.int v7_23), .val (.int (2 : Int32)), .val (.long w9_23), .second, .val (.ref b24), .val (.ref b29), .val (.ref b81), .val (.int (3 : Int32)), .unset, .unset, .unset] []))
        refine own_iload X182 hx (hb hby at_220) rfl ?_
        refine own_iconst X182 hx (2) (hb hby at_222) rfl ?_
        have hc223 : ¬ ((2 : Int32) < (2 : Int32)) := by decide
        refine own_to (fun _ kz => XS.icmpNo X182.here hx rfl (hb hby at_223) rfl (flt hc223).2.2.1 kz) ?_
        show own_Fin p e below G (T182.setTop (mkF m 226 #[.val (.int p0), .val (.int p1), .val (.int p2), .val (.long x3), .second, .val (.long x4), .second, .val (.int v7_23), .val (.int (2 : Int32)), .val (.long w9_23), .second, .val (.ref b24), .val (.ref b29), .val (.ref b81), .val (.int (3 : Int32)), .unset, .unset, .unset] []))
        refine own_iload X182 hx (hb hby at_226) rfl ?_
        refine own_iconst X182 hx (2) (hb hby at_228) rfl ?_
        obtain ⟨_, _, ⟨T229, L229, k229, n229⟩, -, X229, ⟨Lc229, hQ229, l229, y229, z229⟩, st229⟩ := Jvm.LawKit.callS X182 hx (y := own_y11) hown (mvT hZ (own_w hw 84 rfl)) (mvT hZ (own_w hw 85 rfl)) (mvT hZ (own_w hw 82 rfl)) (mvT hZ (own_w hw 86 rfl)) (by decide) (backOf (W := 0) (rm11 l Z a0 hw [] v7_23 (2 : Int32) T171.heap n0 Z_182) hZ (own_w hw 86 rfl) (own_w hw 82 rfl) (by decide) (by decide)) (g := (mkF m 229 #[.val (.int p0), .val (.int p1), .val (.int p2), .val (.long x3), .second, .val (.long x4), .second, .val (.int v7_23), .val (.int (2 : Int32)), .val (.long w9_23), .second, .val (.ref b24), .val (.ref b29), .val (.ref b81), .val (.int (3 : Int32)), .unset, .unset, .unset] [(.int (2 : Int32)), (.int v7_23)])) rfl (by rw [hml]; rfl) (argsL := [(.int v7_23), (.int (2 : Int32))]) (rest := []) (lenOf own_pd11 rfl) rfl (by show 2 * 0 + _ ≤ _; exact Nat.le_of_eq rfl) (hb hby at_229) (fun _ _ => ⟨rfl, e182, (by decide : 14 + 0 ≤ _), (by decide : 84 + 0 ≤ _)⟩)
        dsimp only [Pt.U, Pt.locs, Pt.cells, Pt.slots] at X229 l229 y229 z229 st229 hQ229
        subst l229 y229 z229
        obtain ⟨rfl, N229q, e229⟩ := hQ229
        obtain ⟨lo229, X229, N229⟩ : ∃ lo, Stand p l e _ s m _ below meth c T229 lo _ _ ∧ Fr n0 lo := ⟨_, X229, Fr.app N182 N229q⟩
        refine own_to st229 ?_
        show own_Fin p e below G (T229.setTop (mkF m 232 #[.val (.int p0), .val (.int p1), .val (.int p2), .val (.long x3), .second, .val (.long x4), .second, .val (.int v7_23), .val (.int (2 : Int32)), .val (.long w9_23), .second, .val (.ref b24), .val (.ref b29), .val (.ref b81), .val (.int (3 : Int32)), .unset, .unset, .unset] [(.int (f11 v7_23 (2 : Int32)))]))
        by_cases hc232 : (f11 v7_23 (2 : Int32)) = (0 : Int32)
        · refine own_to (fun _ kz => XS.ifYes X229.here hx rfl (pc0 := 232) (pc' := 238) rfl (hb hby at_232) rfl ((if0 _ _).trans (teq hc232).1) (by decide) (by decide) kz) ?_
          show own_Fin p e below G (T229.setTop (mkF m 238 #[.val (.int p0), .val (.int p1), .val (.int p2), .val (.long x3), .second, .val (.long x4), .second, .val (.int v7_23), .val (.int (2 : Int32)), .val (.long w9_23), .second, .val (.ref b24), .val (.ref b29), .val (.ref b81), .val (.int (3 : Int32)), .unset, .unset, .unset] []))
          refine own_iload X229 hx (hb hby at_238) rfl ?_
          refine own_iconst X229 hx (1) (hb hby at_240) rfl ?_
          have hc241 : (1 : Int32) < (2 : Int32) := by decide
          refine own_to (fun _ kz => XS.icmpYes X229.here hx rfl (pc0 := 241) (pc' := 256) rfl (hb hby at_241) rfl (tlt hc241).2.2.1 (by decide) (by decide) kz) ?_
          show own_Fin p e below G (T229.setTop (mkF m 256 #[.val (.int p0), .val (.int p1), .val (.int p2), .val (.long x3), .second, .val (.long x4), .second, .val (.int v7_23), .val (.int (2 : Int32)), .val (.long w9_23), .second, .val (.ref b24), .val (.ref b29), .val (.ref b81), .val (.int (3 : Int32)), .unset, .unset, .unset] []))
          refine own_iload X229 hx (hb hby at_256) rfl ?_
          have hc258 : (0 : Int32) < (2 : Int32) := by decide
          refine own_to (fun _ kz => XS.ifYes X229.here hx rfl (pc0 := 258) (pc' := 273) rfl (hb hby at_258) rfl ((if0 _ _).trans (tlt hc258).2.2.1) (by decide) (by decide) kz) ?_
          show own_Fin p e below G (T229.setTop (mkF m 273 #[.val (.int p0), .val (.int p1), .val (.int p2), .val (.long x3), .second, .val (.long x4), .second, .val (.int v7_23), .val (.int (2 : Int32)), .val (.long w9_23), .second, .val (.ref b24), .val (.ref b29), .val (.ref b81), .val (.int (3 : Int32)), .unset, .unset, .unset] []))
          exact K273 2 3 (by decide) (by simp [own_stop, hc232]) _ _ N229 (X229.more (by decide) (by decide)) _ e229 Z_182 Bt171
        · refine own_to (fun _ kz => XS.ifNo X229.here hx rfl (hb hby at_232) rfl ((if0 _ _).trans (feq hc232).1) kz) ?_
          show own_Fin p e below G (T229.setTop (mkF m 235 #[.val (.int p0), .val (.int p1), .val (.int p2), .val (.long x3), .second, .val (.long x4), .second, .val (.int v7_23), .val (.int (2 : Int32)), .val (.long w9_23), .second, .val (.ref b24), .val (.ref b29), .val (.ref b81), .val (.int (3 : Int32)), .unset, .unset, .unset] []))
          refine own_iconst X229 hx (2) (hb hby at_235) rfl ?_
          refine own_to (fun _ kz => XS.istore X229.here hx rfl (hb hby at_236) rfl (l' := #[.val (.int p0), .val (.int p1), .val (.int p2), .val (.long x3), .second, .val (.long x4), .second, .val (.int v7_23), .val (.int (2 : Int32)), .val (.long w9_23), .second, .val (.ref b24), .val (.ref b29), .val (.ref b81), .val (.int (2 : Int32)), .unset, .unset, .unset]) rfl kz) ?_
          show own_Fin p e below G (T229.setTop (mkF m 238 #[.val (.int p0), .val (.int p1), .val (.int p2), .val (.long x3), .second, .val (.long x4), .second, .val (.int v7_23), .val (.int (2 : Int32)), .val (.long w9_23), .second, .val (.ref b24), .val (.ref b29), .val (.ref b81), .val (.int (2 : Int32)), .unset, .unset, .unset] []))
          refine own_iload X229 hx (hb hby at_238) rfl ?_
          refine own_iconst X229 hx (1) (hb hby at_240) rfl ?_
          have hc241 : (1 : Int32) < (2 : Int32) := by decide
          refine own_to (fun _ kz => XS.icmpYes X229.here hx rfl (pc0 := 241) (pc' := 256) rfl (hb hby at_241) rfl (tlt hc241).2.2.1 (by decide) (by decide) kz) ?_
          show own_Fin p e below G (T229.setTop (mkF m 256 #[.val (.int p0), .val (.int p1), .val (.int p2), .val (.long x3), .second, .val (.long x4), .second, .val (.int v7_23), .val (.int (2 : Int32)), .val (.long w9_23), .second, .val (.ref b24), .val (.ref b29), .val (.ref b81), .val (.int (2 : Int32)), .unset, .unset, .unset] []))
          refine own_iload X229 hx (hb hby at_256) rfl ?_
          have hc258 : (0 : Int32) < (2 : Int32) := by decide
          refine own_to (fun _ kz => XS.ifYes X229.here hx rfl (pc0 := 258) (pc' := 273) rfl (hb hby at_258) rfl ((if0 _ _).trans (tlt hc258).2.2.1) (by decide) (by decide) kz) ?_
          show own_Fin p e below G (T229.setTop (mkF m 273 #[.val (.int p0), .val (.int p1), .val (.int p2), .val (.long x3), .second, .val (.long x4), .second, .val (.int v7_23), .val (.int (2 : Int32)), .val (.long w9_23), .second, .val (.ref b24), .val (.ref b29), .val (.ref b81), .val (.int (2 : Int32)), .unset, .unset, .unset] []))
          exact K273 2 2 (by decide) (by simp [own_stop, hc232]) _ _ N229 (X229.more (by decide) (by decide)) _ e229 Z_182 Bt171
      · subst hp
        show own_Fin p e below G (T_b.setTop (mkF m 136 #[.val (.int p0), .val (.int p1), .val (.int p2), .val (.long x3), .second, .val (.long x4), .second, .val (.int v7_23), .val (.int (3 : Int32)), .val (.long w9_23), .second, .val (.ref b24), .val (.ref b29), .val (.ref b81), .unset, .unset, .unset, .unset] []))
        refine own_iload X_b hx (hb hby at_136) rfl ?_
        refine own_iconst X_b hx (1) (hb hby at_138) rfl ?_
        have hc139 : ¬ ((3 : Int32) < (1 : Int32)) := by decide
        refine own_to (fun _ kz => XS.icmpNo X_b.here hx rfl (hb hby at_139) rfl (flt hc139).1 kz) ?_
        show own_Fin p e below G (T_b.setTop (mkF m 142 #[.val (.int p0), .val (.int p1), .val (.int p2), .val (.long x3), .second, .val (.long x4), .second, .val (.int v7_23), .val (.int (3 : Int32)), .val (.long w9_23), .second, .val (.ref b24), .val (.ref b29), .val (.ref b81), .unset, .unset, .unset, .unset] []))
        refine own_aload X_b hx (hb hby at_142) rfl (rfl) ?_
        obtain ⟨cq144, kq144, qa144, qb144, qc144⟩ := isOf hZ e_b Eb_b
        obtain ⟨_, _, ⟨T144, L144, k144, n144⟩, -, X144, ⟨Lc144, hQ144, l144, y144, z144⟩, st144⟩ := X_b.virtualBack hx (y := own_y25) (z := own_y25) hown (mvT hZ (own_w hw 166 rfl)) (mvT hZ (own_w hw 167 rfl)) (notFace_of_selects (args := #[]) (mvT hZ (own_w hw 169 rfl))) (mvT hZ (own_w hw 169 rfl)) (mvT hZ (own_w hw 168 rfl)) (by decide) (backOf (W := 0) (rmT l Z a0 hw b81 b29 (own_r b37 b52 b67) v7_23 x3 w9_23 0 h_b n0 Z_b jh1_23 (by decide) Bt_b) hZ (own_w hw 170 rfl) (own_w hw 31 rfl) (by decide) (by decide)) qa144 qc144 (g := (mkF m 144 #[.val (.int p0), .val (.int p1), .val (.int p2), .val (.long x3), .second, .val (.long x4), .second, .val (.int v7_23), .val (.int (3 : Int32)), .val (.long w9_23), .second, .val (.ref b24), .val (.ref b29), .val (.ref b81), .unset, .unset, .unset, .unset] [(.ref b81)])) rfl (by rw [hml]; rfl) (Steps.refl _) (argsL := []) (rest := []) (lenOf own_pd19 rfl) rfl (by show 2 * 0 + _ ≤ _; exact Nat.le_of_eq rfl) (hb hby at_144) (fun _ _ => ⟨rfl, e_b, (by decide : 12 + 1 ≤ _), (by decide : 80 + 2 ≤ _)⟩)
        dsimp only [Pt.U, Pt.locs, Pt.cells, Pt.slots] at X144 l144 y144 z144 st144 hQ144
        subst l144 y144 z144
        obtain ⟨en144, rfl, N144q, Kp144, Bq144, En144⟩ := hQ144
        have Bt144 : own_Bt Z n0 T144.heap b81 b29 (own_r b37 b52 b67) v7_23 x3 w9_23 1 := Bq144
        obtain ⟨lo144, X144, N144⟩ : ∃ lo, Stand p l e _ s m _ below meth c T144 lo _ _ ∧ Fr n0 lo := ⟨_, X144, Fr.app N_b N144q⟩
        refine own_via st144 ?_
        show own_Fin p e below G (T144.setTop (mkF m 147 #[.val (.int p0), .val (.int p1), .val (.int p2), .val (.long x3), .second, .val (.long x4), .second, .val (.int v7_23), .val (.int (3 : Int32)), .val (.long w9_23), .second, .val (.ref b24), .val (.ref b29), .val (.ref b81), .unset, .unset, .unset, .unset] [en144]))
        refine own_iconst X144 hx (0) (hb hby at_147) rfl ?_
        refine own_iload X144 hx (hb hby at_148) rfl ?_
        refine own_aload X144 hx (hb hby at_150) rfl (rfl) ?_
        refine own_lloadN X144 hx (hb hby at_152) rfl ?_
        refine own_lload X144 hx (hb hby at_153) rfl ?_
        have Zz_155_Kp144'2 := Nat.le_trans Z_b Kp144.1
        have Z_155'2 : n0 ≤ T144.heap.size := Zz_155_Kp144'2
        obtain ⟨_, _, ⟨T155, L155, k155, n155⟩, -, X155, ⟨Lc155, hQ155, l155, y155, z155⟩, st155⟩ := Jvm.LawKit.callS X144 hx (y := own_y27) hown (mvT hZ (own_w hw 184 rfl)) (mvT hZ (own_w hw 185 rfl)) (mvT hZ (own_w hw 82 rfl)) (mvT hZ (own_w hw 186 rfl)) (by decide) (backOf (W := 0) (rmM l Z a0 hw b81 b29 (own_r b37 b52 b67) v7_23 x3 w9_23 1 0 en144 T144.heap n0 Z_155'2 Bt144 (by decide) En144) hZ (own_w hw 186 rfl) (own_w hw 82 rfl) (by decide) (by decide)) (g := (mkF m 155 #[.val (.int p0), .val (.int p1), .val (.int p2), .val (.long x3), .second, .val (.long x4), .second, .val (.int v7_23), .val (.int (3 : Int32)), .val (.long w9_23), .second, .val (.ref b24), .val (.ref b29), .val (.ref b81), .unset, .unset, .unset, .unset] [(.long w9_23), (.long x3), (.ref b29), (.int v7_23), (.int (0 : Int32)), en144])) rfl (by rw [hml]; rfl) (argsL := [en144, (.int (0 : Int32)), (.int v7_23), (.ref b29), (.long x3), (.long w9_23)]) (rest := []) (lenOf own_pd20 rfl) rfl (by show 2 * 0 + _ ≤ _; exact Nat.le_of_eq rfl) (hb hby at_155) (fun _ _ => ⟨rfl, rfl, (by decide : 13 + 0 ≤ _), (by decide : 82 + 0 ≤ _)⟩)
        dsimp only [Pt.U, Pt.locs, Pt.cells, Pt.slots] at X155 l155 y155 z155 st155 hQ155
        subst l155 y155 z155
        obtain ⟨rfl, N155q, e155⟩ := hQ155
        obtain ⟨lo155, X155, N155⟩ : ∃ lo, Stand p l e _ s m _ below meth c T155 lo _ _ ∧ Fr n0 lo := ⟨_, X155, Fr.app N144 N155q⟩
        refine own_to st155 ?_
        show own_Fin p e below G (T155.setTop (mkF m 158 #[.val (.int p0), .val (.int p1), .val (.int p2), .val (.long x3), .second, .val (.long x4), .second, .val (.int v7_23), .val (.int (3 : Int32)), .val (.long w9_23), .second, .val (.ref b24), .val (.ref b29), .val (.ref b81), .unset, .unset, .unset, .unset] [(.int (1 : Int32))]))
        have hc158 : ¬ ((1 : Int32) = (0 : Int32)) := by decide
        refine own_to (fun _ kz => XS.ifYes X155.here hx rfl (pc0 := 158) (pc' := 163) rfl (hb hby at_158) rfl ((if0 _ _).trans (feq hc158).2) (by decide) (by decide) kz) ?_
        show own_Fin p e below G (T155.setTop (mkF m 163 #[.val (.int p0), .val (.int p1), .val (.int p2), .val (.long x3), .second, .val (.long x4), .second, .val (.int v7_23), .val (.int (3 : Int32)), .val (.long w9_23), .second, .val (.ref b24), .val (.ref b29), .val (.ref b81), .unset, .unset, .unset, .unset] []))
        refine own_iload X155 hx (hb hby at_163) rfl ?_
        refine own_iconst X155 hx (2) (hb hby at_165) rfl ?_
        have hc166 : ¬ ((3 : Int32) < (2 : Int32)) := by decide
        refine own_to (fun _ kz => XS.icmpNo X155.here hx rfl (hb hby at_166) rfl (flt hc166).1 kz) ?_
        show own_Fin p e below G (T155.setTop (mkF m 169 #[.val (.int p0), .val (.int p1), .val (.int p2), .val (.long x3), .second, .val (.long x4), .second, .val (.int v7_23), .val (.int (3 : Int32)), .val (.long w9_23), .second, .val (.ref b24), .val (.ref b29), .val (.ref b81), .unset, .unset, .unset, .unset] []))
        refine own_aload X155 hx (hb hby at_169) rfl (rfl) ?_
        have Eb_b_at_171'1 := (Eb_b.keep Kp144)
        obtain ⟨cq171, kq171, qa171, qb171, qc171⟩ := isOf hZ e155 Eb_b_at_171'1
        obtain ⟨_, _, ⟨T171, L171, k171, n171⟩, -, X171, ⟨Lc171, hQ171, l171, y171, z171⟩, st171⟩ := X155.virtualBack hx (y := own_y25) (z := own_y25) hown (mvT hZ (own_w hw 166 rfl)) (mvT hZ (own_w hw 167 rfl)) (notFace_of_selects (args := #[]) (mvT hZ (own_w hw 169 rfl))) (mvT hZ (own_w hw 169 rfl)) (mvT hZ (own_w hw 168 rfl)) (by decide) (backOf (W := 0) (rmT l Z a0 hw b81 b29 (own_r b37 b52 b67) v7_23 x3 w9_23 1 T144.heap n0 Z_155'2 jh1_23 (by decide) Bt144) hZ (own_w hw 170 rfl) (own_w hw 31 rfl) (by decide) (by decide)) qa171 qc171 (g := (mkF m 171 #[.val (.int p0), .val (.int p1), .val (.int p2), .val (.long x3), .second, .val (.long x4), .second, .val (.int v7_23), .val (.int (3 : Int32)), .val (.long w9_23), .second, .val (.ref b24), .val (.ref b29), .val (.ref b81), .unset, .unset, .unset, .unset] [(.ref b81)])) rfl (by rw [hml]; rfl) (Steps.refl _) (argsL := []) (rest := []) (lenOf own_pd19 rfl) rfl (by show 2 * 0 + _ ≤ _; exact Nat.le_of_eq rfl) (hb hby at_171) (fun _ _ => ⟨rfl, e155, (by decide : 13 + 1 ≤ _), (by decide : 82 + 2 ≤ _)⟩)
        dsimp only [Pt.U, Pt.locs, Pt.cells, Pt.slots] at X171 l171 y171 z171 st171 hQ171
        subst l171 y171 z171
        obtain ⟨en171, rfl, N171q, Kp171, Bq171, En171⟩ := hQ171
        have Bt171 : own_Bt Z n0 T171.heap b81 b29 (own_r b37 b52 b67) v7_23 x3 w9_23 2 := Bq171
        have En171_en144 := own_ent.keep En144 Kp171
        obtain ⟨lo171, X171, N171⟩ : ∃ lo, Stand p l e _ s m _ below meth c T171 lo _ _ ∧ Fr n0 lo := ⟨_, X171, Fr.app N155 N171q⟩
        refine own_via st171 ?_
        show own_Fin p e below G (T171.setTop (mkF m 174 #[.val (.int p0), .val (.int p1), .val (.int p2), .val (.long x3), .second, .val (.long x4), .second, .val (.int v7_23), .val (.int (3 : Int32)), .val (.long w9_23), .second, .val (.ref b24), .val (.ref b29), .val (.ref b81), .unset, .unset, .unset, .unset] [en171]))
        refine own_iconst X171 hx (1) (hb hby at_174) rfl ?_
        refine own_iload X171 hx (hb hby at_175) rfl ?_
        refine own_aload X171 hx (hb hby at_177) rfl (rfl) ?_
        refine own_lloadN X171 hx (hb hby at_179) rfl ?_
        refine own_lload X171 hx (hb hby at_180) rfl ?_
        have Zz_182_Kp171'1 := Nat.le_trans Z_155'2 Kp171.1
        have Z_182'1 : n0 ≤ T171.heap.size := Zz_182_Kp171'1
        obtain ⟨_, _, ⟨T182, L182, k182, n182⟩, -, X182, ⟨Lc182, hQ182, l182, y182, z182⟩, st182⟩ := Jvm.LawKit.callS X171 hx (y := own_y27) hown (mvT hZ (own_w hw 184 rfl)) (mvT hZ (own_w hw 185 rfl)) (mvT hZ (own_w hw 82 rfl)) (mvT hZ (own_w hw 186 rfl)) (by decide) (backOf (W := 0) (rmM l Z a0 hw b81 b29 (own_r b37 b52 b67) v7_23 x3 w9_23 2 1 en171 T171.heap n0 Z_182'1 Bt171 (by decide) En171) hZ (own_w hw 186 rfl) (own_w hw 82 rfl) (by decide) (by decide)) (g := (mkF m 182 #[.val (.int p0), .val (.int p1), .val (.int p2), .val (.long x3), .second, .val (.long x4), .second, .val (.int v7_23), .val (.int (3 : Int32)), .val (.long w9_23), .second, .val (.ref b24), .val (.ref b29), .val (.ref b81), .unset, .unset, .unset, .unset] [(.long w9_23), (.long x3), (.ref b29), (.int v7_23), (.int (1 : Int32)), en171])) rfl (by rw [hml]; rfl) (argsL := [en171, (.int (1 : Int32)), (.int v7_23), (.ref b29), (.long x3), (.long w9_23)]) (rest := []) (lenOf own_pd20 rfl) rfl (by show 2 * 0 + _ ≤ _; exact Nat.le_of_eq rfl) (hb hby at_182) (fun _ _ => ⟨rfl, rfl, (by decide : 14 + 0 ≤ _), (by decide : 84 + 0 ≤ _)⟩)
        dsimp only [Pt.U, Pt.locs, Pt.cells, Pt.slots] at X182 l182 y182 z182 st182 hQ182
        subst l182 y182 z182
        obtain ⟨rfl, N182q, e182⟩ := hQ182
        obtain ⟨lo182, X182, N182⟩ : ∃ lo, Stand p l e _ s m _ below meth c T182 lo _ _ ∧ Fr n0 lo := ⟨_, X182, Fr.app N171 N182q⟩
        refine own_to st182 ?_
        show own_Fin p e below G (T182.setTop (mkF m 185 #[.val (.int p0), .val (.int p1), .val (.int p2), .val (.long x3), .second, .val (.long x4), .second, .val (.int v7_23), .val (.int (3 : Int32)), .val (.long w9_23), .second, .val (.ref b24), .val (.ref b29), .val (.ref b81), .unset, .unset, .unset, .unset] [(.int (1 : Int32))]))
        have hc185 : ¬ ((1 : Int32) = (0 : Int32)) := by decide
        refine own_to (fun _ kz => XS.ifYes X182.here hx rfl (pc0 := 185) (pc' := 190) rfl (hb hby at_185) rfl ((if0 _ _).trans (feq hc185).2) (by decide) (by decide) kz) ?_
        show own_Fin p e below G (T182.setTop (mkF m 190 #[.val (.int p0), .val (.int p1), .val (.int p2), .val (.long x3), .second, .val (.long x4), .second, .val (.int v7_23), .val (.int (3 : Int32)), .val (.long w9_23), .second, .val (.ref b24), .val (.ref b29), .val (.ref b81), .unset, .unset, .unset, .unset] []))
        refine own_iload X182 hx (hb hby at_190) rfl ?_
        refine own_iconst X182 hx (3) (hb hby at_192) rfl ?_
        have hc193 : ¬ ((3 : Int32) < (3 : Int32)) := by decide
        refine own_to (fun _ kz => XS.icmpNo X182.here hx rfl (hb hby at_193) rfl (flt hc193).1 kz) ?_
        show own_Fin p e below G (T182.setTop (mkF m 196 #[.val (.int p0), .val (.int p1), .val (.int p2), .val (.long x3), .second, .val (.long x4), .second, .val (.int v7_23), .val (.int (3 : Int32)), .val (.long w9_23), .second, .val (.ref b24), .val (.ref b29), .val (.ref b81), .unset, .unset, .unset, .unset] []))
        refine own_aload X182 hx (hb hby at_196) rfl (rfl) ?_
        have Eb_b_at_198 := (Eb_b_at_171'1.keep Kp171)
        obtain ⟨cq198, kq198, qa198, qb198, qc198⟩ := isOf hZ e182 Eb_b_at_198
        obtain ⟨_, _, ⟨T198, L198, k198, n198⟩, -, X198, ⟨Lc198, hQ198, l198, y198, z198⟩, st198⟩ := X182.virtualBack hx (y := own_y25) (z := own_y25) hown (mvT hZ (own_w hw 166 rfl)) (mvT hZ (own_w hw 167 rfl)) (notFace_of_selects (args := #[]) (mvT hZ (own_w hw 169 rfl))) (mvT hZ (own_w hw 169 rfl)) (mvT hZ (own_w hw 168 rfl)) (by decide) (backOf (W := 0) (rmT l Z a0 hw b81 b29 (own_r b37 b52 b67) v7_23 x3 w9_23 2 T171.heap n0 Z_182'1 jh1_23 (by decide) Bt171) hZ (own_w hw 170 rfl) (own_w hw 31 rfl) (by decide) (by decide)) qa198 qc198 (g := (mkF m 198 #[.val (.int p0), .val (.int p1), .val (.int p2), .val (.long x3), .second, .val (.long x4), .second, .val (.int v7_23), .val (.int (3 : Int32)), .val (.long w9_23), .second, .val (.ref b24), .val (.ref b29), .val (.ref b81), .unset, .unset, .unset, .unset] [(.ref b81)])) rfl (by rw [hml]; rfl) (Steps.refl _) (argsL := []) (rest := []) (lenOf own_pd19 rfl) rfl (by show 2 * 0 + _ ≤ _; exact Nat.le_of_eq rfl) (hb hby at_198) (fun _ _ => ⟨rfl, e182, (by decide : 14 + 1 ≤ _), (by decide : 84 + 2 ≤ _)⟩)
        dsimp only [Pt.U, Pt.locs, Pt.cells, Pt.slots] at X198 l198 y198 z198 st198 hQ198
        subst l198 y198 z198
        obtain ⟨en198, rfl, N198q, Kp198, Bq198, En198⟩ := hQ198
        have Bt198 : own_Bt Z n0 T198.heap b81 b29 (own_r b37 b52 b67) v7_23 x3 w9_23 3 := Bq198
        have En198_en144 := own_ent.keep En171_en144 Kp198
        have En198_en171 := own_ent.keep En171 Kp198
        obtain ⟨lo198, X198, N198⟩ : ∃ lo, Stand p l e _ s m _ below meth c T198 lo _ _ ∧ Fr n0 lo := ⟨_, X198, Fr.app N182 N198q⟩
        refine own_via st198 ?_
        show own_Fin p e below G (T198.setTop (mkF m 201 #[.val (.int p0), .val (.int p1), .val (.int p2), .val (.long x3), .second, .val (.long x4), .second, .val (.int v7_23), .val (.int (3 : Int32)), .val (.long w9_23), .second, .val (.ref b24), .val (.ref b29), .val (.ref b81), .unset, .unset, .unset, .unset] [en198]))
        refine own_iconst X198 hx (2) (hb hby at_201) rfl ?_
        refine own_iload X198 hx (hb hby at_202) rfl ?_
        refine own_aload X198 hx (hb hby at_204) rfl (rfl) ?_
        refine own_lloadN X198 hx (hb hby at_206) rfl ?_
        refine own_lload X198 hx (hb hby at_207) rfl ?_
        have Zz_209_Kp198 := Nat.le_trans Z_182'1 Kp198.1
        have Z_209 : n0 ≤ T198.heap.size := Zz_209_Kp198
        obtain ⟨_, _, ⟨T209, L209, k209, n209⟩, -, X209, ⟨Lc209, hQ209, l209, y209, z209⟩, st209⟩ := Jvm.LawKit.callS X198 hx (y := own_y27) hown (mvT hZ (own_w hw 184 rfl)) (mvT hZ (own_w hw 185 rfl)) (mvT hZ (own_w hw 82 rfl)) (mvT hZ (own_w hw 186 rfl)) (by decide) (backOf (W := 0) (rmM l Z a0 hw b81 b29 (own_r b37 b52 b67) v7_23 x3 w9_23 3 2 en198 T198.heap n0 Z_209 Bt198 (by decide) En198) hZ (own_w hw 186 rfl) (own_w hw 82 rfl) (by decide) (by decide)) (g := (mkF m 209 #[.val (.int p0), .val (.int p1), .val (.int p2), .val (.long x3), .second, .val (.long x4), .second, .val (.int v7_23), .val (.int (3 : Int32)), .val (.long w9_23), .second, .val (.ref b24), .val (.ref b29), .val (.ref b81), .unset, .unset, .unset, .unset] [(.long w9_23), (.long x3), (.ref b29), (.int v7_23), (.int (2 : Int32)), en198])) rfl (by rw [hml]; rfl) (argsL := [en198, (.int (2 : Int32)), (.int v7_23), (.ref b29), (.long x3), (.long w9_23)]) (rest := []) (lenOf own_pd20 rfl) rfl (by show 2 * 0 + _ ≤ _; exact Nat.le_of_eq rfl) (hb hby at_209) (fun _ _ => ⟨rfl, rfl, (by decide : 15 + 0 ≤ _), (by decide : 86 + 0 ≤ _)⟩)
        dsimp only [Pt.U, Pt.locs, Pt.cells, Pt.slots] at X209 l209 y209 z209 st209 hQ209
        subst l209 y209 z209
        obtain ⟨rfl, N209q, e209⟩ := hQ209
        obtain ⟨lo209, X209, N209⟩ : ∃ lo, Stand p l e _ s m _ below meth c T209 lo _ _ ∧ Fr n0 lo := ⟨_, X209, Fr.app N198 N209q⟩
        refine own_to st209 ?_
        show own_Fin p e below G (T209.setTop (mkF m 212 #[.val (.int p0), .val (.int p1), .val (.int p2), .val (.long x3), .second, .val (.long x4), .second, .val (.int v7_23), .val (.int (3 : Int32)), .val (.long w9_23), .second, .val (.ref b24), .val (.ref b29), .val (.ref b81), .unset, .unset, .unset, .unset] [(.int (1 : Int32))]))
        have hc212 : ¬ ((1 : Int32) = (0 : Int32)) := by decide
        refine own_to (fun _ kz => XS.ifYes X209.here hx rfl (pc0 := 212) (pc' := 217) rfl (hb hby at_212) rfl ((if0 _ _).trans (feq hc212).2) (by decide) (by decide) kz) ?_
        show own_Fin p e below G (T209.setTop (mkF m 217 #[.val (.int p0), .val (.int p1), .val (.int p2), .val (.long x3), .second, .val (.long x4), .second, .val (.int v7_23), .val (.int (3 : Int32)), .val (.long w9_23), .second, .val (.ref b24), .val (.ref b29), .val (.ref b81), .unset, .unset, .unset, .unset] []))
        refine own_iconst X209 hx (3) (hb hby at_217) rfl ?_
        refine own_to (fun _ kz => XS.istore X209.here hx rfl (hb hby at_218) rfl (l' := #[.val (.int p0), .val (.int p1), .val (.int p2), .val (.long x3), .second, .val (.long x4), .second, .val (.int v7_23), .val (.int (3 : Int32)), .val (.long w9_23), .second, .val (.ref b24), .val (.ref b29), .val (.ref b81), .val (.int (3 : Int32)), .unset, .unset, .unset]) rfl kz) ?_
        show own_Fin p e below G (T209.setTop (mkF m 220 #[.val (.int p0), .val (.int p1), .val (.int p2), .val (.long x3), .second, .val (.long x4), .second, .val (.int v7_23), .val (.int (3 : Int32)), .val (.long w9_23), .second, .val (.ref b24), .val (.ref b29), .val (.ref b81), .val (.int (3 : Int32)), .unset, .unset, .unset] []))
        refine own_iload X209 hx (hb hby at_220) rfl ?_
        refine own_iconst X209 hx (2) (hb hby at_222) rfl ?_
        have hc223 : (2 : Int32) < (3 : Int32) := by decide
        refine own_to (fun _ kz => XS.icmpYes X209.here hx rfl (pc0 := 223) (pc' := 238) rfl (hb hby at_223) rfl (tlt hc223).2.2.1 (by decide) (by decide) kz) ?_
        show own_Fin p e below G (T209.setTop (mkF m 238 #[.val (.int p0), .val (.int p1), .val (.int p2), .val (.long x3), .second, .val (.long x4), .second, .val (.int v7_23), .val (.int (3 : Int32)), .val (.long w9_23), .second, .val (.ref b24), .val (.ref b29), .val (.ref b81), .val (.int (3 : Int32)), .unset, .unset, .unset] []))
        refine own_iload X209 hx (hb hby at_238) rfl ?_
        refine own_iconst X209 hx (1) (hb hby at_240) rfl ?_
        have hc241 : (1 : Int32) < (3 : Int32) := by decide
        refine own_to (fun _ kz => XS.icmpYes X209.here hx rfl (pc0 := 241) (pc' := 256) rfl (hb hby at_241) rfl (tlt hc241).2.2.1 (by decide) (by decide) kz) ?_
        show own_Fin p e below G (T209.setTop (mkF m 256 #[.val (.int p0), .val (.int p1), .val (.int p2), .val (.long x3), .second, .val (.long x4), .second, .val (.int v7_23), .val (.int (3 : Int32)), .val (.long w9_23), .second, .val (.ref b24), .val (.ref b29), .val (.ref b81), .val (.int (3 : Int32)), .unset, .unset, .unset] []))
        refine own_iload X209 hx (hb hby at_256) rfl ?_
        have hc258 : (0 : Int32) < (3 : Int32) := by decide
        refine own_to (fun _ kz => XS.ifYes X209.here hx rfl (pc0 := 258) (pc' := 273) rfl (hb hby at_258) rfl ((if0 _ _).trans (tlt hc258).2.2.1) (by decide) (by decide) kz) ?_
        show own_Fin p e below G (T209.setTop (mkF m 273 #[.val (.int p0), .val (.int p1), .val (.int p2), .val (.long x3), .second, .val (.long x4), .second, .val (.int v7_23), .val (.int (3 : Int32)), .val (.long w9_23), .second, .val (.ref b24), .val (.ref b29), .val (.ref b81), .val (.int (3 : Int32)), .unset, .unset, .unset] []))
        exact K273 3 3 (by decide) (by simp [own_stop]) _ _ N209 (X209.more (by decide) (by decide)) _ e209 Z_209 Bt198
    refine own_aload X86 hx (hb hby at_91) rfl (rfl) ?_
    refine own_iload X86 hx (hb hby at_93) rfl ?_
    refine own_iconst X86 hx (0) (hb hby at_95) rfl ?_
    refine own_aload X86 hx (hb hby at_96) rfl (rfl) ?_
    refine own_iconst X86 hx (0) (hb hby at_98) rfl ?_
    have V80_at_99 := ((V80.ext E81).keep Kp86 (ninS ne_b29_b81 nin0))
    refine own_to (fun _ kz => own_aaload X86 hx hZ rfl (own_RV.av V80_at_99) (j := (0 : Int32)) (by decide) rfl (by decide) (v := (.ref b37)) rfl (g := (mkF m 99 #[.val (.int p0), .val (.int p1), .val (.int p2), .val (.long x3), .second, .val (.long x4), .second, .val (.int v7_23), .val (.int v8_23), .val (.long w9_23), .second, .val (.ref b24), .val (.ref b29), .val (.ref b81), .unset, .unset, .unset, .unset] [(.int (0 : Int32)), (.ref b29), (.int (0 : Int32)), (.int v7_23), (.ref b81)])) rfl rfl (hb hby at_99) kz) ?_
    show own_Fin p e below G (T86.setTop (mkF m 100 #[.val (.int p0), .val (.int p1), .val (.int p2), .val (.long x3), .second, .val (.long x4), .second, .val (.int v7_23), .val (.int v8_23), .val (.long w9_23), .second, .val (.ref b24), .val (.ref b29), .val (.ref b81), .unset, .unset, .unset, .unset] [(.ref b37), (.int (0 : Int32)), (.int v7_23), (.ref b81)]))
    refine own_lloadN X86 hx (hb hby at_100) rfl ?_
    refine own_lload X86 hx (hb hby at_101) rfl ?_
    by_cases hs0 : (f11 v7_23 (0 : Int32)) = (0 : Int32)
    · skip
      have V_nent_at_103 := (((((((((((((V_nent.ext E24).ext E29).ext E37).keep Kp45 (ninS ne_nent_b37 nin0)).other W48 ne_nent_b29).ext E52).keep Kp60 (ninS ne_nent_b52 nin0)).other W63 ne_nent_b29).ext E67).keep Kp77 (ninS ne_nent_b67 nin0)).other W80 ne_nent_b29).ext E81).keep Kp86 (ninS ne_nent_b81 nin0))
      have S_DEFAULTCAPACITY_EMPTY_ELEMENTDATA_at_103 := (own_staKeep S_DEFAULTCAPACITY_EMPTY_ELEMENTDATA_at_86 Kp86 (allS (Exa.cell A81) all0))
      have V_dc_at_103 := (((((((((((((V_dc.ext E24).ext E29).ext E37).keep Kp45 (ninS ne_dc_b37 nin0)).other W48 ne_dc_b29).ext E52).keep Kp60 (ninS ne_dc_b52 nin0)).other W63 ne_dc_b29).ext E67).keep Kp77 (ninS ne_dc_b67 nin0)).other W80 ne_dc_b29).ext E81).keep Kp86 (ninS ne_dc_b81 nin0))
      have P45_0_at_103 := (((((((((P45_0.wr W48).ext E52).keep Kp60).wr W63).ext E67).keep Kp77).wr W80).ext E81).keep Kp86)
      have P45_1_at_103 := (((((((((P45_1.other W48 (Or.inl (Ne.symm ne_b29_b37))).ext E52).keep Kp60 (ninS ne_b37_b52 nin0)).other W63 (Or.inl (Ne.symm ne_b29_b37))).ext E67).keep Kp77 (ninS ne_b37_b67 nin0)).other W80 (Or.inl (Ne.symm ne_b29_b37))).ext E81).keep Kp86 (ninS ne_b37_b81 nin0))
      have Zz_103v2_Kp86 := Nat.le_trans Z_86 Kp86.1
      have Z_103v2 : n0 ≤ T86.heap.size := Zz_103v2_Kp86
      obtain ⟨_, _, ⟨T103v2, L103v2, k103v2, n103v2⟩, -, X103v2, ⟨Lc103v2, hQ103v2, l103v2, y103v2, z103v2⟩, st103v2⟩ := Jvm.LawKit.callS X86 hx (y := own_y10) hown (mvT hZ (own_w hw 80 rfl)) (mvT hZ (own_w hw 81 rfl)) (mvT hZ (own_w hw 82 rfl)) (mvT hZ (own_w hw 83 rfl)) (by decide) (backOf (W := 0) (rm10_00 l Z a0 hw [] b81 v7_23 (0 : Int32) b37 x3 w9_23 (f9 p0 (2147483639 : Int32)) (-1 : Int32) fz (0 : Int32) fd (0 : Int64) nent wh86 dc T86.heap n0 Z_103v2 P86_0 P86_1 P86_2 P86_3 P86_4 P86_5 P86_6 P86_7 P86_8 g_b81 V_nent_at_103 ne_nent_b81 P86_9 P86_10 P86_11 P86_12 g_wh86 S_DEFAULTCAPACITY_EMPTY_ELEMENTDATA_at_103 V_dc_at_103 ne_dc_wh86 ne_b81_wh86 ne_nent_wh86 ne_dc_b81 P45_0_at_103 P45_1_at_103 ne_b37_wh86 hs0) hZ (own_w hw 83 rfl) (own_w hw 82 rfl) (by decide) (by decide)) (g := (mkF m 103 #[.val (.int p0), .val (.int p1), .val (.int p2), .val (.long x3), .second, .val (.long x4), .second, .val (.int v7_23), .val (.int v8_23), .val (.long w9_23), .second, .val (.ref b24), .val (.ref b29), .val (.ref b81), .unset, .unset, .unset, .unset] [(.long w9_23), (.long x3), (.ref b37), (.int (0 : Int32)), (.int v7_23), (.ref b81)])) rfl (by rw [hml]; rfl) (argsL := [(.ref b81), (.int v7_23), (.int (0 : Int32)), (.ref b37), (.long x3), (.long w9_23)]) (rest := []) (lenOf own_pd21 rfl) rfl (by show 2 * 0 + _ ≤ _; exact Nat.le_of_eq rfl) (hb hby at_103) (fun _ _ => ⟨rfl, rfl, (by decide : 7 + 3 ≤ _), (by decide : 27 + 42 ≤ _)⟩)
      dsimp only [Pt.U, Pt.locs, Pt.cells, Pt.slots] at X103v2 l103v2 y103v2 z103v2 st103v2 hQ103v2
      subst l103v2 y103v2 z103v2
      obtain ⟨off103v2, len103v2, ed103v2, rfl, N103v2q, Kp103v2, szq_off103v2, szq_len103v2, szq_ed103v2, neq_off103v2_len103v2, neq_off103v2_ed103v2, neq_len103v2_ed103v2, P103v2_0, P103v2_1, P103v2_2, P103v2_3, P103v2_4, P103v2_5, P103v2_6, P103v2_7, P103v2_8, P103v2_9, P103v2_10, P103v2_11, P103v2_12, P103v2_13, P103v2_14, P103v2_15⟩ := hQ103v2
      have ne_nent_off103v2 := Nat.ne_of_lt (Nat.lt_of_lt_of_le V_nent_at_103.lt szq_off103v2)
      have ne_nent_len103v2 := Nat.ne_of_lt (Nat.lt_of_lt_of_le V_nent_at_103.lt szq_len103v2)
      have ne_nent_ed103v2 := Nat.ne_of_lt (Nat.lt_of_lt_of_le V_nent_at_103.lt szq_ed103v2)
      have ne_dc_off103v2 := Nat.ne_of_lt (Nat.lt_of_lt_of_le V_dc_at_103.lt szq_off103v2)
      have ne_dc_len103v2 := Nat.ne_of_lt (Nat.lt_of_lt_of_le V_dc_at_103.lt szq_len103v2)
      have ne_dc_ed103v2 := Nat.ne_of_lt (Nat.lt_of_lt_of_le V_dc_at_103.lt szq_ed103v2)
      have ne_b24_off103v2 := Nat.ne_of_lt (Nat.lt_of_lt_of_le ((((((((((((V24.ext E29).ext E37).keep Kp45 (ninS ne_b24_b37 nin0)).other W48 ne_b24_b29).ext E52).keep Kp60 (ninS ne_b24_b52 nin0)).other W63 ne_b24_b29).ext E67).keep Kp77 (ninS ne_b24_b67 nin0)).other W80 ne_b24_b29).ext E81).keep Kp86 (ninS ne_b24_b81 nin0)).lt szq_off103v2)
      have ne_b24_len103v2 := Nat.ne_of_lt (Nat.lt_of_lt_of_le ((((((((((((V24.ext E29).ext E37).keep Kp45 (ninS ne_b24_b37 nin0)).other W48 ne_b24_b29).ext E52).keep Kp60 (ninS ne_b24_b52 nin0)).other W63 ne_b24_b29).ext E67).keep Kp77 (ninS ne_b24_b67 nin0)).other W80 ne_b24_b29).ext E81).keep Kp86 (ninS ne_b24_b81 nin0)).lt szq_len103v2)
      have ne_b24_ed103v2 := Nat.ne_of_lt (Nat.lt_of_lt_of_le ((((((((((((V24.ext E29).ext E37).keep Kp45 (ninS ne_b24_b37 nin0)).other W48 ne_b24_b29).ext E52).keep Kp60 (ninS ne_b24_b52 nin0)).other W63 ne_b24_b29).ext E67).keep Kp77 (ninS ne_b24_b67 nin0)).other W80 ne_b24_b29).ext E81).keep Kp86 (ninS ne_b24_b81 nin0)).lt szq_ed103v2)
      have ne_b29_off103v2 := Nat.ne_of_lt (Nat.lt_of_lt_of_le V80_at_99.lt szq_off103v2)
      have ne_b29_len103v2 := Nat.ne_of_lt (Nat.lt_of_lt_of_le V80_at_99.lt szq_len103v2)
      have ne_b29_ed103v2 := Nat.ne_of_lt (Nat.lt_of_lt_of_le V80_at_99.lt szq_ed103v2)
      have ne_b37_off103v2 := Nat.ne_of_lt (Nat.lt_of_lt_of_le P45_0_at_103.lt szq_off103v2)
      have ne_b37_len103v2 := Nat.ne_of_lt (Nat.lt_of_lt_of_le P45_0_at_103.lt szq_len103v2)
      have ne_b37_ed103v2 := Nat.ne_of_lt (Nat.lt_of_lt_of_le P45_0_at_103.lt szq_ed103v2)
      have ne_b52_off103v2 := Nat.ne_of_lt (Nat.lt_of_lt_of_le ((((((P60_0.wr W63).ext E67).keep Kp77).wr W80).ext E81).keep Kp86).lt szq_off103v2)
      have ne_b52_len103v2 := Nat.ne_of_lt (Nat.lt_of_lt_of_le ((((((P60_0.wr W63).ext E67).keep Kp77).wr W80).ext E81).keep Kp86).lt szq_len103v2)
      have ne_b52_ed103v2 := Nat.ne_of_lt (Nat.lt_of_lt_of_le ((((((P60_0.wr W63).ext E67).keep Kp77).wr W80).ext E81).keep Kp86).lt szq_ed103v2)
      have ne_b67_off103v2 := Nat.ne_of_lt (Nat.lt_of_lt_of_le (((P77_0.wr W80).ext E81).keep Kp86).lt szq_off103v2)
      have ne_b67_len103v2 := Nat.ne_of_lt (Nat.lt_of_lt_of_le (((P77_0.wr W80).ext E81).keep Kp86).lt szq_len103v2)
      have ne_b67_ed103v2 := Nat.ne_of_lt (Nat.lt_of_lt_of_le (((P77_0.wr W80).ext E81).keep Kp86).lt szq_ed103v2)
      have ne_b81_off103v2 := Nat.ne_of_lt (Nat.lt_of_lt_of_le P86_0.lt szq_off103v2)
      have ne_b81_len103v2 := Nat.ne_of_lt (Nat.lt_of_lt_of_le P86_0.lt szq_len103v2)
      have ne_b81_ed103v2 := Nat.ne_of_lt (Nat.lt_of_lt_of_le P86_0.lt szq_ed103v2)
      have ne_wh86_off103v2 := Nat.ne_of_lt (Nat.lt_of_lt_of_le P86_9.lt szq_off103v2)
      have ne_wh86_len103v2 := Nat.ne_of_lt (Nat.lt_of_lt_of_le P86_9.lt szq_len103v2)
      have ne_wh86_ed103v2 := Nat.ne_of_lt (Nat.lt_of_lt_of_le P86_9.lt szq_ed103v2)
      have g_off103v2 : n0 ≤ off103v2 := Nat.le_trans Z_103v2 szq_off103v2
      have g_len103v2 : n0 ≤ len103v2 := Nat.le_trans Z_103v2 szq_len103v2
      have g_ed103v2 : n0 ≤ ed103v2 := Nat.le_trans Z_103v2 szq_ed103v2
      obtain ⟨lo103v2, X103v2, N103v2⟩ : ∃ lo, Stand p l e _ s m _ below meth c T103v2 lo _ _ ∧ Fr n0 lo := ⟨_, X103v2, Fr.app N86 N103v2q⟩
      refine own_to st103v2 ?_
      show own_Fin p e below G (T103v2.setTop (mkF m 106 #[.val (.int p0), .val (.int p1), .val (.int p2), .val (.long x3), .second, .val (.long x4), .second, .val (.int v7_23), .val (.int v8_23), .val (.long w9_23), .second, .val (.ref b24), .val (.ref b29), .val (.ref b81), .unset, .unset, .unset, .unset] []))
      refine own_aload X103v2 hx (hb hby at_106) rfl (rfl) ?_
      refine own_iload X103v2 hx (hb hby at_108) rfl ?_
      refine own_iconst X103v2 hx (1) (hb hby at_110) rfl ?_
      refine own_aload X103v2 hx (hb hby at_111) rfl (rfl) ?_
      refine own_iconst X103v2 hx (1) (hb hby at_113) rfl ?_
      have V80_at_114 := (V80_at_99.keep Kp103v2 (ninS ne_b29_b81 (ninS ne_b29_wh86 nin0)))
      refine own_to (fun _ kz => own_aaload X103v2 hx hZ rfl (own_RV.av V80_at_114) (j := (1 : Int32)) (by decide) rfl (by decide) (v := (.ref b52)) rfl (g := (mkF m 114 #[.val (.int p0), .val (.int p1), .val (.int p2), .val (.long x3), .second, .val (.long x4), .second, .val (.int v7_23), .val (.int v8_23), .val (.long w9_23), .second, .val (.ref b24), .val (.ref b29), .val (.ref b81), .unset, .unset, .unset, .unset] [(.int (1 : Int32)), (.ref b29), (.int (1 : Int32)), (.int v7_23), (.ref b81)])) rfl rfl (hb hby at_114) kz) ?_
      show own_Fin p e below G (T103v2.setTop (mkF m 115 #[.val (.int p0), .val (.int p1), .val (.int p2), .val (.long x3), .second, .val (.long x4), .second, .val (.int v7_23), .val (.int v8_23), .val (.long w9_23), .second, .val (.ref b24), .val (.ref b29), .val (.ref b81), .unset, .unset, .unset, .unset] [(.ref b52), (.int (1 : Int32)), (.int v7_23), (.ref b81)]))
      refine own_lloadN X103v2 hx (hb hby at_115) rfl ?_
      refine own_lload X103v2 hx (hb hby at_116) rfl ?_
      by_cases hs1 : (f11 v7_23 (1 : Int32)) = (0 : Int32)
      · skip
        have P60_0_at_118 := (((((((P60_0.wr W63).ext E67).keep Kp77).wr W80).ext E81).keep Kp86).keep Kp103v2)
        have P60_1_at_118 := (((((((P60_1.other W63 (Or.inl (Ne.symm ne_b29_b52))).ext E67).keep Kp77 (ninS ne_b52_b67 nin0)).other W80 (Or.inl (Ne.symm ne_b29_b52))).ext E81).keep Kp86 (ninS ne_b52_b81 nin0)).keep Kp103v2 (ninS ne_b52_b81 (ninS ne_b52_wh86 nin0)))
        have Zz_118v2_Kp103v2 := Nat.le_trans Z_103v2 Kp103v2.1
        have Z_118v2 : n0 ≤ T103v2.heap.size := Zz_118v2_Kp103v2
        obtain ⟨_, _, ⟨T118v2, L118v2, k118v2, n118v2⟩, -, X118v2, ⟨Lc118v2, hQ118v2, l118v2, y118v2, z118v2⟩, st118v2⟩ := Jvm.LawKit.callS X103v2 hx (y := own_y10) hown (mvT hZ (own_w hw 80 rfl)) (mvT hZ (own_w hw 81 rfl)) (mvT hZ (own_w hw 82 rfl)) (mvT hZ (own_w hw 83 rfl)) (by decide) (backOf (W := 0) (rm10_11 l Z a0 hw [] b81 v7_23 (1 : Int32) b52 x3 w9_23 (f9 p0 (2147483639 : Int32)) (1 : Int32) (-1 : Int32) (own_upd (fun _ => (0 : Int64)) 0 (f24 (0 : Int64))) (own_upd (fun _ => (0 : Int64)) 0 (0 : Int64)) 1 (1 : Int32) (1 : Int32) (own_upd (fun _ => Value.null) 0 (.ref b37)) 1 (1 : Int64) off103v2 len103v2 wh86 ed103v2 T103v2.heap n0 Z_118v2 P103v2_0 P103v2_1 P103v2_2 P103v2_3 P103v2_4 P103v2_5 P103v2_6 P103v2_7 P103v2_8 g_b81 P103v2_9 P103v2_10 g_off103v2 g_len103v2 neq_off103v2_len103v2 ne_b81_off103v2 ne_b81_len103v2 (by decide) (by decide) (by decide) (by decide) P103v2_11 P103v2_12 P103v2_13 P103v2_14 g_wh86 P103v2_15 g_ed103v2 (Ne.symm ne_wh86_ed103v2) (by decide) (by decide) (by decide) (by decide) ne_b81_wh86 (Ne.symm ne_wh86_off103v2) (Ne.symm ne_wh86_len103v2) ne_b81_ed103v2 neq_off103v2_ed103v2 neq_len103v2_ed103v2 P60_0_at_118 P60_1_at_118 ne_b52_wh86 ne_b52_ed103v2 hs1) hZ (own_w hw 83 rfl) (own_w hw 82 rfl) (by decide) (by decide)) (g := (mkF m 118 #[.val (.int p0), .val (.int p1), .val (.int p2), .val (.long x3), .second, .val (.long x4), .second, .val (.int v7_23), .val (.int v8_23), .val (.long w9_23), .second, .val (.ref b24), .val (.ref b29), .val (.ref b81), .unset, .unset, .unset, .unset] [(.long w9_23), (.long x3), (.ref b52), (.int (1 : Int32)), (.int v7_23), (.ref b81)])) rfl (by rw [hml]; rfl) (argsL := [(.ref b81), (.int v7_23), (.int (1 : Int32)), (.ref b52), (.long x3), (.long w9_23)]) (rest := []) (lenOf own_pd21 rfl) rfl (by show 2 * 0 + _ ≤ _; exact Nat.le_of_eq rfl) (hb hby at_118) (fun _ _ => ⟨rfl, rfl, (by decide : 10 + 0 ≤ _), (by decide : 69 + 0 ≤ _)⟩)
        dsimp only [Pt.U, Pt.locs, Pt.cells, Pt.slots] at X118v2 l118v2 y118v2 z118v2 st118v2 hQ118v2
        subst l118v2 y118v2 z118v2
        obtain ⟨rfl, N118v2q, Kp118v2, P118v2_0, P118v2_1, P118v2_2, P118v2_3, P118v2_4, P118v2_5, P118v2_6, P118v2_7, P118v2_8, P118v2_9, P118v2_10, P118v2_11, P118v2_12, P118v2_13, P118v2_14, P118v2_15⟩ := hQ118v2
        obtain ⟨lo118v2, X118v2, N118v2⟩ : ∃ lo, Stand p l e _ s m _ below meth c T118v2 lo _ _ ∧ Fr n0 lo := ⟨_, X118v2, Fr.app N103v2 N118v2q⟩
        refine own_to st118v2 ?_
        show own_Fin p e below G (T118v2.setTop (mkF m 121 #[.val (.int p0), .val (.int p1), .val (.int p2), .val (.long x3), .second, .val (.long x4), .second, .val (.int v7_23), .val (.int v8_23), .val (.long w9_23), .second, .val (.ref b24), .val (.ref b29), .val (.ref b81), .unset, .unset, .unset, .unset] []))
        refine own_aload X118v2 hx (hb hby at_121) rfl (rfl) ?_
        refine own_iload X118v2 hx (hb hby at_123) rfl ?_
        refine own_iconst X118v2 hx (2) (hb hby at_125) rfl ?_
        refine own_aload X118v2 hx (hb hby at_126) rfl (rfl) ?_
        refine own_iconst X118v2 hx (2) (hb hby at_128) rfl ?_
        have V80_at_129 := (V80_at_114.keep Kp118v2 (ninS ne_b29_b81 (ninS ne_b29_off103v2 (ninS ne_b29_len103v2 (ninS ne_b29_wh86 (ninS ne_b29_ed103v2 nin0))))))
        refine own_to (fun _ kz => own_aaload X118v2 hx hZ rfl (own_RV.av V80_at_129) (j := (2 : Int32)) (by decide) rfl (by decide) (v := (.ref b67)) rfl (g := (mkF m 129 #[.val (.int p0), .val (.int p1), .val (.int p2), .val (.long x3), .second, .val (.long x4), .second, .val (.int v7_23), .val (.int v8_23), .val (.long w9_23), .second, .val (.ref b24), .val (.ref b29), .val (.ref b81), .unset, .unset, .unset, .unset] [(.int (2 : Int32)), (.ref b29), (.int (2 : Int32)), (.int v7_23), (.ref b81)])) rfl rfl (hb hby at_129) kz) ?_
        show own_Fin p e below G (T118v2.setTop (mkF m 130 #[.val (.int p0), .val (.int p1), .val (.int p2), .val (.long x3), .second, .val (.long x4), .second, .val (.int v7_23), .val (.int v8_23), .val (.long w9_23), .second, .val (.ref b24), .val (.ref b29), .val (.ref b81), .unset, .unset, .unset, .unset] [(.ref b67), (.int (2 : Int32)), (.int v7_23), (.ref b81)]))
        refine own_lloadN X118v2 hx (hb hby at_130) rfl ?_
        refine own_lload X118v2 hx (hb hby at_131) rfl ?_
        by_cases hs2 : (f11 v7_23 (2 : Int32)) = (0 : Int32)
        · skip
          have P77_0_at_133 := (((((P77_0.wr W80).ext E81).keep Kp86).keep Kp103v2).keep Kp118v2)
          have P77_1_at_133 := (((((P77_1.other W80 (Or.inl (Ne.symm ne_b29_b67))).ext E81).keep Kp86 (ninS ne_b67_b81 nin0)).keep Kp103v2 (ninS ne_b67_b81 (ninS ne_b67_wh86 nin0))).keep Kp118v2 (ninS ne_b67_b81 (ninS ne_b67_off103v2 (ninS ne_b67_len103v2 (ninS ne_b67_wh86 (ninS ne_b67_ed103v2 nin0))))))
          have Zz_133v2_Kp118v2 := Nat.le_trans Z_118v2 Kp118v2.1
          have Z_133v2 : n0 ≤ T118v2.heap.size := Zz_133v2_Kp118v2
          obtain ⟨_, _, ⟨T133v2, L133v2, k133v2, n133v2⟩, -, X133v2, ⟨Lc133v2, hQ133v2, l133v2, y133v2, z133v2⟩, st133v2⟩ := Jvm.LawKit.callS X118v2 hx (y := own_y10) hown (mvT hZ (own_w hw 80 rfl)) (mvT hZ (own_w hw 81 rfl)) (mvT hZ (own_w hw 82 rfl)) (mvT hZ (own_w hw 83 rfl)) (by decide) (backOf (W := 0) (rm10_11 l Z a0 hw [] b81 v7_23 (2 : Int32) b67 x3 w9_23 (f9 p0 (2147483639 : Int32)) (2 : Int32) (-1 : Int32) (own_upd (own_upd (fun _ => (0 : Int64)) 0 (f24 (0 : Int64))) 1 (f24 (1 : Int64))) (own_upd (own_upd (fun _ => (0 : Int64)) 0 (0 : Int64)) 1 (0 : Int64)) 2 (2 : Int32) (2 : Int32) (own_upd (own_upd (fun _ => Value.null) 0 (.ref b37)) 1 (.ref b52)) 2 (2 : Int64) off103v2 len103v2 wh86 ed103v2 T118v2.heap n0 Z_133v2 P118v2_0 P118v2_1 P118v2_2 P118v2_3 P118v2_4 P118v2_5 P118v2_6 P118v2_7 P118v2_8 g_b81 P118v2_9 P118v2_10 g_off103v2 g_len103v2 neq_off103v2_len103v2 ne_b81_off103v2 ne_b81_len103v2 (by decide) (by decide) (by decide) (by decide) P118v2_11 P118v2_12 P118v2_13 P118v2_14 g_wh86 P118v2_15 g_ed103v2 (Ne.symm ne_wh86_ed103v2) (by decide) (by decide) (by decide) (by decide) ne_b81_wh86 (Ne.symm ne_wh86_off103v2) (Ne.symm ne_wh86_len103v2) ne_b81_ed103v2 neq_off103v2_ed103v2 neq_len103v2_ed103v2 P77_0_at_133 P77_1_at_133 ne_b67_wh86 ne_b67_ed103v2 hs2) hZ (own_w hw 83 rfl) (own_w hw 82 rfl) (by decide) (by decide)) (g := (mkF m 133 #[.val (.int p0), .val (.int p1), .val (.int p2), .val (.long x3), .second, .val (.long x4), .second, .val (.int v7_23), .val (.int v8_23), .val (.long w9_23), .second, .val (.ref b24), .val (.ref b29), .val (.ref b81), .unset, .unset, .unset, .unset] [(.long w9_23), (.long x3), (.ref b67), (.int (2 : Int32)), (.int v7_23), (.ref b81)])) rfl (by rw [hml]; rfl) (argsL := [(.ref b81), (.int v7_23), (.int (2 : Int32)), (.ref b67), (.long x3), (.long w9_23)]) (rest := []) (lenOf own_pd21 rfl) rfl (by show 2 * 0 + _ ≤ _; exact Nat.le_of_eq rfl) (hb hby at_133) (fun _ _ => ⟨rfl, rfl, (by decide : 10 + 0 ≤ _), (by decide : 69 + 0 ≤ _)⟩)
          dsimp only [Pt.U, Pt.locs, Pt.cells, Pt.slots] at X133v2 l133v2 y133v2 z133v2 st133v2 hQ133v2
          subst l133v2 y133v2 z133v2
          obtain ⟨rfl, N133v2q, Kp133v2, P133v2_0, P133v2_1, P133v2_2, P133v2_3, P133v2_4, P133v2_5, P133v2_6, P133v2_7, P133v2_8, P133v2_9, P133v2_10, P133v2_11, P133v2_12, P133v2_13, P133v2_14, P133v2_15⟩ := hQ133v2
          obtain ⟨lo133v2, X133v2, N133v2⟩ : ∃ lo, Stand p l e _ s m _ below meth c T133v2 lo _ _ ∧ Fr n0 lo := ⟨_, X133v2, Fr.app N118v2 N133v2q⟩
          refine own_to st133v2 ?_
          show own_Fin p e below G (T133v2.setTop (mkF m 136 #[.val (.int p0), .val (.int p1), .val (.int p2), .val (.long x3), .second, .val (.long x4), .second, .val (.int v7_23), .val (.int v8_23), .val (.long w9_23), .second, .val (.ref b24), .val (.ref b29), .val (.ref b81), .unset, .unset, .unset, .unset] []))
          have Zz_136_Kp133v2 := Nat.le_trans Z_133v2 Kp133v2.1
          have Z_136 : n0 ≤ T133v2.heap.size := Zz_136_Kp133v2
          have hL : own_ls v7_23 = (-1 : Int32) := by simp [own_ls, hs0, hs1, hs2]
          have hW : own_W v7_23 3 = 3 := by simp [own_W, own_i, hs0, hs1, hs2]
          have hq : ∀ i, i < 3 → (¬ f11 v7_23 (own_i i) = 0 → (own_upd (own_upd (own_upd (fun _ => (0 : Int64)) 0 (f24 (0 : Int64))) 1 (f24 (1 : Int64))) 2 (f24 (2 : Int64))) i = f12 x3 (own_i i)) ∧ (own_upd (own_upd (own_upd (fun _ => (0 : Int64)) 0 (0 : Int64)) 1 (0 : Int64)) 2 (0 : Int64)) i = own_N v7_23 w9_23 i ∧ (own_upd (own_upd (own_upd (fun _ => Value.null) 0 (.ref b37)) 1 (.ref b52)) 2 (.ref b67)) i = .ref ((own_r b37 b52 b67) i) ∧ (f11 v7_23 (own_i i) = 0 → own_W v7_23 i < 10 ∧ (own_upd (own_upd (own_upd (fun _ => Value.null) 0 (.ref b37)) 1 (.ref b52)) 2 (.ref b67)) (own_W v7_23 i) = .ref ((own_r b37 b52 b67) i)) := by
            intro i hi
            have : i = 0 ∨ i = 1 ∨ i = 2 := by omega
            rcases this with rfl | rfl | rfl <;> simp [own_upd, own_N, own_W, own_i, own_r, hs0, hs1, hs2]
          have V80_at_136 := (V80_at_129.keep Kp133v2 (ninS ne_b29_b81 (ninS ne_b29_off103v2 (ninS ne_b29_len103v2 (ninS ne_b29_wh86 (ninS ne_b29_ed103v2 nin0))))))
          refine K136 _ _ N133v2 (X133v2.more (by decide) (by decide)) _ rfl Z_136 ⟨off103v2, len103v2, wh86, ed103v2, 0, (f9 p0 (2147483639 : Int32)), 10, (own_upd (own_upd (own_upd (fun _ => (0 : Int64)) 0 (f24 (0 : Int64))) 1 (f24 (1 : Int64))) 2 (f24 (2 : Int64))), (own_upd (own_upd (own_upd (fun _ => (0 : Int64)) 0 (0 : Int64)) 1 (0 : Int64)) 2 (0 : Int64)), (own_upd (own_upd (own_upd (fun _ => Value.null) 0 (.ref b37)) 1 (.ref b52)) 2 (.ref b67)), (own_upd (own_upd (own_upd (fun _ => Value.null) 0 (.ref b37)) 1 (.ref b52)) 2 (.ref b67)), ⟨P133v2_0, P133v2_1, P133v2_2, P133v2_3, P133v2_4, P133v2_5, (by rw [hL]; exact P133v2_6), P133v2_7, P133v2_8⟩, ⟨⟨P133v2_9, P133v2_10, P133v2_11, P133v2_13, (by rw [hW]; exact P133v2_14), P133v2_15.av, V80_at_136.av, ?_⟩, ⟨(Ne.symm ne_b81_off103v2), (Ne.symm ne_b81_len103v2), (Ne.symm ne_b81_wh86), (Ne.symm ne_b81_ed103v2), ne_b29_b81, g_b81⟩, hq⟩, fun _ => rfl⟩
          intro i hi
          have : i = 0 ∨ i = 1 ∨ i = 2 := by omega
          rcases this with rfl | rfl | rfl
          have P45_0_at_136 := (((P45_0_at_103.keep Kp103v2).keep Kp118v2).keep Kp133v2)
          · exact P45_0_at_136
          have P60_0_at_136 := ((P60_0_at_118.keep Kp118v2).keep Kp133v2)
          · exact P60_0_at_136
          have P77_0_at_136 := (P77_0_at_133.keep Kp133v2)
          · exact P77_0_at_136
        · skip
          have Zz_133v2_Kp118v2'1 := Nat.le_trans Z_118v2 Kp118v2.1
          have Z_133v2'1 : n0 ≤ T118v2.heap.size := Zz_133v2_Kp118v2'1
          obtain ⟨_, _, ⟨T133v2, L133v2, k133v2, n133v2⟩, -, X133v2, ⟨Lc133v2, hQ133v2, l133v2, y133v2, z133v2⟩, st133v2⟩ := Jvm.LawKit.callS X118v2 hx (y := own_y10) hown (mvT hZ (own_w hw 80 rfl)) (mvT hZ (own_w hw 81 rfl)) (mvT hZ (own_w hw 82 rfl)) (mvT hZ (own_w hw 83 rfl)) (by decide) (backOf (W := 0) (rm10_1 l Z a0 hw [] b81 v7_23 (2 : Int32) b67 x3 w9_23 (f9 p0 (2147483639 : Int32)) (2 : Int32) (-1 : Int32) (own_upd (own_upd (fun _ => (0 : Int64)) 0 (f24 (0 : Int64))) 1 (f24 (1 : Int64))) (own_upd (own_upd (fun _ => (0 : Int64)) 0 (0 : Int64)) 1 (0 : Int64)) 2 off103v2 len103v2 wh86 T118v2.heap n0 Z_133v2'1 P118v2_0 P118v2_1 P118v2_2 P118v2_3 P118v2_4 P118v2_5 P118v2_6 P118v2_7 P118v2_8 g_b81 P118v2_9 P118v2_10 g_off103v2 g_len103v2 neq_off103v2_len103v2 ne_b81_off103v2 ne_b81_len103v2 (by decide) (by decide) (by decide) (by decide) hs2) hZ (own_w hw 83 rfl) (own_w hw 82 rfl) (by decide) (by decide)) (g := (mkF m 133 #[.val (.int p0), .val (.int p1), .val (.int p2), .val (.long x3), .second, .val (.long x4), .second, .val (.int v7_23), .val (.int v8_23), .val (.long w9_23), .second, .val (.ref b24), .val (.ref b29), .val (.ref b81), .unset, .unset, .unset, .unset] [(.long w9_23), (.long x3), (.ref b67), (.int (2 : Int32)), (.int v7_23), (.ref b81)])) rfl (by rw [hml]; rfl) (argsL := [(.ref b81), (.int v7_23), (.int (2 : Int32)), (.ref b67), (.long x3), (.long w9_23)]) (rest := []) (lenOf own_pd21 rfl) rfl (by show 2 * 0 + _ ≤ _; exact Nat.le_of_eq rfl) (hb hby at_133) (fun _ _ => ⟨rfl, rfl, (by decide : 10 + 0 ≤ _), (by decide : 69 + 0 ≤ _)⟩)
          dsimp only [Pt.U, Pt.locs, Pt.cells, Pt.slots] at X133v2 l133v2 y133v2 z133v2 st133v2 hQ133v2
          subst l133v2 y133v2 z133v2
          obtain ⟨rfl, N133v2q, Kp133v2, P133v2_0, P133v2_1, P133v2_2, P133v2_3, P133v2_4, P133v2_5, P133v2_6, P133v2_7, P133v2_8, P133v2_9, P133v2_10⟩ := hQ133v2
          obtain ⟨lo133v2, X133v2, N133v2⟩ : ∃ lo, Stand p l e _ s m _ below meth c T133v2 lo _ _ ∧ Fr n0 lo := ⟨_, X133v2, Fr.app N118v2 N133v2q⟩
          refine own_to st133v2 ?_
          show own_Fin p e below G (T133v2.setTop (mkF m 136 #[.val (.int p0), .val (.int p1), .val (.int p2), .val (.long x3), .second, .val (.long x4), .second, .val (.int v7_23), .val (.int v8_23), .val (.long w9_23), .second, .val (.ref b24), .val (.ref b29), .val (.ref b81), .unset, .unset, .unset, .unset] []))
          have Zz_136_Kp133v2'1 := Nat.le_trans Z_133v2'1 Kp133v2.1
          have Z_136'1 : n0 ≤ T133v2.heap.size := Zz_136_Kp133v2'1
          have hL : own_ls v7_23 = (2 : Int32) := by simp [own_ls, hs0, hs1, hs2]
          have hW : own_W v7_23 3 = 2 := by simp [own_W, own_i, hs0, hs1, hs2]
          have P118v2_15_at_136 := (P118v2_15.keep Kp133v2 (ninS (Ne.symm ne_b81_ed103v2) (ninS (Ne.symm neq_off103v2_ed103v2) (ninS (Ne.symm neq_len103v2_ed103v2) nin0))))
          have hq : ∀ i, i < 3 → (¬ f11 v7_23 (own_i i) = 0 → (own_upd (own_upd (own_upd (fun _ => (0 : Int64)) 0 (f24 (0 : Int64))) 1 (f24 (1 : Int64))) 2 (f12 x3 (2 : Int32))) i = f12 x3 (own_i i)) ∧ (own_upd (own_upd (own_upd (fun _ => (0 : Int64)) 0 (0 : Int64)) 1 (0 : Int64)) 2 (-w9_23)) i = own_N v7_23 w9_23 i ∧ (own_upd (own_upd (own_upd (fun _ => Value.null) 0 (.ref b37)) 1 (.ref b52)) 2 (.ref b67)) i = .ref ((own_r b37 b52 b67) i) ∧ (f11 v7_23 (own_i i) = 0 → own_W v7_23 i < 10 ∧ (own_upd (own_upd (fun _ => Value.null) 0 (.ref b37)) 1 (.ref b52)) (own_W v7_23 i) = .ref ((own_r b37 b52 b67) i)) := by
            intro i hi
            have : i = 0 ∨ i = 1 ∨ i = 2 := by omega
            rcases this with rfl | rfl | rfl <;> simp [own_upd, own_N, own_W, own_i, own_r, hs0, hs1, hs2]
          have P118v2_11_at_136 := (P118v2_11.keep Kp133v2)
          have P118v2_13_at_136 := (P118v2_13.keep Kp133v2 (ninS (Ne.symm ne_b81_wh86) (ninS ne_wh86_off103v2 (ninS ne_wh86_len103v2 nin0))))
          have P118v2_14_at_136 := (P118v2_14.keep Kp133v2 (ninS (Ne.symm ne_b81_wh86) (ninS ne_wh86_off103v2 (ninS ne_wh86_len103v2 nin0))))
          have V80_at_136'1 := (V80_at_129.keep Kp133v2 (ninS ne_b29_b81 (ninS ne_b29_off103v2 (ninS ne_b29_len103v2 nin0))))
          refine K136 _ _ N133v2 (X133v2.more (by decide) (by decide)) _ rfl Z_136'1 ⟨off103v2, len103v2, wh86, ed103v2, 0, (f9 p0 (2147483639 : Int32)), 10, (own_upd (own_upd (own_upd (fun _ => (0 : Int64)) 0 (f24 (0 : Int64))) 1 (f24 (1 : Int64))) 2 (f12 x3 (2 : Int32))), (own_upd (own_upd (own_upd (fun _ => (0 : Int64)) 0 (0 : Int64)) 1 (0 : Int64)) 2 (-w9_23)), (own_upd (own_upd (fun _ => Value.null) 0 (.ref b37)) 1 (.ref b52)), (own_upd (own_upd (own_upd (fun _ => Value.null) 0 (.ref b37)) 1 (.ref b52)) 2 (.ref b67)), ⟨P133v2_0, P133v2_1, P133v2_2, P133v2_3, P133v2_4, P133v2_5, (by rw [hL]; exact P133v2_6), P133v2_7, P133v2_8⟩, ⟨⟨P133v2_9, P133v2_10, P118v2_11_at_136, P118v2_13_at_136, (by rw [hW]; exact P118v2_14_at_136), P118v2_15_at_136.av, V80_at_136'1.av, ?_⟩, ⟨(Ne.symm ne_b81_off103v2), (Ne.symm ne_b81_len103v2), (Ne.symm ne_b81_wh86), (Ne.symm ne_b81_ed103v2), ne_b29_b81, g_b81⟩, hq⟩, fun _ => rfl⟩
          intro i hi
          have : i = 0 ∨ i = 1 ∨ i = 2 := by omega
          rcases this with rfl | rfl | rfl
          have P45_0_at_136'1 := (((P45_0_at_103.keep Kp103v2).keep Kp118v2).keep Kp133v2)
          · exact P45_0_at_136'1
          have P60_0_at_136'1 := ((P60_0_at_118.keep Kp118v2).keep Kp133v2)
          · exact P60_0_at_136'1
          have P77_0_at_136'1 := ((((((P77_0.wr W80).ext E81).keep Kp86).keep Kp103v2).keep Kp118v2).keep Kp133v2)
          · exact P77_0_at_136'1
      · skip
        have Zz_118v2_Kp103v2'1 := Nat.le_trans Z_103v2 Kp103v2.1
        have Z_118v2'1 : n0 ≤ T103v2.heap.size := Zz_118v2_Kp103v2'1
        obtain ⟨_, _, ⟨T118v2, L118v2, k118v2, n118v2⟩, -, X118v2, ⟨Lc118v2, hQ118v2, l118v2, y118v2, z118v2⟩, st118v2⟩ := Jvm.LawKit.callS X103v2 hx (y := own_y10) hown (mvT hZ (own_w hw 80 rfl)) (mvT hZ (own_w hw 81 rfl)) (mvT hZ (own_w hw 82 rfl)) (mvT hZ (own_w hw 83 rfl)) (by decide) (backOf (W := 0) (rm10_1 l Z a0 hw [] b81 v7_23 (1 : Int32) b52 x3 w9_23 (f9 p0 (2147483639 : Int32)) (1 : Int32) (-1 : Int32) (own_upd (fun _ => (0 : Int64)) 0 (f24 (0 : Int64))) (own_upd (fun _ => (0 : Int64)) 0 (0 : Int64)) 1 off103v2 len103v2 wh86 T103v2.heap n0 Z_118v2'1 P103v2_0 P103v2_1 P103v2_2 P103v2_3 P103v2_4 P103v2_5 P103v2_6 P103v2_7 P103v2_8 g_b81 P103v2_9 P103v2_10 g_off103v2 g_len103v2 neq_off103v2_len103v2 ne_b81_off103v2 ne_b81_len103v2 (by decide) (by decide) (by decide) (by decide) hs1) hZ (own_w hw 83 rfl) (own_w hw 82 rfl) (by decide) (by decide)) (g := (mkF m 118 #[.val (.int p0), .val (.int p1), .val (.int p2), .val (.long x3), .second, .val (.long x4), .second, .val (.int v7_23), .val (.int v8_23), .val (.long w9_23), .second, .val (.ref b24), .val (.ref b29), .val (.ref b81), .unset, .unset, .unset, .unset] [(.long w9_23), (.long x3), (.ref b52), (.int (1 : Int32)), (.int v7_23), (.ref b81)])) rfl (by rw [hml]; rfl) (argsL := [(.ref b81), (.int v7_23), (.int (1 : Int32)), (.ref b52), (.long x3), (.long w9_23)]) (rest := []) (lenOf own_pd21 rfl) rfl (by show 2 * 0 + _ ≤ _; exact Nat.le_of_eq rfl) (hb hby at_118) (fun _ _ => ⟨rfl, rfl, (by decide : 10 + 0 ≤ _), (by decide : 69 + 0 ≤ _)⟩)
        dsimp only [Pt.U, Pt.locs, Pt.cells, Pt.slots] at X118v2 l118v2 y118v2 z118v2 st118v2 hQ118v2
        subst l118v2 y118v2 z118v2
        obtain ⟨rfl, N118v2q, Kp118v2, P118v2_0, P118v2_1, P118v2_2, P118v2_3, P118v2_4, P118v2_5, P118v2_6, P118v2_7, P118v2_8, P118v2_9, P118v2_10⟩ := hQ118v2
        obtain ⟨lo118v2, X118v2, N118v2⟩ : ∃ lo, Stand p l e _ s m _ below meth c T118v2 lo _ _ ∧ Fr n0 lo := ⟨_, X118v2, Fr.app N103v2 N118v2q⟩
        refine own_to st118v2 ?_
        show own_Fin p e below G (T118v2.setTop (mkF m 121 #[.val (.int p0), .val (.int p1), .val (.int p2), .val (.long x3), .second, .val (.long x4), .second, .val (.int v7_23), .val (.int v8_23), .val (.long w9_23), .second, .val (.ref b24), .val (.ref b29), .val (.ref b81), .unset, .unset, .unset, .unset] []))
        refine own_aload X118v2 hx (hb hby at_121) rfl (rfl) ?_
        refine own_iload X118v2 hx (hb hby at_123) rfl ?_
        refine own_iconst X118v2 hx (2) (hb hby at_125) rfl ?_
        refine own_aload X118v2 hx (hb hby at_126) rfl (rfl) ?_
        refine own_iconst X118v2 hx (2) (hb hby at_128) rfl ?_
        have V80_at_129'1 := (V80_at_114.keep Kp118v2 (ninS ne_b29_b81 (ninS ne_b29_off103v2 (ninS ne_b29_len103v2 nin0))))
        refine own_to (fun _ kz => own_aaload X118v2 hx hZ rfl (own_RV.av V80_at_129'1) (j := (2 : Int32)) (by decide) rfl (by decide) (v := (.ref b67)) rfl (g := (mkF m 129 #[.val (.int p0), .val (.int p1), .val (.int p2), .val (.long x3), .second, .val (.long x4), .second, .val (.int v7_23), .val (.int v8_23), .val (.long w9_23), .second, .val (.ref b24), .val (.ref b29), .val (.ref b81), .unset, .unset, .unset, .unset] [(.int (2 : Int32)), (.ref b29), (.int (2 : Int32)), (.int v7_23), (.ref b81)])) rfl rfl (hb hby at_129) kz) ?_
        show own_Fin p e below G (T118v2.setTop (mkF m 130 #[.val (.int p0), .val (.int p1), .val (.int p2), .val (.long x3), .second, .val (.long x4), .second, .val (.int v7_23), .val (.int v8_23), .val (.long w9_23), .second, .val (.ref b24), .val (.ref b29), .val (.ref b81), .unset, .unset, .unset, .unset] [(.ref b67), (.int (2 : Int32)), (.int v7_23), (.ref b81)]))
        refine own_lloadN X118v2 hx (hb hby at_130) rfl ?_
        refine own_lload X118v2 hx (hb hby at_131) rfl ?_
        by_cases hs2 : (f11 v7_23 (2 : Int32)) = (0 : Int32)
        · skip
          have P103v2_11_at_133 := (P103v2_11.keep Kp118v2)
          have P103v2_12_at_133 := (P103v2_12.keep Kp118v2 (ninS (Ne.symm ne_b81_wh86) (ninS ne_wh86_off103v2 (ninS ne_wh86_len103v2 nin0))))
          have P103v2_13_at_133 := (P103v2_13.keep Kp118v2 (ninS (Ne.symm ne_b81_wh86) (ninS ne_wh86_off103v2 (ninS ne_wh86_len103v2 nin0))))
          have P103v2_14_at_133 := (P103v2_14.keep Kp118v2 (ninS (Ne.symm ne_b81_wh86) (ninS ne_wh86_off103v2 (ninS ne_wh86_len103v2 nin0))))
          have P103v2_15_at_133 := (P103v2_15.keep Kp118v2 (ninS (Ne.symm ne_b81_ed103v2) (ninS (Ne.symm neq_off103v2_ed103v2) (ninS (Ne.symm neq_len103v2_ed103v2) nin0))))
          have P77_0_at_133'1 := (((((P77_0.wr W80).ext E81).keep Kp86).keep Kp103v2).keep Kp118v2)
          have P77_1_at_133'1 := (((((P77_1.other W80 (Or.inl (Ne.symm ne_b29_b67))).ext E81).keep Kp86 (ninS ne_b67_b81 nin0)).keep Kp103v2 (ninS ne_b67_b81 (ninS ne_b67_wh86 nin0))).keep Kp118v2 (ninS ne_b67_b81 (ninS ne_b67_off103v2 (ninS ne_b67_len103v2 nin0))))
          have Zz_133v2_Kp118v2'2 := Nat.le_trans Z_118v2'1 Kp118v2.1
          have Z_133v2'2 : n0 ≤ T118v2.heap.size := Zz_133v2_Kp118v2'2
          obtain ⟨_, _, ⟨T133v2, L133v2, k133v2, n133v2⟩, -, X133v2, ⟨Lc133v2, hQ133v2, l133v2, y133v2, z133v2⟩, st133v2⟩ := Jvm.LawKit.callS X118v2 hx (y := own_y10) hown (mvT hZ (own_w hw 80 rfl)) (mvT hZ (own_w hw 81 rfl)) (mvT hZ (own_w hw 82 rfl)) (mvT hZ (own_w hw 83 rfl)) (by decide) (backOf (W := 0) (rm10_11 l Z a0 hw [] b81 v7_23 (2 : Int32) b67 x3 w9_23 (f9 p0 (2147483639 : Int32)) (2 : Int32) (1 : Int32) (own_upd (own_upd (fun _ => (0 : Int64)) 0 (f24 (0 : Int64))) 1 (f12 x3 (1 : Int32))) (own_upd (own_upd (fun _ => (0 : Int64)) 0 (0 : Int64)) 1 (-w9_23)) 2 (1 : Int32) (1 : Int32) (own_upd (fun _ => Value.null) 0 (.ref b37)) 1 (2 : Int64) off103v2 len103v2 wh86 ed103v2 T118v2.heap n0 Z_133v2'2 P118v2_0 P118v2_1 P118v2_2 P118v2_3 P118v2_4 P118v2_5 P118v2_6 P118v2_7 P118v2_8 g_b81 P118v2_9 P118v2_10 g_off103v2 g_len103v2 neq_off103v2_len103v2 ne_b81_off103v2 ne_b81_len103v2 (by decide) (by decide) (by decide) (by decide) P103v2_11_at_133 P103v2_12_at_133 P103v2_13_at_133 P103v2_14_at_133 g_wh86 P103v2_15_at_133 g_ed103v2 (Ne.symm ne_wh86_ed103v2) (by decide) (by decide) (by decide) (by decide) ne_b81_wh86 (Ne.symm ne_wh86_off103v2) (Ne.symm ne_wh86_len103v2) ne_b81_ed103v2 neq_off103v2_ed103v2 neq_len103v2_ed103v2 P77_0_at_133'1 P77_1_at_133'1 ne_b67_wh86 ne_b67_ed103v2 hs2) hZ (own_w hw 83 rfl) (own_w hw 82 rfl) (by decide) (by decide)) (g := (mkF m 133 #[.val (.int p0), .val (.int p1), .val (.int p2), .val (.long x3), .second, .val (.long x4), .second, .val (.int v7_23), .val (.int v8_23), .val (.long w9_23), .second, .val (.ref b24), .val (.ref b29), .val (.ref b81), .unset, .unset, .unset, .unset] [(.long w9_23), (.long x3), (.ref b67), (.int (2 : Int32)), (.int v7_23), (.ref b81)])) rfl (by rw [hml]; rfl) (argsL := [(.ref b81), (.int v7_23), (.int (2 : Int32)), (.ref b67), (.long x3), (.long w9_23)]) (rest := []) (lenOf own_pd21 rfl) rfl (by show 2 * 0 + _ ≤ _; exact Nat.le_of_eq rfl) (hb hby at_133) (fun _ _ => ⟨rfl, rfl, (by decide : 10 + 0 ≤ _), (by decide : 69 + 0 ≤ _)⟩)
          dsimp only [Pt.U, Pt.locs, Pt.cells, Pt.slots] at X133v2 l133v2 y133v2 z133v2 st133v2 hQ133v2
          subst l133v2 y133v2 z133v2
          obtain ⟨rfl, N133v2q, Kp133v2, P133v2_0, P133v2_1, P133v2_2, P133v2_3, P133v2_4, P133v2_5, P133v2_6, P133v2_7, P133v2_8, P133v2_9, P133v2_10, P133v2_11, P133v2_12, P133v2_13, P133v2_14, P133v2_15⟩ := hQ133v2
          obtain ⟨lo133v2, X133v2, N133v2⟩ : ∃ lo, Stand p l e _ s m _ below meth c T133v2 lo _ _ ∧ Fr n0 lo := ⟨_, X133v2, Fr.app N118v2 N133v2q⟩
          refine own_to st133v2 ?_
          show own_Fin p e below G (T133v2.setTop (mkF m 136 #[.val (.int p0), .val (.int p1), .val (.int p2), .val (.long x3), .second, .val (.long x4), .second, .val (.int v7_23), .val (.int v8_23), .val (.long w9_23), .second, .val (.ref b24), .val (.ref b29), .val (.ref b81), .unset, .unset, .unset, .unset] []))
          have Zz_136_Kp133v2'2 := Nat.le_trans Z_133v2'2 Kp133v2.1
          have Z_136'2 : n0 ≤ T133v2.heap.size := Zz_136_Kp133v2'2
          have hL : own_ls v7_23 = (1 : Int32) := by simp [own_ls, hs0, hs1, hs2]
          have hW : own_W v7_23 3 = 2 := by simp [own_W, own_i, hs0, hs1, hs2]
          have hq : ∀ i, i < 3 → (¬ f11 v7_23 (own_i i) = 0 → (own_upd (own_upd (own_upd (fun _ => (0 : Int64)) 0 (f24 (0 : Int64))) 1 (f12 x3 (1 : Int32))) 2 (f24 (2 : Int64))) i = f12 x3 (own_i i)) ∧ (own_upd (own_upd (own_upd (fun _ => (0 : Int64)) 0 (0 : Int64)) 1 (-w9_23)) 2 (0 : Int64)) i = own_N v7_23 w9_23 i ∧ (own_upd (own_upd (own_upd (fun _ => Value.null) 0 (.ref b37)) 1 (.ref b52)) 2 (.ref b67)) i = .ref ((own_r b37 b52 b67) i) ∧ (f11 v7_23 (own_i i) = 0 → own_W v7_23 i < 10 ∧ (own_upd (own_upd (fun _ => Value.null) 0 (.ref b37)) 1 (.ref b67)) (own_W v7_23 i) = .ref ((own_r b37 b52 b67) i)) := by
            intro i hi
            have : i = 0 ∨ i = 1 ∨ i = 2 := by omega
            rcases this with rfl | rfl | rfl <;> simp [own_upd, own_N, own_W, own_i, own_r, hs0, hs1, hs2]
          have V80_at_136'2 := (V80_at_129'1.keep Kp133v2 (ninS ne_b29_b81 (ninS ne_b29_off103v2 (ninS ne_b29_len103v2 (ninS ne_b29_wh86 (ninS ne_b29_ed103v2 nin0))))))
          refine K136 _ _ N133v2 (X133v2.more (by decide) (by decide)) _ rfl Z_136'2 ⟨off103v2, len103v2, wh86, ed103v2, 0, (f9 p0 (2147483639 : Int32)), 10, (own_upd (own_upd (own_upd (fun _ => (0 : Int64)) 0 (f24 (0 : Int64))) 1 (f12 x3 (1 : Int32))) 2 (f24 (2 : Int64))), (own_upd (own_upd (own_upd (fun _ => (0 : Int64)) 0 (0 : Int64)) 1 (-w9_23)) 2 (0 : Int64)), (own_upd (own_upd (fun _ => Value.null) 0 (.ref b37)) 1 (.ref b67)), (own_upd (own_upd (own_upd (fun _ => Value.null) 0 (.ref b37)) 1 (.ref b52)) 2 (.ref b67)), ⟨P133v2_0, P133v2_1, P133v2_2, P133v2_3, P133v2_4, P133v2_5, (by rw [hL]; exact P133v2_6), P133v2_7, P133v2_8⟩, ⟨⟨P133v2_9, P133v2_10, P133v2_11, P133v2_13, (by rw [hW]; exact P133v2_14), P133v2_15.av, V80_at_136'2.av, ?_⟩, ⟨(Ne.symm ne_b81_off103v2), (Ne.symm ne_b81_len103v2), (Ne.symm ne_b81_wh86), (Ne.symm ne_b81_ed103v2), ne_b29_b81, g_b81⟩, hq⟩, fun _ => rfl⟩
          intro i hi
          have : i = 0 ∨ i = 1 ∨ i = 2 := by omega
          rcases this with rfl | rfl | rfl
          have P45_0_at_136'2 := (((P45_0_at_103.keep Kp103v2).keep Kp118v2).keep Kp133v2)
          · exact P45_0_at_136'2
          have P60_0_at_136'2 := (((((((((P60_0.wr W63).ext E67).keep Kp77).wr W80).ext E81).keep Kp86).keep Kp103v2).keep Kp118v2).keep Kp133v2)
          · exact P60_0_at_136'2
          have P77_0_at_136'2 := (P77_0_at_133'1.keep Kp133v2)
          · exact P77_0_at_136'2
        · skip
          have Zz_133v2_Kp118v2'3 := Nat.le_trans Z_118v2'1 Kp118v2.1
          have Z_133v2'3 : n0 ≤ T118v2.heap.size := Zz_133v2_Kp118v2'3
          obtain ⟨_, _, ⟨T133v2, L133v2, k133v2, n133v2⟩, -, X133v2, ⟨Lc133v2, hQ133v2, l133v2, y133v2, z133v2⟩, st133v2⟩ := Jvm.LawKit.callS X118v2 hx (y := own_y10) hown (mvT hZ (own_w hw 80 rfl)) (mvT hZ (own_w hw 81 rfl)) (mvT hZ (own_w hw 82 rfl)) (mvT hZ (own_w hw 83 rfl)) (by decide) (backOf (W := 0) (rm10_1 l Z a0 hw [] b81 v7_23 (2 : Int32) b67 x3 w9_23 (f9 p0 (2147483639 : Int32)) (2 : Int32) (1 : Int32) (own_upd (own_upd (fun _ => (0 : Int64)) 0 (f24 (0 : Int64))) 1 (f12 x3 (1 : Int32))) (own_upd (own_upd (fun _ => (0 : Int64)) 0 (0 : Int64)) 1 (-w9_23)) 2 off103v2 len103v2 wh86 T118v2.heap n0 Z_133v2'3 P118v2_0 P118v2_1 P118v2_2 P118v2_3 P118v2_4 P118v2_5 P118v2_6 P118v2_7 P118v2_8 g_b81 P118v2_9 P118v2_10 g_off103v2 g_len103v2 neq_off103v2_len103v2 ne_b81_off103v2 ne_b81_len103v2 (by decide) (by decide) (by decide) (by decide) hs2) hZ (own_w hw 83 rfl) (own_w hw 82 rfl) (by decide) (by decide)) (g := (mkF m 133 #[.val (.int p0), .val (.int p1), .val (.int p2), .val (.long x3), .second, .val (.long x4), .second, .val (.int v7_23), .val (.int v8_23), .val (.long w9_23), .second, .val (.ref b24), .val (.ref b29), .val (.ref b81), .unset, .unset, .unset, .unset] [(.long w9_23), (.long x3), (.ref b67), (.int (2 : Int32)), (.int v7_23), (.ref b81)])) rfl (by rw [hml]; rfl) (argsL := [(.ref b81), (.int v7_23), (.int (2 : Int32)), (.ref b67), (.long x3), (.long w9_23)]) (rest := []) (lenOf own_pd21 rfl) rfl (by show 2 * 0 + _ ≤ _; exact Nat.le_of_eq rfl) (hb hby at_133) (fun _ _ => ⟨rfl, rfl, (by decide : 10 + 0 ≤ _), (by decide : 69 + 0 ≤ _)⟩)
          dsimp only [Pt.U, Pt.locs, Pt.cells, Pt.slots] at X133v2 l133v2 y133v2 z133v2 st133v2 hQ133v2
          subst l133v2 y133v2 z133v2
          obtain ⟨rfl, N133v2q, Kp133v2, P133v2_0, P133v2_1, P133v2_2, P133v2_3, P133v2_4, P133v2_5, P133v2_6, P133v2_7, P133v2_8, P133v2_9, P133v2_10⟩ := hQ133v2
          obtain ⟨lo133v2, X133v2, N133v2⟩ : ∃ lo, Stand p l e _ s m _ below meth c T133v2 lo _ _ ∧ Fr n0 lo := ⟨_, X133v2, Fr.app N118v2 N133v2q⟩
          refine own_to st133v2 ?_
          show own_Fin p e below G (T133v2.setTop (mkF m 136 #[.val (.int p0), .val (.int p1), .val (.int p2), .val (.long x3), .second, .val (.long x4), .second, .val (.int v7_23), .val (.int v8_23), .val (.long w9_23), .second, .val (.ref b24), .val (.ref b29), .val (.ref b81), .unset, .unset, .unset, .unset] []))
          have Zz_136_Kp133v2'3 := Nat.le_trans Z_133v2'3 Kp133v2.1
          have Z_136'3 : n0 ≤ T133v2.heap.size := Zz_136_Kp133v2'3
          have hL : own_ls v7_23 = (2 : Int32) := by simp [own_ls, hs0, hs1, hs2]
          have hW : own_W v7_23 3 = 1 := by simp [own_W, own_i, hs0, hs1, hs2]
          have P103v2_15_at_136 := ((P103v2_15.keep Kp118v2 (ninS (Ne.symm ne_b81_ed103v2) (ninS (Ne.symm neq_off103v2_ed103v2) (ninS (Ne.symm neq_len103v2_ed103v2) nin0)))).keep Kp133v2 (ninS (Ne.symm ne_b81_ed103v2) (ninS (Ne.symm neq_off103v2_ed103v2) (ninS (Ne.symm neq_len103v2_ed103v2) nin0))))
          have hq : ∀ i, i < 3 → (¬ f11 v7_23 (own_i i) = 0 → (own_upd (own_upd (own_upd (fun _ => (0 : Int64)) 0 (f24 (0 : Int64))) 1 (f12 x3 (1 : Int32))) 2 (f12 x3 (2 : Int32))) i = f12 x3 (own_i i)) ∧ (own_upd (own_upd (own_upd (fun _ => (0 : Int64)) 0 (0 : Int64)) 1 (-w9_23)) 2 (-w9_23)) i = own_N v7_23 w9_23 i ∧ (own_upd (own_upd (own_upd (fun _ => Value.null) 0 (.ref b37)) 1 (.ref b52)) 2 (.ref b67)) i = .ref ((own_r b37 b52 b67) i) ∧ (f11 v7_23 (own_i i) = 0 → own_W v7_23 i < 10 ∧ (own_upd (fun _ => Value.null) 0 (.ref b37)) (own_W v7_23 i) = .ref ((own_r b37 b52 b67) i)) := by
            intro i hi
            have : i = 0 ∨ i = 1 ∨ i = 2 := by omega
            rcases this with rfl | rfl | rfl <;> simp [own_upd, own_N, own_W, own_i, own_r, hs0, hs1, hs2]
          have P103v2_11_at_136 := ((P103v2_11.keep Kp118v2).keep Kp133v2)
          have P103v2_13_at_136 := ((P103v2_13.keep Kp118v2 (ninS (Ne.symm ne_b81_wh86) (ninS ne_wh86_off103v2 (ninS ne_wh86_len103v2 nin0)))).keep Kp133v2 (ninS (Ne.symm ne_b81_wh86) (ninS ne_wh86_off103v2 (ninS ne_wh86_len103v2 nin0))))
          have P103v2_14_at_136 := ((P103v2_14.keep Kp118v2 (ninS (Ne.symm ne_b81_wh86) (ninS ne_wh86_off103v2 (ninS ne_wh86_len103v2 nin0)))).keep Kp133v2 (ninS (Ne.symm ne_b81_wh86) (ninS ne_wh86_off103v2 (ninS ne_wh86_len103v2 nin0))))
          have V80_at_136'3 := (V80_at_129'1.keep Kp133v2 (ninS ne_b29_b81 (ninS ne_b29_off103v2 (ninS ne_b29_len103v2 nin0))))
          refine K136 _ _ N133v2 (X133v2.more (by decide) (by decide)) _ rfl Z_136'3 ⟨off103v2, len103v2, wh86, ed103v2, 0, (f9 p0 (2147483639 : Int32)), 10, (own_upd (own_upd (own_upd (fun _ => (0 : Int64)) 0 (f24 (0 : Int64))) 1 (f12 x3 (1 : Int32))) 2 (f12 x3 (2 : Int32))), (own_upd (own_upd (own_upd (fun _ => (0 : Int64)) 0 (0 : Int64)) 1 (-w9_23)) 2 (-w9_23)), (own_upd (fun _ => Value.null) 0 (.ref b37)), (own_upd (own_upd (own_upd (fun _ => Value.null) 0 (.ref b37)) 1 (.ref b52)) 2 (.ref b67)), ⟨P133v2_0, P133v2_1, P133v2_2, P133v2_3, P133v2_4, P133v2_5, (by rw [hL]; exact P133v2_6), P133v2_7, P133v2_8⟩, ⟨⟨P133v2_9, P133v2_10, P103v2_11_at_136, P103v2_13_at_136, (by rw [hW]; exact P103v2_14_at_136), P103v2_15_at_136.av, V80_at_136'3.av, ?_⟩, ⟨(Ne.symm ne_b81_off103v2), (Ne.symm ne_b81_len103v2), (Ne.symm ne_b81_wh86), (Ne.symm ne_b81_ed103v2), ne_b29_b81, g_b81⟩, hq⟩, fun _ => rfl⟩
          intro i hi
          have : i = 0 ∨ i = 1 ∨ i = 2 := by omega
          rcases this with rfl | rfl | rfl
          have P45_0_at_136'3 := (((P45_0_at_103.keep Kp103v2).keep Kp118v2).keep Kp133v2)
          · exact P45_0_at_136'3
          have P60_0_at_136'3 := (((((((((P60_0.wr W63).ext E67).keep Kp77).wr W80).ext E81).keep Kp86).keep Kp103v2).keep Kp118v2).keep Kp133v2)
          · exact P60_0_at_136'3
          have P77_0_at_136'3 := ((((((P77_0.wr W80).ext E81).keep Kp86).keep Kp103v2).keep Kp118v2).keep Kp133v2)
          · exact P77_0_at_136'3
    · skip
      have V_nent_at_103'1 := (((((((((((((V_nent.ext E24).ext E29).ext E37).keep Kp45 (ninS ne_nent_b37 nin0)).other W48 ne_nent_b29).ext E52).keep Kp60 (ninS ne_nent_b52 nin0)).other W63 ne_nent_b29).ext E67).keep Kp77 (ninS ne_nent_b67 nin0)).other W80 ne_nent_b29).ext E81).keep Kp86 (ninS ne_nent_b81 nin0))
      have Zz_103v2_Kp86'1 := Nat.le_trans Z_86 Kp86.1
      have Z_103v2'1 : n0 ≤ T86.heap.size := Zz_103v2_Kp86'1
      obtain ⟨_, _, ⟨T103v2, L103v2, k103v2, n103v2⟩, -, X103v2, ⟨Lc103v2, hQ103v2, l103v2, y103v2, z103v2⟩, st103v2⟩ := Jvm.LawKit.callS X86 hx (y := own_y10) hown (mvT hZ (own_w hw 80 rfl)) (mvT hZ (own_w hw 81 rfl)) (mvT hZ (own_w hw 82 rfl)) (mvT hZ (own_w hw 83 rfl)) (by decide) (backOf (W := 0) (rm10_0 l Z a0 hw [] b81 v7_23 (0 : Int32) b37 x3 w9_23 (f9 p0 (2147483639 : Int32)) (-1 : Int32) fz nent wh86 T86.heap n0 Z_103v2'1 P86_0 P86_1 P86_2 P86_3 P86_4 P86_5 P86_6 P86_7 P86_8 g_b81 V_nent_at_103'1 ne_nent_b81 hs0) hZ (own_w hw 83 rfl) (own_w hw 82 rfl) (by decide) (by decide)) (g := (mkF m 103 #[.val (.int p0), .val (.int p1), .val (.int p2), .val (.long x3), .second, .val (.long x4), .second, .val (.int v7_23), .val (.int v8_23), .val (.long w9_23), .second, .val (.ref b24), .val (.ref b29), .val (.ref b81), .unset, .unset, .unset, .unset] [(.long w9_23), (.long x3), (.ref b37), (.int (0 : Int32)), (.int v7_23), (.ref b81)])) rfl (by rw [hml]; rfl) (argsL := [(.ref b81), (.int v7_23), (.int (0 : Int32)), (.ref b37), (.long x3), (.long w9_23)]) (rest := []) (lenOf own_pd21 rfl) rfl (by show 2 * 0 + _ ≤ _; exact Nat.le_of_eq rfl) (hb hby at_103) (fun _ _ => ⟨rfl, rfl, (by decide : 7 + 2 ≤ _), (by decide : 27 + 32 ≤ _)⟩)
      dsimp only [Pt.U, Pt.locs, Pt.cells, Pt.slots] at X103v2 l103v2 y103v2 z103v2 st103v2 hQ103v2
      subst l103v2 y103v2 z103v2
      obtain ⟨off103v2, len103v2, rfl, N103v2q, Kp103v2, szq_off103v2, szq_len103v2, neq_off103v2_len103v2, P103v2_0, P103v2_1, P103v2_2, P103v2_3, P103v2_4, P103v2_5, P103v2_6, P103v2_7, P103v2_8, P103v2_9, P103v2_10⟩ := hQ103v2
      have ne_nent_off103v2'1 := Nat.ne_of_lt (Nat.lt_of_lt_of_le V_nent_at_103'1.lt szq_off103v2)
      have ne_nent_len103v2'1 := Nat.ne_of_lt (Nat.lt_of_lt_of_le V_nent_at_103'1.lt szq_len103v2)
      have ne_dc_off103v2'1 := Nat.ne_of_lt (Nat.lt_of_lt_of_le (((((((((((((V_dc.ext E24).ext E29).ext E37).keep Kp45 (ninS ne_dc_b37 nin0)).other W48 ne_dc_b29).ext E52).keep Kp60 (ninS ne_dc_b52 nin0)).other W63 ne_dc_b29).ext E67).keep Kp77 (ninS ne_dc_b67 nin0)).other W80 ne_dc_b29).ext E81).keep Kp86 (ninS ne_dc_b81 nin0)).lt szq_off103v2)
      have ne_dc_len103v2'1 := Nat.ne_of_lt (Nat.lt_of_lt_of_le (((((((((((((V_dc.ext E24).ext E29).ext E37).keep Kp45 (ninS ne_dc_b37 nin0)).other W48 ne_dc_b29).ext E52).keep Kp60 (ninS ne_dc_b52 nin0)).other W63 ne_dc_b29).ext E67).keep Kp77 (ninS ne_dc_b67 nin0)).other W80 ne_dc_b29).ext E81).keep Kp86 (ninS ne_dc_b81 nin0)).lt szq_len103v2)
      have ne_b24_off103v2'1 := Nat.ne_of_lt (Nat.lt_of_lt_of_le ((((((((((((V24.ext E29).ext E37).keep Kp45 (ninS ne_b24_b37 nin0)).other W48 ne_b24_b29).ext E52).keep Kp60 (ninS ne_b24_b52 nin0)).other W63 ne_b24_b29).ext E67).keep Kp77 (ninS ne_b24_b67 nin0)).other W80 ne_b24_b29).ext E81).keep Kp86 (ninS ne_b24_b81 nin0)).lt szq_off103v2)
      have ne_b24_len103v2'1 := Nat.ne_of_lt (Nat.lt_of_lt_of_le ((((((((((((V24.ext E29).ext E37).keep Kp45 (ninS ne_b24_b37 nin0)).other W48 ne_b24_b29).ext E52).keep Kp60 (ninS ne_b24_b52 nin0)).other W63 ne_b24_b29).ext E67).keep Kp77 (ninS ne_b24_b67 nin0)).other W80 ne_b24_b29).ext E81).keep Kp86 (ninS ne_b24_b81 nin0)).lt szq_len103v2)
      have ne_b29_off103v2'1 := Nat.ne_of_lt (Nat.lt_of_lt_of_le V80_at_99.lt szq_off103v2)
      have ne_b29_len103v2'1 := Nat.ne_of_lt (Nat.lt_of_lt_of_le V80_at_99.lt szq_len103v2)
      have ne_b37_off103v2'1 := Nat.ne_of_lt (Nat.lt_of_lt_of_le (((((((((P45_0.wr W48).ext E52).keep Kp60).wr W63).ext E67).keep Kp77).wr W80).ext E81).keep Kp86).lt szq_off103v2)
      have ne_b37_len103v2'1 := Nat.ne_of_lt (Nat.lt_of_lt_of_le (((((((((P45_0.wr W48).ext E52).keep Kp60).wr W63).ext E67).keep Kp77).wr W80).ext E81).keep Kp86).lt szq_len103v2)
      have ne_b52_off103v2'1 := Nat.ne_of_lt (Nat.lt_of_lt_of_le ((((((P60_0.wr W63).ext E67).keep Kp77).wr W80).ext E81).keep Kp86).lt szq_off103v2)
      have ne_b52_len103v2'1 := Nat.ne_of_lt (Nat.lt_of_lt_of_le ((((((P60_0.wr W63).ext E67).keep Kp77).wr W80).ext E81).keep Kp86).lt szq_len103v2)
      have ne_b67_off103v2'1 := Nat.ne_of_lt (Nat.lt_of_lt_of_le (((P77_0.wr W80).ext E81).keep Kp86).lt szq_off103v2)
      have ne_b67_len103v2'1 := Nat.ne_of_lt (Nat.lt_of_lt_of_le (((P77_0.wr W80).ext E81).keep Kp86).lt szq_len103v2)
      have ne_b81_off103v2'1 := Nat.ne_of_lt (Nat.lt_of_lt_of_le P86_0.lt szq_off103v2)
      have ne_b81_len103v2'1 := Nat.ne_of_lt (Nat.lt_of_lt_of_le P86_0.lt szq_len103v2)
      have ne_wh86_off103v2'1 := Nat.ne_of_lt (Nat.lt_of_lt_of_le P86_9.lt szq_off103v2)
      have ne_wh86_len103v2'1 := Nat.ne_of_lt (Nat.lt_of_lt_of_le P86_9.lt szq_len103v2)
      have g_off103v2 : n0 ≤ off103v2 := Nat.le_trans Z_103v2'1 szq_off103v2
      have g_len103v2 : n0 ≤ len103v2 := Nat.le_trans Z_103v2'1 szq_len103v2
      obtain ⟨lo103v2, X103v2, N103v2⟩ : ∃ lo, Stand p l e _ s m _ below meth c T103v2 lo _ _ ∧ Fr n0 lo := ⟨_, X103v2, Fr.app N86 N103v2q⟩
      refine own_to st103v2 ?_
      show own_Fin p e below G (T103v2.setTop (mkF m 106 #[.val (.int p0), .val (.int p1), .val (.int p2), .val (.long x3), .second, .val (.long x4), .second, .val (.int v7_23), .val (.int v8_23), .val (.long w9_23), .second, .val (.ref b24), .val (.ref b29), .val (.ref b81), .unset, .unset, .unset, .unset] []))
      refine own_aload X103v2 hx (hb hby at_106) rfl (rfl) ?_
      refine own_iload X103v2 hx (hb hby at_108) rfl ?_
      refine own_iconst X103v2 hx (1) (hb hby at_110) rfl ?_
      refine own_aload X103v2 hx (hb hby at_111) rfl (rfl) ?_
      refine own_iconst X103v2 hx (1) (hb hby at_113) rfl ?_
      have V80_at_114'1 := (V80_at_99.keep Kp103v2 (ninS ne_b29_b81 nin0))
      refine own_to (fun _ kz => own_aaload X103v2 hx hZ rfl (own_RV.av V80_at_114'1) (j := (1 : Int32)) (by decide) rfl (by decide) (v := (.ref b52)) rfl (g := (mkF m 114 #[.val (.int p0), .val (.int p1), .val (.int p2), .val (.long x3), .second, .val (.long x4), .second, .val (.int v7_23), .val (.int v8_23), .val (.long w9_23), .second, .val (.ref b24), .val (.ref b29), .val (.ref b81), .unset, .unset, .unset, .unset] [(.int (1 : Int32)), (.ref b29), (.int (1 : Int32)), (.int v7_23), (.ref b81)])) rfl rfl (hb hby at_114) kz) ?_
      show own_Fin p e below G (T103v2.setTop (mkF m 115 #[.val (.int p0), .val (.int p1), .val (.int p2), .val (.long x3), .second, .val (.long x4), .second, .val (.int v7_23), .val (.int v8_23), .val (.long w9_23), .second, .val (.ref b24), .val (.ref b29), .val (.ref b81), .unset, .unset, .unset, .unset] [(.ref b52), (.int (1 : Int32)), (.int v7_23), (.ref b81)]))
      refine own_lloadN X103v2 hx (hb hby at_115) rfl ?_
      refine own_lload X103v2 hx (hb hby at_116) rfl ?_
      by_cases hs1 : (f11 v7_23 (1 : Int32)) = (0 : Int32)
      · skip
        have P86_9_at_118 := (P86_9.keep Kp103v2)
        have P86_10_at_118 := (P86_10.keep Kp103v2 (ninS (Ne.symm ne_b81_wh86) nin0))
        have P86_11_at_118 := (P86_11.keep Kp103v2 (ninS (Ne.symm ne_b81_wh86) nin0))
        have P86_12_at_118 := (P86_12.keep Kp103v2 (ninS (Ne.symm ne_b81_wh86) nin0))
        have S_DEFAULTCAPACITY_EMPTY_ELEMENTDATA_at_118 := (own_staKeep (own_staKeep S_DEFAULTCAPACITY_EMPTY_ELEMENTDATA_at_86 Kp86 (allS (Exa.cell A81) all0)) Kp103v2 (allS (Exa.cell P86_0) all0))
        have V_dc_at_118 := ((((((((((((((V_dc.ext E24).ext E29).ext E37).keep Kp45 (ninS ne_dc_b37 nin0)).other W48 ne_dc_b29).ext E52).keep Kp60 (ninS ne_dc_b52 nin0)).other W63 ne_dc_b29).ext E67).keep Kp77 (ninS ne_dc_b67 nin0)).other W80 ne_dc_b29).ext E81).keep Kp86 (ninS ne_dc_b81 nin0)).keep Kp103v2 (ninS ne_dc_b81 nin0))
        have P60_0_at_118'1 := (((((((P60_0.wr W63).ext E67).keep Kp77).wr W80).ext E81).keep Kp86).keep Kp103v2)
        have P60_1_at_118'1 := (((((((P60_1.other W63 (Or.inl (Ne.symm ne_b29_b52))).ext E67).keep Kp77 (ninS ne_b52_b67 nin0)).other W80 (Or.inl (Ne.symm ne_b29_b52))).ext E81).keep Kp86 (ninS ne_b52_b81 nin0)).keep Kp103v2 (ninS ne_b52_b81 nin0))
        have Zz_118v2_Kp103v2'2 := Nat.le_trans Z_103v2'1 Kp103v2.1
        have Z_118v2'2 : n0 ≤ T103v2.heap.size := Zz_118v2_Kp103v2'2
        obtain ⟨_, _, ⟨T118v2, L118v2, k118v2, n118v2⟩, -, X118v2, ⟨Lc118v2, hQ118v2, l118v2, y118v2, z118v2⟩, st118v2⟩ := Jvm.LawKit.callS X103v2 hx (y := own_y10) hown (mvT hZ (own_w hw 80 rfl)) (mvT hZ (own_w hw 81 rfl)) (mvT hZ (own_w hw 82 rfl)) (mvT hZ (own_w hw 83 rfl)) (by decide) (backOf (W := 0) (rm10_10 l Z a0 hw [] b81 v7_23 (1 : Int32) b52 x3 w9_23 (f9 p0 (2147483639 : Int32)) (1 : Int32) (0 : Int32) (own_upd (fun _ => (0 : Int64)) 0 (f12 x3 (0 : Int32))) (own_upd (fun _ => (0 : Int64)) 0 (-w9_23)) 1 (0 : Int32) fd (1 : Int64) off103v2 len103v2 wh86 dc T103v2.heap n0 Z_118v2'2 P103v2_0 P103v2_1 P103v2_2 P103v2_3 P103v2_4 P103v2_5 P103v2_6 P103v2_7 P103v2_8 g_b81 P103v2_9 P103v2_10 g_off103v2 g_len103v2 neq_off103v2_len103v2 ne_b81_off103v2'1 ne_b81_len103v2'1 (by decide) (by decide) (by decide) (by decide) P86_9_at_118 P86_10_at_118 P86_11_at_118 P86_12_at_118 g_wh86 S_DEFAULTCAPACITY_EMPTY_ELEMENTDATA_at_118 V_dc_at_118 ne_dc_wh86 ne_b81_wh86 (Ne.symm ne_wh86_off103v2'1) (Ne.symm ne_wh86_len103v2'1) ne_dc_b81 ne_dc_off103v2'1 ne_dc_len103v2'1 P60_0_at_118'1 P60_1_at_118'1 ne_b52_wh86 hs1) hZ (own_w hw 83 rfl) (own_w hw 82 rfl) (by decide) (by decide)) (g := (mkF m 118 #[.val (.int p0), .val (.int p1), .val (.int p2), .val (.long x3), .second, .val (.long x4), .second, .val (.int v7_23), .val (.int v8_23), .val (.long w9_23), .second, .val (.ref b24), .val (.ref b29), .val (.ref b81), .unset, .unset, .unset, .unset] [(.long w9_23), (.long x3), (.ref b52), (.int (1 : Int32)), (.int v7_23), (.ref b81)])) rfl (by rw [hml]; rfl) (argsL := [(.ref b81), (.int v7_23), (.int (1 : Int32)), (.ref b52), (.long x3), (.long w9_23)]) (rest := []) (lenOf own_pd21 rfl) rfl (by show 2 * 0 + _ ≤ _; exact Nat.le_of_eq rfl) (hb hby at_118) (fun _ _ => ⟨rfl, rfl, (by decide : 9 + 1 ≤ _), (by decide : 59 + 10 ≤ _)⟩)
        dsimp only [Pt.U, Pt.locs, Pt.cells, Pt.slots] at X118v2 l118v2 y118v2 z118v2 st118v2 hQ118v2
        subst l118v2 y118v2 z118v2
        obtain ⟨ed118v2, rfl, N118v2q, Kp118v2, szq_ed118v2, P118v2_0, P118v2_1, P118v2_2, P118v2_3, P118v2_4, P118v2_5, P118v2_6, P118v2_7, P118v2_8, P118v2_9, P118v2_10, P118v2_11, P118v2_12, P118v2_13, P118v2_14, P118v2_15⟩ := hQ118v2
        have ne_nent_ed118v2 := Nat.ne_of_lt (Nat.lt_of_lt_of_le (V_nent_at_103'1.keep Kp103v2 (ninS ne_nent_b81 nin0)).lt szq_ed118v2)
        have ne_dc_ed118v2 := Nat.ne_of_lt (Nat.lt_of_lt_of_le V_dc_at_118.lt szq_ed118v2)
        have ne_b24_ed118v2 := Nat.ne_of_lt (Nat.lt_of_lt_of_le (((((((((((((V24.ext E29).ext E37).keep Kp45 (ninS ne_b24_b37 nin0)).other W48 ne_b24_b29).ext E52).keep Kp60 (ninS ne_b24_b52 nin0)).other W63 ne_b24_b29).ext E67).keep Kp77 (ninS ne_b24_b67 nin0)).other W80 ne_b24_b29).ext E81).keep Kp86 (ninS ne_b24_b81 nin0)).keep Kp103v2 (ninS ne_b24_b81 nin0)).lt szq_ed118v2)
        have ne_b29_ed118v2 := Nat.ne_of_lt (Nat.lt_of_lt_of_le V80_at_114'1.lt szq_ed118v2)
        have ne_b37_ed118v2 := Nat.ne_of_lt (Nat.lt_of_lt_of_le ((((((((((P45_0.wr W48).ext E52).keep Kp60).wr W63).ext E67).keep Kp77).wr W80).ext E81).keep Kp86).keep Kp103v2).lt szq_ed118v2)
        have ne_b52_ed118v2 := Nat.ne_of_lt (Nat.lt_of_lt_of_le P60_0_at_118'1.lt szq_ed118v2)
        have ne_b67_ed118v2 := Nat.ne_of_lt (Nat.lt_of_lt_of_le ((((P77_0.wr W80).ext E81).keep Kp86).keep Kp103v2).lt szq_ed118v2)
        have ne_b81_ed118v2 := Nat.ne_of_lt (Nat.lt_of_lt_of_le P103v2_0.lt szq_ed118v2)
        have ne_wh86_ed118v2 := Nat.ne_of_lt (Nat.lt_of_lt_of_le P86_9_at_118.lt szq_ed118v2)
        have ne_off103v2_ed118v2 := Nat.ne_of_lt (Nat.lt_of_lt_of_le P103v2_9.lt szq_ed118v2)
        have ne_len103v2_ed118v2 := Nat.ne_of_lt (Nat.lt_of_lt_of_le P103v2_10.lt szq_ed118v2)
        have g_ed118v2 : n0 ≤ ed118v2 := Nat.le_trans Z_118v2'2 szq_ed118v2
        obtain ⟨lo118v2, X118v2, N118v2⟩ : ∃ lo, Stand p l e _ s m _ below meth c T118v2 lo _ _ ∧ Fr n0 lo := ⟨_, X118v2, Fr.app N103v2 N118v2q⟩
        refine own_to st118v2 ?_
        show own_Fin p e below G (T118v2.setTop (mkF m 121 #[.val (.int p0), .val (.int p1), .val (.int p2), .val (.long x3), .second, .val (.long x4), .second, .val (.int v7_23), .val (.int v8_23), .val (.long w9_23), .second, .val (.ref b24), .val (.ref b29), .val (.ref b81), .unset, .unset, .unset, .unset] []))
        refine own_aload X118v2 hx (hb hby at_121) rfl (rfl) ?_
        refine own_iload X118v2 hx (hb hby at_123) rfl ?_
        refine own_iconst X118v2 hx (2) (hb hby at_125) rfl ?_
        refine own_aload X118v2 hx (hb hby at_126) rfl (rfl) ?_
        refine own_iconst X118v2 hx (2) (hb hby at_128) rfl ?_
        have V80_at_129'2 := (V80_at_114'1.keep Kp118v2 (ninS ne_b29_b81 (ninS ne_b29_off103v2'1 (ninS ne_b29_len103v2'1 (ninS ne_b29_wh86 nin0)))))
        refine own_to (fun _ kz => own_aaload X118v2 hx hZ rfl (own_RV.av V80_at_129'2) (j := (2 : Int32)) (by decide) rfl (by decide) (v := (.ref b67)) rfl (g := (mkF m 129 #[.val (.int p0), .val (.int p1), .val (.int p2), .val (.long x3), .second, .val (.long x4), .second, .val (.int v7_23), .val (.int v8_23), .val (.long w9_23), .second, .val (.ref b24), .val (.ref b29), .val (.ref b81), .unset, .unset, .unset, .unset] [(.int (2 : Int32)), (.ref b29), (.int (2 : Int32)), (.int v7_23), (.ref b81)])) rfl rfl (hb hby at_129) kz) ?_
        show own_Fin p e below G (T118v2.setTop (mkF m 130 #[.val (.int p0), .val (.int p1), .val (.int p2), .val (.long x3), .second, .val (.long x4), .second, .val (.int v7_23), .val (.int v8_23), .val (.long w9_23), .second, .val (.ref b24), .val (.ref b29), .val (.ref b81), .unset, .unset, .unset, .unset] [(.ref b67), (.int (2 : Int32)), (.int v7_23), (.ref b81)]))
        refine own_lloadN X118v2 hx (hb hby at_130) rfl ?_
        refine own_lload X118v2 hx (hb hby at_131) rfl ?_
        by_cases hs2 : (f11 v7_23 (2 : Int32)) = (0 : Int32)
        · skip
          have P77_0_at_133'2 := (((((P77_0.wr W80).ext E81).keep Kp86).keep Kp103v2).keep Kp118v2)
          have P77_1_at_133'2 := (((((P77_1.other W80 (Or.inl (Ne.symm ne_b29_b67))).ext E81).keep Kp86 (ninS ne_b67_b81 nin0)).keep Kp103v2 (ninS ne_b67_b81 nin0)).keep Kp118v2 (ninS ne_b67_b81 (ninS ne_b67_off103v2'1 (ninS ne_b67_len103v2'1 (ninS ne_b67_wh86 nin0)))))
          have Zz_133v2_Kp118v2'4 := Nat.le_trans Z_118v2'2 Kp118v2.1
          have Z_133v2'4 : n0 ≤ T118v2.heap.size := Zz_133v2_Kp118v2'4
          obtain ⟨_, _, ⟨T133v2, L133v2, k133v2, n133v2⟩, -, X133v2, ⟨Lc133v2, hQ133v2, l133v2, y133v2, z133v2⟩, st133v2⟩ := Jvm.LawKit.callS X118v2 hx (y := own_y10) hown (mvT hZ (own_w hw 80 rfl)) (mvT hZ (own_w hw 81 rfl)) (mvT hZ (own_w hw 82 rfl)) (mvT hZ (own_w hw 83 rfl)) (by decide) (backOf (W := 0) (rm10_11 l Z a0 hw [] b81 v7_23 (2 : Int32) b67 x3 w9_23 (f9 p0 (2147483639 : Int32)) (2 : Int32) (0 : Int32) (own_upd (own_upd (fun _ => (0 : Int64)) 0 (f12 x3 (0 : Int32))) 1 (f24 (1 : Int64))) (own_upd (own_upd (fun _ => (0 : Int64)) 0 (-w9_23)) 1 (0 : Int64)) 2 (1 : Int32) (1 : Int32) (own_upd (fun _ => Value.null) 0 (.ref b52)) 1 (2 : Int64) off103v2 len103v2 wh86 ed118v2 T118v2.heap n0 Z_133v2'4 P118v2_0 P118v2_1 P118v2_2 P118v2_3 P118v2_4 P118v2_5 P118v2_6 P118v2_7 P118v2_8 g_b81 P118v2_9 P118v2_10 g_off103v2 g_len103v2 neq_off103v2_len103v2 ne_b81_off103v2'1 ne_b81_len103v2'1 (by decide) (by decide) (by decide) (by decide) P118v2_11 P118v2_12 P118v2_13 P118v2_14 g_wh86 P118v2_15 g_ed118v2 (Ne.symm ne_wh86_ed118v2) (by decide) (by decide) (by decide) (by decide) ne_b81_wh86 (Ne.symm ne_wh86_off103v2'1) (Ne.symm ne_wh86_len103v2'1) ne_b81_ed118v2 ne_off103v2_ed118v2 ne_len103v2_ed118v2 P77_0_at_133'2 P77_1_at_133'2 ne_b67_wh86 ne_b67_ed118v2 hs2) hZ (own_w hw 83 rfl) (own_w hw 82 rfl) (by decide) (by decide)) (g := (mkF m 133 #[.val (.int p0), .val (.int p1), .val (.int p2), .val (.long x3), .second, .val (.long x4), .second, .val (.int v7_23), .val (.int v8_23), .val (.long w9_23), .second, .val (.ref b24), .val (.ref b29), .val (.ref b81), .unset, .unset, .unset, .unset] [(.long w9_23), (.long x3), (.ref b67), (.int (2 : Int32)), (.int v7_23), (.ref b81)])) rfl (by rw [hml]; rfl) (argsL := [(.ref b81), (.int v7_23), (.int (2 : Int32)), (.ref b67), (.long x3), (.long w9_23)]) (rest := []) (lenOf own_pd21 rfl) rfl (by show 2 * 0 + _ ≤ _; exact Nat.le_of_eq rfl) (hb hby at_133) (fun _ _ => ⟨rfl, rfl, (by decide : 10 + 0 ≤ _), (by decide : 69 + 0 ≤ _)⟩)
          dsimp only [Pt.U, Pt.locs, Pt.cells, Pt.slots] at X133v2 l133v2 y133v2 z133v2 st133v2 hQ133v2
          subst l133v2 y133v2 z133v2
          obtain ⟨rfl, N133v2q, Kp133v2, P133v2_0, P133v2_1, P133v2_2, P133v2_3, P133v2_4, P133v2_5, P133v2_6, P133v2_7, P133v2_8, P133v2_9, P133v2_10, P133v2_11, P133v2_12, P133v2_13, P133v2_14, P133v2_15⟩ := hQ133v2
          obtain ⟨lo133v2, X133v2, N133v2⟩ : ∃ lo, Stand p l e _ s m _ below meth c T133v2 lo _ _ ∧ Fr n0 lo := ⟨_, X133v2, Fr.app N118v2 N133v2q⟩
          refine own_to st133v2 ?_
          show own_Fin p e below G (T133v2.setTop (mkF m 136 #[.val (.int p0), .val (.int p1), .val (.int p2), .val (.long x3), .second, .val (.long x4), .second, .val (.int v7_23), .val (.int v8_23), .val (.long w9_23), .second, .val (.ref b24), .val (.ref b29), .val (.ref b81), .unset, .unset, .unset, .unset] []))
          have Zz_136_Kp133v2'4 := Nat.le_trans Z_133v2'4 Kp133v2.1
          have Z_136'4 : n0 ≤ T133v2.heap.size := Zz_136_Kp133v2'4
          have hL : own_ls v7_23 = (0 : Int32) := by simp [own_ls, hs0, hs1, hs2]
          have hW : own_W v7_23 3 = 2 := by simp [own_W, own_i, hs0, hs1, hs2]
          have hq : ∀ i, i < 3 → (¬ f11 v7_23 (own_i i) = 0 → (own_upd (own_upd (own_upd (fun _ => (0 : Int64)) 0 (f12 x3 (0 : Int32))) 1 (f24 (1 : Int64))) 2 (f24 (2 : Int64))) i = f12 x3 (own_i i)) ∧ (own_upd (own_upd (own_upd (fun _ => (0 : Int64)) 0 (-w9_23)) 1 (0 : Int64)) 2 (0 : Int64)) i = own_N v7_23 w9_23 i ∧ (own_upd (own_upd (own_upd (fun _ => Value.null) 0 (.ref b37)) 1 (.ref b52)) 2 (.ref b67)) i = .ref ((own_r b37 b52 b67) i) ∧ (f11 v7_23 (own_i i) = 0 → own_W v7_23 i < 10 ∧ (own_upd (own_upd (fun _ => Value.null) 0 (.ref b52)) 1 (.ref b67)) (own_W v7_23 i) = .ref ((own_r b37 b52 b67) i)) := by
            intro i hi
            have : i = 0 ∨ i = 1 ∨ i = 2 := by omega
            rcases this with rfl | rfl | rfl <;> simp [own_upd, own_N, own_W, own_i, own_r, hs0, hs1, hs2]
          have V80_at_136'4 := (V80_at_129'2.keep Kp133v2 (ninS ne_b29_b81 (ninS ne_b29_off103v2'1 (ninS ne_b29_len103v2'1 (ninS ne_b29_wh86 (ninS ne_b29_ed118v2 nin0))))))
          refine K136 _ _ N133v2 (X133v2.more (by decide) (by decide)) _ rfl Z_136'4 ⟨off103v2, len103v2, wh86, ed118v2, 0, (f9 p0 (2147483639 : Int32)), 10, (own_upd (own_upd (own_upd (fun _ => (0 : Int64)) 0 (f12 x3 (0 : Int32))) 1 (f24 (1 : Int64))) 2 (f24 (2 : Int64))), (own_upd (own_upd (own_upd (fun _ => (0 : Int64)) 0 (-w9_23)) 1 (0 : Int64)) 2 (0 : Int64)), (own_upd (own_upd (fun _ => Value.null) 0 (.ref b52)) 1 (.ref b67)), (own_upd (own_upd (own_upd (fun _ => Value.null) 0 (.ref b37)) 1 (.ref b52)) 2 (.ref b67)), ⟨P133v2_0, P133v2_1, P133v2_2, P133v2_3, P133v2_4, P133v2_5, (by rw [hL]; exact P133v2_6), P133v2_7, P133v2_8⟩, ⟨⟨P133v2_9, P133v2_10, P133v2_11, P133v2_13, (by rw [hW]; exact P133v2_14), P133v2_15.av, V80_at_136'4.av, ?_⟩, ⟨(Ne.symm ne_b81_off103v2'1), (Ne.symm ne_b81_len103v2'1), (Ne.symm ne_b81_wh86), (Ne.symm ne_b81_ed118v2), ne_b29_b81, g_b81⟩, hq⟩, fun _ => rfl⟩
          intro i hi
          have : i = 0 ∨ i = 1 ∨ i = 2 := by omega
          rcases this with rfl | rfl | rfl
          have P45_0_at_136'4 := ((((((((((((P45_0.wr W48).ext E52).keep Kp60).wr W63).ext E67).keep Kp77).wr W80).ext E81).keep Kp86).keep Kp103v2).keep Kp118v2).keep Kp133v2)
          · exact P45_0_at_136'4
          have P60_0_at_136'4 := ((P60_0_at_118'1.keep Kp118v2).keep Kp133v2)
          · exact P60_0_at_136'4
          have P77_0_at_136'4 := (P77_0_at_133'2.keep Kp133v2)
          · exact P77_0_at_136'4
        · skip
          have Zz_133v2_Kp118v2'5 := Nat.le_trans Z_118v2'2 Kp118v2.1
          have Z_133v2'5 : n0 ≤ T118v2.heap.size := Zz_133v2_Kp118v2'5
          obtain ⟨_, _, ⟨T133v2, L133v2, k133v2, n133v2⟩, -, X133v2, ⟨Lc133v2, hQ133v2, l133v2, y133v2, z133v2⟩, st133v2⟩ := Jvm.LawKit.callS X118v2 hx (y := own_y10) hown (mvT hZ (own_w hw 80 rfl)) (mvT hZ (own_w hw 81 rfl)) (mvT hZ (own_w hw 82 rfl)) (mvT hZ (own_w hw 83 rfl)) (by decide) (backOf (W := 0) (rm10_1 l Z a0 hw [] b81 v7_23 (2 : Int32) b67 x3 w9_23 (f9 p0 (2147483639 : Int32)) (2 : Int32) (0 : Int32) (own_upd (own_upd (fun _ => (0 : Int64)) 0 (f12 x3 (0 : Int32))) 1 (f24 (1 : Int64))) (own_upd (own_upd (fun _ => (0 : Int64)) 0 (-w9_23)) 1 (0 : Int64)) 2 off103v2 len103v2 wh86 T118v2.heap n0 Z_133v2'5 P118v2_0 P118v2_1 P118v2_2 P118v2_3 P118v2_4 P118v2_5 P118v2_6 P118v2_7 P118v2_8 g_b81 P118v2_9 P118v2_10 g_off103v2 g_len103v2 neq_off103v2_len103v2 ne_b81_off103v2'1 ne_b81_len103v2'1 (by decide) (by decide) (by decide) (by decide) hs2) hZ (own_w hw 83 rfl) (own_w hw 82 rfl) (by decide) (by decide)) (g := (mkF m 133 #[.val (.int p0), .val (.int p1), .val (.int p2), .val (.long x3), .second, .val (.long x4), .second, .val (.int v7_23), .val (.int v8_23), .val (.long w9_23), .second, .val (.ref b24), .val (.ref b29), .val (.ref b81), .unset, .unset, .unset, .unset] [(.long w9_23), (.long x3), (.ref b67), (.int (2 : Int32)), (.int v7_23), (.ref b81)])) rfl (by rw [hml]; rfl) (argsL := [(.ref b81), (.int v7_23), (.int (2 : Int32)), (.ref b67), (.long x3), (.long w9_23)]) (rest := []) (lenOf own_pd21 rfl) rfl (by show 2 * 0 + _ ≤ _; exact Nat.le_of_eq rfl) (hb hby at_133) (fun _ _ => ⟨rfl, rfl, (by decide : 10 + 0 ≤ _), (by decide : 69 + 0 ≤ _)⟩)
          dsimp only [Pt.U, Pt.locs, Pt.cells, Pt.slots] at X133v2 l133v2 y133v2 z133v2 st133v2 hQ133v2
          subst l133v2 y133v2 z133v2
          obtain ⟨rfl, N133v2q, Kp133v2, P133v2_0, P133v2_1, P133v2_2, P133v2_3, P133v2_4, P133v2_5, P133v2_6, P133v2_7, P133v2_8, P133v2_9, P133v2_10⟩ := hQ133v2
          obtain ⟨lo133v2, X133v2, N133v2⟩ : ∃ lo, Stand p l e _ s m _ below meth c T133v2 lo _ _ ∧ Fr n0 lo := ⟨_, X133v2, Fr.app N118v2 N133v2q⟩
          refine own_to st133v2 ?_
          show own_Fin p e below G (T133v2.setTop (mkF m 136 #[.val (.int p0), .val (.int p1), .val (.int p2), .val (.long x3), .second, .val (.long x4), .second, .val (.int v7_23), .val (.int v8_23), .val (.long w9_23), .second, .val (.ref b24), .val (.ref b29), .val (.ref b81), .unset, .unset, .unset, .unset] []))
          have Zz_136_Kp133v2'5 := Nat.le_trans Z_133v2'5 Kp133v2.1
          have Z_136'5 : n0 ≤ T133v2.heap.size := Zz_136_Kp133v2'5
          have hL : own_ls v7_23 = (2 : Int32) := by simp [own_ls, hs0, hs1, hs2]
          have hW : own_W v7_23 3 = 1 := by simp [own_W, own_i, hs0, hs1, hs2]
          have P118v2_15_at_136'1 := (P118v2_15.keep Kp133v2 (ninS (Ne.symm ne_b81_ed118v2) (ninS (Ne.symm ne_off103v2_ed118v2) (ninS (Ne.symm ne_len103v2_ed118v2) nin0))))
          have hq : ∀ i, i < 3 → (¬ f11 v7_23 (own_i i) = 0 → (own_upd (own_upd (own_upd (fun _ => (0 : Int64)) 0 (f12 x3 (0 : Int32))) 1 (f24 (1 : Int64))) 2 (f12 x3 (2 : Int32))) i = f12 x3 (own_i i)) ∧ (own_upd (own_upd (own_upd (fun _ => (0 : Int64)) 0 (-w9_23)) 1 (0 : Int64)) 2 (-w9_23)) i = own_N v7_23 w9_23 i ∧ (own_upd (own_upd (own_upd (fun _ => Value.null) 0 (.ref b37)) 1 (.ref b52)) 2 (.ref b67)) i = .ref ((own_r b37 b52 b67) i) ∧ (f11 v7_23 (own_i i) = 0 → own_W v7_23 i < 10 ∧ (own_upd (fun _ => Value.null) 0 (.ref b52)) (own_W v7_23 i) = .ref ((own_r b37 b52 b67) i)) := by
            intro i hi
            have : i = 0 ∨ i = 1 ∨ i = 2 := by omega
            rcases this with rfl | rfl | rfl <;> simp [own_upd, own_N, own_W, own_i, own_r, hs0, hs1, hs2]
          have P118v2_11_at_136'1 := (P118v2_11.keep Kp133v2)
          have P118v2_13_at_136'1 := (P118v2_13.keep Kp133v2 (ninS (Ne.symm ne_b81_wh86) (ninS ne_wh86_off103v2'1 (ninS ne_wh86_len103v2'1 nin0))))
          have P118v2_14_at_136'1 := (P118v2_14.keep Kp133v2 (ninS (Ne.symm ne_b81_wh86) (ninS ne_wh86_off103v2'1 (ninS ne_wh86_len103v2'1 nin0))))
          have V80_at_136'5 := (V80_at_129'2.keep Kp133v2 (ninS ne_b29_b81 (ninS ne_b29_off103v2'1 (ninS ne_b29_len103v2'1 nin0))))
          refine K136 _ _ N133v2 (X133v2.more (by decide) (by decide)) _ rfl Z_136'5 ⟨off103v2, len103v2, wh86, ed118v2, 0, (f9 p0 (2147483639 : Int32)), 10, (own_upd (own_upd (own_upd (fun _ => (0 : Int64)) 0 (f12 x3 (0 : Int32))) 1 (f24 (1 : Int64))) 2 (f12 x3 (2 : Int32))), (own_upd (own_upd (own_upd (fun _ => (0 : Int64)) 0 (-w9_23)) 1 (0 : Int64)) 2 (-w9_23)), (own_upd (fun _ => Value.null) 0 (.ref b52)), (own_upd (own_upd (own_upd (fun _ => Value.null) 0 (.ref b37)) 1 (.ref b52)) 2 (.ref b67)), ⟨P133v2_0, P133v2_1, P133v2_2, P133v2_3, P133v2_4, P133v2_5, (by rw [hL]; exact P133v2_6), P133v2_7, P133v2_8⟩, ⟨⟨P133v2_9, P133v2_10, P118v2_11_at_136'1, P118v2_13_at_136'1, (by rw [hW]; exact P118v2_14_at_136'1), P118v2_15_at_136'1.av, V80_at_136'5.av, ?_⟩, ⟨(Ne.symm ne_b81_off103v2'1), (Ne.symm ne_b81_len103v2'1), (Ne.symm ne_b81_wh86), (Ne.symm ne_b81_ed118v2), ne_b29_b81, g_b81⟩, hq⟩, fun _ => rfl⟩
          intro i hi
          have : i = 0 ∨ i = 1 ∨ i = 2 := by omega
          rcases this with rfl | rfl | rfl
          have P45_0_at_136'5 := ((((((((((((P45_0.wr W48).ext E52).keep Kp60).wr W63).ext E67).keep Kp77).wr W80).ext E81).keep Kp86).keep Kp103v2).keep Kp118v2).keep Kp133v2)
          · exact P45_0_at_136'5
          have P60_0_at_136'5 := ((P60_0_at_118'1.keep Kp118v2).keep Kp133v2)
          · exact P60_0_at_136'5
          have P77_0_at_136'5 := ((((((P77_0.wr W80).ext E81).keep Kp86).keep Kp103v2).keep Kp118v2).keep Kp133v2)
          · exact P77_0_at_136'5
      · skip
        have Zz_118v2_Kp103v2'3 := Nat.le_trans Z_103v2'1 Kp103v2.1
        have Z_118v2'3 : n0 ≤ T103v2.heap.size := Zz_118v2_Kp103v2'3
        obtain ⟨_, _, ⟨T118v2, L118v2, k118v2, n118v2⟩, -, X118v2, ⟨Lc118v2, hQ118v2, l118v2, y118v2, z118v2⟩, st118v2⟩ := Jvm.LawKit.callS X103v2 hx (y := own_y10) hown (mvT hZ (own_w hw 80 rfl)) (mvT hZ (own_w hw 81 rfl)) (mvT hZ (own_w hw 82 rfl)) (mvT hZ (own_w hw 83 rfl)) (by decide) (backOf (W := 0) (rm10_1 l Z a0 hw [] b81 v7_23 (1 : Int32) b52 x3 w9_23 (f9 p0 (2147483639 : Int32)) (1 : Int32) (0 : Int32) (own_upd (fun _ => (0 : Int64)) 0 (f12 x3 (0 : Int32))) (own_upd (fun _ => (0 : Int64)) 0 (-w9_23)) 1 off103v2 len103v2 wh86 T103v2.heap n0 Z_118v2'3 P103v2_0 P103v2_1 P103v2_2 P103v2_3 P103v2_4 P103v2_5 P103v2_6 P103v2_7 P103v2_8 g_b81 P103v2_9 P103v2_10 g_off103v2 g_len103v2 neq_off103v2_len103v2 ne_b81_off103v2'1 ne_b81_len103v2'1 (by decide) (by decide) (by decide) (by decide) hs1) hZ (own_w hw 83 rfl) (own_w hw 82 rfl) (by decide) (by decide)) (g := (mkF m 118 #[.val (.int p0), .val (.int p1), .val (.int p2), .val (.long x3), .second, .val (.long x4), .second, .val (.int v7_23), .val (.int v8_23), .val (.long w9_23), .second, .val (.ref b24), .val (.ref b29), .val (.ref b81), .unset, .unset, .unset, .unset] [(.long w9_23), (.long x3), (.ref b52), (.int (1 : Int32)), (.int v7_23), (.ref b81)])) rfl (by rw [hml]; rfl) (argsL := [(.ref b81), (.int v7_23), (.int (1 : Int32)), (.ref b52), (.long x3), (.long w9_23)]) (rest := []) (lenOf own_pd21 rfl) rfl (by show 2 * 0 + _ ≤ _; exact Nat.le_of_eq rfl) (hb hby at_118) (fun _ _ => ⟨rfl, rfl, (by decide : 9 + 0 ≤ _), (by decide : 59 + 0 ≤ _)⟩)
        dsimp only [Pt.U, Pt.locs, Pt.cells, Pt.slots] at X118v2 l118v2 y118v2 z118v2 st118v2 hQ118v2
        subst l118v2 y118v2 z118v2
        obtain ⟨rfl, N118v2q, Kp118v2, P118v2_0, P118v2_1, P118v2_2, P118v2_3, P118v2_4, P118v2_5, P118v2_6, P118v2_7, P118v2_8, P118v2_9, P118v2_10⟩ := hQ118v2
        obtain ⟨lo118v2, X118v2, N118v2⟩ : ∃ lo, Stand p l e _ s m _ below meth c T118v2 lo _ _ ∧ Fr n0 lo := ⟨_, X118v2, Fr.app N103v2 N118v2q⟩
        refine own_to st118v2 ?_
        show own_Fin p e below G (T118v2.setTop (mkF m 121 #[.val (.int p0), .val (.int p1), .val (.int p2), .val (.long x3), .second, .val (.long x4), .second, .val (.int v7_23), .val (.int v8_23), .val (.long w9_23), .second, .val (.ref b24), .val (.ref b29), .val (.ref b81), .unset, .unset, .unset, .unset] []))
        refine own_aload X118v2 hx (hb hby at_121) rfl (rfl) ?_
        refine own_iload X118v2 hx (hb hby at_123) rfl ?_
        refine own_iconst X118v2 hx (2) (hb hby at_125) rfl ?_
        refine own_aload X118v2 hx (hb hby at_126) rfl (rfl) ?_
        refine own_iconst X118v2 hx (2) (hb hby at_128) rfl ?_
        have V80_at_129'3 := (V80_at_114'1.keep Kp118v2 (ninS ne_b29_b81 (ninS ne_b29_off103v2'1 (ninS ne_b29_len103v2'1 nin0))))
        refine own_to (fun _ kz => own_aaload X118v2 hx hZ rfl (own_RV.av V80_at_129'3) (j := (2 : Int32)) (by decide) rfl (by decide) (v := (.ref b67)) rfl (g := (mkF m 129 #[.val (.int p0), .val (.int p1), .val (.int p2), .val (.long x3), .second, .val (.long x4), .second, .val (.int v7_23), .val (.int v8_23), .val (.long w9_23), .second, .val (.ref b24), .val (.ref b29), .val (.ref b81), .unset, .unset, .unset, .unset] [(.int (2 : Int32)), (.ref b29), (.int (2 : Int32)), (.int v7_23), (.ref b81)])) rfl rfl (hb hby at_129) kz) ?_
        show own_Fin p e below G (T118v2.setTop (mkF m 130 #[.val (.int p0), .val (.int p1), .val (.int p2), .val (.long x3), .second, .val (.long x4), .second, .val (.int v7_23), .val (.int v8_23), .val (.long w9_23), .second, .val (.ref b24), .val (.ref b29), .val (.ref b81), .unset, .unset, .unset, .unset] [(.ref b67), (.int (2 : Int32)), (.int v7_23), (.ref b81)]))
        refine own_lloadN X118v2 hx (hb hby at_130) rfl ?_
        refine own_lload X118v2 hx (hb hby at_131) rfl ?_
        by_cases hs2 : (f11 v7_23 (2 : Int32)) = (0 : Int32)
        · skip
          have P86_9_at_133 := ((P86_9.keep Kp103v2).keep Kp118v2)
          have P86_10_at_133 := ((P86_10.keep Kp103v2 (ninS (Ne.symm ne_b81_wh86) nin0)).keep Kp118v2 (ninS (Ne.symm ne_b81_wh86) (ninS ne_wh86_off103v2'1 (ninS ne_wh86_len103v2'1 nin0))))
          have P86_11_at_133 := ((P86_11.keep Kp103v2 (ninS (Ne.symm ne_b81_wh86) nin0)).keep Kp118v2 (ninS (Ne.symm ne_b81_wh86) (ninS ne_wh86_off103v2'1 (ninS ne_wh86_len103v2'1 nin0))))
          have P86_12_at_133 := ((P86_12.keep Kp103v2 (ninS (Ne.symm ne_b81_wh86) nin0)).keep Kp118v2 (ninS (Ne.symm ne_b81_wh86) (ninS ne_wh86_off103v2'1 (ninS ne_wh86_len103v2'1 nin0))))
          have S_DEFAULTCAPACITY_EMPTY_ELEMENTDATA_at_133 := (own_staKeep (own_staKeep (own_staKeep S_DEFAULTCAPACITY_EMPTY_ELEMENTDATA_at_86 Kp86 (allS (Exa.cell A81) all0)) Kp103v2 (allS (Exa.cell P86_0) all0)) Kp118v2 (allS (Exa.cell P103v2_0) (allS (own_AV.cell P103v2_9) (allS (own_AV.cell P103v2_10) all0))))
          have V_dc_at_133 := (((((((((((((((V_dc.ext E24).ext E29).ext E37).keep Kp45 (ninS ne_dc_b37 nin0)).other W48 ne_dc_b29).ext E52).keep Kp60 (ninS ne_dc_b52 nin0)).other W63 ne_dc_b29).ext E67).keep Kp77 (ninS ne_dc_b67 nin0)).other W80 ne_dc_b29).ext E81).keep Kp86 (ninS ne_dc_b81 nin0)).keep Kp103v2 (ninS ne_dc_b81 nin0)).keep Kp118v2 (ninS ne_dc_b81 (ninS ne_dc_off103v2'1 (ninS ne_dc_len103v2'1 nin0))))
          have P77_0_at_133'3 := (((((P77_0.wr W80).ext E81).keep Kp86).keep Kp103v2).keep Kp118v2)
          have P77_1_at_133'3 := (((((P77_1.other W80 (Or.inl (Ne.symm ne_b29_b67))).ext E81).keep Kp86 (ninS ne_b67_b81 nin0)).keep Kp103v2 (ninS ne_b67_b81 nin0)).keep Kp118v2 (ninS ne_b67_b81 (ninS ne_b67_off103v2'1 (ninS ne_b67_len103v2'1 nin0))))
          have Zz_133v2_Kp118v2'6 := Nat.le_trans Z_118v2'3 Kp118v2.1
          have Z_133v2'6 : n0 ≤ T118v2.heap.size := Zz_133v2_Kp118v2'6
          obtain ⟨_, _, ⟨T133v2, L133v2, k133v2, n133v2⟩, -, X133v2, ⟨Lc133v2, hQ133v2, l133v2, y133v2, z133v2⟩, st133v2⟩ := Jvm.LawKit.callS X118v2 hx (y := own_y10) hown (mvT hZ (own_w hw 80 rfl)) (mvT hZ (own_w hw 81 rfl)) (mvT hZ (own_w hw 82 rfl)) (mvT hZ (own_w hw 83 rfl)) (by decide) (backOf (W := 0) (rm10_10 l Z a0 hw [] b81 v7_23 (2 : Int32) b67 x3 w9_23 (f9 p0 (2147483639 : Int32)) (2 : Int32) (1 : Int32) (own_upd (own_upd (fun _ => (0 : Int64)) 0 (f12 x3 (0 : Int32))) 1 (f12 x3 (1 : Int32))) (own_upd (own_upd (fun _ => (0 : Int64)) 0 (-w9_23)) 1 (-w9_23)) 2 (0 : Int32) fd (2 : Int64) off103v2 len103v2 wh86 dc T118v2.heap n0 Z_133v2'6 P118v2_0 P118v2_1 P118v2_2 P118v2_3 P118v2_4 P118v2_5 P118v2_6 P118v2_7 P118v2_8 g_b81 P118v2_9 P118v2_10 g_off103v2 g_len103v2 neq_off103v2_len103v2 ne_b81_off103v2'1 ne_b81_len103v2'1 (by decide) (by decide) (by decide) (by decide) P86_9_at_133 P86_10_at_133 P86_11_at_133 P86_12_at_133 g_wh86 S_DEFAULTCAPACITY_EMPTY_ELEMENTDATA_at_133 V_dc_at_133 ne_dc_wh86 ne_b81_wh86 (Ne.symm ne_wh86_off103v2'1) (Ne.symm ne_wh86_len103v2'1) ne_dc_b81 ne_dc_off103v2'1 ne_dc_len103v2'1 P77_0_at_133'3 P77_1_at_133'3 ne_b67_wh86 hs2) hZ (own_w hw 83 rfl) (own_w hw 82 rfl) (by decide) (by decide)) (g := (mkF m 133 #[.val (.int p0), .val (.int p1), .val (.int p2), .val (.long x3), .second, .val (.long x4), .second, .val (.int v7_23), .val (.int v8_23), .val (.long w9_23), .second, .val (.ref b24), .val (.ref b29), .val (.ref b81), .unset, .unset, .unset, .unset] [(.long w9_23), (.long x3), (.ref b67), (.int (2 : Int32)), (.int v7_23), (.ref b81)])) rfl (by rw [hml]; rfl) (argsL := [(.ref b81), (.int v7_23), (.int (2 : Int32)), (.ref b67), (.long x3), (.long w9_23)]) (rest := []) (lenOf own_pd21 rfl) rfl (by show 2 * 0 + _ ≤ _; exact Nat.le_of_eq rfl) (hb hby at_133) (fun _ _ => ⟨rfl, rfl, (by decide : 9 + 1 ≤ _), (by decide : 59 + 10 ≤ _)⟩)
          dsimp only [Pt.U, Pt.locs, Pt.cells, Pt.slots] at X133v2 l133v2 y133v2 z133v2 st133v2 hQ133v2
          subst l133v2 y133v2 z133v2
          obtain ⟨ed133v2, rfl, N133v2q, Kp133v2, szq_ed133v2, P133v2_0, P133v2_1, P133v2_2, P133v2_3, P133v2_4, P133v2_5, P133v2_6, P133v2_7, P133v2_8, P133v2_9, P133v2_10, P133v2_11, P133v2_12, P133v2_13, P133v2_14, P133v2_15⟩ := hQ133v2
          have ne_nent_ed133v2 := Nat.ne_of_lt (Nat.lt_of_lt_of_le ((V_nent_at_103'1.keep Kp103v2 (ninS ne_nent_b81 nin0)).keep Kp118v2 (ninS ne_nent_b81 (ninS ne_nent_off103v2'1 (ninS ne_nent_len103v2'1 nin0)))).lt szq_ed133v2)
          have ne_dc_ed133v2 := Nat.ne_of_lt (Nat.lt_of_lt_of_le V_dc_at_133.lt szq_ed133v2)
          have ne_b24_ed133v2 := Nat.ne_of_lt (Nat.lt_of_lt_of_le ((((((((((((((V24.ext E29).ext E37).keep Kp45 (ninS ne_b24_b37 nin0)).other W48 ne_b24_b29).ext E52).keep Kp60 (ninS ne_b24_b52 nin0)).other W63 ne_b24_b29).ext E67).keep Kp77 (ninS ne_b24_b67 nin0)).other W80 ne_b24_b29).ext E81).keep Kp86 (ninS ne_b24_b81 nin0)).keep Kp103v2 (ninS ne_b24_b81 nin0)).keep Kp118v2 (ninS ne_b24_b81 (ninS ne_b24_off103v2'1 (ninS ne_b24_len103v2'1 nin0)))).lt szq_ed133v2)
          have ne_b29_ed133v2 := Nat.ne_of_lt (Nat.lt_of_lt_of_le V80_at_129'3.lt szq_ed133v2)
          have ne_b37_ed133v2 := Nat.ne_of_lt (Nat.lt_of_lt_of_le (((((((((((P45_0.wr W48).ext E52).keep Kp60).wr W63).ext E67).keep Kp77).wr W80).ext E81).keep Kp86).keep Kp103v2).keep Kp118v2).lt szq_ed133v2)
          have ne_b52_ed133v2 := Nat.ne_of_lt (Nat.lt_of_lt_of_le ((((((((P60_0.wr W63).ext E67).keep Kp77).wr W80).ext E81).keep Kp86).keep Kp103v2).keep Kp118v2).lt szq_ed133v2)
          have ne_b67_ed133v2 := Nat.ne_of_lt (Nat.lt_of_lt_of_le P77_0_at_133'3.lt szq_ed133v2)
          have ne_b81_ed133v2 := Nat.ne_of_lt (Nat.lt_of_lt_of_le P118v2_0.lt szq_ed133v2)
          have ne_wh86_ed133v2 := Nat.ne_of_lt (Nat.lt_of_lt_of_le P86_9_at_133.lt szq_ed133v2)
          have ne_off103v2_ed133v2 := Nat.ne_of_lt (Nat.lt_of_lt_of_le P118v2_9.lt szq_ed133v2)
          have ne_len103v2_ed133v2 := Nat.ne_of_lt (Nat.lt_of_lt_of_le P118v2_10.lt szq_ed133v2)
          have g_ed133v2 : n0 ≤ ed133v2 := Nat.le_trans Z_133v2'6 szq_ed133v2
          obtain ⟨lo133v2, X133v2, N133v2⟩ : ∃ lo, Stand p l e _ s m _ below meth c T133v2 lo _ _ ∧ Fr n0 lo := ⟨_, X133v2, Fr.app N118v2 N133v2q⟩
          refine own_to st133v2 ?_
          show own_Fin p e below G (T133v2.setTop (mkF m 136 #[.val (.int p0), .val (.int p1), .val (.int p2), .val (.long x3), .second, .val (.long x4), .second, .val (.int v7_23), .val (.int v8_23), .val (.long w9_23), .second, .val (.ref b24), .val (.ref b29), .val (.ref b81), .unset, .unset, .unset, .unset] []))
          have Zz_136_Kp133v2'6 := Nat.le_trans Z_133v2'6 Kp133v2.1
          have Z_136'6 : n0 ≤ T133v2.heap.size := Zz_136_Kp133v2'6
          have hL : own_ls v7_23 = (1 : Int32) := by simp [own_ls, hs0, hs1, hs2]
          have hW : own_W v7_23 3 = 1 := by simp [own_W, own_i, hs0, hs1, hs2]
          have hq : ∀ i, i < 3 → (¬ f11 v7_23 (own_i i) = 0 → (own_upd (own_upd (own_upd (fun _ => (0 : Int64)) 0 (f12 x3 (0 : Int32))) 1 (f12 x3 (1 : Int32))) 2 (f24 (2 : Int64))) i = f12 x3 (own_i i)) ∧ (own_upd (own_upd (own_upd (fun _ => (0 : Int64)) 0 (-w9_23)) 1 (-w9_23)) 2 (0 : Int64)) i = own_N v7_23 w9_23 i ∧ (own_upd (own_upd (own_upd (fun _ => Value.null) 0 (.ref b37)) 1 (.ref b52)) 2 (.ref b67)) i = .ref ((own_r b37 b52 b67) i) ∧ (f11 v7_23 (own_i i) = 0 → own_W v7_23 i < 10 ∧ (own_upd (fun _ => Value.null) 0 (.ref b67)) (own_W v7_23 i) = .ref ((own_r b37 b52 b67) i)) := by
            intro i hi
            have : i = 0 ∨ i = 1 ∨ i = 2 := by omega
            rcases this with rfl | rfl | rfl <;> simp [own_upd, own_N, own_W, own_i, own_r, hs0, hs1, hs2]
          have V80_at_136'6 := (V80_at_129'3.keep Kp133v2 (ninS ne_b29_b81 (ninS ne_b29_off103v2'1 (ninS ne_b29_len103v2'1 (ninS ne_b29_wh86 nin0)))))
          refine K136 _ _ N133v2 (X133v2.more (by decide) (by decide)) _ rfl Z_136'6 ⟨off103v2, len103v2, wh86, ed133v2, 0, (f9 p0 (2147483639 : Int32)), 10, (own_upd (own_upd (own_upd (fun _ => (0 : Int64)) 0 (f12 x3 (0 : Int32))) 1 (f12 x3 (1 : Int32))) 2 (f24 (2 : Int64))), (own_upd (own_upd (own_upd (fun _ => (0 : Int64)) 0 (-w9_23)) 1 (-w9_23)) 2 (0 : Int64)), (own_upd (fun _ => Value.null) 0 (.ref b67)), (own_upd (own_upd (own_upd (fun _ => Value.null) 0 (.ref b37)) 1 (.ref b52)) 2 (.ref b67)), ⟨P133v2_0, P133v2_1, P133v2_2, P133v2_3, P133v2_4, P133v2_5, (by rw [hL]; exact P133v2_6), P133v2_7, P133v2_8⟩, ⟨⟨P133v2_9, P133v2_10, P133v2_11, P133v2_13, (by rw [hW]; exact P133v2_14), P133v2_15.av, V80_at_136'6.av, ?_⟩, ⟨(Ne.symm ne_b81_off103v2'1), (Ne.symm ne_b81_len103v2'1), (Ne.symm ne_b81_wh86), (Ne.symm ne_b81_ed133v2), ne_b29_b81, g_b81⟩, hq⟩, fun _ => rfl⟩
          intro i hi
          have : i = 0 ∨ i = 1 ∨ i = 2 := by omega
          rcases this with rfl | rfl | rfl
          have P45_0_at_136'6 := ((((((((((((P45_0.wr W48).ext E52).keep Kp60).wr W63).ext E67).keep Kp77).wr W80).ext E81).keep Kp86).keep Kp103v2).keep Kp118v2).keep Kp133v2)
          · exact P45_0_at_136'6
          have P60_0_at_136'6 := (((((((((P60_0.wr W63).ext E67).keep Kp77).wr W80).ext E81).keep Kp86).keep Kp103v2).keep Kp118v2).keep Kp133v2)
          · exact P60_0_at_136'6
          have P77_0_at_136'6 := (P77_0_at_133'3.keep Kp133v2)
          · exact P77_0_at_136'6
        · skip
          have Zz_133v2_Kp118v2'7 := Nat.le_trans Z_118v2'3 Kp118v2.1
          have Z_133v2'7 : n0 ≤ T118v2.heap.size := Zz_133v2_Kp118v2'7
          obtain ⟨_, _, ⟨T133v2, L133v2, k133v2, n133v2⟩, -, X133v2, ⟨Lc133v2, hQ133v2, l133v2, y133v2, z133v2⟩, st133v2⟩ := Jvm.LawKit.callS X118v2 hx (y := own_y10) hown (mvT hZ (own_w hw 80 rfl)) (mvT hZ (own_w hw 81 rfl)) (mvT hZ (own_w hw 82 rfl)) (mvT hZ (own_w hw 83 rfl)) (by decide) (backOf (W := 0) (rm10_1 l Z a0 hw [] b81 v7_23 (2 : Int32) b67 x3 w9_23 (f9 p0 (2147483639 : Int32)) (2 : Int32) (1 : Int32) (own_upd (own_upd (fun _ => (0 : Int64)) 0 (f12 x3 (0 : Int32))) 1 (f12 x3 (1 : Int32))) (own_upd (own_upd (fun _ => (0 : Int64)) 0 (-w9_23)) 1 (-w9_23)) 2 off103v2 len103v2 wh86 T118v2.heap n0 Z_133v2'7 P118v2_0 P118v2_1 P118v2_2 P118v2_3 P118v2_4 P118v2_5 P118v2_6 P118v2_7 P118v2_8 g_b81 P118v2_9 P118v2_10 g_off103v2 g_len103v2 neq_off103v2_len103v2 ne_b81_off103v2'1 ne_b81_len103v2'1 (by decide) (by decide) (by decide) (by decide) hs2) hZ (own_w hw 83 rfl) (own_w hw 82 rfl) (by decide) (by decide)) (g := (mkF m 133 #[.val (.int p0), .val (.int p1), .val (.int p2), .val (.long x3), .second, .val (.long x4), .second, .val (.int v7_23), .val (.int v8_23), .val (.long w9_23), .second, .val (.ref b24), .val (.ref b29), .val (.ref b81), .unset, .unset, .unset, .unset] [(.long w9_23), (.long x3), (.ref b67), (.int (2 : Int32)), (.int v7_23), (.ref b81)])) rfl (by rw [hml]; rfl) (argsL := [(.ref b81), (.int v7_23), (.int (2 : Int32)), (.ref b67), (.long x3), (.long w9_23)]) (rest := []) (lenOf own_pd21 rfl) rfl (by show 2 * 0 + _ ≤ _; exact Nat.le_of_eq rfl) (hb hby at_133) (fun _ _ => ⟨rfl, rfl, (by decide : 9 + 0 ≤ _), (by decide : 59 + 0 ≤ _)⟩)
          dsimp only [Pt.U, Pt.locs, Pt.cells, Pt.slots] at X133v2 l133v2 y133v2 z133v2 st133v2 hQ133v2
          subst l133v2 y133v2 z133v2
          obtain ⟨rfl, N133v2q, Kp133v2, P133v2_0, P133v2_1, P133v2_2, P133v2_3, P133v2_4, P133v2_5, P133v2_6, P133v2_7, P133v2_8, P133v2_9, P133v2_10⟩ := hQ133v2
          obtain ⟨lo133v2, X133v2, N133v2⟩ : ∃ lo, Stand p l e _ s m _ below meth c T133v2 lo _ _ ∧ Fr n0 lo := ⟨_, X133v2, Fr.app N118v2 N133v2q⟩
          refine own_to st133v2 ?_
          show own_Fin p e below G (T133v2.setTop (mkF m 136 #[.val (.int p0), .val (.int p1), .val (.int p2), .val (.long x3), .second, .val (.long x4), .second, .val (.int v7_23), .val (.int v8_23), .val (.long w9_23), .second, .val (.ref b24), .val (.ref b29), .val (.ref b81), .unset, .unset, .unset, .unset] []))
          have Zz_136_Kp133v2'7 := Nat.le_trans Z_133v2'7 Kp133v2.1
          have Z_136'7 : n0 ≤ T133v2.heap.size := Zz_136_Kp133v2'7
          have hL : own_ls v7_23 = (2 : Int32) := by simp [own_ls, hs0, hs1, hs2]
          have hW : own_W v7_23 3 = 0 := by simp [own_W, own_i, hs0, hs1, hs2]
          have V_dc_at_136 := ((((((((((((((((V_dc.ext E24).ext E29).ext E37).keep Kp45 (ninS ne_dc_b37 nin0)).other W48 ne_dc_b29).ext E52).keep Kp60 (ninS ne_dc_b52 nin0)).other W63 ne_dc_b29).ext E67).keep Kp77 (ninS ne_dc_b67 nin0)).other W80 ne_dc_b29).ext E81).keep Kp86 (ninS ne_dc_b81 nin0)).keep Kp103v2 (ninS ne_dc_b81 nin0)).keep Kp118v2 (ninS ne_dc_b81 (ninS ne_dc_off103v2'1 (ninS ne_dc_len103v2'1 nin0)))).keep Kp133v2 (ninS ne_dc_b81 (ninS ne_dc_off103v2'1 (ninS ne_dc_len103v2'1 nin0))))
          have hq : ∀ i, i < 3 → (¬ f11 v7_23 (own_i i) = 0 → (own_upd (own_upd (own_upd (fun _ => (0 : Int64)) 0 (f12 x3 (0 : Int32))) 1 (f12 x3 (1 : Int32))) 2 (f12 x3 (2 : Int32))) i = f12 x3 (own_i i)) ∧ (own_upd (own_upd (own_upd (fun _ => (0 : Int64)) 0 (-w9_23)) 1 (-w9_23)) 2 (-w9_23)) i = own_N v7_23 w9_23 i ∧ (own_upd (own_upd (own_upd (fun _ => Value.null) 0 (.ref b37)) 1 (.ref b52)) 2 (.ref b67)) i = .ref ((own_r b37 b52 b67) i) ∧ (f11 v7_23 (own_i i) = 0 → own_W v7_23 i < 0 ∧ fd (own_W v7_23 i) = .ref ((own_r b37 b52 b67) i)) := by
            intro i hi
            have : i = 0 ∨ i = 1 ∨ i = 2 := by omega
            rcases this with rfl | rfl | rfl <;> simp [own_upd, own_N, own_W, own_i, own_r, hs0, hs1, hs2]
          have P86_9_at_136 := (((P86_9.keep Kp103v2).keep Kp118v2).keep Kp133v2)
          have P86_11_at_136 := (((P86_11.keep Kp103v2 (ninS (Ne.symm ne_b81_wh86) nin0)).keep Kp118v2 (ninS (Ne.symm ne_b81_wh86) (ninS ne_wh86_off103v2'1 (ninS ne_wh86_len103v2'1 nin0)))).keep Kp133v2 (ninS (Ne.symm ne_b81_wh86) (ninS ne_wh86_off103v2'1 (ninS ne_wh86_len103v2'1 nin0))))
          have P86_12_at_136 := (((P86_12.keep Kp103v2 (ninS (Ne.symm ne_b81_wh86) nin0)).keep Kp118v2 (ninS (Ne.symm ne_b81_wh86) (ninS ne_wh86_off103v2'1 (ninS ne_wh86_len103v2'1 nin0)))).keep Kp133v2 (ninS (Ne.symm ne_b81_wh86) (ninS ne_wh86_off103v2'1 (ninS ne_wh86_len103v2'1 nin0))))
          have V80_at_136'7 := (V80_at_129'3.keep Kp133v2 (ninS ne_b29_b81 (ninS ne_b29_off103v2'1 (ninS ne_b29_len103v2'1 nin0))))
          refine K136 _ _ N133v2 (X133v2.more (by decide) (by decide)) _ rfl Z_136'7 ⟨off103v2, len103v2, wh86, dc, 0, (f9 p0 (2147483639 : Int32)), 0, (own_upd (own_upd (own_upd (fun _ => (0 : Int64)) 0 (f12 x3 (0 : Int32))) 1 (f12 x3 (1 : Int32))) 2 (f12 x3 (2 : Int32))), (own_upd (own_upd (own_upd (fun _ => (0 : Int64)) 0 (-w9_23)) 1 (-w9_23)) 2 (-w9_23)), fd, (own_upd (own_upd (own_upd (fun _ => Value.null) 0 (.ref b37)) 1 (.ref b52)) 2 (.ref b67)), ⟨P133v2_0, P133v2_1, P133v2_2, P133v2_3, P133v2_4, P133v2_5, (by rw [hL]; exact P133v2_6), P133v2_7, P133v2_8⟩, ⟨⟨P133v2_9, P133v2_10, P86_9_at_136, P86_11_at_136, (by rw [hW]; exact P86_12_at_136), V_dc_at_136, V80_at_136'7.av, ?_⟩, ⟨(Ne.symm ne_b81_off103v2'1), (Ne.symm ne_b81_len103v2'1), (Ne.symm ne_b81_wh86), ne_dc_b81, ne_b29_b81, g_b81⟩, hq⟩, fun _ => rfl⟩
          intro i hi
          have : i = 0 ∨ i = 1 ∨ i = 2 := by omega
          rcases this with rfl | rfl | rfl
          have P45_0_at_136'7 := ((((((((((((P45_0.wr W48).ext E52).keep Kp60).wr W63).ext E67).keep Kp77).wr W80).ext E81).keep Kp86).keep Kp103v2).keep Kp118v2).keep Kp133v2)
          · exact P45_0_at_136'7
          have P60_0_at_136'7 := (((((((((P60_0.wr W63).ext E67).keep Kp77).wr W80).ext E81).keep Kp86).keep Kp103v2).keep Kp118v2).keep Kp133v2)
          · exact P60_0_at_136'7
          have P77_0_at_136'7 := ((((((P77_0.wr W80).ext E81).keep Kp86).keep Kp103v2).keep Kp118v2).keep Kp133v2)
          · exact P77_0_at_136'7
  exact K23 (p1 &&& (7 : Int32)) (p2 &&& (3 : Int32)) (f1 (1 : Int64) (x4 &&& (9223372036854775807 : Int64))) (own_and3 _) (own_max1 _)
theorem own_AV0 {α : Type} {mk : α → Value} {f : Nat → α} {Z : State} {sargs : Array Value} {t : Term} {a : Addr} {c : Cell} {ty : FieldType} (ev : t.eval sargs Z none [] Z = some (.ref a)) (A : Arr Z Z.heap a c ty) (hl : (Cond.eq (Term.length t) (Term.int 0)).value sargs Z none Z [] = some true) : own_AV mk Z Z.heap a ty 0 f := by
  cases hv : (Term.length t).eval sargs Z none [] Z with
  | none => simp [Cond.value, hv] at hl
  | some v =>
    obtain ⟨b, cl, e1, e2, e3, rfl⟩ := Jvm.Lib.length_spec hv
    cases ev.symm.trans e1
    have e4 : Z.arrayAt? a = some c := Arr.fin (Vm.Alike.refl _) A
    have e7 : cl = c := Option.some.inj (e2.symm.trans e4)
    have A' : Arr Z Z.heap a cl ty := by rw [e7]; exact A
    have e5 : cl.slots.size.toInt32 = (0 : Int32) := gotT (Cond.eq_ints hv (Term.int_eval (0))) hl
    have e6 : cl.slots.size = 0 := by
      have := congrArg Int32.toInt e5
      rw [show cl.slots.size.toInt32 = Int32.ofNat cl.slots.size from rfl, own_ofNat e3] at this
      have z : (0 : Int32).toInt = 0 := by decide
      omega
    exact ⟨by decide, cl, A', e6, fun i hi => absurd hi (Nat.not_lt_zero i)⟩
set_option maxRecDepth 65536 in
set_option maxHeartbeats 40000000 in
theorem comes_1 {Post : Tables → Env → Array Value → State → Outcome → State → Prop} (hpost : ∀ tb e args s v u, (limb_1_1.after args s (.returned v) u = true ∧ limb_1_2.after args s (.returned v) u = true ∧ True) → FrameEnd s (.returned v) u (Jvm.fieldLocs frame_1_writes args s ++ Jvm.arrayLocs frame_1_arrays args s ++ Jvm.staticLocs frame_1_statics s) 32 256 → Post tb e args s (.returned v) u) :
    ArmFor flags0 classFile x code maxLocals ret World_1 tables_1 room_1 Calls_1 rest_1 Pre_1 Post := by
  intro l hfl _ _ p e ha hc hk s m args below hf hA hF happ hP
  obtain ⟨hcalls, hrest, hpre⟩ := hP
  obtain ⟨-, -, -, hnamed, -, -, -, hat⟩ := (Spec.applies_iff hf).mp happ
  obtain ⟨hg, hn⟩ := and_e (Cond.before_iff.mp (show (Jvm.Cond.and given_1 narrow_1).before args s = true from hpre))
  obtain ⟨gg1, gg2⟩ := and_e hg
  obtain ⟨gg3, gg4⟩ := and_e gg2
  obtain ⟨gg5, gg6⟩ := and_e gg4
  obtain ⟨gg7, gg8⟩ := and_e gg6
  obtain ⟨gg9, gg10⟩ := and_e gg8
  obtain ⟨w0, w1, w2, w3, w4, rfl⟩ : ∃ w0 w1 w2 w3 w4 : Value, args = #[w0, w1, w2, w3, w4] := by
    have hs : args.size = 5 := by simpa [Cond.value, given_1] using gg1
    obtain ⟨L⟩ := args
    match L, hs with
    | [w0, w1, w2, w3, w4], _ => exact ⟨w0, w1, w2, w3, w4, rfl⟩
  have hw := fun d (hd : d ∈ tables_1) => atoms_spec (ws := Jvm.Cond.code x code maxLocals ret :: tables_1) hat d (List.mem_cons_of_mem _ hd)
  obtain ⟨i0, ei0⟩ := is_v gg3
  obtain rfl : w0 = (.int i0) := Option.some.inj ei0
  obtain ⟨i1, ei1⟩ := is_v gg5
  obtain rfl : w1 = (.int i1) := Option.some.inj ei1
  obtain ⟨i2, ei2⟩ := is_v gg7
  obtain rfl : w2 = (.int i2) := Option.some.inj ei2
  obtain ⟨i3, ei3⟩ := isL_v gg9
  obtain rfl : w3 = (.long i3) := Option.some.inj ei3
  obtain ⟨i4, ei4⟩ := isL_v gg10
  obtain rfl : w4 = (.long i4) := Option.some.inj ei4
  obtain ⟨qa1, qa2⟩ := and_e hn
  obtain ⟨nd, hnd⟩ := arr_v qa1
  obtain ⟨qb1, qb2⟩ := and_e qa2
  obtain ⟨qc1, qc2⟩ := and_e qb2
  obtain ⟨nent, hnt⟩ := arr_v qc1
  obtain ⟨qd1, qd2⟩ := and_e qc2
  obtain ⟨cN, AN⟩ := Arr.start hnt qc1
  have VN : own_AV Value.long s s.heap nent .long 0 (fun _ => 0) := own_AV0 hnt AN qd2
  obtain ⟨hsets, -⟩ := atoms_of _ (rest_1_c_eq ▸ (show rest_1_c.before _ s = true from hrest))
  have qe := Cond.before_iff.mp (hsets _ (List.mem_of_getElem? (i := 6) rfl))
  obtain ⟨dc, hdc⟩ := arr_v qe
  obtain ⟨cD, AD⟩ := Arr.start hdc qe
  have VD : own_AV id s s.heap dc (.object "java/lang/Object") 0 (fun _ => Value.null) := own_AV0 hdc AD (Cond.before_iff.mp (hsets _ (List.mem_of_getElem? (i := 8) rfl)))
  have S1 := Sta.start hdc (Or.inr ⟨(own_w hw 48 rfl), hsets _ (List.mem_of_getElem? (i := 2) rfl)⟩)
  have S2 := Sta.start hnd (Or.inr ⟨(own_w hw 31 rfl), (own_w hw 37 rfl)⟩)
  have S3 := Sta.start hnt (Or.inr ⟨(own_w hw 31 rfl), (own_w hw 41 rfl)⟩)
  obtain ⟨n, o, h1, h2, h3, v, L, rfl, ⟨hv, N, -⟩, hq⟩ := rm0 l s _ hw tables_1 i0 i1 i2 i3 i4 (fun _ => 0) (fun _ => Value.null) dc nd nent s.heap s.heap.size (Nat.le_refl _) S1 S2 S3 VN VD p e ha hc hk s m _ below hf ((Spec.applies_iff_loose hf).mp happ).1 ⟨rfl, State.Warmed39.refl s, rfl⟩ trivial
  obtain rfl : v = some (.int 1) := hv
  refine ⟨n, _, h1, h2, h3, hpost _ _ _ _ _ _ ⟨Cond.after_iff.mpr rfl, Cond.after_iff.mpr (eq_i res_at (Term.int_eval (1)) rfl), trivial⟩ ⟨hq.1, hq.2.1, (hq.2.2.sift fun y hy => Or.inr (N y hy)).mono (by decide) (by decide)⟩⟩
theorem main_1_1 : Claimed_1_1 := comes_1 fun _ _ _ _ _ _ h hF => ⟨h.1, hF⟩
theorem main_1_2 : Claimed_1_2 := comes_1 fun _ _ _ _ _ _ h hF => ⟨h.2.1, hF⟩
end Jvm.Pilot.@@N@@
namespace Jvm.Pilot.@@N@@
open Jvm Jvm.ClassFile Sem Op Lib Jvm.Free Jvm.Stand Jvm.Pilot.@@N@@.Jvm.D
/-! MADE BY PROGRAM (witnessworld.py) out of the Statement's table words and the real class files: 30 classes; the members and pool entries that the words name. The judged class is class 1, her method 5. -/
namespace start1
open Jvm.ClassFile
def u (s : String) : CpInfo := .utf8 (stringToUtf16 s)
/-- a pool by its gaps: so many unusable entries, then the entry; so many at the end -/
def gap : Nat → List CpInfo → List CpInfo
  | 0, r => r
  | n + 1, r => .unusable :: gap n r
def poolList (es : List (Nat × CpInfo)) (last : Nat) : List CpInfo := es.foldr (fun e r => gap e.1 (e.2 :: r)) (gap last [])
def pool (es : List (Nat × CpInfo)) (last : Nat) : Array CpInfo := ⟨poolList es last⟩
def fileOf (pool : Array CpInfo) (this : Nat) (attrs : Array Attribute := #[]) (ms : Array MethodInfo := #[]) (fl : Nat := 33) (sup : Nat := 0) (ifs : Array Nat := #[]) (fds : Array FieldInfo := #[]) : ClassFile where
  minorVersion := 0
  majorVersion := 65
  constantPool := pool
  accessFlags := fl
  thisClass := this
  superClass := sup
  interfaces := ifs
  fields := fds
  methods := ms
  attributes := attrs
def plain (name : String) (sup : Option ClassId) : Class where
  name := name
  kind := .ordinary
  loader := none
  accessFlags := 33
  super := sup
  interfaces := #[]
  cf := none
  fields := #[]
  methods := #[]
  instanceTypes := #[]
  staticTypes := #[]
  resolved := #[]
  callSites := []
  init := .initialized
  statics := none
  mirror := none

def pool0 : Array CpInfo := pool [(5, u "<init>"), (0, u "()V"), (1, .class_ 10), (1, u "java/lang/Object")] 113

def k0c0 : Code := { maxStack := 0, maxLocals := 1, code := object_method_1_code, exceptionTable := #[], attributes := #[] }
def k0m0 : Method := { name := "<init>", desc := "()V", sig := { parameters := [], returnType := none }, accessFlags := 1, code := some k0c0 }
/-- java/lang/Object -/
def k0 : Class := { plain "java/lang/Object" none with
  accessFlags := 33
  interfaces := #[]
  cf := some (fileOf pool0 8 #[] #[{ accessFlags := 1, nameIndex := 5, descriptorIndex := 6, attributes := #[] }] 33 0 #[] #[])
  fields := #[]
  methods := #[k0m0]
  instanceTypes := #[]
  staticTypes := #[]
  resolved := Array.replicate 124 none
  statics := none }

def pool1 : Array CpInfo := pool [(2, .class_ 4), (1, u "java/lang/Object"), (0, u "<init>"), (0, u "()V"), (0, .long 9223372036854775804), (1, .methodref 10 11), (0, .class_ 12), (0, .nameAndType 13 14), (0, u "com/example/resync/resync/io/EntryBatchSkipRecordsPinLaw"), (0, u "isSpan"), (0, u "(II)Z"), (0, .methodref 10 16), (0, .nameAndType 17 18), (0, u "spanOffset"), (0, u "(JI)J"), (0, .methodref 20 21), (0, .class_ 22), (0, .nameAndType 23 24), (0, u "com/example/resync/resync/io/EntryBatch"), (0, u "addSpan"), (0, u "(JJ)V"), (0, .methodref 20 26), (0, .nameAndType 27 28), (0, u "addRecord"), (0, u "(Lcom/example/resync/resync/model/LogRecord;)V"), (0, .class_ 30), (0, u "com/example/resync/resync/model/DamagedSpan"), (0, .methodref 29 32), (0, .nameAndType 33 34), (0, u "offset"), (0, u "()J"), (0, .methodref 29 36), (0, .nameAndType 37 34), (0, u "length"), (2, .long 9223372036854775807), (1, .methodref 43 44), (0, .class_ 45), (0, .nameAndType 46 47), (0, u "java/lang/Math"), (0, u "max"), (0, u "(JJ)J"), (0, .class_ 49), (0, u "com/example/resync/resync/model/LogRecord"), (0, .methodref 48 51), (0, .nameAndType 5 52), (0, u "(JJ[B)V"), (0, .long 2), (1, .methodref 20 56), (0, .nameAndType 5 57), (0, u "(I)V"), (0, .methodref 10 59), (0, .nameAndType 60 61), (0, u "add"), (0, u "(Lcom/example/resync/resync/io/EntryBatch;IILcom/example/resync/resync/model/LogRecord;JJ)V"), (0, .methodref 20 63), (0, .nameAndType 64 65), (0, u "take"), (0, u "()Lcom/example/resync/resync/model/LogEntry;"), (0, .methodref 10 67), (0, .nameAndType 68 69), (0, u "matches"), (0, u "(Ljava/lang/Object;II[Lcom/example/resync/resync/model/LogRecord;JJ)Z"), (0, .methodref 20 71), (0, .nameAndType 72 73), (0, u "skipRecords"), (0, u "()I"), (3, u "law"), (0, u "(IIIJJ)Z")] 6

def k1m0 : Method := { name := "<init>", desc := "()V", sig := { parameters := [], returnType := none }, accessFlags := 2, code := none }
def k1c1 : Code := { maxStack := 2, maxLocals := 2, code := method_2_code, exceptionTable := #[], attributes := #[] }
def k1m1 : Method := { name := "isSpan", desc := "(II)Z", sig := { parameters := [.int, .int], returnType := some .boolean }, accessFlags := 10, code := some k1c1 }
def k1c2 : Code := { maxStack := 4, maxLocals := 3, code := method_3_code, exceptionTable := #[], attributes := #[] }
def k1m2 : Method := { name := "spanOffset", desc := "(JI)J", sig := { parameters := [.long, .int], returnType := some .long }, accessFlags := 10, code := some k1c2 }
def k1c3 : Code := { maxStack := 5, maxLocals := 8, code := method_4_code, exceptionTable := #[], attributes := #[] }
def k1m3 : Method := { name := "add", desc := "(Lcom/example/resync/resync/io/EntryBatch;IILcom/example/resync/resync/model/LogRecord;JJ)V", sig := { parameters := [(.object "com/example/resync/resync/io/EntryBatch"), .int, .int, (.object "com/example/resync/resync/model/LogRecord"), .long, .long], returnType := none }, accessFlags := 10, code := some k1c3 }
def k1c4 : Code := { maxStack := 5, maxLocals := 9, code := method_5_code, exceptionTable := #[], attributes := #[] }
def k1m4 : Method := { name := "matches", desc := "(Ljava/lang/Object;II[Lcom/example/resync/resync/model/LogRecord;JJ)Z", sig := { parameters := [(.object "java/lang/Object"), .int, .int, (.array (.object "com/example/resync/resync/model/LogRecord")), .long, .long], returnType := some .boolean }, accessFlags := 10, code := some k1c4 }
def k1c5 : Code := { maxStack := 9, maxLocals := 18, code := code, exceptionTable := #[], attributes := #[] }
def k1m5 : Method := { name := "law", desc := "(IIIJJ)Z", sig := { parameters := [.int, .int, .int, .long, .long], returnType := some .boolean }, accessFlags := 9, code := some k1c5 }
/-- com/example/resync/resync/io/EntryBatchSkipRecordsPinLaw -/
def k1 : Class := { plain "com/example/resync/resync/io/EntryBatchSkipRecordsPinLaw" (some 0) with
  accessFlags := 49
  interfaces := #[]
  cf := some (fileOf pool1 10 #[] #[{ accessFlags := 2, nameIndex := 5, descriptorIndex := 6, attributes := #[] }, { accessFlags := 10, nameIndex := 13, descriptorIndex := 14, attributes := #[] }, { accessFlags := 10, nameIndex := 17, descriptorIndex := 18, attributes := #[] }, { accessFlags := 10, nameIndex := 60, descriptorIndex := 61, attributes := #[] }, { accessFlags := 10, nameIndex := 68, descriptorIndex := 69, attributes := #[] }, { accessFlags := 9, nameIndex := 77, descriptorIndex := 78, attributes := #[] }] 49 2 #[] #[])
  fields := #[]
  methods := #[k1m0, k1m1, k1m2, k1m3, k1m4, k1m5]
  instanceTypes := #[]
  staticTypes := #[]
  resolved := Array.replicate 85 none
  statics := none }

def pool2 : Array CpInfo := pool [(1, .class_ 2), (0, u "java/lang/Math"), (1, .class_ 6), (1, u "java/lang/Object"), (0, u "<init>"), (0, u "()V"), (89, .class_ 100), (1, u "java/lang/Math$RandomNumberGeneratorHolder"), (20, u "(JJ)J"), (50, u "negativeZeroFloatBits"), (0, u "J"), (2, u "negativeZeroDoubleBits"), (21, u "max"), (2, u "min"), (43, u "$assertionsDisabled"), (0, u "Z"), (88, u "(II)I"), (2, u "twoToTheDoubleScaleDown"), (0, u "D"), (4, u "twoToTheDoubleScaleUp"), (9, u "E"), (3, u "PI"), (2, u "TAU"), (2, u "DEGREES_TO_RADIANS"), (0, u "RADIANS_TO_DEGREES")] 94

def k2m0 : Method := { name := "<init>", desc := "()V", sig := { parameters := [], returnType := none }, accessFlags := 2, code := none }
def k2c1 : Code := { maxStack := 2, maxLocals := 2, code := jdk_29_method_65_code, exceptionTable := #[], attributes := #[] }
def k2m1 : Method := { name := "max", desc := "(II)I", sig := { parameters := [.int, .int], returnType := some .int }, accessFlags := 9, code := some k2c1 }
def k2c2 : Code := { maxStack := 4, maxLocals := 4, code := jdk_29_method_66_code, exceptionTable := #[], attributes := #[] }
def k2m2 : Method := { name := "max", desc := "(JJ)J", sig := { parameters := [.long, .long], returnType := some .long }, accessFlags := 9, code := some k2c2 }
def k2c3 : Code := { maxStack := 2, maxLocals := 2, code := jdk_29_method_69_code, exceptionTable := #[], attributes := #[] }
def k2m3 : Method := { name := "min", desc := "(II)I", sig := { parameters := [.int, .int], returnType := some .int }, accessFlags := 9, code := some k2c3 }
def k2c4 : Code := { maxStack := 4, maxLocals := 4, code := jdk_29_method_70_code, exceptionTable := #[], attributes := #[] }
def k2m4 : Method := { name := "min", desc := "(JJ)J", sig := { parameters := [.long, .long], returnType := some .long }, accessFlags := 9, code := some k2c4 }
/-- java/lang/Math -/
def k2 : Class := { plain "java/lang/Math" (some 0) with
  accessFlags := 49
  interfaces := #[]
  cf := some (fileOf pool2 1 #[.nestMembers #[98]] #[{ accessFlags := 2, nameIndex := 7, descriptorIndex := 8, attributes := #[] }, { accessFlags := 9, nameIndex := 198, descriptorIndex := 335, attributes := #[] }, { accessFlags := 9, nameIndex := 198, descriptorIndex := 121, attributes := #[] }, { accessFlags := 9, nameIndex := 201, descriptorIndex := 335, attributes := #[] }, { accessFlags := 9, nameIndex := 201, descriptorIndex := 121, attributes := #[] }] 49 4 #[] #[{ accessFlags := 25, nameIndex := 354, descriptorIndex := 339, attributes := #[] }, { accessFlags := 25, nameIndex := 358, descriptorIndex := 339, attributes := #[] }, { accessFlags := 25, nameIndex := 361, descriptorIndex := 339, attributes := #[] }, { accessFlags := 26, nameIndex := 364, descriptorIndex := 339, attributes := #[] }, { accessFlags := 26, nameIndex := 365, descriptorIndex := 339, attributes := #[] }, { accessFlags := 26, nameIndex := 172, descriptorIndex := 173, attributes := #[] }, { accessFlags := 26, nameIndex := 176, descriptorIndex := 173, attributes := #[] }, { accessFlags := 8, nameIndex := 344, descriptorIndex := 339, attributes := #[] }, { accessFlags := 8, nameIndex := 338, descriptorIndex := 339, attributes := #[] }, { accessFlags := 4120, nameIndex := 245, descriptorIndex := 246, attributes := #[] }])
  fields := #[{ name := "E", type := .double, accessFlags := 25, slot := 0, constantValue := 0 }, { name := "PI", type := .double, accessFlags := 25, slot := 1, constantValue := 0 }, { name := "TAU", type := .double, accessFlags := 25, slot := 2, constantValue := 0 }, { name := "DEGREES_TO_RADIANS", type := .double, accessFlags := 26, slot := 3, constantValue := 0 }, { name := "RADIANS_TO_DEGREES", type := .double, accessFlags := 26, slot := 4, constantValue := 0 }, { name := "negativeZeroFloatBits", type := .long, accessFlags := 26, slot := 5, constantValue := 0 }, { name := "negativeZeroDoubleBits", type := .long, accessFlags := 26, slot := 6, constantValue := 0 }, { name := "twoToTheDoubleScaleUp", type := .double, accessFlags := 8, slot := 7, constantValue := 0 }, { name := "twoToTheDoubleScaleDown", type := .double, accessFlags := 8, slot := 8, constantValue := 0 }, { name := "$assertionsDisabled", type := .boolean, accessFlags := 4120, slot := 9, constantValue := 0 }]
  methods := #[k2m0, k2m1, k2m2, k2m3, k2m4]
  instanceTypes := #[]
  staticTypes := #[.double, .double, .double, .double, .double, .long, .long, .double, .double, .boolean]
  resolved := Array.replicate 460 none
  statics := none }

def pool3 : Array CpInfo := pool [(1, .methodref 2 3), (0, .class_ 4), (0, .nameAndType 5 6), (0, u "java/lang/Object"), (0, u "<init>"), (0, u "()V"), (0, .class_ 8), (0, u "java/lang/Record")] 13

def k3c0 : Code := { maxStack := 1, maxLocals := 1, code := jdk_30_method_1_code, exceptionTable := #[], attributes := #[] }
def k3m0 : Method := { name := "<init>", desc := "()V", sig := { parameters := [], returnType := none }, accessFlags := 4, code := some k3c0 }
/-- java/lang/Record -/
def k3 : Class := { plain "java/lang/Record" (some 0) with
  accessFlags := 1057
  interfaces := #[]
  cf := some (fileOf pool3 7 #[] #[{ accessFlags := 4, nameIndex := 5, descriptorIndex := 6, attributes := #[] }] 1057 2 #[] #[])
  fields := #[]
  methods := #[k3m0]
  instanceTypes := #[]
  staticTypes := #[]
  resolved := Array.replicate 22 none
  statics := none }

def pool4 : Array CpInfo := pool [(1, .class_ 2), (0, u "com/example/resync/resync/model/LogEntry"), (0, .class_ 4), (0, u "java/lang/Object")] 7

/-- com/example/resync/resync/model/LogEntry -/
def k4 : Class := { plain "com/example/resync/resync/model/LogEntry" (some 0) with
  accessFlags := 1537
  interfaces := #[]
  cf := some (fileOf pool4 1 #[] #[] 1537 3 #[] #[])
  fields := #[]
  methods := #[]
  instanceTypes := #[]
  staticTypes := #[]
  resolved := Array.replicate 12 none
  statics := none }

def pool5 : Array CpInfo := pool [(1, .methodref 2 3), (0, .class_ 4), (0, .nameAndType 5 6), (0, u "java/lang/Record"), (0, u "<init>"), (0, u "()V"), (0, .fieldref 8 9), (0, .class_ 10), (0, .nameAndType 11 12), (0, u "com/example/resync/resync/model/LogRecord"), (0, u "offset"), (0, u "J"), (0, .fieldref 8 14), (0, .nameAndType 15 12), (0, u "generation"), (0, .fieldref 8 17), (0, .nameAndType 18 19), (0, u "payload"), (0, u "[B"), (19, .class_ 40), (0, u "com/example/resync/resync/model/LogEntry"), (0, u "(JJ[B)V"), (8, u "()J")] 19

def k5c0 : Code := { maxStack := 3, maxLocals := 6, code := prog_67_method_1_code, exceptionTable := #[], attributes := #[] }
def k5m0 : Method := { name := "<init>", desc := "(JJ[B)V", sig := { parameters := [.long, .long, (.array .byte)], returnType := none }, accessFlags := 1, code := some k5c0 }
def k5c1 : Code := { maxStack := 2, maxLocals := 1, code := prog_67_method_5_code, exceptionTable := #[], attributes := #[] }
def k5m1 : Method := { name := "offset", desc := "()J", sig := { parameters := [], returnType := some .long }, accessFlags := 1, code := some k5c1 }
/-- com/example/resync/resync/model/LogRecord -/
def k5 : Class := { plain "com/example/resync/resync/model/LogRecord" (some 3) with
  accessFlags := 49
  interfaces := #[4]
  cf := some (fileOf pool5 8 #[] #[{ accessFlags := 1, nameIndex := 5, descriptorIndex := 41, attributes := #[] }, { accessFlags := 1, nameIndex := 11, descriptorIndex := 50, attributes := #[] }] 49 2 #[39] #[{ accessFlags := 18, nameIndex := 11, descriptorIndex := 12, attributes := #[] }, { accessFlags := 18, nameIndex := 15, descriptorIndex := 12, attributes := #[] }, { accessFlags := 18, nameIndex := 18, descriptorIndex := 19, attributes := #[] }])
  fields := #[{ name := "offset", type := .long, accessFlags := 18, slot := 0, constantValue := 0 }, { name := "generation", type := .long, accessFlags := 18, slot := 1, constantValue := 0 }, { name := "payload", type := (.array .byte), accessFlags := 18, slot := 2, constantValue := 0 }]
  methods := #[k5m0, k5m1]
  instanceTypes := #[.long, .long, (.array .byte)]
  staticTypes := #[]
  resolved := Array.replicate 70 none
  statics := none }

def pool6 : Array CpInfo := pool [(5, .class_ 6), (0, u "com/example/resync/resync/io/EntryBatch"), (0, .integer 2147483639), (2, u "<init>"), (0, u "(I)V"), (0, .methodref 13 14), (0, .class_ 15), (0, .nameAndType 10 16), (0, u "java/lang/Object"), (0, u "()V"), (0, .fieldref 5 18), (0, .nameAndType 19 20), (0, u "NO_DATA"), (0, u "[B"), (0, .fieldref 5 22), (0, .nameAndType 23 20), (0, u "data"), (0, .fieldref 5 25), (0, .nameAndType 26 27), (0, u "NO_ENTRIES"), (0, u "[J"), (0, .fieldref 5 29), (0, .nameAndType 30 27), (0, u "offsets"), (0, .fieldref 5 32), (0, .nameAndType 33 27), (0, u "lengths"), (0, .class_ 35), (0, u "java/util/ArrayList"), (0, .methodref 34 14), (0, .fieldref 5 38), (0, .nameAndType 39 40), (0, u "whole"), (0, u "Ljava/util/List;"), (0, .fieldref 5 42), (0, .nameAndType 43 44), (0, u "lastSpan"), (0, u "I"), (0, .methodref 46 47), (0, .class_ 48), (0, .nameAndType 49 50), (0, u "java/lang/Math"), (0, u "min"), (0, u "(II)I"), (0, .fieldref 5 52), (0, .nameAndType 53 44), (0, u "kept"), (3, u "dataEnd"), (4, .methodref 5 63), (0, .nameAndType 64 65), (0, u "grown"), (0, u "(IJJ)I"), (1, .class_ 69), (1, u "java/util/Arrays"), (0, u "copyOf"), (7, .methodref 5 79), (0, .nameAndType 80 81), (0, u "append"), (0, u "(JJ)V"), (0, .interfaceMethodref 83 84), (0, .class_ 85), (0, .nameAndType 86 87), (0, u "java/util/List"), (0, u "add"), (0, u "(Ljava/lang/Object;)Z"), (0, .methodref 89 90), (0, .class_ 91), (0, .nameAndType 92 93), (0, u "com/example/resync/resync/model/LogRecord"), (0, u "offset"), (0, u "()J"), (0, .fieldref 5 95), (0, .nameAndType 96 44), (0, u "size"), (0, .fieldref 5 98), (0, .nameAndType 99 44), (0, u "taken"), (0, .fieldref 5 101), (0, .nameAndType 102 44), (0, u "takenData"), (4, .fieldref 5 108), (0, .nameAndType 109 44), (0, u "takenWhole"), (0, .interfaceMethodref 83 111), (0, .nameAndType 112 113), (0, u "get"), (0, u "(I)Ljava/lang/Object;"), (0, .class_ 115), (0, u "com/example/resync/resync/model/LogEntry"), (0, .class_ 117), (0, u "com/example/resync/resync/model/DamagedSpan"), (0, .methodref 116 119), (0, .nameAndType 10 81), (2, u "failure"), (0, u "Ljava/lang/Throwable;"), (11, .long 16), (19, u "addRecord"), (0, u "(Lcom/example/resync/resync/model/LogRecord;)V"), (0, .methodref 46 158), (0, .nameAndType 159 160), (0, u "max"), (0, u "(JJ)J"), (0, .methodref 67 162), (0, .nameAndType 70 163), (0, u "([JI)[J"), (0, .long 2), (1, .methodref 46 167), (0, .nameAndType 49 160), (0, .long 2147483639), (1, u "SHARED_RECORD_LIMIT"), (1, u "MAX_ARRAY_LENGTH"), (0, u "ENTRY_BYTES"), (7, u "addSpan"), (0, u "take"), (0, u "()Lcom/example/resync/resync/model/LogEntry;"), (0, u "skipRecords"), (0, u "()I")] 9

def k6m0 : Method := { name := "<init>", desc := "()V", sig := { parameters := [], returnType := none }, accessFlags := 0, code := none }
def k6c1 : Code := { maxStack := 3, maxLocals := 2, code := prog_47_method_2_code, exceptionTable := #[], attributes := #[] }
def k6m1 : Method := { name := "<init>", desc := "(I)V", sig := { parameters := [.int], returnType := none }, accessFlags := 0, code := some k6c1 }
def k6c2 : Code := { maxStack := 5, maxLocals := 2, code := prog_47_method_4_code, exceptionTable := #[], attributes := #[] }
def k6m2 : Method := { name := "addRecord", desc := "(Lcom/example/resync/resync/model/LogRecord;)V", sig := { parameters := [(.object "com/example/resync/resync/model/LogRecord")], returnType := none }, accessFlags := 0, code := some k6c2 }
def k6c3 : Code := { maxStack := 5, maxLocals := 5, code := prog_47_method_5_code, exceptionTable := #[], attributes := #[] }
def k6m3 : Method := { name := "addSpan", desc := "(JJ)V", sig := { parameters := [.long, .long], returnType := none }, accessFlags := 0, code := some k6c3 }
def k6c4 : Code := { maxStack := 6, maxLocals := 6, code := prog_47_method_6_code, exceptionTable := #[], attributes := #[] }
def k6m4 : Method := { name := "take", desc := "()Lcom/example/resync/resync/model/LogEntry;", sig := { parameters := [], returnType := some (.object "com/example/resync/resync/model/LogEntry") }, accessFlags := 0, code := some k6c4 }
def k6c5 : Code := { maxStack := 4, maxLocals := 2, code := prog_47_method_7_code, exceptionTable := #[], attributes := #[] }
def k6m5 : Method := { name := "skipRecords", desc := "()I", sig := { parameters := [], returnType := some .int }, accessFlags := 0, code := some k6c5 }
def k6c6 : Code := { maxStack := 7, maxLocals := 6, code := prog_47_method_15_code, exceptionTable := #[], attributes := #[] }
def k6m6 : Method := { name := "append", desc := "(JJ)V", sig := { parameters := [.long, .long], returnType := none }, accessFlags := 2, code := some k6c6 }
def k6c7 : Code := { maxStack := 6, maxLocals := 7, code := prog_47_method_16_code, exceptionTable := #[], attributes := #[] }
def k6m7 : Method := { name := "grown", desc := "(IJJ)I", sig := { parameters := [.int, .long, .long], returnType := some .int }, accessFlags := 10, code := some k6c7 }
/-- com/example/resync/resync/io/EntryBatch -/
def k6 : Class := { plain "com/example/resync/resync/io/EntryBatch" (some 0) with
  accessFlags := 48
  interfaces := #[]
  cf := some (fileOf pool6 5 #[] #[{ accessFlags := 0, nameIndex := 10, descriptorIndex := 16, attributes := #[] }, { accessFlags := 0, nameIndex := 10, descriptorIndex := 11, attributes := #[] }, { accessFlags := 0, nameIndex := 155, descriptorIndex := 156, attributes := #[] }, { accessFlags := 0, nameIndex := 181, descriptorIndex := 81, attributes := #[] }, { accessFlags := 0, nameIndex := 182, descriptorIndex := 183, attributes := #[] }, { accessFlags := 0, nameIndex := 184, descriptorIndex := 185, attributes := #[] }, { accessFlags := 2, nameIndex := 80, descriptorIndex := 81, attributes := #[] }, { accessFlags := 10, nameIndex := 64, descriptorIndex := 65, attributes := #[] }] 48 13 #[] #[{ accessFlags := 24, nameIndex := 170, descriptorIndex := 44, attributes := #[] }, { accessFlags := 26, nameIndex := 172, descriptorIndex := 44, attributes := #[] }, { accessFlags := 26, nameIndex := 173, descriptorIndex := 44, attributes := #[] }, { accessFlags := 26, nameIndex := 19, descriptorIndex := 20, attributes := #[] }, { accessFlags := 26, nameIndex := 26, descriptorIndex := 27, attributes := #[] }, { accessFlags := 18, nameIndex := 53, descriptorIndex := 44, attributes := #[] }, { accessFlags := 2, nameIndex := 23, descriptorIndex := 20, attributes := #[] }, { accessFlags := 2, nameIndex := 57, descriptorIndex := 44, attributes := #[] }, { accessFlags := 2, nameIndex := 30, descriptorIndex := 27, attributes := #[] }, { accessFlags := 2, nameIndex := 33, descriptorIndex := 27, attributes := #[] }, { accessFlags := 18, nameIndex := 39, descriptorIndex := 40, attributes := #[] }, { accessFlags := 2, nameIndex := 96, descriptorIndex := 44, attributes := #[] }, { accessFlags := 2, nameIndex := 43, descriptorIndex := 44, attributes := #[] }, { accessFlags := 2, nameIndex := 99, descriptorIndex := 44, attributes := #[] }, { accessFlags := 2, nameIndex := 102, descriptorIndex := 44, attributes := #[] }, { accessFlags := 2, nameIndex := 109, descriptorIndex := 44, attributes := #[] }, { accessFlags := 2, nameIndex := 122, descriptorIndex := 123, attributes := #[] }])
  fields := #[{ name := "SHARED_RECORD_LIMIT", type := .int, accessFlags := 24, slot := 0, constantValue := 0 }, { name := "MAX_ARRAY_LENGTH", type := .int, accessFlags := 26, slot := 1, constantValue := 0 }, { name := "ENTRY_BYTES", type := .int, accessFlags := 26, slot := 2, constantValue := 0 }, { name := "NO_DATA", type := (.array .byte), accessFlags := 26, slot := 3, constantValue := 0 }, { name := "NO_ENTRIES", type := (.array .long), accessFlags := 26, slot := 4, constantValue := 0 }, { name := "kept", type := .int, accessFlags := 18, slot := 0, constantValue := 0 }, { name := "data", type := (.array .byte), accessFlags := 2, slot := 1, constantValue := 0 }, { name := "dataEnd", type := .int, accessFlags := 2, slot := 2, constantValue := 0 }, { name := "offsets", type := (.array .long), accessFlags := 2, slot := 3, constantValue := 0 }, { name := "lengths", type := (.array .long), accessFlags := 2, slot := 4, constantValue := 0 }, { name := "whole", type := (.object "java/util/List"), accessFlags := 18, slot := 5, constantValue := 0 }, { name := "size", type := .int, accessFlags := 2, slot := 6, constantValue := 0 }, { name := "lastSpan", type := .int, accessFlags := 2, slot := 7, constantValue := 0 }, { name := "taken", type := .int, accessFlags := 2, slot := 8, constantValue := 0 }, { name := "takenData", type := .int, accessFlags := 2, slot := 9, constantValue := 0 }, { name := "takenWhole", type := .int, accessFlags := 2, slot := 10, constantValue := 0 }, { name := "failure", type := (.object "java/lang/Throwable"), accessFlags := 2, slot := 11, constantValue := 0 }]
  methods := #[k6m0, k6m1, k6m2, k6m3, k6m4, k6m5, k6m6, k6m7]
  instanceTypes := #[.int, (.array .byte), .int, (.array .long), (.array .long), (.object "java/util/List"), .int, .int, .int, .int, .int, (.object "java/lang/Throwable")]
  staticTypes := #[.int, .int, .int, (.array .byte), (.array .long)]
  resolved := Array.replicate 195 none
  statics := some 0 }

def pool7 : Array CpInfo := pool [(8, .class_ 10), (1, u "java/lang/Iterable"), (24, .class_ 36), (0, u "java/lang/Object")] 25

/-- java/lang/Iterable -/
def k7 : Class := { plain "java/lang/Iterable" (some 0) with
  accessFlags := 1537
  interfaces := #[]
  cf := some (fileOf pool7 8 #[] #[] 1537 35 #[] #[])
  fields := #[]
  methods := #[]
  instanceTypes := #[]
  staticTypes := #[]
  resolved := Array.replicate 62 none
  statics := none }

def pool8 : Array CpInfo := pool [(10, .class_ 12), (1, u "java/util/Collection"), (47, .class_ 61), (0, u "java/lang/Object"), (0, .class_ 63), (0, u "java/lang/Iterable")] 51

/-- java/util/Collection -/
def k8 : Class := { plain "java/util/Collection" (some 0) with
  accessFlags := 1537
  interfaces := #[7]
  cf := some (fileOf pool8 10 #[] #[] 1537 60 #[62] #[])
  fields := #[]
  methods := #[]
  instanceTypes := #[]
  staticTypes := #[]
  resolved := Array.replicate 115 none
  statics := none }

def pool9 : Array CpInfo := pool [(1, .methodref 2 3), (0, .class_ 4), (0, .nameAndType 5 6), (0, u "java/lang/Object"), (0, u "<init>"), (0, u "()V"), (1, .class_ 10), (1, u "java/util/AbstractCollection"), (66, .class_ 78), (0, u "java/util/Collection")] 81

def k9c0 : Code := { maxStack := 1, maxLocals := 1, code := jdk_22_method_1_code, exceptionTable := #[], attributes := #[] }
def k9m0 : Method := { name := "<init>", desc := "()V", sig := { parameters := [], returnType := none }, accessFlags := 4, code := some k9c0 }
/-- java/util/AbstractCollection -/
def k9 : Class := { plain "java/util/AbstractCollection" (some 0) with
  accessFlags := 1057
  interfaces := #[8]
  cf := some (fileOf pool9 8 #[] #[{ accessFlags := 4, nameIndex := 5, descriptorIndex := 6, attributes := #[] }] 1057 2 #[77] #[])
  fields := #[]
  methods := #[k9m0]
  instanceTypes := #[]
  staticTypes := #[]
  resolved := Array.replicate 160 none
  statics := none }

def pool10 : Array CpInfo := pool [(8, .class_ 10), (1, u "java/util/SequencedCollection"), (15, .class_ 27), (0, u "java/lang/Object"), (0, .class_ 29), (0, u "java/util/Collection")] 27

/-- java/util/SequencedCollection -/
def k10 : Class := { plain "java/util/SequencedCollection" (some 0) with
  accessFlags := 1537
  interfaces := #[8]
  cf := some (fileOf pool10 8 #[] #[] 1537 26 #[28] #[])
  fields := #[]
  methods := #[]
  instanceTypes := #[]
  staticTypes := #[]
  resolved := Array.replicate 57 none
  statics := none }

def pool11 : Array CpInfo := pool [(8, .class_ 10), (1, u "java/util/List"), (49, u "add"), (3, u "(Ljava/lang/Object;)Z"), (10, u "get"), (0, u "(I)Ljava/lang/Object;"), (26, .class_ 104), (0, u "java/lang/Object"), (15, .class_ 121), (0, u "java/util/SequencedCollection")] 129

def k11m0 : Method := { name := "add", desc := "(Ljava/lang/Object;)Z", sig := { parameters := [(.object "java/lang/Object")], returnType := some .boolean }, accessFlags := 1025, code := none }
def k11m1 : Method := { name := "get", desc := "(I)Ljava/lang/Object;", sig := { parameters := [.int], returnType := some (.object "java/lang/Object") }, accessFlags := 1025, code := none }
/-- java/util/List -/
def k11 : Class := { plain "java/util/List" (some 0) with
  accessFlags := 1537
  interfaces := #[10]
  cf := some (fileOf pool11 8 #[] #[{ accessFlags := 1025, nameIndex := 60, descriptorIndex := 64, attributes := #[] }, { accessFlags := 1025, nameIndex := 75, descriptorIndex := 76, attributes := #[] }] 1537 103 #[120] #[])
  fields := #[]
  methods := #[k11m0, k11m1]
  instanceTypes := #[]
  staticTypes := #[]
  resolved := Array.replicate 251 none
  statics := none }

def pool12 : Array CpInfo := pool [(1, .methodref 2 3), (0, .class_ 4), (0, .nameAndType 5 6), (0, u "java/util/AbstractCollection"), (0, u "<init>"), (0, u "()V"), (0, .fieldref 8 9), (0, .class_ 10), (0, .nameAndType 11 12), (0, u "java/util/AbstractList"), (0, u "modCount"), (0, u "I"), (64, .class_ 78), (0, u "java/util/AbstractList$Itr"), (3, .class_ 83), (0, u "java/util/AbstractList$ListItr"), (9, .class_ 94), (0, u "java/util/AbstractList$RandomAccessSubList"), (3, .class_ 99), (0, u "java/util/AbstractList$SubList"), (33, .class_ 134), (0, u "java/util/List"), (73, .class_ 209), (0, u "java/util/AbstractList$SubList$1"), (0, .class_ 211), (0, u "java/util/AbstractList$RandomAccessSpliterator")] 6

def k12c0 : Code := { maxStack := 2, maxLocals := 1, code := jdk_39_method_1_code, exceptionTable := #[], attributes := #[] }
def k12m0 : Method := { name := "<init>", desc := "()V", sig := { parameters := [], returnType := none }, accessFlags := 4, code := some k12c0 }
/-- java/util/AbstractList -/
def k12 : Class := { plain "java/util/AbstractList" (some 9) with
  accessFlags := 1057
  interfaces := #[11]
  cf := some (fileOf pool12 8 #[.nestMembers #[93, 98, 208, 210, 82, 77]] #[{ accessFlags := 4, nameIndex := 5, descriptorIndex := 6, attributes := #[] }] 1057 2 #[133] #[{ accessFlags := 132, nameIndex := 11, descriptorIndex := 12, attributes := #[] }])
  fields := #[{ name := "modCount", type := .int, accessFlags := 132, slot := 0, constantValue := 0 }]
  methods := #[k12m0]
  instanceTypes := #[.int]
  staticTypes := #[]
  resolved := Array.replicate 218 none
  statics := none }

def pool13 : Array CpInfo := pool [(1, .class_ 2), (0, u "java/util/RandomAccess"), (0, .class_ 4), (0, u "java/lang/Object")] 2

/-- java/util/RandomAccess -/
def k13 : Class := { plain "java/util/RandomAccess" (some 0) with
  accessFlags := 1537
  interfaces := #[]
  cf := some (fileOf pool13 1 #[] #[] 1537 3 #[] #[])
  fields := #[]
  methods := #[]
  instanceTypes := #[]
  staticTypes := #[]
  resolved := Array.replicate 7 none
  statics := none }

def pool14 : Array CpInfo := pool [(1, .class_ 2), (0, u "java/lang/Cloneable"), (0, .class_ 4), (0, u "java/lang/Object")] 2

/-- java/lang/Cloneable -/
def k14 : Class := { plain "java/lang/Cloneable" (some 0) with
  accessFlags := 1537
  interfaces := #[]
  cf := some (fileOf pool14 1 #[] #[] 1537 3 #[] #[])
  fields := #[]
  methods := #[]
  instanceTypes := #[]
  staticTypes := #[]
  resolved := Array.replicate 7 none
  statics := none }

def pool15 : Array CpInfo := pool [(1, .class_ 2), (0, u "java/io/Serializable"), (0, .class_ 4), (0, u "java/lang/Object")] 2

/-- java/io/Serializable -/
def k15 : Class := { plain "java/io/Serializable" (some 0) with
  accessFlags := 1537
  interfaces := #[]
  cf := some (fileOf pool15 1 #[] #[] 1537 3 #[] #[])
  fields := #[]
  methods := #[]
  instanceTypes := #[]
  staticTypes := #[]
  resolved := Array.replicate 7 none
  statics := none }

def pool16 : Array CpInfo := pool [(1, .methodref 2 3), (0, .class_ 4), (0, .nameAndType 5 6), (0, u "java/util/AbstractList"), (0, u "<init>"), (0, u "()V"), (0, .class_ 8), (0, u "java/lang/Object"), (0, .fieldref 10 11), (0, .class_ 12), (0, .nameAndType 13 14), (0, u "java/util/ArrayList"), (0, u "elementData"), (0, u "[Ljava/lang/Object;"), (2, u "EMPTY_ELEMENTDATA"), (21, .fieldref 10 40), (0, .nameAndType 41 14), (0, u "DEFAULTCAPACITY_EMPTY_ELEMENTDATA"), (5, u "()[Ljava/lang/Object;"), (0, .fieldref 10 49), (0, .nameAndType 50 51), (0, u "size"), (0, u "I"), (11, .fieldref 10 64), (0, .nameAndType 65 51), (0, u "modCount"), (3, .methodref 10 70), (0, .nameAndType 71 72), (0, u "grow"), (0, u "(I)[Ljava/lang/Object;"), (6, .methodref 80 81), (0, .class_ 82), (0, .nameAndType 83 84), (0, u "java/lang/Math"), (0, u "max"), (0, u "(II)I"), (11, u "(Ljava/lang/Object;)Z"), (21, .methodref 119 120), (0, .class_ 121), (0, .nameAndType 122 84), (0, u "java/util/Objects"), (0, u "checkIndex"), (0, .methodref 10 124), (0, .nameAndType 13 125), (0, u "(I)Ljava/lang/Object;"), (3, .methodref 10 130), (0, .nameAndType 71 47), (0, .methodref 10 132), (0, .nameAndType 133 134), (0, u "add"), (0, u "(Ljava/lang/Object;[Ljava/lang/Object;I)V"), (13, .class_ 149), (0, u "java/util/List"), (112, .class_ 263), (0, u "java/util/ArrayList$ListItr"), (3, .class_ 268), (0, u "java/util/ArrayList$Itr"), (7, .class_ 277), (0, u "java/util/ArrayList$SubList"), (12, .class_ 291), (0, u "java/util/ArrayList$ArrayListSpliterator"), (37, .class_ 330), (0, u "java/util/RandomAccess"), (0, .class_ 332), (0, u "java/lang/Cloneable"), (0, .class_ 334), (0, u "java/io/Serializable"), (0, u "serialVersionUID"), (0, u "J"), (3, u "DEFAULT_CAPACITY"), (40, u "get"), (118, .class_ 501), (0, u "java/util/ArrayList$SubList$2"), (0, .class_ 503), (0, u "java/util/ArrayList$SubList$1")] 5

def k16c0 : Code := { maxStack := 2, maxLocals := 1, code := jdk_38_method_2_code, exceptionTable := #[], attributes := #[] }
def k16m0 : Method := { name := "<init>", desc := "()V", sig := { parameters := [], returnType := none }, accessFlags := 1, code := some k16c0 }
def k16c1 : Code := { maxStack := 4, maxLocals := 4, code := jdk_38_method_6_code, exceptionTable := #[], attributes := #[] }
def k16m1 : Method := { name := "grow", desc := "(I)[Ljava/lang/Object;", sig := { parameters := [.int], returnType := some (.array (.object "java/lang/Object")) }, accessFlags := 2, code := some k16c1 }
def k16c2 : Code := { maxStack := 3, maxLocals := 1, code := jdk_38_method_7_code, exceptionTable := #[], attributes := #[] }
def k16m2 : Method := { name := "grow", desc := "()[Ljava/lang/Object;", sig := { parameters := [], returnType := some (.array (.object "java/lang/Object")) }, accessFlags := 2, code := some k16c2 }
def k16c3 : Code := { maxStack := 2, maxLocals := 2, code := jdk_38_method_18_code, exceptionTable := #[], attributes := #[] }
def k16m3 : Method := { name := "elementData", desc := "(I)Ljava/lang/Object;", sig := { parameters := [.int], returnType := some (.object "java/lang/Object") }, accessFlags := 0, code := some k16c3 }
def k16c4 : Code := { maxStack := 2, maxLocals := 2, code := jdk_38_method_20_code, exceptionTable := #[], attributes := #[] }
def k16m4 : Method := { name := "get", desc := "(I)Ljava/lang/Object;", sig := { parameters := [.int], returnType := some (.object "java/lang/Object") }, accessFlags := 1, code := some k16c4 }
def k16c5 : Code := { maxStack := 3, maxLocals := 4, code := jdk_38_method_24_code, exceptionTable := #[], attributes := #[] }
def k16m5 : Method := { name := "add", desc := "(Ljava/lang/Object;[Ljava/lang/Object;I)V", sig := { parameters := [(.object "java/lang/Object"), (.array (.object "java/lang/Object")), .int], returnType := none }, accessFlags := 2, code := some k16c5 }
def k16c6 : Code := { maxStack := 4, maxLocals := 2, code := jdk_38_method_25_code, exceptionTable := #[], attributes := #[] }
def k16m6 : Method := { name := "add", desc := "(Ljava/lang/Object;)Z", sig := { parameters := [(.object "java/lang/Object")], returnType := some .boolean }, accessFlags := 1, code := some k16c6 }
/-- java/util/ArrayList -/
def k16 : Class := { plain "java/util/ArrayList" (some 12) with
  accessFlags := 33
  interfaces := #[11, 13, 14, 15]
  cf := some (fileOf pool16 10 #[.nestMembers #[290, 276, 500, 502, 262, 267]] #[{ accessFlags := 1, nameIndex := 5, descriptorIndex := 6, attributes := #[] }, { accessFlags := 2, nameIndex := 71, descriptorIndex := 72, attributes := #[] }, { accessFlags := 2, nameIndex := 71, descriptorIndex := 47, attributes := #[] }, { accessFlags := 0, nameIndex := 13, descriptorIndex := 125, attributes := #[] }, { accessFlags := 1, nameIndex := 381, descriptorIndex := 125, attributes := #[] }, { accessFlags := 2, nameIndex := 133, descriptorIndex := 134, attributes := #[] }, { accessFlags := 1, nameIndex := 133, descriptorIndex := 96, attributes := #[] }] 33 2 #[148, 329, 331, 333] #[{ accessFlags := 26, nameIndex := 335, descriptorIndex := 336, attributes := #[] }, { accessFlags := 26, nameIndex := 340, descriptorIndex := 51, attributes := #[] }, { accessFlags := 26, nameIndex := 17, descriptorIndex := 14, attributes := #[] }, { accessFlags := 26, nameIndex := 41, descriptorIndex := 14, attributes := #[] }, { accessFlags := 128, nameIndex := 13, descriptorIndex := 14, attributes := #[] }, { accessFlags := 2, nameIndex := 50, descriptorIndex := 51, attributes := #[] }])
  fields := #[{ name := "serialVersionUID", type := .long, accessFlags := 26, slot := 0, constantValue := 0 }, { name := "DEFAULT_CAPACITY", type := .int, accessFlags := 26, slot := 1, constantValue := 0 }, { name := "EMPTY_ELEMENTDATA", type := (.array (.object "java/lang/Object")), accessFlags := 26, slot := 2, constantValue := 0 }, { name := "DEFAULTCAPACITY_EMPTY_ELEMENTDATA", type := (.array (.object "java/lang/Object")), accessFlags := 26, slot := 3, constantValue := 0 }, { name := "elementData", type := (.array (.object "java/lang/Object")), accessFlags := 128, slot := 1, constantValue := 0 }, { name := "size", type := .int, accessFlags := 2, slot := 2, constantValue := 0 }]
  methods := #[k16m0, k16m1, k16m2, k16m3, k16m4, k16m5, k16m6]
  instanceTypes := #[.int, (.array (.object "java/lang/Object")), .int]
  staticTypes := #[.long, .int, (.array (.object "java/lang/Object")), (.array (.object "java/lang/Object"))]
  resolved := Array.replicate 509 none
  statics := some 1 }

def pool17 : Array CpInfo := pool [(2, .class_ 4), (1, u "java/lang/Object"), (0, u "<init>"), (0, u "()V"), (7, .class_ 16), (1, u "java/util/Arrays"), (57, .class_ 76), (1, u "java/util/Arrays$NaturalOrder"), (36, .class_ 115), (1, u "java/util/Arrays$LegacyMergeSort"), (1, u "Z"), (32, .methodref 151 152), (0, .class_ 153), (0, .nameAndType 154 155), (0, u "java/lang/System"), (0, u "arraycopy"), (0, u "(Ljava/lang/Object;ILjava/lang/Object;II)V"), (146, u "copyOf"), (1, .methodref 305 306), (0, .class_ 307), (0, .nameAndType 308 309), (0, u "java/lang/Math"), (0, u "min"), (0, u "(II)I"), (65, .class_ 376), (0, u "java/util/Arrays$ArrayList"), (68, u "$assertionsDisabled"), (269, u "MIN_ARRAY_SORT_GRAN"), (0, u "I"), (2, u "INSERTIONSORT_THRESHOLD"), (152, u "([JI)[J"), (102, .class_ 976), (0, u "java/util/Arrays$ArrayItr")] 52

def k17m0 : Method := { name := "<init>", desc := "()V", sig := { parameters := [], returnType := none }, accessFlags := 2, code := none }
def k17c1 : Code := { maxStack := 6, maxLocals := 3, code := jdk_65_method_124_code, exceptionTable := #[], attributes := #[] }
def k17m1 : Method := { name := "copyOf", desc := "([JI)[J", sig := { parameters := [(.array .long), .int], returnType := some (.array .long) }, accessFlags := 9, code := some k17c1 }
/-- java/util/Arrays -/
def k17 : Class := { plain "java/util/Arrays" (some 0) with
  accessFlags := 49
  interfaces := #[]
  cf := some (fileOf pool17 14 #[.nestMembers #[975, 375, 113, 74]] #[{ accessFlags := 2, nameIndex := 5, descriptorIndex := 6, attributes := #[] }, { accessFlags := 9, nameIndex := 302, descriptorIndex := 872, attributes := #[] }] 49 2 #[] #[{ accessFlags := 26, nameIndex := 715, descriptorIndex := 716, attributes := #[] }, { accessFlags := 26, nameIndex := 719, descriptorIndex := 716, attributes := #[] }, { accessFlags := 4120, nameIndex := 445, descriptorIndex := 117, attributes := #[] }])
  fields := #[{ name := "MIN_ARRAY_SORT_GRAN", type := .int, accessFlags := 26, slot := 0, constantValue := 0 }, { name := "INSERTIONSORT_THRESHOLD", type := .int, accessFlags := 26, slot := 1, constantValue := 0 }, { name := "$assertionsDisabled", type := .boolean, accessFlags := 4120, slot := 2, constantValue := 0 }]
  methods := #[k17m0, k17m1]
  instanceTypes := #[]
  staticTypes := #[.int, .int, .boolean]
  resolved := Array.replicate 1029 none
  statics := none }

def pool18 : Array CpInfo := pool [(2, .class_ 4), (1, u "java/lang/Object"), (0, u "<init>"), (0, u "()V"), (1, .class_ 10), (1, u "java/lang/System"), (0, u "allowSecurityManager"), (0, u "I"), (16, u "cons"), (0, u "Ljava/io/Console;"), (77, .class_ 110), (1, u "java/lang/System$CallersHolder"), (43, u "initialErrStream"), (0, u "Ljava/io/PrintStream;"), (19, u "security"), (0, u "Ljava/lang/SecurityManager;"), (31, .class_ 209), (0, u "java/lang/System$1"), (7, u "props"), (0, u "Ljava/util/Properties;"), (2, u "lineSeparator"), (0, u "Ljava/lang/String;"), (96, .class_ 321), (1, u "java/lang/System$LoggerFinder"), (5, .class_ 328), (0, u "java/lang/System$Logger"), (67, u "err"), (2, u "out"), (91, u "notSupportedJnuEncoding"), (15, u "in"), (17, u "initialIn"), (0, u "Ljava/io/InputStream;"), (35, u "bootLayer"), (0, u "Ljava/lang/ModuleLayer;"), (99, .class_ 664), (0, u "java/lang/System$2"), (9, u "NEVER"), (2, u "MAYBE"), (49, u "arraycopy"), (0, u "(Ljava/lang/Object;ILjava/lang/Object;II)V"), (72, .class_ 802), (0, u "java/lang/System$Logger$Level")] 31

def k18m0 : Method := { name := "<init>", desc := "()V", sig := { parameters := [], returnType := none }, accessFlags := 2, code := none }
def k18m1 : Method := { name := "arraycopy", desc := "(Ljava/lang/Object;ILjava/lang/Object;II)V", sig := { parameters := [(.object "java/lang/Object"), .int, (.object "java/lang/Object"), .int, .int], returnType := none }, accessFlags := 265, code := none }
/-- java/lang/System -/
def k18 : Class := { plain "java/lang/System" (some 0) with
  accessFlags := 49
  interfaces := #[]
  cf := some (fileOf pool18 8 #[.nestMembers #[319, 327, 801, 108, 663, 208]] #[{ accessFlags := 2, nameIndex := 5, descriptorIndex := 6, attributes := #[] }, { accessFlags := 265, nameIndex := 727, descriptorIndex := 728, attributes := #[] }] 49 2 #[] #[{ accessFlags := 25, nameIndex := 507, descriptorIndex := 526, attributes := #[] }, { accessFlags := 25, nameIndex := 399, descriptorIndex := 155, attributes := #[] }, { accessFlags := 25, nameIndex := 396, descriptorIndex := 155, attributes := #[] }, { accessFlags := 10, nameIndex := 525, descriptorIndex := 526, attributes := #[] }, { accessFlags := 26, nameIndex := 674, descriptorIndex := 12, attributes := #[] }, { accessFlags := 26, nameIndex := 677, descriptorIndex := 12, attributes := #[] }, { accessFlags := 10, nameIndex := 11, descriptorIndex := 12, attributes := #[] }, { accessFlags := 74, nameIndex := 175, descriptorIndex := 176, attributes := #[] }, { accessFlags := 10, nameIndex := 491, descriptorIndex := 222, attributes := #[] }, { accessFlags := 74, nameIndex := 29, descriptorIndex := 30, attributes := #[] }, { accessFlags := 74, nameIndex := 154, descriptorIndex := 155, attributes := #[] }, { accessFlags := 10, nameIndex := 217, descriptorIndex := 218, attributes := #[] }, { accessFlags := 10, nameIndex := 221, descriptorIndex := 222, attributes := #[] }, { accessFlags := 8, nameIndex := 562, descriptorIndex := 563, attributes := #[] }])
  fields := #[{ name := "in", type := (.object "java/io/InputStream"), accessFlags := 25, slot := 0, constantValue := 0 }, { name := "out", type := (.object "java/io/PrintStream"), accessFlags := 25, slot := 1, constantValue := 0 }, { name := "err", type := (.object "java/io/PrintStream"), accessFlags := 25, slot := 2, constantValue := 0 }, { name := "initialIn", type := (.object "java/io/InputStream"), accessFlags := 10, slot := 3, constantValue := 0 }, { name := "NEVER", type := .int, accessFlags := 26, slot := 4, constantValue := 0 }, { name := "MAYBE", type := .int, accessFlags := 26, slot := 5, constantValue := 0 }, { name := "allowSecurityManager", type := .int, accessFlags := 10, slot := 6, constantValue := 0 }, { name := "security", type := (.object "java/lang/SecurityManager"), accessFlags := 74, slot := 7, constantValue := 0 }, { name := "notSupportedJnuEncoding", type := (.object "java/lang/String"), accessFlags := 10, slot := 8, constantValue := 0 }, { name := "cons", type := (.object "java/io/Console"), accessFlags := 74, slot := 9, constantValue := 0 }, { name := "initialErrStream", type := (.object "java/io/PrintStream"), accessFlags := 74, slot := 10, constantValue := 0 }, { name := "props", type := (.object "java/util/Properties"), accessFlags := 10, slot := 11, constantValue := 0 }, { name := "lineSeparator", type := (.object "java/lang/String"), accessFlags := 10, slot := 12, constantValue := 0 }, { name := "bootLayer", type := (.object "java/lang/ModuleLayer"), accessFlags := 8, slot := 13, constantValue := 0 }]
  methods := #[k18m0, k18m1]
  instanceTypes := #[]
  staticTypes := #[(.object "java/io/InputStream"), (.object "java/io/PrintStream"), (.object "java/io/PrintStream"), (.object "java/io/InputStream"), .int, .int, .int, (.object "java/lang/SecurityManager"), (.object "java/lang/String"), (.object "java/io/Console"), (.object "java/io/PrintStream"), (.object "java/util/Properties"), (.object "java/lang/String"), (.object "java/lang/ModuleLayer")]
  resolved := Array.replicate 834 none
  statics := none }

def pool19 : Array CpInfo := pool [(1, .methodref 2 3), (0, .class_ 4), (0, .nameAndType 5 6), (0, u "java/lang/Record"), (0, u "<init>"), (0, u "()V"), (9, .fieldref 17 18), (0, .class_ 19), (0, .nameAndType 20 21), (0, u "com/example/resync/resync/model/DamagedSpan"), (0, u "offset"), (0, u "J"), (0, .fieldref 17 23), (0, .nameAndType 24 21), (0, u "length"), (12, .class_ 38), (0, u "com/example/resync/resync/model/LogEntry"), (0, u "(JJ)V"), (5, u "()J")] 32

def k19c0 : Code := { maxStack := 6, maxLocals := 5, code := prog_65_method_1_code, exceptionTable := #[], attributes := #[] }
def k19m0 : Method := { name := "<init>", desc := "(JJ)V", sig := { parameters := [.long, .long], returnType := none }, accessFlags := 1, code := some k19c0 }
def k19c1 : Code := { maxStack := 2, maxLocals := 1, code := prog_65_method_6_code, exceptionTable := #[], attributes := #[] }
def k19m1 : Method := { name := "offset", desc := "()J", sig := { parameters := [], returnType := some .long }, accessFlags := 1, code := some k19c1 }
def k19c2 : Code := { maxStack := 2, maxLocals := 1, code := prog_65_method_7_code, exceptionTable := #[], attributes := #[] }
def k19m2 : Method := { name := "length", desc := "()J", sig := { parameters := [], returnType := some .long }, accessFlags := 1, code := some k19c2 }
/-- com/example/resync/resync/model/DamagedSpan -/
def k19 : Class := { plain "com/example/resync/resync/model/DamagedSpan" (some 3) with
  accessFlags := 49
  interfaces := #[4]
  cf := some (fileOf pool19 17 #[] #[{ accessFlags := 1, nameIndex := 5, descriptorIndex := 39, attributes := #[] }, { accessFlags := 1, nameIndex := 20, descriptorIndex := 45, attributes := #[] }, { accessFlags := 1, nameIndex := 24, descriptorIndex := 45, attributes := #[] }] 49 2 #[37] #[{ accessFlags := 18, nameIndex := 20, descriptorIndex := 21, attributes := #[] }, { accessFlags := 18, nameIndex := 24, descriptorIndex := 21, attributes := #[] }])
  fields := #[{ name := "offset", type := .long, accessFlags := 18, slot := 0, constantValue := 0 }, { name := "length", type := .long, accessFlags := 18, slot := 1, constantValue := 0 }]
  methods := #[k19m0, k19m1, k19m2]
  instanceTypes := #[.long, .long]
  staticTypes := #[]
  resolved := Array.replicate 78 none
  statics := none }

def pool20 : Array CpInfo := pool [(2, .class_ 4), (1, u "java/lang/Object"), (0, u "<init>"), (0, u "()V"), (35, .class_ 44), (1, u "java/util/Objects"), (60, .methodref 106 107), (0, .class_ 108), (0, .nameAndType 109 110), (0, u "jdk/internal/util/Preconditions"), (0, u "checkIndex"), (0, u "(IILjava/util/function/BiFunction;)I"), (60, u "(II)I")] 12

def k20m0 : Method := { name := "<init>", desc := "()V", sig := { parameters := [], returnType := none }, accessFlags := 2, code := none }
def k20c1 : Code := { maxStack := 3, maxLocals := 2, code := jdk_31_method_17_code, exceptionTable := #[], attributes := #[] }
def k20m1 : Method := { name := "checkIndex", desc := "(II)I", sig := { parameters := [.int, .int], returnType := some .int }, accessFlags := 9, code := some k20c1 }
/-- java/util/Objects -/
def k20 : Class := { plain "java/util/Objects" (some 0) with
  accessFlags := 49
  interfaces := #[]
  cf := some (fileOf pool20 42 #[] #[{ accessFlags := 2, nameIndex := 5, descriptorIndex := 6, attributes := #[] }, { accessFlags := 9, nameIndex := 109, descriptorIndex := 171, attributes := #[] }] 49 2 #[] #[])
  fields := #[]
  methods := #[k20m0, k20m1]
  instanceTypes := #[]
  staticTypes := #[]
  resolved := Array.replicate 184 none
  statics := none }

def pool21 : Array CpInfo := pool [(2, .class_ 4), (1, u "java/lang/Object"), (0, u "<init>"), (0, u "()V"), (17, .class_ 26), (1, u "jdk/internal/util/Preconditions"), (6, u "checkIndex"), (21, .class_ 56), (0, u "jdk/internal/util/Preconditions$4"), (57, .class_ 115), (0, u "jdk/internal/util/Preconditions$1"), (7, u "SIOOBE_FORMATTER"), (0, u "Ljava/util/function/BiFunction;"), (0, .class_ 126), (0, u "jdk/internal/util/Preconditions$2"), (3, u "AIOOBE_FORMATTER"), (0, .class_ 132), (0, u "jdk/internal/util/Preconditions$3"), (3, u "IOOBE_FORMATTER"), (41, u "(IILjava/util/function/BiFunction;)I")] 15

def k21m0 : Method := { name := "<init>", desc := "()V", sig := { parameters := [], returnType := none }, accessFlags := 1, code := none }
def k21c1 : Code := { maxStack := 3, maxLocals := 3, code := jdk_41_method_11_code, exceptionTable := #[], attributes := #[] }
def k21m1 : Method := { name := "checkIndex", desc := "(IILjava/util/function/BiFunction;)I", sig := { parameters := [.int, .int, (.object "java/util/function/BiFunction")], returnType := some .int }, accessFlags := 9, code := some k21c1 }
/-- jdk/internal/util/Preconditions -/
def k21 : Class := { plain "jdk/internal/util/Preconditions" (some 0) with
  accessFlags := 33
  interfaces := #[]
  cf := some (fileOf pool21 24 #[.nestMembers #[55, 131, 125, 114]] #[{ accessFlags := 1, nameIndex := 5, descriptorIndex := 6, attributes := #[] }, { accessFlags := 9, nameIndex := 33, descriptorIndex := 178, attributes := #[] }] 33 2 #[] #[{ accessFlags := 25, nameIndex := 123, descriptorIndex := 124, attributes := #[] }, { accessFlags := 25, nameIndex := 130, descriptorIndex := 124, attributes := #[] }, { accessFlags := 25, nameIndex := 136, descriptorIndex := 124, attributes := #[] }])
  fields := #[{ name := "SIOOBE_FORMATTER", type := (.object "java/util/function/BiFunction"), accessFlags := 25, slot := 0, constantValue := 0 }, { name := "AIOOBE_FORMATTER", type := (.object "java/util/function/BiFunction"), accessFlags := 25, slot := 1, constantValue := 0 }, { name := "IOOBE_FORMATTER", type := (.object "java/util/function/BiFunction"), accessFlags := 25, slot := 2, constantValue := 0 }]
  methods := #[k21m0, k21m1]
  instanceTypes := #[]
  staticTypes := #[(.object "java/util/function/BiFunction"), (.object "java/util/function/BiFunction"), (.object "java/util/function/BiFunction")]
  resolved := Array.replicate 194 none
  statics := none }

/-- the primitive byte -/
def k22 : Class := { plain "byte" none with kind := .primitive 'B', accessFlags := 0x411 }
/-- [B -/
def k23 : Class := { plain "[B" (some 0) with kind := .array 22 .byte, interfaces := #[14, 15], accessFlags := 1041 }

/-- the primitive int -/
def k24 : Class := { plain "int" none with kind := .primitive 'I', accessFlags := 0x411 }
/-- [I -/
def k25 : Class := { plain "[I" (some 0) with kind := .array 24 .int, interfaces := #[14, 15], accessFlags := 1041 }

/-- the primitive long -/
def k26 : Class := { plain "long" none with kind := .primitive 'J', accessFlags := 0x411 }
/-- [J -/
def k27 : Class := { plain "[J" (some 0) with kind := .array 26 .long, interfaces := #[14, 15], accessFlags := 1041 }

/-- [Lcom/example/resync/resync/model/LogRecord; -/
def k28 : Class := { plain "[Lcom/example/resync/resync/model/LogRecord;" (some 0) with kind := .array 5 (.object "com/example/resync/resync/model/LogRecord"), interfaces := #[14, 15], accessFlags := 1041 }

/-- [Ljava/lang/Object; -/
def k29 : Class := { plain "[Ljava/lang/Object;" (some 0) with kind := .array 0 (.object "java/lang/Object"), interfaces := #[14, 15], accessFlags := 1041 }

def heap : Heap := #[{ cls := 6, slots := #[.int 0, .int 0, .int 0, .ref 2, .ref 3], vm := .statics 6 },
  { cls := 16, slots := #[.long 0, .int 0, .ref 4, .ref 5], vm := .statics 16 },
  { cls := 23, slots := #[], vm := .none },
  { cls := 27, slots := #[], vm := .none },
  { cls := 29, slots := #[], vm := .none },
  { cls := 29, slots := #[], vm := .none }]
def classes : Array Class := #[k0, k1, k2, k3, k4, k5, k6, k7, k8, k9, k10, k11, k12, k13, k14, k15, k16, k17, k18, k19, k20, k21, k22, k23, k24, k25, k26, k27, k28, k29]
def interned : List (Array UInt16 × Addr) := []
def slotsUsed : Nat := 9
def theMethod : MethodId := ⟨1, 5⟩
def args0 : Array Value := #[.int 5, .int 2, .int 1, .long 3, .long 4]
def aboutOver (below : List Frame) : State where
  vm := { classes := classes, interned := interned.toArray }
  heap := heap
  slotsUsed := slotsUsed
  threads := #[{ frames := .invoking theMethod args0 :: below }]
def below0 : List Frame := [.native { method := ⟨0, 0⟩, args := #[] }]
def about1 : State := aboutOver below0
def p0 : Program := .bare "" "" ""
def e0 : Env := launch0.env 0 0 0
theorem w_frames : about1.frames = Frame.invoking theMethod args0 :: below0 := rfl
set_option maxRecDepth 65536 in
theorem w_args : argsFit about1.vm theMethod args0 = true := by decide +kernel
set_option maxRecDepth 65536 in
theorem w_heap : heapFits about1 = true := by decide +kernel
set_option maxRecDepth 65536 in
theorem w_runnable : about1.curStatus? = some .runnable := by decide +kernel
set_option maxRecDepth 65536 in
theorem w_alone : about1.alone = true := by decide +kernel
set_option maxRecDepth 65536 in
theorem w_named : about1.methodNamed? x = some theMethod := by decide +kernel
set_option maxRecDepth 65536 in
theorem w_hears : about1.hears theMethod below0 = true := by decide +kernel
set_option maxRecDepth 65536 in
theorem w_ripe : about1.ripe theMethod args0 below0 = true := by decide +kernel
theorem w_running : about1.status = .running := rfl
set_option maxRecDepth 65536 in
theorem w_room : about1.hasRoom e0.platform room_1 = true :=
  launch0.hasRoom_least _ room_1 (by decide +kernel) (by decide +kernel) (by decide +kernel) (by decide +kernel) (by decide +kernel) (by decide +kernel)
theorem allAtoms_all (ts : List Jvm.Cond) (a : Array Jvm.Value) (st : Jvm.State) : (allAtoms ts).before a st = ts.all (fun c => c.before a st) := by
  induction ts with
  | nil => rfl
  | cons c t ih =>
    show (Jvm.Cond.and c (allAtoms t)).before a st = _
    rw [Jvm.Cond.before_and, ih, List.all_cons]
def words1 : List Jvm.Cond := Jvm.Cond.code x code maxLocals ret :: tables_1
/-- a 'code' word, met by the world's own term for the bytes: nothing is compared byte by byte -/
theorem code_word {y : MethodName} {bytes : ByteArray} {mx : Nat} {rt : Option FieldType} {a : Array Value} {s : State} {m : MethodId} {meth : Method} {c : Code} (h1 : s.methodNamed? y = some m) (h2 : s.vm.method? m = some meth) (h3 : meth.code = some c) (h4 : c.code = bytes)
    (h5 : (c.maxLocals == mx && c.exceptionTable.isEmpty && decide (c.maxStack ≤ mostOperands) && decide (meth.sig.returnType = rt) && !meth.locks && decide (parseMethodDescriptor y.desc = some meth.sig)) = true) : (Jvm.Cond.code y bytes mx rt).before a s = true := by
  simp only [Bool.and_eq_true, beq_iff_eq, Bool.not_eq_true', decide_eq_true_eq] at h5
  obtain ⟨⟨⟨⟨⟨g1, g2⟩, g3⟩, g4⟩, g5⟩, g6⟩ := h5
  simp [Cond.before, Cond.holds, Cond.value, h1, h2, h3, h4, g1, g2, g3, g4, g5, g6]
def isCode : Jvm.Cond → Bool
  | .code _ _ _ _ => true
  | _ => false
theorem all_split {L : List Jvm.Cond} {P : Jvm.Cond → Bool} (h1 : L.all (fun c => isCode c || P c) = true) (h2 : ∀ c ∈ L.filter isCode, P c = true) : L.all P = true := by
  refine List.all_eq_true.mpr fun c hc => ?_
  have h := List.all_eq_true.mp h1 c hc
  rcases Bool.eq_false_or_eq_true (isCode c) with hi | hi
  · exact h2 c (List.mem_filter.mpr ⟨hc, hi⟩)
  · simpa [hi] using h
set_option maxRecDepth 65536 in
theorem w_c0 : (Jvm.Cond.code x code maxLocals ret).before args0 about1 = true := code_word (m := ⟨1, 5⟩) (meth := k1m5) (c := k1c5) (by decide +kernel) rfl rfl rfl (by decide +kernel)
set_option maxRecDepth 65536 in
theorem w_c1 : (Jvm.Cond.code ({ cls := "java/lang/Math", name := "max", desc := "(JJ)J" } : Jvm.MethodName) jdk_29_method_66_code (4 : Nat) (Option.some Jvm.ClassFile.FieldType.long)).before args0 about1 = true := code_word (m := ⟨2, 2⟩) (meth := k2m2) (c := k2c2) (by decide +kernel) rfl rfl rfl (by decide +kernel)
set_option maxRecDepth 65536 in
theorem w_c2 : (Jvm.Cond.code ({ cls := "com/example/resync/resync/model/LogRecord", name := "<init>", desc := "(JJ[B)V" } : Jvm.MethodName) prog_67_method_1_code (6 : Nat) (Option.none : Option Jvm.ClassFile.FieldType)).before args0 about1 = true := code_word (m := ⟨5, 0⟩) (meth := k5m0) (c := k5c0) (by decide +kernel) rfl rfl rfl (by decide +kernel)
set_option maxRecDepth 65536 in
theorem w_c3 : (Jvm.Cond.code ({ cls := "java/lang/Record", name := "<init>", desc := "()V" } : Jvm.MethodName) jdk_30_method_1_code (1 : Nat) (Option.none : Option Jvm.ClassFile.FieldType)).before args0 about1 = true := code_word (m := ⟨3, 0⟩) (meth := k3m0) (c := k3c0) (by decide +kernel) rfl rfl rfl (by decide +kernel)
set_option maxRecDepth 65536 in
theorem w_c4 : (Jvm.Cond.code ({ cls := "java/lang/Object", name := "<init>", desc := "()V" } : Jvm.MethodName) object_method_1_code (1 : Nat) (Option.none : Option Jvm.ClassFile.FieldType)).before args0 about1 = true := code_word (m := ⟨0, 0⟩) (meth := k0m0) (c := k0c0) (by decide +kernel) rfl rfl rfl (by decide +kernel)
set_option maxRecDepth 65536 in
theorem w_c5 : (Jvm.Cond.code ({ cls := "com/example/resync/resync/io/EntryBatch", name := "<init>", desc := "(I)V" } : Jvm.MethodName) prog_47_method_2_code (2 : Nat) (Option.none : Option Jvm.ClassFile.FieldType)).before args0 about1 = true := code_word (m := ⟨6, 1⟩) (meth := k6m1) (c := k6c1) (by decide +kernel) rfl rfl rfl (by decide +kernel)
set_option maxRecDepth 65536 in
theorem w_c6 : (Jvm.Cond.code ({ cls := "java/util/ArrayList", name := "<init>", desc := "()V" } : Jvm.MethodName) jdk_38_method_2_code (1 : Nat) (Option.none : Option Jvm.ClassFile.FieldType)).before args0 about1 = true := code_word (m := ⟨16, 0⟩) (meth := k16m0) (c := k16c0) (by decide +kernel) rfl rfl rfl (by decide +kernel)
set_option maxRecDepth 65536 in
theorem w_c7 : (Jvm.Cond.code ({ cls := "java/util/AbstractList", name := "<init>", desc := "()V" } : Jvm.MethodName) jdk_39_method_1_code (1 : Nat) (Option.none : Option Jvm.ClassFile.FieldType)).before args0 about1 = true := code_word (m := ⟨12, 0⟩) (meth := k12m0) (c := k12c0) (by decide +kernel) rfl rfl rfl (by decide +kernel)
set_option maxRecDepth 65536 in
theorem w_c8 : (Jvm.Cond.code ({ cls := "java/util/AbstractCollection", name := "<init>", desc := "()V" } : Jvm.MethodName) jdk_22_method_1_code (1 : Nat) (Option.none : Option Jvm.ClassFile.FieldType)).before args0 about1 = true := code_word (m := ⟨9, 0⟩) (meth := k9m0) (c := k9c0) (by decide +kernel) rfl rfl rfl (by decide +kernel)
set_option maxRecDepth 65536 in
theorem w_c9 : (Jvm.Cond.code ({ cls := "java/lang/Math", name := "min", desc := "(II)I" } : Jvm.MethodName) jdk_29_method_69_code (2 : Nat) (Option.some Jvm.ClassFile.FieldType.int)).before args0 about1 = true := code_word (m := ⟨2, 3⟩) (meth := k2m3) (c := k2c3) (by decide +kernel) rfl rfl rfl (by decide +kernel)
set_option maxRecDepth 65536 in
theorem w_c10 : (Jvm.Cond.code ({ cls := "com/example/resync/resync/io/EntryBatchSkipRecordsPinLaw", name := "add", desc := "(Lcom/example/resync/resync/io/EntryBatch;IILcom/example/resync/resync/model/LogRecord;JJ)V" } : Jvm.MethodName) method_4_code (8 : Nat) (Option.none : Option Jvm.ClassFile.FieldType)).before args0 about1 = true := code_word (m := ⟨1, 3⟩) (meth := k1m3) (c := k1c3) (by decide +kernel) rfl rfl rfl (by decide +kernel)
set_option maxRecDepth 65536 in
theorem w_c11 : (Jvm.Cond.code ({ cls := "com/example/resync/resync/io/EntryBatchSkipRecordsPinLaw", name := "isSpan", desc := "(II)Z" } : Jvm.MethodName) method_2_code (2 : Nat) (Option.some Jvm.ClassFile.FieldType.boolean)).before args0 about1 = true := code_word (m := ⟨1, 1⟩) (meth := k1m1) (c := k1c1) (by decide +kernel) rfl rfl rfl (by decide +kernel)
set_option maxRecDepth 65536 in
theorem w_c12 : (Jvm.Cond.code ({ cls := "com/example/resync/resync/io/EntryBatchSkipRecordsPinLaw", name := "spanOffset", desc := "(JI)J" } : Jvm.MethodName) method_3_code (3 : Nat) (Option.some Jvm.ClassFile.FieldType.long)).before args0 about1 = true := code_word (m := ⟨1, 2⟩) (meth := k1m2) (c := k1c2) (by decide +kernel) rfl rfl rfl (by decide +kernel)
set_option maxRecDepth 65536 in
theorem w_c13 : (Jvm.Cond.code ({ cls := "com/example/resync/resync/io/EntryBatch", name := "addSpan", desc := "(JJ)V" } : Jvm.MethodName) prog_47_method_5_code (5 : Nat) (Option.none : Option Jvm.ClassFile.FieldType)).before args0 about1 = true := code_word (m := ⟨6, 3⟩) (meth := k6m3) (c := k6c3) (by decide +kernel) rfl rfl rfl (by decide +kernel)
set_option maxRecDepth 65536 in
theorem w_c14 : (Jvm.Cond.code ({ cls := "com/example/resync/resync/io/EntryBatch", name := "append", desc := "(JJ)V" } : Jvm.MethodName) prog_47_method_15_code (6 : Nat) (Option.none : Option Jvm.ClassFile.FieldType)).before args0 about1 = true := code_word (m := ⟨6, 6⟩) (meth := k6m6) (c := k6c6) (by decide +kernel) rfl rfl rfl (by decide +kernel)
set_option maxRecDepth 65536 in
theorem w_c15 : (Jvm.Cond.code ({ cls := "com/example/resync/resync/io/EntryBatch", name := "grown", desc := "(IJJ)I" } : Jvm.MethodName) prog_47_method_16_code (7 : Nat) (Option.some Jvm.ClassFile.FieldType.int)).before args0 about1 = true := code_word (m := ⟨6, 7⟩) (meth := k6m7) (c := k6c7) (by decide +kernel) rfl rfl rfl (by decide +kernel)
set_option maxRecDepth 65536 in
theorem w_c16 : (Jvm.Cond.code ({ cls := "java/lang/Math", name := "min", desc := "(JJ)J" } : Jvm.MethodName) jdk_29_method_70_code (4 : Nat) (Option.some Jvm.ClassFile.FieldType.long)).before args0 about1 = true := code_word (m := ⟨2, 4⟩) (meth := k2m4) (c := k2c4) (by decide +kernel) rfl rfl rfl (by decide +kernel)
set_option maxRecDepth 65536 in
theorem w_c17 : (Jvm.Cond.code ({ cls := "java/util/Arrays", name := "copyOf", desc := "([JI)[J" } : Jvm.MethodName) jdk_65_method_124_code (3 : Nat) (Option.some (Jvm.ClassFile.FieldType.array Jvm.ClassFile.FieldType.long))).before args0 about1 = true := code_word (m := ⟨17, 1⟩) (meth := k17m1) (c := k17c1) (by decide +kernel) rfl rfl rfl (by decide +kernel)
set_option maxRecDepth 65536 in
theorem w_c18 : (Jvm.Cond.code ({ cls := "com/example/resync/resync/io/EntryBatch", name := "addRecord", desc := "(Lcom/example/resync/resync/model/LogRecord;)V" } : Jvm.MethodName) prog_47_method_4_code (2 : Nat) (Option.none : Option Jvm.ClassFile.FieldType)).before args0 about1 = true := code_word (m := ⟨6, 2⟩) (meth := k6m2) (c := k6c2) (by decide +kernel) rfl rfl rfl (by decide +kernel)
set_option maxRecDepth 65536 in
theorem w_c19 : (Jvm.Cond.code ({ cls := "java/util/ArrayList", name := "add", desc := "(Ljava/lang/Object;)Z" } : Jvm.MethodName) jdk_38_method_25_code (2 : Nat) (Option.some Jvm.ClassFile.FieldType.boolean)).before args0 about1 = true := code_word (m := ⟨16, 6⟩) (meth := k16m6) (c := k16c6) (by decide +kernel) rfl rfl rfl (by decide +kernel)
set_option maxRecDepth 65536 in
theorem w_c20 : (Jvm.Cond.code ({ cls := "java/util/ArrayList", name := "add", desc := "(Ljava/lang/Object;[Ljava/lang/Object;I)V" } : Jvm.MethodName) jdk_38_method_24_code (4 : Nat) (Option.none : Option Jvm.ClassFile.FieldType)).before args0 about1 = true := code_word (m := ⟨16, 5⟩) (meth := k16m5) (c := k16c5) (by decide +kernel) rfl rfl rfl (by decide +kernel)
set_option maxRecDepth 65536 in
theorem w_c21 : (Jvm.Cond.code ({ cls := "java/util/ArrayList", name := "grow", desc := "()[Ljava/lang/Object;" } : Jvm.MethodName) jdk_38_method_7_code (1 : Nat) (Option.some (Jvm.ClassFile.FieldType.array (Jvm.ClassFile.FieldType.object "java/lang/Object")))).before args0 about1 = true := code_word (m := ⟨16, 2⟩) (meth := k16m2) (c := k16c2) (by decide +kernel) rfl rfl rfl (by decide +kernel)
set_option maxRecDepth 65536 in
theorem w_c22 : (Jvm.Cond.code ({ cls := "java/util/ArrayList", name := "grow", desc := "(I)[Ljava/lang/Object;" } : Jvm.MethodName) jdk_38_method_6_code (4 : Nat) (Option.some (Jvm.ClassFile.FieldType.array (Jvm.ClassFile.FieldType.object "java/lang/Object")))).before args0 about1 = true := code_word (m := ⟨16, 1⟩) (meth := k16m1) (c := k16c1) (by decide +kernel) rfl rfl rfl (by decide +kernel)
set_option maxRecDepth 65536 in
theorem w_c23 : (Jvm.Cond.code ({ cls := "java/lang/Math", name := "max", desc := "(II)I" } : Jvm.MethodName) jdk_29_method_65_code (2 : Nat) (Option.some Jvm.ClassFile.FieldType.int)).before args0 about1 = true := code_word (m := ⟨2, 1⟩) (meth := k2m1) (c := k2c1) (by decide +kernel) rfl rfl rfl (by decide +kernel)
set_option maxRecDepth 65536 in
theorem w_c24 : (Jvm.Cond.code ({ cls := "com/example/resync/resync/model/LogRecord", name := "offset", desc := "()J" } : Jvm.MethodName) prog_67_method_5_code (1 : Nat) (Option.some Jvm.ClassFile.FieldType.long)).before args0 about1 = true := code_word (m := ⟨5, 1⟩) (meth := k5m1) (c := k5c1) (by decide +kernel) rfl rfl rfl (by decide +kernel)
set_option maxRecDepth 65536 in
theorem w_c25 : (Jvm.Cond.code ({ cls := "com/example/resync/resync/io/EntryBatch", name := "take", desc := "()Lcom/example/resync/resync/model/LogEntry;" } : Jvm.MethodName) prog_47_method_6_code (6 : Nat) (Option.some (Jvm.ClassFile.FieldType.object "com/example/resync/resync/model/LogEntry"))).before args0 about1 = true := code_word (m := ⟨6, 4⟩) (meth := k6m4) (c := k6c4) (by decide +kernel) rfl rfl rfl (by decide +kernel)
set_option maxRecDepth 65536 in
theorem w_c26 : (Jvm.Cond.code ({ cls := "com/example/resync/resync/model/DamagedSpan", name := "<init>", desc := "(JJ)V" } : Jvm.MethodName) prog_65_method_1_code (5 : Nat) (Option.none : Option Jvm.ClassFile.FieldType)).before args0 about1 = true := code_word (m := ⟨19, 0⟩) (meth := k19m0) (c := k19c0) (by decide +kernel) rfl rfl rfl (by decide +kernel)
set_option maxRecDepth 65536 in
theorem w_c27 : (Jvm.Cond.code ({ cls := "com/example/resync/resync/io/EntryBatchSkipRecordsPinLaw", name := "matches", desc := "(Ljava/lang/Object;II[Lcom/example/resync/resync/model/LogRecord;JJ)Z" } : Jvm.MethodName) method_5_code (9 : Nat) (Option.some Jvm.ClassFile.FieldType.boolean)).before args0 about1 = true := code_word (m := ⟨1, 4⟩) (meth := k1m4) (c := k1c4) (by decide +kernel) rfl rfl rfl (by decide +kernel)
set_option maxRecDepth 65536 in
theorem w_c28 : (Jvm.Cond.code ({ cls := "com/example/resync/resync/model/DamagedSpan", name := "offset", desc := "()J" } : Jvm.MethodName) prog_65_method_6_code (1 : Nat) (Option.some Jvm.ClassFile.FieldType.long)).before args0 about1 = true := code_word (m := ⟨19, 1⟩) (meth := k19m1) (c := k19c1) (by decide +kernel) rfl rfl rfl (by decide +kernel)
set_option maxRecDepth 65536 in
theorem w_c29 : (Jvm.Cond.code ({ cls := "com/example/resync/resync/model/DamagedSpan", name := "length", desc := "()J" } : Jvm.MethodName) prog_65_method_7_code (1 : Nat) (Option.some Jvm.ClassFile.FieldType.long)).before args0 about1 = true := code_word (m := ⟨19, 2⟩) (meth := k19m2) (c := k19c2) (by decide +kernel) rfl rfl rfl (by decide +kernel)
set_option maxRecDepth 65536 in
theorem w_c30 : (Jvm.Cond.code ({ cls := "com/example/resync/resync/io/EntryBatch", name := "skipRecords", desc := "()I" } : Jvm.MethodName) prog_47_method_7_code (2 : Nat) (Option.some Jvm.ClassFile.FieldType.int)).before args0 about1 = true := code_word (m := ⟨6, 5⟩) (meth := k6m5) (c := k6c5) (by decide +kernel) rfl rfl rfl (by decide +kernel)
set_option maxRecDepth 65536 in
theorem w_c31 : (Jvm.Cond.code ({ cls := "java/util/ArrayList", name := "get", desc := "(I)Ljava/lang/Object;" } : Jvm.MethodName) jdk_38_method_20_code (2 : Nat) (Option.some (Jvm.ClassFile.FieldType.object "java/lang/Object"))).before args0 about1 = true := code_word (m := ⟨16, 4⟩) (meth := k16m4) (c := k16c4) (by decide +kernel) rfl rfl rfl (by decide +kernel)
set_option maxRecDepth 65536 in
theorem w_c32 : (Jvm.Cond.code ({ cls := "java/util/Objects", name := "checkIndex", desc := "(II)I" } : Jvm.MethodName) jdk_31_method_17_code (2 : Nat) (Option.some Jvm.ClassFile.FieldType.int)).before args0 about1 = true := code_word (m := ⟨20, 1⟩) (meth := k20m1) (c := k20c1) (by decide +kernel) rfl rfl rfl (by decide +kernel)
set_option maxRecDepth 65536 in
theorem w_c33 : (Jvm.Cond.code ({ cls := "jdk/internal/util/Preconditions", name := "checkIndex", desc := "(IILjava/util/function/BiFunction;)I" } : Jvm.MethodName) jdk_41_method_11_code (3 : Nat) (Option.some Jvm.ClassFile.FieldType.int)).before args0 about1 = true := code_word (m := ⟨21, 1⟩) (meth := k21m1) (c := k21c1) (by decide +kernel) rfl rfl rfl (by decide +kernel)
set_option maxRecDepth 65536 in
theorem w_c34 : (Jvm.Cond.code ({ cls := "java/util/ArrayList", name := "elementData", desc := "(I)Ljava/lang/Object;" } : Jvm.MethodName) jdk_38_method_18_code (2 : Nat) (Option.some (Jvm.ClassFile.FieldType.object "java/lang/Object"))).before args0 about1 = true := code_word (m := ⟨16, 3⟩) (meth := k16m3) (c := k16c3) (by decide +kernel) rfl rfl rfl (by decide +kernel)
def codes1 : List Jvm.Cond := [Jvm.Cond.code x code maxLocals ret, Jvm.Cond.code ({ cls := "java/lang/Math", name := "max", desc := "(JJ)J" } : Jvm.MethodName) jdk_29_method_66_code (4 : Nat) (Option.some Jvm.ClassFile.FieldType.long), Jvm.Cond.code ({ cls := "com/example/resync/resync/model/LogRecord", name := "<init>", desc := "(JJ[B)V" } : Jvm.MethodName) prog_67_method_1_code (6 : Nat) (Option.none : Option Jvm.ClassFile.FieldType), Jvm.Cond.code ({ cls := "java/lang/Record", name := "<init>", desc := "()V" } : Jvm.MethodName) jdk_30_method_1_code (1 : Nat) (Option.none : Option Jvm.ClassFile.FieldType), Jvm.Cond.code ({ cls := "java/lang/Object", name := "<init>", desc := "()V" } : Jvm.MethodName) object_method_1_code (1 : Nat) (Option.none : Option Jvm.ClassFile.FieldType), Jvm.Cond.code ({ cls := "com/example/resync/resync/io/EntryBatch", name := "<init>", desc := "(I)V" } : Jvm.MethodName) prog_47_method_2_code (2 : Nat) (Option.none : Option Jvm.ClassFile.FieldType), Jvm.Cond.code ({ cls := "java/util/ArrayList", name := "<init>", desc := "()V" } : Jvm.MethodName) jdk_38_method_2_code (1 : Nat) (Option.none : Option Jvm.ClassFile.FieldType), Jvm.Cond.code ({ cls := "java/util/AbstractList", name := "<init>", desc := "()V" } : Jvm.MethodName) jdk_39_method_1_code (1 : Nat) (Option.none : Option Jvm.ClassFile.FieldType), Jvm.Cond.code ({ cls := "java/util/AbstractCollection", name := "<init>", desc := "()V" } : Jvm.MethodName) jdk_22_method_1_code (1 : Nat) (Option.none : Option Jvm.ClassFile.FieldType), Jvm.Cond.code ({ cls := "java/lang/Math", name := "min", desc := "(II)I" } : Jvm.MethodName) jdk_29_method_69_code (2 : Nat) (Option.some Jvm.ClassFile.FieldType.int), Jvm.Cond.code ({ cls := "com/example/resync/resync/io/EntryBatchSkipRecordsPinLaw", name := "add", desc := "(Lcom/example/resync/resync/io/EntryBatch;IILcom/example/resync/resync/model/LogRecord;JJ)V" } : Jvm.MethodName) method_4_code (8 : Nat) (Option.none : Option Jvm.ClassFile.FieldType), Jvm.Cond.code ({ cls := "com/example/resync/resync/io/EntryBatchSkipRecordsPinLaw", name := "isSpan", desc := "(II)Z" } : Jvm.MethodName) method_2_code (2 : Nat) (Option.some Jvm.ClassFile.FieldType.boolean), Jvm.Cond.code ({ cls := "com/example/resync/resync/io/EntryBatchSkipRecordsPinLaw", name := "spanOffset", desc := "(JI)J" } : Jvm.MethodName) method_3_code (3 : Nat) (Option.some Jvm.ClassFile.FieldType.long), Jvm.Cond.code ({ cls := "com/example/resync/resync/io/EntryBatch", name := "addSpan", desc := "(JJ)V" } : Jvm.MethodName) prog_47_method_5_code (5 : Nat) (Option.none : Option Jvm.ClassFile.FieldType), Jvm.Cond.code ({ cls := "com/example/resync/resync/io/EntryBatch", name := "append", desc := "(JJ)V" } : Jvm.MethodName) prog_47_method_15_code (6 : Nat) (Option.none : Option Jvm.ClassFile.FieldType), Jvm.Cond.code ({ cls := "com/example/resync/resync/io/EntryBatch", name := "grown", desc := "(IJJ)I" } : Jvm.MethodName) prog_47_method_16_code (7 : Nat) (Option.some Jvm.ClassFile.FieldType.int), Jvm.Cond.code ({ cls := "java/lang/Math", name := "min", desc := "(JJ)J" } : Jvm.MethodName) jdk_29_method_70_code (4 : Nat) (Option.some Jvm.ClassFile.FieldType.long), Jvm.Cond.code ({ cls := "java/util/Arrays", name := "copyOf", desc := "([JI)[J" } : Jvm.MethodName) jdk_65_method_124_code (3 : Nat) (Option.some (Jvm.ClassFile.FieldType.array Jvm.ClassFile.FieldType.long)), Jvm.Cond.code ({ cls := "com/example/resync/resync/io/EntryBatch", name := "addRecord", desc := "(Lcom/example/resync/resync/model/LogRecord;)V" } : Jvm.MethodName) prog_47_method_4_code (2 : Nat) (Option.none : Option Jvm.ClassFile.FieldType), Jvm.Cond.code ({ cls := "java/util/ArrayList", name := "add", desc := "(Ljava/lang/Object;)Z" } : Jvm.MethodName) jdk_38_method_25_code (2 : Nat) (Option.some Jvm.ClassFile.FieldType.boolean), Jvm.Cond.code ({ cls := "java/util/ArrayList", name := "add", desc := "(Ljava/lang/Object;[Ljava/lang/Object;I)V" } : Jvm.MethodName) jdk_38_method_24_code (4 : Nat) (Option.none : Option Jvm.ClassFile.FieldType), Jvm.Cond.code ({ cls := "java/util/ArrayList", name := "grow", desc := "()[Ljava/lang/Object;" } : Jvm.MethodName) jdk_38_method_7_code (1 : Nat) (Option.some (Jvm.ClassFile.FieldType.array (Jvm.ClassFile.FieldType.object "java/lang/Object"))), Jvm.Cond.code ({ cls := "java/util/ArrayList", name := "grow", desc := "(I)[Ljava/lang/Object;" } : Jvm.MethodName) jdk_38_method_6_code (4 : Nat) (Option.some (Jvm.ClassFile.FieldType.array (Jvm.ClassFile.FieldType.object "java/lang/Object"))), Jvm.Cond.code ({ cls := "java/lang/Math", name := "max", desc := "(II)I" } : Jvm.MethodName) jdk_29_method_65_code (2 : Nat) (Option.some Jvm.ClassFile.FieldType.int), Jvm.Cond.code ({ cls := "com/example/resync/resync/model/LogRecord", name := "offset", desc := "()J" } : Jvm.MethodName) prog_67_method_5_code (1 : Nat) (Option.some Jvm.ClassFile.FieldType.long), Jvm.Cond.code ({ cls := "com/example/resync/resync/io/EntryBatch", name := "take", desc := "()Lcom/example/resync/resync/model/LogEntry;" } : Jvm.MethodName) prog_47_method_6_code (6 : Nat) (Option.some (Jvm.ClassFile.FieldType.object "com/example/resync/resync/model/LogEntry")), Jvm.Cond.code ({ cls := "com/example/resync/resync/model/DamagedSpan", name := "<init>", desc := "(JJ)V" } : Jvm.MethodName) prog_65_method_1_code (5 : Nat) (Option.none : Option Jvm.ClassFile.FieldType), Jvm.Cond.code ({ cls := "com/example/resync/resync/io/EntryBatchSkipRecordsPinLaw", name := "matches", desc := "(Ljava/lang/Object;II[Lcom/example/resync/resync/model/LogRecord;JJ)Z" } : Jvm.MethodName) method_5_code (9 : Nat) (Option.some Jvm.ClassFile.FieldType.boolean), Jvm.Cond.code ({ cls := "com/example/resync/resync/model/DamagedSpan", name := "offset", desc := "()J" } : Jvm.MethodName) prog_65_method_6_code (1 : Nat) (Option.some Jvm.ClassFile.FieldType.long), Jvm.Cond.code ({ cls := "com/example/resync/resync/model/DamagedSpan", name := "length", desc := "()J" } : Jvm.MethodName) prog_65_method_7_code (1 : Nat) (Option.some Jvm.ClassFile.FieldType.long), Jvm.Cond.code ({ cls := "com/example/resync/resync/io/EntryBatch", name := "skipRecords", desc := "()I" } : Jvm.MethodName) prog_47_method_7_code (2 : Nat) (Option.some Jvm.ClassFile.FieldType.int), Jvm.Cond.code ({ cls := "java/util/ArrayList", name := "get", desc := "(I)Ljava/lang/Object;" } : Jvm.MethodName) jdk_38_method_20_code (2 : Nat) (Option.some (Jvm.ClassFile.FieldType.object "java/lang/Object")), Jvm.Cond.code ({ cls := "java/util/Objects", name := "checkIndex", desc := "(II)I" } : Jvm.MethodName) jdk_31_method_17_code (2 : Nat) (Option.some Jvm.ClassFile.FieldType.int), Jvm.Cond.code ({ cls := "jdk/internal/util/Preconditions", name := "checkIndex", desc := "(IILjava/util/function/BiFunction;)I" } : Jvm.MethodName) jdk_41_method_11_code (3 : Nat) (Option.some Jvm.ClassFile.FieldType.int), Jvm.Cond.code ({ cls := "java/util/ArrayList", name := "elementData", desc := "(I)Ljava/lang/Object;" } : Jvm.MethodName) jdk_38_method_18_code (2 : Nat) (Option.some (Jvm.ClassFile.FieldType.object "java/lang/Object"))]
set_option maxRecDepth 65536 in
theorem codes_eq : words1.filter isCode = codes1 := rfl
theorem w_codes : ∀ c ∈ words1.filter isCode, c.before args0 about1 = true := by
  rw [codes_eq]
  intro c hc
  simp only [codes1, List.mem_cons, List.not_mem_nil, or_false] at hc
  rcases hc with rfl | rfl | rfl | rfl | rfl | rfl | rfl | rfl | rfl | rfl | rfl | rfl | rfl | rfl | rfl | rfl | rfl | rfl | rfl | rfl | rfl | rfl | rfl | rfl | rfl | rfl | rfl | rfl | rfl | rfl | rfl | rfl | rfl | rfl | rfl
  · exact w_c0
  · exact w_c1
  · exact w_c2
  · exact w_c3
  · exact w_c4
  · exact w_c5
  · exact w_c6
  · exact w_c7
  · exact w_c8
  · exact w_c9
  · exact w_c10
  · exact w_c11
  · exact w_c12
  · exact w_c13
  · exact w_c14
  · exact w_c15
  · exact w_c16
  · exact w_c17
  · exact w_c18
  · exact w_c19
  · exact w_c20
  · exact w_c21
  · exact w_c22
  · exact w_c23
  · exact w_c24
  · exact w_c25
  · exact w_c26
  · exact w_c27
  · exact w_c28
  · exact w_c29
  · exact w_c30
  · exact w_c31
  · exact w_c32
  · exact w_c33
  · exact w_c34
set_option maxRecDepth 65536 in
theorem w_t1 : (words1.take 24).all (fun c => isCode c || c.before args0 about1) = true := by decide +kernel
set_option maxRecDepth 65536 in
theorem w_t2 : ((words1.drop 24).take 24).all (fun c => isCode c || c.before args0 about1) = true := by decide +kernel
set_option maxRecDepth 65536 in
theorem w_t3 : (((words1.drop 24).drop 24).take 24).all (fun c => isCode c || c.before args0 about1) = true := by decide +kernel
set_option maxRecDepth 65536 in
theorem w_t4 : ((((words1.drop 24).drop 24).drop 24).take 24).all (fun c => isCode c || c.before args0 about1) = true := by decide +kernel
set_option maxRecDepth 65536 in
theorem w_t5 : (((((words1.drop 24).drop 24).drop 24).drop 24).take 24).all (fun c => isCode c || c.before args0 about1) = true := by decide +kernel
set_option maxRecDepth 65536 in
theorem w_t6 : ((((((words1.drop 24).drop 24).drop 24).drop 24).drop 24).take 24).all (fun c => isCode c || c.before args0 about1) = true := by decide +kernel
set_option maxRecDepth 65536 in
theorem w_t7 : (((((((words1.drop 24).drop 24).drop 24).drop 24).drop 24).drop 24).take 24).all (fun c => isCode c || c.before args0 about1) = true := by decide +kernel
set_option maxRecDepth 65536 in
theorem w_t8 : ((((((((words1.drop 24).drop 24).drop 24).drop 24).drop 24).drop 24).drop 24).take 24).all (fun c => isCode c || c.before args0 about1) = true := by decide +kernel
set_option maxRecDepth 65536 in
theorem w_t9 : (((((((((words1.drop 24).drop 24).drop 24).drop 24).drop 24).drop 24).drop 24).drop 24).take 24).all (fun c => isCode c || c.before args0 about1) = true := by decide +kernel
set_option maxRecDepth 65536 in
theorem w_t10 : (((((((((words1.drop 24).drop 24).drop 24).drop 24).drop 24).drop 24).drop 24).drop 24).drop 24).all (fun c => isCode c || c.before args0 about1) = true := by decide +kernel
theorem w_tables : (allAtoms (Jvm.Cond.code x code maxLocals ret :: tables_1)).before args0 about1 = true := by
  rw [allAtoms_all]
  show words1.all (fun c => c.before args0 about1) = true
  refine all_split ?_ w_codes
  rw [← List.take_append_drop 24 words1, List.all_append, w_t1, ← List.take_append_drop 24 (words1.drop 24), List.all_append, w_t2, ← List.take_append_drop 24 ((words1.drop 24).drop 24), List.all_append, w_t3, ← List.take_append_drop 24 (((words1.drop 24).drop 24).drop 24), List.all_append, w_t4, ← List.take_append_drop 24 ((((words1.drop 24).drop 24).drop 24).drop 24), List.all_append, w_t5, ← List.take_append_drop 24 (((((words1.drop 24).drop 24).drop 24).drop 24).drop 24), List.all_append, w_t6, ← List.take_append_drop 24 ((((((words1.drop 24).drop 24).drop 24).drop 24).drop 24).drop 24), List.all_append, w_t7, ← List.take_append_drop 24 (((((((words1.drop 24).drop 24).drop 24).drop 24).drop 24).drop 24).drop 24), List.all_append, w_t8, ← List.take_append_drop 24 ((((((((words1.drop 24).drop 24).drop 24).drop 24).drop 24).drop 24).drop 24).drop 24), List.all_append, w_t9, w_t10]
  rfl
set_option maxRecDepth 65536 in
theorem w_rest : rest_1_c.before args0 about1 = true := by decide +kernel
set_option maxRecDepth 65536 in
theorem w_case : (Jvm.Cond.and given_1 narrow_1).before args0 about1 = true := by decide +kernel
theorem w_applies : (headSpec (Jvm.Cond.code x code maxLocals ret :: tables_1) room_1).applies x e0.platform about1 = true :=
  (Spec.applies_iff w_frames).mpr ⟨w_running, w_runnable, w_alone, w_named, w_hears, w_ripe, w_room, w_tables⟩
theorem atStart : AtStart classFile x code maxLocals ret World_1 tables_1 room_1 Calls_1 rest_1 Pre_1 launch0 p0 e0 about1 theMethod args0 below0 :=
  ⟨lists_1, trivial, launch0.admits_env _ _ _, launch0.least_env, fairChoices_fair.cas, fairChoices_fair.clock, w_frames, w_args, w_heap, w_applies, trivial, w_rest, w_case⟩
end start1
theorem witness_1 : WitnessClaimed_1 := ⟨start1.p0, start1.e0, start1.about1, start1.theMethod, start1.args0, start1.below0, start1.atStart⟩
end Jvm.Pilot.@@N@@
