import JvmDerived
import JvmDerived.Pilot.@@N@@Statement
import JvmDerived.Pilot.@@N@@Code
set_option linter.unusedVariables false
set_option linter.unusedSimpArgs false

namespace Jvm.Pilot.@@N@@
open Jvm Jvm.ClassFile Sem Op Lib Jvm.Free Jvm.Stand Jvm.LawKit Jvm.RoadKit Bundle Jvm.Pilot.@@N@@.Jvm.D

section OwnKit
variable {p : Program} {l : Launch} {e : Env} {R : Room} {s : State} {m : MethodId} {args : Array Value} {below : List Frame} {meth : Method} {c : Code} {T : State} {locs : List Loc} {cells slots : Nat} {G : Outcome → State → Prop} {Q : Option Value → Heap → List Loc → Prop} {C S : Nat} {Z : State} {h h' : Heap}
/-- from the state t the invocation comes to an end of which G holds -/
def own_Fin (p : Program) (e : Env) (below : List Frame) (G : Outcome → State → Prop) (t : State) : Prop := ∃ s₂ o, Steps p.tables e below t s₂ ∧ s₂.status = .running ∧ Ended s₂ below o ∧ G o s₂
def own_G (s : State) (Q : Option Value → Heap → List Loc → Prop) (C S : Nat) (o : Outcome) (U' : State) : Prop := ∃ v L, o = .returned v ∧ Q v U'.heap L ∧ FrameEnd s o U' L C S
theorem own_to {t u : State} (h : ∀ z, Steps p.tables e below u z → Steps p.tables e below t z) (k : own_Fin p e below G u) : own_Fin p e below G t := by
  obtain ⟨a, b, c, d⟩ := k; exact ⟨a, b, h _ c, d⟩
theorem own_via {t u : State} (h : Steps p.tables e below t u) (k : own_Fin p e below G u) : own_Fin p e below G t := own_to (fun _ kz => h.trans kz) k
theorem own_retW (X : Stand p l e R s m args below meth c T locs cells slots) (hx : p.tables.exec = Jvm.exec) (hlk : meth.locks = false) (hG : G = own_G s Q C S) {f : JFrame} {w : Option Value} (hv : meth.sig.returnType = none → w = none)
    (st : ∀ fs, (∀ (f : JFrame) (acts : List Action), f.method = m → f.locked = none → f.entered = [] → (doReturn e (T.setTop f) acts w).1 = T.setFrames fs) → Steps p.tables e below (T.setTop f) (T.setFrames fs))
    (hc : cells ≤ C) (hs : slots ≤ S) (hQ : Q w T.heap locs) : own_Fin p e below G (T.setTop f) := by
  subst hG
  obtain ⟨fs, hr, hrun, hended, hW, hsame⟩ := X.leave (v := w) hv hlk
  exact ⟨_, _, st fs hr, hrun, hended, _, _, rfl, hQ, ⟨_, rfl⟩, hW, hsame.mono hc hs⟩
theorem own_retI (X : Stand p l e R s m args below meth c T locs cells slots) (hx : p.tables.exec = Jvm.exec) (hlk : meth.locks = false) (hG : G = own_G s Q C S) {pc : Nat} {Ls : Array Slot} {z : Int32} {rest : List Value} (hret : meth.sig.returnType = some .int) (hd : decode c.code pc = .ok (.ireturn, 1))
    (hc : cells ≤ C) (hs : slots ≤ S) (hQ : Q (some (.int z)) T.heap locs) : own_Fin p e below G (T.setTop (mkF m pc Ls (.int z :: rest))) :=
  own_retW X hx hlk hG (w := some (.int z)) (fun h => by rw [hret] at h; cases h) (fun fs hr => retOut X hx hret rfl (Or.inl ⟨rfl, Or.inl rfl, z, rfl⟩) hd hr) hc hs hQ
theorem own_retJ (X : Stand p l e R s m args below meth c T locs cells slots) (hx : p.tables.exec = Jvm.exec) (hlk : meth.locks = false) (hG : G = own_G s Q C S) {pc : Nat} {Ls : Array Slot} {z : Int64} {rest : List Value} (hret : meth.sig.returnType = some .long) (hd : decode c.code pc = .ok (.lreturn, 1))
    (hc : cells ≤ C) (hs : slots ≤ S) (hQ : Q (some (.long z)) T.heap locs) : own_Fin p e below G (T.setTop (mkF m pc Ls (.long z :: rest))) :=
  own_retW X hx hlk hG (w := some (.long z)) (fun h => by rw [hret] at h; cases h) (fun fs hr => retOut X hx hret rfl (Or.inr (Or.inl ⟨rfl, rfl, z, rfl⟩)) hd hr) hc hs hQ
theorem own_retA (X : Stand p l e R s m args below meth c T locs cells slots) (hx : p.tables.exec = Jvm.exec) (hlk : meth.locks = false) (hG : G = own_G s Q C S) {pc : Nat} {Ls : Array Slot} {w : Value} {rest : List Value} {t : FieldType} (hret : meth.sig.returnType = some t) (ht : t.isReference = true) (hw : w.isRef = true) (hd : decode c.code pc = .ok (.areturn, 1))
    (hc : cells ≤ C) (hs : slots ≤ S) (hQ : Q (some w) T.heap locs) : own_Fin p e below G (T.setTop (mkF m pc Ls (w :: rest))) :=
  own_retW X hx hlk hG (w := some w) (fun h => by rw [hret] at h; cases h) (fun fs hr => retOut X hx hret (by rcases ref_cases hw with rfl | ⟨a, rfl⟩ <;> cases t <;> first | rfl | (simp [FieldType.isReference] at ht)) (Or.inr (Or.inr (Or.inr (Or.inr ⟨rfl, ht, hw⟩)))) hd hr) hc hs hQ
theorem own_retN (X : Stand p l e R s m args below meth c T locs cells slots) (hx : p.tables.exec = Jvm.exec) (hlk : meth.locks = false) (hG : G = own_G s Q C S) {pc : Nat} {Ls : Array Slot} {z : Int32} {rest : List Value} {t : FieldType} (hret : meth.sig.returnType = some t) (ht : t = .boolean ∨ t = .byte ∨ t = .char ∨ t = .short) (hd : decode c.code pc = .ok (.ireturn, 1))
    (hc : cells ≤ C) (hs : slots ≤ S) (hQ : Q (some (.int (nar t z))) T.heap locs) : own_Fin p e below G (T.setTop (mkF m pc Ls (.int z :: rest))) :=
  own_retW X hx hlk hG (w := some (.int (nar t z))) (fun h => by rw [hret] at h; cases h) (fun fs hr => retN X hx hret ht hd hr) hc hs hQ
theorem own_retV (X : Stand p l e R s m args below meth c T locs cells slots) (hx : p.tables.exec = Jvm.exec) (hlk : meth.locks = false) (hG : G = own_G s Q C S) {pc : Nat} {Ls : Array Slot} (hret : meth.sig.returnType = none) (hd : decode c.code pc = .ok (.return_, 1))
    (hc : cells ≤ C) (hs : slots ≤ S) (hQ : Q none T.heap locs) : own_Fin p e below G (T.setTop (mkF m pc Ls [])) :=
  own_retW X hx hlk hG (w := none) (fun _ => rfl) (fun fs hr => X.returnOut hx hret hd hr) hc hs hQ
theorem own_lrem {g : JFrame} {target : State} (X : Stand p l e R s m args below meth c T locs cells slots) (hx : p.tables.exec = Jvm.exec) (hg : g.method = m) {x y : Int64} {rest : List Value} (hd : decode c.code g.pc = .ok (.lrem, 1)) (hs : g.stack = .long y :: .long x :: rest) (hy : y ≠ 0)
    (hr : Steps p.tables e below (T.setTop { g with pc := g.pc + 1, stack := .long (x % y) :: rest }) target) : Steps p.tables e below (T.setTop g) target := by
  have q : x - x / y * y = x % y := lrem_mod x y
  exact XS.lrem X.here hx hg hd hs hy (by rw [q]; exact hr)
def own_Pair (a b : Slot) : Prop := (a = .unset ∧ b = .unset) ∨ ∃ x, a = .val (.long x) ∧ b = .second
/-- the array at a has n places; place i holds mk (f i) -/
def own_AV {α : Type} (mk : α → Value) (Z : State) (h : Heap) (a : Addr) (ty : FieldType) (n : Nat) (f : Nat → α) : Prop := n < 2 ^ 31 ∧ ∃ c : Cell, Arr Z h a c ty ∧ c.slots.size = n ∧ ∀ i, i < n → c.slots[i]? = some (mk (f i))
def own_upd {α : Type} (f : Nat → α) (k : Nat) (v : α) : Nat → α := fun i => if i = k then v else f i
section
variable {α : Type} {mk : α → Value} {a b : Addr} {ty : FieldType} {n : Nat} {f f' : Nat → α} {ws : List Addr} {sl : Nat} {v : Value}
theorem own_AV.lt (F : own_AV mk Z h a ty n f) : a < h.size := by obtain ⟨_, c, A, -⟩ := F; exact A.lt
theorem own_AV.ext (F : own_AV mk Z h a ty n f) (E : Ext h h') : own_AV mk Z h' a ty n f := by obtain ⟨q, c, A, r⟩ := F; exact ⟨q, c, A.ext E, r⟩
theorem own_AV.other (F : own_AV mk Z h b ty n f) (W : Wr h h' a sl v) (q : b ≠ a) : own_AV mk Z h' b ty n f := by obtain ⟨q', c, A, r⟩ := F; exact ⟨q', c, A.other W q, r⟩
theorem own_AV.keep (F : own_AV mk Z h a ty n f) (K : Keep h h' ws) (q : a ∉ ws) : own_AV mk Z h' a ty n f := by obtain ⟨q', c, A, r⟩ := F; exact ⟨q', c, ⟨K.2.1 a c A.1 q, A.2⟩, r⟩
theorem own_AV.congr (F : own_AV mk Z h a ty n f) (q : ∀ i, i < n → f i = f' i) : own_AV mk Z h a ty n f' := by obtain ⟨q', c, A, r, s⟩ := F; exact ⟨q', c, A, r, fun i hi => by rw [s i hi, q i hi]⟩
theorem own_AV.new {k : ClassId} {z : Int32} (A : Arr Z h a (newA k ty z) ty) (q : ¬ z < 0) (hn : z.toNatClampNeg = n) (hf : ∀ i : Nat, defaultValue ty = mk (f i)) : own_AV mk Z h a ty n f := by
  refine ⟨hn ▸ (back32 q).2, _, A, (sz_new _ _ _).trans hn, fun i hi => ?_⟩
  rw [← hf i]; simp [newA, hn, hi]
theorem own_updr {P : α → Prop} {k : Nat} {w : α} (hv : P w) (hf : ∀ i, P (f i)) : ∀ i, P (own_upd f k w i) := fun i => by
  unfold own_upd; split
  · exact hv
  · exact hf i
theorem own_in {c : Cell} {j : Int32} {k : Nat} (S : c.slots.size = n) (hj : ¬ j < 0) (hk : j.toNatClampNeg = k) (hlt : k < n) : ¬ (j < 0 ∨ c.slots.size ≤ j.toNatClampNeg) := fun q => q.elim hj fun r => by omega
theorem own_AV.set {c : Cell} {j : Int32} {k : Nat} {w : α} (nn : n < 2 ^ 31) (A : Arr Z h a c ty) (S : c.slots.size = n) (H : ∀ i, i < n → c.slots[i]? = some (mk (f i))) (W : Wr h h' a j.toNatClampNeg (mk w)) (hk : j.toNatClampNeg = k) : own_AV mk Z h' a ty n (own_upd f k w) := by
  subst hk
  refine ⟨nn, _, A.same W, by rw [sz_set]; exact S, fun i hi => ?_⟩
  show (c.setSlot j.toNatClampNeg (mk w)).slots[i]? = some (mk (if i = j.toNatClampNeg then w else f i))
  simp only [Cell.setSlot]
  by_cases q : i = j.toNatClampNeg
  · subst q; rw [if_pos rfl]; simp [S, hi]
  · rw [if_neg q, Array.getElem?_setIfInBounds_ne (fun r => q r.symm)]; exact H i hi
theorem own_iaload (X : Stand p l e R s m args below meth c T locs cells slots) (hx : p.tables.exec = Jvm.exec) (hZ : Z.Warmed39 s.vm) (eT : T.heap = h) {f : Nat → Int32} (F : own_AV Value.int Z h a .int n f) {j : Int32} {k : Nat} (hj : ¬ j < 0) (hk : j.toNatClampNeg = k) (hlt : k < n)
    {g : JFrame} (hg : g.method = m) {rest : List Value} (hs : g.stack = .int j :: .ref a :: rest) (hd : decode c.code g.pc = .ok (.iaload, 1)) {target : State} (hr : Steps p.tables e below (T.setTop { g with pc := g.pc + 1, stack := .int (f k) :: rest }) target) : Steps p.tables e below (T.setTop g) target := by
  obtain ⟨_, cl, A, S, H⟩ := F
  exact X.iaload hx (j := j) (v := .int (f k)) (by rw [eT]; exact A.1) (State.isArrayOf_alike hZ.alike A.2.1) A.2.2 (own_in S hj hk hlt) (by rw [hk]; exact H k hlt) hg hs hd _ hr
theorem own_laload (X : Stand p l e R s m args below meth c T locs cells slots) (hx : p.tables.exec = Jvm.exec) (hZ : Z.Warmed39 s.vm) (eT : T.heap = h) {f : Nat → Int64} (F : own_AV Value.long Z h a .long n f) {j : Int32} {k : Nat} (hj : ¬ j < 0) (hk : j.toNatClampNeg = k) (hlt : k < n)
    {g : JFrame} (hg : g.method = m) {rest : List Value} (hs : g.stack = .int j :: .ref a :: rest) (hd : decode c.code g.pc = .ok (.laload, 1)) {target : State} (hr : Steps p.tables e below (T.setTop { g with pc := g.pc + 1, stack := .long (f k) :: rest }) target) : Steps p.tables e below (T.setTop g) target := by
  obtain ⟨_, cl, A, S, H⟩ := F
  exact X.laload hx (j := j) (v := .long (f k)) (by rw [eT]; exact A.1) (State.isArrayOf_alike hZ.alike A.2.1) A.2.2 (own_in S hj hk hlt) (by rw [hk]; exact H k hlt) hg hs hd _ hr
theorem own_baload (X : Stand p l e R s m args below meth c T locs cells slots) (hx : p.tables.exec = Jvm.exec) (hZ : Z.Warmed39 s.vm) (eT : T.heap = h) {f : Nat → Int32} (F : own_AV Value.int Z h a .byte n f) {j : Int32} {k : Nat} (hj : ¬ j < 0) (hk : j.toNatClampNeg = k) (hlt : k < n)
    {g : JFrame} (hg : g.method = m) {rest : List Value} (hs : g.stack = .int j :: .ref a :: rest) (hd : decode c.code g.pc = .ok (.baload, 1)) {target : State} (hr : Steps p.tables e below (T.setTop { g with pc := g.pc + 1, stack := .int (f k) :: rest }) target) : Steps p.tables e below (T.setTop g) target := by
  obtain ⟨_, cl, A, S, H⟩ := F
  exact X.baloadBytes hx (j := j) (v := .int (f k)) (by rw [eT]; exact A.1) (State.isArrayOf_alike hZ.alike A.2.1) A.2.2 (own_in S hj hk hlt) (by rw [hk]; exact H k hlt) hg hs hd _ hr
theorem own_cloneI (X : Stand p l e R s m args below meth c T locs cells slots) (hx : p.tables.exec = Jvm.exec) (hZ : Z.Warmed39 s.vm) {a0 : Array Value} {own ad : String} {index : Nat} (hown : s.vm.findClass own = some m.cls)
    (w1 : (Cond.methodLink own index ⟨ad, "clone", "()Ljava/lang/Object;"⟩).before a0 Z = true) (w2 : (Cond.sameMethod ad "java/lang/Object" "clone" "()Ljava/lang/Object;").before a0 Z = true) (w3 : (Cond.native ⟨"java/lang/Object", "clone", "()Ljava/lang/Object;"⟩).before a0 Z = true)
    (w4 : (Cond.instanceMethod ⟨"java/lang/Object", "clone", "()Ljava/lang/Object;"⟩).before a0 Z = true) (w5 : (Cond.selects ad ⟨ad, "clone", "()Ljava/lang/Object;"⟩ ⟨"java/lang/Object", "clone", "()Ljava/lang/Object;"⟩).before a0 Z = true) (w6 : (Cond.castable ad "java/lang/Cloneable").before a0 Z = true)
    (eT : T.heap = h) {f : Nat → Int32} (F : own_AV Value.int Z h a .int n f) (E : Exa Z h a ad) {g : JFrame} (hg : g.method = m) (hsize : g.locals.size = c.maxLocals) {rest : List Value} (hs : g.stack = .ref a :: rest) (hd : decode c.code g.pc = .ok (.invokevirtual index, 3))
    (hf : 1 ≤ R.frames) {W cap : Nat} (hW : 2 * g.monitorRoom + (rest.map fun v => v.category).sum ≤ W) (hl : W + 14 ≤ R.locals) (hcap : n ≤ cap) (hc : cells + 1 ≤ R.cells) (hsl : slots + cap ≤ R.slots) :
    ∃ T' h', Stand p l e R s m args below meth c T' locs (cells + 1) (slots + cap) ∧ T'.heap = h' ∧ Ext h h' ∧ own_AV Value.int Z h' h.size .int n f ∧ Exa Z h' h.size ad ∧
      ∀ target, Steps p.tables e below (T'.setTop { g with pc := g.pc + 3, stack := .ref h.size :: rest }) target → Steps p.tables e below (T.setTop g) target := by
  obtain ⟨nn, cl, A, S, H⟩ := F
  have FC : FitC Z cl := fitC_of A fun i hi v hv => by rw [H i (S ▸ hi)] at hv; cases hv; rfl
  obtain ⟨T', h', X', e', ex, A', E', st⟩ := cloneA X hx hZ hown w1 w2 w3 w4 w5 w6 eT A E FC hg hsize hs hd hf hW hl (by rw [S]; exact hcap) hc hsl
  exact ⟨T', h', X', e', ex, ⟨nn, cloneOf cl, A', S, H⟩, E', st⟩
theorem own_alen (X : Stand p l e R s m args below meth c T locs cells slots) (hx : p.tables.exec = Jvm.exec) (hZ : Z.Warmed39 s.vm) (eT : T.heap = h) (F : own_AV mk Z h a ty n f) {z : Int32} (hz : n.toInt32 = z)
    {g : JFrame} (hg : g.method = m) {rest : List Value} (hs : g.stack = .ref a :: rest) (hd : decode c.code g.pc = .ok (.arraylength, 1)) {target : State} (hr : Steps p.tables e below (T.setTop { g with pc := g.pc + 1, stack := .int z :: rest }) target) : Steps p.tables e below (T.setTop g) target := by
  obtain ⟨_, cl, A, S, H⟩ := F
  exact X.arraylength hx (by rw [eT]; exact A.1) (State.isArrayOf_alike hZ.alike A.2.1) hg hs hd _ (by rw [S, hz]; exact hr)
end
end OwnKit
section OwnWide
variable {p : Program} {l : Launch} {e : Env} {R : Room} {s s' : State} {m : MethodId} {args : Array Value} {below : List Frame} {meth : Method} {c : Code} {T : State} {locs : List Loc} {cells slots : Nat} {G : Outcome → State → Prop} {Q : Option Value → Heap → List Loc → Prop} {C S : Nat} {Z : State} {h h' : Heap} {EL : List (String × Nat)}
/-- the end of a walk that may have interned Strings -/
def own_GH (Z : State) (EL : List (String × Nat)) (s : State) (Q : Option Value → Heap → List Loc → Prop) (C S : Nat) (o : Outcome) (U' : State) : Prop := ∃ v L, o = .returned v ∧ Q v U'.heap L ∧ CHr Z EL s.vm s.heap U'.vm U'.heap ∧ ReturnedEndW s o U' L C S
theorem own_retH {vm₁ : Vm} {k : Nat} (X : Stand p l e R (s.setVm vm₁) m args below meth c T locs cells slots) (hS : s.Since vm₁ k) (hk : k ≤ T.heap.size) (hCH : CHr Z EL s.vm s.heap T.vm T.heap) (hlk : meth.locks = false) (hG : G = own_GH Z EL s Q C S) {f : JFrame} {w : Option Value} (hv : meth.sig.returnType = none → w = none)
    (st : ∀ fs, (∀ (f : JFrame) (acts : List Action), f.method = m → f.locked = none → f.entered = [] → (doReturn e (T.setTop f) acts w).1 = T.setFrames fs) → Steps p.tables e below (T.setTop f) (T.setFrames fs))
    (hc : cells ≤ C) (hs : slots ≤ S) (hQ : Q w T.heap locs) : own_Fin p e below G (T.setTop f) := by
  subst hG
  obtain ⟨fs, hr, hrun, hended, h1, h2, h3, h4⟩ := X.leaveW hS hk (v := w) hv hlk
  exact ⟨_, _, st fs hr, hrun, hended, _, _, rfl, hQ, hCH, h1, h2, h3, h4.mono hc hs⟩
theorem own_CHend {vm₁ : Vm} {a0 : Array Value} (X : Stand p l e R (s.setVm vm₁) m args below meth c T locs cells slots) (hZ : Z.Warmed39 vm₁) (hEL : EW Z a0 EL) (H : CHr Z EL s.vm s.heap vm₁ h) (eT : T.heap = h) : CHr Z EL s.vm s.heap T.vm T.heap := by
  subst eT; exact CHr.trans H (CHv.at X hZ hEL H.1)
theorem own_retHW {vm₁ : Vm} {k : Nat} {a0 : Array Value} (X : Stand p l e R (s.setVm vm₁) m args below meth c T locs cells slots) (hx : p.tables.exec = Jvm.exec) (hS : s.Since vm₁ k) (hk : k ≤ h.size) (H : CHr Z EL s.vm s.heap vm₁ h) (hZ : Z.Warmed39 vm₁) (hEL : EW Z a0 EL) (eT : T.heap = h) (hlk : meth.locks = false) (hG : G = own_GH Z EL s Q C S) {f : JFrame} {w : Option Value} (hv : meth.sig.returnType = none → w = none)
    (st : ∀ fs, (∀ (f : JFrame) (acts : List Action), f.method = m → f.locked = none → f.entered = [] → (doReturn e (T.setTop f) acts w).1 = T.setFrames fs) → Steps p.tables e below (T.setTop f) (T.setFrames fs))
    (hc : cells ≤ C) (hs : slots ≤ S) (hQ : Q w T.heap locs) : own_Fin p e below G (T.setTop f) := own_retH X hS (by rw [eT]; exact hk) (own_CHend X hZ hEL H eT) hlk hG hv st hc hs hQ
theorem own_retHI {vm₁ : Vm} {k : Nat} {a0 : Array Value} (X : Stand p l e R (s.setVm vm₁) m args below meth c T locs cells slots) (hx : p.tables.exec = Jvm.exec) (hS : s.Since vm₁ k) (hk : k ≤ h.size) (H : CHr Z EL s.vm s.heap vm₁ h) (hZ : Z.Warmed39 vm₁) (hEL : EW Z a0 EL) (eT : T.heap = h) (hlk : meth.locks = false) (hG : G = own_GH Z EL s Q C S) {pc : Nat} {Ls : Array Slot} {z : Int32} {rest : List Value} (hret : meth.sig.returnType = some .int) (hd : decode c.code pc = .ok (.ireturn, 1))
    (hc : cells ≤ C) (hs : slots ≤ S) (hQ : Q (some (.int z)) T.heap locs) : own_Fin p e below G (T.setTop (mkF m pc Ls (.int z :: rest))) :=
  own_retHW X hx hS hk H hZ hEL eT hlk hG (w := some (.int z)) (fun h => by rw [hret] at h; cases h) (fun fs hr => retOut X hx hret rfl (Or.inl ⟨rfl, Or.inl rfl, z, rfl⟩) hd hr) hc hs hQ
theorem own_retHN {vm₁ : Vm} {k : Nat} {a0 : Array Value} (X : Stand p l e R (s.setVm vm₁) m args below meth c T locs cells slots) (hx : p.tables.exec = Jvm.exec) (hS : s.Since vm₁ k) (hk : k ≤ h.size) (H : CHr Z EL s.vm s.heap vm₁ h) (hZ : Z.Warmed39 vm₁) (hEL : EW Z a0 EL) (eT : T.heap = h) (hlk : meth.locks = false) (hG : G = own_GH Z EL s Q C S) {pc : Nat} {Ls : Array Slot} {z : Int32} {rest : List Value} {t : FieldType} (hret : meth.sig.returnType = some t) (ht : t = .boolean ∨ t = .byte ∨ t = .char ∨ t = .short) (hd : decode c.code pc = .ok (.ireturn, 1))
    (hc : cells ≤ C) (hs : slots ≤ S) (hQ : Q (some (.int (nar t z))) T.heap locs) : own_Fin p e below G (T.setTop (mkF m pc Ls (.int z :: rest))) :=
  own_retHW X hx hS hk H hZ hEL eT hlk hG (w := some (.int (nar t z))) (fun h => by rw [hret] at h; cases h) (fun fs hr => retN X hx hret ht hd hr) hc hs hQ
theorem own_retHA {vm₁ : Vm} {k : Nat} {a0 : Array Value} (X : Stand p l e R (s.setVm vm₁) m args below meth c T locs cells slots) (hx : p.tables.exec = Jvm.exec) (hS : s.Since vm₁ k) (hk : k ≤ h.size) (H : CHr Z EL s.vm s.heap vm₁ h) (hZ : Z.Warmed39 vm₁) (hEL : EW Z a0 EL) (eT : T.heap = h) (hlk : meth.locks = false) (hG : G = own_GH Z EL s Q C S) {pc : Nat} {Ls : Array Slot} {w : Value} {rest : List Value} {t : FieldType} (hret : meth.sig.returnType = some t) (ht : t.isReference = true) (hw : w.isRef = true) (hd : decode c.code pc = .ok (.areturn, 1))
    (hc : cells ≤ C) (hs : slots ≤ S) (hQ : Q (some w) T.heap locs) : own_Fin p e below G (T.setTop (mkF m pc Ls (w :: rest))) :=
  own_retHW X hx hS hk H hZ hEL eT hlk hG (w := some w) (fun h => by rw [hret] at h; cases h) (fun fs hr => retOut X hx hret (by rcases ref_cases hw with rfl | ⟨a, rfl⟩ <;> cases t <;> first | rfl | (simp [FieldType.isReference] at ht)) (Or.inr (Or.inr (Or.inr (Or.inr ⟨rfl, ht, hw⟩)))) hd hr) hc hs hQ
theorem own_callSS (X : Stand p l e R s m args below meth c T locs cells slots) (hexec : p.tables.exec = Jvm.exec) {own : String} {index : Nat} {y : MethodName} {bytes : ByteArray} {maxL : Nat} {ret : Option FieldType}
    (hown : s.vm.findClass own = some m.cls) (hlink : (Cond.methodLink own index y).before args s = true) (hstat : (Cond.static y).before args s = true) (hinit : (Cond.initialized y.cls).before args s = true)
    (hcode : (Cond.code y bytes maxL ret).before args s = true) (hy : y.cls ≠ "java/lang/invoke/MethodHandle" ∧ y.cls ≠ "java/lang/invoke/VarHandle")
    {W : Nat} {Pre : Pt → Array Value → Prop} {Post : Pt → Array Value → Option Value → Pt → Prop} (hK : BackS l R p e below s args y 3 W Pre Post)
    {g : JFrame} (hg : g.method = m) (hsize : g.locals.size = c.maxLocals) {argsL rest : List Value} (hlen : ∀ sig, parseMethodDescriptor y.desc = some sig → argsL.length = sig.parameters.length)
    (hstack : g.stack = argsL.reverse ++ rest) (hW : 2 * g.monitorRoom + (rest.map fun v => v.category).sum ≤ W) (hdg : decode c.code g.pc = .ok (.invokestatic index, 3))
    (hpre : ∀ vm₁, s.WarmedH vm₁ → Pre ⟨T.setVm vm₁, locs, cells, slots⟩ argsL.toArray) :
    ∃ (v : Option Value) (vm₁ : Vm) (B : Pt), s.WarmedH vm₁ ∧ Stand p l e R (s.setVm B.U.vm) m args below meth c B.U B.locs B.cells B.slots ∧ s.Since B.U.vm B.U.heap.size ∧ T.heap.size ≤ B.U.heap.size ∧ Post ⟨T.setVm vm₁, locs, cells, slots⟩ argsL.toArray v B ∧
      Steps p.tables e below (T.setTop g) (B.U.setTop { g with pc := g.pc + 3, stack := v.toList ++ rest }) := by
  obtain ⟨mk, hnamed⟩ := Cond.code_named hcode
  obtain ⟨methM, cM, hmethM, -, -, -, -, -, -, hsigM⟩ := Cond.code_spec hnamed hcode
  exact X.staticBackS hexec hown hlink hstat hinit hnamed hmethM hsigM hy hK hg hsize (Steps.refl _) hlen hstack hW hdg hpre
theorem own_staKeep {C0 n d : String} {v : Value} {ws : List Addr} (F : Sta Z h C0 n d v) (K : Keep h h' ws) (q : ∀ x ∈ ws, ∃ c : Cell, h[x]? = some c ∧ ∀ z, c.vm ≠ .statics z) : Sta Z h' C0 n d v := by
  obtain ⟨cf, i, k, f, st, cell, h1, h2, h3, h4, h5, h6, h7⟩ := F
  refine ⟨cf, i, k, f, st, cell, h1, h2, h3, h4, K.2.1 _ _ h5 fun hm => ?_, h6, h7⟩
  obtain ⟨c', q1, q2⟩ := q _ hm
  cases h5.symm.trans q1
  cases hv : cell.vm <;> simp_all [VmData.isStatics]
theorem own_cat {v : Value} (h : v.isRef = true) : v.category = 1 := by rcases ref_cases h with rfl | ⟨a, rfl⟩ <;> rfl
theorem own_AVarv {α : Type} {mk : α → Value} {b : Addr} {kc : ClassId} {ty : FieldType} {z : Int32} {vs : List Value} {d : Value} {n : Nat} {f : Nat → α} (A : Arv Z h b kc ty z vs d) (hn : z.toNatClampNeg = n) (hlt : n < 2 ^ 31) (hf : ∀ i, i < n → vs.getD i d = mk (f i)) : own_AV mk Z h b ty n f := by
  obtain ⟨cl, A, -, S, -, H, -⟩ := A
  refine ⟨hlt, cl, A, S.trans hn, fun i hi => ?_⟩
  rw [H i (by rw [S, hn]; exact hi), hf i hi]
end OwnWide
theorem own_wS {Z : State} {a0 : Array Value} (hw : ∀ d ∈ tables_1, d.before a0 Z = true) : ∀ a ∈ Bundle.stringAtoms, a.before a0 Z = true := by
  intro a ha
  simp only [Bundle.stringAtoms, List.mem_cons, List.not_mem_nil, or_false] at ha
  rcases ha with rfl | rfl | rfl | rfl | rfl | rfl | rfl
  · exact (hw _ (List.mem_of_getElem? (i := 1) rfl))
  · exact (hw _ (List.mem_of_getElem? (i := 2) rfl))
  · exact (hw _ (List.mem_of_getElem? (i := 3) rfl))
  · exact (hw _ (List.mem_of_getElem? (i := 4) rfl))
  · exact (hw _ (List.mem_of_getElem? (i := 5) rfl))
  · exact (hw _ (List.mem_of_getElem? (i := 6) rfl))
  · exact (hw _ (List.mem_of_getElem? (i := 7) rfl))
theorem own_EW {Z : State} {a0 : Array Value} (hw : ∀ d ∈ tables_1, d.before a0 Z = true) : EW Z a0 consts_1 := (EW.cons (hw _ (List.mem_of_getElem? (i := 0) rfl)) (by decide) EW.nil)
theorem own_pn0 : plainName "com/example/nuthatch/nuthatch/lang/Characters" = true := by first | (simp [plainName, overriddenIn]; done) | decide +kernel
theorem d1_0 : decode prog_7_method_2_code 0 = .ok (.iload_n 0, 1) := by decide +kernel
theorem d1_1 : decode prog_7_method_2_code 1 = .ok (.bipush 48, 2) := by decide +kernel
theorem d1_3 : decode prog_7_method_2_code 3 = .ok (.if_icmp .lt 13, 3) := by decide +kernel
theorem d1_6 : decode prog_7_method_2_code 6 = .ok (.iload_n 0, 1) := by decide +kernel
theorem d1_7 : decode prog_7_method_2_code 7 = .ok (.bipush 57, 2) := by decide +kernel
theorem d1_9 : decode prog_7_method_2_code 9 = .ok (.if_icmp .gt 7, 3) := by decide +kernel
theorem d1_12 : decode prog_7_method_2_code 12 = .ok (.iconst 1, 1) := by decide +kernel
theorem d1_13 : decode prog_7_method_2_code 13 = .ok (.goto 4, 3) := by decide +kernel
theorem d1_16 : decode prog_7_method_2_code 16 = .ok (.iconst 0, 1) := by decide +kernel
theorem d1_17 : decode prog_7_method_2_code 17 = .ok (.ireturn, 1) := by decide +kernel
theorem ef1 (m : MethodId) (p0 : Int32) : entryFrame m #[(.int p0)] 1 = mkF m 0 #[.val (.int p0)] [] := by first | (simp [entryFrame, mkF, argsToLocals, Value.category]; done) | rfl
def f1_16 (p0 : Int32) : Int32 := (0 : Int32)
def f1 (p0 : Int32) : Int32 := if p0 < (48 : Int32) then (f1_16 p0) else if (57 : Int32) < p0 then (f1_16 p0) else (1 : Int32)
def Q1 (Z : State) (p0 : Int32) (h0 : Heap) (n0 : Nat) (v : Option Value) (h : Heap) (L : List Loc) : Prop := v = some (.int (f1 p0)) ∧ Fr n0 L ∧ h = h0
set_option maxRecDepth 65536 in
set_option maxHeartbeats 40000000 in
theorem rm1 (l : Launch) (Z : State) (a0 : Array Value) (hw : ∀ d ∈ tables_1, d.before a0 Z = true) (ws : List Jvm.Cond) (p0 : Int32) (h0 : Heap) (n0 : Nat) (Z0 : n0 ≤ h0.size) :
    MetFree l (⟨"com/example/nuthatch/nuthatch/lang/Characters", "isDigit", "(C)Z"⟩ : MethodName) (head1 (Jvm.Cond.code (⟨"com/example/nuthatch/nuthatch/lang/Characters", "isDigit", "(C)Z"⟩ : MethodName) prog_7_method_2_code 1 (some .boolean) :: ws) ({ frames := 0, cells := 0, slots := 0, locals := 0 } : Room)) (fun a U => a = #[(.int p0)] ∧ Z.Warmed39 U.vm ∧ U.heap = h0) (fun _ _ _ _ _ => True) (fun _ U o U' => ∃ v L, o = .returned v ∧ Q1 Z p0 h0 n0 v U'.heap L ∧ FrameEnd U o U' L ({ frames := 0, cells := 0, slots := 0, locals := 0 } : Room).cells ({ frames := 0, cells := 0, slots := 0, locals := 0 } : Room).slots) := by
  refine MetFree.of_bodySF (plainFor_of_name own_pn0) hisR ?_
  intro p e s m args below meth c s₁ Bd hml0 hP hK
  obtain ⟨rfl, hZ, hh⟩ := hP
  have hx := Bd.exec
  have hby := Bd.bytes
  have hml : c.maxLocals = 1 := hml0
  have hown : s.vm.findClass "com/example/nuthatch/nuthatch/lang/Characters" = some m.cls := findClass_of_methodNamed Bd.named
  have hnm := (name_of_methodNamed Bd.named Bd.method).1
  have hlk : meth.locks = false := BodyLoose.notSynchronized Bd
  have X0 : Stand p l e ({ frames := 0, cells := 0, slots := 0, locals := 0 } : Room) s m #[(.int p0)] below meth c s₁ [] 0 0 := Stand.of_body Bd
  have e0 : s₁.heap = h0 := by rw [← hh, Bd.state]; rfl
  have N0 := Fr.nil n0
  obtain ⟨G, hG⟩ : ∃ G, G = own_G s (Q1 Z p0 h0 n0) ({ frames := 0, cells := 0, slots := 0, locals := 0 } : Room).cells ({ frames := 0, cells := 0, slots := 0, locals := 0 } : Room).slots := ⟨_, rfl⟩
  show own_Fin p e below (own_G s (Q1 Z p0 h0 n0) ({ frames := 0, cells := 0, slots := 0, locals := 0 } : Room).cells ({ frames := 0, cells := 0, slots := 0, locals := 0 } : Room).slots) (s₁.setTop (entryFrame m #[(.int p0)] 1))
  rw [← hG]
  refine own_to (fun _ kz => castTop (ef1 m p0) kz) ?_
  have q0 : (f1 p0) = (f1 p0) := rfl
  show own_Fin p e below G (s₁.setTop (mkF m 0 #[.val (.int p0)] []))
  refine own_to (fun _ kz => XS.iloadN X0.here hx rfl (hb hby d1_0) rfl  kz) ?_
  show own_Fin p e below G (s₁.setTop (mkF m 1 #[.val (.int p0)] [(.int p0)]))
  refine own_to (fun _ kz => XS.bipush X0.here hx rfl (hb hby d1_1) kz) ?_
  show own_Fin p e below G (s₁.setTop (mkF m 3 #[.val (.int p0)] [(.int (48 : Int32)), (.int p0)]))
  have K16 : ∀ (q_j16 : (f1 p0) = (f1_16 p0)), own_Fin p e below G (s₁.setTop (mkF m 16 #[.val (.int p0)] [])) := by
    intro q_j16
    refine own_to (fun _ kz => XS.iconst X0.here hx rfl (hb hby d1_16) kz) ?_
    show own_Fin p e below G (s₁.setTop (mkF m 17 #[.val (.int p0)] [(.int (0 : Int32))]))
    exact own_retN X0 hx hlk hG (t := .boolean) Bd.returns (by simp) (hb hby d1_17) (by decide) (by decide) ⟨(congrArg (fun z => some (Value.int z)) q_j16).symm, N0, e0⟩
  by_cases hc3 : p0 < (48 : Int32)
  · refine own_to (fun _ kz => XS.icmpYes X0.here hx rfl (pc0 := 3) (pc' := 16) rfl (hb hby d1_3) rfl (tlt hc3).1 (by decide) (by decide) kz) ?_
    have q3t := q0.trans (if_pos hc3)
    show own_Fin p e below G (s₁.setTop (mkF m 16 #[.val (.int p0)] []))
    exact K16 q3t
  · refine own_to (fun _ kz => XS.icmpNo X0.here hx rfl (hb hby d1_3) rfl (flt hc3).1 kz) ?_
    have q3f := q0.trans (if_neg hc3)
    show own_Fin p e below G (s₁.setTop (mkF m 6 #[.val (.int p0)] []))
    refine own_to (fun _ kz => XS.iloadN X0.here hx rfl (hb hby d1_6) rfl  kz) ?_
    show own_Fin p e below G (s₁.setTop (mkF m 7 #[.val (.int p0)] [(.int p0)]))
    refine own_to (fun _ kz => XS.bipush X0.here hx rfl (hb hby d1_7) kz) ?_
    show own_Fin p e below G (s₁.setTop (mkF m 9 #[.val (.int p0)] [(.int (57 : Int32)), (.int p0)]))
    by_cases hc9 : (57 : Int32) < p0
    · refine own_to (fun _ kz => XS.icmpYes X0.here hx rfl (pc0 := 9) (pc' := 16) rfl (hb hby d1_9) rfl (tlt hc9).2.2.1 (by decide) (by decide) kz) ?_
      have q9t := q3f.trans (if_pos hc9)
      show own_Fin p e below G (s₁.setTop (mkF m 16 #[.val (.int p0)] []))
      exact K16 q9t
    · refine own_to (fun _ kz => XS.icmpNo X0.here hx rfl (hb hby d1_9) rfl (flt hc9).2.2.1 kz) ?_
      have q9f := q3f.trans (if_neg hc9)
      show own_Fin p e below G (s₁.setTop (mkF m 12 #[.val (.int p0)] []))
      refine own_to (fun _ kz => XS.iconst X0.here hx rfl (hb hby d1_12) kz) ?_
      show own_Fin p e below G (s₁.setTop (mkF m 13 #[.val (.int p0)] [(.int (1 : Int32))]))
      refine own_to (fun _ kz => XS.goto X0.here hx rfl (pc0 := 13) (pc' := 17) rfl (hb hby d1_13) (by decide) (by decide) kz) ?_
      show own_Fin p e below G (s₁.setTop (mkF m 17 #[.val (.int p0)] [(.int (1 : Int32))]))
      exact own_retN X0 hx hlk hG (t := .boolean) Bd.returns (by simp) (hb hby d1_17) (by decide) (by decide) ⟨(congrArg (fun z => some (Value.int z)) q9f).symm, N0, e0⟩
theorem own_pn1 : plainName "java/lang/String" = true := by first | (simp [plainName, overriddenIn]; done) | decide +kernel
theorem d3_0 : decode jdk_42_method_152_code 0 = .ok (.getstatic 38, 3) := by decide +kernel
theorem d3_3 : decode jdk_42_method_152_code 3 = .ok (.ifCond .eq 10, 3) := by decide +kernel
theorem d3_6 : decode jdk_42_method_152_code 6 = .ok (.aload_n 0, 1) := by decide +kernel
theorem d3_7 : decode jdk_42_method_152_code 7 = .ok (.getfield 15, 3) := by decide +kernel
theorem d3_10 : decode jdk_42_method_152_code 10 = .ok (.goto 4, 3) := by decide +kernel
theorem d3_14 : decode jdk_42_method_152_code 14 = .ok (.ireturn, 1) := by decide +kernel
theorem ef3 (m : MethodId) (ad0 : Addr) : entryFrame m #[(.ref ad0)] 1 = mkF m 0 #[.val (.ref ad0)] [] := by first | (simp [entryFrame, mkF, argsToLocals, Value.category]; done) | rfl
def Q3 (Z : State) (ad0 : Addr) (cz : Int32) (h0 : Heap) (n0 : Nat) (v : Option Value) (h : Heap) (L : List Loc) : Prop := v = some (.int 0) ∧ Fr n0 L ∧ h = h0
set_option maxRecDepth 65536 in
set_option maxHeartbeats 40000000 in
theorem rm3 (l : Launch) (Z : State) (a0 : Array Value) (hw : ∀ d ∈ tables_1, d.before a0 Z = true) (ws : List Jvm.Cond) (ad0 : Addr) (cz : Int32) (h0 : Heap) (n0 : Nat) (Z0 : n0 ≤ h0.size) (E_ad0 : Exa Z h0 ad0 "java/lang/String") (F_coder_ad0 : Fld Z h0 ad0 "java/lang/String" "coder" "B" (.int (0 : Int32))) (S_COMPACT_STRINGS : Sta Z h0 "java/lang/String" "COMPACT_STRINGS" "Z" (.int cz)) (hcz : ¬ cz = (0 : Int32)) :
    MetFree l (⟨"java/lang/String", "coder", "()B"⟩ : MethodName) (head1 (Jvm.Cond.code (⟨"java/lang/String", "coder", "()B"⟩ : MethodName) jdk_42_method_152_code 1 (some .byte) :: ws) ({ frames := 0, cells := 0, slots := 0, locals := 0 } : Room)) (fun a U => a = #[(.ref ad0)] ∧ Z.Warmed39 U.vm ∧ U.heap = h0) (fun _ _ _ _ _ => True) (fun _ U o U' => ∃ v L, o = .returned v ∧ Q3 Z ad0 cz h0 n0 v U'.heap L ∧ FrameEnd U o U' L ({ frames := 0, cells := 0, slots := 0, locals := 0 } : Room).cells ({ frames := 0, cells := 0, slots := 0, locals := 0 } : Room).slots) := by
  refine MetFree.of_bodySF (plainFor_of_name own_pn1) hisR ?_
  intro p e s m args below meth c s₁ Bd hml0 hP hK
  obtain ⟨rfl, hZ, hh⟩ := hP
  have hx := Bd.exec
  have hby := Bd.bytes
  have hml : c.maxLocals = 1 := hml0
  have hown : s.vm.findClass "java/lang/String" = some m.cls := findClass_of_methodNamed Bd.named
  have hnm := (name_of_methodNamed Bd.named Bd.method).1
  have hlk : meth.locks = false := BodyLoose.notSynchronized Bd
  have X0 : Stand p l e ({ frames := 0, cells := 0, slots := 0, locals := 0 } : Room) s m #[(.ref ad0)] below meth c s₁ [] 0 0 := Stand.of_body Bd
  have e0 : s₁.heap = h0 := by rw [← hh, Bd.state]; rfl
  have N0 := Fr.nil n0
  obtain ⟨G, hG⟩ : ∃ G, G = own_G s (Q3 Z ad0 cz h0 n0) ({ frames := 0, cells := 0, slots := 0, locals := 0 } : Room).cells ({ frames := 0, cells := 0, slots := 0, locals := 0 } : Room).slots := ⟨_, rfl⟩
  show own_Fin p e below (own_G s (Q3 Z ad0 cz h0 n0) ({ frames := 0, cells := 0, slots := 0, locals := 0 } : Room).cells ({ frames := 0, cells := 0, slots := 0, locals := 0 } : Room).slots) (s₁.setTop (entryFrame m #[(.ref ad0)] 1))
  rw [← hG]
  refine own_to (fun _ kz => castTop (ef3 m ad0) kz) ?_
  show own_Fin p e below G (s₁.setTop (mkF m 0 #[.val (.ref ad0)] []))
  obtain ⟨T0a, X0a, e0a, st0a⟩ := getS2 X0 hx hZ hown (host := "") (Or.inl (hw _ (List.mem_of_getElem? (i := 23) rfl))) Via.refl e0 S_COMPACT_STRINGS (g := (mkF m 0 #[.val (.ref ad0)] [])) rfl (hb hby d3_0)
  refine own_to st0a ?_
  show own_Fin p e below G (T0a.setTop (mkF m 3 #[.val (.ref ad0)] [(.int cz)]))
  have hc3 : ¬ (cz = (0 : Int32)) := hcz
  refine own_to (fun _ kz => XS.ifNo X0a.here hx rfl (hb hby d3_3) rfl ((if0 _ _).trans (feq hc3).1) kz) ?_
  show own_Fin p e below G (T0a.setTop (mkF m 6 #[.val (.ref ad0)] []))
  refine own_to (fun _ kz => XS.aloadN X0a.here hx rfl (hb hby d3_6) rfl (rfl)  kz) ?_
  show own_Fin p e below G (T0a.setTop (mkF m 7 #[.val (.ref ad0)] [(.ref ad0)]))
  obtain ⟨T7, X7, e7, st7⟩ := getF X0a hx hZ hown (host := "") (Or.inl (hw _ (List.mem_of_getElem? (i := 24) rfl))) Via.refl e0a F_coder_ad0 (g := (mkF m 7 #[.val (.ref ad0)] [(.ref ad0)])) rfl rfl (hb hby d3_7)
  refine own_to st7 ?_
  show own_Fin p e below G (T7.setTop (mkF m 10 #[.val (.ref ad0)] [(.int (0 : Int32))]))
  refine own_to (fun _ kz => XS.goto X7.here hx rfl (pc0 := 10) (pc' := 14) rfl (hb hby d3_10) (by decide) (by decide) kz) ?_
  show own_Fin p e below G (T7.setTop (mkF m 14 #[.val (.ref ad0)] [(.int (0 : Int32))]))
  exact own_retN X7 hx hlk hG (t := .byte) Bd.returns (by simp) (hb hby d3_14) (by decide) (by decide) ⟨rfl, N0, e7⟩
theorem d5_0 : decode jdk_42_method_154_code 0 = .ok (.getstatic 38, 3) := by decide +kernel
theorem d5_3 : decode jdk_42_method_154_code 3 = .ok (.ifCond .eq 14, 3) := by decide +kernel
theorem d5_6 : decode jdk_42_method_154_code 6 = .ok (.aload_n 0, 1) := by decide +kernel
theorem d5_7 : decode jdk_42_method_154_code 7 = .ok (.getfield 15, 3) := by decide +kernel
theorem d5_10 : decode jdk_42_method_154_code 10 = .ok (.ifCond .ne 7, 3) := by decide +kernel
theorem d5_13 : decode jdk_42_method_154_code 13 = .ok (.iconst 1, 1) := by decide +kernel
theorem d5_14 : decode jdk_42_method_154_code 14 = .ok (.goto 4, 3) := by decide +kernel
theorem d5_17 : decode jdk_42_method_154_code 17 = .ok (.iconst 0, 1) := by decide +kernel
theorem d5_18 : decode jdk_42_method_154_code 18 = .ok (.ireturn, 1) := by decide +kernel
theorem ef5 (m : MethodId) (ad0 : Addr) : entryFrame m #[(.ref ad0)] 1 = mkF m 0 #[.val (.ref ad0)] [] := by first | (simp [entryFrame, mkF, argsToLocals, Value.category]; done) | rfl
def Q5 (Z : State) (ad0 : Addr) (cz : Int32) (h0 : Heap) (n0 : Nat) (v : Option Value) (h : Heap) (L : List Loc) : Prop := v = some (.int 1) ∧ Fr n0 L ∧ h = h0
set_option maxRecDepth 65536 in
set_option maxHeartbeats 40000000 in
theorem rm5 (l : Launch) (Z : State) (a0 : Array Value) (hw : ∀ d ∈ tables_1, d.before a0 Z = true) (ws : List Jvm.Cond) (ad0 : Addr) (cz : Int32) (h0 : Heap) (n0 : Nat) (Z0 : n0 ≤ h0.size) (E_ad0 : Exa Z h0 ad0 "java/lang/String") (F_coder_ad0 : Fld Z h0 ad0 "java/lang/String" "coder" "B" (.int (0 : Int32))) (S_COMPACT_STRINGS : Sta Z h0 "java/lang/String" "COMPACT_STRINGS" "Z" (.int cz)) (hcz : ¬ cz = (0 : Int32)) :
    MetFree l (⟨"java/lang/String", "isLatin1", "()Z"⟩ : MethodName) (head1 (Jvm.Cond.code (⟨"java/lang/String", "isLatin1", "()Z"⟩ : MethodName) jdk_42_method_154_code 1 (some .boolean) :: ws) ({ frames := 0, cells := 0, slots := 0, locals := 0 } : Room)) (fun a U => a = #[(.ref ad0)] ∧ Z.Warmed39 U.vm ∧ U.heap = h0) (fun _ _ _ _ _ => True) (fun _ U o U' => ∃ v L, o = .returned v ∧ Q5 Z ad0 cz h0 n0 v U'.heap L ∧ FrameEnd U o U' L ({ frames := 0, cells := 0, slots := 0, locals := 0 } : Room).cells ({ frames := 0, cells := 0, slots := 0, locals := 0 } : Room).slots) := by
  refine MetFree.of_bodySF (plainFor_of_name own_pn1) hisR ?_
  intro p e s m args below meth c s₁ Bd hml0 hP hK
  obtain ⟨rfl, hZ, hh⟩ := hP
  have hx := Bd.exec
  have hby := Bd.bytes
  have hml : c.maxLocals = 1 := hml0
  have hown : s.vm.findClass "java/lang/String" = some m.cls := findClass_of_methodNamed Bd.named
  have hnm := (name_of_methodNamed Bd.named Bd.method).1
  have hlk : meth.locks = false := BodyLoose.notSynchronized Bd
  have X0 : Stand p l e ({ frames := 0, cells := 0, slots := 0, locals := 0 } : Room) s m #[(.ref ad0)] below meth c s₁ [] 0 0 := Stand.of_body Bd
  have e0 : s₁.heap = h0 := by rw [← hh, Bd.state]; rfl
  have N0 := Fr.nil n0
  obtain ⟨G, hG⟩ : ∃ G, G = own_G s (Q5 Z ad0 cz h0 n0) ({ frames := 0, cells := 0, slots := 0, locals := 0 } : Room).cells ({ frames := 0, cells := 0, slots := 0, locals := 0 } : Room).slots := ⟨_, rfl⟩
  show own_Fin p e below (own_G s (Q5 Z ad0 cz h0 n0) ({ frames := 0, cells := 0, slots := 0, locals := 0 } : Room).cells ({ frames := 0, cells := 0, slots := 0, locals := 0 } : Room).slots) (s₁.setTop (entryFrame m #[(.ref ad0)] 1))
  rw [← hG]
  refine own_to (fun _ kz => castTop (ef5 m ad0) kz) ?_
  show own_Fin p e below G (s₁.setTop (mkF m 0 #[.val (.ref ad0)] []))
  obtain ⟨T0a, X0a, e0a, st0a⟩ := getS2 X0 hx hZ hown (host := "") (Or.inl (hw _ (List.mem_of_getElem? (i := 23) rfl))) Via.refl e0 S_COMPACT_STRINGS (g := (mkF m 0 #[.val (.ref ad0)] [])) rfl (hb hby d5_0)
  refine own_to st0a ?_
  show own_Fin p e below G (T0a.setTop (mkF m 3 #[.val (.ref ad0)] [(.int cz)]))
  have hc3 : ¬ (cz = (0 : Int32)) := hcz
  refine own_to (fun _ kz => XS.ifNo X0a.here hx rfl (hb hby d5_3) rfl ((if0 _ _).trans (feq hc3).1) kz) ?_
  show own_Fin p e below G (T0a.setTop (mkF m 6 #[.val (.ref ad0)] []))
  refine own_to (fun _ kz => XS.aloadN X0a.here hx rfl (hb hby d5_6) rfl (rfl)  kz) ?_
  show own_Fin p e below G (T0a.setTop (mkF m 7 #[.val (.ref ad0)] [(.ref ad0)]))
  obtain ⟨T7, X7, e7, st7⟩ := getF X0a hx hZ hown (host := "") (Or.inl (hw _ (List.mem_of_getElem? (i := 24) rfl))) Via.refl e0a F_coder_ad0 (g := (mkF m 7 #[.val (.ref ad0)] [(.ref ad0)])) rfl rfl (hb hby d5_7)
  refine own_to st7 ?_
  show own_Fin p e below G (T7.setTop (mkF m 10 #[.val (.ref ad0)] [(.int (0 : Int32))]))
  have hc10 : (0 : Int32) = (0 : Int32) := by decide
  refine own_to (fun _ kz => XS.ifNo X7.here hx rfl (hb hby d5_10) rfl ((if0 _ _).trans (teq hc10).2) kz) ?_
  show own_Fin p e below G (T7.setTop (mkF m 13 #[.val (.ref ad0)] []))
  refine own_to (fun _ kz => XS.iconst X7.here hx rfl (hb hby d5_13) kz) ?_
  show own_Fin p e below G (T7.setTop (mkF m 14 #[.val (.ref ad0)] [(.int (1 : Int32))]))
  refine own_to (fun _ kz => XS.goto X7.here hx rfl (pc0 := 14) (pc' := 18) rfl (hb hby d5_14) (by decide) (by decide) kz) ?_
  show own_Fin p e below G (T7.setTop (mkF m 18 #[.val (.ref ad0)] [(.int (1 : Int32))]))
  exact own_retN X7 hx hlk hG (t := .boolean) Bd.returns (by simp) (hb hby d5_18) (by decide) (by decide) ⟨rfl, N0, e7⟩
theorem own_pd0 : parseMethodDescriptor "()B" = some ⟨[], some .byte⟩ := by decide +kernel
theorem d2_0 : decode jdk_42_method_54_code 0 = .ok (.aload_n 0, 1) := by decide +kernel
theorem d2_1 : decode jdk_42_method_54_code 1 = .ok (.getfield 9, 3) := by decide +kernel
theorem d2_4 : decode jdk_42_method_54_code 4 = .ok (.arraylength, 1) := by decide +kernel
theorem d2_5 : decode jdk_42_method_54_code 5 = .ok (.aload_n 0, 1) := by decide +kernel
theorem d2_6 : decode jdk_42_method_54_code 6 = .ok (.invokevirtual 335, 3) := by decide +kernel
theorem d2_9 : decode jdk_42_method_54_code 9 = .ok (.ishr, 1) := by decide +kernel
theorem d2_10 : decode jdk_42_method_54_code 10 = .ok (.ireturn, 1) := by decide +kernel
theorem ef2 (m : MethodId) (ad0 : Addr) : entryFrame m #[(.ref ad0)] 1 = mkF m 0 #[.val (.ref ad0)] [] := by first | (simp [entryFrame, mkF, argsToLocals, Value.category]; done) | rfl
def Q2 (Z : State) (ad0 : Addr) (fa : Nat → Int32) (bv : Addr) (cz : Int32) (h0 : Heap) (n0 : Nat) (v : Option Value) (h : Heap) (L : List Loc) : Prop := v = some (.int 10) ∧ Fr n0 L ∧ h = h0
set_option maxRecDepth 65536 in
set_option maxHeartbeats 40000000 in
theorem rm2 (l : Launch) (Z : State) (a0 : Array Value) (hw : ∀ d ∈ tables_1, d.before a0 Z = true) (ws : List Jvm.Cond) (ad0 : Addr) (fa : Nat → Int32) (bv : Addr) (cz : Int32) (h0 : Heap) (n0 : Nat) (Z0 : n0 ≤ h0.size) (E_ad0 : Exa Z h0 ad0 "java/lang/String") (F_coder_ad0 : Fld Z h0 ad0 "java/lang/String" "coder" "B" (.int (0 : Int32))) (F_value_ad0 : Fld Z h0 ad0 "java/lang/String" "value" "[B" (.ref bv)) (V_bv : own_AV Value.int Z h0 bv .byte 10 fa) (S_COMPACT_STRINGS : Sta Z h0 "java/lang/String" "COMPACT_STRINGS" "Z" (.int cz)) (hcz : ¬ cz = (0 : Int32)) :
    MetFree l (⟨"java/lang/String", "length", "()I"⟩ : MethodName) (head1 (Jvm.Cond.code (⟨"java/lang/String", "length", "()I"⟩ : MethodName) jdk_42_method_54_code 1 (some .int) :: ws) ({ frames := 1, cells := 0, slots := 0, locals := 13 } : Room)) (fun a U => a = #[(.ref ad0)] ∧ Z.Warmed39 U.vm ∧ U.heap = h0) (fun _ _ _ _ _ => True) (fun _ U o U' => ∃ v L, o = .returned v ∧ Q2 Z ad0 fa bv cz h0 n0 v U'.heap L ∧ FrameEnd U o U' L ({ frames := 1, cells := 0, slots := 0, locals := 13 } : Room).cells ({ frames := 1, cells := 0, slots := 0, locals := 13 } : Room).slots) := by
  refine MetFree.of_bodySF (plainFor_of_name own_pn1) hisR ?_
  intro p e s m args below meth c s₁ Bd hml0 hP hK
  obtain ⟨rfl, hZ, hh⟩ := hP
  have hx := Bd.exec
  have hby := Bd.bytes
  have hml : c.maxLocals = 1 := hml0
  have hown : s.vm.findClass "java/lang/String" = some m.cls := findClass_of_methodNamed Bd.named
  have hnm := (name_of_methodNamed Bd.named Bd.method).1
  have hlk : meth.locks = false := BodyLoose.notSynchronized Bd
  have X0 : Stand p l e ({ frames := 1, cells := 0, slots := 0, locals := 13 } : Room) s m #[(.ref ad0)] below meth c s₁ [] 0 0 := Stand.of_body Bd
  have e0 : s₁.heap = h0 := by rw [← hh, Bd.state]; rfl
  have N0 := Fr.nil n0
  obtain ⟨G, hG⟩ : ∃ G, G = own_G s (Q2 Z ad0 fa bv cz h0 n0) ({ frames := 1, cells := 0, slots := 0, locals := 13 } : Room).cells ({ frames := 1, cells := 0, slots := 0, locals := 13 } : Room).slots := ⟨_, rfl⟩
  show own_Fin p e below (own_G s (Q2 Z ad0 fa bv cz h0 n0) ({ frames := 1, cells := 0, slots := 0, locals := 13 } : Room).cells ({ frames := 1, cells := 0, slots := 0, locals := 13 } : Room).slots) (s₁.setTop (entryFrame m #[(.ref ad0)] 1))
  rw [← hG]
  refine own_to (fun _ kz => castTop (ef2 m ad0) kz) ?_
  show own_Fin p e below G (s₁.setTop (mkF m 0 #[.val (.ref ad0)] []))
  refine own_to (fun _ kz => XS.aloadN X0.here hx rfl (hb hby d2_0) rfl (rfl)  kz) ?_
  show own_Fin p e below G (s₁.setTop (mkF m 1 #[.val (.ref ad0)] [(.ref ad0)]))
  obtain ⟨T1, X1, e1, st1⟩ := getF X0 hx hZ hown (host := "") (Or.inl (hw _ (List.mem_of_getElem? (i := 17) rfl))) Via.refl e0 F_value_ad0 (g := (mkF m 1 #[.val (.ref ad0)] [(.ref ad0)])) rfl rfl (hb hby d2_1)
  refine own_to st1 ?_
  show own_Fin p e below G (T1.setTop (mkF m 4 #[.val (.ref ad0)] [(.ref bv)]))
  refine own_to (fun _ kz => own_alen X1 hx hZ e1 V_bv (z := (10 : Int32)) rfl (g := (mkF m 4 #[.val (.ref ad0)] [(.ref bv)])) rfl rfl (hb hby d2_4) kz) ?_
  show own_Fin p e below G (T1.setTop (mkF m 5 #[.val (.ref ad0)] [(.int (10 : Int32))]))
  refine own_to (fun _ kz => XS.aloadN X1.here hx rfl (hb hby d2_5) rfl (rfl)  kz) ?_
  show own_Fin p e below G (T1.setTop (mkF m 6 #[.val (.ref ad0)] [(.ref ad0), (.int (10 : Int32))]))
  obtain ⟨cq6, kq6, qa6, qb6, qc6⟩ := isOf hZ e1 E_ad0
  obtain ⟨_, _, ⟨T6, L6, k6, n6⟩, -, X6, ⟨Lc6, hQ6, l6, y6, z6⟩, st6⟩ := X1.virtualBack hx (y := (⟨"java/lang/String", "coder", "()B"⟩ : MethodName)) (z := (⟨"java/lang/String", "coder", "()B"⟩ : MethodName)) hown (mvT hZ (hw _ (List.mem_of_getElem? (i := 18) rfl))) (mvT hZ (hw _ (List.mem_of_getElem? (i := 19) rfl))) (notFace_of_selects (args := #[]) (mvT hZ (hw _ (List.mem_of_getElem? (i := 21) rfl)))) (mvT hZ (hw _ (List.mem_of_getElem? (i := 21) rfl))) (mvT hZ (hw _ (List.mem_of_getElem? (i := 20) rfl))) (by decide) (backOf (W := 1) (rm3 l Z a0 hw [] ad0 cz h0 n0 Z0 E_ad0 F_coder_ad0 S_COMPACT_STRINGS hcz) hZ (hw _ (List.mem_of_getElem? (i := 22) rfl)) (hw _ (List.mem_of_getElem? (i := 1) rfl)) (by decide) (by decide)) qa6 qc6 (g := (mkF m 6 #[.val (.ref ad0)] [(.ref ad0), (.int (10 : Int32))])) rfl (by rw [hml]; rfl) (Steps.refl _) (argsL := []) (rest := [(.int (10 : Int32))]) (lenOf own_pd0 rfl) rfl (by show 2 * 0 + _ ≤ _; exact Nat.le_of_eq rfl) (hb hby d2_6) (fun _ _ => ⟨rfl, e1, (by decide : 0 + 0 ≤ _), (by decide : 0 + 0 ≤ _)⟩)
  dsimp only [Pt.U, Pt.locs, Pt.cells, Pt.slots] at X6 l6 y6 z6 st6 hQ6
  subst l6 y6 z6
  obtain ⟨rfl, N6q, e6⟩ := hQ6
  obtain ⟨lo6, X6, N6⟩ : ∃ lo, Stand p l e _ s m _ below meth c T6 lo _ _ ∧ Fr n0 lo := ⟨_, X6, Fr.app N0 N6q⟩
  refine own_via st6 ?_
  show own_Fin p e below G (T6.setTop (mkF m 9 #[.val (.ref ad0)] [(.int (0 : Int32)), (.int (10 : Int32))]))
  refine own_to (fun _ kz => XS.ishr X6.here hx rfl (hb hby d2_9) rfl kz) ?_
  show own_Fin p e below G (T6.setTop (mkF m 10 #[.val (.ref ad0)] [(.int ((10 : Int32) >>> ((0 : Int32) &&& 31)))]))
  exact own_retI X6 hx hlk hG Bd.returns (hb hby d2_10) (by decide) (by decide) ⟨rfl, N6, e6⟩
theorem own_pn2 : plainName "jdk/internal/util/Preconditions" = true := by first | (simp [plainName, overriddenIn]; done) | decide +kernel
theorem d8_0 : decode jdk_41_method_11_code 0 = .ok (.iload_n 0, 1) := by decide +kernel
theorem d8_1 : decode jdk_41_method_11_code 1 = .ok (.ifCond .lt 8, 3) := by decide +kernel
theorem d8_4 : decode jdk_41_method_11_code 4 = .ok (.iload_n 0, 1) := by decide +kernel
theorem d8_5 : decode jdk_41_method_11_code 5 = .ok (.iload_n 1, 1) := by decide +kernel
theorem d8_6 : decode jdk_41_method_11_code 6 = .ok (.if_icmp .lt 10, 3) := by decide +kernel
theorem d8_16 : decode jdk_41_method_11_code 16 = .ok (.iload_n 0, 1) := by decide +kernel
theorem d8_17 : decode jdk_41_method_11_code 17 = .ok (.ireturn, 1) := by decide +kernel
theorem ef8 (m : MethodId) (p0 : Int32) (p1 : Int32) (fm : Value) (hc_fm : fm.isRef = true) : entryFrame m #[(.int p0), (.int p1), fm] 3 = mkF m 0 #[.val (.int p0), .val (.int p1), .val fm] [] := by rcases ref_cases hc_fm with rfl | ⟨za, rfl⟩ <;> first | (simp [entryFrame, mkF, argsToLocals, Value.category]; done) | rfl
def Q8 (Z : State) (p0 : Int32) (p1 : Int32) (fm : Value) (h0 : Heap) (n0 : Nat) (v : Option Value) (h : Heap) (L : List Loc) : Prop := v = some (.int p0) ∧ Fr n0 L ∧ h = h0
set_option maxRecDepth 65536 in
set_option maxHeartbeats 40000000 in
theorem rm8 (l : Launch) (Z : State) (a0 : Array Value) (hw : ∀ d ∈ tables_1, d.before a0 Z = true) (ws : List Jvm.Cond) (p0 : Int32) (p1 : Int32) (fm : Value) (h0 : Heap) (n0 : Nat) (Z0 : n0 ≤ h0.size) (r_fm : fm.isRef = true) (hlo : ¬ p0 < (0 : Int32)) (hup : p0 < p1) :
    MetFree l (⟨"jdk/internal/util/Preconditions", "checkIndex", "(IILjava/util/function/BiFunction;)I"⟩ : MethodName) (head1 (Jvm.Cond.code (⟨"jdk/internal/util/Preconditions", "checkIndex", "(IILjava/util/function/BiFunction;)I"⟩ : MethodName) jdk_41_method_11_code 3 (some .int) :: ws) ({ frames := 0, cells := 0, slots := 0, locals := 0 } : Room)) (fun a U => a = #[(.int p0), (.int p1), fm] ∧ Z.Warmed39 U.vm ∧ U.heap = h0) (fun _ _ _ _ _ => True) (fun _ U o U' => ∃ v L, o = .returned v ∧ Q8 Z p0 p1 fm h0 n0 v U'.heap L ∧ FrameEnd U o U' L ({ frames := 0, cells := 0, slots := 0, locals := 0 } : Room).cells ({ frames := 0, cells := 0, slots := 0, locals := 0 } : Room).slots) := by
  refine MetFree.of_bodySF (plainFor_of_name own_pn2) hisR ?_
  intro p e s m args below meth c s₁ Bd hml0 hP hK
  obtain ⟨rfl, hZ, hh⟩ := hP
  have hx := Bd.exec
  have hby := Bd.bytes
  have hml : c.maxLocals = 3 := hml0
  have hown : s.vm.findClass "jdk/internal/util/Preconditions" = some m.cls := findClass_of_methodNamed Bd.named
  have hnm := (name_of_methodNamed Bd.named Bd.method).1
  have hlk : meth.locks = false := BodyLoose.notSynchronized Bd
  have X0 : Stand p l e ({ frames := 0, cells := 0, slots := 0, locals := 0 } : Room) s m #[(.int p0), (.int p1), fm] below meth c s₁ [] 0 0 := Stand.of_body Bd
  have e0 : s₁.heap = h0 := by rw [← hh, Bd.state]; rfl
  have N0 := Fr.nil n0
  obtain ⟨G, hG⟩ : ∃ G, G = own_G s (Q8 Z p0 p1 fm h0 n0) ({ frames := 0, cells := 0, slots := 0, locals := 0 } : Room).cells ({ frames := 0, cells := 0, slots := 0, locals := 0 } : Room).slots := ⟨_, rfl⟩
  show own_Fin p e below (own_G s (Q8 Z p0 p1 fm h0 n0) ({ frames := 0, cells := 0, slots := 0, locals := 0 } : Room).cells ({ frames := 0, cells := 0, slots := 0, locals := 0 } : Room).slots) (s₁.setTop (entryFrame m #[(.int p0), (.int p1), fm] 3))
  rw [← hG]
  refine own_to (fun _ kz => castTop (ef8 m p0 p1 fm r_fm) kz) ?_
  show own_Fin p e below G (s₁.setTop (mkF m 0 #[.val (.int p0), .val (.int p1), .val fm] []))
  refine own_to (fun _ kz => XS.iloadN X0.here hx rfl (hb hby d8_0) rfl  kz) ?_
  show own_Fin p e below G (s₁.setTop (mkF m 1 #[.val (.int p0), .val (.int p1), .val fm] [(.int p0)]))
  have hc1 : ¬ (p0 < (0 : Int32)) := hlo
  refine own_to (fun _ kz => XS.ifNo X0.here hx rfl (hb hby d8_1) rfl ((if0 _ _).trans (flt hc1).1) kz) ?_
  show own_Fin p e below G (s₁.setTop (mkF m 4 #[.val (.int p0), .val (.int p1), .val fm] []))
  refine own_to (fun _ kz => XS.iloadN X0.here hx rfl (hb hby d8_4) rfl  kz) ?_
  show own_Fin p e below G (s₁.setTop (mkF m 5 #[.val (.int p0), .val (.int p1), .val fm] [(.int p0)]))
  refine own_to (fun _ kz => XS.iloadN X0.here hx rfl (hb hby d8_5) rfl  kz) ?_
  show own_Fin p e below G (s₁.setTop (mkF m 6 #[.val (.int p0), .val (.int p1), .val fm] [(.int p1), (.int p0)]))
  have hc6 : p0 < p1 := hup
  refine own_to (fun _ kz => XS.icmpYes X0.here hx rfl (pc0 := 6) (pc' := 16) rfl (hb hby d8_6) rfl (tlt hc6).1 (by decide) (by decide) kz) ?_
  show own_Fin p e below G (s₁.setTop (mkF m 16 #[.val (.int p0), .val (.int p1), .val fm] []))
  refine own_to (fun _ kz => XS.iloadN X0.here hx rfl (hb hby d8_16) rfl  kz) ?_
  show own_Fin p e below G (s₁.setTop (mkF m 17 #[.val (.int p0), .val (.int p1), .val fm] [(.int p0)]))
  exact own_retI X0 hx hlk hG Bd.returns (hb hby d8_17) (by decide) (by decide) ⟨rfl, N0, e0⟩
theorem own_pd1 : parseMethodDescriptor "(IILjava/util/function/BiFunction;)I" = some ⟨[.int, .int, (.object "java/util/function/BiFunction")], some .int⟩ := by decide +kernel
theorem d7_0 : decode jdk_42_method_155_code 0 = .ok (.iload_n 0, 1) := by decide +kernel
theorem d7_1 : decode jdk_42_method_155_code 1 = .ok (.iload_n 1, 1) := by decide +kernel
theorem d7_2 : decode jdk_42_method_155_code 2 = .ok (.getstatic 1053, 3) := by decide +kernel
theorem d7_5 : decode jdk_42_method_155_code 5 = .ok (.invokestatic 1059, 3) := by decide +kernel
theorem d7_8 : decode jdk_42_method_155_code 8 = .ok (.pop, 1) := by decide +kernel
theorem d7_9 : decode jdk_42_method_155_code 9 = .ok (.return_, 1) := by decide +kernel
theorem ef7 (m : MethodId) (p0 : Int32) (p1 : Int32) : entryFrame m #[(.int p0), (.int p1)] 2 = mkF m 0 #[.val (.int p0), .val (.int p1)] [] := by first | (simp [entryFrame, mkF, argsToLocals, Value.category]; done) | rfl
def Q7 (Z : State) (p0 : Int32) (p1 : Int32) (fm : Value) (h0 : Heap) (n0 : Nat) (v : Option Value) (h : Heap) (L : List Loc) : Prop := v = none ∧ Fr n0 L ∧ h = h0
set_option maxRecDepth 65536 in
set_option maxHeartbeats 40000000 in
theorem rm7 (l : Launch) (Z : State) (a0 : Array Value) (hw : ∀ d ∈ tables_1, d.before a0 Z = true) (ws : List Jvm.Cond) (p0 : Int32) (p1 : Int32) (fm : Value) (h0 : Heap) (n0 : Nat) (Z0 : n0 ≤ h0.size) (S_SIOOBE_FORMATTER : Sta Z h0 "jdk/internal/util/Preconditions" "SIOOBE_FORMATTER" "Ljava/util/function/BiFunction;" fm) (r_fm : fm.isRef = true) (hlo : ¬ p0 < (0 : Int32)) (hup : p0 < p1) :
    MetFree l (⟨"java/lang/String", "checkIndex", "(II)V"⟩ : MethodName) (head1 (Jvm.Cond.code (⟨"java/lang/String", "checkIndex", "(II)V"⟩ : MethodName) jdk_42_method_155_code 2 none :: ws) ({ frames := 1, cells := 0, slots := 0, locals := 14 } : Room)) (fun a U => a = #[(.int p0), (.int p1)] ∧ Z.Warmed39 U.vm ∧ U.heap = h0) (fun _ _ _ _ _ => True) (fun _ U o U' => ∃ v L, o = .returned v ∧ Q7 Z p0 p1 fm h0 n0 v U'.heap L ∧ FrameEnd U o U' L ({ frames := 1, cells := 0, slots := 0, locals := 14 } : Room).cells ({ frames := 1, cells := 0, slots := 0, locals := 14 } : Room).slots) := by
  refine MetFree.of_bodySF (plainFor_of_name own_pn1) hisR ?_
  intro p e s m args below meth c s₁ Bd hml0 hP hK
  obtain ⟨rfl, hZ, hh⟩ := hP
  have hx := Bd.exec
  have hby := Bd.bytes
  have hml : c.maxLocals = 2 := hml0
  have hown : s.vm.findClass "java/lang/String" = some m.cls := findClass_of_methodNamed Bd.named
  have hnm := (name_of_methodNamed Bd.named Bd.method).1
  have hlk : meth.locks = false := BodyLoose.notSynchronized Bd
  have X0 : Stand p l e ({ frames := 1, cells := 0, slots := 0, locals := 14 } : Room) s m #[(.int p0), (.int p1)] below meth c s₁ [] 0 0 := Stand.of_body Bd
  have e0 : s₁.heap = h0 := by rw [← hh, Bd.state]; rfl
  have N0 := Fr.nil n0
  obtain ⟨G, hG⟩ : ∃ G, G = own_G s (Q7 Z p0 p1 fm h0 n0) ({ frames := 1, cells := 0, slots := 0, locals := 14 } : Room).cells ({ frames := 1, cells := 0, slots := 0, locals := 14 } : Room).slots := ⟨_, rfl⟩
  show own_Fin p e below (own_G s (Q7 Z p0 p1 fm h0 n0) ({ frames := 1, cells := 0, slots := 0, locals := 14 } : Room).cells ({ frames := 1, cells := 0, slots := 0, locals := 14 } : Room).slots) (s₁.setTop (entryFrame m #[(.int p0), (.int p1)] 2))
  rw [← hG]
  refine own_to (fun _ kz => castTop (ef7 m p0 p1) kz) ?_
  show own_Fin p e below G (s₁.setTop (mkF m 0 #[.val (.int p0), .val (.int p1)] []))
  refine own_to (fun _ kz => XS.iloadN X0.here hx rfl (hb hby d7_0) rfl  kz) ?_
  show own_Fin p e below G (s₁.setTop (mkF m 1 #[.val (.int p0), .val (.int p1)] [(.int p0)]))
  refine own_to (fun _ kz => XS.iloadN X0.here hx rfl (hb hby d7_1) rfl  kz) ?_
  show own_Fin p e below G (s₁.setTop (mkF m 2 #[.val (.int p0), .val (.int p1)] [(.int p1), (.int p0)]))
  obtain ⟨T2, X2, e2, st2⟩ := getS2 X0 hx hZ hown (host := "") (Or.inl (hw _ (List.mem_of_getElem? (i := 42) rfl))) Via.refl e0 S_SIOOBE_FORMATTER (g := (mkF m 2 #[.val (.int p0), .val (.int p1)] [(.int p1), (.int p0)])) rfl (hb hby d7_2)
  refine own_to st2 ?_
  show own_Fin p e below G (T2.setTop (mkF m 5 #[.val (.int p0), .val (.int p1)] [fm, (.int p1), (.int p0)]))
  obtain ⟨_, _, ⟨T5, L5, k5, n5⟩, -, X5, ⟨Lc5, hQ5, l5, y5, z5⟩, st5⟩ := Jvm.LawKit.callS X2 hx (y := (⟨"jdk/internal/util/Preconditions", "checkIndex", "(IILjava/util/function/BiFunction;)I"⟩ : MethodName)) hown (mvT hZ (hw _ (List.mem_of_getElem? (i := 44) rfl))) (mvT hZ (hw _ (List.mem_of_getElem? (i := 45) rfl))) (mvT hZ (hw _ (List.mem_of_getElem? (i := 43) rfl))) (mvT hZ (hw _ (List.mem_of_getElem? (i := 46) rfl))) (by decide) (backOf (W := 0) (rm8 l Z a0 hw [] p0 p1 fm h0 n0 Z0 r_fm hlo hup) hZ (hw _ (List.mem_of_getElem? (i := 46) rfl)) (hw _ (List.mem_of_getElem? (i := 43) rfl)) (by decide) (by decide)) (g := (mkF m 5 #[.val (.int p0), .val (.int p1)] [fm, (.int p1), (.int p0)])) rfl (by rw [hml]; rfl) (argsL := [(.int p0), (.int p1), fm]) (rest := []) (lenOf own_pd1 rfl) rfl (by show 2 * 0 + _ ≤ _; exact Nat.le_of_eq rfl) (hb hby d7_5) (fun _ _ => ⟨rfl, e2, (by decide : 0 + 0 ≤ _), (by decide : 0 + 0 ≤ _)⟩)
  dsimp only [Pt.U, Pt.locs, Pt.cells, Pt.slots] at X5 l5 y5 z5 st5 hQ5
  subst l5 y5 z5
  obtain ⟨rfl, N5q, e5⟩ := hQ5
  obtain ⟨lo5, X5, N5⟩ : ∃ lo, Stand p l e _ s m _ below meth c T5 lo _ _ ∧ Fr n0 lo := ⟨_, X5, Fr.app N0 N5q⟩
  refine own_to st5 ?_
  show own_Fin p e below G (T5.setTop (mkF m 8 #[.val (.int p0), .val (.int p1)] [(.int p0)]))
  refine own_to (fun _ kz => XS.pop X5.here hx rfl (hb hby d7_8) rfl rfl kz) ?_
  show own_Fin p e below G (T5.setTop (mkF m 9 #[.val (.int p0), .val (.int p1)] []))
  exact own_retV X5 hx hlk hG Bd.returns (hb hby d7_9) (by decide) (by decide) ⟨rfl, N5, e5⟩
theorem own_pd2 : parseMethodDescriptor "(II)V" = some ⟨[.int, .int], none⟩ := by decide +kernel
theorem own_pn3 : plainName "java/lang/StringLatin1" = true := by first | (simp [plainName, overriddenIn]; done) | decide +kernel
theorem d6_0 : decode jdk_43_method_2_code 0 = .ok (.iload_n 1, 1) := by decide +kernel
theorem d6_1 : decode jdk_43_method_2_code 1 = .ok (.aload_n 0, 1) := by decide +kernel
theorem d6_2 : decode jdk_43_method_2_code 2 = .ok (.arraylength, 1) := by decide +kernel
theorem d6_3 : decode jdk_43_method_2_code 3 = .ok (.invokestatic 9, 3) := by decide +kernel
theorem d6_6 : decode jdk_43_method_2_code 6 = .ok (.aload_n 0, 1) := by decide +kernel
theorem d6_7 : decode jdk_43_method_2_code 7 = .ok (.iload_n 1, 1) := by decide +kernel
theorem d6_8 : decode jdk_43_method_2_code 8 = .ok (.baload, 1) := by decide +kernel
theorem d6_9 : decode jdk_43_method_2_code 9 = .ok (.sipush 255, 3) := by decide +kernel
theorem d6_12 : decode jdk_43_method_2_code 12 = .ok (.iand, 1) := by decide +kernel
theorem d6_13 : decode jdk_43_method_2_code 13 = .ok (.i2c, 1) := by decide +kernel
theorem d6_14 : decode jdk_43_method_2_code 14 = .ok (.ireturn, 1) := by decide +kernel
theorem ef6 (m : MethodId) (ad0 : Addr) (p1 : Int32) : entryFrame m #[(.ref ad0), (.int p1)] 2 = mkF m 0 #[.val (.ref ad0), .val (.int p1)] [] := by first | (simp [entryFrame, mkF, argsToLocals, Value.category]; done) | rfl
def f6 (p1 : Int32) (fa : Nat → Int32) : Int32 := (nar .char (((fa p1.toNatClampNeg) &&& (255 : Int32)).toUInt32.toUInt16.toUInt32.toInt32))
def Q6 (Z : State) (ad0 : Addr) (p1 : Int32) (fa : Nat → Int32) (fm : Value) (h0 : Heap) (n0 : Nat) (v : Option Value) (h : Heap) (L : List Loc) : Prop := v = some (.int (f6 p1 fa)) ∧ Fr n0 L ∧ h = h0
set_option maxRecDepth 65536 in
set_option maxHeartbeats 40000000 in
theorem rm6 (l : Launch) (Z : State) (a0 : Array Value) (hw : ∀ d ∈ tables_1, d.before a0 Z = true) (ws : List Jvm.Cond) (ad0 : Addr) (p1 : Int32) (fa : Nat → Int32) (fm : Value) (h0 : Heap) (n0 : Nat) (Z0 : n0 ≤ h0.size) (V_ad0 : own_AV Value.int Z h0 ad0 .byte 10 fa) (S_SIOOBE_FORMATTER : Sta Z h0 "jdk/internal/util/Preconditions" "SIOOBE_FORMATTER" "Ljava/util/function/BiFunction;" fm) (r_fm : fm.isRef = true) (hlo : ¬ p1 < (0 : Int32)) (hup : p1 < (10 : Int32)) (hlt : p1.toNatClampNeg < 10) :
    MetFree l (⟨"java/lang/StringLatin1", "charAt", "([BI)C"⟩ : MethodName) (head1 (Jvm.Cond.code (⟨"java/lang/StringLatin1", "charAt", "([BI)C"⟩ : MethodName) jdk_43_method_2_code 2 (some .char) :: ws) ({ frames := 2, cells := 0, slots := 0, locals := 27 } : Room)) (fun a U => a = #[(.ref ad0), (.int p1)] ∧ Z.Warmed39 U.vm ∧ U.heap = h0) (fun _ _ _ _ _ => True) (fun _ U o U' => ∃ v L, o = .returned v ∧ Q6 Z ad0 p1 fa fm h0 n0 v U'.heap L ∧ FrameEnd U o U' L ({ frames := 2, cells := 0, slots := 0, locals := 27 } : Room).cells ({ frames := 2, cells := 0, slots := 0, locals := 27 } : Room).slots) := by
  refine MetFree.of_bodySF (plainFor_of_name own_pn3) hisR ?_
  intro p e s m args below meth c s₁ Bd hml0 hP hK
  obtain ⟨rfl, hZ, hh⟩ := hP
  have hx := Bd.exec
  have hby := Bd.bytes
  have hml : c.maxLocals = 2 := hml0
  have hown : s.vm.findClass "java/lang/StringLatin1" = some m.cls := findClass_of_methodNamed Bd.named
  have hnm := (name_of_methodNamed Bd.named Bd.method).1
  have hlk : meth.locks = false := BodyLoose.notSynchronized Bd
  have X0 : Stand p l e ({ frames := 2, cells := 0, slots := 0, locals := 27 } : Room) s m #[(.ref ad0), (.int p1)] below meth c s₁ [] 0 0 := Stand.of_body Bd
  have e0 : s₁.heap = h0 := by rw [← hh, Bd.state]; rfl
  have N0 := Fr.nil n0
  obtain ⟨G, hG⟩ : ∃ G, G = own_G s (Q6 Z ad0 p1 fa fm h0 n0) ({ frames := 2, cells := 0, slots := 0, locals := 27 } : Room).cells ({ frames := 2, cells := 0, slots := 0, locals := 27 } : Room).slots := ⟨_, rfl⟩
  show own_Fin p e below (own_G s (Q6 Z ad0 p1 fa fm h0 n0) ({ frames := 2, cells := 0, slots := 0, locals := 27 } : Room).cells ({ frames := 2, cells := 0, slots := 0, locals := 27 } : Room).slots) (s₁.setTop (entryFrame m #[(.ref ad0), (.int p1)] 2))
  rw [← hG]
  refine own_to (fun _ kz => castTop (ef6 m ad0 p1) kz) ?_
  have q0 : (f6 p1 fa) = (f6 p1 fa) := rfl
  show own_Fin p e below G (s₁.setTop (mkF m 0 #[.val (.ref ad0), .val (.int p1)] []))
  refine own_to (fun _ kz => XS.iloadN X0.here hx rfl (hb hby d6_0) rfl  kz) ?_
  show own_Fin p e below G (s₁.setTop (mkF m 1 #[.val (.ref ad0), .val (.int p1)] [(.int p1)]))
  refine own_to (fun _ kz => XS.aloadN X0.here hx rfl (hb hby d6_1) rfl (rfl)  kz) ?_
  show own_Fin p e below G (s₁.setTop (mkF m 2 #[.val (.ref ad0), .val (.int p1)] [(.ref ad0), (.int p1)]))
  refine own_to (fun _ kz => own_alen X0 hx hZ e0 V_ad0 (z := (10 : Int32)) rfl (g := (mkF m 2 #[.val (.ref ad0), .val (.int p1)] [(.ref ad0), (.int p1)])) rfl rfl (hb hby d6_2) kz) ?_
  show own_Fin p e below G (s₁.setTop (mkF m 3 #[.val (.ref ad0), .val (.int p1)] [(.int (10 : Int32)), (.int p1)]))
  obtain ⟨_, _, ⟨T3, L3, k3, n3⟩, -, X3, ⟨Lc3, hQ3, l3, y3, z3⟩, st3⟩ := Jvm.LawKit.callS X0 hx (y := (⟨"java/lang/String", "checkIndex", "(II)V"⟩ : MethodName)) hown (mvT hZ (hw _ (List.mem_of_getElem? (i := 39) rfl))) (mvT hZ (hw _ (List.mem_of_getElem? (i := 40) rfl))) (mvT hZ (hw _ (List.mem_of_getElem? (i := 1) rfl))) (mvT hZ (hw _ (List.mem_of_getElem? (i := 41) rfl))) (by decide) (backOf (W := 0) (rm7 l Z a0 hw [] p1 (10 : Int32) fm h0 n0 Z0 S_SIOOBE_FORMATTER r_fm hlo hup) hZ (hw _ (List.mem_of_getElem? (i := 41) rfl)) (hw _ (List.mem_of_getElem? (i := 1) rfl)) (by decide) (by decide)) (g := (mkF m 3 #[.val (.ref ad0), .val (.int p1)] [(.int (10 : Int32)), (.int p1)])) rfl (by rw [hml]; rfl) (argsL := [(.int p1), (.int (10 : Int32))]) (rest := []) (lenOf own_pd2 rfl) rfl (by show 2 * 0 + _ ≤ _; exact Nat.le_of_eq rfl) (hb hby d6_3) (fun _ _ => ⟨rfl, e0, (by decide : 0 + 0 ≤ _), (by decide : 0 + 0 ≤ _)⟩)
  dsimp only [Pt.U, Pt.locs, Pt.cells, Pt.slots] at X3 l3 y3 z3 st3 hQ3
  subst l3 y3 z3
  obtain ⟨rfl, N3q, e3⟩ := hQ3
  obtain ⟨lo3, X3, N3⟩ : ∃ lo, Stand p l e _ s m _ below meth c T3 lo _ _ ∧ Fr n0 lo := ⟨_, X3, Fr.app N0 N3q⟩
  refine own_to st3 ?_
  show own_Fin p e below G (T3.setTop (mkF m 6 #[.val (.ref ad0), .val (.int p1)] []))
  refine own_to (fun _ kz => XS.aloadN X3.here hx rfl (hb hby d6_6) rfl (rfl)  kz) ?_
  show own_Fin p e below G (T3.setTop (mkF m 7 #[.val (.ref ad0), .val (.int p1)] [(.ref ad0)]))
  refine own_to (fun _ kz => XS.iloadN X3.here hx rfl (hb hby d6_7) rfl  kz) ?_
  show own_Fin p e below G (T3.setTop (mkF m 8 #[.val (.ref ad0), .val (.int p1)] [(.int p1), (.ref ad0)]))
  refine own_to (fun _ kz => own_baload X3 hx hZ e3 V_ad0 (j := p1) hlo rfl hlt (g := (mkF m 8 #[.val (.ref ad0), .val (.int p1)] [(.int p1), (.ref ad0)])) rfl rfl (hb hby d6_8) kz) ?_
  show own_Fin p e below G (T3.setTop (mkF m 9 #[.val (.ref ad0), .val (.int p1)] [(.int (fa p1.toNatClampNeg))]))
  refine own_to (fun _ kz => XS.sipush X3.here hx rfl (hb hby d6_9) kz) ?_
  show own_Fin p e below G (T3.setTop (mkF m 12 #[.val (.ref ad0), .val (.int p1)] [(.int (255 : Int32)), (.int (fa p1.toNatClampNeg))]))
  refine own_to (fun _ kz => XS.iand X3.here hx rfl (hb hby d6_12) rfl kz) ?_
  show own_Fin p e below G (T3.setTop (mkF m 13 #[.val (.ref ad0), .val (.int p1)] [(.int ((fa p1.toNatClampNeg) &&& (255 : Int32)))]))
  refine own_to (fun _ kz => XS.i2c X3.here hx rfl (hb hby d6_13) rfl kz) ?_
  show own_Fin p e below G (T3.setTop (mkF m 14 #[.val (.ref ad0), .val (.int p1)] [(.int (((fa p1.toNatClampNeg) &&& (255 : Int32)).toUInt32.toUInt16.toUInt32.toInt32))]))
  exact own_retN X3 hx hlk hG (t := .char) Bd.returns (by simp) (hb hby d6_14) (by decide) (by decide) ⟨(congrArg (fun z => some (Value.int z)) q0).symm, N3, e3⟩
theorem own_pd3 : parseMethodDescriptor "()Z" = some ⟨[], some .boolean⟩ := by decide +kernel
theorem own_pd4 : parseMethodDescriptor "([BI)C" = some ⟨[(.array .byte), .int], some .char⟩ := by decide +kernel
theorem d4_0 : decode jdk_42_method_56_code 0 = .ok (.aload_n 0, 1) := by decide +kernel
theorem d4_1 : decode jdk_42_method_56_code 1 = .ok (.invokevirtual 492, 3) := by decide +kernel
theorem d4_4 : decode jdk_42_method_56_code 4 = .ok (.ifCond .eq 12, 3) := by decide +kernel
theorem d4_7 : decode jdk_42_method_56_code 7 = .ok (.aload_n 0, 1) := by decide +kernel
theorem d4_8 : decode jdk_42_method_56_code 8 = .ok (.getfield 9, 3) := by decide +kernel
theorem d4_11 : decode jdk_42_method_56_code 11 = .ok (.iload_n 1, 1) := by decide +kernel
theorem d4_12 : decode jdk_42_method_56_code 12 = .ok (.invokestatic 495, 3) := by decide +kernel
theorem d4_15 : decode jdk_42_method_56_code 15 = .ok (.ireturn, 1) := by decide +kernel
theorem d4_16 : decode jdk_42_method_56_code 16 = .ok (.aload_n 0, 1) := by decide +kernel
theorem d4_17 : decode jdk_42_method_56_code 17 = .ok (.getfield 9, 3) := by decide +kernel
theorem d4_20 : decode jdk_42_method_56_code 20 = .ok (.iload_n 1, 1) := by decide +kernel
theorem d4_21 : decode jdk_42_method_56_code 21 = .ok (.invokestatic 498, 3) := by decide +kernel
theorem d4_24 : decode jdk_42_method_56_code 24 = .ok (.ireturn, 1) := by decide +kernel
theorem ef4 (m : MethodId) (ad0 : Addr) (p1 : Int32) : entryFrame m #[(.ref ad0), (.int p1)] 2 = mkF m 0 #[.val (.ref ad0), .val (.int p1)] [] := by first | (simp [entryFrame, mkF, argsToLocals, Value.category]; done) | rfl
def f4 (p1 : Int32) (fa : Nat → Int32) : Int32 := if (1 : Int32) = (0 : Int32) then (0 : Int32) else (nar .char (f6 p1 fa))
def Q4 (Z : State) (ad0 : Addr) (p1 : Int32) (fa : Nat → Int32) (bv : Addr) (cz : Int32) (fm : Value) (h0 : Heap) (n0 : Nat) (v : Option Value) (h : Heap) (L : List Loc) : Prop := v = some (.int (f4 p1 fa)) ∧ Fr n0 L ∧ h = h0
set_option maxRecDepth 65536 in
set_option maxHeartbeats 40000000 in
theorem rm4 (l : Launch) (Z : State) (a0 : Array Value) (hw : ∀ d ∈ tables_1, d.before a0 Z = true) (ws : List Jvm.Cond) (ad0 : Addr) (p1 : Int32) (fa : Nat → Int32) (bv : Addr) (cz : Int32) (fm : Value) (h0 : Heap) (n0 : Nat) (Z0 : n0 ≤ h0.size) (E_ad0 : Exa Z h0 ad0 "java/lang/String") (F_coder_ad0 : Fld Z h0 ad0 "java/lang/String" "coder" "B" (.int (0 : Int32))) (F_value_ad0 : Fld Z h0 ad0 "java/lang/String" "value" "[B" (.ref bv)) (V_bv : own_AV Value.int Z h0 bv .byte 10 fa) (S_COMPACT_STRINGS : Sta Z h0 "java/lang/String" "COMPACT_STRINGS" "Z" (.int cz)) (hcz : ¬ cz = (0 : Int32)) (S_SIOOBE_FORMATTER : Sta Z h0 "jdk/internal/util/Preconditions" "SIOOBE_FORMATTER" "Ljava/util/function/BiFunction;" fm) (r_fm : fm.isRef = true) (hlo : ¬ p1 < (0 : Int32)) (hup : p1 < (10 : Int32)) (hlt : p1.toNatClampNeg < 10) :
    MetFree l (⟨"java/lang/String", "charAt", "(I)C"⟩ : MethodName) (head1 (Jvm.Cond.code (⟨"java/lang/String", "charAt", "(I)C"⟩ : MethodName) jdk_42_method_56_code 2 (some .char) :: ws) ({ frames := 3, cells := 0, slots := 0, locals := 40 } : Room)) (fun a U => a = #[(.ref ad0), (.int p1)] ∧ Z.Warmed39 U.vm ∧ U.heap = h0) (fun _ _ _ _ _ => True) (fun _ U o U' => ∃ v L, o = .returned v ∧ Q4 Z ad0 p1 fa bv cz fm h0 n0 v U'.heap L ∧ FrameEnd U o U' L ({ frames := 3, cells := 0, slots := 0, locals := 40 } : Room).cells ({ frames := 3, cells := 0, slots := 0, locals := 40 } : Room).slots) := by
  refine MetFree.of_bodySF (plainFor_of_name own_pn1) hisR ?_
  intro p e s m args below meth c s₁ Bd hml0 hP hK
  obtain ⟨rfl, hZ, hh⟩ := hP
  have hx := Bd.exec
  have hby := Bd.bytes
  have hml : c.maxLocals = 2 := hml0
  have hown : s.vm.findClass "java/lang/String" = some m.cls := findClass_of_methodNamed Bd.named
  have hnm := (name_of_methodNamed Bd.named Bd.method).1
  have hlk : meth.locks = false := BodyLoose.notSynchronized Bd
  have X0 : Stand p l e ({ frames := 3, cells := 0, slots := 0, locals := 40 } : Room) s m #[(.ref ad0), (.int p1)] below meth c s₁ [] 0 0 := Stand.of_body Bd
  have e0 : s₁.heap = h0 := by rw [← hh, Bd.state]; rfl
  have N0 := Fr.nil n0
  obtain ⟨G, hG⟩ : ∃ G, G = own_G s (Q4 Z ad0 p1 fa bv cz fm h0 n0) ({ frames := 3, cells := 0, slots := 0, locals := 40 } : Room).cells ({ frames := 3, cells := 0, slots := 0, locals := 40 } : Room).slots := ⟨_, rfl⟩
  show own_Fin p e below (own_G s (Q4 Z ad0 p1 fa bv cz fm h0 n0) ({ frames := 3, cells := 0, slots := 0, locals := 40 } : Room).cells ({ frames := 3, cells := 0, slots := 0, locals := 40 } : Room).slots) (s₁.setTop (entryFrame m #[(.ref ad0), (.int p1)] 2))
  rw [← hG]
  refine own_to (fun _ kz => castTop (ef4 m ad0 p1) kz) ?_
  have q0 : (f4 p1 fa) = (f4 p1 fa) := rfl
  show own_Fin p e below G (s₁.setTop (mkF m 0 #[.val (.ref ad0), .val (.int p1)] []))
  refine own_to (fun _ kz => XS.aloadN X0.here hx rfl (hb hby d4_0) rfl (rfl)  kz) ?_
  show own_Fin p e below G (s₁.setTop (mkF m 1 #[.val (.ref ad0), .val (.int p1)] [(.ref ad0)]))
  obtain ⟨cq1, kq1, qa1, qb1, qc1⟩ := isOf hZ e0 E_ad0
  obtain ⟨_, _, ⟨T1, L1, k1, n1⟩, -, X1, ⟨Lc1, hQ1, l1, y1, z1⟩, st1⟩ := X0.virtualBack hx (y := (⟨"java/lang/String", "isLatin1", "()Z"⟩ : MethodName)) (z := (⟨"java/lang/String", "isLatin1", "()Z"⟩ : MethodName)) hown (mvT hZ (hw _ (List.mem_of_getElem? (i := 30) rfl))) (mvT hZ (hw _ (List.mem_of_getElem? (i := 31) rfl))) (notFace_of_selects (args := #[]) (mvT hZ (hw _ (List.mem_of_getElem? (i := 33) rfl)))) (mvT hZ (hw _ (List.mem_of_getElem? (i := 33) rfl))) (mvT hZ (hw _ (List.mem_of_getElem? (i := 32) rfl))) (by decide) (backOf (W := 0) (rm5 l Z a0 hw [] ad0 cz h0 n0 Z0 E_ad0 F_coder_ad0 S_COMPACT_STRINGS hcz) hZ (hw _ (List.mem_of_getElem? (i := 34) rfl)) (hw _ (List.mem_of_getElem? (i := 1) rfl)) (by decide) (by decide)) qa1 qc1 (g := (mkF m 1 #[.val (.ref ad0), .val (.int p1)] [(.ref ad0)])) rfl (by rw [hml]; rfl) (Steps.refl _) (argsL := []) (rest := []) (lenOf own_pd3 rfl) rfl (by show 2 * 0 + _ ≤ _; exact Nat.le_of_eq rfl) (hb hby d4_1) (fun _ _ => ⟨rfl, e0, (by decide : 0 + 0 ≤ _), (by decide : 0 + 0 ≤ _)⟩)
  dsimp only [Pt.U, Pt.locs, Pt.cells, Pt.slots] at X1 l1 y1 z1 st1 hQ1
  subst l1 y1 z1
  obtain ⟨rfl, N1q, e1⟩ := hQ1
  obtain ⟨lo1, X1, N1⟩ : ∃ lo, Stand p l e _ s m _ below meth c T1 lo _ _ ∧ Fr n0 lo := ⟨_, X1, Fr.app N0 N1q⟩
  refine own_via st1 ?_
  show own_Fin p e below G (T1.setTop (mkF m 4 #[.val (.ref ad0), .val (.int p1)] [(.int (1 : Int32))]))
  have hc4 : ¬ ((1 : Int32) = (0 : Int32)) := by decide
  refine own_to (fun _ kz => XS.ifNo X1.here hx rfl (hb hby d4_4) rfl ((if0 _ _).trans (feq hc4).1) kz) ?_
  show own_Fin p e below G (T1.setTop (mkF m 7 #[.val (.ref ad0), .val (.int p1)] []))
  have q4l := q0.trans (if_neg hc4)
  refine own_to (fun _ kz => XS.aloadN X1.here hx rfl (hb hby d4_7) rfl (rfl)  kz) ?_
  show own_Fin p e below G (T1.setTop (mkF m 8 #[.val (.ref ad0), .val (.int p1)] [(.ref ad0)]))
  obtain ⟨T8, X8, e8, st8⟩ := getF X1 hx hZ hown (host := "") (Or.inl (hw _ (List.mem_of_getElem? (i := 17) rfl))) Via.refl e1 F_value_ad0 (g := (mkF m 8 #[.val (.ref ad0), .val (.int p1)] [(.ref ad0)])) rfl rfl (hb hby d4_8)
  refine own_to st8 ?_
  show own_Fin p e below G (T8.setTop (mkF m 11 #[.val (.ref ad0), .val (.int p1)] [(.ref bv)]))
  refine own_to (fun _ kz => XS.iloadN X8.here hx rfl (hb hby d4_11) rfl  kz) ?_
  show own_Fin p e below G (T8.setTop (mkF m 12 #[.val (.ref ad0), .val (.int p1)] [(.int p1), (.ref bv)]))
  obtain ⟨_, _, ⟨T12, L12, k12, n12⟩, -, X12, ⟨Lc12, hQ12, l12, y12, z12⟩, st12⟩ := Jvm.LawKit.callS X8 hx (y := (⟨"java/lang/StringLatin1", "charAt", "([BI)C"⟩ : MethodName)) hown (mvT hZ (hw _ (List.mem_of_getElem? (i := 35) rfl))) (mvT hZ (hw _ (List.mem_of_getElem? (i := 36) rfl))) (mvT hZ (hw _ (List.mem_of_getElem? (i := 37) rfl))) (mvT hZ (hw _ (List.mem_of_getElem? (i := 38) rfl))) (by decide) (backOf (W := 0) (rm6 l Z a0 hw [] bv p1 fa fm h0 n0 Z0 V_bv S_SIOOBE_FORMATTER r_fm hlo hup hlt) hZ (hw _ (List.mem_of_getElem? (i := 38) rfl)) (hw _ (List.mem_of_getElem? (i := 37) rfl)) (by decide) (by decide)) (g := (mkF m 12 #[.val (.ref ad0), .val (.int p1)] [(.int p1), (.ref bv)])) rfl (by rw [hml]; rfl) (argsL := [(.ref bv), (.int p1)]) (rest := []) (lenOf own_pd4 rfl) rfl (by show 2 * 0 + _ ≤ _; exact Nat.le_of_eq rfl) (hb hby d4_12) (fun _ _ => ⟨rfl, e8, (by decide : 0 + 0 ≤ _), (by decide : 0 + 0 ≤ _)⟩)
  dsimp only [Pt.U, Pt.locs, Pt.cells, Pt.slots] at X12 l12 y12 z12 st12 hQ12
  subst l12 y12 z12
  obtain ⟨rfl, N12q, e12⟩ := hQ12
  obtain ⟨lo12, X12, N12⟩ : ∃ lo, Stand p l e _ s m _ below meth c T12 lo _ _ ∧ Fr n0 lo := ⟨_, X12, Fr.app N1 N12q⟩
  refine own_to st12 ?_
  show own_Fin p e below G (T12.setTop (mkF m 15 #[.val (.ref ad0), .val (.int p1)] [(.int (f6 p1 fa))]))
  exact own_retN X12 hx hlk hG (t := .char) Bd.returns (by simp) (hb hby d4_15) (by decide) (by decide) ⟨(congrArg (fun z => some (Value.int z)) q4l).symm, N12, e12⟩
theorem own_lt10 {d : Int32} (h0 : ¬ d < 0) (h1 : d < 10) : d.toNatClampNeg < 10 := by
  rw [Int32.lt_iff_toInt_lt] at h0 h1
  have e0 : (0 : Int32).toInt = 0 := by decide
  have e1 : (10 : Int32).toInt = 10 := by decide
  have : d.toNatClampNeg = d.toInt.toNat := rfl
  omega
def own_lit0 (i : Nat) : Int32 := ([48, 49, 50, 51, 52, 53, 54, 55, 56, 57] : List Int32).getD i 0
theorem own_txt0 : (∀ c ∈ ("0123456789" : String).toList, c.toNat < 256) ∧ ("0123456789" : String).toList.map (fun c => Value.int (Jvm.Lit.byteI c.toNat.toUInt16)) = [Value.int 48, Value.int 49, Value.int 50, Value.int 51, Value.int 52, Value.int 53, Value.int 54, Value.int 55, Value.int 56, Value.int 57] := ⟨by decide, rfl⟩
theorem own_lf0 : ∀ i, i < 10 → ([Value.int 48, Value.int 49, Value.int 50, Value.int 51, Value.int 52, Value.int 53, Value.int 54, Value.int 55, Value.int 56, Value.int 57] : List Value).getD i (.int 0) = Value.int (own_lit0 i) := by decide
theorem own_pd5 : parseMethodDescriptor "()I" = some ⟨[], some .int⟩ := by decide +kernel
theorem own_pd6 : parseMethodDescriptor "(I)C" = some ⟨[.int], some .char⟩ := by decide +kernel
theorem own_pd7 : parseMethodDescriptor "(C)Z" = some ⟨[.char], some .boolean⟩ := by decide +kernel
theorem own_pn4 : plainName "com/example/nuthatch/nuthatch/lang/CharactersIsDigitPinLaw" = true := by first | (simp [plainName, overriddenIn]; done) | decide +kernel
theorem ef0 (m : MethodId) (p0 : Int32) : entryFrame m #[(.int p0)] maxLocals = mkF m 0 #[.val (.int p0), .unset, .unset, .unset, .unset] [] := by first | (simp [entryFrame, mkF, argsToLocals, Value.category, maxLocals]; done) | rfl
def f0_37 (p0 : Int32) (v1_11 : Int32) (v3_11 : Int32) (t0_37 : Int32) : Int32 := if (f1 v1_11) = t0_37 then (1 : Int32) else (0 : Int32)
def f0_36 (p0 : Int32) (v1_11 : Int32) (v3_11 : Int32) : Int32 := (f0_37 p0 v1_11 v3_11 (0 : Int32))
def f0_11 (p0 : Int32) (v1_11 : Int32) (v3_11 : Int32) : Int32 := if v3_11 < (0 : Int32) then (f0_36 p0 v1_11 v3_11) else if v3_11 < (10 : Int32) then (if (f4 v3_11 own_lit0) = v1_11 then (f0_37 p0 v1_11 v3_11 (1 : Int32)) else (f0_36 p0 v1_11 v3_11)) else (f0_36 p0 v1_11 v3_11)
def f0 (p0 : Int32) : Int32 := (f0_11 p0 (p0.toUInt32.toUInt16.toUInt32.toInt32) ((p0.toUInt32.toUInt16.toUInt32.toInt32) - (48 : Int32)))
def Q0 (Z : State) (p0 : Int32) (cz : Int32) (fm : Value) (h0 : Heap) (n0 : Nat) (v : Option Value) (h : Heap) (L : List Loc) : Prop := v = some (.int (f0 p0)) ∧ Fr n0 L ∧ True
set_option maxRecDepth 65536 in
set_option maxHeartbeats 40000000 in
theorem rm0 (l : Launch) (Z : State) (a0 : Array Value) (hw : ∀ d ∈ tables_1, d.before a0 Z = true) (ws : List Jvm.Cond) (p0 : Int32) (cz : Int32) (fm : Value) (h0 : Heap) (n0 : Nat) (Z0 : n0 ≤ h0.size) (S_COMPACT_STRINGS : Sta Z h0 "java/lang/String" "COMPACT_STRINGS" "Z" (.int cz)) (hcz : ¬ cz = (0 : Int32)) (S_SIOOBE_FORMATTER : Sta Z h0 "jdk/internal/util/Preconditions" "SIOOBE_FORMATTER" "Ljava/util/function/BiFunction;" fm) (r_fm : fm.isRef = true) :
    MetFree l x (head1 (Jvm.Cond.code x code maxLocals ret :: ws) room_1) (fun a U => a = #[(.int p0)] ∧ Z.Warmed39 U.vm ∧ U.heap = h0 ∧ CHv Z consts_1 U.vm h0) (fun _ _ _ _ _ => True) (fun _ U o U' => ∃ v L, o = .returned v ∧ Q0 Z p0 cz fm h0 n0 v U'.heap L ∧ CHr Z consts_1 U.vm U.heap U'.vm U'.heap ∧ ReturnedEndW U o U' L room_1.cells room_1.slots) := by
  refine MetFree.of_bodySF (plainFor_of_name own_pn4) hisR ?_
  intro p e s m args below meth c s₁ Bd hml0 hP hK
  obtain ⟨rfl, hZ, hh, hCH⟩ := hP
  have hx := Bd.exec
  have hby := Bd.bytes
  have hml : c.maxLocals = 5 := hml0
  have hown : s.vm.findClass "com/example/nuthatch/nuthatch/lang/CharactersIsDigitPinLaw" = some m.cls := findClass_of_methodNamed Bd.named
  have hnm := (name_of_methodNamed Bd.named Bd.method).1
  have hlk : meth.locks = false := BodyLoose.notSynchronized Bd
  have X0 : Stand p l e room_1 (s.setVm s.vm) m #[(.int p0)] below meth c s₁ [] 0 0 := Stand.of_body Bd
  have e0 : s₁.heap = h0 := by rw [← hh, Bd.state]; rfl
  have N0 := Fr.nil n0
  have hEL : EW Z a0 consts_1 := own_EW hw
  have hS0 : s.Since s.vm s.heap.size := State.WarmedH.since (State.WarmedH.refl s) _
  have hk0 : s.heap.size ≤ h0.size := Nat.le_of_eq (congrArg Array.size hh)
  have hC0 : CHr Z consts_1 s.vm s.heap s.vm h0 := by rw [hh]; exact CHr.refl hCH
  obtain ⟨G, hG⟩ : ∃ G, G = own_GH Z consts_1 s (Q0 Z p0 cz fm h0 n0) room_1.cells room_1.slots := ⟨_, rfl⟩
  show own_Fin p e below (own_GH Z consts_1 s (Q0 Z p0 cz fm h0 n0) room_1.cells room_1.slots) (s₁.setTop (entryFrame m #[(.int p0)] maxLocals))
  rw [← hG]
  refine own_to (fun _ kz => castTop (ef0 m p0) kz) ?_
  have q0 : (f0 p0) = (f0 p0) := rfl
  show own_Fin p e below G (s₁.setTop (mkF m 0 #[.val (.int p0), .unset, .unset, .unset, .unset] []))
  refine own_to (fun _ kz => XS.iloadN X0.here hx rfl (hb hby at_0) rfl  kz) ?_
  show own_Fin p e below G (s₁.setTop (mkF m 1 #[.val (.int p0), .unset, .unset, .unset, .unset] [(.int p0)]))
  refine own_to (fun _ kz => XS.i2c X0.here hx rfl (hb hby at_1) rfl kz) ?_
  show own_Fin p e below G (s₁.setTop (mkF m 2 #[.val (.int p0), .unset, .unset, .unset, .unset] [(.int (p0.toUInt32.toUInt16.toUInt32.toInt32))]))
  refine own_to (fun _ kz => XS.istoreN X0.here hx rfl (hb hby at_2) rfl (l' := #[.val (.int p0), .val (.int (p0.toUInt32.toUInt16.toUInt32.toInt32)), .unset, .unset, .unset]) rfl kz) ?_
  show own_Fin p e below G (s₁.setTop (mkF m 3 #[.val (.int p0), .val (.int (p0.toUInt32.toUInt16.toUInt32.toInt32)), .unset, .unset, .unset] []))
  obtain ⟨a3, T3, h3, k13, b3, kc3, X3, e3, E3, hS3, hk3, hZ, hown, A3, Fc3, Fv3, Ar3, -, -, hq3, -, -, st3⟩ := ldcCH (vm0 := s.vm) X0 hx hZ hown (hw _ (List.mem_of_getElem? (i := 0) rfl)) (own_wS hw) e0 hS0 hk0 hEL (List.mem_of_getElem? (i := 0) rfl) hC0.1 (z := (10 : Int32)) (own_txt0) (by decide) rfl (g := (mkF m 3 #[.val (.int p0), .val (.int (p0.toUInt32.toUInt16.toUInt32.toInt32)), .unset, .unset, .unset] [])) rfl (hb hby at_3) (n := 40) (by decide) (by decide) (by decide) (by decide)
  refine own_to st3 ?_
  have hC3 := CHr.trans hC0 hq3
  have V3 : own_AV Value.int Z h3 b3 .byte 10 own_lit0 := own_AVarv Ar3 rfl (by decide) (own_lf0)
  have Zz_3_E3 := Nat.le_trans Z0 E3.1
  have Z_3 : n0 ≤ h3.size := Zz_3_E3
  show own_Fin p e below G (T3.setTop (mkF m 5 #[.val (.int p0), .val (.int (p0.toUInt32.toUInt16.toUInt32.toInt32)), .unset, .unset, .unset] [(.ref a3)]))
  refine own_to (fun _ kz => XS.astoreN X3.here hx rfl (hb hby at_5) rfl (rfl) (l' := #[.val (.int p0), .val (.int (p0.toUInt32.toUInt16.toUInt32.toInt32)), .val (.ref a3), .unset, .unset]) rfl kz) ?_
  show own_Fin p e below G (T3.setTop (mkF m 6 #[.val (.int p0), .val (.int (p0.toUInt32.toUInt16.toUInt32.toInt32)), .val (.ref a3), .unset, .unset] []))
  refine own_to (fun _ kz => XS.iloadN X3.here hx rfl (hb hby at_6) rfl  kz) ?_
  show own_Fin p e below G (T3.setTop (mkF m 7 #[.val (.int p0), .val (.int (p0.toUInt32.toUInt16.toUInt32.toInt32)), .val (.ref a3), .unset, .unset] [(.int (p0.toUInt32.toUInt16.toUInt32.toInt32))]))
  refine own_to (fun _ kz => XS.bipush X3.here hx rfl (hb hby at_7) kz) ?_
  show own_Fin p e below G (T3.setTop (mkF m 9 #[.val (.int p0), .val (.int (p0.toUInt32.toUInt16.toUInt32.toInt32)), .val (.ref a3), .unset, .unset] [(.int (48 : Int32)), (.int (p0.toUInt32.toUInt16.toUInt32.toInt32))]))
  refine own_to (fun _ kz => XS.isub X3.here hx rfl (hb hby at_9) rfl kz) ?_
  show own_Fin p e below G (T3.setTop (mkF m 10 #[.val (.int p0), .val (.int (p0.toUInt32.toUInt16.toUInt32.toInt32)), .val (.ref a3), .unset, .unset] [(.int ((p0.toUInt32.toUInt16.toUInt32.toInt32) - (48 : Int32)))]))
  refine own_to (fun _ kz => XS.istoreN X3.here hx rfl (hb hby at_10) rfl (l' := #[.val (.int p0), .val (.int (p0.toUInt32.toUInt16.toUInt32.toInt32)), .val (.ref a3), .val (.int ((p0.toUInt32.toUInt16.toUInt32.toInt32) - (48 : Int32))), .unset]) rfl kz) ?_
  show own_Fin p e below G (T3.setTop (mkF m 11 #[.val (.int p0), .val (.int (p0.toUInt32.toUInt16.toUInt32.toInt32)), .val (.ref a3), .val (.int ((p0.toUInt32.toUInt16.toUInt32.toInt32) - (48 : Int32))), .unset] []))
  have K11 : ∀ (v1_11 : Int32) (v3_11 : Int32) (q_j11 : (f0 p0) = (f0_11 p0 v1_11 v3_11)), own_Fin p e below G (T3.setTop (mkF m 11 #[.val (.int p0), .val (.int v1_11), .val (.ref a3), .val (.int v3_11), .unset] [])) := by
    intro v1_11 v3_11 q_j11
    refine own_to (fun _ kz => XS.iloadN X3.here hx rfl (hb hby at_11) rfl  kz) ?_
    show own_Fin p e below G (T3.setTop (mkF m 12 #[.val (.int p0), .val (.int v1_11), .val (.ref a3), .val (.int v3_11), .unset] [(.int v3_11)]))
    have K37 : ∀ (t0_37 : Int32) (T_j37 : State) (locs_j37 : List Loc) (N_j37 : Fr n0 locs_j37) (X_j37 : Stand p l e room_1 (s.setVm T3.vm) m #[(.int p0)] below meth c T_j37 locs_j37 2 44) (e_j37 : T_j37.heap = h3) (q_j37 : (f0 p0) = (f0_37 p0 v1_11 v3_11 t0_37)), own_Fin p e below G (T_j37.setTop (mkF m 37 #[.val (.int p0), .val (.int v1_11), .val (.ref a3), .val (.int v3_11), .unset] [(.int t0_37)])) := by
      intro t0_37 T_j37 locs_j37 N_j37 X_j37 e_j37 q_j37
      refine own_to (fun _ kz => XS.istore X_j37.here hx rfl (hb hby at_37) rfl (l' := #[.val (.int p0), .val (.int v1_11), .val (.ref a3), .val (.int v3_11), .val (.int t0_37)]) rfl kz) ?_
      show own_Fin p e below G (T_j37.setTop (mkF m 39 #[.val (.int p0), .val (.int v1_11), .val (.ref a3), .val (.int v3_11), .val (.int t0_37)] []))
      refine own_to (fun _ kz => XS.iloadN X_j37.here hx rfl (hb hby at_39) rfl  kz) ?_
      show own_Fin p e below G (T_j37.setTop (mkF m 40 #[.val (.int p0), .val (.int v1_11), .val (.ref a3), .val (.int v3_11), .val (.int t0_37)] [(.int v1_11)]))
      obtain ⟨_, _, ⟨T40, L40, k40, n40⟩, -, X40, ⟨Lc40, hQ40, l40, y40, z40⟩, st40⟩ := Jvm.LawKit.callS X_j37 hx (y := (⟨"com/example/nuthatch/nuthatch/lang/Characters", "isDigit", "(C)Z"⟩ : MethodName)) hown (mvT hZ (hw _ (List.mem_of_getElem? (i := 8) rfl))) (mvT hZ (hw _ (List.mem_of_getElem? (i := 9) rfl))) (mvT hZ (hw _ (List.mem_of_getElem? (i := 10) rfl))) (mvT hZ (hw _ (List.mem_of_getElem? (i := 11) rfl))) (by decide) (backOf (W := 0) (rm1 l Z a0 hw [] v1_11 h3 n0 Z_3) hZ (hw _ (List.mem_of_getElem? (i := 11) rfl)) (hw _ (List.mem_of_getElem? (i := 10) rfl)) (by decide) (by decide)) (g := (mkF m 40 #[.val (.int p0), .val (.int v1_11), .val (.ref a3), .val (.int v3_11), .val (.int t0_37)] [(.int v1_11)])) rfl (by rw [hml]; rfl) (argsL := [(.int v1_11)]) (rest := []) (lenOf own_pd7 rfl) rfl (by show 2 * 0 + _ ≤ _; exact Nat.le_of_eq rfl) (hb hby at_40) (fun _ _ => ⟨rfl, e_j37, (by decide : 2 + 0 ≤ _), (by decide : 44 + 0 ≤ _)⟩)
      dsimp only [Pt.U, Pt.locs, Pt.cells, Pt.slots] at X40 l40 y40 z40 st40 hQ40
      subst l40 y40 z40
      obtain ⟨rfl, N40q, e40⟩ := hQ40
      obtain ⟨lo40, X40, N40⟩ : ∃ lo, Stand p l e _ (s.setVm T3.vm) m _ below meth c T40 lo _ _ ∧ Fr n0 lo := ⟨_, X40, Fr.app N_j37 N40q⟩
      refine own_to st40 ?_
      show own_Fin p e below G (T40.setTop (mkF m 43 #[.val (.int p0), .val (.int v1_11), .val (.ref a3), .val (.int v3_11), .val (.int t0_37)] [(.int (f1 v1_11))]))
      refine own_to (fun _ kz => XS.iload X40.here hx rfl (hb hby at_43) rfl  kz) ?_
      show own_Fin p e below G (T40.setTop (mkF m 45 #[.val (.int p0), .val (.int v1_11), .val (.ref a3), .val (.int v3_11), .val (.int t0_37)] [(.int t0_37), (.int (f1 v1_11))]))
      by_cases hc45 : (f1 v1_11) = t0_37
      · refine own_to (fun _ kz => XS.icmpNo X40.here hx rfl (hb hby at_45) rfl (teq hc45).2 kz) ?_
        have q45t := q_j37.trans (if_pos hc45)
        show own_Fin p e below G (T40.setTop (mkF m 48 #[.val (.int p0), .val (.int v1_11), .val (.ref a3), .val (.int v3_11), .val (.int t0_37)] []))
        refine own_to (fun _ kz => XS.iconst X40.here hx rfl (hb hby at_48) kz) ?_
        show own_Fin p e below G (T40.setTop (mkF m 49 #[.val (.int p0), .val (.int v1_11), .val (.ref a3), .val (.int v3_11), .val (.int t0_37)] [(.int (1 : Int32))]))
        refine own_to (fun _ kz => XS.goto X40.here hx rfl (pc0 := 49) (pc' := 53) rfl (hb hby at_49) (by decide) (by decide) kz) ?_
        show own_Fin p e below G (T40.setTop (mkF m 53 #[.val (.int p0), .val (.int v1_11), .val (.ref a3), .val (.int v3_11), .val (.int t0_37)] [(.int (1 : Int32))]))
        exact own_retHN (vm₁ := T3.vm) X40 hx hS3 hk3 hC3 hZ hEL e40 hlk hG (t := .boolean) Bd.returns (by simp) (hb hby at_53) (by decide) (by decide) (by rw [e40]; exact ⟨(congrArg (fun z => some (Value.int z)) q45t).symm, N40, trivial⟩)
      · refine own_to (fun _ kz => XS.icmpYes X40.here hx rfl (pc0 := 45) (pc' := 52) rfl (hb hby at_45) rfl (feq hc45).2 (by decide) (by decide) kz) ?_
        have q45f := q_j37.trans (if_neg hc45)
        show own_Fin p e below G (T40.setTop (mkF m 52 #[.val (.int p0), .val (.int v1_11), .val (.ref a3), .val (.int v3_11), .val (.int t0_37)] []))
        refine own_to (fun _ kz => XS.iconst X40.here hx rfl (hb hby at_52) kz) ?_
        show own_Fin p e below G (T40.setTop (mkF m 53 #[.val (.int p0), .val (.int v1_11), .val (.ref a3), .val (.int v3_11), .val (.int t0_37)] [(.int (0 : Int32))]))
        exact own_retHN (vm₁ := T3.vm) X40 hx hS3 hk3 hC3 hZ hEL e40 hlk hG (t := .boolean) Bd.returns (by simp) (hb hby at_53) (by decide) (by decide) (by rw [e40]; exact ⟨(congrArg (fun z => some (Value.int z)) q45f).symm, N40, trivial⟩)
    have K36 : ∀ (T_j36 : State) (locs_j36 : List Loc) (N_j36 : Fr n0 locs_j36) (X_j36 : Stand p l e room_1 (s.setVm T3.vm) m #[(.int p0)] below meth c T_j36 locs_j36 2 44) (e_j36 : T_j36.heap = h3) (q_j36 : (f0 p0) = (f0_36 p0 v1_11 v3_11)), own_Fin p e below G (T_j36.setTop (mkF m 36 #[.val (.int p0), .val (.int v1_11), .val (.ref a3), .val (.int v3_11), .unset] [])) := by
      intro T_j36 locs_j36 N_j36 X_j36 e_j36 q_j36
      refine own_to (fun _ kz => XS.iconst X_j36.here hx rfl (hb hby at_36) kz) ?_
      show own_Fin p e below G (T_j36.setTop (mkF m 37 #[.val (.int p0), .val (.int v1_11), .val (.ref a3), .val (.int v3_11), .unset] [(.int (0 : Int32))]))
      exact K37 (0 : Int32) _ _ N_j36 X_j36 e_j36 q_j36
    by_cases hc12 : v3_11 < (0 : Int32)
    · refine own_to (fun _ kz => XS.ifYes X3.here hx rfl (pc0 := 12) (pc' := 36) rfl (hb hby at_12) rfl ((if0 _ _).trans (tlt hc12).1) (by decide) (by decide) kz) ?_
      have q12t := q_j11.trans (if_pos hc12)
      show own_Fin p e below G (T3.setTop (mkF m 36 #[.val (.int p0), .val (.int v1_11), .val (.ref a3), .val (.int v3_11), .unset] []))
      exact K36 _ _ N0 X3 e3 q12t
    · refine own_to (fun _ kz => XS.ifNo X3.here hx rfl (hb hby at_12) rfl ((if0 _ _).trans (flt hc12).1) kz) ?_
      have q12f := q_j11.trans (if_neg hc12)
      show own_Fin p e below G (T3.setTop (mkF m 15 #[.val (.int p0), .val (.int v1_11), .val (.ref a3), .val (.int v3_11), .unset] []))
      refine own_to (fun _ kz => XS.iloadN X3.here hx rfl (hb hby at_15) rfl  kz) ?_
      show own_Fin p e below G (T3.setTop (mkF m 16 #[.val (.int p0), .val (.int v1_11), .val (.ref a3), .val (.int v3_11), .unset] [(.int v3_11)]))
      refine own_to (fun _ kz => XS.aloadN X3.here hx rfl (hb hby at_16) rfl (rfl)  kz) ?_
      show own_Fin p e below G (T3.setTop (mkF m 17 #[.val (.int p0), .val (.int v1_11), .val (.ref a3), .val (.int v3_11), .unset] [(.ref a3), (.int v3_11)]))
      have S_COMPACT_STRINGS_at_17 : Sta Z h3 "java/lang/String" "COMPACT_STRINGS" "Z" (.int cz) := (S_COMPACT_STRINGS.ext E3)
      obtain ⟨cq17, kq17, qa17, qb17, qc17⟩ := isOf hZ e3 A3
      obtain ⟨_, _, ⟨T17, L17, k17, n17⟩, -, X17, ⟨Lc17, hQ17, l17, y17, z17⟩, st17⟩ := X3.virtualBack hx (y := (⟨"java/lang/String", "length", "()I"⟩ : MethodName)) (z := (⟨"java/lang/String", "length", "()I"⟩ : MethodName)) hown (mvT hZ (hw _ (List.mem_of_getElem? (i := 12) rfl))) (mvT hZ (hw _ (List.mem_of_getElem? (i := 13) rfl))) (notFace_of_selects (args := #[]) (mvT hZ (hw _ (List.mem_of_getElem? (i := 15) rfl)))) (mvT hZ (hw _ (List.mem_of_getElem? (i := 15) rfl))) (mvT hZ (hw _ (List.mem_of_getElem? (i := 14) rfl))) (by decide) (backOf (W := 1) (rm2 l Z a0 hw [] a3 own_lit0 b3 cz h3 n0 Z_3 A3 Fc3 Fv3 V3 S_COMPACT_STRINGS_at_17 hcz) hZ (hw _ (List.mem_of_getElem? (i := 16) rfl)) (hw _ (List.mem_of_getElem? (i := 1) rfl)) (by decide) (by decide)) qa17 qc17 (g := (mkF m 17 #[.val (.int p0), .val (.int v1_11), .val (.ref a3), .val (.int v3_11), .unset] [(.ref a3), (.int v3_11)])) rfl (by rw [hml]; rfl) (Steps.refl _) (argsL := []) (rest := [(.int v3_11)]) (lenOf own_pd5 rfl) rfl (by show 2 * 0 + _ ≤ _; exact Nat.le_of_eq rfl) (hb hby at_17) (fun _ _ => ⟨rfl, e3, (by decide : 2 + 0 ≤ _), (by decide : 44 + 0 ≤ _)⟩)
      dsimp only [Pt.U, Pt.locs, Pt.cells, Pt.slots] at X17 l17 y17 z17 st17 hQ17
      subst l17 y17 z17
      obtain ⟨rfl, N17q, e17⟩ := hQ17
      obtain ⟨lo17, X17, N17⟩ : ∃ lo, Stand p l e _ (s.setVm T3.vm) m _ below meth c T17 lo _ _ ∧ Fr n0 lo := ⟨_, X17, Fr.app N0 N17q⟩
      refine own_via st17 ?_
      show own_Fin p e below G (T17.setTop (mkF m 20 #[.val (.int p0), .val (.int v1_11), .val (.ref a3), .val (.int v3_11), .unset] [(.int (10 : Int32)), (.int v3_11)]))
      by_cases hc20 : v3_11 < (10 : Int32)
      · refine own_to (fun _ kz => XS.icmpNo X17.here hx rfl (hb hby at_20) rfl (tlt hc20).2.1 kz) ?_
        have q20t := q12f.trans (if_pos hc20)
        show own_Fin p e below G (T17.setTop (mkF m 23 #[.val (.int p0), .val (.int v1_11), .val (.ref a3), .val (.int v3_11), .unset] []))
        refine own_to (fun _ kz => XS.aloadN X17.here hx rfl (hb hby at_23) rfl (rfl)  kz) ?_
        show own_Fin p e below G (T17.setTop (mkF m 24 #[.val (.int p0), .val (.int v1_11), .val (.ref a3), .val (.int v3_11), .unset] [(.ref a3)]))
        refine own_to (fun _ kz => XS.iloadN X17.here hx rfl (hb hby at_24) rfl  kz) ?_
        show own_Fin p e below G (T17.setTop (mkF m 25 #[.val (.int p0), .val (.int v1_11), .val (.ref a3), .val (.int v3_11), .unset] [(.int v3_11), (.ref a3)]))
        have S_SIOOBE_FORMATTER_at_25 : Sta Z h3 "jdk/internal/util/Preconditions" "SIOOBE_FORMATTER" "Ljava/util/function/BiFunction;" fm := (S_SIOOBE_FORMATTER.ext E3)
        obtain ⟨cq25, kq25, qa25, qb25, qc25⟩ := isOf hZ e17 A3
        obtain ⟨_, _, ⟨T25, L25, k25, n25⟩, -, X25, ⟨Lc25, hQ25, l25, y25, z25⟩, st25⟩ := X17.virtualBack hx (y := (⟨"java/lang/String", "charAt", "(I)C"⟩ : MethodName)) (z := (⟨"java/lang/String", "charAt", "(I)C"⟩ : MethodName)) hown (mvT hZ (hw _ (List.mem_of_getElem? (i := 25) rfl))) (mvT hZ (hw _ (List.mem_of_getElem? (i := 26) rfl))) (notFace_of_selects (args := #[]) (mvT hZ (hw _ (List.mem_of_getElem? (i := 28) rfl)))) (mvT hZ (hw _ (List.mem_of_getElem? (i := 28) rfl))) (mvT hZ (hw _ (List.mem_of_getElem? (i := 27) rfl))) (by decide) (backOf (W := 0) (rm4 l Z a0 hw [] a3 v3_11 own_lit0 b3 cz fm h3 n0 Z_3 A3 Fc3 Fv3 V3 S_COMPACT_STRINGS_at_17 hcz S_SIOOBE_FORMATTER_at_25 r_fm hc12 hc20 (own_lt10 hc12 hc20)) hZ (hw _ (List.mem_of_getElem? (i := 29) rfl)) (hw _ (List.mem_of_getElem? (i := 1) rfl)) (by decide) (by decide)) qa25 qc25 (g := (mkF m 25 #[.val (.int p0), .val (.int v1_11), .val (.ref a3), .val (.int v3_11), .unset] [(.int v3_11), (.ref a3)])) rfl (by rw [hml]; rfl) (Steps.refl _) (argsL := [(.int v3_11)]) (rest := []) (lenOf own_pd6 rfl) rfl (by show 2 * 0 + _ ≤ _; exact Nat.le_of_eq rfl) (hb hby at_25) (fun _ _ => ⟨rfl, e17, (by decide : 2 + 0 ≤ _), (by decide : 44 + 0 ≤ _)⟩)
        dsimp only [Pt.U, Pt.locs, Pt.cells, Pt.slots] at X25 l25 y25 z25 st25 hQ25
        subst l25 y25 z25
        obtain ⟨rfl, N25q, e25⟩ := hQ25
        obtain ⟨lo25, X25, N25⟩ : ∃ lo, Stand p l e _ (s.setVm T3.vm) m _ below meth c T25 lo _ _ ∧ Fr n0 lo := ⟨_, X25, Fr.app N17 N25q⟩
        refine own_via st25 ?_
        show own_Fin p e below G (T25.setTop (mkF m 28 #[.val (.int p0), .val (.int v1_11), .val (.ref a3), .val (.int v3_11), .unset] [(.int (f4 v3_11 own_lit0))]))
        refine own_to (fun _ kz => XS.iloadN X25.here hx rfl (hb hby at_28) rfl  kz) ?_
        show own_Fin p e below G (T25.setTop (mkF m 29 #[.val (.int p0), .val (.int v1_11), .val (.ref a3), .val (.int v3_11), .unset] [(.int v1_11), (.int (f4 v3_11 own_lit0))]))
        by_cases hc29 : (f4 v3_11 own_lit0) = v1_11
        · refine own_to (fun _ kz => XS.icmpNo X25.here hx rfl (hb hby at_29) rfl (teq hc29).2 kz) ?_
          have q29t := q20t.trans (if_pos hc29)
          show own_Fin p e below G (T25.setTop (mkF m 32 #[.val (.int p0), .val (.int v1_11), .val (.ref a3), .val (.int v3_11), .unset] []))
          refine own_to (fun _ kz => XS.iconst X25.here hx rfl (hb hby at_32) kz) ?_
          show own_Fin p e below G (T25.setTop (mkF m 33 #[.val (.int p0), .val (.int v1_11), .val (.ref a3), .val (.int v3_11), .unset] [(.int (1 : Int32))]))
          refine own_to (fun _ kz => XS.goto X25.here hx rfl (pc0 := 33) (pc' := 37) rfl (hb hby at_33) (by decide) (by decide) kz) ?_
          show own_Fin p e below G (T25.setTop (mkF m 37 #[.val (.int p0), .val (.int v1_11), .val (.ref a3), .val (.int v3_11), .unset] [(.int (1 : Int32))]))
          exact K37 (1 : Int32) _ _ N25 X25 e25 q29t
        · refine own_to (fun _ kz => XS.icmpYes X25.here hx rfl (pc0 := 29) (pc' := 36) rfl (hb hby at_29) rfl (feq hc29).2 (by decide) (by decide) kz) ?_
          have q29f := q20t.trans (if_neg hc29)
          show own_Fin p e below G (T25.setTop (mkF m 36 #[.val (.int p0), .val (.int v1_11), .val (.ref a3), .val (.int v3_11), .unset] []))
          exact K36 _ _ N25 X25 e25 q29f
      · refine own_to (fun _ kz => XS.icmpYes X17.here hx rfl (pc0 := 20) (pc' := 36) rfl (hb hby at_20) rfl (flt hc20).2.1 (by decide) (by decide) kz) ?_
        have q20f := q12f.trans (if_neg hc20)
        show own_Fin p e below G (T17.setTop (mkF m 36 #[.val (.int p0), .val (.int v1_11), .val (.ref a3), .val (.int v3_11), .unset] []))
        exact K36 _ _ N17 X17 e17 q20f
  exact K11 (p0.toUInt32.toUInt16.toUInt32.toInt32) ((p0.toUInt32.toUInt16.toUInt32.toInt32) - (48 : Int32)) q0
theorem own_small : ∀ k : Fin 10, f0_11 0 (Int32.ofNat (48 + k.1)) (Int32.ofNat k.1) = 1 := by decide +kernel
theorem own_mid (p0 c : Int32) (h0 : 0 ≤ c.toInt) (h1 : c.toInt < 65536) : f0_11 p0 c (c - 48) = 1 := by
  show f0_11 0 c (c - 48) = 1
  have e48 : (48 : Int32).toInt = 48 := by decide
  have e57 : (57 : Int32).toInt = 57 := by decide
  have e0 : (0 : Int32).toInt = 0 := by decide
  have e10 : (10 : Int32).toInt = 10 := by decide
  have ed : (c - 48).toInt = c.toInt - 48 := by rw [Int32.toInt_sub, e48]; exact Int.bmod_eq_of_le (by omega) (by omega)
  by_cases h : 48 ≤ c.toInt ∧ c.toInt < 58
  · have e : c = Int32.ofNat (48 + (c.toInt - 48).toNat) := by
      apply Int32.toInt_inj.mp
      rw [Int32.toInt_ofNat_of_lt (by omega)]; omega
    have e' : c - 48 = Int32.ofNat (c.toInt - 48).toNat := by
      apply Int32.toInt_inj.mp
      rw [Int32.toInt_ofNat_of_lt (by omega), ed]; omega
    exact (congr (congrArg (f0_11 0) e) e').trans (own_small ⟨(c.toInt - 48).toNat, by omega⟩)
  · by_cases g : c.toInt < 48
    · have a1 : (c - 48) < (0 : Int32) := by rw [Int32.lt_iff_toInt_lt, ed]; omega
      have a2 : c < (48 : Int32) := by rw [Int32.lt_iff_toInt_lt]; omega
      simp [f0_11, f0_36, f0_37, f0, f1_16, f1, a1, a2]
    · have a1 : ¬ (c - 48) < (0 : Int32) := by rw [Int32.lt_iff_toInt_lt, ed]; omega
      have a2 : ¬ c < (48 : Int32) := by rw [Int32.lt_iff_toInt_lt]; omega
      have a3 : ¬ (c - 48) < (10 : Int32) := by rw [Int32.lt_iff_toInt_lt, ed]; omega
      have a4 : (57 : Int32) < c := by rw [Int32.lt_iff_toInt_lt]; omega
      simp [f0_11, f0_36, f0_37, f0, f1_16, f1, a1, a2, a3, a4]
theorem own_plain (p0 : Int32) : f0 p0 = 1 := own_mid p0 _ (c_i2c _).2.1 (c_i2c _).2.2
set_option maxRecDepth 65536 in
set_option maxHeartbeats 40000000 in
theorem comes_1 {Post : Tables → Env → Array Value → State → Outcome → State → Prop} (hpost : ∀ tb e args s v u, (limb_1_1.after args s (.returned v) u = true ∧ limb_1_2.after args s (.returned v) u = true ∧ True) → ReturnedEndW s (.returned v) u (Jvm.fieldLocs frame_1_writes args s ++ Jvm.arrayLocs frame_1_arrays args s ++ Jvm.staticLocs frame_1_statics s) 8 1088 → Post tb e args s (.returned v) u) :
    ArmFor flags0 classFile x code maxLocals ret World_1 tables_1 room_1 Calls_1 rest_1 Pre_1 Post := by
  intro l hfl _ _ p e ha hc hk s m args below hf hA hF happ hP
  obtain ⟨hcalls, hrest, hpre⟩ := hP
  obtain ⟨-, -, -, hnamed, -, -, -, hat⟩ := (Spec.applies_iff hf).mp happ
  obtain ⟨hg, hn⟩ := and_e (Cond.before_iff.mp (show (Jvm.Cond.and given_1 narrow_1).before args s = true from hpre))
  obtain ⟨gg1, gg2⟩ := and_e hg
  obtain ⟨w0, rfl⟩ : ∃ w0 : Value, args = #[w0] := by
    have hs : args.size = 1 := by simpa [Cond.value, given_1] using gg1
    obtain ⟨L⟩ := args
    match L, hs with
    | [w0], _ => exact ⟨w0, rfl⟩
  have hw := fun d (hd : d ∈ tables_1) => atoms_spec (ws := Jvm.Cond.code x code maxLocals ret :: tables_1) hat d (List.mem_cons_of_mem _ hd)
  obtain ⟨i0, ei0⟩ := is_v gg2
  obtain rfl : w0 = (.int i0) := Option.some.inj ei0
  obtain ⟨hsets, -⟩ := atoms_of _ (rest_1_c_eq ▸ (show rest_1_c.before _ s = true from hrest))
  obtain ⟨sv_COMPACT_STRINGS, se_COMPACT_STRINGS⟩ := is_v (Cond.before_iff.mp (hsets _ (List.mem_of_getElem? (i := 1) rfl)))
  have S_COMPACT_STRINGS : Sta s s.heap "java/lang/String" "COMPACT_STRINGS" "Z" (.int sv_COMPACT_STRINGS) := Sta.start se_COMPACT_STRINGS (Or.inl (hsets _ (List.mem_of_getElem? (i := 0) rfl)))
  have sn_COMPACT_STRINGS : ¬ (sv_COMPACT_STRINGS = (0 : Int32)) := gotF (Cond.eq_ints se_COMPACT_STRINGS (Term.int_eval (0))) (not_v (Cond.before_iff.mp (hsets _ (List.mem_of_getElem? (i := 2) rfl))))
  obtain ⟨sv_SIOOBE_FORMATTER, se_SIOOBE_FORMATTER, sr_SIOOBE_FORMATTER⟩ := isR_v (Cond.before_iff.mp (hsets _ (List.mem_of_getElem? (i := 8) rfl)))
  have S_SIOOBE_FORMATTER : Sta s s.heap "jdk/internal/util/Preconditions" "SIOOBE_FORMATTER" "Ljava/util/function/BiFunction;" sv_SIOOBE_FORMATTER := Sta.start se_SIOOBE_FORMATTER (Or.inl (hsets _ (List.mem_of_getElem? (i := 7) rfl)))
  have hCH := CHv.start (own_EW hw) (fun q hq => hcalls.1 q hq) (hsets _ (List.mem_of_getElem? (i := 2) rfl)) (hw _ (List.mem_of_getElem? (i := 3) rfl)) (hw _ (List.mem_of_getElem? (i := 2) rfl))
  obtain ⟨n, o, h1, h2, h3, v, L, rfl, ⟨hv, N, -⟩, -, hq⟩ := rm0 l s _ hw tables_1 i0 sv_COMPACT_STRINGS sv_SIOOBE_FORMATTER s.heap s.heap.size (Nat.le_refl _) S_COMPACT_STRINGS sn_COMPACT_STRINGS S_SIOOBE_FORMATTER sr_SIOOBE_FORMATTER p e ha hc hk s m _ below hf ((Spec.applies_iff_loose hf).mp happ).1 ⟨rfl, State.Warmed39.refl s, rfl, hCH⟩ trivial
  obtain rfl : v = some (.int 1) := hv.trans (congrArg (fun z => some (Value.int z)) (own_plain i0))
  refine ⟨n, _, h1, h2, h3, hpost _ _ _ _ _ _ ⟨Cond.after_iff.mpr rfl, Cond.after_iff.mpr (eq_i res_at (Term.int_eval (1)) rfl), trivial⟩ ⟨hq.1, hq.2.1, hq.2.2.1, (hq.2.2.2.sift fun y hy => Or.inr (N y hy)).mono (by decide) (by decide)⟩⟩
theorem main_1_1 : Claimed_1_1 := comes_1 fun _ _ _ _ _ _ h hF => ⟨h.1, hF⟩
theorem main_1_2 : Claimed_1_2 := comes_1 fun _ _ _ _ _ _ h hF => ⟨h.2.1, hF⟩
end Jvm.Pilot.@@N@@
namespace Jvm.Pilot.@@N@@
open Jvm Jvm.ClassFile Sem Op Lib Jvm.Free Jvm.Stand Jvm.Pilot.@@N@@.Jvm.D
/-! MADE BY PROGRAM (witnessworld.py) out of the Statement's table words and the real class files: 17 classes; the members and pool entries that the words name. The judged class is class 1, her method 1. -/
namespace start1
open Jvm.ClassFile
def u (s : String) : CpInfo := .utf8 (stringToUtf16 s)
/-- a pool by its gaps: so many unusable entries, then the entry; so many at the end -/
def gap : Nat → List CpInfo → List CpInfo
  | 0, r => r
  | n + 1, r => .unusable :: gap n r
def poolList (es : List (Nat × CpInfo)) (last : Nat) : List CpInfo := es.foldr (fun e r => gap e.1 (e.2 :: r)) (gap last [])
def pool (es : List (Nat × CpInfo)) (last : Nat) : Array CpInfo := ⟨poolList es last⟩
def fileOf (pool : Array CpInfo) (this : Nat) (attrs : Array Attribute := #[]) (ms : Array MethodInfo := #[]) (fl : Nat := 33) (sup : Nat := 0) (ifs : Array Nat := #[]) (fds : Array FieldInfo := #[]) : ClassFile where
  minorVersion := 0
  majorVersion := 65
  constantPool := pool
  accessFlags := fl
  thisClass := this
  superClass := sup
  interfaces := ifs
  fields := fds
  methods := ms
  attributes := attrs
def plain (name : String) (sup : Option ClassId) : Class where
  name := name
  kind := .ordinary
  loader := none
  accessFlags := 33
  super := sup
  interfaces := #[]
  cf := none
  fields := #[]
  methods := #[]
  instanceTypes := #[]
  staticTypes := #[]
  resolved := #[]
  callSites := []
  init := .initialized
  statics := none
  mirror := none

def pool0 : Array CpInfo := pool [(5, u "<init>"), (0, u "()V"), (1, .class_ 10), (1, u "java/lang/Object")] 113

def k0m0 : Method := { name := "<init>", desc := "()V", sig := { parameters := [], returnType := none }, accessFlags := 1, code := none }
/-- java/lang/Object -/
def k0 : Class := { plain "java/lang/Object" none with
  accessFlags := 33
  interfaces := #[]
  cf := some (fileOf pool0 8 #[] #[{ accessFlags := 1, nameIndex := 5, descriptorIndex := 6, attributes := #[] }] 33 0 #[] #[])
  fields := #[]
  methods := #[k0m0]
  instanceTypes := #[]
  staticTypes := #[]
  resolved := Array.replicate 124 none
  statics := none }

def pool1 : Array CpInfo := pool [(2, .class_ 4), (1, u "java/lang/Object"), (0, u "<init>"), (0, u "()V"), (0, .string 8), (0, u "0123456789"), (0, .methodref 10 11), (0, .class_ 12), (0, .nameAndType 13 14), (0, u "java/lang/String"), (0, u "length"), (0, u "()I"), (0, .methodref 10 16), (0, .nameAndType 17 18), (0, u "charAt"), (0, u "(I)C"), (0, .methodref 20 21), (0, .class_ 22), (0, .nameAndType 23 24), (0, u "com/example/nuthatch/nuthatch/lang/Characters"), (0, u "isDigit"), (0, u "(C)Z"), (0, .class_ 26), (0, u "com/example/nuthatch/nuthatch/lang/CharactersIsDigitPinLaw"), (2, u "law"), (0, u "(I)Z")] 3

def k1m0 : Method := { name := "<init>", desc := "()V", sig := { parameters := [], returnType := none }, accessFlags := 2, code := none }
def k1c1 : Code := { maxStack := 2, maxLocals := 5, code := code, exceptionTable := #[], attributes := #[] }
def k1m1 : Method := { name := "law", desc := "(I)Z", sig := { parameters := [.int], returnType := some .boolean }, accessFlags := 9, code := some k1c1 }
/-- com/example/nuthatch/nuthatch/lang/CharactersIsDigitPinLaw -/
def k1 : Class := { plain "com/example/nuthatch/nuthatch/lang/CharactersIsDigitPinLaw" (some 0) with
  accessFlags := 49
  interfaces := #[]
  cf := some (fileOf pool1 25 #[] #[{ accessFlags := 2, nameIndex := 5, descriptorIndex := 6, attributes := #[] }, { accessFlags := 9, nameIndex := 29, descriptorIndex := 30, attributes := #[] }] 49 2 #[] #[])
  fields := #[]
  methods := #[k1m0, k1m1]
  instanceTypes := #[]
  staticTypes := #[]
  resolved := Array.replicate 34 none
  statics := none }

def pool2 : Array CpInfo := pool [(1, .class_ 2), (0, u "java/io/Serializable"), (0, .class_ 4), (0, u "java/lang/Object")] 2

/-- java/io/Serializable -/
def k2 : Class := { plain "java/io/Serializable" (some 0) with
  accessFlags := 1537
  interfaces := #[]
  cf := some (fileOf pool2 1 #[] #[] 1537 3 #[] #[])
  fields := #[]
  methods := #[]
  instanceTypes := #[]
  staticTypes := #[]
  resolved := Array.replicate 7 none
  statics := none }

def pool3 : Array CpInfo := pool [(1, .class_ 2), (0, u "java/lang/Comparable"), (0, .class_ 4), (0, u "java/lang/Object")] 7

/-- java/lang/Comparable -/
def k3 : Class := { plain "java/lang/Comparable" (some 0) with
  accessFlags := 1537
  interfaces := #[]
  cf := some (fileOf pool3 1 #[] #[] 1537 3 #[] #[])
  fields := #[]
  methods := #[]
  instanceTypes := #[]
  staticTypes := #[]
  resolved := Array.replicate 12 none
  statics := none }

def pool4 : Array CpInfo := pool [(2, .class_ 4), (1, u "java/lang/CharSequence"), (42, .class_ 48), (0, u "java/lang/CharSequence$1CodePointIterator"), (10, .class_ 60), (0, u "java/lang/CharSequence$1CharIterator"), (5, .class_ 67), (0, u "java/lang/Object")] 63

/-- java/lang/CharSequence -/
def k4 : Class := { plain "java/lang/CharSequence" (some 0) with
  accessFlags := 1537
  interfaces := #[]
  cf := some (fileOf pool4 2 #[.nestMembers #[47, 59]] #[] 1537 66 #[] #[])
  fields := #[]
  methods := #[]
  instanceTypes := #[]
  staticTypes := #[]
  resolved := Array.replicate 131 none
  statics := none }

def pool5 : Array CpInfo := pool [(1, .class_ 2), (0, u "java/lang/constant/Constable"), (0, .class_ 4), (0, u "java/lang/Object")] 6

/-- java/lang/constant/Constable -/
def k5 : Class := { plain "java/lang/constant/Constable" (some 0) with
  accessFlags := 1537
  interfaces := #[]
  cf := some (fileOf pool5 1 #[] #[] 1537 3 #[] #[])
  fields := #[]
  methods := #[]
  instanceTypes := #[]
  staticTypes := #[]
  resolved := Array.replicate 11 none
  statics := none }

def pool6 : Array CpInfo := pool [(1, .class_ 2), (0, u "java/lang/constant/ConstantDesc"), (0, .class_ 4), (0, u "java/lang/Object")] 32

/-- java/lang/constant/ConstantDesc -/
def k6 : Class := { plain "java/lang/constant/ConstantDesc" (some 0) with
  accessFlags := 1537
  interfaces := #[]
  cf := some (fileOf pool6 1 #[] #[] 1537 3 #[] #[])
  fields := #[]
  methods := #[]
  instanceTypes := #[]
  staticTypes := #[]
  resolved := Array.replicate 37 none
  statics := none }

def pool7 : Array CpInfo := pool [(2, .class_ 4), (1, u "java/lang/Object"), (0, u "<init>"), (0, u "()V"), (2, .fieldref 10 11), (0, .class_ 12), (0, .nameAndType 13 14), (0, u "java/lang/String"), (0, u "value"), (0, u "[B"), (0, .fieldref 10 16), (0, .nameAndType 17 18), (0, u "coder"), (0, u "B"), (2, u "hash"), (0, u "I"), (2, u "hashIsZero"), (0, u "Z"), (11, .fieldref 10 39), (0, .nameAndType 40 26), (0, u "COMPACT_STRINGS"), (66, .class_ 109), (1, u "java/lang/StringLatin1"), (32, u "()Z"), (191, u "()I"), (0, .methodref 10 336), (0, .nameAndType 17 337), (0, u "()B"), (25, u "([BI)C"), (27, u "(II)V"), (35, u "(I)C"), (64, .methodref 10 493), (0, .nameAndType 494 142), (0, u "isLatin1"), (0, .methodref 107 496), (0, .nameAndType 497 363), (0, u "charAt"), (3, u "checkIndex"), (5, u "length"), (67, .class_ 576), (0, u "java/lang/CharSequence"), (22, u "CASE_INSENSITIVE_ORDER"), (0, u "Ljava/util/Comparator;"), (452, .fieldref 1054 1055), (0, .class_ 1056), (0, .nameAndType 1057 1058), (0, u "jdk/internal/util/Preconditions"), (0, u "SIOOBE_FORMATTER"), (0, u "Ljava/util/function/BiFunction;"), (0, .methodref 1054 1060), (0, .nameAndType 501 1061), (0, u "(IILjava/util/function/BiFunction;)I"), (39, u "serialPersistentFields"), (0, u "[Ljava/io/ObjectStreamField;"), (0, .class_ 1104), (0, u "java/lang/String$CaseInsensitiveComparator"), (1, .class_ 1107), (0, u "java/io/Serializable"), (0, .class_ 1109), (0, u "java/lang/Comparable"), (0, .class_ 1111), (0, u "java/lang/constant/Constable"), (0, .class_ 1113), (0, u "java/lang/constant/ConstantDesc"), (2, u "serialVersionUID"), (0, u "J"), (3, u "REPL"), (0, u "C"), (2, u "LATIN1"), (1, u "UTF16")] 323

def k7m0 : Method := { name := "<init>", desc := "()V", sig := { parameters := [], returnType := none }, accessFlags := 1, code := none }
def k7c1 : Code := { maxStack := 2, maxLocals := 1, code := jdk_42_method_54_code, exceptionTable := #[], attributes := #[] }
def k7m1 : Method := { name := "length", desc := "()I", sig := { parameters := [], returnType := some .int }, accessFlags := 1, code := some k7c1 }
def k7c2 : Code := { maxStack := 2, maxLocals := 2, code := jdk_42_method_56_code, exceptionTable := #[], attributes := #[] }
def k7m2 : Method := { name := "charAt", desc := "(I)C", sig := { parameters := [.int], returnType := some .char }, accessFlags := 1, code := some k7c2 }
def k7c3 : Code := { maxStack := 1, maxLocals := 1, code := jdk_42_method_152_code, exceptionTable := #[], attributes := #[] }
def k7m3 : Method := { name := "coder", desc := "()B", sig := { parameters := [], returnType := some .byte }, accessFlags := 0, code := some k7c3 }
def k7c4 : Code := { maxStack := 1, maxLocals := 1, code := jdk_42_method_154_code, exceptionTable := #[], attributes := #[] }
def k7m4 : Method := { name := "isLatin1", desc := "()Z", sig := { parameters := [], returnType := some .boolean }, accessFlags := 0, code := some k7c4 }
def k7c5 : Code := { maxStack := 3, maxLocals := 2, code := jdk_42_method_155_code, exceptionTable := #[], attributes := #[] }
def k7m5 : Method := { name := "checkIndex", desc := "(II)V", sig := { parameters := [.int, .int], returnType := none }, accessFlags := 8, code := some k7c5 }
/-- java/lang/String -/
def k7 : Class := { plain "java/lang/String" (some 0) with
  accessFlags := 49
  interfaces := #[2, 3, 4, 5, 6]
  cf := some (fileOf pool7 10 #[.nestMembers #[1103]] #[{ accessFlags := 1, nameIndex := 5, descriptorIndex := 6, attributes := #[] }, { accessFlags := 1, nameIndex := 507, descriptorIndex := 334, attributes := #[] }, { accessFlags := 1, nameIndex := 497, descriptorIndex := 427, attributes := #[] }, { accessFlags := 0, nameIndex := 17, descriptorIndex := 337, attributes := #[] }, { accessFlags := 0, nameIndex := 494, descriptorIndex := 142, attributes := #[] }, { accessFlags := 8, nameIndex := 501, descriptorIndex := 391, attributes := #[] }] 49 2 #[1106, 1108, 575, 1110, 1112] #[{ accessFlags := 18, nameIndex := 13, descriptorIndex := 14, attributes := #[] }, { accessFlags := 18, nameIndex := 17, descriptorIndex := 18, attributes := #[] }, { accessFlags := 2, nameIndex := 21, descriptorIndex := 22, attributes := #[] }, { accessFlags := 2, nameIndex := 25, descriptorIndex := 26, attributes := #[] }, { accessFlags := 26, nameIndex := 1116, descriptorIndex := 1117, attributes := #[] }, { accessFlags := 24, nameIndex := 40, descriptorIndex := 26, attributes := #[] }, { accessFlags := 26, nameIndex := 1101, descriptorIndex := 1102, attributes := #[] }, { accessFlags := 26, nameIndex := 1121, descriptorIndex := 1122, attributes := #[] }, { accessFlags := 25, nameIndex := 599, descriptorIndex := 600, attributes := #[] }, { accessFlags := 24, nameIndex := 1125, descriptorIndex := 18, attributes := #[] }, { accessFlags := 24, nameIndex := 1127, descriptorIndex := 18, attributes := #[] }])
  fields := #[{ name := "value", type := (.array .byte), accessFlags := 18, slot := 0, constantValue := 0 }, { name := "coder", type := .byte, accessFlags := 18, slot := 1, constantValue := 0 }, { name := "hash", type := .int, accessFlags := 2, slot := 2, constantValue := 0 }, { name := "hashIsZero", type := .boolean, accessFlags := 2, slot := 3, constantValue := 0 }, { name := "serialVersionUID", type := .long, accessFlags := 26, slot := 0, constantValue := 0 }, { name := "COMPACT_STRINGS", type := .boolean, accessFlags := 24, slot := 1, constantValue := 0 }, { name := "serialPersistentFields", type := (.array (.object "java/io/ObjectStreamField")), accessFlags := 26, slot := 2, constantValue := 0 }, { name := "REPL", type := .char, accessFlags := 26, slot := 3, constantValue := 0 }, { name := "CASE_INSENSITIVE_ORDER", type := (.object "java/util/Comparator"), accessFlags := 25, slot := 4, constantValue := 0 }, { name := "LATIN1", type := .byte, accessFlags := 24, slot := 5, constantValue := 0 }, { name := "UTF16", type := .byte, accessFlags := 24, slot := 6, constantValue := 0 }]
  methods := #[k7m0, k7m1, k7m2, k7m3, k7m4, k7m5]
  instanceTypes := #[(.array .byte), .byte, .int, .boolean]
  staticTypes := #[.long, .boolean, (.array (.object "java/io/ObjectStreamField")), .char, (.object "java/util/Comparator"), .byte, .byte]
  resolved := Array.replicate 1451 none
  statics := some 0 }

def pool8 : Array CpInfo := pool [(2, .class_ 4), (1, u "java/lang/Object"), (0, u "<init>"), (0, u "()V"), (1, .class_ 10), (1, u "com/example/nuthatch/nuthatch/lang/Characters"), (1, u "(C)Z"), (2, u "isDigit")] 24

def k8m0 : Method := { name := "<init>", desc := "()V", sig := { parameters := [], returnType := none }, accessFlags := 2, code := none }
def k8c1 : Code := { maxStack := 2, maxLocals := 1, code := prog_7_method_2_code, exceptionTable := #[], attributes := #[] }
def k8m1 : Method := { name := "isDigit", desc := "(C)Z", sig := { parameters := [.char], returnType := some .boolean }, accessFlags := 8, code := some k8c1 }
/-- com/example/nuthatch/nuthatch/lang/Characters -/
def k8 : Class := { plain "com/example/nuthatch/nuthatch/lang/Characters" (some 0) with
  accessFlags := 48
  interfaces := #[]
  cf := some (fileOf pool8 8 #[] #[{ accessFlags := 2, nameIndex := 5, descriptorIndex := 6, attributes := #[] }, { accessFlags := 8, nameIndex := 15, descriptorIndex := 12, attributes := #[] }] 48 2 #[] #[])
  fields := #[]
  methods := #[k8m0, k8m1]
  instanceTypes := #[]
  staticTypes := #[]
  resolved := Array.replicate 40 none
  statics := none }

def pool9 : Array CpInfo := pool [(1, .class_ 2), (0, u "java/lang/String"), (1, .class_ 6), (1, u "java/lang/Object"), (0, u "<init>"), (0, u "()V"), (0, .methodref 1 10), (0, .nameAndType 11 12), (0, u "checkIndex"), (0, u "(II)V"), (1, .class_ 16), (1, u "java/lang/StringLatin1"), (36, u "([BI)C"), (67, u "$assertionsDisabled"), (0, u "Z"), (98, .class_ 223), (1, u "java/lang/StringLatin1$LinesSpliterator"), (28, u "charAt"), (137, .class_ 391), (0, u "java/lang/StringLatin1$CharsSpliterator")] 3

def k9m0 : Method := { name := "<init>", desc := "()V", sig := { parameters := [], returnType := none }, accessFlags := 0, code := none }
def k9c1 : Code := { maxStack := 2, maxLocals := 2, code := jdk_43_method_2_code, exceptionTable := #[], attributes := #[] }
def k9m1 : Method := { name := "charAt", desc := "([BI)C", sig := { parameters := [(.array .byte), .int], returnType := some .char }, accessFlags := 9, code := some k9c1 }
/-- java/lang/StringLatin1 -/
def k9 : Class := { plain "java/lang/StringLatin1" (some 0) with
  accessFlags := 48
  interfaces := #[]
  cf := some (fileOf pool9 14 #[.nestMembers #[390, 221]] #[{ accessFlags := 0, nameIndex := 7, descriptorIndex := 8, attributes := #[] }, { accessFlags := 9, nameIndex := 252, descriptorIndex := 53, attributes := #[] }] 48 4 #[] #[{ accessFlags := 4120, nameIndex := 121, descriptorIndex := 122, attributes := #[] }])
  fields := #[{ name := "$assertionsDisabled", type := .boolean, accessFlags := 4120, slot := 0, constantValue := 0 }]
  methods := #[k9m0, k9m1]
  instanceTypes := #[]
  staticTypes := #[.boolean]
  resolved := Array.replicate 395 none
  statics := none }

def pool10 : Array CpInfo := pool [(2, .class_ 4), (1, u "java/lang/Object"), (0, u "<init>"), (0, u "()V"), (17, .class_ 26), (1, u "jdk/internal/util/Preconditions"), (6, u "checkIndex"), (21, .class_ 56), (0, u "jdk/internal/util/Preconditions$4"), (57, .class_ 115), (0, u "jdk/internal/util/Preconditions$1"), (7, u "SIOOBE_FORMATTER"), (0, u "Ljava/util/function/BiFunction;"), (0, .class_ 126), (0, u "jdk/internal/util/Preconditions$2"), (3, u "AIOOBE_FORMATTER"), (0, .class_ 132), (0, u "jdk/internal/util/Preconditions$3"), (3, u "IOOBE_FORMATTER"), (41, u "(IILjava/util/function/BiFunction;)I")] 15

def k10m0 : Method := { name := "<init>", desc := "()V", sig := { parameters := [], returnType := none }, accessFlags := 1, code := none }
def k10c1 : Code := { maxStack := 3, maxLocals := 3, code := jdk_41_method_11_code, exceptionTable := #[], attributes := #[] }
def k10m1 : Method := { name := "checkIndex", desc := "(IILjava/util/function/BiFunction;)I", sig := { parameters := [.int, .int, (.object "java/util/function/BiFunction")], returnType := some .int }, accessFlags := 9, code := some k10c1 }
/-- jdk/internal/util/Preconditions -/
def k10 : Class := { plain "jdk/internal/util/Preconditions" (some 0) with
  accessFlags := 33
  interfaces := #[]
  cf := some (fileOf pool10 24 #[.nestMembers #[55, 131, 125, 114]] #[{ accessFlags := 1, nameIndex := 5, descriptorIndex := 6, attributes := #[] }, { accessFlags := 9, nameIndex := 33, descriptorIndex := 178, attributes := #[] }] 33 2 #[] #[{ accessFlags := 25, nameIndex := 123, descriptorIndex := 124, attributes := #[] }, { accessFlags := 25, nameIndex := 130, descriptorIndex := 124, attributes := #[] }, { accessFlags := 25, nameIndex := 136, descriptorIndex := 124, attributes := #[] }])
  fields := #[{ name := "SIOOBE_FORMATTER", type := (.object "java/util/function/BiFunction"), accessFlags := 25, slot := 0, constantValue := 0 }, { name := "AIOOBE_FORMATTER", type := (.object "java/util/function/BiFunction"), accessFlags := 25, slot := 1, constantValue := 0 }, { name := "IOOBE_FORMATTER", type := (.object "java/util/function/BiFunction"), accessFlags := 25, slot := 2, constantValue := 0 }]
  methods := #[k10m0, k10m1]
  instanceTypes := #[]
  staticTypes := #[(.object "java/util/function/BiFunction"), (.object "java/util/function/BiFunction"), (.object "java/util/function/BiFunction")]
  resolved := Array.replicate 194 none
  statics := some 1 }

def pool11 : Array CpInfo := pool [(9, u "<init>"), (6, .class_ 18), (1, u "java/lang/Object"), (0, u "()V"), (1, .class_ 23), (1, u "jdk/internal/util/ArraysSupport"), (0, u "LOG2_ARRAY_LONG_INDEX_SCALE"), (0, u "I"), (2, u "U"), (0, u "Ljdk/internal/misc/Unsafe;"), (8, u "BIG_ENDIAN"), (0, u "Z"), (8, u "LOG2_BYTE_BIT_SIZE"), (4, u "LOG2_ARRAY_INT_INDEX_SCALE"), (54, u "JLA"), (0, u "Ljdk/internal/access/JavaLangAccess;"), (11, u "LOG2_ARRAY_BOOLEAN_INDEX_SCALE"), (9, u "LOG2_ARRAY_BYTE_INDEX_SCALE"), (5, u "LOG2_ARRAY_CHAR_INDEX_SCALE"), (5, u "LOG2_ARRAY_SHORT_INDEX_SCALE"), (18, u "LOG2_ARRAY_FLOAT_INDEX_SCALE"), (24, u "LOG2_ARRAY_DOUBLE_INDEX_SCALE"), (89, u "T_BOOLEAN"), (2, u "T_CHAR"), (1, u "T_FLOAT"), (1, u "T_DOUBLE"), (1, u "T_BYTE"), (1, u "T_SHORT"), (1, u "T_INT"), (1, u "T_LONG"), (1, u "SOFT_MAX_ARRAY_LENGTH")] 83

def k11m0 : Method := { name := "<init>", desc := "()V", sig := { parameters := [], returnType := none }, accessFlags := 2, code := none }
/-- jdk/internal/util/ArraysSupport -/
def k11 : Class := { plain "jdk/internal/util/ArraysSupport" (some 0) with
  accessFlags := 33
  interfaces := #[]
  cf := some (fileOf pool11 21 #[] #[{ accessFlags := 2, nameIndex := 9, descriptorIndex := 19, attributes := #[] }] 33 16 #[] #[{ accessFlags := 24, nameIndex := 28, descriptorIndex := 29, attributes := #[] }, { accessFlags := 26, nameIndex := 38, descriptorIndex := 39, attributes := #[] }, { accessFlags := 25, nameIndex := 121, descriptorIndex := 25, attributes := #[] }, { accessFlags := 25, nameIndex := 131, descriptorIndex := 25, attributes := #[] }, { accessFlags := 25, nameIndex := 137, descriptorIndex := 25, attributes := #[] }, { accessFlags := 25, nameIndex := 143, descriptorIndex := 25, attributes := #[] }, { accessFlags := 25, nameIndex := 53, descriptorIndex := 25, attributes := #[] }, { accessFlags := 25, nameIndex := 24, descriptorIndex := 25, attributes := #[] }, { accessFlags := 25, nameIndex := 162, descriptorIndex := 25, attributes := #[] }, { accessFlags := 25, nameIndex := 187, descriptorIndex := 25, attributes := #[] }, { accessFlags := 26, nameIndex := 48, descriptorIndex := 25, attributes := #[] }, { accessFlags := 25, nameIndex := 277, descriptorIndex := 25, attributes := #[] }, { accessFlags := 25, nameIndex := 280, descriptorIndex := 25, attributes := #[] }, { accessFlags := 25, nameIndex := 282, descriptorIndex := 25, attributes := #[] }, { accessFlags := 25, nameIndex := 284, descriptorIndex := 25, attributes := #[] }, { accessFlags := 25, nameIndex := 286, descriptorIndex := 25, attributes := #[] }, { accessFlags := 25, nameIndex := 288, descriptorIndex := 25, attributes := #[] }, { accessFlags := 25, nameIndex := 290, descriptorIndex := 25, attributes := #[] }, { accessFlags := 25, nameIndex := 292, descriptorIndex := 25, attributes := #[] }, { accessFlags := 26, nameIndex := 108, descriptorIndex := 109, attributes := #[] }, { accessFlags := 25, nameIndex := 294, descriptorIndex := 25, attributes := #[] }])
  fields := #[{ name := "U", type := (.object "jdk/internal/misc/Unsafe"), accessFlags := 24, slot := 0, constantValue := 0 }, { name := "BIG_ENDIAN", type := .boolean, accessFlags := 26, slot := 1, constantValue := 0 }, { name := "LOG2_ARRAY_BOOLEAN_INDEX_SCALE", type := .int, accessFlags := 25, slot := 2, constantValue := 0 }, { name := "LOG2_ARRAY_BYTE_INDEX_SCALE", type := .int, accessFlags := 25, slot := 3, constantValue := 0 }, { name := "LOG2_ARRAY_CHAR_INDEX_SCALE", type := .int, accessFlags := 25, slot := 4, constantValue := 0 }, { name := "LOG2_ARRAY_SHORT_INDEX_SCALE", type := .int, accessFlags := 25, slot := 5, constantValue := 0 }, { name := "LOG2_ARRAY_INT_INDEX_SCALE", type := .int, accessFlags := 25, slot := 6, constantValue := 0 }, { name := "LOG2_ARRAY_LONG_INDEX_SCALE", type := .int, accessFlags := 25, slot := 7, constantValue := 0 }, { name := "LOG2_ARRAY_FLOAT_INDEX_SCALE", type := .int, accessFlags := 25, slot := 8, constantValue := 0 }, { name := "LOG2_ARRAY_DOUBLE_INDEX_SCALE", type := .int, accessFlags := 25, slot := 9, constantValue := 0 }, { name := "LOG2_BYTE_BIT_SIZE", type := .int, accessFlags := 26, slot := 10, constantValue := 0 }, { name := "T_BOOLEAN", type := .int, accessFlags := 25, slot := 11, constantValue := 0 }, { name := "T_CHAR", type := .int, accessFlags := 25, slot := 12, constantValue := 0 }, { name := "T_FLOAT", type := .int, accessFlags := 25, slot := 13, constantValue := 0 }, { name := "T_DOUBLE", type := .int, accessFlags := 25, slot := 14, constantValue := 0 }, { name := "T_BYTE", type := .int, accessFlags := 25, slot := 15, constantValue := 0 }, { name := "T_SHORT", type := .int, accessFlags := 25, slot := 16, constantValue := 0 }, { name := "T_INT", type := .int, accessFlags := 25, slot := 17, constantValue := 0 }, { name := "T_LONG", type := .int, accessFlags := 25, slot := 18, constantValue := 0 }, { name := "JLA", type := (.object "jdk/internal/access/JavaLangAccess"), accessFlags := 26, slot := 19, constantValue := 0 }, { name := "SOFT_MAX_ARRAY_LENGTH", type := .int, accessFlags := 25, slot := 20, constantValue := 0 }]
  methods := #[k11m0]
  instanceTypes := #[]
  staticTypes := #[(.object "jdk/internal/misc/Unsafe"), .boolean, .int, .int, .int, .int, .int, .int, .int, .int, .int, .int, .int, .int, .int, .int, .int, .int, .int, (.object "jdk/internal/access/JavaLangAccess"), .int]
  resolved := Array.replicate 378 none
  statics := none }

def pool12 : Array CpInfo := pool [(1, u "java/lang/Cloneable"), (0, .class_ 1), (0, u "java/lang/Object"), (0, .class_ 3)] 3

/-- java/lang/Cloneable -/
def k12 : Class := { plain "java/lang/Cloneable" (some 0) with
  accessFlags := 1537
  interfaces := #[]
  cf := some (fileOf pool12 2 #[] #[] 1537 4 #[] #[])
  fields := #[]
  methods := #[]
  instanceTypes := #[]
  staticTypes := #[]
  resolved := Array.replicate 8 none
  statics := none }

/-- the primitive byte -/
def k13 : Class := { plain "byte" none with kind := .primitive 'B', accessFlags := 0x411 }
/-- [B -/
def k14 : Class := { plain "[B" (some 0) with kind := .array 13 .byte, interfaces := #[12, 2], accessFlags := 1041 }

/-- the primitive int -/
def k15 : Class := { plain "int" none with kind := .primitive 'I', accessFlags := 0x411 }
/-- [I -/
def k16 : Class := { plain "[I" (some 0) with kind := .array 15 .int, interfaces := #[12, 2], accessFlags := 1041 }

def heap : Heap := #[{ cls := 7, slots := #[.long 0, .int 1, .null, .int 0, .null, .int 0, .int 0], vm := .statics 7 },
  { cls := 10, slots := #[.null, .null, .null], vm := .statics 10 }]
def classes : Array Class := #[k0, k1, k2, k3, k4, k5, k6, k7, k8, k9, k10, k11, k12, k13, k14, k15, k16]
def interned : List (Array UInt16 × Addr) := []
def slotsUsed : Nat := 10
def theMethod : MethodId := ⟨1, 1⟩
def args0 : Array Value := #[.int 5]
def aboutOver (below : List Frame) : State where
  vm := { classes := classes, interned := interned.toArray }
  heap := heap
  slotsUsed := slotsUsed
  threads := #[{ frames := .invoking theMethod args0 :: below }]
def below0 : List Frame := [.native { method := ⟨0, 0⟩, args := #[] }]
def about1 : State := aboutOver below0
def p0 : Program := .bare "" "" ""
def e0 : Env := launch0.env 0 0 0
theorem w_frames : about1.frames = Frame.invoking theMethod args0 :: below0 := rfl
set_option maxRecDepth 65536 in
theorem w_args : argsFit about1.vm theMethod args0 = true := by decide +kernel
set_option maxRecDepth 65536 in
theorem w_heap : heapFits about1 = true := by decide +kernel
set_option maxRecDepth 65536 in
theorem w_runnable : about1.curStatus? = some .runnable := by decide +kernel
set_option maxRecDepth 65536 in
theorem w_alone : about1.alone = true := by decide +kernel
set_option maxRecDepth 65536 in
theorem w_named : about1.methodNamed? x = some theMethod := by decide +kernel
set_option maxRecDepth 65536 in
theorem w_hears : about1.hears theMethod below0 = true := by decide +kernel
set_option maxRecDepth 65536 in
theorem w_ripe : about1.ripe theMethod args0 below0 = true := by decide +kernel
theorem w_running : about1.status = .running := rfl
set_option maxRecDepth 65536 in
theorem w_room : about1.hasRoom e0.platform room_1 = true :=
  launch0.hasRoom_least _ room_1 (by decide +kernel) (by decide +kernel) (by decide +kernel) (by decide +kernel) (by decide +kernel) (by decide +kernel)
theorem allAtoms_all (ts : List Jvm.Cond) (a : Array Jvm.Value) (st : Jvm.State) : (allAtoms ts).before a st = ts.all (fun c => c.before a st) := by
  induction ts with
  | nil => rfl
  | cons c t ih =>
    show (Jvm.Cond.and c (allAtoms t)).before a st = _
    rw [Jvm.Cond.before_and, ih, List.all_cons]
def words1 : List Jvm.Cond := Jvm.Cond.code x code maxLocals ret :: tables_1
/-- a 'code' word, met by the world's own term for the bytes: nothing is compared byte by byte -/
theorem code_word {y : MethodName} {bytes : ByteArray} {mx : Nat} {rt : Option FieldType} {a : Array Value} {s : State} {m : MethodId} {meth : Method} {c : Code} (h1 : s.methodNamed? y = some m) (h2 : s.vm.method? m = some meth) (h3 : meth.code = some c) (h4 : c.code = bytes)
    (h5 : (c.maxLocals == mx && c.exceptionTable.isEmpty && decide (c.maxStack ≤ mostOperands) && decide (meth.sig.returnType = rt) && !meth.locks && decide (parseMethodDescriptor y.desc = some meth.sig)) = true) : (Jvm.Cond.code y bytes mx rt).before a s = true := by
  simp only [Bool.and_eq_true, beq_iff_eq, Bool.not_eq_true', decide_eq_true_eq] at h5
  obtain ⟨⟨⟨⟨⟨g1, g2⟩, g3⟩, g4⟩, g5⟩, g6⟩ := h5
  simp [Cond.before, Cond.holds, Cond.value, h1, h2, h3, h4, g1, g2, g3, g4, g5, g6]
def isCode : Jvm.Cond → Bool
  | .code _ _ _ _ => true
  | _ => false
theorem all_split {L : List Jvm.Cond} {P : Jvm.Cond → Bool} (h1 : L.all (fun c => isCode c || P c) = true) (h2 : ∀ c ∈ L.filter isCode, P c = true) : L.all P = true := by
  refine List.all_eq_true.mpr fun c hc => ?_
  have h := List.all_eq_true.mp h1 c hc
  rcases Bool.eq_false_or_eq_true (isCode c) with hi | hi
  · exact h2 c (List.mem_filter.mpr ⟨hc, hi⟩)
  · simpa [hi] using h
set_option maxRecDepth 65536 in
theorem w_c0 : (Jvm.Cond.code x code maxLocals ret).before args0 about1 = true := code_word (m := ⟨1, 1⟩) (meth := k1m1) (c := k1c1) (by decide +kernel) rfl rfl rfl (by decide +kernel)
set_option maxRecDepth 65536 in
theorem w_c1 : (Jvm.Cond.code ({ cls := "com/example/nuthatch/nuthatch/lang/Characters", name := "isDigit", desc := "(C)Z" } : Jvm.MethodName) prog_7_method_2_code (1 : Nat) (Option.some Jvm.ClassFile.FieldType.boolean)).before args0 about1 = true := code_word (m := ⟨8, 1⟩) (meth := k8m1) (c := k8c1) (by decide +kernel) rfl rfl rfl (by decide +kernel)
set_option maxRecDepth 65536 in
theorem w_c2 : (Jvm.Cond.code ({ cls := "java/lang/String", name := "length", desc := "()I" } : Jvm.MethodName) jdk_42_method_54_code (1 : Nat) (Option.some Jvm.ClassFile.FieldType.int)).before args0 about1 = true := code_word (m := ⟨7, 1⟩) (meth := k7m1) (c := k7c1) (by decide +kernel) rfl rfl rfl (by decide +kernel)
set_option maxRecDepth 65536 in
theorem w_c3 : (Jvm.Cond.code ({ cls := "java/lang/String", name := "coder", desc := "()B" } : Jvm.MethodName) jdk_42_method_152_code (1 : Nat) (Option.some Jvm.ClassFile.FieldType.byte)).before args0 about1 = true := code_word (m := ⟨7, 3⟩) (meth := k7m3) (c := k7c3) (by decide +kernel) rfl rfl rfl (by decide +kernel)
set_option maxRecDepth 65536 in
theorem w_c4 : (Jvm.Cond.code ({ cls := "java/lang/String", name := "charAt", desc := "(I)C" } : Jvm.MethodName) jdk_42_method_56_code (2 : Nat) (Option.some Jvm.ClassFile.FieldType.char)).before args0 about1 = true := code_word (m := ⟨7, 2⟩) (meth := k7m2) (c := k7c2) (by decide +kernel) rfl rfl rfl (by decide +kernel)
set_option maxRecDepth 65536 in
theorem w_c5 : (Jvm.Cond.code ({ cls := "java/lang/String", name := "isLatin1", desc := "()Z" } : Jvm.MethodName) jdk_42_method_154_code (1 : Nat) (Option.some Jvm.ClassFile.FieldType.boolean)).before args0 about1 = true := code_word (m := ⟨7, 4⟩) (meth := k7m4) (c := k7c4) (by decide +kernel) rfl rfl rfl (by decide +kernel)
set_option maxRecDepth 65536 in
theorem w_c6 : (Jvm.Cond.code ({ cls := "java/lang/StringLatin1", name := "charAt", desc := "([BI)C" } : Jvm.MethodName) jdk_43_method_2_code (2 : Nat) (Option.some Jvm.ClassFile.FieldType.char)).before args0 about1 = true := code_word (m := ⟨9, 1⟩) (meth := k9m1) (c := k9c1) (by decide +kernel) rfl rfl rfl (by decide +kernel)
set_option maxRecDepth 65536 in
theorem w_c7 : (Jvm.Cond.code ({ cls := "java/lang/String", name := "checkIndex", desc := "(II)V" } : Jvm.MethodName) jdk_42_method_155_code (2 : Nat) (Option.none : Option Jvm.ClassFile.FieldType)).before args0 about1 = true := code_word (m := ⟨7, 5⟩) (meth := k7m5) (c := k7c5) (by decide +kernel) rfl rfl rfl (by decide +kernel)
set_option maxRecDepth 65536 in
theorem w_c8 : (Jvm.Cond.code ({ cls := "jdk/internal/util/Preconditions", name := "checkIndex", desc := "(IILjava/util/function/BiFunction;)I" } : Jvm.MethodName) jdk_41_method_11_code (3 : Nat) (Option.some Jvm.ClassFile.FieldType.int)).before args0 about1 = true := code_word (m := ⟨10, 1⟩) (meth := k10m1) (c := k10c1) (by decide +kernel) rfl rfl rfl (by decide +kernel)
def codes1 : List Jvm.Cond := [Jvm.Cond.code x code maxLocals ret, Jvm.Cond.code ({ cls := "com/example/nuthatch/nuthatch/lang/Characters", name := "isDigit", desc := "(C)Z" } : Jvm.MethodName) prog_7_method_2_code (1 : Nat) (Option.some Jvm.ClassFile.FieldType.boolean), Jvm.Cond.code ({ cls := "java/lang/String", name := "length", desc := "()I" } : Jvm.MethodName) jdk_42_method_54_code (1 : Nat) (Option.some Jvm.ClassFile.FieldType.int), Jvm.Cond.code ({ cls := "java/lang/String", name := "coder", desc := "()B" } : Jvm.MethodName) jdk_42_method_152_code (1 : Nat) (Option.some Jvm.ClassFile.FieldType.byte), Jvm.Cond.code ({ cls := "java/lang/String", name := "charAt", desc := "(I)C" } : Jvm.MethodName) jdk_42_method_56_code (2 : Nat) (Option.some Jvm.ClassFile.FieldType.char), Jvm.Cond.code ({ cls := "java/lang/String", name := "isLatin1", desc := "()Z" } : Jvm.MethodName) jdk_42_method_154_code (1 : Nat) (Option.some Jvm.ClassFile.FieldType.boolean), Jvm.Cond.code ({ cls := "java/lang/StringLatin1", name := "charAt", desc := "([BI)C" } : Jvm.MethodName) jdk_43_method_2_code (2 : Nat) (Option.some Jvm.ClassFile.FieldType.char), Jvm.Cond.code ({ cls := "java/lang/String", name := "checkIndex", desc := "(II)V" } : Jvm.MethodName) jdk_42_method_155_code (2 : Nat) (Option.none : Option Jvm.ClassFile.FieldType), Jvm.Cond.code ({ cls := "jdk/internal/util/Preconditions", name := "checkIndex", desc := "(IILjava/util/function/BiFunction;)I" } : Jvm.MethodName) jdk_41_method_11_code (3 : Nat) (Option.some Jvm.ClassFile.FieldType.int)]
set_option maxRecDepth 65536 in
theorem codes_eq : words1.filter isCode = codes1 := rfl
theorem w_codes : ∀ c ∈ words1.filter isCode, c.before args0 about1 = true := by
  rw [codes_eq]
  intro c hc
  simp only [codes1, List.mem_cons, List.not_mem_nil, or_false] at hc
  rcases hc with rfl | rfl | rfl | rfl | rfl | rfl | rfl | rfl | rfl
  · exact w_c0
  · exact w_c1
  · exact w_c2
  · exact w_c3
  · exact w_c4
  · exact w_c5
  · exact w_c6
  · exact w_c7
  · exact w_c8
set_option maxRecDepth 65536 in
theorem w_t1 : (words1.take 24).all (fun c => isCode c || c.before args0 about1) = true := by decide +kernel
set_option maxRecDepth 65536 in
theorem w_t2 : (words1.drop 24).all (fun c => isCode c || c.before args0 about1) = true := by decide +kernel
theorem w_tables : (allAtoms (Jvm.Cond.code x code maxLocals ret :: tables_1)).before args0 about1 = true := by
  rw [allAtoms_all]
  show words1.all (fun c => c.before args0 about1) = true
  refine all_split ?_ w_codes
  rw [← List.take_append_drop 24 words1, List.all_append, w_t1, w_t2]
  rfl
set_option maxRecDepth 65536 in
theorem w_rest : rest_1_c.before args0 about1 = true := by decide +kernel
set_option maxRecDepth 65536 in
theorem w_case : (Jvm.Cond.and given_1 narrow_1).before args0 about1 = true := by decide +kernel
set_option maxRecDepth 65536 in
theorem w_consts : constsHeld consts_1 about1 := Jvm.Lit.constsHeldB_iff.mp (by decide +kernel)
theorem w_applies : (headSpec (Jvm.Cond.code x code maxLocals ret :: tables_1) room_1).applies x e0.platform about1 = true :=
  (Spec.applies_iff w_frames).mpr ⟨w_running, w_runnable, w_alone, w_named, w_hears, w_ripe, w_room, w_tables⟩
theorem atStart : AtStart classFile x code maxLocals ret World_1 tables_1 room_1 Calls_1 rest_1 Pre_1 launch0 p0 e0 about1 theMethod args0 below0 :=
  ⟨lists_1, trivial, launch0.admits_env _ _ _, launch0.least_env, fairChoices_fair.cas, fairChoices_fair.clock, w_frames, w_args, w_heap, w_applies, ⟨w_consts, trivial⟩, w_rest, w_case⟩
end start1
theorem witness_1 : WitnessClaimed_1 := ⟨start1.p0, start1.e0, start1.about1, start1.theMethod, start1.args0, start1.below0, start1.atStart⟩
end Jvm.Pilot.@@N@@
