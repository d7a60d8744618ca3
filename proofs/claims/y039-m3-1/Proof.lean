import JvmDerived
import JvmDerived.Pilot.@@N@@Statement
import JvmDerived.Pilot.@@N@@Code
set_option linter.unusedVariables false
set_option linter.unusedSimpArgs false

namespace Jvm.Pilot.@@N@@
open Jvm Jvm.ClassFile Sem Op Lib Jvm.Free Jvm.Stand Jvm.LawKit Jvm.RoadKit Bundle Jvm.Pilot.@@N@@.Jvm.D

section OwnKit
variable {p : Program} {l : Launch} {e : Env} {R : Room} {s : State} {m : MethodId} {args : Array Value} {below : List Frame} {meth : Method} {c : Code} {T : State} {locs : List Loc} {cells slots : Nat} {G : Outcome → State → Prop} {Q : Option Value → Heap → List Loc → Prop} {C S : Nat} {Z : State} {h h' : Heap}
/-- from the state t the invocation comes to an end of which G holds -/
def own_Fin (p : Program) (e : Env) (below : List Frame) (G : Outcome → State → Prop) (t : State) : Prop := ∃ s₂ o, Steps p.tables e below t s₂ ∧ s₂.status = .running ∧ Ended s₂ below o ∧ G o s₂
def own_G (s : State) (Q : Option Value → Heap → List Loc → Prop) (C S : Nat) (o : Outcome) (U' : State) : Prop := ∃ v L, o = .returned v ∧ Q v U'.heap L ∧ FrameEnd s o U' L C S
theorem own_to {t u : State} (h : ∀ z, Steps p.tables e below u z → Steps p.tables e below t z) (k : own_Fin p e below G u) : own_Fin p e below G t := by
  obtain ⟨a, b, c, d⟩ := k; exact ⟨a, b, h _ c, d⟩
theorem own_via {t u : State} (h : Steps p.tables e below t u) (k : own_Fin p e below G u) : own_Fin p e below G t := own_to (fun _ kz => h.trans kz) k
theorem own_retW (X : Stand p l e R s m args below meth c T locs cells slots) (hx : p.tables.exec = Jvm.exec) (hlk : meth.locks = false) (hG : G = own_G s Q C S) {f : JFrame} {w : Option Value} (hv : meth.sig.returnType = none → w = none)
    (st : ∀ fs, (∀ (f : JFrame) (acts : List Action), f.method = m → f.locked = none → f.entered = [] → (doReturn e (T.setTop f) acts w).1 = T.setFrames fs) → Steps p.tables e below (T.setTop f) (T.setFrames fs))
    (hc : cells ≤ C) (hs : slots ≤ S) (hQ : Q w T.heap locs) : own_Fin p e below G (T.setTop f) := by
  subst hG
  obtain ⟨fs, hr, hrun, hended, hW, hsame⟩ := X.leave (v := w) hv hlk
  exact ⟨_, _, st fs hr, hrun, hended, _, _, rfl, hQ, ⟨_, rfl⟩, hW, hsame.mono hc hs⟩
theorem own_retI (X : Stand p l e R s m args below meth c T locs cells slots) (hx : p.tables.exec = Jvm.exec) (hlk : meth.locks = false) (hG : G = own_G s Q C S) {pc : Nat} {Ls : Array Slot} {z : Int32} {rest : List Value} (hret : meth.sig.returnType = some .int) (hd : decode c.code pc = .ok (.ireturn, 1))
    (hc : cells ≤ C) (hs : slots ≤ S) (hQ : Q (some (.int z)) T.heap locs) : own_Fin p e below G (T.setTop (mkF m pc Ls (.int z :: rest))) :=
  own_retW X hx hlk hG (w := some (.int z)) (fun h => by rw [hret] at h; cases h) (fun fs hr => retOut X hx hret rfl (Or.inl ⟨rfl, Or.inl rfl, z, rfl⟩) hd hr) hc hs hQ
theorem own_retJ (X : Stand p l e R s m args below meth c T locs cells slots) (hx : p.tables.exec = Jvm.exec) (hlk : meth.locks = false) (hG : G = own_G s Q C S) {pc : Nat} {Ls : Array Slot} {z : Int64} {rest : List Value} (hret : meth.sig.returnType = some .long) (hd : decode c.code pc = .ok (.lreturn, 1))
    (hc : cells ≤ C) (hs : slots ≤ S) (hQ : Q (some (.long z)) T.heap locs) : own_Fin p e below G (T.setTop (mkF m pc Ls (.long z :: rest))) :=
  own_retW X hx hlk hG (w := some (.long z)) (fun h => by rw [hret] at h; cases h) (fun fs hr => retOut X hx hret rfl (Or.inr (Or.inl ⟨rfl, rfl, z, rfl⟩)) hd hr) hc hs hQ
theorem own_retA (X : Stand p l e R s m args below meth c T locs cells slots) (hx : p.tables.exec = Jvm.exec) (hlk : meth.locks = false) (hG : G = own_G s Q C S) {pc : Nat} {Ls : Array Slot} {w : Value} {rest : List Value} {t : FieldType} (hret : meth.sig.returnType = some t) (ht : t.isReference = true) (hw : w.isRef = true) (hd : decode c.code pc = .ok (.areturn, 1))
    (hc : cells ≤ C) (hs : slots ≤ S) (hQ : Q (some w) T.heap locs) : own_Fin p e below G (T.setTop (mkF m pc Ls (w :: rest))) :=
  own_retW X hx hlk hG (w := some w) (fun h => by rw [hret] at h; cases h) (fun fs hr => retOut X hx hret (by rcases ref_cases hw with rfl | ⟨a, rfl⟩ <;> cases t <;> first | rfl | (simp [FieldType.isReference] at ht)) (Or.inr (Or.inr (Or.inr (Or.inr ⟨rfl, ht, hw⟩)))) hd hr) hc hs hQ
theorem own_retN (X : Stand p l e R s m args below meth c T locs cells slots) (hx : p.tables.exec = Jvm.exec) (hlk : meth.locks = false) (hG : G = own_G s Q C S) {pc : Nat} {Ls : Array Slot} {z : Int32} {rest : List Value} {t : FieldType} (hret : meth.sig.returnType = some t) (ht : t = .boolean ∨ t = .byte ∨ t = .char ∨ t = .short) (hd : decode c.code pc = .ok (.ireturn, 1))
    (hc : cells ≤ C) (hs : slots ≤ S) (hQ : Q (some (.int (nar t z))) T.heap locs) : own_Fin p e below G (T.setTop (mkF m pc Ls (.int z :: rest))) :=
  own_retW X hx hlk hG (w := some (.int (nar t z))) (fun h => by rw [hret] at h; cases h) (fun fs hr => retN X hx hret ht hd hr) hc hs hQ
theorem own_retV (X : Stand p l e R s m args below meth c T locs cells slots) (hx : p.tables.exec = Jvm.exec) (hlk : meth.locks = false) (hG : G = own_G s Q C S) {pc : Nat} {Ls : Array Slot} (hret : meth.sig.returnType = none) (hd : decode c.code pc = .ok (.return_, 1))
    (hc : cells ≤ C) (hs : slots ≤ S) (hQ : Q none T.heap locs) : own_Fin p e below G (T.setTop (mkF m pc Ls [])) :=
  own_retW X hx hlk hG (w := none) (fun _ => rfl) (fun fs hr => X.returnOut hx hret hd hr) hc hs hQ
theorem own_lrem {g : JFrame} {target : State} (X : Stand p l e R s m args below meth c T locs cells slots) (hx : p.tables.exec = Jvm.exec) (hg : g.method = m) {x y : Int64} {rest : List Value} (hd : decode c.code g.pc = .ok (.lrem, 1)) (hs : g.stack = .long y :: .long x :: rest) (hy : y ≠ 0)
    (hr : Steps p.tables e below (T.setTop { g with pc := g.pc + 1, stack := .long (x % y) :: rest }) target) : Steps p.tables e below (T.setTop g) target := by
  have q : x - x / y * y = x % y := lrem_mod x y
  exact XS.lrem X.here hx hg hd hs hy (by rw [q]; exact hr)
def own_Pair (a b : Slot) : Prop := (a = .unset ∧ b = .unset) ∨ ∃ x, a = .val (.long x) ∧ b = .second
/-- the array at a has n places; place i holds mk (f i) -/
def own_AV {α : Type} (mk : α → Value) (Z : State) (h : Heap) (a : Addr) (ty : FieldType) (n : Nat) (f : Nat → α) : Prop := n < 2 ^ 31 ∧ ∃ c : Cell, Arr Z h a c ty ∧ c.slots.size = n ∧ ∀ i, i < n → c.slots[i]? = some (mk (f i))
def own_upd {α : Type} (f : Nat → α) (k : Nat) (v : α) : Nat → α := fun i => if i = k then v else f i
section
variable {α : Type} {mk : α → Value} {a b : Addr} {ty : FieldType} {n : Nat} {f f' : Nat → α} {ws : List Addr} {sl : Nat} {v : Value}
theorem own_AV.lt (F : own_AV mk Z h a ty n f) : a < h.size := by obtain ⟨_, c, A, -⟩ := F; exact A.lt
theorem own_AV.ext (F : own_AV mk Z h a ty n f) (E : Ext h h') : own_AV mk Z h' a ty n f := by obtain ⟨q, c, A, r⟩ := F; exact ⟨q, c, A.ext E, r⟩
theorem own_AV.other (F : own_AV mk Z h b ty n f) (W : Wr h h' a sl v) (q : b ≠ a) : own_AV mk Z h' b ty n f := by obtain ⟨q', c, A, r⟩ := F; exact ⟨q', c, A.other W q, r⟩
theorem own_AV.keep (F : own_AV mk Z h a ty n f) (K : Keep h h' ws) (q : a ∉ ws) : own_AV mk Z h' a ty n f := by obtain ⟨q', c, A, r⟩ := F; exact ⟨q', c, ⟨K.2.1 a c A.1 q, A.2⟩, r⟩
theorem own_AV.congr (F : own_AV mk Z h a ty n f) (q : ∀ i, i < n → f i = f' i) : own_AV mk Z h a ty n f' := by obtain ⟨q', c, A, r, s⟩ := F; exact ⟨q', c, A, r, fun i hi => by rw [s i hi, q i hi]⟩
theorem own_AV.new {k : ClassId} {z : Int32} (A : Arr Z h a (newA k ty z) ty) (q : ¬ z < 0) (hn : z.toNatClampNeg = n) (hf : ∀ i : Nat, defaultValue ty = mk (f i)) : own_AV mk Z h a ty n f := by
  refine ⟨hn ▸ (back32 q).2, _, A, (sz_new _ _ _).trans hn, fun i hi => ?_⟩
  rw [← hf i]; simp [newA, hn, hi]
theorem own_updr {P : α → Prop} {k : Nat} {w : α} (hv : P w) (hf : ∀ i, P (f i)) : ∀ i, P (own_upd f k w i) := fun i => by
  unfold own_upd; split
  · exact hv
  · exact hf i
theorem own_in {c : Cell} {j : Int32} {k : Nat} (S : c.slots.size = n) (hj : ¬ j < 0) (hk : j.toNatClampNeg = k) (hlt : k < n) : ¬ (j < 0 ∨ c.slots.size ≤ j.toNatClampNeg) := fun q => q.elim hj fun r => by omega
theorem own_AV.set {c : Cell} {j : Int32} {k : Nat} {w : α} (nn : n < 2 ^ 31) (A : Arr Z h a c ty) (S : c.slots.size = n) (H : ∀ i, i < n → c.slots[i]? = some (mk (f i))) (W : Wr h h' a j.toNatClampNeg (mk w)) (hk : j.toNatClampNeg = k) : own_AV mk Z h' a ty n (own_upd f k w) := by
  subst hk
  refine ⟨nn, _, A.same W, by rw [sz_set]; exact S, fun i hi => ?_⟩
  show (c.setSlot j.toNatClampNeg (mk w)).slots[i]? = some (mk (if i = j.toNatClampNeg then w else f i))
  simp only [Cell.setSlot]
  by_cases q : i = j.toNatClampNeg
  · subst q; rw [if_pos rfl]; simp [S, hi]
  · rw [if_neg q, Array.getElem?_setIfInBounds_ne (fun r => q r.symm)]; exact H i hi
theorem own_iaload (X : Stand p l e R s m args below meth c T locs cells slots) (hx : p.tables.exec = Jvm.exec) (hZ : Z.Warmed39 s.vm) (eT : T.heap = h) {f : Nat → Int32} (F : own_AV Value.int Z h a .int n f) {j : Int32} {k : Nat} (hj : ¬ j < 0) (hk : j.toNatClampNeg = k) (hlt : k < n)
    {g : JFrame} (hg : g.method = m) {rest : List Value} (hs : g.stack = .int j :: .ref a :: rest) (hd : decode c.code g.pc = .ok (.iaload, 1)) {target : State} (hr : Steps p.tables e below (T.setTop { g with pc := g.pc + 1, stack := .int (f k) :: rest }) target) : Steps p.tables e below (T.setTop g) target := by
  obtain ⟨_, cl, A, S, H⟩ := F
  exact X.iaload hx (j := j) (v := .int (f k)) (by rw [eT]; exact A.1) (State.isArrayOf_alike hZ.alike A.2.1) A.2.2 (own_in S hj hk hlt) (by rw [hk]; exact H k hlt) hg hs hd _ hr
theorem own_laload (X : Stand p l e R s m args below meth c T locs cells slots) (hx : p.tables.exec = Jvm.exec) (hZ : Z.Warmed39 s.vm) (eT : T.heap = h) {f : Nat → Int64} (F : own_AV Value.long Z h a .long n f) {j : Int32} {k : Nat} (hj : ¬ j < 0) (hk : j.toNatClampNeg = k) (hlt : k < n)
    {g : JFrame} (hg : g.method = m) {rest : List Value} (hs : g.stack = .int j :: .ref a :: rest) (hd : decode c.code g.pc = .ok (.laload, 1)) {target : State} (hr : Steps p.tables e below (T.setTop { g with pc := g.pc + 1, stack := .long (f k) :: rest }) target) : Steps p.tables e below (T.setTop g) target := by
  obtain ⟨_, cl, A, S, H⟩ := F
  exact X.laload hx (j := j) (v := .long (f k)) (by rw [eT]; exact A.1) (State.isArrayOf_alike hZ.alike A.2.1) A.2.2 (own_in S hj hk hlt) (by rw [hk]; exact H k hlt) hg hs hd _ hr
theorem own_baload (X : Stand p l e R s m args below meth c T locs cells slots) (hx : p.tables.exec = Jvm.exec) (hZ : Z.Warmed39 s.vm) (eT : T.heap = h) {f : Nat → Int32} (F : own_AV Value.int Z h a .byte n f) {j : Int32} {k : Nat} (hj : ¬ j < 0) (hk : j.toNatClampNeg = k) (hlt : k < n)
    {g : JFrame} (hg : g.method = m) {rest : List Value} (hs : g.stack = .int j :: .ref a :: rest) (hd : decode c.code g.pc = .ok (.baload, 1)) {target : State} (hr : Steps p.tables e below (T.setTop { g with pc := g.pc + 1, stack := .int (f k) :: rest }) target) : Steps p.tables e below (T.setTop g) target := by
  obtain ⟨_, cl, A, S, H⟩ := F
  exact X.baloadBytes hx (j := j) (v := .int (f k)) (by rw [eT]; exact A.1) (State.isArrayOf_alike hZ.alike A.2.1) A.2.2 (own_in S hj hk hlt) (by rw [hk]; exact H k hlt) hg hs hd _ hr
theorem own_cloneI (X : Stand p l e R s m args below meth c T locs cells slots) (hx : p.tables.exec = Jvm.exec) (hZ : Z.Warmed39 s.vm) {a0 : Array Value} {own ad : String} {index : Nat} (hown : s.vm.findClass own = some m.cls)
    (w1 : (Cond.methodLink own index ⟨ad, "clone", "()Ljava/lang/Object;"⟩).before a0 Z = true) (w2 : (Cond.sameMethod ad "java/lang/Object" "clone" "()Ljava/lang/Object;").before a0 Z = true) (w3 : (Cond.native ⟨"java/lang/Object", "clone", "()Ljava/lang/Object;"⟩).before a0 Z = true)
    (w4 : (Cond.instanceMethod ⟨"java/lang/Object", "clone", "()Ljava/lang/Object;"⟩).before a0 Z = true) (w5 : (Cond.selects ad ⟨ad, "clone", "()Ljava/lang/Object;"⟩ ⟨"java/lang/Object", "clone", "()Ljava/lang/Object;"⟩).before a0 Z = true) (w6 : (Cond.castable ad "java/lang/Cloneable").before a0 Z = true)
    (eT : T.heap = h) {f : Nat → Int32} (F : own_AV Value.int Z h a .int n f) (E : Exa Z h a ad) {g : JFrame} (hg : g.method = m) (hsize : g.locals.size = c.maxLocals) {rest : List Value} (hs : g.stack = .ref a :: rest) (hd : decode c.code g.pc = .ok (.invokevirtual index, 3))
    (hf : 1 ≤ R.frames) {W cap : Nat} (hW : 2 * g.monitorRoom + (rest.map fun v => v.category).sum ≤ W) (hl : W + 14 ≤ R.locals) (hcap : n ≤ cap) (hc : cells + 1 ≤ R.cells) (hsl : slots + cap ≤ R.slots) :
    ∃ T' h', Stand p l e R s m args below meth c T' locs (cells + 1) (slots + cap) ∧ T'.heap = h' ∧ Ext h h' ∧ own_AV Value.int Z h' h.size .int n f ∧ Exa Z h' h.size ad ∧
      ∀ target, Steps p.tables e below (T'.setTop { g with pc := g.pc + 3, stack := .ref h.size :: rest }) target → Steps p.tables e below (T.setTop g) target := by
  obtain ⟨nn, cl, A, S, H⟩ := F
  have FC : FitC Z cl := fitC_of A fun i hi v hv => by rw [H i (S ▸ hi)] at hv; cases hv; rfl
  obtain ⟨T', h', X', e', ex, A', E', st⟩ := cloneA X hx hZ hown w1 w2 w3 w4 w5 w6 eT A E FC hg hsize hs hd hf hW hl (by rw [S]; exact hcap) hc hsl
  exact ⟨T', h', X', e', ex, ⟨nn, cloneOf cl, A', S, H⟩, E', st⟩
theorem own_alen (X : Stand p l e R s m args below meth c T locs cells slots) (hx : p.tables.exec = Jvm.exec) (hZ : Z.Warmed39 s.vm) (eT : T.heap = h) (F : own_AV mk Z h a ty n f) {z : Int32} (hz : n.toInt32 = z)
    {g : JFrame} (hg : g.method = m) {rest : List Value} (hs : g.stack = .ref a :: rest) (hd : decode c.code g.pc = .ok (.arraylength, 1)) {target : State} (hr : Steps p.tables e below (T.setTop { g with pc := g.pc + 1, stack := .int z :: rest }) target) : Steps p.tables e below (T.setTop g) target := by
  obtain ⟨_, cl, A, S, H⟩ := F
  exact X.arraylength hx (by rw [eT]; exact A.1) (State.isArrayOf_alike hZ.alike A.2.1) hg hs hd _ (by rw [S, hz]; exact hr)
end
end OwnKit
section OwnWide
variable {p : Program} {l : Launch} {e : Env} {R : Room} {s s' : State} {m : MethodId} {args : Array Value} {below : List Frame} {meth : Method} {c : Code} {T : State} {locs : List Loc} {cells slots : Nat} {G : Outcome → State → Prop} {Q : Option Value → Heap → List Loc → Prop} {C S : Nat} {Z : State} {h h' : Heap} {EL : List (String × Nat)}
/-- the end of a walk that may have interned Strings -/
def own_GH (Z : State) (EL : List (String × Nat)) (s : State) (Q : Option Value → Heap → List Loc → Prop) (C S : Nat) (o : Outcome) (U' : State) : Prop := ∃ v L, o = .returned v ∧ Q v U'.heap L ∧ CHr Z EL s.vm s.heap U'.vm U'.heap ∧ ReturnedEndW s o U' L C S
theorem own_retH {vm₁ : Vm} {k : Nat} (X : Stand p l e R (s.setVm vm₁) m args below meth c T locs cells slots) (hS : s.Since vm₁ k) (hk : k ≤ T.heap.size) (hCH : CHr Z EL s.vm s.heap T.vm T.heap) (hlk : meth.locks = false) (hG : G = own_GH Z EL s Q C S) {f : JFrame} {w : Option Value} (hv : meth.sig.returnType = none → w = none)
    (st : ∀ fs, (∀ (f : JFrame) (acts : List Action), f.method = m → f.locked = none → f.entered = [] → (doReturn e (T.setTop f) acts w).1 = T.setFrames fs) → Steps p.tables e below (T.setTop f) (T.setFrames fs))
    (hc : cells ≤ C) (hs : slots ≤ S) (hQ : Q w T.heap locs) : own_Fin p e below G (T.setTop f) := by
  subst hG
  obtain ⟨fs, hr, hrun, hended, h1, h2, h3, h4⟩ := X.leaveW hS hk (v := w) hv hlk
  exact ⟨_, _, st fs hr, hrun, hended, _, _, rfl, hQ, hCH, h1, h2, h3, h4.mono hc hs⟩
theorem own_CHend {vm₁ : Vm} {a0 : Array Value} (X : Stand p l e R (s.setVm vm₁) m args below meth c T locs cells slots) (hZ : Z.Warmed39 vm₁) (hEL : EW Z a0 EL) (H : CHr Z EL s.vm s.heap vm₁ h) (eT : T.heap = h) : CHr Z EL s.vm s.heap T.vm T.heap := by
  subst eT; exact CHr.trans H (CHv.at X hZ hEL H.1)
theorem own_retHW {vm₁ : Vm} {k : Nat} {a0 : Array Value} (X : Stand p l e R (s.setVm vm₁) m args below meth c T locs cells slots) (hx : p.tables.exec = Jvm.exec) (hS : s.Since vm₁ k) (hk : k ≤ h.size) (H : CHr Z EL s.vm s.heap vm₁ h) (hZ : Z.Warmed39 vm₁) (hEL : EW Z a0 EL) (eT : T.heap = h) (hlk : meth.locks = false) (hG : G = own_GH Z EL s Q C S) {f : JFrame} {w : Option Value} (hv : meth.sig.returnType = none → w = none)
    (st : ∀ fs, (∀ (f : JFrame) (acts : List Action), f.method = m → f.locked = none → f.entered = [] → (doReturn e (T.setTop f) acts w).1 = T.setFrames fs) → Steps p.tables e below (T.setTop f) (T.setFrames fs))
    (hc : cells ≤ C) (hs : slots ≤ S) (hQ : Q w T.heap locs) : own_Fin p e below G (T.setTop f) := own_retH X hS (by rw [eT]; exact hk) (own_CHend X hZ hEL H eT) hlk hG hv st hc hs hQ
theorem own_retHI {vm₁ : Vm} {k : Nat} {a0 : Array Value} (X : Stand p l e R (s.setVm vm₁) m args below meth c T locs cells slots) (hx : p.tables.exec = Jvm.exec) (hS : s.Since vm₁ k) (hk : k ≤ h.size) (H : CHr Z EL s.vm s.heap vm₁ h) (hZ : Z.Warmed39 vm₁) (hEL : EW Z a0 EL) (eT : T.heap = h) (hlk : meth.locks = false) (hG : G = own_GH Z EL s Q C S) {pc : Nat} {Ls : Array Slot} {z : Int32} {rest : List Value} (hret : meth.sig.returnType = some .int) (hd : decode c.code pc = .ok (.ireturn, 1))
    (hc : cells ≤ C) (hs : slots ≤ S) (hQ : Q (some (.int z)) T.heap locs) : own_Fin p e below G (T.setTop (mkF m pc Ls (.int z :: rest))) :=
  own_retHW X hx hS hk H hZ hEL eT hlk hG (w := some (.int z)) (fun h => by rw [hret] at h; cases h) (fun fs hr => retOut X hx hret rfl (Or.inl ⟨rfl, Or.inl rfl, z, rfl⟩) hd hr) hc hs hQ
theorem own_retHN {vm₁ : Vm} {k : Nat} {a0 : Array Value} (X : Stand p l e R (s.setVm vm₁) m args below meth c T locs cells slots) (hx : p.tables.exec = Jvm.exec) (hS : s.Since vm₁ k) (hk : k ≤ h.size) (H : CHr Z EL s.vm s.heap vm₁ h) (hZ : Z.Warmed39 vm₁) (hEL : EW Z a0 EL) (eT : T.heap = h) (hlk : meth.locks = false) (hG : G = own_GH Z EL s Q C S) {pc : Nat} {Ls : Array Slot} {z : Int32} {rest : List Value} {t : FieldType} (hret : meth.sig.returnType = some t) (ht : t = .boolean ∨ t = .byte ∨ t = .char ∨ t = .short) (hd : decode c.code pc = .ok (.ireturn, 1))
    (hc : cells ≤ C) (hs : slots ≤ S) (hQ : Q (some (.int (nar t z))) T.heap locs) : own_Fin p e below G (T.setTop (mkF m pc Ls (.int z :: rest))) :=
  own_retHW X hx hS hk H hZ hEL eT hlk hG (w := some (.int (nar t z))) (fun h => by rw [hret] at h; cases h) (fun fs hr => retN X hx hret ht hd hr) hc hs hQ
theorem own_retHA {vm₁ : Vm} {k : Nat} {a0 : Array Value} (X : Stand p l e R (s.setVm vm₁) m args below meth c T locs cells slots) (hx : p.tables.exec = Jvm.exec) (hS : s.Since vm₁ k) (hk : k ≤ h.size) (H : CHr Z EL s.vm s.heap vm₁ h) (hZ : Z.Warmed39 vm₁) (hEL : EW Z a0 EL) (eT : T.heap = h) (hlk : meth.locks = false) (hG : G = own_GH Z EL s Q C S) {pc : Nat} {Ls : Array Slot} {w : Value} {rest : List Value} {t : FieldType} (hret : meth.sig.returnType = some t) (ht : t.isReference = true) (hw : w.isRef = true) (hd : decode c.code pc = .ok (.areturn, 1))
    (hc : cells ≤ C) (hs : slots ≤ S) (hQ : Q (some w) T.heap locs) : own_Fin p e below G (T.setTop (mkF m pc Ls (w :: rest))) :=
  own_retHW X hx hS hk H hZ hEL eT hlk hG (w := some w) (fun h => by rw [hret] at h; cases h) (fun fs hr => retOut X hx hret (by rcases ref_cases hw with rfl | ⟨a, rfl⟩ <;> cases t <;> first | rfl | (simp [FieldType.isReference] at ht)) (Or.inr (Or.inr (Or.inr (Or.inr ⟨rfl, ht, hw⟩)))) hd hr) hc hs hQ
theorem own_callSS (X : Stand p l e R s m args below meth c T locs cells slots) (hexec : p.tables.exec = Jvm.exec) {own : String} {index : Nat} {y : MethodName} {bytes : ByteArray} {maxL : Nat} {ret : Option FieldType}
    (hown : s.vm.findClass own = some m.cls) (hlink : (Cond.methodLink own index y).before args s = true) (hstat : (Cond.static y).before args s = true) (hinit : (Cond.initialized y.cls).before args s = true)
    (hcode : (Cond.code y bytes maxL ret).before args s = true) (hy : y.cls ≠ "java/lang/invoke/MethodHandle" ∧ y.cls ≠ "java/lang/invoke/VarHandle")
    {W : Nat} {Pre : Pt → Array Value → Prop} {Post : Pt → Array Value → Option Value → Pt → Prop} (hK : BackS l R p e below s args y 3 W Pre Post)
    {g : JFrame} (hg : g.method = m) (hsize : g.locals.size = c.maxLocals) {argsL rest : List Value} (hlen : ∀ sig, parseMethodDescriptor y.desc = some sig → argsL.length = sig.parameters.length)
    (hstack : g.stack = argsL.reverse ++ rest) (hW : 2 * g.monitorRoom + (rest.map fun v => v.category).sum ≤ W) (hdg : decode c.code g.pc = .ok (.invokestatic index, 3))
    (hpre : ∀ vm₁, s.WarmedH vm₁ → Pre ⟨T.setVm vm₁, locs, cells, slots⟩ argsL.toArray) :
    ∃ (v : Option Value) (vm₁ : Vm) (B : Pt), s.WarmedH vm₁ ∧ Stand p l e R (s.setVm B.U.vm) m args below meth c B.U B.locs B.cells B.slots ∧ s.Since B.U.vm B.U.heap.size ∧ T.heap.size ≤ B.U.heap.size ∧ Post ⟨T.setVm vm₁, locs, cells, slots⟩ argsL.toArray v B ∧
      Steps p.tables e below (T.setTop g) (B.U.setTop { g with pc := g.pc + 3, stack := v.toList ++ rest }) := by
  obtain ⟨mk, hnamed⟩ := Cond.code_named hcode
  obtain ⟨methM, cM, hmethM, -, -, -, -, -, -, hsigM⟩ := Cond.code_spec hnamed hcode
  exact X.staticBackS hexec hown hlink hstat hinit hnamed hmethM hsigM hy hK hg hsize (Steps.refl _) hlen hstack hW hdg hpre
theorem own_staKeep {C0 n d : String} {v : Value} {ws : List Addr} (F : Sta Z h C0 n d v) (K : Keep h h' ws) (q : ∀ x ∈ ws, ∃ c : Cell, h[x]? = some c ∧ ∀ z, c.vm ≠ .statics z) : Sta Z h' C0 n d v := by
  obtain ⟨cf, i, k, f, st, cell, h1, h2, h3, h4, h5, h6, h7⟩ := F
  refine ⟨cf, i, k, f, st, cell, h1, h2, h3, h4, K.2.1 _ _ h5 fun hm => ?_, h6, h7⟩
  obtain ⟨c', q1, q2⟩ := q _ hm
  cases h5.symm.trans q1
  cases hv : cell.vm <;> simp_all [VmData.isStatics]
theorem own_cat {v : Value} (h : v.isRef = true) : v.category = 1 := by rcases ref_cases h with rfl | ⟨a, rfl⟩ <;> rfl
theorem own_AVarv {α : Type} {mk : α → Value} {b : Addr} {kc : ClassId} {ty : FieldType} {z : Int32} {vs : List Value} {d : Value} {n : Nat} {f : Nat → α} (A : Arv Z h b kc ty z vs d) (hn : z.toNatClampNeg = n) (hlt : n < 2 ^ 31) (hf : ∀ i, i < n → vs.getD i d = mk (f i)) : own_AV mk Z h b ty n f := by
  obtain ⟨cl, A, -, S, -, H, -⟩ := A
  refine ⟨hlt, cl, A, S.trans hn, fun i hi => ?_⟩
  rw [H i (by rw [S, hn]; exact hi), hf i hi]
end OwnWide
theorem own_wS {Z : State} {a0 : Array Value} (hw : ∀ d ∈ tables_1, d.before a0 Z = true) : ∀ a ∈ Bundle.stringAtoms, a.before a0 Z = true := by
  intro a ha
  simp only [Bundle.stringAtoms, List.mem_cons, List.not_mem_nil, or_false] at ha
  rcases ha with rfl | rfl | rfl | rfl | rfl | rfl | rfl
  · exact (hw _ (List.mem_of_getElem? (i := 25) rfl))
  · exact (hw _ (List.mem_of_getElem? (i := 26) rfl))
  · exact (hw _ (List.mem_of_getElem? (i := 27) rfl))
  · exact (hw _ (List.mem_of_getElem? (i := 28) rfl))
  · exact (hw _ (List.mem_of_getElem? (i := 29) rfl))
  · exact (hw _ (List.mem_of_getElem? (i := 30) rfl))
  · exact (hw _ (List.mem_of_getElem? (i := 31) rfl))
theorem own_EW {Z : State} {a0 : Array Value} (hw : ∀ d ∈ tables_1, d.before a0 Z = true) : EW Z a0 consts_1 := (EW.cons (hw _ (List.mem_of_getElem? (i := 24) rfl)) (by decide) (EW.cons (hw _ (List.mem_of_getElem? (i := 43) rfl)) (by decide) (EW.cons (hw _ (List.mem_of_getElem? (i := 68) rfl)) (by decide) (EW.cons (hw _ (List.mem_of_getElem? (i := 32) rfl)) (by decide) EW.nil))))
def own_sum (f : Nat → Int64) : Nat → Int64
  | 0 => 0
  | k + 1 => own_sum f k + f k
theorem own_z32 : (0 : Int32).toInt = 0 := by decide
theorem own_nneg {i : Int32} (h : 0 ≤ i.toInt) : ¬ i < 0 := by rw [Int32.lt_iff_toInt_lt, own_z32]; omega
theorem own_natc {i : Int32} (h : 0 ≤ i.toInt) : (i.toNatClampNeg : Int) = i.toInt := (nat_of (own_nneg h)).symm
theorem own_ofNat {n : Nat} (h : n < 2 ^ 31) : (Int32.ofNat n).toInt = n := Int32.toInt_ofNat_of_lt h
theorem own_inc {i : Int32} {n : Nat} (hn : n < 2 ^ 31) (h : 0 ≤ i.toInt) (h2 : i.toInt < n) : (i + (1 : Int32)).toInt = i.toInt + 1 := by
  have e := c_iadd i 1; have r := rng32 (i + 1); have o : (1 : Int32).toInt = 1 := by decide
  omega
/-- a turn more: i + 1, the place i -/
theorem own_up {i : Int32} {n : Nat} (hn : n < 2 ^ 31) (hi : 0 ≤ i.toInt ∧ i.toInt ≤ n) (hc : i < Int32.ofNat n) :
    (0 ≤ (i + (1 : Int32)).toInt ∧ (i + (1 : Int32)).toInt ≤ n) ∧ (¬ i < 0 ∧ i.toNatClampNeg < n) ∧ (i + (1 : Int32)).toNatClampNeg = i.toNatClampNeg + 1 := by
  rw [Int32.lt_iff_toInt_lt, own_ofNat hn] at hc
  have e := own_inc hn hi.1 hc
  have a := own_natc hi.1
  have b := own_natc (i := i + 1) (by omega)
  exact ⟨by omega, ⟨own_nneg hi.1, by omega⟩, by omega⟩
theorem own_dec {i : Int32} {n k : Nat} (hn : n < 2 ^ 31) (hi : 0 ≤ i.toInt ∧ i.toInt ≤ n) (hc : i < Int32.ofNat n) (hm : n - i.toNatClampNeg = k) : n - (i + (1 : Int32)).toNatClampNeg < k := by
  have h := own_up hn hi hc
  omega
theorem own_last {i : Int32} {n : Nat} (hn : n < 2 ^ 31) (hi : 0 ≤ i.toInt ∧ i.toInt ≤ n) (hc : ¬ i < Int32.ofNat n) : i.toNatClampNeg = n := by
  rw [Int32.lt_iff_toInt_lt, own_ofNat hn] at hc
  have a := own_natc hi.1
  omega

theorem own_lenNe {Z : State} {h : Heap} {a a' b b' : Addr} {n n' : Nat} {f f' : Nat → Int32} (F : Fld Z h a "java/lang/String" "value" "[B" (.ref b)) (V : own_AV Value.int Z h b .byte n f) (F' : Fld Z h a' "java/lang/String" "value" "[B" (.ref b')) (V' : own_AV Value.int Z h b' .byte n' f') (q : n ≠ n') : a ≠ a' := by
  refine Fld.ne F F' fun e => q ?_
  cases e
  obtain ⟨-, c, A, S, -⟩ := V
  obtain ⟨-, c', A', S', -⟩ := V'
  cases A.1.symm.trans A'.1
  exact S.symm.trans S'
def own_lit0 (i : Nat) : Int32 := ([112, 101, 110, 100, 105, 110, 103] : List Int32).getD i 0
theorem own_txt0 : (∀ c ∈ ("pending" : String).toList, c.toNat < 256) ∧ ("pending" : String).toList.map (fun c => Value.int (Jvm.Lit.byteI c.toNat.toUInt16)) = [Value.int 112, Value.int 101, Value.int 110, Value.int 100, Value.int 105, Value.int 110, Value.int 103] := ⟨by decide, rfl⟩
theorem own_lf0 : ∀ i, i < 7 → ([Value.int 112, Value.int 101, Value.int 110, Value.int 100, Value.int 105, Value.int 110, Value.int 103] : List Value).getD i (.int 0) = Value.int (own_lit0 i) := by decide
def own_lit1 (i : Nat) : Int32 := ([100, 101, 108, 105, 118, 101, 114, 101, 100] : List Int32).getD i 0
theorem own_txt1 : (∀ c ∈ ("delivered" : String).toList, c.toNat < 256) ∧ ("delivered" : String).toList.map (fun c => Value.int (Jvm.Lit.byteI c.toNat.toUInt16)) = [Value.int 100, Value.int 101, Value.int 108, Value.int 105, Value.int 118, Value.int 101, Value.int 114, Value.int 101, Value.int 100] := ⟨by decide, rfl⟩
theorem own_lf1 : ∀ i, i < 9 → ([Value.int 100, Value.int 101, Value.int 108, Value.int 105, Value.int 118, Value.int 101, Value.int 114, Value.int 101, Value.int 100] : List Value).getD i (.int 0) = Value.int (own_lit1 i) := by decide
theorem own_pn0 : plainName "java/lang/Record" = true := by first | (simp [plainName, overriddenIn]; done) | decide +kernel
theorem d2_0 : decode jdk_30_method_1_code 0 = .ok (.aload_n 0, 1) := by decide +kernel
theorem d2_1 : decode jdk_30_method_1_code 1 = .ok (.invokespecial 1, 3) := by decide +kernel
theorem d2_4 : decode jdk_30_method_1_code 4 = .ok (.return_, 1) := by decide +kernel
theorem ef2 (m : MethodId) (ad0 : Addr) : entryFrame m #[(.ref ad0)] 1 = mkF m 0 #[.val (.ref ad0)] [] := by first | (simp [entryFrame, mkF, argsToLocals, Value.category]; done) | rfl
def Q2 (Z : State) (ad0 : Addr) (h0 : Heap) (n0 : Nat) (v : Option Value) (h : Heap) (L : List Loc) : Prop := v = none ∧ Fr n0 L ∧ h = h0
set_option maxRecDepth 65536 in
set_option maxHeartbeats 40000000 in
theorem rm2 (l : Launch) (Z : State) (a0 : Array Value) (hw : ∀ d ∈ tables_1, d.before a0 Z = true) (ws : List Jvm.Cond) (ad0 : Addr) (h0 : Heap) (n0 : Nat) (Z0 : n0 ≤ h0.size) :
    MetFree l (⟨"java/lang/Record", "<init>", "()V"⟩ : MethodName) (head1 (Jvm.Cond.code (⟨"java/lang/Record", "<init>", "()V"⟩ : MethodName) jdk_30_method_1_code 1 none :: ws) ({ frames := 1, cells := 0, slots := 0, locals := 12 } : Room)) (fun a U => a = #[(.ref ad0)] ∧ Z.Warmed39 U.vm ∧ U.heap = h0) (fun _ _ _ _ _ => True) (fun _ U o U' => ∃ v L, o = .returned v ∧ Q2 Z ad0 h0 n0 v U'.heap L ∧ FrameEnd U o U' L ({ frames := 1, cells := 0, slots := 0, locals := 12 } : Room).cells ({ frames := 1, cells := 0, slots := 0, locals := 12 } : Room).slots) := by
  refine MetFree.of_bodySF (plainFor_of_name own_pn0) hisR ?_
  intro p e s m args below meth c s₁ Bd hml0 hP hK
  obtain ⟨rfl, hZ, hh⟩ := hP
  have hx := Bd.exec
  have hby := Bd.bytes
  have hml : c.maxLocals = 1 := hml0
  have hown : s.vm.findClass "java/lang/Record" = some m.cls := findClass_of_methodNamed Bd.named
  have hnm := (name_of_methodNamed Bd.named Bd.method).1
  have hlk : meth.locks = false := BodyLoose.notSynchronized Bd
  have X0 : Stand p l e ({ frames := 1, cells := 0, slots := 0, locals := 12 } : Room) s m #[(.ref ad0)] below meth c s₁ [] 0 0 := Stand.of_body Bd
  have e0 : s₁.heap = h0 := by rw [← hh, Bd.state]; rfl
  have N0 := Fr.nil n0
  obtain ⟨G, hG⟩ : ∃ G, G = own_G s (Q2 Z ad0 h0 n0) ({ frames := 1, cells := 0, slots := 0, locals := 12 } : Room).cells ({ frames := 1, cells := 0, slots := 0, locals := 12 } : Room).slots := ⟨_, rfl⟩
  show own_Fin p e below (own_G s (Q2 Z ad0 h0 n0) ({ frames := 1, cells := 0, slots := 0, locals := 12 } : Room).cells ({ frames := 1, cells := 0, slots := 0, locals := 12 } : Room).slots) (s₁.setTop (entryFrame m #[(.ref ad0)] 1))
  rw [← hG]
  refine own_to (fun _ kz => castTop (ef2 m ad0) kz) ?_
  show own_Fin p e below G (s₁.setTop (mkF m 0 #[.val (.ref ad0)] []))
  refine own_to (fun _ kz => XS.aloadN X0.here hx rfl (hb hby d2_0) rfl (rfl)  kz) ?_
  show own_Fin p e below G (s₁.setTop (mkF m 1 #[.val (.ref ad0)] [(.ref ad0)]))
  obtain ⟨T1, X1, e1, st1⟩ := initO X0 hx hZ hown (hw _ (List.mem_of_getElem? (i := 12) rfl)) (hw _ (List.mem_of_getElem? (i := 13) rfl)) (hw _ (List.mem_of_getElem? (i := 14) rfl)) e0 (g := (mkF m 1 #[.val (.ref ad0)] [(.ref ad0)])) rfl (by rw [hml]; rfl) rfl (hb hby d2_1) (by decide) (W := 0) (by show 2 * 0 + _ ≤ _; exact Nat.le_of_eq rfl) (by decide)
  refine own_to st1 ?_
  show own_Fin p e below G (T1.setTop (mkF m 4 #[.val (.ref ad0)] []))
  exact own_retV X1 hx hlk hG Bd.returns (hb hby d2_4) (by decide) (by decide) ⟨rfl, N0, e1⟩
theorem own_pd0 : parseMethodDescriptor "()V" = some ⟨[], none⟩ := by decide +kernel
theorem own_pn1 : plainName "com/example/tabularium/tabularium/model/Delivery" = true := by first | (simp [plainName, overriddenIn]; done) | decide +kernel
theorem d1_0 : decode prog_63_method_1_code 0 = .ok (.aload_n 0, 1) := by decide +kernel
theorem d1_1 : decode prog_63_method_1_code 1 = .ok (.invokespecial 1, 3) := by decide +kernel
theorem d1_4 : decode prog_63_method_1_code 4 = .ok (.iload_n 2, 1) := by decide +kernel
theorem d1_5 : decode prog_63_method_1_code 5 = .ok (.iload_n 1, 1) := by decide +kernel
theorem d1_6 : decode prog_63_method_1_code 6 = .ok (.ifCond .eq 7, 3) := by decide +kernel
theorem d1_9 : decode prog_63_method_1_code 9 = .ok (.iconst 1, 1) := by decide +kernel
theorem d1_10 : decode prog_63_method_1_code 10 = .ok (.goto 4, 3) := by decide +kernel
theorem d1_14 : decode prog_63_method_1_code 14 = .ok (.if_icmp .ge 17, 3) := by decide +kernel
theorem d1_31 : decode prog_63_method_1_code 31 = .ok (.aload_n 0, 1) := by decide +kernel
theorem d1_32 : decode prog_63_method_1_code 32 = .ok (.iload_n 1, 1) := by decide +kernel
theorem d1_33 : decode prog_63_method_1_code 33 = .ok (.putfield 16, 3) := by decide +kernel
theorem d1_36 : decode prog_63_method_1_code 36 = .ok (.aload_n 0, 1) := by decide +kernel
theorem d1_37 : decode prog_63_method_1_code 37 = .ok (.iload_n 2, 1) := by decide +kernel
theorem d1_38 : decode prog_63_method_1_code 38 = .ok (.putfield 22, 3) := by decide +kernel
theorem d1_41 : decode prog_63_method_1_code 41 = .ok (.return_, 1) := by decide +kernel
theorem efi1 (m : MethodId) (ad0 : Addr) (p2 : Int32) : entryFrame m #[(.ref ad0), (.int (1 : Int32)), (.int p2)] 3 = mkF m 0 #[.val (.ref ad0), .val (.int (1 : Int32)), .val (.int p2)] [] := by first | (simp [entryFrame, mkF, argsToLocals, Value.category]; done) | rfl
def Qi1 (Z : State) (ad0 : Addr) (p2 : Int32) (h0 : Heap) (n0 : Nat) (v : Option Value) (h : Heap) (L : List Loc) : Prop := v = none ∧ Fr n0 L ∧ Keep h0 h [ad0] ∧ Exa Z h ad0 "com/example/tabularium/tabularium/model/Delivery" ∧ Fld Z h ad0 "com/example/tabularium/tabularium/model/Delivery" "delivered" "Z" (.int (1 : Int32)) ∧ Fld Z h ad0 "com/example/tabularium/tabularium/model/Delivery" "attempts" "I" (.int p2)
set_option maxRecDepth 65536 in
set_option maxHeartbeats 40000000 in
theorem rmi1 (l : Launch) (Z : State) (a0 : Array Value) (hw : ∀ d ∈ tables_1, d.before a0 Z = true) (ws : List Jvm.Cond) (ad0 : Addr) (p2 : Int32) (h0 : Heap) (n0 : Nat) (Z0 : n0 ≤ h0.size) (E_ad0 : Exa Z h0 ad0 "com/example/tabularium/tabularium/model/Delivery") (F_delivered_ad0 : Fld Z h0 ad0 "com/example/tabularium/tabularium/model/Delivery" "delivered" "Z" (.int (0 : Int32))) (F_attempts_ad0 : Fld Z h0 ad0 "com/example/tabularium/tabularium/model/Delivery" "attempts" "I" (.int (0 : Int32))) (g_ad0 : n0 ≤ ad0) (hge : ¬ p2 < (1 : Int32)) :
    MetFree l (⟨"com/example/tabularium/tabularium/model/Delivery", "<init>", "(ZI)V"⟩ : MethodName) (head1 (Jvm.Cond.code (⟨"com/example/tabularium/tabularium/model/Delivery", "<init>", "(ZI)V"⟩ : MethodName) prog_63_method_1_code 3 none :: ws) ({ frames := 2, cells := 0, slots := 0, locals := 24 } : Room)) (fun a U => a = #[(.ref ad0), (.int (1 : Int32)), (.int p2)] ∧ Z.Warmed39 U.vm ∧ U.heap = h0) (fun _ _ _ _ _ => True) (fun _ U o U' => ∃ v L, o = .returned v ∧ Qi1 Z ad0 p2 h0 n0 v U'.heap L ∧ FrameEnd U o U' L ({ frames := 2, cells := 0, slots := 0, locals := 24 } : Room).cells ({ frames := 2, cells := 0, slots := 0, locals := 24 } : Room).slots) := by
  refine MetFree.of_bodySF (plainFor_of_name own_pn1) hisR ?_
  intro p e s m args below meth c s₁ Bd hml0 hP hK
  obtain ⟨rfl, hZ, hh⟩ := hP
  have hx := Bd.exec
  have hby := Bd.bytes
  have hml : c.maxLocals = 3 := hml0
  have hown : s.vm.findClass "com/example/tabularium/tabularium/model/Delivery" = some m.cls := findClass_of_methodNamed Bd.named
  have hnm := (name_of_methodNamed Bd.named Bd.method).1
  have hlk : meth.locks = false := BodyLoose.notSynchronized Bd
  have X0 : Stand p l e ({ frames := 2, cells := 0, slots := 0, locals := 24 } : Room) s m #[(.ref ad0), (.int (1 : Int32)), (.int p2)] below meth c s₁ [] 0 0 := Stand.of_body Bd
  have e0 : s₁.heap = h0 := by rw [← hh, Bd.state]; rfl
  have N0 := Fr.nil n0
  obtain ⟨G, hG⟩ : ∃ G, G = own_G s (Qi1 Z ad0 p2 h0 n0) ({ frames := 2, cells := 0, slots := 0, locals := 24 } : Room).cells ({ frames := 2, cells := 0, slots := 0, locals := 24 } : Room).slots := ⟨_, rfl⟩
  show own_Fin p e below (own_G s (Qi1 Z ad0 p2 h0 n0) ({ frames := 2, cells := 0, slots := 0, locals := 24 } : Room).cells ({ frames := 2, cells := 0, slots := 0, locals := 24 } : Room).slots) (s₁.setTop (entryFrame m #[(.ref ad0), (.int (1 : Int32)), (.int p2)] 3))
  rw [← hG]
  refine own_to (fun _ kz => castTop (efi1 m ad0 p2) kz) ?_
  show own_Fin p e below G (s₁.setTop (mkF m 0 #[.val (.ref ad0), .val (.int (1 : Int32)), .val (.int p2)] []))
  refine own_to (fun _ kz => XS.aloadN X0.here hx rfl (hb hby d1_0) rfl (rfl)  kz) ?_
  show own_Fin p e below G (s₁.setTop (mkF m 1 #[.val (.ref ad0), .val (.int (1 : Int32)), .val (.int p2)] [(.ref ad0)]))
  obtain ⟨_, _, ⟨T1, L1, k1, n1⟩, -, X1, ⟨Lc1, hQ1, l1, y1, z1⟩, st1⟩ := X0.specialBack hx (y := (⟨"java/lang/Record", "<init>", "()V"⟩ : MethodName)) rfl hown (mvT hZ (hw _ (List.mem_of_getElem? (i := 7) rfl))) (mvT hZ (hw _ (List.mem_of_getElem? (i := 8) rfl))) (mvT hZ (hw _ (List.mem_of_getElem? (i := 11) rfl))) (by decide) (backOf (W := 0) (rm2 l Z a0 hw [] ad0 h0 n0 Z0 ) hZ (hw _ (List.mem_of_getElem? (i := 11) rfl)) (hw _ (List.mem_of_getElem? (i := 10) rfl)) (by decide) (by decide)) (g := (mkF m 1 #[.val (.ref ad0), .val (.int (1 : Int32)), .val (.int p2)] [(.ref ad0)])) rfl (by rw [hml]; rfl) (Steps.refl _) (a := ad0) (argsL := []) (rest := []) (lenOf own_pd0 rfl) rfl (by show 2 * 0 + _ ≤ _; exact Nat.le_of_eq rfl) (hb hby d1_1) (fun _ _ => ⟨rfl, e0, (by decide : 0 + 0 ≤ _), (by decide : 0 + 0 ≤ _)⟩)
  dsimp only [Pt.U, Pt.locs, Pt.cells, Pt.slots] at X1 l1 y1 z1 st1 hQ1
  subst l1 y1 z1
  obtain ⟨rfl, N1q, e1⟩ := hQ1
  obtain ⟨lo1, X1, N1⟩ : ∃ lo, Stand p l e _ s m _ below meth c T1 lo _ _ ∧ Fr n0 lo := ⟨_, X1, Fr.app N0 N1q⟩
  refine own_via st1 ?_
  show own_Fin p e below G (T1.setTop (mkF m 4 #[.val (.ref ad0), .val (.int (1 : Int32)), .val (.int p2)] []))
  refine own_to (fun _ kz => XS.iloadN X1.here hx rfl (hb hby d1_4) rfl  kz) ?_
  show own_Fin p e below G (T1.setTop (mkF m 5 #[.val (.ref ad0), .val (.int (1 : Int32)), .val (.int p2)] [(.int p2)]))
  refine own_to (fun _ kz => XS.iloadN X1.here hx rfl (hb hby d1_5) rfl  kz) ?_
  show own_Fin p e below G (T1.setTop (mkF m 6 #[.val (.ref ad0), .val (.int (1 : Int32)), .val (.int p2)] [(.int (1 : Int32)), (.int p2)]))
  have hc6 : ¬ ((1 : Int32) = (0 : Int32)) := (by decide)
  refine own_to (fun _ kz => XS.ifNo X1.here hx rfl (hb hby d1_6) rfl ((if0 _ _).trans (feq hc6).1) kz) ?_
  show own_Fin p e below G (T1.setTop (mkF m 9 #[.val (.ref ad0), .val (.int (1 : Int32)), .val (.int p2)] [(.int p2)]))
  refine own_to (fun _ kz => XS.iconst X1.here hx rfl (hb hby d1_9) kz) ?_
  show own_Fin p e below G (T1.setTop (mkF m 10 #[.val (.ref ad0), .val (.int (1 : Int32)), .val (.int p2)] [(.int (1 : Int32)), (.int p2)]))
  refine own_to (fun _ kz => XS.goto X1.here hx rfl (pc0 := 10) (pc' := 14) rfl (hb hby d1_10) (by decide) (by decide) kz) ?_
  show own_Fin p e below G (T1.setTop (mkF m 14 #[.val (.ref ad0), .val (.int (1 : Int32)), .val (.int p2)] [(.int (1 : Int32)), (.int p2)]))
  have hc14 : ¬ (p2 < (1 : Int32)) := hge
  refine own_to (fun _ kz => XS.icmpYes X1.here hx rfl (pc0 := 14) (pc' := 31) rfl (hb hby d1_14) rfl (flt hc14).2.1 (by decide) (by decide) kz) ?_
  show own_Fin p e below G (T1.setTop (mkF m 31 #[.val (.ref ad0), .val (.int (1 : Int32)), .val (.int p2)] []))
  refine own_to (fun _ kz => XS.aloadN X1.here hx rfl (hb hby d1_31) rfl (rfl)  kz) ?_
  show own_Fin p e below G (T1.setTop (mkF m 32 #[.val (.ref ad0), .val (.int (1 : Int32)), .val (.int p2)] [(.ref ad0)]))
  refine own_to (fun _ kz => XS.iloadN X1.here hx rfl (hb hby d1_32) rfl  kz) ?_
  show own_Fin p e below G (T1.setTop (mkF m 33 #[.val (.ref ad0), .val (.int (1 : Int32)), .val (.int p2)] [(.int (1 : Int32)), (.ref ad0)]))
  obtain ⟨T33, h33, X33, e33, W33, st33⟩ := putFN X1 hx hZ hown (hw _ (List.mem_of_getElem? (i := 15) rfl)) Via.refl e1 F_delivered_ad0 E_ad0 (Or.inr ⟨(hw _ (List.mem_of_getElem? (i := 16) rfl)), rfl, hnm⟩) (hw _ (List.mem_of_getElem? (i := 2) rfl)) (ty := .boolean) (v' := (.int (nar .boolean (1 : Int32)))) (by decide) rfl (fits_nar_bool _) (g := (mkF m 33 #[.val (.ref ad0), .val (.int (1 : Int32)), .val (.int p2)] [(.int (1 : Int32)), (.ref ad0)])) rfl rfl (hb hby d1_33)
  refine own_to st33 ?_
  have Fw33 : Fld Z h33 ad0 "com/example/tabularium/tabularium/model/Delivery" "delivered" "Z" (.int (nar .boolean (1 : Int32))) := Fld.same W33 F_delivered_ad0
  rw [show nar .boolean (1 : Int32) = (1 : Int32) from by decide] at Fw33
  obtain ⟨lo33, X33, N33⟩ : ∃ lo, Stand p l e _ s m _ below meth c T33 lo _ _ ∧ Fr n0 lo := ⟨_, X33, Fr.snoc X33 N1 g_ad0⟩
  show own_Fin p e below G (T33.setTop (mkF m 36 #[.val (.ref ad0), .val (.int (1 : Int32)), .val (.int p2)] []))
  refine own_to (fun _ kz => XS.aloadN X33.here hx rfl (hb hby d1_36) rfl (rfl)  kz) ?_
  show own_Fin p e below G (T33.setTop (mkF m 37 #[.val (.ref ad0), .val (.int (1 : Int32)), .val (.int p2)] [(.ref ad0)]))
  refine own_to (fun _ kz => XS.iloadN X33.here hx rfl (hb hby d1_37) rfl  kz) ?_
  show own_Fin p e below G (T33.setTop (mkF m 38 #[.val (.ref ad0), .val (.int (1 : Int32)), .val (.int p2)] [(.int p2), (.ref ad0)]))
  have E_ad0_at_38 : Exa Z h33 ad0 "com/example/tabularium/tabularium/model/Delivery" := (E_ad0.wr W33)
  have F_at_38 : Fld Z h33 ad0 "com/example/tabularium/tabularium/model/Delivery" "attempts" "I" (.int (0 : Int32)) := (F_attempts_ad0.other W33 (Or.inr (slot_ne (Or.inr (hw _ (List.mem_of_getElem? (i := 18) rfl))) (Or.inr (hw _ (List.mem_of_getElem? (i := 16) rfl))) (by decide) (t := .int) (t' := .boolean) (by decide) (by decide))))
  obtain ⟨T38, h38, X38, e38, W38, st38⟩ := putF X33 hx hZ hown (host := "") (Or.inl (hw _ (List.mem_of_getElem? (i := 17) rfl))) Via.refl e33 F_at_38 E_ad0_at_38 (Or.inr ⟨(hw _ (List.mem_of_getElem? (i := 18) rfl)), rfl, hnm⟩) (hw _ (List.mem_of_getElem? (i := 2) rfl)) (ty := .int) (by decide) rfl rfl (g := (mkF m 38 #[.val (.ref ad0), .val (.int (1 : Int32)), .val (.int p2)] [(.int p2), (.ref ad0)])) rfl rfl (hb hby d1_38)
  refine own_to st38 ?_
  have Fw38 : Fld Z h38 ad0 "com/example/tabularium/tabularium/model/Delivery" "attempts" "I" (.int p2) := Fld.same W38 F_at_38
  obtain ⟨lo38, X38, N38⟩ : ∃ lo, Stand p l e _ s m _ below meth c T38 lo _ _ ∧ Fr n0 lo := ⟨_, X38, Fr.snoc X38 N33 g_ad0⟩
  show own_Fin p e below G (T38.setTop (mkF m 41 #[.val (.ref ad0), .val (.int (1 : Int32)), .val (.int p2)] []))
  have KP_41 : Keep h0 h38 [ad0] := (((Keep.refl h0 [ad0]).wr W33 (Or.inl (List.mem_of_getElem? (i := 0) rfl))).wr W38 (Or.inl (List.mem_of_getElem? (i := 0) rfl)))
  have E_ad0_at_41 : Exa Z h38 ad0 "com/example/tabularium/tabularium/model/Delivery" := (E_ad0_at_38.wr W38)
  have Fw33_at_41 : Fld Z h38 ad0 "com/example/tabularium/tabularium/model/Delivery" "delivered" "Z" (.int (1 : Int32)) := (Fw33.other W38 (Or.inr (slot_ne (Or.inr (hw _ (List.mem_of_getElem? (i := 16) rfl))) (Or.inr (hw _ (List.mem_of_getElem? (i := 18) rfl))) (by decide) (t := .boolean) (t' := .int) (by decide) (by decide))))
  exact own_retV X38 hx hlk hG Bd.returns (hb hby d1_41) (by decide) (by decide) (by rw [e38]; exact ⟨rfl, N38, KP_41, E_ad0_at_41, Fw33_at_41, Fw38⟩)
theorem d1_13 : decode prog_63_method_1_code 13 = .ok (.iconst 0, 1) := by decide +kernel
theorem efi0 (m : MethodId) (ad0 : Addr) (p2 : Int32) : entryFrame m #[(.ref ad0), (.int (0 : Int32)), (.int p2)] 3 = mkF m 0 #[.val (.ref ad0), .val (.int (0 : Int32)), .val (.int p2)] [] := by first | (simp [entryFrame, mkF, argsToLocals, Value.category]; done) | rfl
def Qi0 (Z : State) (ad0 : Addr) (p2 : Int32) (h0 : Heap) (n0 : Nat) (v : Option Value) (h : Heap) (L : List Loc) : Prop := v = none ∧ Fr n0 L ∧ Keep h0 h [ad0] ∧ Exa Z h ad0 "com/example/tabularium/tabularium/model/Delivery" ∧ Fld Z h ad0 "com/example/tabularium/tabularium/model/Delivery" "delivered" "Z" (.int (0 : Int32)) ∧ Fld Z h ad0 "com/example/tabularium/tabularium/model/Delivery" "attempts" "I" (.int p2)
set_option maxRecDepth 65536 in
set_option maxHeartbeats 40000000 in
theorem rmi0 (l : Launch) (Z : State) (a0 : Array Value) (hw : ∀ d ∈ tables_1, d.before a0 Z = true) (ws : List Jvm.Cond) (ad0 : Addr) (p2 : Int32) (h0 : Heap) (n0 : Nat) (Z0 : n0 ≤ h0.size) (E_ad0 : Exa Z h0 ad0 "com/example/tabularium/tabularium/model/Delivery") (F_delivered_ad0 : Fld Z h0 ad0 "com/example/tabularium/tabularium/model/Delivery" "delivered" "Z" (.int (0 : Int32))) (F_attempts_ad0 : Fld Z h0 ad0 "com/example/tabularium/tabularium/model/Delivery" "attempts" "I" (.int (0 : Int32))) (g_ad0 : n0 ≤ ad0) (hge : ¬ p2 < (0 : Int32)) :
    MetFree l (⟨"com/example/tabularium/tabularium/model/Delivery", "<init>", "(ZI)V"⟩ : MethodName) (head1 (Jvm.Cond.code (⟨"com/example/tabularium/tabularium/model/Delivery", "<init>", "(ZI)V"⟩ : MethodName) prog_63_method_1_code 3 none :: ws) ({ frames := 2, cells := 0, slots := 0, locals := 24 } : Room)) (fun a U => a = #[(.ref ad0), (.int (0 : Int32)), (.int p2)] ∧ Z.Warmed39 U.vm ∧ U.heap = h0) (fun _ _ _ _ _ => True) (fun _ U o U' => ∃ v L, o = .returned v ∧ Qi0 Z ad0 p2 h0 n0 v U'.heap L ∧ FrameEnd U o U' L ({ frames := 2, cells := 0, slots := 0, locals := 24 } : Room).cells ({ frames := 2, cells := 0, slots := 0, locals := 24 } : Room).slots) := by
  refine MetFree.of_bodySF (plainFor_of_name own_pn1) hisR ?_
  intro p e s m args below meth c s₁ Bd hml0 hP hK
  obtain ⟨rfl, hZ, hh⟩ := hP
  have hx := Bd.exec
  have hby := Bd.bytes
  have hml : c.maxLocals = 3 := hml0
  have hown : s.vm.findClass "com/example/tabularium/tabularium/model/Delivery" = some m.cls := findClass_of_methodNamed Bd.named
  have hnm := (name_of_methodNamed Bd.named Bd.method).1
  have hlk : meth.locks = false := BodyLoose.notSynchronized Bd
  have X0 : Stand p l e ({ frames := 2, cells := 0, slots := 0, locals := 24 } : Room) s m #[(.ref ad0), (.int (0 : Int32)), (.int p2)] below meth c s₁ [] 0 0 := Stand.of_body Bd
  have e0 : s₁.heap = h0 := by rw [← hh, Bd.state]; rfl
  have N0 := Fr.nil n0
  obtain ⟨G, hG⟩ : ∃ G, G = own_G s (Qi0 Z ad0 p2 h0 n0) ({ frames := 2, cells := 0, slots := 0, locals := 24 } : Room).cells ({ frames := 2, cells := 0, slots := 0, locals := 24 } : Room).slots := ⟨_, rfl⟩
  show own_Fin p e below (own_G s (Qi0 Z ad0 p2 h0 n0) ({ frames := 2, cells := 0, slots := 0, locals := 24 } : Room).cells ({ frames := 2, cells := 0, slots := 0, locals := 24 } : Room).slots) (s₁.setTop (entryFrame m #[(.ref ad0), (.int (0 : Int32)), (.int p2)] 3))
  rw [← hG]
  refine own_to (fun _ kz => castTop (efi0 m ad0 p2) kz) ?_
  show own_Fin p e below G (s₁.setTop (mkF m 0 #[.val (.ref ad0), .val (.int (0 : Int32)), .val (.int p2)] []))
  refine own_to (fun _ kz => XS.aloadN X0.here hx rfl (hb hby d1_0) rfl (rfl)  kz) ?_
  show own_Fin p e below G (s₁.setTop (mkF m 1 #[.val (.ref ad0), .val (.int (0 : Int32)), .val (.int p2)] [(.ref ad0)]))
  obtain ⟨_, _, ⟨T1, L1, k1, n1⟩, -, X1, ⟨Lc1, hQ1, l1, y1, z1⟩, st1⟩ := X0.specialBack hx (y := (⟨"java/lang/Record", "<init>", "()V"⟩ : MethodName)) rfl hown (mvT hZ (hw _ (List.mem_of_getElem? (i := 7) rfl))) (mvT hZ (hw _ (List.mem_of_getElem? (i := 8) rfl))) (mvT hZ (hw _ (List.mem_of_getElem? (i := 11) rfl))) (by decide) (backOf (W := 0) (rm2 l Z a0 hw [] ad0 h0 n0 Z0 ) hZ (hw _ (List.mem_of_getElem? (i := 11) rfl)) (hw _ (List.mem_of_getElem? (i := 10) rfl)) (by decide) (by decide)) (g := (mkF m 1 #[.val (.ref ad0), .val (.int (0 : Int32)), .val (.int p2)] [(.ref ad0)])) rfl (by rw [hml]; rfl) (Steps.refl _) (a := ad0) (argsL := []) (rest := []) (lenOf own_pd0 rfl) rfl (by show 2 * 0 + _ ≤ _; exact Nat.le_of_eq rfl) (hb hby d1_1) (fun _ _ => ⟨rfl, e0, (by decide : 0 + 0 ≤ _), (by decide : 0 + 0 ≤ _)⟩)
  dsimp only [Pt.U, Pt.locs, Pt.cells, Pt.slots] at X1 l1 y1 z1 st1 hQ1
  subst l1 y1 z1
  obtain ⟨rfl, N1q, e1⟩ := hQ1
  obtain ⟨lo1, X1, N1⟩ : ∃ lo, Stand p l e _ s m _ below meth c T1 lo _ _ ∧ Fr n0 lo := ⟨_, X1, Fr.app N0 N1q⟩
  refine own_via st1 ?_
  show own_Fin p e below G (T1.setTop (mkF m 4 #[.val (.ref ad0), .val (.int (0 : Int32)), .val (.int p2)] []))
  refine own_to (fun _ kz => XS.iloadN X1.here hx rfl (hb hby d1_4) rfl  kz) ?_
  show own_Fin p e below G (T1.setTop (mkF m 5 #[.val (.ref ad0), .val (.int (0 : Int32)), .val (.int p2)] [(.int p2)]))
  refine own_to (fun _ kz => XS.iloadN X1.here hx rfl (hb hby d1_5) rfl  kz) ?_
  show own_Fin p e below G (T1.setTop (mkF m 6 #[.val (.ref ad0), .val (.int (0 : Int32)), .val (.int p2)] [(.int (0 : Int32)), (.int p2)]))
  have hc6 : (0 : Int32) = (0 : Int32) := rfl
  refine own_to (fun _ kz => XS.ifYes X1.here hx rfl (pc0 := 6) (pc' := 13) rfl (hb hby d1_6) rfl ((if0 _ _).trans (teq hc6).1) (by decide) (by decide) kz) ?_
  show own_Fin p e below G (T1.setTop (mkF m 13 #[.val (.ref ad0), .val (.int (0 : Int32)), .val (.int p2)] [(.int p2)]))
  refine own_to (fun _ kz => XS.iconst X1.here hx rfl (hb hby d1_13) kz) ?_
  show own_Fin p e below G (T1.setTop (mkF m 14 #[.val (.ref ad0), .val (.int (0 : Int32)), .val (.int p2)] [(.int (0 : Int32)), (.int p2)]))
  have hc14 : ¬ (p2 < (0 : Int32)) := hge
  refine own_to (fun _ kz => XS.icmpYes X1.here hx rfl (pc0 := 14) (pc' := 31) rfl (hb hby d1_14) rfl (flt hc14).2.1 (by decide) (by decide) kz) ?_
  show own_Fin p e below G (T1.setTop (mkF m 31 #[.val (.ref ad0), .val (.int (0 : Int32)), .val (.int p2)] []))
  refine own_to (fun _ kz => XS.aloadN X1.here hx rfl (hb hby d1_31) rfl (rfl)  kz) ?_
  show own_Fin p e below G (T1.setTop (mkF m 32 #[.val (.ref ad0), .val (.int (0 : Int32)), .val (.int p2)] [(.ref ad0)]))
  refine own_to (fun _ kz => XS.iloadN X1.here hx rfl (hb hby d1_32) rfl  kz) ?_
  show own_Fin p e below G (T1.setTop (mkF m 33 #[.val (.ref ad0), .val (.int (0 : Int32)), .val (.int p2)] [(.int (0 : Int32)), (.ref ad0)]))
  obtain ⟨T33, h33, X33, e33, W33, st33⟩ := putFN X1 hx hZ hown (hw _ (List.mem_of_getElem? (i := 15) rfl)) Via.refl e1 F_delivered_ad0 E_ad0 (Or.inr ⟨(hw _ (List.mem_of_getElem? (i := 16) rfl)), rfl, hnm⟩) (hw _ (List.mem_of_getElem? (i := 2) rfl)) (ty := .boolean) (v' := (.int (nar .boolean (0 : Int32)))) (by decide) rfl (fits_nar_bool _) (g := (mkF m 33 #[.val (.ref ad0), .val (.int (0 : Int32)), .val (.int p2)] [(.int (0 : Int32)), (.ref ad0)])) rfl rfl (hb hby d1_33)
  refine own_to st33 ?_
  have Fw33 : Fld Z h33 ad0 "com/example/tabularium/tabularium/model/Delivery" "delivered" "Z" (.int (nar .boolean (0 : Int32))) := Fld.same W33 F_delivered_ad0
  rw [show nar .boolean (0 : Int32) = (0 : Int32) from by decide] at Fw33
  obtain ⟨lo33, X33, N33⟩ : ∃ lo, Stand p l e _ s m _ below meth c T33 lo _ _ ∧ Fr n0 lo := ⟨_, X33, Fr.snoc X33 N1 g_ad0⟩
  show own_Fin p e below G (T33.setTop (mkF m 36 #[.val (.ref ad0), .val (.int (0 : Int32)), .val (.int p2)] []))
  refine own_to (fun _ kz => XS.aloadN X33.here hx rfl (hb hby d1_36) rfl (rfl)  kz) ?_
  show own_Fin p e below G (T33.setTop (mkF m 37 #[.val (.ref ad0), .val (.int (0 : Int32)), .val (.int p2)] [(.ref ad0)]))
  refine own_to (fun _ kz => XS.iloadN X33.here hx rfl (hb hby d1_37) rfl  kz) ?_
  show own_Fin p e below G (T33.setTop (mkF m 38 #[.val (.ref ad0), .val (.int (0 : Int32)), .val (.int p2)] [(.int p2), (.ref ad0)]))
  have E_ad0_at_38 : Exa Z h33 ad0 "com/example/tabularium/tabularium/model/Delivery" := (E_ad0.wr W33)
  have F_at_38 : Fld Z h33 ad0 "com/example/tabularium/tabularium/model/Delivery" "attempts" "I" (.int (0 : Int32)) := (F_attempts_ad0.other W33 (Or.inr (slot_ne (Or.inr (hw _ (List.mem_of_getElem? (i := 18) rfl))) (Or.inr (hw _ (List.mem_of_getElem? (i := 16) rfl))) (by decide) (t := .int) (t' := .boolean) (by decide) (by decide))))
  obtain ⟨T38, h38, X38, e38, W38, st38⟩ := putF X33 hx hZ hown (host := "") (Or.inl (hw _ (List.mem_of_getElem? (i := 17) rfl))) Via.refl e33 F_at_38 E_ad0_at_38 (Or.inr ⟨(hw _ (List.mem_of_getElem? (i := 18) rfl)), rfl, hnm⟩) (hw _ (List.mem_of_getElem? (i := 2) rfl)) (ty := .int) (by decide) rfl rfl (g := (mkF m 38 #[.val (.ref ad0), .val (.int (0 : Int32)), .val (.int p2)] [(.int p2), (.ref ad0)])) rfl rfl (hb hby d1_38)
  refine own_to st38 ?_
  have Fw38 : Fld Z h38 ad0 "com/example/tabularium/tabularium/model/Delivery" "attempts" "I" (.int p2) := Fld.same W38 F_at_38
  obtain ⟨lo38, X38, N38⟩ : ∃ lo, Stand p l e _ s m _ below meth c T38 lo _ _ ∧ Fr n0 lo := ⟨_, X38, Fr.snoc X38 N33 g_ad0⟩
  show own_Fin p e below G (T38.setTop (mkF m 41 #[.val (.ref ad0), .val (.int (0 : Int32)), .val (.int p2)] []))
  have KP_41 : Keep h0 h38 [ad0] := (((Keep.refl h0 [ad0]).wr W33 (Or.inl (List.mem_of_getElem? (i := 0) rfl))).wr W38 (Or.inl (List.mem_of_getElem? (i := 0) rfl)))
  have E_ad0_at_41 : Exa Z h38 ad0 "com/example/tabularium/tabularium/model/Delivery" := (E_ad0_at_38.wr W38)
  have Fw33_at_41 : Fld Z h38 ad0 "com/example/tabularium/tabularium/model/Delivery" "delivered" "Z" (.int (0 : Int32)) := (Fw33.other W38 (Or.inr (slot_ne (Or.inr (hw _ (List.mem_of_getElem? (i := 16) rfl))) (Or.inr (hw _ (List.mem_of_getElem? (i := 18) rfl))) (by decide) (t := .boolean) (t' := .int) (by decide) (by decide))))
  exact own_retV X38 hx hlk hG Bd.returns (hb hby d1_41) (by decide) (by decide) (by rw [e38]; exact ⟨rfl, N38, KP_41, E_ad0_at_41, Fw33_at_41, Fw38⟩)
theorem d8_0 : decode prog_63_method_9_code 0 = .ok (.aload_n 0, 1) := by decide +kernel
theorem d8_1 : decode prog_63_method_9_code 1 = .ok (.getfield 16, 3) := by decide +kernel
theorem d8_4 : decode prog_63_method_9_code 4 = .ok (.ireturn, 1) := by decide +kernel
theorem ef8 (m : MethodId) (ad0 : Addr) : entryFrame m #[(.ref ad0)] 1 = mkF m 0 #[.val (.ref ad0)] [] := by first | (simp [entryFrame, mkF, argsToLocals, Value.category]; done) | rfl
def f8 (dl : Int32) : Int32 := (nar .boolean dl)
def Q8 (Z : State) (ad0 : Addr) (dl : Int32) (h0 : Heap) (n0 : Nat) (v : Option Value) (h : Heap) (L : List Loc) : Prop := v = some (.int (f8 dl)) ∧ Fr n0 L ∧ h = h0
set_option maxRecDepth 65536 in
set_option maxHeartbeats 40000000 in
theorem rm8 (l : Launch) (Z : State) (a0 : Array Value) (hw : ∀ d ∈ tables_1, d.before a0 Z = true) (ws : List Jvm.Cond) (ad0 : Addr) (dl : Int32) (h0 : Heap) (n0 : Nat) (Z0 : n0 ≤ h0.size) (E_ad0 : Exa Z h0 ad0 "com/example/tabularium/tabularium/model/Delivery") (F_delivered_ad0 : Fld Z h0 ad0 "com/example/tabularium/tabularium/model/Delivery" "delivered" "Z" (.int dl)) :
    MetFree l (⟨"com/example/tabularium/tabularium/model/Delivery", "delivered", "()Z"⟩ : MethodName) (head1 (Jvm.Cond.code (⟨"com/example/tabularium/tabularium/model/Delivery", "delivered", "()Z"⟩ : MethodName) prog_63_method_9_code 1 (some .boolean) :: ws) ({ frames := 0, cells := 0, slots := 0, locals := 0 } : Room)) (fun a U => a = #[(.ref ad0)] ∧ Z.Warmed39 U.vm ∧ U.heap = h0) (fun _ _ _ _ _ => True) (fun _ U o U' => ∃ v L, o = .returned v ∧ Q8 Z ad0 dl h0 n0 v U'.heap L ∧ FrameEnd U o U' L ({ frames := 0, cells := 0, slots := 0, locals := 0 } : Room).cells ({ frames := 0, cells := 0, slots := 0, locals := 0 } : Room).slots) := by
  refine MetFree.of_bodySF (plainFor_of_name own_pn1) hisR ?_
  intro p e s m args below meth c s₁ Bd hml0 hP hK
  obtain ⟨rfl, hZ, hh⟩ := hP
  have hx := Bd.exec
  have hby := Bd.bytes
  have hml : c.maxLocals = 1 := hml0
  have hown : s.vm.findClass "com/example/tabularium/tabularium/model/Delivery" = some m.cls := findClass_of_methodNamed Bd.named
  have hnm := (name_of_methodNamed Bd.named Bd.method).1
  have hlk : meth.locks = false := BodyLoose.notSynchronized Bd
  have X0 : Stand p l e ({ frames := 0, cells := 0, slots := 0, locals := 0 } : Room) s m #[(.ref ad0)] below meth c s₁ [] 0 0 := Stand.of_body Bd
  have e0 : s₁.heap = h0 := by rw [← hh, Bd.state]; rfl
  have N0 := Fr.nil n0
  obtain ⟨G, hG⟩ : ∃ G, G = own_G s (Q8 Z ad0 dl h0 n0) ({ frames := 0, cells := 0, slots := 0, locals := 0 } : Room).cells ({ frames := 0, cells := 0, slots := 0, locals := 0 } : Room).slots := ⟨_, rfl⟩
  show own_Fin p e below (own_G s (Q8 Z ad0 dl h0 n0) ({ frames := 0, cells := 0, slots := 0, locals := 0 } : Room).cells ({ frames := 0, cells := 0, slots := 0, locals := 0 } : Room).slots) (s₁.setTop (entryFrame m #[(.ref ad0)] 1))
  rw [← hG]
  refine own_to (fun _ kz => castTop (ef8 m ad0) kz) ?_
  have q0 : (f8 dl) = (f8 dl) := rfl
  show own_Fin p e below G (s₁.setTop (mkF m 0 #[.val (.ref ad0)] []))
  refine own_to (fun _ kz => XS.aloadN X0.here hx rfl (hb hby d8_0) rfl (rfl)  kz) ?_
  show own_Fin p e below G (s₁.setTop (mkF m 1 #[.val (.ref ad0)] [(.ref ad0)]))
  obtain ⟨T1, X1, e1, st1⟩ := getF X0 hx hZ hown (host := "") (Or.inl (hw _ (List.mem_of_getElem? (i := 15) rfl))) Via.refl e0 F_delivered_ad0 (g := (mkF m 1 #[.val (.ref ad0)] [(.ref ad0)])) rfl rfl (hb hby d8_1)
  refine own_to st1 ?_
  show own_Fin p e below G (T1.setTop (mkF m 4 #[.val (.ref ad0)] [(.int dl)]))
  exact own_retN X1 hx hlk hG (t := .boolean) Bd.returns (by simp) (hb hby d8_4) (by decide) (by decide) ⟨(congrArg (fun z => some (Value.int z)) q0).symm, N0, e1⟩
theorem d9_0 : decode prog_63_method_10_code 0 = .ok (.aload_n 0, 1) := by decide +kernel
theorem d9_1 : decode prog_63_method_10_code 1 = .ok (.getfield 22, 3) := by decide +kernel
theorem d9_4 : decode prog_63_method_10_code 4 = .ok (.ireturn, 1) := by decide +kernel
theorem ef9 (m : MethodId) (ad0 : Addr) : entryFrame m #[(.ref ad0)] 1 = mkF m 0 #[.val (.ref ad0)] [] := by first | (simp [entryFrame, mkF, argsToLocals, Value.category]; done) | rfl
def f9 (at_ : Int32) : Int32 := at_
def Q9 (Z : State) (ad0 : Addr) (at_ : Int32) (h0 : Heap) (n0 : Nat) (v : Option Value) (h : Heap) (L : List Loc) : Prop := v = some (.int (f9 at_)) ∧ Fr n0 L ∧ h = h0
set_option maxRecDepth 65536 in
set_option maxHeartbeats 40000000 in
theorem rm9 (l : Launch) (Z : State) (a0 : Array Value) (hw : ∀ d ∈ tables_1, d.before a0 Z = true) (ws : List Jvm.Cond) (ad0 : Addr) (at_ : Int32) (h0 : Heap) (n0 : Nat) (Z0 : n0 ≤ h0.size) (E_ad0 : Exa Z h0 ad0 "com/example/tabularium/tabularium/model/Delivery") (F_attempts_ad0 : Fld Z h0 ad0 "com/example/tabularium/tabularium/model/Delivery" "attempts" "I" (.int at_)) :
    MetFree l (⟨"com/example/tabularium/tabularium/model/Delivery", "attempts", "()I"⟩ : MethodName) (head1 (Jvm.Cond.code (⟨"com/example/tabularium/tabularium/model/Delivery", "attempts", "()I"⟩ : MethodName) prog_63_method_10_code 1 (some .int) :: ws) ({ frames := 0, cells := 0, slots := 0, locals := 0 } : Room)) (fun a U => a = #[(.ref ad0)] ∧ Z.Warmed39 U.vm ∧ U.heap = h0) (fun _ _ _ _ _ => True) (fun _ U o U' => ∃ v L, o = .returned v ∧ Q9 Z ad0 at_ h0 n0 v U'.heap L ∧ FrameEnd U o U' L ({ frames := 0, cells := 0, slots := 0, locals := 0 } : Room).cells ({ frames := 0, cells := 0, slots := 0, locals := 0 } : Room).slots) := by
  refine MetFree.of_bodySF (plainFor_of_name own_pn1) hisR ?_
  intro p e s m args below meth c s₁ Bd hml0 hP hK
  obtain ⟨rfl, hZ, hh⟩ := hP
  have hx := Bd.exec
  have hby := Bd.bytes
  have hml : c.maxLocals = 1 := hml0
  have hown : s.vm.findClass "com/example/tabularium/tabularium/model/Delivery" = some m.cls := findClass_of_methodNamed Bd.named
  have hnm := (name_of_methodNamed Bd.named Bd.method).1
  have hlk : meth.locks = false := BodyLoose.notSynchronized Bd
  have X0 : Stand p l e ({ frames := 0, cells := 0, slots := 0, locals := 0 } : Room) s m #[(.ref ad0)] below meth c s₁ [] 0 0 := Stand.of_body Bd
  have e0 : s₁.heap = h0 := by rw [← hh, Bd.state]; rfl
  have N0 := Fr.nil n0
  obtain ⟨G, hG⟩ : ∃ G, G = own_G s (Q9 Z ad0 at_ h0 n0) ({ frames := 0, cells := 0, slots := 0, locals := 0 } : Room).cells ({ frames := 0, cells := 0, slots := 0, locals := 0 } : Room).slots := ⟨_, rfl⟩
  show own_Fin p e below (own_G s (Q9 Z ad0 at_ h0 n0) ({ frames := 0, cells := 0, slots := 0, locals := 0 } : Room).cells ({ frames := 0, cells := 0, slots := 0, locals := 0 } : Room).slots) (s₁.setTop (entryFrame m #[(.ref ad0)] 1))
  rw [← hG]
  refine own_to (fun _ kz => castTop (ef9 m ad0) kz) ?_
  have q0 : (f9 at_) = (f9 at_) := rfl
  show own_Fin p e below G (s₁.setTop (mkF m 0 #[.val (.ref ad0)] []))
  refine own_to (fun _ kz => XS.aloadN X0.here hx rfl (hb hby d9_0) rfl (rfl)  kz) ?_
  show own_Fin p e below G (s₁.setTop (mkF m 1 #[.val (.ref ad0)] [(.ref ad0)]))
  obtain ⟨T1, X1, e1, st1⟩ := getF X0 hx hZ hown (host := "") (Or.inl (hw _ (List.mem_of_getElem? (i := 17) rfl))) Via.refl e0 F_attempts_ad0 (g := (mkF m 1 #[.val (.ref ad0)] [(.ref ad0)])) rfl rfl (hb hby d9_1)
  refine own_to st1 ?_
  show own_Fin p e below G (T1.setTop (mkF m 4 #[.val (.ref ad0)] [(.int at_)]))
  exact own_retI X1 hx hlk hG Bd.returns (hb hby d9_4) (by decide) (by decide) ⟨(congrArg (fun z => some (Value.int z)) q0).symm, N0, e1⟩
theorem d10_0 : decode jdk_29_method_65_code 0 = .ok (.iload_n 0, 1) := by decide +kernel
theorem d10_1 : decode jdk_29_method_65_code 1 = .ok (.iload_n 1, 1) := by decide +kernel
theorem d10_2 : decode jdk_29_method_65_code 2 = .ok (.if_icmp .lt 7, 3) := by decide +kernel
theorem d10_5 : decode jdk_29_method_65_code 5 = .ok (.iload_n 0, 1) := by decide +kernel
theorem d10_6 : decode jdk_29_method_65_code 6 = .ok (.goto 4, 3) := by decide +kernel
theorem d10_9 : decode jdk_29_method_65_code 9 = .ok (.iload_n 1, 1) := by decide +kernel
theorem d10_10 : decode jdk_29_method_65_code 10 = .ok (.ireturn, 1) := by decide +kernel
theorem ef10 (m : MethodId) (p0 : Int32) (p1 : Int32) : entryFrame m #[(.int p0), (.int p1)] 2 = mkF m 0 #[.val (.int p0), .val (.int p1)] [] := by first | (simp [entryFrame, mkF, argsToLocals, Value.category]; done) | rfl
def f10 (p0 : Int32) (p1 : Int32) : Int32 := if p0 < p1 then p1 else p0
def Q10 (Z : State) (p0 : Int32) (p1 : Int32) (h0 : Heap) (n0 : Nat) (v : Option Value) (h : Heap) (L : List Loc) : Prop := v = some (.int (f10 p0 p1)) ∧ Fr n0 L ∧ h = h0
set_option maxRecDepth 65536 in
set_option maxHeartbeats 40000000 in
theorem rm10 (l : Launch) (Z : State) (a0 : Array Value) (hw : ∀ d ∈ tables_1, d.before a0 Z = true) (ws : List Jvm.Cond) (p0 : Int32) (p1 : Int32) (h0 : Heap) (n0 : Nat) (Z0 : n0 ≤ h0.size) :
    MetFree l (⟨"java/lang/Math", "max", "(II)I"⟩ : MethodName) (head1 (Jvm.Cond.code (⟨"java/lang/Math", "max", "(II)I"⟩ : MethodName) jdk_29_method_65_code 2 (some .int) :: ws) ({ frames := 0, cells := 0, slots := 0, locals := 0 } : Room)) (fun a U => a = #[(.int p0), (.int p1)] ∧ Z.Warmed39 U.vm ∧ U.heap = h0) (fun _ _ _ _ _ => True) (fun _ U o U' => ∃ v L, o = .returned v ∧ Q10 Z p0 p1 h0 n0 v U'.heap L ∧ FrameEnd U o U' L ({ frames := 0, cells := 0, slots := 0, locals := 0 } : Room).cells ({ frames := 0, cells := 0, slots := 0, locals := 0 } : Room).slots) := by
  refine MetFree.of_bodySF (Jvm.Free.JP.mathPlain rfl (by decide +kernel)) hisR ?_
  intro p e s m args below meth c s₁ Bd hml0 hP hK
  obtain ⟨rfl, hZ, hh⟩ := hP
  have hx := Bd.exec
  have hby := Bd.bytes
  have hml : c.maxLocals = 2 := hml0
  have hown : s.vm.findClass "java/lang/Math" = some m.cls := findClass_of_methodNamed Bd.named
  have hnm := (name_of_methodNamed Bd.named Bd.method).1
  have hlk : meth.locks = false := BodyLoose.notSynchronized Bd
  have X0 : Stand p l e ({ frames := 0, cells := 0, slots := 0, locals := 0 } : Room) s m #[(.int p0), (.int p1)] below meth c s₁ [] 0 0 := Stand.of_body Bd
  have e0 : s₁.heap = h0 := by rw [← hh, Bd.state]; rfl
  have N0 := Fr.nil n0
  obtain ⟨G, hG⟩ : ∃ G, G = own_G s (Q10 Z p0 p1 h0 n0) ({ frames := 0, cells := 0, slots := 0, locals := 0 } : Room).cells ({ frames := 0, cells := 0, slots := 0, locals := 0 } : Room).slots := ⟨_, rfl⟩
  show own_Fin p e below (own_G s (Q10 Z p0 p1 h0 n0) ({ frames := 0, cells := 0, slots := 0, locals := 0 } : Room).cells ({ frames := 0, cells := 0, slots := 0, locals := 0 } : Room).slots) (s₁.setTop (entryFrame m #[(.int p0), (.int p1)] 2))
  rw [← hG]
  refine own_to (fun _ kz => castTop (ef10 m p0 p1) kz) ?_
  have q0 : (f10 p0 p1) = (f10 p0 p1) := rfl
  show own_Fin p e below G (s₁.setTop (mkF m 0 #[.val (.int p0), .val (.int p1)] []))
  refine own_to (fun _ kz => XS.iloadN X0.here hx rfl (hb hby d10_0) rfl  kz) ?_
  show own_Fin p e below G (s₁.setTop (mkF m 1 #[.val (.int p0), .val (.int p1)] [(.int p0)]))
  refine own_to (fun _ kz => XS.iloadN X0.here hx rfl (hb hby d10_1) rfl  kz) ?_
  show own_Fin p e below G (s₁.setTop (mkF m 2 #[.val (.int p0), .val (.int p1)] [(.int p1), (.int p0)]))
  by_cases hc2 : p0 < p1
  · refine own_to (fun _ kz => XS.icmpYes X0.here hx rfl (pc0 := 2) (pc' := 9) rfl (hb hby d10_2) rfl (tlt hc2).1 (by decide) (by decide) kz) ?_
    have q2t := q0.trans (if_pos hc2)
    show own_Fin p e below G (s₁.setTop (mkF m 9 #[.val (.int p0), .val (.int p1)] []))
    refine own_to (fun _ kz => XS.iloadN X0.here hx rfl (hb hby d10_9) rfl  kz) ?_
    show own_Fin p e below G (s₁.setTop (mkF m 10 #[.val (.int p0), .val (.int p1)] [(.int p1)]))
    exact own_retI X0 hx hlk hG Bd.returns (hb hby d10_10) (by decide) (by decide) ⟨(congrArg (fun z => some (Value.int z)) q2t).symm, N0, e0⟩
  · refine own_to (fun _ kz => XS.icmpNo X0.here hx rfl (hb hby d10_2) rfl (flt hc2).1 kz) ?_
    have q2f := q0.trans (if_neg hc2)
    show own_Fin p e below G (s₁.setTop (mkF m 5 #[.val (.int p0), .val (.int p1)] []))
    refine own_to (fun _ kz => XS.iloadN X0.here hx rfl (hb hby d10_5) rfl  kz) ?_
    show own_Fin p e below G (s₁.setTop (mkF m 6 #[.val (.int p0), .val (.int p1)] [(.int p0)]))
    refine own_to (fun _ kz => XS.goto X0.here hx rfl (pc0 := 6) (pc' := 10) rfl (hb hby d10_6) (by decide) (by decide) kz) ?_
    show own_Fin p e below G (s₁.setTop (mkF m 10 #[.val (.int p0), .val (.int p1)] [(.int p0)]))
    exact own_retI X0 hx hlk hG Bd.returns (hb hby d10_10) (by decide) (by decide) ⟨(congrArg (fun z => some (Value.int z)) q2f).symm, N0, e0⟩
theorem own_pn2 : plainName "java/lang/StringLatin1" = true := by first | (simp [plainName, overriddenIn]; done) | decide +kernel
theorem d7_0 : decode jdk_43_method_13_code 0 = .ok (.aload_n 0, 1) := by decide +kernel
theorem d7_1 : decode jdk_43_method_13_code 1 = .ok (.arraylength, 1) := by decide +kernel
theorem d7_2 : decode jdk_43_method_13_code 2 = .ok (.aload_n 1, 1) := by decide +kernel
theorem d7_3 : decode jdk_43_method_13_code 3 = .ok (.arraylength, 1) := by decide +kernel
theorem d7_4 : decode jdk_43_method_13_code 4 = .ok (.if_icmp .ne 30, 3) := by decide +kernel
theorem d7_7 : decode jdk_43_method_13_code 7 = .ok (.iconst 0, 1) := by decide +kernel
theorem d7_8 : decode jdk_43_method_13_code 8 = .ok (.istore_n 2, 1) := by decide +kernel
theorem d7_9 : decode jdk_43_method_13_code 9 = .ok (.iload_n 2, 1) := by decide +kernel
theorem d7_10 : decode jdk_43_method_13_code 10 = .ok (.aload_n 0, 1) := by decide +kernel
theorem d7_11 : decode jdk_43_method_13_code 11 = .ok (.arraylength, 1) := by decide +kernel
theorem d7_12 : decode jdk_43_method_13_code 12 = .ok (.if_icmp .ge 20, 3) := by decide +kernel
theorem d7_15 : decode jdk_43_method_13_code 15 = .ok (.aload_n 0, 1) := by decide +kernel
theorem d7_16 : decode jdk_43_method_13_code 16 = .ok (.iload_n 2, 1) := by decide +kernel
theorem d7_17 : decode jdk_43_method_13_code 17 = .ok (.baload, 1) := by decide +kernel
theorem d7_18 : decode jdk_43_method_13_code 18 = .ok (.aload_n 1, 1) := by decide +kernel
theorem d7_19 : decode jdk_43_method_13_code 19 = .ok (.iload_n 2, 1) := by decide +kernel
theorem d7_20 : decode jdk_43_method_13_code 20 = .ok (.baload, 1) := by decide +kernel
theorem d7_21 : decode jdk_43_method_13_code 21 = .ok (.if_icmp .eq 5, 3) := by decide +kernel
theorem d7_26 : decode jdk_43_method_13_code 26 = .ok (.iinc 2 1, 3) := by decide +kernel
theorem d7_29 : decode jdk_43_method_13_code 29 = .ok (.goto (-20), 3) := by decide +kernel
theorem d7_32 : decode jdk_43_method_13_code 32 = .ok (.iconst 1, 1) := by decide +kernel
theorem d7_33 : decode jdk_43_method_13_code 33 = .ok (.ireturn, 1) := by decide +kernel
theorem efLT (m : MethodId) (ad0 : Addr) (ad1 : Addr) : entryFrame m #[(.ref ad0), (.ref ad1)] 3 = mkF m 0 #[.val (.ref ad0), .val (.ref ad1), .unset] [] := by first | (simp [entryFrame, mkF, argsToLocals, Value.category]; done) | rfl
def QLT (Z : State) (ad0 : Addr) (ad1 : Addr) (na : Nat) (fa : Nat → Int32) (h0 : Heap) (n0 : Nat) (v : Option Value) (h : Heap) (L : List Loc) : Prop := v = some (.int 1) ∧ Fr n0 L ∧ h = h0
set_option maxRecDepth 65536 in
set_option maxHeartbeats 40000000 in
theorem rmLT (l : Launch) (Z : State) (a0 : Array Value) (hw : ∀ d ∈ tables_1, d.before a0 Z = true) (ws : List Jvm.Cond) (ad0 : Addr) (ad1 : Addr) (na : Nat) (fa : Nat → Int32) (h0 : Heap) (n0 : Nat) (Z0 : n0 ≤ h0.size) (V_ad0 : own_AV Value.int Z h0 ad0 .byte na fa) (V_ad1 : own_AV Value.int Z h0 ad1 .byte na fa) :
    MetFree l (⟨"java/lang/StringLatin1", "equals", "([B[B)Z"⟩ : MethodName) (head1 (Jvm.Cond.code (⟨"java/lang/StringLatin1", "equals", "([B[B)Z"⟩ : MethodName) jdk_43_method_13_code 3 (some .boolean) :: ws) ({ frames := 0, cells := 0, slots := 0, locals := 0 } : Room)) (fun a U => a = #[(.ref ad0), (.ref ad1)] ∧ Z.Warmed39 U.vm ∧ U.heap = h0) (fun _ _ _ _ _ => True) (fun _ U o U' => ∃ v L, o = .returned v ∧ QLT Z ad0 ad1 na fa h0 n0 v U'.heap L ∧ FrameEnd U o U' L ({ frames := 0, cells := 0, slots := 0, locals := 0 } : Room).cells ({ frames := 0, cells := 0, slots := 0, locals := 0 } : Room).slots) := by
  refine MetFree.of_bodySF (plainFor_of_name own_pn2) hisR ?_
  intro p e s m args below meth c s₁ Bd hml0 hP hK
  obtain ⟨rfl, hZ, hh⟩ := hP
  have hx := Bd.exec
  have hby := Bd.bytes
  have hml : c.maxLocals = 3 := hml0
  have hown : s.vm.findClass "java/lang/StringLatin1" = some m.cls := findClass_of_methodNamed Bd.named
  have hnm := (name_of_methodNamed Bd.named Bd.method).1
  have hlk : meth.locks = false := BodyLoose.notSynchronized Bd
  have X0 : Stand p l e ({ frames := 0, cells := 0, slots := 0, locals := 0 } : Room) s m #[(.ref ad0), (.ref ad1)] below meth c s₁ [] 0 0 := Stand.of_body Bd
  have e0 : s₁.heap = h0 := by rw [← hh, Bd.state]; rfl
  have N0 := Fr.nil n0
  obtain ⟨G, hG⟩ : ∃ G, G = own_G s (QLT Z ad0 ad1 na fa h0 n0) ({ frames := 0, cells := 0, slots := 0, locals := 0 } : Room).cells ({ frames := 0, cells := 0, slots := 0, locals := 0 } : Room).slots := ⟨_, rfl⟩
  show own_Fin p e below (own_G s (QLT Z ad0 ad1 na fa h0 n0) ({ frames := 0, cells := 0, slots := 0, locals := 0 } : Room).cells ({ frames := 0, cells := 0, slots := 0, locals := 0 } : Room).slots) (s₁.setTop (entryFrame m #[(.ref ad0), (.ref ad1)] 3))
  rw [← hG]
  refine own_to (fun _ kz => castTop (efLT m ad0 ad1) kz) ?_
  show own_Fin p e below G (s₁.setTop (mkF m 0 #[.val (.ref ad0), .val (.ref ad1), .unset] []))
  refine own_to (fun _ kz => XS.aloadN X0.here hx rfl (hb hby d7_0) rfl (rfl)  kz) ?_
  show own_Fin p e below G (s₁.setTop (mkF m 1 #[.val (.ref ad0), .val (.ref ad1), .unset] [(.ref ad0)]))
  refine own_to (fun _ kz => own_alen X0 hx hZ e0 V_ad0 (z := (Int32.ofNat na)) rfl (g := (mkF m 1 #[.val (.ref ad0), .val (.ref ad1), .unset] [(.ref ad0)])) rfl rfl (hb hby d7_1) kz) ?_
  show own_Fin p e below G (s₁.setTop (mkF m 2 #[.val (.ref ad0), .val (.ref ad1), .unset] [(.int (Int32.ofNat na))]))
  refine own_to (fun _ kz => XS.aloadN X0.here hx rfl (hb hby d7_2) rfl (rfl)  kz) ?_
  show own_Fin p e below G (s₁.setTop (mkF m 3 #[.val (.ref ad0), .val (.ref ad1), .unset] [(.ref ad1), (.int (Int32.ofNat na))]))
  refine own_to (fun _ kz => own_alen X0 hx hZ e0 V_ad1 (z := (Int32.ofNat na)) rfl (g := (mkF m 3 #[.val (.ref ad0), .val (.ref ad1), .unset] [(.ref ad1), (.int (Int32.ofNat na))])) rfl rfl (hb hby d7_3) kz) ?_
  show own_Fin p e below G (s₁.setTop (mkF m 4 #[.val (.ref ad0), .val (.ref ad1), .unset] [(.int (Int32.ofNat na)), (.int (Int32.ofNat na))]))
  have hc4 : (Int32.ofNat na) = (Int32.ofNat na) := rfl
  refine own_to (fun _ kz => XS.icmpNo X0.here hx rfl (hb hby d7_4) rfl (teq hc4).2 kz) ?_
  show own_Fin p e below G (s₁.setTop (mkF m 7 #[.val (.ref ad0), .val (.ref ad1), .unset] []))
  refine own_to (fun _ kz => XS.iconst X0.here hx rfl (hb hby d7_7) kz) ?_
  show own_Fin p e below G (s₁.setTop (mkF m 8 #[.val (.ref ad0), .val (.ref ad1), .unset] [(.int (0 : Int32))]))
  refine own_to (fun _ kz => XS.istoreN X0.here hx rfl (hb hby d7_8) rfl (l' := #[.val (.ref ad0), .val (.ref ad1), .val (.int (0 : Int32))]) rfl kz) ?_
  show own_Fin p e below G (s₁.setTop (mkF m 9 #[.val (.ref ad0), .val (.ref ad1), .val (.int (0 : Int32))] []))
  have K9 : ∀ (k_9 : Nat) (i : Int32) (T_j9 : State) (locs_j9 : List Loc) (N_j9 : Fr n0 locs_j9) (X_j9 : Stand p l e ({ frames := 0, cells := 0, slots := 0, locals := 0 } : Room) s m #[(.ref ad0), (.ref ad1)] below meth c T_j9 locs_j9 0 0) (e_j9 : T_j9.heap = h0) (hm_9 : na - i.toNatClampNeg = k_9) (hi : 0 ≤ i.toInt ∧ i.toInt ≤ na), own_Fin p e below G (T_j9.setTop (mkF m 9 #[.val (.ref ad0), .val (.ref ad1), .val (.int i)] [])) := by
    intro k_9
    induction k_9 using Nat.strongRecOn with
    | _ k_9 ih_9 =>
      intro i T_j9 locs_j9 N_j9 X_j9 e_j9 hm_9 hi
      refine own_to (fun _ kz => XS.iloadN X_j9.here hx rfl (hb hby d7_9) rfl  kz) ?_
      show own_Fin p e below G (T_j9.setTop (mkF m 10 #[.val (.ref ad0), .val (.ref ad1), .val (.int i)] [(.int i)]))
      refine own_to (fun _ kz => XS.aloadN X_j9.here hx rfl (hb hby d7_10) rfl (rfl)  kz) ?_
      show own_Fin p e below G (T_j9.setTop (mkF m 11 #[.val (.ref ad0), .val (.ref ad1), .val (.int i)] [(.ref ad0), (.int i)]))
      refine own_to (fun _ kz => own_alen X_j9 hx hZ e_j9 V_ad0 (z := (Int32.ofNat na)) rfl (g := (mkF m 11 #[.val (.ref ad0), .val (.ref ad1), .val (.int i)] [(.ref ad0), (.int i)])) rfl rfl (hb hby d7_11) kz) ?_
      show own_Fin p e below G (T_j9.setTop (mkF m 12 #[.val (.ref ad0), .val (.ref ad1), .val (.int i)] [(.int (Int32.ofNat na)), (.int i)]))
      by_cases hc12 : i < (Int32.ofNat na)
      · refine own_to (fun _ kz => XS.icmpNo X_j9.here hx rfl (hb hby d7_12) rfl (tlt hc12).2.1 kz) ?_
        show own_Fin p e below G (T_j9.setTop (mkF m 15 #[.val (.ref ad0), .val (.ref ad1), .val (.int i)] []))
        refine own_to (fun _ kz => XS.aloadN X_j9.here hx rfl (hb hby d7_15) rfl (rfl)  kz) ?_
        show own_Fin p e below G (T_j9.setTop (mkF m 16 #[.val (.ref ad0), .val (.ref ad1), .val (.int i)] [(.ref ad0)]))
        refine own_to (fun _ kz => XS.iloadN X_j9.here hx rfl (hb hby d7_16) rfl  kz) ?_
        show own_Fin p e below G (T_j9.setTop (mkF m 17 #[.val (.ref ad0), .val (.ref ad1), .val (.int i)] [(.int i), (.ref ad0)]))
        refine own_to (fun _ kz => own_baload X_j9 hx hZ e_j9 V_ad0 (j := i) (own_up V_ad0.1 hi hc12).2.1.1 rfl (own_up V_ad0.1 hi hc12).2.1.2 (g := (mkF m 17 #[.val (.ref ad0), .val (.ref ad1), .val (.int i)] [(.int i), (.ref ad0)])) rfl rfl (hb hby d7_17) kz) ?_
        show own_Fin p e below G (T_j9.setTop (mkF m 18 #[.val (.ref ad0), .val (.ref ad1), .val (.int i)] [(.int (fa i.toNatClampNeg))]))
        refine own_to (fun _ kz => XS.aloadN X_j9.here hx rfl (hb hby d7_18) rfl (rfl)  kz) ?_
        show own_Fin p e below G (T_j9.setTop (mkF m 19 #[.val (.ref ad0), .val (.ref ad1), .val (.int i)] [(.ref ad1), (.int (fa i.toNatClampNeg))]))
        refine own_to (fun _ kz => XS.iloadN X_j9.here hx rfl (hb hby d7_19) rfl  kz) ?_
        show own_Fin p e below G (T_j9.setTop (mkF m 20 #[.val (.ref ad0), .val (.ref ad1), .val (.int i)] [(.int i), (.ref ad1), (.int (fa i.toNatClampNeg))]))
        refine own_to (fun _ kz => own_baload X_j9 hx hZ e_j9 V_ad1 (j := i) (own_up V_ad0.1 hi hc12).2.1.1 rfl (own_up V_ad0.1 hi hc12).2.1.2 (g := (mkF m 20 #[.val (.ref ad0), .val (.ref ad1), .val (.int i)] [(.int i), (.ref ad1), (.int (fa i.toNatClampNeg))])) rfl rfl (hb hby d7_20) kz) ?_
        show own_Fin p e below G (T_j9.setTop (mkF m 21 #[.val (.ref ad0), .val (.ref ad1), .val (.int i)] [(.int (fa i.toNatClampNeg)), (.int (fa i.toNatClampNeg))]))
        have hc21 : (fa i.toNatClampNeg) = (fa i.toNatClampNeg) := rfl
        refine own_to (fun _ kz => XS.icmpYes X_j9.here hx rfl (pc0 := 21) (pc' := 26) rfl (hb hby d7_21) rfl (teq hc21).1 (by decide) (by decide) kz) ?_
        show own_Fin p e below G (T_j9.setTop (mkF m 26 #[.val (.ref ad0), .val (.ref ad1), .val (.int i)] []))
        refine own_to (fun _ kz => XS.iinc X_j9.here hx rfl (hb hby d7_26) rfl (l' := #[.val (.ref ad0), .val (.ref ad1), .val (.int (i + (1 : Int32)))]) rfl kz) ?_
        show own_Fin p e below G (T_j9.setTop (mkF m 29 #[.val (.ref ad0), .val (.ref ad1), .val (.int (i + (1 : Int32)))] []))
        refine own_to (fun _ kz => XS.goto X_j9.here hx rfl (pc0 := 29) (pc' := 9) rfl (hb hby d7_29) (by decide) (by decide) kz) ?_
        show own_Fin p e below G (T_j9.setTop (mkF m 9 #[.val (.ref ad0), .val (.ref ad1), .val (.int (i + (1 : Int32)))] []))
        exact ih_9 _ (own_dec V_ad0.1 hi hc12 hm_9) (i + (1 : Int32)) _ _ N_j9 X_j9 e_j9 rfl (own_up V_ad0.1 hi hc12).1
      · refine own_to (fun _ kz => XS.icmpYes X_j9.here hx rfl (pc0 := 12) (pc' := 32) rfl (hb hby d7_12) rfl (flt hc12).2.1 (by decide) (by decide) kz) ?_
        show own_Fin p e below G (T_j9.setTop (mkF m 32 #[.val (.ref ad0), .val (.ref ad1), .val (.int i)] []))
        refine own_to (fun _ kz => XS.iconst X_j9.here hx rfl (hb hby d7_32) kz) ?_
        show own_Fin p e below G (T_j9.setTop (mkF m 33 #[.val (.ref ad0), .val (.ref ad1), .val (.int i)] [(.int (1 : Int32))]))
        exact own_retN X_j9 hx hlk hG (t := .boolean) Bd.returns (by simp) (hb hby d7_33) (by decide) (by decide) ⟨rfl, N_j9, e_j9⟩
  exact K9 _ (0 : Int32) _ _ N0 X0 e0 rfl ⟨by decide, Int.natCast_nonneg na⟩
theorem d7_34 : decode jdk_43_method_13_code 34 = .ok (.iconst 0, 1) := by decide +kernel
theorem d7_35 : decode jdk_43_method_13_code 35 = .ok (.ireturn, 1) := by decide +kernel
theorem efLF7 (m : MethodId) (ad0 : Addr) (ad1 : Addr) : entryFrame m #[(.ref ad0), (.ref ad1)] 3 = mkF m 0 #[.val (.ref ad0), .val (.ref ad1), .unset] [] := by first | (simp [entryFrame, mkF, argsToLocals, Value.category]; done) | rfl
def QLF7 (Z : State) (ad0 : Addr) (ad1 : Addr) (fa : Nat → Int32) (fb : Nat → Int32) (h0 : Heap) (n0 : Nat) (v : Option Value) (h : Heap) (L : List Loc) : Prop := v = some (.int 0) ∧ Fr n0 L ∧ h = h0
set_option maxRecDepth 65536 in
set_option maxHeartbeats 40000000 in
theorem rmLF7 (l : Launch) (Z : State) (a0 : Array Value) (hw : ∀ d ∈ tables_1, d.before a0 Z = true) (ws : List Jvm.Cond) (ad0 : Addr) (ad1 : Addr) (fa : Nat → Int32) (fb : Nat → Int32) (h0 : Heap) (n0 : Nat) (Z0 : n0 ≤ h0.size) (V_ad0 : own_AV Value.int Z h0 ad0 .byte 7 fa) (V_ad1 : own_AV Value.int Z h0 ad1 .byte 9 fb) :
    MetFree l (⟨"java/lang/StringLatin1", "equals", "([B[B)Z"⟩ : MethodName) (head1 (Jvm.Cond.code (⟨"java/lang/StringLatin1", "equals", "([B[B)Z"⟩ : MethodName) jdk_43_method_13_code 3 (some .boolean) :: ws) ({ frames := 0, cells := 0, slots := 0, locals := 0 } : Room)) (fun a U => a = #[(.ref ad0), (.ref ad1)] ∧ Z.Warmed39 U.vm ∧ U.heap = h0) (fun _ _ _ _ _ => True) (fun _ U o U' => ∃ v L, o = .returned v ∧ QLF7 Z ad0 ad1 fa fb h0 n0 v U'.heap L ∧ FrameEnd U o U' L ({ frames := 0, cells := 0, slots := 0, locals := 0 } : Room).cells ({ frames := 0, cells := 0, slots := 0, locals := 0 } : Room).slots) := by
  refine MetFree.of_bodySF (plainFor_of_name own_pn2) hisR ?_
  intro p e s m args below meth c s₁ Bd hml0 hP hK
  obtain ⟨rfl, hZ, hh⟩ := hP
  have hx := Bd.exec
  have hby := Bd.bytes
  have hml : c.maxLocals = 3 := hml0
  have hown : s.vm.findClass "java/lang/StringLatin1" = some m.cls := findClass_of_methodNamed Bd.named
  have hnm := (name_of_methodNamed Bd.named Bd.method).1
  have hlk : meth.locks = false := BodyLoose.notSynchronized Bd
  have X0 : Stand p l e ({ frames := 0, cells := 0, slots := 0, locals := 0 } : Room) s m #[(.ref ad0), (.ref ad1)] below meth c s₁ [] 0 0 := Stand.of_body Bd
  have e0 : s₁.heap = h0 := by rw [← hh, Bd.state]; rfl
  have N0 := Fr.nil n0
  obtain ⟨G, hG⟩ : ∃ G, G = own_G s (QLF7 Z ad0 ad1 fa fb h0 n0) ({ frames := 0, cells := 0, slots := 0, locals := 0 } : Room).cells ({ frames := 0, cells := 0, slots := 0, locals := 0 } : Room).slots := ⟨_, rfl⟩
  show own_Fin p e below (own_G s (QLF7 Z ad0 ad1 fa fb h0 n0) ({ frames := 0, cells := 0, slots := 0, locals := 0 } : Room).cells ({ frames := 0, cells := 0, slots := 0, locals := 0 } : Room).slots) (s₁.setTop (entryFrame m #[(.ref ad0), (.ref ad1)] 3))
  rw [← hG]
  refine own_to (fun _ kz => castTop (efLF7 m ad0 ad1) kz) ?_
  show own_Fin p e below G (s₁.setTop (mkF m 0 #[.val (.ref ad0), .val (.ref ad1), .unset] []))
  refine own_to (fun _ kz => XS.aloadN X0.here hx rfl (hb hby d7_0) rfl (rfl)  kz) ?_
  show own_Fin p e below G (s₁.setTop (mkF m 1 #[.val (.ref ad0), .val (.ref ad1), .unset] [(.ref ad0)]))
  refine own_to (fun _ kz => own_alen X0 hx hZ e0 V_ad0 (z := (7 : Int32)) rfl (g := (mkF m 1 #[.val (.ref ad0), .val (.ref ad1), .unset] [(.ref ad0)])) rfl rfl (hb hby d7_1) kz) ?_
  show own_Fin p e below G (s₁.setTop (mkF m 2 #[.val (.ref ad0), .val (.ref ad1), .unset] [(.int (7 : Int32))]))
  refine own_to (fun _ kz => XS.aloadN X0.here hx rfl (hb hby d7_2) rfl (rfl)  kz) ?_
  show own_Fin p e below G (s₁.setTop (mkF m 3 #[.val (.ref ad0), .val (.ref ad1), .unset] [(.ref ad1), (.int (7 : Int32))]))
  refine own_to (fun _ kz => own_alen X0 hx hZ e0 V_ad1 (z := (9 : Int32)) rfl (g := (mkF m 3 #[.val (.ref ad0), .val (.ref ad1), .unset] [(.ref ad1), (.int (7 : Int32))])) rfl rfl (hb hby d7_3) kz) ?_
  show own_Fin p e below G (s₁.setTop (mkF m 4 #[.val (.ref ad0), .val (.ref ad1), .unset] [(.int (9 : Int32)), (.int (7 : Int32))]))
  have hc4 : ¬ ((7 : Int32) = (9 : Int32)) := (by decide)
  refine own_to (fun _ kz => XS.icmpYes X0.here hx rfl (pc0 := 4) (pc' := 34) rfl (hb hby d7_4) rfl (feq hc4).2 (by decide) (by decide) kz) ?_
  show own_Fin p e below G (s₁.setTop (mkF m 34 #[.val (.ref ad0), .val (.ref ad1), .unset] []))
  refine own_to (fun _ kz => XS.iconst X0.here hx rfl (hb hby d7_34) kz) ?_
  show own_Fin p e below G (s₁.setTop (mkF m 35 #[.val (.ref ad0), .val (.ref ad1), .unset] [(.int (0 : Int32))]))
  exact own_retN X0 hx hlk hG (t := .boolean) Bd.returns (by simp) (hb hby d7_35) (by decide) (by decide) ⟨rfl, N0, e0⟩
theorem efLF9 (m : MethodId) (ad0 : Addr) (ad1 : Addr) : entryFrame m #[(.ref ad0), (.ref ad1)] 3 = mkF m 0 #[.val (.ref ad0), .val (.ref ad1), .unset] [] := by first | (simp [entryFrame, mkF, argsToLocals, Value.category]; done) | rfl
def QLF9 (Z : State) (ad0 : Addr) (ad1 : Addr) (fa : Nat → Int32) (fb : Nat → Int32) (h0 : Heap) (n0 : Nat) (v : Option Value) (h : Heap) (L : List Loc) : Prop := v = some (.int 0) ∧ Fr n0 L ∧ h = h0
set_option maxRecDepth 65536 in
set_option maxHeartbeats 40000000 in
theorem rmLF9 (l : Launch) (Z : State) (a0 : Array Value) (hw : ∀ d ∈ tables_1, d.before a0 Z = true) (ws : List Jvm.Cond) (ad0 : Addr) (ad1 : Addr) (fa : Nat → Int32) (fb : Nat → Int32) (h0 : Heap) (n0 : Nat) (Z0 : n0 ≤ h0.size) (V_ad0 : own_AV Value.int Z h0 ad0 .byte 9 fa) (V_ad1 : own_AV Value.int Z h0 ad1 .byte 7 fb) :
    MetFree l (⟨"java/lang/StringLatin1", "equals", "([B[B)Z"⟩ : MethodName) (head1 (Jvm.Cond.code (⟨"java/lang/StringLatin1", "equals", "([B[B)Z"⟩ : MethodName) jdk_43_method_13_code 3 (some .boolean) :: ws) ({ frames := 0, cells := 0, slots := 0, locals := 0 } : Room)) (fun a U => a = #[(.ref ad0), (.ref ad1)] ∧ Z.Warmed39 U.vm ∧ U.heap = h0) (fun _ _ _ _ _ => True) (fun _ U o U' => ∃ v L, o = .returned v ∧ QLF9 Z ad0 ad1 fa fb h0 n0 v U'.heap L ∧ FrameEnd U o U' L ({ frames := 0, cells := 0, slots := 0, locals := 0 } : Room).cells ({ frames := 0, cells := 0, slots := 0, locals := 0 } : Room).slots) := by
  refine MetFree.of_bodySF (plainFor_of_name own_pn2) hisR ?_
  intro p e s m args below meth c s₁ Bd hml0 hP hK
  obtain ⟨rfl, hZ, hh⟩ := hP
  have hx := Bd.exec
  have hby := Bd.bytes
  have hml : c.maxLocals = 3 := hml0
  have hown : s.vm.findClass "java/lang/StringLatin1" = some m.cls := findClass_of_methodNamed Bd.named
  have hnm := (name_of_methodNamed Bd.named Bd.method).1
  have hlk : meth.locks = false := BodyLoose.notSynchronized Bd
  have X0 : Stand p l e ({ frames := 0, cells := 0, slots := 0, locals := 0 } : Room) s m #[(.ref ad0), (.ref ad1)] below meth c s₁ [] 0 0 := Stand.of_body Bd
  have e0 : s₁.heap = h0 := by rw [← hh, Bd.state]; rfl
  have N0 := Fr.nil n0
  obtain ⟨G, hG⟩ : ∃ G, G = own_G s (QLF9 Z ad0 ad1 fa fb h0 n0) ({ frames := 0, cells := 0, slots := 0, locals := 0 } : Room).cells ({ frames := 0, cells := 0, slots := 0, locals := 0 } : Room).slots := ⟨_, rfl⟩
  show own_Fin p e below (own_G s (QLF9 Z ad0 ad1 fa fb h0 n0) ({ frames := 0, cells := 0, slots := 0, locals := 0 } : Room).cells ({ frames := 0, cells := 0, slots := 0, locals := 0 } : Room).slots) (s₁.setTop (entryFrame m #[(.ref ad0), (.ref ad1)] 3))
  rw [← hG]
  refine own_to (fun _ kz => castTop (efLF9 m ad0 ad1) kz) ?_
  show own_Fin p e below G (s₁.setTop (mkF m 0 #[.val (.ref ad0), .val (.ref ad1), .unset] []))
  refine own_to (fun _ kz => XS.aloadN X0.here hx rfl (hb hby d7_0) rfl (rfl)  kz) ?_
  show own_Fin p e below G (s₁.setTop (mkF m 1 #[.val (.ref ad0), .val (.ref ad1), .unset] [(.ref ad0)]))
  refine own_to (fun _ kz => own_alen X0 hx hZ e0 V_ad0 (z := (9 : Int32)) rfl (g := (mkF m 1 #[.val (.ref ad0), .val (.ref ad1), .unset] [(.ref ad0)])) rfl rfl (hb hby d7_1) kz) ?_
  show own_Fin p e below G (s₁.setTop (mkF m 2 #[.val (.ref ad0), .val (.ref ad1), .unset] [(.int (9 : Int32))]))
  refine own_to (fun _ kz => XS.aloadN X0.here hx rfl (hb hby d7_2) rfl (rfl)  kz) ?_
  show own_Fin p e below G (s₁.setTop (mkF m 3 #[.val (.ref ad0), .val (.ref ad1), .unset] [(.ref ad1), (.int (9 : Int32))]))
  refine own_to (fun _ kz => own_alen X0 hx hZ e0 V_ad1 (z := (7 : Int32)) rfl (g := (mkF m 3 #[.val (.ref ad0), .val (.ref ad1), .unset] [(.ref ad1), (.int (9 : Int32))])) rfl rfl (hb hby d7_3) kz) ?_
  show own_Fin p e below G (s₁.setTop (mkF m 4 #[.val (.ref ad0), .val (.ref ad1), .unset] [(.int (7 : Int32)), (.int (9 : Int32))]))
  have hc4 : ¬ ((9 : Int32) = (7 : Int32)) := (by decide)
  refine own_to (fun _ kz => XS.icmpYes X0.here hx rfl (pc0 := 4) (pc' := 34) rfl (hb hby d7_4) rfl (feq hc4).2 (by decide) (by decide) kz) ?_
  show own_Fin p e below G (s₁.setTop (mkF m 34 #[.val (.ref ad0), .val (.ref ad1), .unset] []))
  refine own_to (fun _ kz => XS.iconst X0.here hx rfl (hb hby d7_34) kz) ?_
  show own_Fin p e below G (s₁.setTop (mkF m 35 #[.val (.ref ad0), .val (.ref ad1), .unset] [(.int (0 : Int32))]))
  exact own_retN X0 hx hlk hG (t := .boolean) Bd.returns (by simp) (hb hby d7_35) (by decide) (by decide) ⟨rfl, N0, e0⟩
theorem own_pd1 : parseMethodDescriptor "([B[B)Z" = some ⟨[(.array .byte), (.array .byte)], some .boolean⟩ := by decide +kernel
theorem own_pn3 : plainName "java/lang/String" = true := by first | (simp [plainName, overriddenIn]; done) | decide +kernel
theorem d5_0 : decode jdk_42_method_66_code 0 = .ok (.aload_n 0, 1) := by decide +kernel
theorem d5_1 : decode jdk_42_method_66_code 1 = .ok (.aload_n 1, 1) := by decide +kernel
theorem d5_2 : decode jdk_42_method_66_code 2 = .ok (.if_acmp .ne 5, 3) := by decide +kernel
theorem d5_5 : decode jdk_42_method_66_code 5 = .ok (.iconst 1, 1) := by decide +kernel
theorem d5_6 : decode jdk_42_method_66_code 6 = .ok (.ireturn, 1) := by decide +kernel
theorem d5_7 : decode jdk_42_method_66_code 7 = .ok (.aload_n 1, 1) := by decide +kernel
theorem d5_8 : decode jdk_42_method_66_code 8 = .ok (.instanceof 10, 3) := by decide +kernel
theorem d5_11 : decode jdk_42_method_66_code 11 = .ok (.ifCond .eq 43, 3) := by decide +kernel
theorem d5_14 : decode jdk_42_method_66_code 14 = .ok (.aload_n 1, 1) := by decide +kernel
theorem d5_15 : decode jdk_42_method_66_code 15 = .ok (.checkcast 10, 3) := by decide +kernel
theorem d5_18 : decode jdk_42_method_66_code 18 = .ok (.astore_n 2, 1) := by decide +kernel
theorem d5_19 : decode jdk_42_method_66_code 19 = .ok (.getstatic 38, 3) := by decide +kernel
theorem d5_22 : decode jdk_42_method_66_code 22 = .ok (.ifCond .eq 14, 3) := by decide +kernel
theorem d5_25 : decode jdk_42_method_66_code 25 = .ok (.aload_n 0, 1) := by decide +kernel
theorem d5_26 : decode jdk_42_method_66_code 26 = .ok (.getfield 15, 3) := by decide +kernel
theorem d5_29 : decode jdk_42_method_66_code 29 = .ok (.aload_n 2, 1) := by decide +kernel
theorem d5_30 : decode jdk_42_method_66_code 30 = .ok (.getfield 15, 3) := by decide +kernel
theorem d5_33 : decode jdk_42_method_66_code 33 = .ok (.if_icmp .ne 21, 3) := by decide +kernel
theorem d5_36 : decode jdk_42_method_66_code 36 = .ok (.aload_n 0, 1) := by decide +kernel
theorem d5_37 : decode jdk_42_method_66_code 37 = .ok (.getfield 9, 3) := by decide +kernel
theorem d5_40 : decode jdk_42_method_66_code 40 = .ok (.aload_n 2, 1) := by decide +kernel
theorem d5_41 : decode jdk_42_method_66_code 41 = .ok (.getfield 9, 3) := by decide +kernel
theorem d5_44 : decode jdk_42_method_66_code 44 = .ok (.invokestatic 541, 3) := by decide +kernel
theorem d5_47 : decode jdk_42_method_66_code 47 = .ok (.ifCond .eq 7, 3) := by decide +kernel
theorem d5_50 : decode jdk_42_method_66_code 50 = .ok (.iconst 1, 1) := by decide +kernel
theorem d5_51 : decode jdk_42_method_66_code 51 = .ok (.goto 4, 3) := by decide +kernel
theorem d5_54 : decode jdk_42_method_66_code 54 = .ok (.iconst 0, 1) := by decide +kernel
theorem d5_55 : decode jdk_42_method_66_code 55 = .ok (.ireturn, 1) := by decide +kernel
theorem efET (m : MethodId) (ad0 : Addr) (ad1 : Addr) : entryFrame m #[(.ref ad0), (.ref ad1)] 3 = mkF m 0 #[.val (.ref ad0), .val (.ref ad1), .unset] [] := by first | (simp [entryFrame, mkF, argsToLocals, Value.category]; done) | rfl
def QET (Z : State) (ad0 : Addr) (ad1 : Addr) (na : Nat) (fa : Nat → Int32) (b0 : Addr) (b1 : Addr) (cz : Int32) (h0 : Heap) (n0 : Nat) (v : Option Value) (h : Heap) (L : List Loc) : Prop := v = some (.int 1) ∧ Fr n0 L ∧ h = h0
set_option maxRecDepth 65536 in
set_option maxHeartbeats 40000000 in
theorem rmET (l : Launch) (Z : State) (a0 : Array Value) (hw : ∀ d ∈ tables_1, d.before a0 Z = true) (ws : List Jvm.Cond) (ad0 : Addr) (ad1 : Addr) (na : Nat) (fa : Nat → Int32) (b0 : Addr) (b1 : Addr) (cz : Int32) (h0 : Heap) (n0 : Nat) (Z0 : n0 ≤ h0.size) (E_ad0 : Exa Z h0 ad0 "java/lang/String") (F_coder_ad0 : Fld Z h0 ad0 "java/lang/String" "coder" "B" (.int (0 : Int32))) (F_value_ad0 : Fld Z h0 ad0 "java/lang/String" "value" "[B" (.ref b0)) (V_b0 : own_AV Value.int Z h0 b0 .byte na fa) (E_ad1 : Exa Z h0 ad1 "java/lang/String") (F_coder_ad1 : Fld Z h0 ad1 "java/lang/String" "coder" "B" (.int (0 : Int32))) (F_value_ad1 : Fld Z h0 ad1 "java/lang/String" "value" "[B" (.ref b1)) (V_b1 : own_AV Value.int Z h0 b1 .byte na fa) (S_COMPACT_STRINGS : Sta Z h0 "java/lang/String" "COMPACT_STRINGS" "Z" (.int cz)) (hcz : ¬ cz = (0 : Int32)) :
    MetFree l (⟨"java/lang/String", "equals", "(Ljava/lang/Object;)Z"⟩ : MethodName) (head1 (Jvm.Cond.code (⟨"java/lang/String", "equals", "(Ljava/lang/Object;)Z"⟩ : MethodName) jdk_42_method_66_code 3 (some .boolean) :: ws) ({ frames := 1, cells := 0, slots := 0, locals := 14 } : Room)) (fun a U => a = #[(.ref ad0), (.ref ad1)] ∧ Z.Warmed39 U.vm ∧ U.heap = h0) (fun _ _ _ _ _ => True) (fun _ U o U' => ∃ v L, o = .returned v ∧ QET Z ad0 ad1 na fa b0 b1 cz h0 n0 v U'.heap L ∧ FrameEnd U o U' L ({ frames := 1, cells := 0, slots := 0, locals := 14 } : Room).cells ({ frames := 1, cells := 0, slots := 0, locals := 14 } : Room).slots) := by
  refine MetFree.of_bodySF (plainFor_of_name own_pn3) hisR ?_
  intro p e s m args below meth c s₁ Bd hml0 hP hK
  obtain ⟨rfl, hZ, hh⟩ := hP
  have hx := Bd.exec
  have hby := Bd.bytes
  have hml : c.maxLocals = 3 := hml0
  have hown : s.vm.findClass "java/lang/String" = some m.cls := findClass_of_methodNamed Bd.named
  have hnm := (name_of_methodNamed Bd.named Bd.method).1
  have hlk : meth.locks = false := BodyLoose.notSynchronized Bd
  have X0 : Stand p l e ({ frames := 1, cells := 0, slots := 0, locals := 14 } : Room) s m #[(.ref ad0), (.ref ad1)] below meth c s₁ [] 0 0 := Stand.of_body Bd
  have e0 : s₁.heap = h0 := by rw [← hh, Bd.state]; rfl
  have N0 := Fr.nil n0
  obtain ⟨G, hG⟩ : ∃ G, G = own_G s (QET Z ad0 ad1 na fa b0 b1 cz h0 n0) ({ frames := 1, cells := 0, slots := 0, locals := 14 } : Room).cells ({ frames := 1, cells := 0, slots := 0, locals := 14 } : Room).slots := ⟨_, rfl⟩
  show own_Fin p e below (own_G s (QET Z ad0 ad1 na fa b0 b1 cz h0 n0) ({ frames := 1, cells := 0, slots := 0, locals := 14 } : Room).cells ({ frames := 1, cells := 0, slots := 0, locals := 14 } : Room).slots) (s₁.setTop (entryFrame m #[(.ref ad0), (.ref ad1)] 3))
  rw [← hG]
  refine own_to (fun _ kz => castTop (efET m ad0 ad1) kz) ?_
  show own_Fin p e below G (s₁.setTop (mkF m 0 #[.val (.ref ad0), .val (.ref ad1), .unset] []))
  refine own_to (fun _ kz => XS.aloadN X0.here hx rfl (hb hby d5_0) rfl (rfl)  kz) ?_
  show own_Fin p e below G (s₁.setTop (mkF m 1 #[.val (.ref ad0), .val (.ref ad1), .unset] [(.ref ad0)]))
  refine own_to (fun _ kz => XS.aloadN X0.here hx rfl (hb hby d5_1) rfl (rfl)  kz) ?_
  show own_Fin p e below G (s₁.setTop (mkF m 2 #[.val (.ref ad0), .val (.ref ad1), .unset] [(.ref ad1), (.ref ad0)]))
  by_cases hc2 : ad0 = ad1
  · refine own_to (fun _ kz => Jvm.RoadKit.acmp (g := (mkF m 2 #[.val (.ref ad0), .val (.ref ad1), .unset] [(.ref ad1), (.ref ad0)])) X0 hx rfl rfl rfl (pc0 := 2) (pc' := 5) (same := true) rfl (hb hby d5_2) rfl (decide_eq_true (congrArg Value.ref hc2)) (by decide) (by decide) kz) ?_
    show own_Fin p e below G (s₁.setTop (mkF m 5 #[.val (.ref ad0), .val (.ref ad1), .unset] []))
    refine own_to (fun _ kz => XS.iconst X0.here hx rfl (hb hby d5_5) kz) ?_
    show own_Fin p e below G (s₁.setTop (mkF m 6 #[.val (.ref ad0), .val (.ref ad1), .unset] [(.int (1 : Int32))]))
    exact own_retN X0 hx hlk hG (t := .boolean) Bd.returns (by simp) (hb hby d5_6) (by decide) (by decide) ⟨rfl, N0, e0⟩
  · refine own_to (fun _ kz => Jvm.RoadKit.acmp (g := (mkF m 2 #[.val (.ref ad0), .val (.ref ad1), .unset] [(.ref ad1), (.ref ad0)])) X0 hx rfl rfl rfl (pc0 := 2) (pc' := 7) (same := false) rfl (hb hby d5_2) rfl (decide_eq_false fun q => hc2 (Value.ref.inj q)) (by decide) (by decide) kz) ?_
    show own_Fin p e below G (s₁.setTop (mkF m 7 #[.val (.ref ad0), .val (.ref ad1), .unset] []))
    refine own_to (fun _ kz => XS.aloadN X0.here hx rfl (hb hby d5_7) rfl (rfl)  kz) ?_
    show own_Fin p e below G (s₁.setTop (mkF m 8 #[.val (.ref ad0), .val (.ref ad1), .unset] [(.ref ad1)]))
    obtain ⟨T8, X8, e8, st8⟩ := instY X0 hx hZ hown (hw _ (List.mem_of_getElem? (i := 44) rfl)) e0 (Ins.self E_ad1) (g := (mkF m 8 #[.val (.ref ad0), .val (.ref ad1), .unset] [(.ref ad1)])) rfl rfl (hb hby d5_8)
    refine own_to st8 ?_
    show own_Fin p e below G (T8.setTop (mkF m 11 #[.val (.ref ad0), .val (.ref ad1), .unset] [(.int (1 : Int32))]))
    have hc11 : ¬ ((1 : Int32) = (0 : Int32)) := by decide
    refine own_to (fun _ kz => XS.ifNo X8.here hx rfl (hb hby d5_11) rfl ((if0 _ _).trans (feq hc11).1) kz) ?_
    show own_Fin p e below G (T8.setTop (mkF m 14 #[.val (.ref ad0), .val (.ref ad1), .unset] []))
    refine own_to (fun _ kz => XS.aloadN X8.here hx rfl (hb hby d5_14) rfl (rfl)  kz) ?_
    show own_Fin p e below G (T8.setTop (mkF m 15 #[.val (.ref ad0), .val (.ref ad1), .unset] [(.ref ad1)]))
    obtain ⟨T15, X15, e15, st15⟩ := castY X8 hx hZ hown (hw _ (List.mem_of_getElem? (i := 44) rfl)) e8 (Ins.self E_ad1) (g := (mkF m 15 #[.val (.ref ad0), .val (.ref ad1), .unset] [(.ref ad1)])) rfl rfl (hb hby d5_15)
    refine own_to st15 ?_
    show own_Fin p e below G (T15.setTop (mkF m 18 #[.val (.ref ad0), .val (.ref ad1), .unset] [(.ref ad1)]))
    refine own_to (fun _ kz => XS.astoreN X15.here hx rfl (hb hby d5_18) rfl (rfl) (l' := #[.val (.ref ad0), .val (.ref ad1), .val (.ref ad1)]) rfl kz) ?_
    show own_Fin p e below G (T15.setTop (mkF m 19 #[.val (.ref ad0), .val (.ref ad1), .val (.ref ad1)] []))
    obtain ⟨T19, X19, e19, st19⟩ := getS2 X15 hx hZ hown (host := "") (Or.inl (hw _ (List.mem_of_getElem? (i := 46) rfl))) Via.refl e15 S_COMPACT_STRINGS (g := (mkF m 19 #[.val (.ref ad0), .val (.ref ad1), .val (.ref ad1)] [])) rfl (hb hby d5_19)
    refine own_to st19 ?_
    show own_Fin p e below G (T19.setTop (mkF m 22 #[.val (.ref ad0), .val (.ref ad1), .val (.ref ad1)] [(.int cz)]))
    have hc22 : ¬ (cz = (0 : Int32)) := hcz
    refine own_to (fun _ kz => XS.ifNo X19.here hx rfl (hb hby d5_22) rfl ((if0 _ _).trans (feq hc22).1) kz) ?_
    show own_Fin p e below G (T19.setTop (mkF m 25 #[.val (.ref ad0), .val (.ref ad1), .val (.ref ad1)] []))
    refine own_to (fun _ kz => XS.aloadN X19.here hx rfl (hb hby d5_25) rfl (rfl)  kz) ?_
    show own_Fin p e below G (T19.setTop (mkF m 26 #[.val (.ref ad0), .val (.ref ad1), .val (.ref ad1)] [(.ref ad0)]))
    obtain ⟨T26, X26, e26, st26⟩ := getF X19 hx hZ hown (host := "") (Or.inl (hw _ (List.mem_of_getElem? (i := 47) rfl))) Via.refl e19 F_coder_ad0 (g := (mkF m 26 #[.val (.ref ad0), .val (.ref ad1), .val (.ref ad1)] [(.ref ad0)])) rfl rfl (hb hby d5_26)
    refine own_to st26 ?_
    show own_Fin p e below G (T26.setTop (mkF m 29 #[.val (.ref ad0), .val (.ref ad1), .val (.ref ad1)] [(.int (0 : Int32))]))
    refine own_to (fun _ kz => XS.aloadN X26.here hx rfl (hb hby d5_29) rfl (rfl)  kz) ?_
    show own_Fin p e below G (T26.setTop (mkF m 30 #[.val (.ref ad0), .val (.ref ad1), .val (.ref ad1)] [(.ref ad1), (.int (0 : Int32))]))
    obtain ⟨T30, X30, e30, st30⟩ := getF X26 hx hZ hown (host := "") (Or.inl (hw _ (List.mem_of_getElem? (i := 47) rfl))) Via.refl e26 F_coder_ad1 (g := (mkF m 30 #[.val (.ref ad0), .val (.ref ad1), .val (.ref ad1)] [(.ref ad1), (.int (0 : Int32))])) rfl rfl (hb hby d5_30)
    refine own_to st30 ?_
    show own_Fin p e below G (T30.setTop (mkF m 33 #[.val (.ref ad0), .val (.ref ad1), .val (.ref ad1)] [(.int (0 : Int32)), (.int (0 : Int32))]))
    have hc33 : (0 : Int32) = (0 : Int32) := by decide
    refine own_to (fun _ kz => XS.icmpNo X30.here hx rfl (hb hby d5_33) rfl (teq hc33).2 kz) ?_
    show own_Fin p e below G (T30.setTop (mkF m 36 #[.val (.ref ad0), .val (.ref ad1), .val (.ref ad1)] []))
    refine own_to (fun _ kz => XS.aloadN X30.here hx rfl (hb hby d5_36) rfl (rfl)  kz) ?_
    show own_Fin p e below G (T30.setTop (mkF m 37 #[.val (.ref ad0), .val (.ref ad1), .val (.ref ad1)] [(.ref ad0)]))
    obtain ⟨T37, X37, e37, st37⟩ := getF X30 hx hZ hown (host := "") (Or.inl (hw _ (List.mem_of_getElem? (i := 48) rfl))) Via.refl e30 F_value_ad0 (g := (mkF m 37 #[.val (.ref ad0), .val (.ref ad1), .val (.ref ad1)] [(.ref ad0)])) rfl rfl (hb hby d5_37)
    refine own_to st37 ?_
    show own_Fin p e below G (T37.setTop (mkF m 40 #[.val (.ref ad0), .val (.ref ad1), .val (.ref ad1)] [(.ref b0)]))
    refine own_to (fun _ kz => XS.aloadN X37.here hx rfl (hb hby d5_40) rfl (rfl)  kz) ?_
    show own_Fin p e below G (T37.setTop (mkF m 41 #[.val (.ref ad0), .val (.ref ad1), .val (.ref ad1)] [(.ref ad1), (.ref b0)]))
    obtain ⟨T41, X41, e41, st41⟩ := getF X37 hx hZ hown (host := "") (Or.inl (hw _ (List.mem_of_getElem? (i := 48) rfl))) Via.refl e37 F_value_ad1 (g := (mkF m 41 #[.val (.ref ad0), .val (.ref ad1), .val (.ref ad1)] [(.ref ad1), (.ref b0)])) rfl rfl (hb hby d5_41)
    refine own_to st41 ?_
    show own_Fin p e below G (T41.setTop (mkF m 44 #[.val (.ref ad0), .val (.ref ad1), .val (.ref ad1)] [(.ref b1), (.ref b0)]))
    obtain ⟨_, _, ⟨T44, L44, k44, n44⟩, -, X44, ⟨Lc44, hQ44, l44, y44, z44⟩, st44⟩ := Jvm.LawKit.callS X41 hx (y := (⟨"java/lang/StringLatin1", "equals", "([B[B)Z"⟩ : MethodName)) hown (mvT hZ (hw _ (List.mem_of_getElem? (i := 49) rfl))) (mvT hZ (hw _ (List.mem_of_getElem? (i := 50) rfl))) (mvT hZ (hw _ (List.mem_of_getElem? (i := 51) rfl))) (mvT hZ (hw _ (List.mem_of_getElem? (i := 52) rfl))) (by decide) (backOf (W := 0) (rmLT l Z a0 hw [] b0 b1 na fa h0 n0 Z0 V_b0 V_b1) hZ (hw _ (List.mem_of_getElem? (i := 52) rfl)) (hw _ (List.mem_of_getElem? (i := 51) rfl)) (by decide) (by decide)) (g := (mkF m 44 #[.val (.ref ad0), .val (.ref ad1), .val (.ref ad1)] [(.ref b1), (.ref b0)])) rfl (by rw [hml]; rfl) (argsL := [(.ref b0), (.ref b1)]) (rest := []) (lenOf own_pd1 rfl) rfl (by show 2 * 0 + _ ≤ _; exact Nat.le_of_eq rfl) (hb hby d5_44) (fun _ _ => ⟨rfl, e41, (by decide : 0 + 0 ≤ _), (by decide : 0 + 0 ≤ _)⟩)
    dsimp only [Pt.U, Pt.locs, Pt.cells, Pt.slots] at X44 l44 y44 z44 st44 hQ44
    subst l44 y44 z44
    obtain ⟨rfl, N44q, e44⟩ := hQ44
    obtain ⟨lo44, X44, N44⟩ : ∃ lo, Stand p l e _ s m _ below meth c T44 lo _ _ ∧ Fr n0 lo := ⟨_, X44, Fr.app N0 N44q⟩
    refine own_to st44 ?_
    show own_Fin p e below G (T44.setTop (mkF m 47 #[.val (.ref ad0), .val (.ref ad1), .val (.ref ad1)] [(.int (1 : Int32))]))
    have hc47 : ¬ ((1 : Int32) = (0 : Int32)) := by decide
    refine own_to (fun _ kz => XS.ifNo X44.here hx rfl (hb hby d5_47) rfl ((if0 _ _).trans (feq hc47).1) kz) ?_
    show own_Fin p e below G (T44.setTop (mkF m 50 #[.val (.ref ad0), .val (.ref ad1), .val (.ref ad1)] []))
    refine own_to (fun _ kz => XS.iconst X44.here hx rfl (hb hby d5_50) kz) ?_
    show own_Fin p e below G (T44.setTop (mkF m 51 #[.val (.ref ad0), .val (.ref ad1), .val (.ref ad1)] [(.int (1 : Int32))]))
    refine own_to (fun _ kz => XS.goto X44.here hx rfl (pc0 := 51) (pc' := 55) rfl (hb hby d5_51) (by decide) (by decide) kz) ?_
    show own_Fin p e below G (T44.setTop (mkF m 55 #[.val (.ref ad0), .val (.ref ad1), .val (.ref ad1)] [(.int (1 : Int32))]))
    exact own_retN X44 hx hlk hG (t := .boolean) Bd.returns (by simp) (hb hby d5_55) (by decide) (by decide) ⟨rfl, N44, e44⟩
theorem efEF7 (m : MethodId) (ad0 : Addr) (ad1 : Addr) : entryFrame m #[(.ref ad0), (.ref ad1)] 3 = mkF m 0 #[.val (.ref ad0), .val (.ref ad1), .unset] [] := by first | (simp [entryFrame, mkF, argsToLocals, Value.category]; done) | rfl
def QEF7 (Z : State) (ad0 : Addr) (ad1 : Addr) (fa : Nat → Int32) (fb : Nat → Int32) (b0 : Addr) (b1 : Addr) (cz : Int32) (h0 : Heap) (n0 : Nat) (v : Option Value) (h : Heap) (L : List Loc) : Prop := v = some (.int 0) ∧ Fr n0 L ∧ h = h0
set_option maxRecDepth 65536 in
set_option maxHeartbeats 40000000 in
theorem rmEF7 (l : Launch) (Z : State) (a0 : Array Value) (hw : ∀ d ∈ tables_1, d.before a0 Z = true) (ws : List Jvm.Cond) (ad0 : Addr) (ad1 : Addr) (fa : Nat → Int32) (fb : Nat → Int32) (b0 : Addr) (b1 : Addr) (cz : Int32) (h0 : Heap) (n0 : Nat) (Z0 : n0 ≤ h0.size) (E_ad0 : Exa Z h0 ad0 "java/lang/String") (F_coder_ad0 : Fld Z h0 ad0 "java/lang/String" "coder" "B" (.int (0 : Int32))) (F_value_ad0 : Fld Z h0 ad0 "java/lang/String" "value" "[B" (.ref b0)) (V_b0 : own_AV Value.int Z h0 b0 .byte 7 fa) (E_ad1 : Exa Z h0 ad1 "java/lang/String") (F_coder_ad1 : Fld Z h0 ad1 "java/lang/String" "coder" "B" (.int (0 : Int32))) (F_value_ad1 : Fld Z h0 ad1 "java/lang/String" "value" "[B" (.ref b1)) (V_b1 : own_AV Value.int Z h0 b1 .byte 9 fb) (S_COMPACT_STRINGS : Sta Z h0 "java/lang/String" "COMPACT_STRINGS" "Z" (.int cz)) (hcz : ¬ cz = (0 : Int32)) (ne_ad0_ad1 : ad0 ≠ ad1) :
    MetFree l (⟨"java/lang/String", "equals", "(Ljava/lang/Object;)Z"⟩ : MethodName) (head1 (Jvm.Cond.code (⟨"java/lang/String", "equals", "(Ljava/lang/Object;)Z"⟩ : MethodName) jdk_42_method_66_code 3 (some .boolean) :: ws) ({ frames := 1, cells := 0, slots := 0, locals := 14 } : Room)) (fun a U => a = #[(.ref ad0), (.ref ad1)] ∧ Z.Warmed39 U.vm ∧ U.heap = h0) (fun _ _ _ _ _ => True) (fun _ U o U' => ∃ v L, o = .returned v ∧ QEF7 Z ad0 ad1 fa fb b0 b1 cz h0 n0 v U'.heap L ∧ FrameEnd U o U' L ({ frames := 1, cells := 0, slots := 0, locals := 14 } : Room).cells ({ frames := 1, cells := 0, slots := 0, locals := 14 } : Room).slots) := by
  refine MetFree.of_bodySF (plainFor_of_name own_pn3) hisR ?_
  intro p e s m args below meth c s₁ Bd hml0 hP hK
  obtain ⟨rfl, hZ, hh⟩ := hP
  have hx := Bd.exec
  have hby := Bd.bytes
  have hml : c.maxLocals = 3 := hml0
  have hown : s.vm.findClass "java/lang/String" = some m.cls := findClass_of_methodNamed Bd.named
  have hnm := (name_of_methodNamed Bd.named Bd.method).1
  have hlk : meth.locks = false := BodyLoose.notSynchronized Bd
  have X0 : Stand p l e ({ frames := 1, cells := 0, slots := 0, locals := 14 } : Room) s m #[(.ref ad0), (.ref ad1)] below meth c s₁ [] 0 0 := Stand.of_body Bd
  have e0 : s₁.heap = h0 := by rw [← hh, Bd.state]; rfl
  have N0 := Fr.nil n0
  obtain ⟨G, hG⟩ : ∃ G, G = own_G s (QEF7 Z ad0 ad1 fa fb b0 b1 cz h0 n0) ({ frames := 1, cells := 0, slots := 0, locals := 14 } : Room).cells ({ frames := 1, cells := 0, slots := 0, locals := 14 } : Room).slots := ⟨_, rfl⟩
  show own_Fin p e below (own_G s (QEF7 Z ad0 ad1 fa fb b0 b1 cz h0 n0) ({ frames := 1, cells := 0, slots := 0, locals := 14 } : Room).cells ({ frames := 1, cells := 0, slots := 0, locals := 14 } : Room).slots) (s₁.setTop (entryFrame m #[(.ref ad0), (.ref ad1)] 3))
  rw [← hG]
  refine own_to (fun _ kz => castTop (efEF7 m ad0 ad1) kz) ?_
  show own_Fin p e below G (s₁.setTop (mkF m 0 #[.val (.ref ad0), .val (.ref ad1), .unset] []))
  refine own_to (fun _ kz => XS.aloadN X0.here hx rfl (hb hby d5_0) rfl (rfl)  kz) ?_
  show own_Fin p e below G (s₁.setTop (mkF m 1 #[.val (.ref ad0), .val (.ref ad1), .unset] [(.ref ad0)]))
  refine own_to (fun _ kz => XS.aloadN X0.here hx rfl (hb hby d5_1) rfl (rfl)  kz) ?_
  show own_Fin p e below G (s₁.setTop (mkF m 2 #[.val (.ref ad0), .val (.ref ad1), .unset] [(.ref ad1), (.ref ad0)]))
  refine own_to (fun _ kz => Jvm.RoadKit.acmp (g := (mkF m 2 #[.val (.ref ad0), .val (.ref ad1), .unset] [(.ref ad1), (.ref ad0)])) X0 hx rfl rfl rfl (pc0 := 2) (pc' := 7) (same := false) rfl (hb hby d5_2) rfl (decide_eq_false fun q => ne_ad0_ad1 (Value.ref.inj q)) (by decide) (by decide) kz) ?_
  show own_Fin p e below G (s₁.setTop (mkF m 7 #[.val (.ref ad0), .val (.ref ad1), .unset] []))
  refine own_to (fun _ kz => XS.aloadN X0.here hx rfl (hb hby d5_7) rfl (rfl)  kz) ?_
  show own_Fin p e below G (s₁.setTop (mkF m 8 #[.val (.ref ad0), .val (.ref ad1), .unset] [(.ref ad1)]))
  obtain ⟨T8, X8, e8, st8⟩ := instY X0 hx hZ hown (hw _ (List.mem_of_getElem? (i := 44) rfl)) e0 (Ins.self E_ad1) (g := (mkF m 8 #[.val (.ref ad0), .val (.ref ad1), .unset] [(.ref ad1)])) rfl rfl (hb hby d5_8)
  refine own_to st8 ?_
  show own_Fin p e below G (T8.setTop (mkF m 11 #[.val (.ref ad0), .val (.ref ad1), .unset] [(.int (1 : Int32))]))
  have hc11 : ¬ ((1 : Int32) = (0 : Int32)) := by decide
  refine own_to (fun _ kz => XS.ifNo X8.here hx rfl (hb hby d5_11) rfl ((if0 _ _).trans (feq hc11).1) kz) ?_
  show own_Fin p e below G (T8.setTop (mkF m 14 #[.val (.ref ad0), .val (.ref ad1), .unset] []))
  refine own_to (fun _ kz => XS.aloadN X8.here hx rfl (hb hby d5_14) rfl (rfl)  kz) ?_
  show own_Fin p e below G (T8.setTop (mkF m 15 #[.val (.ref ad0), .val (.ref ad1), .unset] [(.ref ad1)]))
  obtain ⟨T15, X15, e15, st15⟩ := castY X8 hx hZ hown (hw _ (List.mem_of_getElem? (i := 44) rfl)) e8 (Ins.self E_ad1) (g := (mkF m 15 #[.val (.ref ad0), .val (.ref ad1), .unset] [(.ref ad1)])) rfl rfl (hb hby d5_15)
  refine own_to st15 ?_
  show own_Fin p e below G (T15.setTop (mkF m 18 #[.val (.ref ad0), .val (.ref ad1), .unset] [(.ref ad1)]))
  refine own_to (fun _ kz => XS.astoreN X15.here hx rfl (hb hby d5_18) rfl (rfl) (l' := #[.val (.ref ad0), .val (.ref ad1), .val (.ref ad1)]) rfl kz) ?_
  show own_Fin p e below G (T15.setTop (mkF m 19 #[.val (.ref ad0), .val (.ref ad1), .val (.ref ad1)] []))
  obtain ⟨T19, X19, e19, st19⟩ := getS2 X15 hx hZ hown (host := "") (Or.inl (hw _ (List.mem_of_getElem? (i := 46) rfl))) Via.refl e15 S_COMPACT_STRINGS (g := (mkF m 19 #[.val (.ref ad0), .val (.ref ad1), .val (.ref ad1)] [])) rfl (hb hby d5_19)
  refine own_to st19 ?_
  show own_Fin p e below G (T19.setTop (mkF m 22 #[.val (.ref ad0), .val (.ref ad1), .val (.ref ad1)] [(.int cz)]))
  have hc22 : ¬ (cz = (0 : Int32)) := hcz
  refine own_to (fun _ kz => XS.ifNo X19.here hx rfl (hb hby d5_22) rfl ((if0 _ _).trans (feq hc22).1) kz) ?_
  show own_Fin p e below G (T19.setTop (mkF m 25 #[.val (.ref ad0), .val (.ref ad1), .val (.ref ad1)] []))
  refine own_to (fun _ kz => XS.aloadN X19.here hx rfl (hb hby d5_25) rfl (rfl)  kz) ?_
  show own_Fin p e below G (T19.setTop (mkF m 26 #[.val (.ref ad0), .val (.ref ad1), .val (.ref ad1)] [(.ref ad0)]))
  obtain ⟨T26, X26, e26, st26⟩ := getF X19 hx hZ hown (host := "") (Or.inl (hw _ (List.mem_of_getElem? (i := 47) rfl))) Via.refl e19 F_coder_ad0 (g := (mkF m 26 #[.val (.ref ad0), .val (.ref ad1), .val (.ref ad1)] [(.ref ad0)])) rfl rfl (hb hby d5_26)
  refine own_to st26 ?_
  show own_Fin p e below G (T26.setTop (mkF m 29 #[.val (.ref ad0), .val (.ref ad1), .val (.ref ad1)] [(.int (0 : Int32))]))
  refine own_to (fun _ kz => XS.aloadN X26.here hx rfl (hb hby d5_29) rfl (rfl)  kz) ?_
  show own_Fin p e below G (T26.setTop (mkF m 30 #[.val (.ref ad0), .val (.ref ad1), .val (.ref ad1)] [(.ref ad1), (.int (0 : Int32))]))
  obtain ⟨T30, X30, e30, st30⟩ := getF X26 hx hZ hown (host := "") (Or.inl (hw _ (List.mem_of_getElem? (i := 47) rfl))) Via.refl e26 F_coder_ad1 (g := (mkF m 30 #[.val (.ref ad0), .val (.ref ad1), .val (.ref ad1)] [(.ref ad1), (.int (0 : Int32))])) rfl rfl (hb hby d5_30)
  refine own_to st30 ?_
  show own_Fin p e below G (T30.setTop (mkF m 33 #[.val (.ref ad0), .val (.ref ad1), .val (.ref ad1)] [(.int (0 : Int32)), (.int (0 : Int32))]))
  have hc33 : (0 : Int32) = (0 : Int32) := by decide
  refine own_to (fun _ kz => XS.icmpNo X30.here hx rfl (hb hby d5_33) rfl (teq hc33).2 kz) ?_
  show own_Fin p e below G (T30.setTop (mkF m 36 #[.val (.ref ad0), .val (.ref ad1), .val (.ref ad1)] []))
  refine own_to (fun _ kz => XS.aloadN X30.here hx rfl (hb hby d5_36) rfl (rfl)  kz) ?_
  show own_Fin p e below G (T30.setTop (mkF m 37 #[.val (.ref ad0), .val (.ref ad1), .val (.ref ad1)] [(.ref ad0)]))
  obtain ⟨T37, X37, e37, st37⟩ := getF X30 hx hZ hown (host := "") (Or.inl (hw _ (List.mem_of_getElem? (i := 48) rfl))) Via.refl e30 F_value_ad0 (g := (mkF m 37 #[.val (.ref ad0), .val (.ref ad1), .val (.ref ad1)] [(.ref ad0)])) rfl rfl (hb hby d5_37)
  refine own_to st37 ?_
  show own_Fin p e below G (T37.setTop (mkF m 40 #[.val (.ref ad0), .val (.ref ad1), .val (.ref ad1)] [(.ref b0)]))
  refine own_to (fun _ kz => XS.aloadN X37.here hx rfl (hb hby d5_40) rfl (rfl)  kz) ?_
  show own_Fin p e below G (T37.setTop (mkF m 41 #[.val (.ref ad0), .val (.ref ad1), .val (.ref ad1)] [(.ref ad1), (.ref b0)]))
  obtain ⟨T41, X41, e41, st41⟩ := getF X37 hx hZ hown (host := "") (Or.inl (hw _ (List.mem_of_getElem? (i := 48) rfl))) Via.refl e37 F_value_ad1 (g := (mkF m 41 #[.val (.ref ad0), .val (.ref ad1), .val (.ref ad1)] [(.ref ad1), (.ref b0)])) rfl rfl (hb hby d5_41)
  refine own_to st41 ?_
  show own_Fin p e below G (T41.setTop (mkF m 44 #[.val (.ref ad0), .val (.ref ad1), .val (.ref ad1)] [(.ref b1), (.ref b0)]))
  obtain ⟨_, _, ⟨T44, L44, k44, n44⟩, -, X44, ⟨Lc44, hQ44, l44, y44, z44⟩, st44⟩ := Jvm.LawKit.callS X41 hx (y := (⟨"java/lang/StringLatin1", "equals", "([B[B)Z"⟩ : MethodName)) hown (mvT hZ (hw _ (List.mem_of_getElem? (i := 49) rfl))) (mvT hZ (hw _ (List.mem_of_getElem? (i := 50) rfl))) (mvT hZ (hw _ (List.mem_of_getElem? (i := 51) rfl))) (mvT hZ (hw _ (List.mem_of_getElem? (i := 52) rfl))) (by decide) (backOf (W := 0) (rmLF7 l Z a0 hw [] b0 b1 fa fb h0 n0 Z0 V_b0 V_b1) hZ (hw _ (List.mem_of_getElem? (i := 52) rfl)) (hw _ (List.mem_of_getElem? (i := 51) rfl)) (by decide) (by decide)) (g := (mkF m 44 #[.val (.ref ad0), .val (.ref ad1), .val (.ref ad1)] [(.ref b1), (.ref b0)])) rfl (by rw [hml]; rfl) (argsL := [(.ref b0), (.ref b1)]) (rest := []) (lenOf own_pd1 rfl) rfl (by show 2 * 0 + _ ≤ _; exact Nat.le_of_eq rfl) (hb hby d5_44) (fun _ _ => ⟨rfl, e41, (by decide : 0 + 0 ≤ _), (by decide : 0 + 0 ≤ _)⟩)
  dsimp only [Pt.U, Pt.locs, Pt.cells, Pt.slots] at X44 l44 y44 z44 st44 hQ44
  subst l44 y44 z44
  obtain ⟨rfl, N44q, e44⟩ := hQ44
  obtain ⟨lo44, X44, N44⟩ : ∃ lo, Stand p l e _ s m _ below meth c T44 lo _ _ ∧ Fr n0 lo := ⟨_, X44, Fr.app N0 N44q⟩
  refine own_to st44 ?_
  show own_Fin p e below G (T44.setTop (mkF m 47 #[.val (.ref ad0), .val (.ref ad1), .val (.ref ad1)] [(.int (0 : Int32))]))
  have hc47 : (0 : Int32) = (0 : Int32) := by decide
  refine own_to (fun _ kz => XS.ifYes X44.here hx rfl (pc0 := 47) (pc' := 54) rfl (hb hby d5_47) rfl ((if0 _ _).trans (teq hc47).1) (by decide) (by decide) kz) ?_
  show own_Fin p e below G (T44.setTop (mkF m 54 #[.val (.ref ad0), .val (.ref ad1), .val (.ref ad1)] []))
  refine own_to (fun _ kz => XS.iconst X44.here hx rfl (hb hby d5_54) kz) ?_
  show own_Fin p e below G (T44.setTop (mkF m 55 #[.val (.ref ad0), .val (.ref ad1), .val (.ref ad1)] [(.int (0 : Int32))]))
  exact own_retN X44 hx hlk hG (t := .boolean) Bd.returns (by simp) (hb hby d5_55) (by decide) (by decide) ⟨rfl, N44, e44⟩
theorem efEF9 (m : MethodId) (ad0 : Addr) (ad1 : Addr) : entryFrame m #[(.ref ad0), (.ref ad1)] 3 = mkF m 0 #[.val (.ref ad0), .val (.ref ad1), .unset] [] := by first | (simp [entryFrame, mkF, argsToLocals, Value.category]; done) | rfl
def QEF9 (Z : State) (ad0 : Addr) (ad1 : Addr) (fa : Nat → Int32) (fb : Nat → Int32) (b0 : Addr) (b1 : Addr) (cz : Int32) (h0 : Heap) (n0 : Nat) (v : Option Value) (h : Heap) (L : List Loc) : Prop := v = some (.int 0) ∧ Fr n0 L ∧ h = h0
set_option maxRecDepth 65536 in
set_option maxHeartbeats 40000000 in
theorem rmEF9 (l : Launch) (Z : State) (a0 : Array Value) (hw : ∀ d ∈ tables_1, d.before a0 Z = true) (ws : List Jvm.Cond) (ad0 : Addr) (ad1 : Addr) (fa : Nat → Int32) (fb : Nat → Int32) (b0 : Addr) (b1 : Addr) (cz : Int32) (h0 : Heap) (n0 : Nat) (Z0 : n0 ≤ h0.size) (E_ad0 : Exa Z h0 ad0 "java/lang/String") (F_coder_ad0 : Fld Z h0 ad0 "java/lang/String" "coder" "B" (.int (0 : Int32))) (F_value_ad0 : Fld Z h0 ad0 "java/lang/String" "value" "[B" (.ref b0)) (V_b0 : own_AV Value.int Z h0 b0 .byte 9 fa) (E_ad1 : Exa Z h0 ad1 "java/lang/String") (F_coder_ad1 : Fld Z h0 ad1 "java/lang/String" "coder" "B" (.int (0 : Int32))) (F_value_ad1 : Fld Z h0 ad1 "java/lang/String" "value" "[B" (.ref b1)) (V_b1 : own_AV Value.int Z h0 b1 .byte 7 fb) (S_COMPACT_STRINGS : Sta Z h0 "java/lang/String" "COMPACT_STRINGS" "Z" (.int cz)) (hcz : ¬ cz = (0 : Int32)) (ne_ad0_ad1 : ad0 ≠ ad1) :
    MetFree l (⟨"java/lang/String", "equals", "(Ljava/lang/Object;)Z"⟩ : MethodName) (head1 (Jvm.Cond.code (⟨"java/lang/String", "equals", "(Ljava/lang/Object;)Z"⟩ : MethodName) jdk_42_method_66_code 3 (some .boolean) :: ws) ({ frames := 1, cells := 0, slots := 0, locals := 14 } : Room)) (fun a U => a = #[(.ref ad0), (.ref ad1)] ∧ Z.Warmed39 U.vm ∧ U.heap = h0) (fun _ _ _ _ _ => True) (fun _ U o U' => ∃ v L, o = .returned v ∧ QEF9 Z ad0 ad1 fa fb b0 b1 cz h0 n0 v U'.heap L ∧ FrameEnd U o U' L ({ frames := 1, cells := 0, slots := 0, locals := 14 } : Room).cells ({ frames := 1, cells := 0, slots := 0, locals := 14 } : Room).slots) := by
  refine MetFree.of_bodySF (plainFor_of_name own_pn3) hisR ?_
  intro p e s m args below meth c s₁ Bd hml0 hP hK
  obtain ⟨rfl, hZ, hh⟩ := hP
  have hx := Bd.exec
  have hby := Bd.bytes
  have hml : c.maxLocals = 3 := hml0
  have hown : s.vm.findClass "java/lang/String" = some m.cls := findClass_of_methodNamed Bd.named
  have hnm := (name_of_methodNamed Bd.named Bd.method).1
  have hlk : meth.locks = false := BodyLoose.notSynchronized Bd
  have X0 : Stand p l e ({ frames := 1, cells := 0, slots := 0, locals := 14 } : Room) s m #[(.ref ad0), (.ref ad1)] below meth c s₁ [] 0 0 := Stand.of_body Bd
  have e0 : s₁.heap = h0 := by rw [← hh, Bd.state]; rfl
  have N0 := Fr.nil n0
  obtain ⟨G, hG⟩ : ∃ G, G = own_G s (QEF9 Z ad0 ad1 fa fb b0 b1 cz h0 n0) ({ frames := 1, cells := 0, slots := 0, locals := 14 } : Room).cells ({ frames := 1, cells := 0, slots := 0, locals := 14 } : Room).slots := ⟨_, rfl⟩
  show own_Fin p e below (own_G s (QEF9 Z ad0 ad1 fa fb b0 b1 cz h0 n0) ({ frames := 1, cells := 0, slots := 0, locals := 14 } : Room).cells ({ frames := 1, cells := 0, slots := 0, locals := 14 } : Room).slots) (s₁.setTop (entryFrame m #[(.ref ad0), (.ref ad1)] 3))
  rw [← hG]
  refine own_to (fun _ kz => castTop (efEF9 m ad0 ad1) kz) ?_
  show own_Fin p e below G (s₁.setTop (mkF m 0 #[.val (.ref ad0), .val (.ref ad1), .unset] []))
  refine own_to (fun _ kz => XS.aloadN X0.here hx rfl (hb hby d5_0) rfl (rfl)  kz) ?_
  show own_Fin p e below G (s₁.setTop (mkF m 1 #[.val (.ref ad0), .val (.ref ad1), .unset] [(.ref ad0)]))
  refine own_to (fun _ kz => XS.aloadN X0.here hx rfl (hb hby d5_1) rfl (rfl)  kz) ?_
  show own_Fin p e below G (s₁.setTop (mkF m 2 #[.val (.ref ad0), .val (.ref ad1), .unset] [(.ref ad1), (.ref ad0)]))
  refine own_to (fun _ kz => Jvm.RoadKit.acmp (g := (mkF m 2 #[.val (.ref ad0), .val (.ref ad1), .unset] [(.ref ad1), (.ref ad0)])) X0 hx rfl rfl rfl (pc0 := 2) (pc' := 7) (same := false) rfl (hb hby d5_2) rfl (decide_eq_false fun q => ne_ad0_ad1 (Value.ref.inj q)) (by decide) (by decide) kz) ?_
  show own_Fin p e below G (s₁.setTop (mkF m 7 #[.val (.ref ad0), .val (.ref ad1), .unset] []))
  refine own_to (fun _ kz => XS.aloadN X0.here hx rfl (hb hby d5_7) rfl (rfl)  kz) ?_
  show own_Fin p e below G (s₁.setTop (mkF m 8 #[.val (.ref ad0), .val (.ref ad1), .unset] [(.ref ad1)]))
  obtain ⟨T8, X8, e8, st8⟩ := instY X0 hx hZ hown (hw _ (List.mem_of_getElem? (i := 44) rfl)) e0 (Ins.self E_ad1) (g := (mkF m 8 #[.val (.ref ad0), .val (.ref ad1), .unset] [(.ref ad1)])) rfl rfl (hb hby d5_8)
  refine own_to st8 ?_
  show own_Fin p e below G (T8.setTop (mkF m 11 #[.val (.ref ad0), .val (.ref ad1), .unset] [(.int (1 : Int32))]))
  have hc11 : ¬ ((1 : Int32) = (0 : Int32)) := by decide
  refine own_to (fun _ kz => XS.ifNo X8.here hx rfl (hb hby d5_11) rfl ((if0 _ _).trans (feq hc11).1) kz) ?_
  show own_Fin p e below G (T8.setTop (mkF m 14 #[.val (.ref ad0), .val (.ref ad1), .unset] []))
  refine own_to (fun _ kz => XS.aloadN X8.here hx rfl (hb hby d5_14) rfl (rfl)  kz) ?_
  show own_Fin p e below G (T8.setTop (mkF m 15 #[.val (.ref ad0), .val (.ref ad1), .unset] [(.ref ad1)]))
  obtain ⟨T15, X15, e15, st15⟩ := castY X8 hx hZ hown (hw _ (List.mem_of_getElem? (i := 44) rfl)) e8 (Ins.self E_ad1) (g := (mkF m 15 #[.val (.ref ad0), .val (.ref ad1), .unset] [(.ref ad1)])) rfl rfl (hb hby d5_15)
  refine own_to st15 ?_
  show own_Fin p e below G (T15.setTop (mkF m 18 #[.val (.ref ad0), .val (.ref ad1), .unset] [(.ref ad1)]))
  refine own_to (fun _ kz => XS.astoreN X15.here hx rfl (hb hby d5_18) rfl (rfl) (l' := #[.val (.ref ad0), .val (.ref ad1), .val (.ref ad1)]) rfl kz) ?_
  show own_Fin p e below G (T15.setTop (mkF m 19 #[.val (.ref ad0), .val (.ref ad1), .val (.ref ad1)] []))
  obtain ⟨T19, X19, e19, st19⟩ := getS2 X15 hx hZ hown (host := "") (Or.inl (hw _ (List.mem_of_getElem? (i := 46) rfl))) Via.refl e15 S_COMPACT_STRINGS (g := (mkF m 19 #[.val (.ref ad0), .val (.ref ad1), .val (.ref ad1)] [])) rfl (hb hby d5_19)
  refine own_to st19 ?_
  show own_Fin p e below G (T19.setTop (mkF m 22 #[.val (.ref ad0), .val (.ref ad1), .val (.ref ad1)] [(.int cz)]))
  have hc22 : ¬ (cz = (0 : Int32)) := hcz
  refine own_to (fun _ kz => XS.ifNo X19.here hx rfl (hb hby d5_22) rfl ((if0 _ _).trans (feq hc22).1) kz) ?_
  show own_Fin p e below G (T19.setTop (mkF m 25 #[.val (.ref ad0), .val (.ref ad1), .val (.ref ad1)] []))
  refine own_to (fun _ kz => XS.aloadN X19.here hx rfl (hb hby d5_25) rfl (rfl)  kz) ?_
  show own_Fin p e below G (T19.setTop (mkF m 26 #[.val (.ref ad0), .val (.ref ad1), .val (.ref ad1)] [(.ref ad0)]))
  obtain ⟨T26, X26, e26, st26⟩ := getF X19 hx hZ hown (host := "") (Or.inl (hw _ (List.mem_of_getElem? (i := 47) rfl))) Via.refl e19 F_coder_ad0 (g := (mkF m 26 #[.val (.ref ad0), .val (.ref ad1), .val (.ref ad1)] [(.ref ad0)])) rfl rfl (hb hby d5_26)
  refine own_to st26 ?_
  show own_Fin p e below G (T26.setTop (mkF m 29 #[.val (.ref ad0), .val (.ref ad1), .val (.ref ad1)] [(.int (0 : Int32))]))
  refine own_to (fun _ kz => XS.aloadN X26.here hx rfl (hb hby d5_29) rfl (rfl)  kz) ?_
  show own_Fin p e below G (T26.setTop (mkF m 30 #[.val (.ref ad0), .val (.ref ad1), .val (.ref ad1)] [(.ref ad1), (.int (0 : Int32))]))
  obtain ⟨T30, X30, e30, st30⟩ := getF X26 hx hZ hown (host := "") (Or.inl (hw _ (List.mem_of_getElem? (i := 47) rfl))) Via.refl e26 F_coder_ad1 (g := (mkF m 30 #[.val (.ref ad0), .val (.ref ad1), .val (.ref ad1)] [(.ref ad1), (.int (0 : Int32))])) rfl rfl (hb hby d5_30)
  refine own_to st30 ?_
  show own_Fin p e below G (T30.setTop (mkF m 33 #[.val (.ref ad0), .val (.ref ad1), .val (.ref ad1)] [(.int (0 : Int32)), (.int (0 : Int32))]))
  have hc33 : (0 : Int32) = (0 : Int32) := by decide
  refine own_to (fun _ kz => XS.icmpNo X30.here hx rfl (hb hby d5_33) rfl (teq hc33).2 kz) ?_
  show own_Fin p e below G (T30.setTop (mkF m 36 #[.val (.ref ad0), .val (.ref ad1), .val (.ref ad1)] []))
  refine own_to (fun _ kz => XS.aloadN X30.here hx rfl (hb hby d5_36) rfl (rfl)  kz) ?_
  show own_Fin p e below G (T30.setTop (mkF m 37 #[.val (.ref ad0), .val (.ref ad1), .val (.ref ad1)] [(.ref ad0)]))
  obtain ⟨T37, X37, e37, st37⟩ := getF X30 hx hZ hown (host := "") (Or.inl (hw _ (List.mem_of_getElem? (i := 48) rfl))) Via.refl e30 F_value_ad0 (g := (mkF m 37 #[.val (.ref ad0), .val (.ref ad1), .val (.ref ad1)] [(.ref ad0)])) rfl rfl (hb hby d5_37)
  refine own_to st37 ?_
  show own_Fin p e below G (T37.setTop (mkF m 40 #[.val (.ref ad0), .val (.ref ad1), .val (.ref ad1)] [(.ref b0)]))
  refine own_to (fun _ kz => XS.aloadN X37.here hx rfl (hb hby d5_40) rfl (rfl)  kz) ?_
  show own_Fin p e below G (T37.setTop (mkF m 41 #[.val (.ref ad0), .val (.ref ad1), .val (.ref ad1)] [(.ref ad1), (.ref b0)]))
  obtain ⟨T41, X41, e41, st41⟩ := getF X37 hx hZ hown (host := "") (Or.inl (hw _ (List.mem_of_getElem? (i := 48) rfl))) Via.refl e37 F_value_ad1 (g := (mkF m 41 #[.val (.ref ad0), .val (.ref ad1), .val (.ref ad1)] [(.ref ad1), (.ref b0)])) rfl rfl (hb hby d5_41)
  refine own_to st41 ?_
  show own_Fin p e below G (T41.setTop (mkF m 44 #[.val (.ref ad0), .val (.ref ad1), .val (.ref ad1)] [(.ref b1), (.ref b0)]))
  obtain ⟨_, _, ⟨T44, L44, k44, n44⟩, -, X44, ⟨Lc44, hQ44, l44, y44, z44⟩, st44⟩ := Jvm.LawKit.callS X41 hx (y := (⟨"java/lang/StringLatin1", "equals", "([B[B)Z"⟩ : MethodName)) hown (mvT hZ (hw _ (List.mem_of_getElem? (i := 49) rfl))) (mvT hZ (hw _ (List.mem_of_getElem? (i := 50) rfl))) (mvT hZ (hw _ (List.mem_of_getElem? (i := 51) rfl))) (mvT hZ (hw _ (List.mem_of_getElem? (i := 52) rfl))) (by decide) (backOf (W := 0) (rmLF9 l Z a0 hw [] b0 b1 fa fb h0 n0 Z0 V_b0 V_b1) hZ (hw _ (List.mem_of_getElem? (i := 52) rfl)) (hw _ (List.mem_of_getElem? (i := 51) rfl)) (by decide) (by decide)) (g := (mkF m 44 #[.val (.ref ad0), .val (.ref ad1), .val (.ref ad1)] [(.ref b1), (.ref b0)])) rfl (by rw [hml]; rfl) (argsL := [(.ref b0), (.ref b1)]) (rest := []) (lenOf own_pd1 rfl) rfl (by show 2 * 0 + _ ≤ _; exact Nat.le_of_eq rfl) (hb hby d5_44) (fun _ _ => ⟨rfl, e41, (by decide : 0 + 0 ≤ _), (by decide : 0 + 0 ≤ _)⟩)
  dsimp only [Pt.U, Pt.locs, Pt.cells, Pt.slots] at X44 l44 y44 z44 st44 hQ44
  subst l44 y44 z44
  obtain ⟨rfl, N44q, e44⟩ := hQ44
  obtain ⟨lo44, X44, N44⟩ : ∃ lo, Stand p l e _ s m _ below meth c T44 lo _ _ ∧ Fr n0 lo := ⟨_, X44, Fr.app N0 N44q⟩
  refine own_to st44 ?_
  show own_Fin p e below G (T44.setTop (mkF m 47 #[.val (.ref ad0), .val (.ref ad1), .val (.ref ad1)] [(.int (0 : Int32))]))
  have hc47 : (0 : Int32) = (0 : Int32) := by decide
  refine own_to (fun _ kz => XS.ifYes X44.here hx rfl (pc0 := 47) (pc' := 54) rfl (hb hby d5_47) rfl ((if0 _ _).trans (teq hc47).1) (by decide) (by decide) kz) ?_
  show own_Fin p e below G (T44.setTop (mkF m 54 #[.val (.ref ad0), .val (.ref ad1), .val (.ref ad1)] []))
  refine own_to (fun _ kz => XS.iconst X44.here hx rfl (hb hby d5_54) kz) ?_
  show own_Fin p e below G (T44.setTop (mkF m 55 #[.val (.ref ad0), .val (.ref ad1), .val (.ref ad1)] [(.int (0 : Int32))]))
  exact own_retN X44 hx hlk hG (t := .boolean) Bd.returns (by simp) (hb hby d5_55) (by decide) (by decide) ⟨rfl, N44, e44⟩
theorem d4_0 : decode prog_63_method_5_code 0 = .ok (.aload_n 0, 1) := by decide +kernel
theorem d4_1 : decode prog_63_method_5_code 1 = .ok (.getfield 16, 3) := by decide +kernel
theorem d4_4 : decode prog_63_method_5_code 4 = .ok (.ifCond .eq 8, 3) := by decide +kernel
theorem d4_7 : decode prog_63_method_5_code 7 = .ok (.ldc 38, 2) := by decide +kernel
theorem d4_9 : decode prog_63_method_5_code 9 = .ok (.goto 5, 3) := by decide +kernel
theorem d4_12 : decode prog_63_method_5_code 12 = .ok (.ldc 30, 2) := by decide +kernel
theorem d4_14 : decode prog_63_method_5_code 14 = .ok (.areturn, 1) := by decide +kernel
theorem eft1 (m : MethodId) (ad0 : Addr) : entryFrame m #[(.ref ad0)] 1 = mkF m 0 #[.val (.ref ad0)] [] := by first | (simp [entryFrame, mkF, argsToLocals, Value.category]; done) | rfl
def Qt1 (Z : State) (ad0 : Addr) (h0 : Heap) (n0 : Nat) (v : Option Value) (h : Heap) (L : List Loc) : Prop := ∃ a b : Addr, v = some (.ref a) ∧ Fr n0 L ∧ Keep h0 h [] ∧ Exa Z h a "java/lang/String" ∧ Fld Z h a "java/lang/String" "coder" "B" (.int (0 : Int32)) ∧ Fld Z h a "java/lang/String" "value" "[B" (.ref b) ∧ own_AV Value.int Z h b .byte 9 (own_lit1)
set_option maxRecDepth 65536 in
set_option maxHeartbeats 40000000 in
theorem rmt1 (l : Launch) (Z : State) (a0 : Array Value) (hw : ∀ d ∈ tables_1, d.before a0 Z = true) (ws : List Jvm.Cond) (ad0 : Addr) (h0 : Heap) (n0 : Nat) (Z0 : n0 ≤ h0.size) (E_ad0 : Exa Z h0 ad0 "com/example/tabularium/tabularium/model/Delivery") (F_delivered_ad0 : Fld Z h0 ad0 "com/example/tabularium/tabularium/model/Delivery" "delivered" "Z" (.int (1 : Int32))) :
    MetFree l (⟨"com/example/tabularium/tabularium/model/Delivery", "text", "()Ljava/lang/String;"⟩ : MethodName) (head1 (Jvm.Cond.code (⟨"com/example/tabularium/tabularium/model/Delivery", "text", "()Ljava/lang/String;"⟩ : MethodName) prog_63_method_5_code 1 (some (.object "java/lang/String")) :: ws) ({ frames := 0, cells := 2, slots := 40, locals := 0 } : Room)) (fun a U => a = #[(.ref ad0)] ∧ Z.Warmed39 U.vm ∧ U.heap = h0 ∧ CHv Z consts_1 U.vm h0) (fun _ _ _ _ _ => True) (fun _ U o U' => ∃ v L, o = .returned v ∧ Qt1 Z ad0 h0 n0 v U'.heap L ∧ CHr Z consts_1 U.vm U.heap U'.vm U'.heap ∧ ReturnedEndW U o U' L ({ frames := 0, cells := 2, slots := 40, locals := 0 } : Room).cells ({ frames := 0, cells := 2, slots := 40, locals := 0 } : Room).slots) := by
  refine MetFree.of_bodySF (plainFor_of_name own_pn1) hisR ?_
  intro p e s m args below meth c s₁ Bd hml0 hP hK
  obtain ⟨rfl, hZ, hh, hCH⟩ := hP
  have hx := Bd.exec
  have hby := Bd.bytes
  have hml : c.maxLocals = 1 := hml0
  have hown : s.vm.findClass "com/example/tabularium/tabularium/model/Delivery" = some m.cls := findClass_of_methodNamed Bd.named
  have hnm := (name_of_methodNamed Bd.named Bd.method).1
  have hlk : meth.locks = false := BodyLoose.notSynchronized Bd
  have X0 : Stand p l e ({ frames := 0, cells := 2, slots := 40, locals := 0 } : Room) (s.setVm s.vm) m #[(.ref ad0)] below meth c s₁ [] 0 0 := Stand.of_body Bd
  have e0 : s₁.heap = h0 := by rw [← hh, Bd.state]; rfl
  have N0 := Fr.nil n0
  have hEL : EW Z a0 consts_1 := own_EW hw
  have hS0 : s.Since s.vm s.heap.size := State.WarmedH.since (State.WarmedH.refl s) _
  have hk0 : s.heap.size ≤ h0.size := Nat.le_of_eq (congrArg Array.size hh)
  have hC0 : CHr Z consts_1 s.vm s.heap s.vm h0 := by rw [hh]; exact CHr.refl hCH
  obtain ⟨G, hG⟩ : ∃ G, G = own_GH Z consts_1 s (Qt1 Z ad0 h0 n0) ({ frames := 0, cells := 2, slots := 40, locals := 0 } : Room).cells ({ frames := 0, cells := 2, slots := 40, locals := 0 } : Room).slots := ⟨_, rfl⟩
  show own_Fin p e below (own_GH Z consts_1 s (Qt1 Z ad0 h0 n0) ({ frames := 0, cells := 2, slots := 40, locals := 0 } : Room).cells ({ frames := 0, cells := 2, slots := 40, locals := 0 } : Room).slots) (s₁.setTop (entryFrame m #[(.ref ad0)] 1))
  rw [← hG]
  refine own_to (fun _ kz => castTop (eft1 m ad0) kz) ?_
  show own_Fin p e below G (s₁.setTop (mkF m 0 #[.val (.ref ad0)] []))
  refine own_to (fun _ kz => XS.aloadN X0.here hx rfl (hb hby d4_0) rfl (rfl)  kz) ?_
  show own_Fin p e below G (s₁.setTop (mkF m 1 #[.val (.ref ad0)] [(.ref ad0)]))
  obtain ⟨T1, X1, e1, st1⟩ := getF X0 hx hZ hown (host := "") (Or.inl (hw _ (List.mem_of_getElem? (i := 15) rfl))) Via.refl e0 F_delivered_ad0 (g := (mkF m 1 #[.val (.ref ad0)] [(.ref ad0)])) rfl rfl (hb hby d4_1)
  refine own_to st1 ?_
  show own_Fin p e below G (T1.setTop (mkF m 4 #[.val (.ref ad0)] [(.int (1 : Int32))]))
  have hc4 : ¬ ((1 : Int32) = (0 : Int32)) := by decide
  refine own_to (fun _ kz => XS.ifNo X1.here hx rfl (hb hby d4_4) rfl ((if0 _ _).trans (feq hc4).1) kz) ?_
  show own_Fin p e below G (T1.setTop (mkF m 7 #[.val (.ref ad0)] []))
  obtain ⟨a7, T7, h7, k17, b7, kc7, X7, e7, E7, hS7, hk7, hZ, hown, A7, Fc7, Fv7, Ar7, -, -, hq7, -, -, st7⟩ := ldcCH (vm0 := s.vm) X1 hx hZ hown (hw _ (List.mem_of_getElem? (i := 43) rfl)) (own_wS hw) e1 hS0 hk0 hEL (List.mem_of_getElem? (i := 1) rfl) hC0.1 (z := (9 : Int32)) (own_txt1) (by decide) rfl (g := (mkF m 7 #[.val (.ref ad0)] [])) rfl (hb hby d4_7) (n := 36) (by decide) (by decide) (by decide) (by decide)
  refine own_to st7 ?_
  have hC7 := CHr.trans hC0 hq7
  have V7 : own_AV Value.int Z h7 b7 .byte 9 own_lit1 := own_AVarv Ar7 rfl (by decide) (own_lf1)
  have Zz_7_E7 := Nat.le_trans Z0 E7.1
  have Z_7 : n0 ≤ h7.size := Zz_7_E7
  show own_Fin p e below G (T7.setTop (mkF m 9 #[.val (.ref ad0)] [(.ref a7)]))
  refine own_to (fun _ kz => XS.goto X7.here hx rfl (pc0 := 9) (pc' := 14) rfl (hb hby d4_9) (by decide) (by decide) kz) ?_
  show own_Fin p e below G (T7.setTop (mkF m 14 #[.val (.ref ad0)] [(.ref a7)]))
  have KP_14 : Keep h0 h7 [] := ((Keep.refl h0 []).ext E7)
  exact own_retHA (vm₁ := T7.vm) X7 hx hS7 hk7 hC7 hZ hEL e7 hlk hG Bd.returns rfl rfl (hb hby d4_14) (by decide) (by decide) (by rw [e7]; exact ⟨a7, b7, rfl, N0, KP_14, A7, Fc7, Fv7, V7⟩)
theorem eft0 (m : MethodId) (ad0 : Addr) : entryFrame m #[(.ref ad0)] 1 = mkF m 0 #[.val (.ref ad0)] [] := by first | (simp [entryFrame, mkF, argsToLocals, Value.category]; done) | rfl
def Qt0 (Z : State) (ad0 : Addr) (h0 : Heap) (n0 : Nat) (v : Option Value) (h : Heap) (L : List Loc) : Prop := ∃ a b : Addr, v = some (.ref a) ∧ Fr n0 L ∧ Keep h0 h [] ∧ Exa Z h a "java/lang/String" ∧ Fld Z h a "java/lang/String" "coder" "B" (.int (0 : Int32)) ∧ Fld Z h a "java/lang/String" "value" "[B" (.ref b) ∧ own_AV Value.int Z h b .byte 7 (own_lit0)
set_option maxRecDepth 65536 in
set_option maxHeartbeats 40000000 in
theorem rmt0 (l : Launch) (Z : State) (a0 : Array Value) (hw : ∀ d ∈ tables_1, d.before a0 Z = true) (ws : List Jvm.Cond) (ad0 : Addr) (h0 : Heap) (n0 : Nat) (Z0 : n0 ≤ h0.size) (E_ad0 : Exa Z h0 ad0 "com/example/tabularium/tabularium/model/Delivery") (F_delivered_ad0 : Fld Z h0 ad0 "com/example/tabularium/tabularium/model/Delivery" "delivered" "Z" (.int (0 : Int32))) :
    MetFree l (⟨"com/example/tabularium/tabularium/model/Delivery", "text", "()Ljava/lang/String;"⟩ : MethodName) (head1 (Jvm.Cond.code (⟨"com/example/tabularium/tabularium/model/Delivery", "text", "()Ljava/lang/String;"⟩ : MethodName) prog_63_method_5_code 1 (some (.object "java/lang/String")) :: ws) ({ frames := 0, cells := 2, slots := 32, locals := 0 } : Room)) (fun a U => a = #[(.ref ad0)] ∧ Z.Warmed39 U.vm ∧ U.heap = h0 ∧ CHv Z consts_1 U.vm h0) (fun _ _ _ _ _ => True) (fun _ U o U' => ∃ v L, o = .returned v ∧ Qt0 Z ad0 h0 n0 v U'.heap L ∧ CHr Z consts_1 U.vm U.heap U'.vm U'.heap ∧ ReturnedEndW U o U' L ({ frames := 0, cells := 2, slots := 32, locals := 0 } : Room).cells ({ frames := 0, cells := 2, slots := 32, locals := 0 } : Room).slots) := by
  refine MetFree.of_bodySF (plainFor_of_name own_pn1) hisR ?_
  intro p e s m args below meth c s₁ Bd hml0 hP hK
  obtain ⟨rfl, hZ, hh, hCH⟩ := hP
  have hx := Bd.exec
  have hby := Bd.bytes
  have hml : c.maxLocals = 1 := hml0
  have hown : s.vm.findClass "com/example/tabularium/tabularium/model/Delivery" = some m.cls := findClass_of_methodNamed Bd.named
  have hnm := (name_of_methodNamed Bd.named Bd.method).1
  have hlk : meth.locks = false := BodyLoose.notSynchronized Bd
  have X0 : Stand p l e ({ frames := 0, cells := 2, slots := 32, locals := 0 } : Room) (s.setVm s.vm) m #[(.ref ad0)] below meth c s₁ [] 0 0 := Stand.of_body Bd
  have e0 : s₁.heap = h0 := by rw [← hh, Bd.state]; rfl
  have N0 := Fr.nil n0
  have hEL : EW Z a0 consts_1 := own_EW hw
  have hS0 : s.Since s.vm s.heap.size := State.WarmedH.since (State.WarmedH.refl s) _
  have hk0 : s.heap.size ≤ h0.size := Nat.le_of_eq (congrArg Array.size hh)
  have hC0 : CHr Z consts_1 s.vm s.heap s.vm h0 := by rw [hh]; exact CHr.refl hCH
  obtain ⟨G, hG⟩ : ∃ G, G = own_GH Z consts_1 s (Qt0 Z ad0 h0 n0) ({ frames := 0, cells := 2, slots := 32, locals := 0 } : Room).cells ({ frames := 0, cells := 2, slots := 32, locals := 0 } : Room).slots := ⟨_, rfl⟩
  show own_Fin p e below (own_GH Z consts_1 s (Qt0 Z ad0 h0 n0) ({ frames := 0, cells := 2, slots := 32, locals := 0 } : Room).cells ({ frames := 0, cells := 2, slots := 32, locals := 0 } : Room).slots) (s₁.setTop (entryFrame m #[(.ref ad0)] 1))
  rw [← hG]
  refine own_to (fun _ kz => castTop (eft0 m ad0) kz) ?_
  show own_Fin p e below G (s₁.setTop (mkF m 0 #[.val (.ref ad0)] []))
  refine own_to (fun _ kz => XS.aloadN X0.here hx rfl (hb hby d4_0) rfl (rfl)  kz) ?_
  show own_Fin p e below G (s₁.setTop (mkF m 1 #[.val (.ref ad0)] [(.ref ad0)]))
  obtain ⟨T1, X1, e1, st1⟩ := getF X0 hx hZ hown (host := "") (Or.inl (hw _ (List.mem_of_getElem? (i := 15) rfl))) Via.refl e0 F_delivered_ad0 (g := (mkF m 1 #[.val (.ref ad0)] [(.ref ad0)])) rfl rfl (hb hby d4_1)
  refine own_to st1 ?_
  show own_Fin p e below G (T1.setTop (mkF m 4 #[.val (.ref ad0)] [(.int (0 : Int32))]))
  have hc4 : (0 : Int32) = (0 : Int32) := by decide
  refine own_to (fun _ kz => XS.ifYes X1.here hx rfl (pc0 := 4) (pc' := 12) rfl (hb hby d4_4) rfl ((if0 _ _).trans (teq hc4).1) (by decide) (by decide) kz) ?_
  show own_Fin p e below G (T1.setTop (mkF m 12 #[.val (.ref ad0)] []))
  obtain ⟨a12, T12, h12, k112, b12, kc12, X12, e12, E12, hS12, hk12, hZ, hown, A12, Fc12, Fv12, Ar12, -, -, hq12, -, -, st12⟩ := ldcCH (vm0 := s.vm) X1 hx hZ hown (hw _ (List.mem_of_getElem? (i := 24) rfl)) (own_wS hw) e1 hS0 hk0 hEL (List.mem_of_getElem? (i := 0) rfl) hC0.1 (z := (7 : Int32)) (own_txt0) (by decide) rfl (g := (mkF m 12 #[.val (.ref ad0)] [])) rfl (hb hby d4_12) (n := 28) (by decide) (by decide) (by decide) (by decide)
  refine own_to st12 ?_
  have hC12 := CHr.trans hC0 hq12
  have V12 : own_AV Value.int Z h12 b12 .byte 7 own_lit0 := own_AVarv Ar12 rfl (by decide) (own_lf0)
  have Zz_12_E12 := Nat.le_trans Z0 E12.1
  have Z_12 : n0 ≤ h12.size := Zz_12_E12
  show own_Fin p e below G (T12.setTop (mkF m 14 #[.val (.ref ad0)] [(.ref a12)]))
  have KP_14 : Keep h0 h12 [] := ((Keep.refl h0 []).ext E12)
  exact own_retHA (vm₁ := T12.vm) X12 hx hS12 hk12 hC12 hZ hEL e12 hlk hG Bd.returns rfl rfl (hb hby d4_14) (by decide) (by decide) (by rw [e12]; exact ⟨a12, b12, rfl, N0, KP_14, A12, Fc12, Fv12, V12⟩)
theorem own_pd2 : parseMethodDescriptor "(Ljava/lang/Object;)Z" = some ⟨[(.object "java/lang/Object")], some .boolean⟩ := by decide +kernel
theorem own_pd3 : parseMethodDescriptor "(ZI)V" = some ⟨[.boolean, .int], none⟩ := by decide +kernel
theorem d6_0 : decode prog_63_method_3_code 0 = .ok (.ldc 30, 2) := by decide +kernel
theorem d6_2 : decode prog_63_method_3_code 2 = .ok (.aload_n 0, 1) := by decide +kernel
theorem d6_3 : decode prog_63_method_3_code 3 = .ok (.invokevirtual 32, 3) := by decide +kernel
theorem d6_6 : decode prog_63_method_3_code 6 = .ok (.ifCond .ne 26, 3) := by decide +kernel
theorem d6_9 : decode prog_63_method_3_code 9 = .ok (.ldc 38, 2) := by decide +kernel
theorem d6_11 : decode prog_63_method_3_code 11 = .ok (.aload_n 0, 1) := by decide +kernel
theorem d6_12 : decode prog_63_method_3_code 12 = .ok (.invokevirtual 32, 3) := by decide +kernel
theorem d6_15 : decode prog_63_method_3_code 15 = .ok (.ifCond .ne 17, 3) := by decide +kernel
theorem d6_18 : decode prog_63_method_3_code 18 = .ok (.new 7, 3) := by decide +kernel
theorem d6_21 : decode prog_63_method_3_code 21 = .ok (.dup, 1) := by decide +kernel
theorem d6_22 : decode prog_63_method_3_code 22 = .ok (.aload_n 0, 1) := by decide +kernel
theorem d6_23 : decode prog_63_method_3_code 23 = .ok (.invokedynamic 39, 5) := by decide +kernel
theorem d6_28 : decode prog_63_method_3_code 28 = .ok (.invokespecial 13, 3) := by decide +kernel
theorem d6_31 : decode prog_63_method_3_code 31 = .ok (.athrow, 1) := by decide +kernel
theorem d6_32 : decode prog_63_method_3_code 32 = .ok (.new 17, 3) := by decide +kernel
theorem d6_35 : decode prog_63_method_3_code 35 = .ok (.dup, 1) := by decide +kernel
theorem d6_36 : decode prog_63_method_3_code 36 = .ok (.ldc 38, 2) := by decide +kernel
theorem d6_38 : decode prog_63_method_3_code 38 = .ok (.aload_n 0, 1) := by decide +kernel
theorem d6_39 : decode prog_63_method_3_code 39 = .ok (.invokevirtual 32, 3) := by decide +kernel
theorem d6_42 : decode prog_63_method_3_code 42 = .ok (.iload_n 1, 1) := by decide +kernel
theorem d6_43 : decode prog_63_method_3_code 43 = .ok (.invokespecial 42, 3) := by decide +kernel
theorem d6_46 : decode prog_63_method_3_code 46 = .ok (.areturn, 1) := by decide +kernel
theorem efft1 (m : MethodId) (ad0 : Addr) (p1 : Int32) : entryFrame m #[(.ref ad0), (.int p1)] 2 = mkF m 0 #[.val (.ref ad0), .val (.int p1)] [] := by first | (simp [entryFrame, mkF, argsToLocals, Value.category]; done) | rfl
def Qft1 (Z : State) (ad0 : Addr) (p1 : Int32) (bv : Addr) (cz : Int32) (h0 : Heap) (n0 : Nat) (v : Option Value) (h : Heap) (L : List Loc) : Prop := ∃ b : Addr, v = some (.ref b) ∧ Fr n0 L ∧ h0.size ≤ b ∧ Keep h0 h [] ∧ Exa Z h b "com/example/tabularium/tabularium/model/Delivery" ∧ Fld Z h b "com/example/tabularium/tabularium/model/Delivery" "delivered" "Z" (.int (1 : Int32)) ∧ Fld Z h b "com/example/tabularium/tabularium/model/Delivery" "attempts" "I" (.int p1)
set_option maxRecDepth 65536 in
set_option maxHeartbeats 40000000 in
theorem rmft1 (l : Launch) (Z : State) (a0 : Array Value) (hw : ∀ d ∈ tables_1, d.before a0 Z = true) (ws : List Jvm.Cond) (ad0 : Addr) (p1 : Int32) (bv : Addr) (cz : Int32) (h0 : Heap) (n0 : Nat) (Z0 : n0 ≤ h0.size) (E_ad0 : Exa Z h0 ad0 "java/lang/String") (F_coder_ad0 : Fld Z h0 ad0 "java/lang/String" "coder" "B" (.int (0 : Int32))) (F_value_ad0 : Fld Z h0 ad0 "java/lang/String" "value" "[B" (.ref bv)) (V_bv : own_AV Value.int Z h0 bv .byte 9 (own_lit1)) (S_COMPACT_STRINGS : Sta Z h0 "java/lang/String" "COMPACT_STRINGS" "Z" (.int cz)) (hcz : ¬ cz = (0 : Int32)) (hge : ¬ p1 < (1 : Int32)) :
    MetFree l (⟨"com/example/tabularium/tabularium/model/Delivery", "fromText", "(Ljava/lang/String;I)Lcom/example/tabularium/tabularium/model/Delivery;"⟩ : MethodName) (head1 (Jvm.Cond.code (⟨"com/example/tabularium/tabularium/model/Delivery", "fromText", "(Ljava/lang/String;I)Lcom/example/tabularium/tabularium/model/Delivery;"⟩ : MethodName) prog_63_method_3_code 2 (some (.object "com/example/tabularium/tabularium/model/Delivery")) :: ws) ({ frames := 3, cells := 7, slots := 114, locals := 39 } : Room)) (fun a U => a = #[(.ref ad0), (.int p1)] ∧ Z.Warmed39 U.vm ∧ U.heap = h0 ∧ CHv Z consts_1 U.vm h0) (fun _ _ _ _ _ => True) (fun _ U o U' => ∃ v L, o = .returned v ∧ Qft1 Z ad0 p1 bv cz h0 n0 v U'.heap L ∧ CHr Z consts_1 U.vm U.heap U'.vm U'.heap ∧ ReturnedEndW U o U' L ({ frames := 3, cells := 7, slots := 114, locals := 39 } : Room).cells ({ frames := 3, cells := 7, slots := 114, locals := 39 } : Room).slots) := by
  refine MetFree.of_bodySF (plainFor_of_name own_pn1) hisR ?_
  intro p e s m args below meth c s₁ Bd hml0 hP hK
  obtain ⟨rfl, hZ, hh, hCH⟩ := hP
  have hx := Bd.exec
  have hby := Bd.bytes
  have hml : c.maxLocals = 2 := hml0
  have hown : s.vm.findClass "com/example/tabularium/tabularium/model/Delivery" = some m.cls := findClass_of_methodNamed Bd.named
  have hnm := (name_of_methodNamed Bd.named Bd.method).1
  have hlk : meth.locks = false := BodyLoose.notSynchronized Bd
  have X0 : Stand p l e ({ frames := 3, cells := 7, slots := 114, locals := 39 } : Room) (s.setVm s.vm) m #[(.ref ad0), (.int p1)] below meth c s₁ [] 0 0 := Stand.of_body Bd
  have e0 : s₁.heap = h0 := by rw [← hh, Bd.state]; rfl
  have N0 := Fr.nil n0
  have hEL : EW Z a0 consts_1 := own_EW hw
  have hS0 : s.Since s.vm s.heap.size := State.WarmedH.since (State.WarmedH.refl s) _
  have hk0 : s.heap.size ≤ h0.size := Nat.le_of_eq (congrArg Array.size hh)
  have hC0 : CHr Z consts_1 s.vm s.heap s.vm h0 := by rw [hh]; exact CHr.refl hCH
  obtain ⟨G, hG⟩ : ∃ G, G = own_GH Z consts_1 s (Qft1 Z ad0 p1 bv cz h0 n0) ({ frames := 3, cells := 7, slots := 114, locals := 39 } : Room).cells ({ frames := 3, cells := 7, slots := 114, locals := 39 } : Room).slots := ⟨_, rfl⟩
  show own_Fin p e below (own_GH Z consts_1 s (Qft1 Z ad0 p1 bv cz h0 n0) ({ frames := 3, cells := 7, slots := 114, locals := 39 } : Room).cells ({ frames := 3, cells := 7, slots := 114, locals := 39 } : Room).slots) (s₁.setTop (entryFrame m #[(.ref ad0), (.int p1)] 2))
  rw [← hG]
  refine own_to (fun _ kz => castTop (efft1 m ad0 p1) kz) ?_
  show own_Fin p e below G (s₁.setTop (mkF m 0 #[.val (.ref ad0), .val (.int p1)] []))
  obtain ⟨a0a, T0a, h0a, k10a, b0a, kc0a, X0a, e0a, E0a, hS0a, hk0a, hZ, hown, A0a, Fc0a, Fv0a, Ar0a, -, -, hq0a, -, -, st0a⟩ := ldcCH (vm0 := s.vm) X0 hx hZ hown (hw _ (List.mem_of_getElem? (i := 24) rfl)) (own_wS hw) e0 hS0 hk0 hEL (List.mem_of_getElem? (i := 0) rfl) hC0.1 (z := (7 : Int32)) (own_txt0) (by decide) rfl (g := (mkF m 0 #[.val (.ref ad0), .val (.int p1)] [])) rfl (hb hby d6_0) (n := 28) (by decide) (by decide) (by decide) (by decide)
  refine own_to st0a ?_
  have hC0a := CHr.trans hC0 hq0a
  have V0a : own_AV Value.int Z h0a b0a .byte 7 own_lit0 := own_AVarv Ar0a rfl (by decide) (own_lf0)
  have Zz_0a_E0a := Nat.le_trans Z0 E0a.1
  have Z_0a : n0 ≤ h0a.size := Zz_0a_E0a
  show own_Fin p e below G (T0a.setTop (mkF m 2 #[.val (.ref ad0), .val (.int p1)] [(.ref a0a)]))
  refine own_to (fun _ kz => XS.aloadN X0a.here hx rfl (hb hby d6_2) rfl (rfl)  kz) ?_
  show own_Fin p e below G (T0a.setTop (mkF m 3 #[.val (.ref ad0), .val (.int p1)] [(.ref ad0), (.ref a0a)]))
  have F_value_ad0_at_3 : Fld Z h0a ad0 "java/lang/String" "value" "[B" (.ref bv) := (F_value_ad0.ext E0a)
  have V_bv_at_3 : own_AV Value.int Z h0a bv .byte 9 (own_lit1) := (V_bv.ext E0a)
  have ne_a0a_ad0 : a0a ≠ ad0 := own_lenNe Fv0a V0a F_value_ad0_at_3 V_bv_at_3 (by decide)
  have E_ad0_at_3 : Exa Z h0a ad0 "java/lang/String" := (E_ad0.ext E0a)
  have F_coder_ad0_at_3 : Fld Z h0a ad0 "java/lang/String" "coder" "B" (.int (0 : Int32)) := (F_coder_ad0.ext E0a)
  have S_COMPACT_STRINGS_at_3 : Sta Z h0a "java/lang/String" "COMPACT_STRINGS" "Z" (.int cz) := (S_COMPACT_STRINGS.ext E0a)
  obtain ⟨cq3, kq3, qa3, qb3, qc3⟩ := isOf hZ e0a A0a
  obtain ⟨_, _, ⟨T3, L3, k3, n3⟩, -, X3, ⟨Lc3, hQ3, l3, y3, z3⟩, st3⟩ := X0a.virtualBack hx (y := (⟨"java/lang/String", "equals", "(Ljava/lang/Object;)Z"⟩ : MethodName)) (z := (⟨"java/lang/String", "equals", "(Ljava/lang/Object;)Z"⟩ : MethodName)) hown (mvT hZ (hw _ (List.mem_of_getElem? (i := 41) rfl))) (mvT hZ (hw _ (List.mem_of_getElem? (i := 34) rfl))) (notFace_of_selects (args := #[]) (mvT hZ (hw _ (List.mem_of_getElem? (i := 36) rfl)))) (mvT hZ (hw _ (List.mem_of_getElem? (i := 36) rfl))) (mvT hZ (hw _ (List.mem_of_getElem? (i := 35) rfl))) (by decide) (backOf (W := 0) (rmEF7 l Z a0 hw [] a0a ad0 own_lit0 (own_lit1) b0a bv cz h0a n0 Z_0a A0a Fc0a Fv0a V0a E_ad0_at_3 F_coder_ad0_at_3 F_value_ad0_at_3 V_bv_at_3 S_COMPACT_STRINGS_at_3 hcz ne_a0a_ad0) hZ (hw _ (List.mem_of_getElem? (i := 37) rfl)) (hw _ (List.mem_of_getElem? (i := 25) rfl)) (by decide) (by decide)) qa3 qc3 (g := (mkF m 3 #[.val (.ref ad0), .val (.int p1)] [(.ref ad0), (.ref a0a)])) rfl (by rw [hml]; rfl) (Steps.refl _) (argsL := [(.ref ad0)]) (rest := []) (lenOf own_pd2 rfl) rfl (by show 2 * 0 + _ ≤ _; exact Nat.le_of_eq rfl) (hb hby d6_3) (fun _ _ => ⟨rfl, e0a, (by decide : 2 + 0 ≤ _), (by decide : 32 + 0 ≤ _)⟩)
  dsimp only [Pt.U, Pt.locs, Pt.cells, Pt.slots] at X3 l3 y3 z3 st3 hQ3
  subst l3 y3 z3
  obtain ⟨rfl, N3q, e3⟩ := hQ3
  obtain ⟨lo3, X3, N3⟩ : ∃ lo, Stand p l e _ (s.setVm T0a.vm) m _ below meth c T3 lo _ _ ∧ Fr n0 lo := ⟨_, X3, Fr.app N0 N3q⟩
  refine own_via st3 ?_
  show own_Fin p e below G (T3.setTop (mkF m 6 #[.val (.ref ad0), .val (.int p1)] [(.int (0 : Int32))]))
  have hc6 : (0 : Int32) = (0 : Int32) := by decide
  refine own_to (fun _ kz => XS.ifNo X3.here hx rfl (hb hby d6_6) rfl ((if0 _ _).trans (teq hc6).2) kz) ?_
  show own_Fin p e below G (T3.setTop (mkF m 9 #[.val (.ref ad0), .val (.int p1)] []))
  obtain ⟨a9, T9, h9, k19, b9, kc9, X9, e9, E9, hS9, hk9, hZ, hown, A9, Fc9, Fv9, Ar9, -, -, hq9, -, -, st9⟩ := ldcCH (vm0 := T0a.vm) X3 hx hZ hown (hw _ (List.mem_of_getElem? (i := 43) rfl)) (own_wS hw) e3 hS0a hk0a hEL (List.mem_of_getElem? (i := 1) rfl) hC0a.1 (z := (9 : Int32)) (own_txt1) (by decide) rfl (g := (mkF m 9 #[.val (.ref ad0), .val (.int p1)] [])) rfl (hb hby d6_9) (n := 36) (by decide) (by decide) (by decide) (by decide)
  refine own_to st9 ?_
  have hC9 := CHr.trans hC0a hq9
  have V9 : own_AV Value.int Z h9 b9 .byte 9 own_lit1 := own_AVarv Ar9 rfl (by decide) (own_lf1)
  have Zz_9_E9 := Nat.le_trans Z_0a E9.1
  have Z_9 : n0 ≤ h9.size := Zz_9_E9
  show own_Fin p e below G (T9.setTop (mkF m 11 #[.val (.ref ad0), .val (.int p1)] [(.ref a9)]))
  refine own_to (fun _ kz => XS.aloadN X9.here hx rfl (hb hby d6_11) rfl (rfl)  kz) ?_
  show own_Fin p e below G (T9.setTop (mkF m 12 #[.val (.ref ad0), .val (.int p1)] [(.ref ad0), (.ref a9)]))
  have E_ad0_at_12 : Exa Z h9 ad0 "java/lang/String" := (E_ad0_at_3.ext E9)
  have F_coder_ad0_at_12 : Fld Z h9 ad0 "java/lang/String" "coder" "B" (.int (0 : Int32)) := (F_coder_ad0_at_3.ext E9)
  have F_value_ad0_at_12 : Fld Z h9 ad0 "java/lang/String" "value" "[B" (.ref bv) := (F_value_ad0_at_3.ext E9)
  have V_bv_at_12 : own_AV Value.int Z h9 bv .byte 9 (own_lit1) := (V_bv_at_3.ext E9)
  have S_COMPACT_STRINGS_at_12 : Sta Z h9 "java/lang/String" "COMPACT_STRINGS" "Z" (.int cz) := (S_COMPACT_STRINGS_at_3.ext E9)
  obtain ⟨cq12, kq12, qa12, qb12, qc12⟩ := isOf hZ e9 A9
  obtain ⟨_, _, ⟨T12, L12, k12, n12⟩, -, X12, ⟨Lc12, hQ12, l12, y12, z12⟩, st12⟩ := X9.virtualBack hx (y := (⟨"java/lang/String", "equals", "(Ljava/lang/Object;)Z"⟩ : MethodName)) (z := (⟨"java/lang/String", "equals", "(Ljava/lang/Object;)Z"⟩ : MethodName)) hown (mvT hZ (hw _ (List.mem_of_getElem? (i := 41) rfl))) (mvT hZ (hw _ (List.mem_of_getElem? (i := 34) rfl))) (notFace_of_selects (args := #[]) (mvT hZ (hw _ (List.mem_of_getElem? (i := 36) rfl)))) (mvT hZ (hw _ (List.mem_of_getElem? (i := 36) rfl))) (mvT hZ (hw _ (List.mem_of_getElem? (i := 35) rfl))) (by decide) (backOf (W := 0) (rmET l Z a0 hw [] a9 ad0 9 (own_lit1) b9 bv cz h9 n0 Z_9 A9 Fc9 Fv9 V9 E_ad0_at_12 F_coder_ad0_at_12 F_value_ad0_at_12 V_bv_at_12 S_COMPACT_STRINGS_at_12 hcz) hZ (hw _ (List.mem_of_getElem? (i := 37) rfl)) (hw _ (List.mem_of_getElem? (i := 25) rfl)) (by decide) (by decide)) qa12 qc12 (g := (mkF m 12 #[.val (.ref ad0), .val (.int p1)] [(.ref ad0), (.ref a9)])) rfl (by rw [hml]; rfl) (Steps.refl _) (argsL := [(.ref ad0)]) (rest := []) (lenOf own_pd2 rfl) rfl (by show 2 * 0 + _ ≤ _; exact Nat.le_of_eq rfl) (hb hby d6_12) (fun _ _ => ⟨rfl, e9, (by decide : 4 + 0 ≤ _), (by decide : 72 + 0 ≤ _)⟩)
  dsimp only [Pt.U, Pt.locs, Pt.cells, Pt.slots] at X12 l12 y12 z12 st12 hQ12
  subst l12 y12 z12
  obtain ⟨rfl, N12q, e12⟩ := hQ12
  obtain ⟨lo12, X12, N12⟩ : ∃ lo, Stand p l e _ (s.setVm T9.vm) m _ below meth c T12 lo _ _ ∧ Fr n0 lo := ⟨_, X12, Fr.app N3 N12q⟩
  refine own_via st12 ?_
  show own_Fin p e below G (T12.setTop (mkF m 15 #[.val (.ref ad0), .val (.int p1)] [(.int (1 : Int32))]))
  have hc15 : ¬ ((1 : Int32) = (0 : Int32)) := by decide
  refine own_to (fun _ kz => XS.ifYes X12.here hx rfl (pc0 := 15) (pc' := 32) rfl (hb hby d6_15) rfl ((if0 _ _).trans (feq hc15).2) (by decide) (by decide) kz) ?_
  show own_Fin p e below G (T12.setTop (mkF m 32 #[.val (.ref ad0), .val (.int p1)] []))
  have KP_32 : Keep h0 h9 [] := (((Keep.refl h0 []).ext E0a).ext E9)
  obtain ⟨T32, h32, X32, e32, E32, A32, D32, -, st32⟩ := newO X12 hx hZ hown (hw _ (List.mem_of_getElem? (i := 42) rfl)) (hw _ (List.mem_of_getElem? (i := 2) rfl)) (hw _ (List.mem_of_getElem? (i := 3) rfl)) e12 (g := (mkF m 32 #[.val (.ref ad0), .val (.int p1)] [])) rfl (hb hby d6_32) (by decide) (by decide)
  obtain ⟨b32, g32⟩ : ∃ z, z = h9.size := ⟨_, rfl⟩
  rw [← g32] at A32 D32 st32
  refine own_to st32 ?_
  have ne_ad0_b32 : ad0 ≠ b32 := Nat.ne_of_lt (Nat.lt_of_lt_of_le E_ad0_at_12.lt (Nat.le_of_eq g32.symm))
  have ne_bv_b32 : bv ≠ b32 := Nat.ne_of_lt (Nat.lt_of_lt_of_le V_bv_at_12.lt (Nat.le_of_eq g32.symm))
  have ne_a0a_b32 : a0a ≠ b32 := Nat.ne_of_lt (Nat.lt_of_lt_of_le (A0a.ext E9).lt (Nat.le_of_eq g32.symm))
  have ne_b0a_b32 : b0a ≠ b32 := Nat.ne_of_lt (Nat.lt_of_lt_of_le (V0a.ext E9).lt (Nat.le_of_eq g32.symm))
  have ne_a9_b32 : a9 ≠ b32 := Nat.ne_of_lt (Nat.lt_of_lt_of_le A9.lt (Nat.le_of_eq g32.symm))
  have ne_b9_b32 : b9 ≠ b32 := Nat.ne_of_lt (Nat.lt_of_lt_of_le V9.lt (Nat.le_of_eq g32.symm))
  have g_b32 : n0 ≤ b32 := Nat.le_trans Z_9 (Nat.le_of_eq g32.symm)
  have sz_b32 : h0.size ≤ b32 := Nat.le_trans KP_32.1 (Nat.le_of_eq g32.symm)
  have F_delivered_b32 : Fld Z h32 b32 "com/example/tabularium/tabularium/model/Delivery" "delivered" "Z" (.int (0 : Int32)) := D32 (Or.inr (hw _ (List.mem_of_getElem? (i := 16) rfl))) (ty := .boolean) (by decide)
  have F_attempts_b32 : Fld Z h32 b32 "com/example/tabularium/tabularium/model/Delivery" "attempts" "I" (.int (0 : Int32)) := D32 (Or.inr (hw _ (List.mem_of_getElem? (i := 18) rfl))) (ty := .int) (by decide)
  show own_Fin p e below G (T32.setTop (mkF m 35 #[.val (.ref ad0), .val (.int p1)] [(.ref b32)]))
  refine own_to (fun _ kz => XS.dup X32.here hx rfl (hb hby d6_35) rfl rfl kz) ?_
  show own_Fin p e below G (T32.setTop (mkF m 36 #[.val (.ref ad0), .val (.int p1)] [(.ref b32), (.ref b32)]))
  have hC_36_E32 := CHr.trans hC9 (CHr.ext E32 hC9.1)
  have hk_36_E32 := Nat.le_trans hk9 E32.1
  obtain ⟨a36, T36, h36, k136, b36, kc36, X36, e36, E36, hS36, hk36, hZ, hown, A36, Fc36, Fv36, Ar36, -, -, hq36, -, -, st36⟩ := ldcCH (vm0 := T9.vm) X32 hx hZ hown (hw _ (List.mem_of_getElem? (i := 43) rfl)) (own_wS hw) e32 hS9 hk_36_E32 hEL (List.mem_of_getElem? (i := 1) rfl) hC_36_E32.1 (z := (9 : Int32)) (own_txt1) (by decide) rfl (g := (mkF m 36 #[.val (.ref ad0), .val (.int p1)] [(.ref b32), (.ref b32)])) rfl (hb hby d6_36) (n := 36) (by decide) (by decide) (by decide) (by decide)
  refine own_to st36 ?_
  have hC36 := CHr.trans hC_36_E32 hq36
  have V36 : own_AV Value.int Z h36 b36 .byte 9 own_lit1 := own_AVarv Ar36 rfl (by decide) (own_lf1)
  have Zz_36_E32 := Nat.le_trans Z_9 E32.1
  have Zz_36_E36 := Nat.le_trans Zz_36_E32 E36.1
  have Z_36 : n0 ≤ h36.size := Zz_36_E36
  show own_Fin p e below G (T36.setTop (mkF m 38 #[.val (.ref ad0), .val (.int p1)] [(.ref a36), (.ref b32), (.ref b32)]))
  refine own_to (fun _ kz => XS.aloadN X36.here hx rfl (hb hby d6_38) rfl (rfl)  kz) ?_
  show own_Fin p e below G (T36.setTop (mkF m 39 #[.val (.ref ad0), .val (.int p1)] [(.ref ad0), (.ref a36), (.ref b32), (.ref b32)]))
  have E_ad0_at_39 : Exa Z h36 ad0 "java/lang/String" := ((E_ad0_at_12.ext E32).ext E36)
  have F_coder_ad0_at_39 : Fld Z h36 ad0 "java/lang/String" "coder" "B" (.int (0 : Int32)) := ((F_coder_ad0_at_12.ext E32).ext E36)
  have F_value_ad0_at_39 : Fld Z h36 ad0 "java/lang/String" "value" "[B" (.ref bv) := ((F_value_ad0_at_12.ext E32).ext E36)
  have V_bv_at_39 : own_AV Value.int Z h36 bv .byte 9 (own_lit1) := ((V_bv_at_12.ext E32).ext E36)
  have S_COMPACT_STRINGS_at_39 : Sta Z h36 "java/lang/String" "COMPACT_STRINGS" "Z" (.int cz) := ((S_COMPACT_STRINGS_at_12.ext E32).ext E36)
  obtain ⟨cq39, kq39, qa39, qb39, qc39⟩ := isOf hZ e36 A36
  obtain ⟨_, _, ⟨T39, L39, k39, n39⟩, -, X39, ⟨Lc39, hQ39, l39, y39, z39⟩, st39⟩ := X36.virtualBack hx (y := (⟨"java/lang/String", "equals", "(Ljava/lang/Object;)Z"⟩ : MethodName)) (z := (⟨"java/lang/String", "equals", "(Ljava/lang/Object;)Z"⟩ : MethodName)) hown (mvT hZ (hw _ (List.mem_of_getElem? (i := 41) rfl))) (mvT hZ (hw _ (List.mem_of_getElem? (i := 34) rfl))) (notFace_of_selects (args := #[]) (mvT hZ (hw _ (List.mem_of_getElem? (i := 36) rfl)))) (mvT hZ (hw _ (List.mem_of_getElem? (i := 36) rfl))) (mvT hZ (hw _ (List.mem_of_getElem? (i := 35) rfl))) (by decide) (backOf (W := 2) (rmET l Z a0 hw [] a36 ad0 9 (own_lit1) b36 bv cz h36 n0 Z_36 A36 Fc36 Fv36 V36 E_ad0_at_39 F_coder_ad0_at_39 F_value_ad0_at_39 V_bv_at_39 S_COMPACT_STRINGS_at_39 hcz) hZ (hw _ (List.mem_of_getElem? (i := 37) rfl)) (hw _ (List.mem_of_getElem? (i := 25) rfl)) (by decide) (by decide)) qa39 qc39 (g := (mkF m 39 #[.val (.ref ad0), .val (.int p1)] [(.ref ad0), (.ref a36), (.ref b32), (.ref b32)])) rfl (by rw [hml]; rfl) (Steps.refl _) (argsL := [(.ref ad0)]) (rest := [(.ref b32), (.ref b32)]) (lenOf own_pd2 rfl) rfl (by show 2 * 0 + _ ≤ _; exact Nat.le_of_eq rfl) (hb hby d6_39) (fun _ _ => ⟨rfl, e36, (by decide : 7 + 0 ≤ _), (by decide : 114 + 0 ≤ _)⟩)
  dsimp only [Pt.U, Pt.locs, Pt.cells, Pt.slots] at X39 l39 y39 z39 st39 hQ39
  subst l39 y39 z39
  obtain ⟨rfl, N39q, e39⟩ := hQ39
  obtain ⟨lo39, X39, N39⟩ : ∃ lo, Stand p l e _ (s.setVm T36.vm) m _ below meth c T39 lo _ _ ∧ Fr n0 lo := ⟨_, X39, Fr.app N12 N39q⟩
  refine own_via st39 ?_
  show own_Fin p e below G (T39.setTop (mkF m 42 #[.val (.ref ad0), .val (.int p1)] [(.int (1 : Int32)), (.ref b32), (.ref b32)]))
  refine own_to (fun _ kz => XS.iloadN X39.here hx rfl (hb hby d6_42) rfl  kz) ?_
  show own_Fin p e below G (T39.setTop (mkF m 43 #[.val (.ref ad0), .val (.int p1)] [(.int p1), (.int (1 : Int32)), (.ref b32), (.ref b32)]))
  have A32_at_43 : Exa Z h36 b32 "com/example/tabularium/tabularium/model/Delivery" := (A32.ext E36)
  have F_delivered_b32_at_43 : Fld Z h36 b32 "com/example/tabularium/tabularium/model/Delivery" "delivered" "Z" (.int (0 : Int32)) := (F_delivered_b32.ext E36)
  have F_at_43 : Fld Z h36 b32 "com/example/tabularium/tabularium/model/Delivery" "attempts" "I" (.int (0 : Int32)) := (F_attempts_b32.ext E36)
  have sf_b32_43 : Safe Z consts_1 T36.vm h36 b32 := Safe.exa hZ.alike A32_at_43 (by decide) (by decide)
  obtain ⟨_, _, ⟨T43, L43, k43, n43⟩, -, X43, ⟨Lc43, hQ43, l43, y43, z43⟩, st43⟩ := X39.specialBack hx (y := (⟨"com/example/tabularium/tabularium/model/Delivery", "<init>", "(ZI)V"⟩ : MethodName)) rfl hown (mvT hZ (hw _ (List.mem_of_getElem? (i := 53) rfl))) (mvT hZ (hw _ (List.mem_of_getElem? (i := 5) rfl))) (mvT hZ (hw _ (List.mem_of_getElem? (i := 6) rfl))) (by decide) (backOf (W := 1) (rmi1 l Z a0 hw [] b32 p1 h36 n0 Z_36 A32_at_43 F_delivered_b32_at_43 F_at_43 g_b32 hge) hZ (hw _ (List.mem_of_getElem? (i := 6) rfl)) (hw _ (List.mem_of_getElem? (i := 3) rfl)) (by decide) (by decide)) (g := (mkF m 43 #[.val (.ref ad0), .val (.int p1)] [(.int p1), (.int (1 : Int32)), (.ref b32), (.ref b32)])) rfl (by rw [hml]; rfl) (Steps.refl _) (a := b32) (argsL := [(.int (1 : Int32)), (.int p1)]) (rest := [(.ref b32)]) (lenOf own_pd3 rfl) rfl (by show 2 * 0 + _ ≤ _; exact Nat.le_of_eq rfl) (hb hby d6_43) (fun _ _ => ⟨rfl, e39, (by decide : 7 + 0 ≤ _), (by decide : 114 + 0 ≤ _)⟩)
  dsimp only [Pt.U, Pt.locs, Pt.cells, Pt.slots] at X43 l43 y43 z43 st43 hQ43
  subst l43 y43 z43
  obtain ⟨rfl, N43q, Kp43, P43_0, P43_1, P43_2⟩ := hQ43
  have hC_43_Kp43 := CHr.trans hC36 (CHr.keep Kp43 (allS sf_b32_43 all0) hC36.1)
  obtain ⟨lo43, X43, N43⟩ : ∃ lo, Stand p l e _ (s.setVm T36.vm) m _ below meth c T43 lo _ _ ∧ Fr n0 lo := ⟨_, X43, Fr.app N39 N43q⟩
  refine own_via st43 ?_
  show own_Fin p e below G (T43.setTop (mkF m 46 #[.val (.ref ad0), .val (.int p1)] [(.ref b32)]))
  have KP_46 : Keep h0 T43.heap [] := (((KP_32.ext E32).ext E36).trans Kp43 (allS (Or.inr sz_b32) all0))
  have hk_46_Kp43 := Nat.le_trans hk36 Kp43.1
  exact own_retHA (vm₁ := T36.vm) X43 hx hS36 hk_46_Kp43 hC_43_Kp43 hZ hEL rfl hlk hG Bd.returns rfl rfl (hb hby d6_46) (by decide) (by decide) ⟨b32, rfl, N43, sz_b32, KP_46, P43_0, P43_1, P43_2⟩
theorem efft0 (m : MethodId) (ad0 : Addr) (p1 : Int32) : entryFrame m #[(.ref ad0), (.int p1)] 2 = mkF m 0 #[.val (.ref ad0), .val (.int p1)] [] := by first | (simp [entryFrame, mkF, argsToLocals, Value.category]; done) | rfl
def Qft0 (Z : State) (ad0 : Addr) (p1 : Int32) (bv : Addr) (cz : Int32) (h0 : Heap) (n0 : Nat) (v : Option Value) (h : Heap) (L : List Loc) : Prop := ∃ b : Addr, v = some (.ref b) ∧ Fr n0 L ∧ h0.size ≤ b ∧ Keep h0 h [] ∧ Exa Z h b "com/example/tabularium/tabularium/model/Delivery" ∧ Fld Z h b "com/example/tabularium/tabularium/model/Delivery" "delivered" "Z" (.int (0 : Int32)) ∧ Fld Z h b "com/example/tabularium/tabularium/model/Delivery" "attempts" "I" (.int p1)
set_option maxRecDepth 65536 in
set_option maxHeartbeats 40000000 in
theorem rmft0 (l : Launch) (Z : State) (a0 : Array Value) (hw : ∀ d ∈ tables_1, d.before a0 Z = true) (ws : List Jvm.Cond) (ad0 : Addr) (p1 : Int32) (bv : Addr) (cz : Int32) (h0 : Heap) (n0 : Nat) (Z0 : n0 ≤ h0.size) (E_ad0 : Exa Z h0 ad0 "java/lang/String") (F_coder_ad0 : Fld Z h0 ad0 "java/lang/String" "coder" "B" (.int (0 : Int32))) (F_value_ad0 : Fld Z h0 ad0 "java/lang/String" "value" "[B" (.ref bv)) (V_bv : own_AV Value.int Z h0 bv .byte 7 (own_lit0)) (S_COMPACT_STRINGS : Sta Z h0 "java/lang/String" "COMPACT_STRINGS" "Z" (.int cz)) (hcz : ¬ cz = (0 : Int32)) (hge : ¬ p1 < (0 : Int32)) :
    MetFree l (⟨"com/example/tabularium/tabularium/model/Delivery", "fromText", "(Ljava/lang/String;I)Lcom/example/tabularium/tabularium/model/Delivery;"⟩ : MethodName) (head1 (Jvm.Cond.code (⟨"com/example/tabularium/tabularium/model/Delivery", "fromText", "(Ljava/lang/String;I)Lcom/example/tabularium/tabularium/model/Delivery;"⟩ : MethodName) prog_63_method_3_code 2 (some (.object "com/example/tabularium/tabularium/model/Delivery")) :: ws) ({ frames := 3, cells := 5, slots := 74, locals := 39 } : Room)) (fun a U => a = #[(.ref ad0), (.int p1)] ∧ Z.Warmed39 U.vm ∧ U.heap = h0 ∧ CHv Z consts_1 U.vm h0) (fun _ _ _ _ _ => True) (fun _ U o U' => ∃ v L, o = .returned v ∧ Qft0 Z ad0 p1 bv cz h0 n0 v U'.heap L ∧ CHr Z consts_1 U.vm U.heap U'.vm U'.heap ∧ ReturnedEndW U o U' L ({ frames := 3, cells := 5, slots := 74, locals := 39 } : Room).cells ({ frames := 3, cells := 5, slots := 74, locals := 39 } : Room).slots) := by
  refine MetFree.of_bodySF (plainFor_of_name own_pn1) hisR ?_
  intro p e s m args below meth c s₁ Bd hml0 hP hK
  obtain ⟨rfl, hZ, hh, hCH⟩ := hP
  have hx := Bd.exec
  have hby := Bd.bytes
  have hml : c.maxLocals = 2 := hml0
  have hown : s.vm.findClass "com/example/tabularium/tabularium/model/Delivery" = some m.cls := findClass_of_methodNamed Bd.named
  have hnm := (name_of_methodNamed Bd.named Bd.method).1
  have hlk : meth.locks = false := BodyLoose.notSynchronized Bd
  have X0 : Stand p l e ({ frames := 3, cells := 5, slots := 74, locals := 39 } : Room) (s.setVm s.vm) m #[(.ref ad0), (.int p1)] below meth c s₁ [] 0 0 := Stand.of_body Bd
  have e0 : s₁.heap = h0 := by rw [← hh, Bd.state]; rfl
  have N0 := Fr.nil n0
  have hEL : EW Z a0 consts_1 := own_EW hw
  have hS0 : s.Since s.vm s.heap.size := State.WarmedH.since (State.WarmedH.refl s) _
  have hk0 : s.heap.size ≤ h0.size := Nat.le_of_eq (congrArg Array.size hh)
  have hC0 : CHr Z consts_1 s.vm s.heap s.vm h0 := by rw [hh]; exact CHr.refl hCH
  obtain ⟨G, hG⟩ : ∃ G, G = own_GH Z consts_1 s (Qft0 Z ad0 p1 bv cz h0 n0) ({ frames := 3, cells := 5, slots := 74, locals := 39 } : Room).cells ({ frames := 3, cells := 5, slots := 74, locals := 39 } : Room).slots := ⟨_, rfl⟩
  show own_Fin p e below (own_GH Z consts_1 s (Qft0 Z ad0 p1 bv cz h0 n0) ({ frames := 3, cells := 5, slots := 74, locals := 39 } : Room).cells ({ frames := 3, cells := 5, slots := 74, locals := 39 } : Room).slots) (s₁.setTop (entryFrame m #[(.ref ad0), (.int p1)] 2))
  rw [← hG]
  refine own_to (fun _ kz => castTop (efft0 m ad0 p1) kz) ?_
  show own_Fin p e below G (s₁.setTop (mkF m 0 #[.val (.ref ad0), .val (.int p1)] []))
  obtain ⟨a0a, T0a, h0a, k10a, b0a, kc0a, X0a, e0a, E0a, hS0a, hk0a, hZ, hown, A0a, Fc0a, Fv0a, Ar0a, -, -, hq0a, -, -, st0a⟩ := ldcCH (vm0 := s.vm) X0 hx hZ hown (hw _ (List.mem_of_getElem? (i := 24) rfl)) (own_wS hw) e0 hS0 hk0 hEL (List.mem_of_getElem? (i := 0) rfl) hC0.1 (z := (7 : Int32)) (own_txt0) (by decide) rfl (g := (mkF m 0 #[.val (.ref ad0), .val (.int p1)] [])) rfl (hb hby d6_0) (n := 28) (by decide) (by decide) (by decide) (by decide)
  refine own_to st0a ?_
  have hC0a := CHr.trans hC0 hq0a
  have V0a : own_AV Value.int Z h0a b0a .byte 7 own_lit0 := own_AVarv Ar0a rfl (by decide) (own_lf0)
  have Zz_0a_E0a := Nat.le_trans Z0 E0a.1
  have Z_0a : n0 ≤ h0a.size := Zz_0a_E0a
  show own_Fin p e below G (T0a.setTop (mkF m 2 #[.val (.ref ad0), .val (.int p1)] [(.ref a0a)]))
  refine own_to (fun _ kz => XS.aloadN X0a.here hx rfl (hb hby d6_2) rfl (rfl)  kz) ?_
  show own_Fin p e below G (T0a.setTop (mkF m 3 #[.val (.ref ad0), .val (.int p1)] [(.ref ad0), (.ref a0a)]))
  have E_ad0_at_3 : Exa Z h0a ad0 "java/lang/String" := (E_ad0.ext E0a)
  have F_coder_ad0_at_3 : Fld Z h0a ad0 "java/lang/String" "coder" "B" (.int (0 : Int32)) := (F_coder_ad0.ext E0a)
  have F_value_ad0_at_3 : Fld Z h0a ad0 "java/lang/String" "value" "[B" (.ref bv) := (F_value_ad0.ext E0a)
  have V_bv_at_3 : own_AV Value.int Z h0a bv .byte 7 (own_lit0) := (V_bv.ext E0a)
  have S_COMPACT_STRINGS_at_3 : Sta Z h0a "java/lang/String" "COMPACT_STRINGS" "Z" (.int cz) := (S_COMPACT_STRINGS.ext E0a)
  obtain ⟨cq3, kq3, qa3, qb3, qc3⟩ := isOf hZ e0a A0a
  obtain ⟨_, _, ⟨T3, L3, k3, n3⟩, -, X3, ⟨Lc3, hQ3, l3, y3, z3⟩, st3⟩ := X0a.virtualBack hx (y := (⟨"java/lang/String", "equals", "(Ljava/lang/Object;)Z"⟩ : MethodName)) (z := (⟨"java/lang/String", "equals", "(Ljava/lang/Object;)Z"⟩ : MethodName)) hown (mvT hZ (hw _ (List.mem_of_getElem? (i := 41) rfl))) (mvT hZ (hw _ (List.mem_of_getElem? (i := 34) rfl))) (notFace_of_selects (args := #[]) (mvT hZ (hw _ (List.mem_of_getElem? (i := 36) rfl)))) (mvT hZ (hw _ (List.mem_of_getElem? (i := 36) rfl))) (mvT hZ (hw _ (List.mem_of_getElem? (i := 35) rfl))) (by decide) (backOf (W := 0) (rmET l Z a0 hw [] a0a ad0 7 (own_lit0) b0a bv cz h0a n0 Z_0a A0a Fc0a Fv0a V0a E_ad0_at_3 F_coder_ad0_at_3 F_value_ad0_at_3 V_bv_at_3 S_COMPACT_STRINGS_at_3 hcz) hZ (hw _ (List.mem_of_getElem? (i := 37) rfl)) (hw _ (List.mem_of_getElem? (i := 25) rfl)) (by decide) (by decide)) qa3 qc3 (g := (mkF m 3 #[.val (.ref ad0), .val (.int p1)] [(.ref ad0), (.ref a0a)])) rfl (by rw [hml]; rfl) (Steps.refl _) (argsL := [(.ref ad0)]) (rest := []) (lenOf own_pd2 rfl) rfl (by show 2 * 0 + _ ≤ _; exact Nat.le_of_eq rfl) (hb hby d6_3) (fun _ _ => ⟨rfl, e0a, (by decide : 2 + 0 ≤ _), (by decide : 32 + 0 ≤ _)⟩)
  dsimp only [Pt.U, Pt.locs, Pt.cells, Pt.slots] at X3 l3 y3 z3 st3 hQ3
  subst l3 y3 z3
  obtain ⟨rfl, N3q, e3⟩ := hQ3
  obtain ⟨lo3, X3, N3⟩ : ∃ lo, Stand p l e _ (s.setVm T0a.vm) m _ below meth c T3 lo _ _ ∧ Fr n0 lo := ⟨_, X3, Fr.app N0 N3q⟩
  refine own_via st3 ?_
  show own_Fin p e below G (T3.setTop (mkF m 6 #[.val (.ref ad0), .val (.int p1)] [(.int (1 : Int32))]))
  have hc6 : ¬ ((1 : Int32) = (0 : Int32)) := by decide
  refine own_to (fun _ kz => XS.ifYes X3.here hx rfl (pc0 := 6) (pc' := 32) rfl (hb hby d6_6) rfl ((if0 _ _).trans (feq hc6).2) (by decide) (by decide) kz) ?_
  show own_Fin p e below G (T3.setTop (mkF m 32 #[.val (.ref ad0), .val (.int p1)] []))
  have KP_32 : Keep h0 h0a [] := ((Keep.refl h0 []).ext E0a)
  obtain ⟨T32, h32, X32, e32, E32, A32, D32, -, st32⟩ := newO X3 hx hZ hown (hw _ (List.mem_of_getElem? (i := 42) rfl)) (hw _ (List.mem_of_getElem? (i := 2) rfl)) (hw _ (List.mem_of_getElem? (i := 3) rfl)) e3 (g := (mkF m 32 #[.val (.ref ad0), .val (.int p1)] [])) rfl (hb hby d6_32) (by decide) (by decide)
  obtain ⟨b32, g32⟩ : ∃ z, z = h0a.size := ⟨_, rfl⟩
  rw [← g32] at A32 D32 st32
  refine own_to st32 ?_
  have ne_ad0_b32 : ad0 ≠ b32 := Nat.ne_of_lt (Nat.lt_of_lt_of_le E_ad0_at_3.lt (Nat.le_of_eq g32.symm))
  have ne_bv_b32 : bv ≠ b32 := Nat.ne_of_lt (Nat.lt_of_lt_of_le V_bv_at_3.lt (Nat.le_of_eq g32.symm))
  have ne_a0a_b32 : a0a ≠ b32 := Nat.ne_of_lt (Nat.lt_of_lt_of_le A0a.lt (Nat.le_of_eq g32.symm))
  have ne_b0a_b32 : b0a ≠ b32 := Nat.ne_of_lt (Nat.lt_of_lt_of_le V0a.lt (Nat.le_of_eq g32.symm))
  have g_b32 : n0 ≤ b32 := Nat.le_trans Z_0a (Nat.le_of_eq g32.symm)
  have sz_b32 : h0.size ≤ b32 := Nat.le_trans KP_32.1 (Nat.le_of_eq g32.symm)
  have F_delivered_b32 : Fld Z h32 b32 "com/example/tabularium/tabularium/model/Delivery" "delivered" "Z" (.int (0 : Int32)) := D32 (Or.inr (hw _ (List.mem_of_getElem? (i := 16) rfl))) (ty := .boolean) (by decide)
  have F_attempts_b32 : Fld Z h32 b32 "com/example/tabularium/tabularium/model/Delivery" "attempts" "I" (.int (0 : Int32)) := D32 (Or.inr (hw _ (List.mem_of_getElem? (i := 18) rfl))) (ty := .int) (by decide)
  show own_Fin p e below G (T32.setTop (mkF m 35 #[.val (.ref ad0), .val (.int p1)] [(.ref b32)]))
  refine own_to (fun _ kz => XS.dup X32.here hx rfl (hb hby d6_35) rfl rfl kz) ?_
  show own_Fin p e below G (T32.setTop (mkF m 36 #[.val (.ref ad0), .val (.int p1)] [(.ref b32), (.ref b32)]))
  have hC_36_E32 := CHr.trans hC0a (CHr.ext E32 hC0a.1)
  have hk_36_E32 := Nat.le_trans hk0a E32.1
  obtain ⟨a36, T36, h36, k136, b36, kc36, X36, e36, E36, hS36, hk36, hZ, hown, A36, Fc36, Fv36, Ar36, -, -, hq36, -, -, st36⟩ := ldcCH (vm0 := T0a.vm) X32 hx hZ hown (hw _ (List.mem_of_getElem? (i := 43) rfl)) (own_wS hw) e32 hS0a hk_36_E32 hEL (List.mem_of_getElem? (i := 1) rfl) hC_36_E32.1 (z := (9 : Int32)) (own_txt1) (by decide) rfl (g := (mkF m 36 #[.val (.ref ad0), .val (.int p1)] [(.ref b32), (.ref b32)])) rfl (hb hby d6_36) (n := 36) (by decide) (by decide) (by decide) (by decide)
  refine own_to st36 ?_
  have hC36 := CHr.trans hC_36_E32 hq36
  have V36 : own_AV Value.int Z h36 b36 .byte 9 own_lit1 := own_AVarv Ar36 rfl (by decide) (own_lf1)
  have Zz_36_E32 := Nat.le_trans Z_0a E32.1
  have Zz_36_E36 := Nat.le_trans Zz_36_E32 E36.1
  have Z_36 : n0 ≤ h36.size := Zz_36_E36
  show own_Fin p e below G (T36.setTop (mkF m 38 #[.val (.ref ad0), .val (.int p1)] [(.ref a36), (.ref b32), (.ref b32)]))
  refine own_to (fun _ kz => XS.aloadN X36.here hx rfl (hb hby d6_38) rfl (rfl)  kz) ?_
  show own_Fin p e below G (T36.setTop (mkF m 39 #[.val (.ref ad0), .val (.int p1)] [(.ref ad0), (.ref a36), (.ref b32), (.ref b32)]))
  have F_value_ad0_at_39 : Fld Z h36 ad0 "java/lang/String" "value" "[B" (.ref bv) := ((F_value_ad0_at_3.ext E32).ext E36)
  have V_bv_at_39 : own_AV Value.int Z h36 bv .byte 7 (own_lit0) := ((V_bv_at_3.ext E32).ext E36)
  have ne_a36_ad0 : a36 ≠ ad0 := own_lenNe Fv36 V36 F_value_ad0_at_39 V_bv_at_39 (by decide)
  have E_ad0_at_39 : Exa Z h36 ad0 "java/lang/String" := ((E_ad0_at_3.ext E32).ext E36)
  have F_coder_ad0_at_39 : Fld Z h36 ad0 "java/lang/String" "coder" "B" (.int (0 : Int32)) := ((F_coder_ad0_at_3.ext E32).ext E36)
  have S_COMPACT_STRINGS_at_39 : Sta Z h36 "java/lang/String" "COMPACT_STRINGS" "Z" (.int cz) := ((S_COMPACT_STRINGS_at_3.ext E32).ext E36)
  obtain ⟨cq39, kq39, qa39, qb39, qc39⟩ := isOf hZ e36 A36
  obtain ⟨_, _, ⟨T39, L39, k39, n39⟩, -, X39, ⟨Lc39, hQ39, l39, y39, z39⟩, st39⟩ := X36.virtualBack hx (y := (⟨"java/lang/String", "equals", "(Ljava/lang/Object;)Z"⟩ : MethodName)) (z := (⟨"java/lang/String", "equals", "(Ljava/lang/Object;)Z"⟩ : MethodName)) hown (mvT hZ (hw _ (List.mem_of_getElem? (i := 41) rfl))) (mvT hZ (hw _ (List.mem_of_getElem? (i := 34) rfl))) (notFace_of_selects (args := #[]) (mvT hZ (hw _ (List.mem_of_getElem? (i := 36) rfl)))) (mvT hZ (hw _ (List.mem_of_getElem? (i := 36) rfl))) (mvT hZ (hw _ (List.mem_of_getElem? (i := 35) rfl))) (by decide) (backOf (W := 2) (rmEF9 l Z a0 hw [] a36 ad0 own_lit1 (own_lit0) b36 bv cz h36 n0 Z_36 A36 Fc36 Fv36 V36 E_ad0_at_39 F_coder_ad0_at_39 F_value_ad0_at_39 V_bv_at_39 S_COMPACT_STRINGS_at_39 hcz ne_a36_ad0) hZ (hw _ (List.mem_of_getElem? (i := 37) rfl)) (hw _ (List.mem_of_getElem? (i := 25) rfl)) (by decide) (by decide)) qa39 qc39 (g := (mkF m 39 #[.val (.ref ad0), .val (.int p1)] [(.ref ad0), (.ref a36), (.ref b32), (.ref b32)])) rfl (by rw [hml]; rfl) (Steps.refl _) (argsL := [(.ref ad0)]) (rest := [(.ref b32), (.ref b32)]) (lenOf own_pd2 rfl) rfl (by show 2 * 0 + _ ≤ _; exact Nat.le_of_eq rfl) (hb hby d6_39) (fun _ _ => ⟨rfl, e36, (by decide : 5 + 0 ≤ _), (by decide : 74 + 0 ≤ _)⟩)
  dsimp only [Pt.U, Pt.locs, Pt.cells, Pt.slots] at X39 l39 y39 z39 st39 hQ39
  subst l39 y39 z39
  obtain ⟨rfl, N39q, e39⟩ := hQ39
  obtain ⟨lo39, X39, N39⟩ : ∃ lo, Stand p l e _ (s.setVm T36.vm) m _ below meth c T39 lo _ _ ∧ Fr n0 lo := ⟨_, X39, Fr.app N3 N39q⟩
  refine own_via st39 ?_
  show own_Fin p e below G (T39.setTop (mkF m 42 #[.val (.ref ad0), .val (.int p1)] [(.int (0 : Int32)), (.ref b32), (.ref b32)]))
  refine own_to (fun _ kz => XS.iloadN X39.here hx rfl (hb hby d6_42) rfl  kz) ?_
  show own_Fin p e below G (T39.setTop (mkF m 43 #[.val (.ref ad0), .val (.int p1)] [(.int p1), (.int (0 : Int32)), (.ref b32), (.ref b32)]))
  have A32_at_43 : Exa Z h36 b32 "com/example/tabularium/tabularium/model/Delivery" := (A32.ext E36)
  have F_delivered_b32_at_43 : Fld Z h36 b32 "com/example/tabularium/tabularium/model/Delivery" "delivered" "Z" (.int (0 : Int32)) := (F_delivered_b32.ext E36)
  have F_at_43 : Fld Z h36 b32 "com/example/tabularium/tabularium/model/Delivery" "attempts" "I" (.int (0 : Int32)) := (F_attempts_b32.ext E36)
  have sf_b32_43 : Safe Z consts_1 T36.vm h36 b32 := Safe.exa hZ.alike A32_at_43 (by decide) (by decide)
  obtain ⟨_, _, ⟨T43, L43, k43, n43⟩, -, X43, ⟨Lc43, hQ43, l43, y43, z43⟩, st43⟩ := X39.specialBack hx (y := (⟨"com/example/tabularium/tabularium/model/Delivery", "<init>", "(ZI)V"⟩ : MethodName)) rfl hown (mvT hZ (hw _ (List.mem_of_getElem? (i := 53) rfl))) (mvT hZ (hw _ (List.mem_of_getElem? (i := 5) rfl))) (mvT hZ (hw _ (List.mem_of_getElem? (i := 6) rfl))) (by decide) (backOf (W := 1) (rmi0 l Z a0 hw [] b32 p1 h36 n0 Z_36 A32_at_43 F_delivered_b32_at_43 F_at_43 g_b32 hge) hZ (hw _ (List.mem_of_getElem? (i := 6) rfl)) (hw _ (List.mem_of_getElem? (i := 3) rfl)) (by decide) (by decide)) (g := (mkF m 43 #[.val (.ref ad0), .val (.int p1)] [(.int p1), (.int (0 : Int32)), (.ref b32), (.ref b32)])) rfl (by rw [hml]; rfl) (Steps.refl _) (a := b32) (argsL := [(.int (0 : Int32)), (.int p1)]) (rest := [(.ref b32)]) (lenOf own_pd3 rfl) rfl (by show 2 * 0 + _ ≤ _; exact Nat.le_of_eq rfl) (hb hby d6_43) (fun _ _ => ⟨rfl, e39, (by decide : 5 + 0 ≤ _), (by decide : 74 + 0 ≤ _)⟩)
  dsimp only [Pt.U, Pt.locs, Pt.cells, Pt.slots] at X43 l43 y43 z43 st43 hQ43
  subst l43 y43 z43
  obtain ⟨rfl, N43q, Kp43, P43_0, P43_1, P43_2⟩ := hQ43
  have hC_43_Kp43 := CHr.trans hC36 (CHr.keep Kp43 (allS sf_b32_43 all0) hC36.1)
  obtain ⟨lo43, X43, N43⟩ : ∃ lo, Stand p l e _ (s.setVm T36.vm) m _ below meth c T43 lo _ _ ∧ Fr n0 lo := ⟨_, X43, Fr.app N39 N43q⟩
  refine own_via st43 ?_
  show own_Fin p e below G (T43.setTop (mkF m 46 #[.val (.ref ad0), .val (.int p1)] [(.ref b32)]))
  have KP_46 : Keep h0 T43.heap [] := (((KP_32.ext E32).ext E36).trans Kp43 (allS (Or.inr sz_b32) all0))
  have hk_46_Kp43 := Nat.le_trans hk36 Kp43.1
  exact own_retHA (vm₁ := T36.vm) X43 hx hS36 hk_46_Kp43 hC_43_Kp43 hZ hEL rfl hlk hG Bd.returns rfl rfl (hb hby d6_46) (by decide) (by decide) ⟨b32, rfl, N43, sz_b32, KP_46, P43_0, P43_1, P43_2⟩
theorem own_max1 (a : Int32) : ¬ (f10 (1 : Int32) a) < (1 : Int32) := by
  unfold f10
  by_cases h : (1 : Int32) < a
  · rw [if_pos h, Int32.lt_iff_toInt_lt]; rw [Int32.lt_iff_toInt_lt] at h; omega
  · rw [if_neg h]; decide
theorem own_and0 (a : Int32) : ¬ (a &&& (2147483647 : Int32)) < (0 : Int32) := own_nneg (c_and a 2147483647 (by decide)).1
theorem own_pd4 : parseMethodDescriptor "()Ljava/lang/String;" = some ⟨[], some (.object "java/lang/String")⟩ := by decide +kernel
theorem own_pd5 : parseMethodDescriptor "(Ljava/lang/String;I)Lcom/example/tabularium/tabularium/model/Delivery;" = some ⟨[(.object "java/lang/String"), .int], some (.object "com/example/tabularium/tabularium/model/Delivery")⟩ := by decide +kernel
theorem own_pd6 : parseMethodDescriptor "()Z" = some ⟨[], some .boolean⟩ := by decide +kernel
theorem own_pd7 : parseMethodDescriptor "()I" = some ⟨[], some .int⟩ := by decide +kernel
theorem own_pd8 : parseMethodDescriptor "(II)I" = some ⟨[.int, .int], some .int⟩ := by decide +kernel
theorem own_pn4 : plainName "com/example/tabularium/tabularium/model/DeliveryTextPinLaw" = true := by first | (simp [plainName, overriddenIn]; done) | decide +kernel
theorem ef0 (m : MethodId) (p0 : Int32) (p1 : Int32) : entryFrame m #[(.int p0), (.int p1)] maxLocals = mkF m 0 #[.val (.int p0), .val (.int p1), .unset, .unset, .unset, .unset, .unset, .unset] [] := by first | (simp [entryFrame, mkF, argsToLocals, Value.category, maxLocals]; done) | rfl
def Q0 (Z : State) (p0 : Int32) (p1 : Int32) (cz : Int32) (h0 : Heap) (n0 : Nat) (v : Option Value) (h : Heap) (L : List Loc) : Prop := v = some (.int 1) ∧ Fr n0 L ∧ True
set_option maxRecDepth 65536 in
set_option maxHeartbeats 40000000 in
theorem rm0 (l : Launch) (Z : State) (a0 : Array Value) (hw : ∀ d ∈ tables_1, d.before a0 Z = true) (ws : List Jvm.Cond) (p0 : Int32) (p1 : Int32) (cz : Int32) (h0 : Heap) (n0 : Nat) (Z0 : n0 ≤ h0.size) (S_COMPACT_STRINGS : Sta Z h0 "java/lang/String" "COMPACT_STRINGS" "Z" (.int cz)) (hcz : ¬ cz = (0 : Int32)) :
    MetFree l x (head1 (Jvm.Cond.code x code maxLocals ret :: ws) room_1) (fun a U => a = #[(.int p0), (.int p1)] ∧ Z.Warmed39 U.vm ∧ U.heap = h0 ∧ CHv Z consts_1 U.vm h0) (fun _ _ _ _ _ => True) (fun _ U o U' => ∃ v L, o = .returned v ∧ Q0 Z p0 p1 cz h0 n0 v U'.heap L ∧ CHr Z consts_1 U.vm U.heap U'.vm U'.heap ∧ ReturnedEndW U o U' L room_1.cells room_1.slots) := by
  refine MetFree.of_bodySF (plainFor_of_name own_pn4) hisR ?_
  intro p e s m args below meth c s₁ Bd hml0 hP hK
  obtain ⟨rfl, hZ, hh, hCH⟩ := hP
  have hx := Bd.exec
  have hby := Bd.bytes
  have hml : c.maxLocals = 8 := hml0
  have hown : s.vm.findClass "com/example/tabularium/tabularium/model/DeliveryTextPinLaw" = some m.cls := findClass_of_methodNamed Bd.named
  have hnm := (name_of_methodNamed Bd.named Bd.method).1
  have hlk : meth.locks = false := BodyLoose.notSynchronized Bd
  have X0 : Stand p l e room_1 (s.setVm s.vm) m #[(.int p0), (.int p1)] below meth c s₁ [] 0 0 := Stand.of_body Bd
  have e0 : s₁.heap = h0 := by rw [← hh, Bd.state]; rfl
  have N0 := Fr.nil n0
  have hEL : EW Z a0 consts_1 := own_EW hw
  have hS0 : s.Since s.vm s.heap.size := State.WarmedH.since (State.WarmedH.refl s) _
  have hk0 : s.heap.size ≤ h0.size := Nat.le_of_eq (congrArg Array.size hh)
  have hC0 : CHr Z consts_1 s.vm s.heap s.vm h0 := by rw [hh]; exact CHr.refl hCH
  obtain ⟨G, hG⟩ : ∃ G, G = own_GH Z consts_1 s (Q0 Z p0 p1 cz h0 n0) room_1.cells room_1.slots := ⟨_, rfl⟩
  show own_Fin p e below (own_GH Z consts_1 s (Q0 Z p0 p1 cz h0 n0) room_1.cells room_1.slots) (s₁.setTop (entryFrame m #[(.int p0), (.int p1)] maxLocals))
  rw [← hG]
  refine own_to (fun _ kz => castTop (ef0 m p0 p1) kz) ?_
  show own_Fin p e below G (s₁.setTop (mkF m 0 #[.val (.int p0), .val (.int p1), .unset, .unset, .unset, .unset, .unset, .unset] []))
  refine own_to (fun _ kz => XS.iloadN X0.here hx rfl (hb hby at_0) rfl  kz) ?_
  show own_Fin p e below G (s₁.setTop (mkF m 1 #[.val (.int p0), .val (.int p1), .unset, .unset, .unset, .unset, .unset, .unset] [(.int p0)]))
  refine own_to (fun _ kz => XS.iconst X0.here hx rfl (hb hby at_1) kz) ?_
  show own_Fin p e below G (s₁.setTop (mkF m 2 #[.val (.int p0), .val (.int p1), .unset, .unset, .unset, .unset, .unset, .unset] [(.int (1 : Int32)), (.int p0)]))
  refine own_to (fun _ kz => XS.iand X0.here hx rfl (hb hby at_2) rfl kz) ?_
  show own_Fin p e below G (s₁.setTop (mkF m 3 #[.val (.int p0), .val (.int p1), .unset, .unset, .unset, .unset, .unset, .unset] [(.int (p0 &&& (1 : Int32)))]))
  by_cases hc3 : (p0 &&& (1 : Int32)) = (0 : Int32)
  · refine own_to (fun _ kz => XS.ifYes X0.here hx rfl (pc0 := 3) (pc' := 10) rfl (hb hby at_3) rfl ((if0 _ _).trans (teq hc3).1) (by decide) (by decide) kz) ?_
    show own_Fin p e below G (s₁.setTop (mkF m 10 #[.val (.int p0), .val (.int p1), .unset, .unset, .unset, .unset, .unset, .unset] []))
    refine own_to (fun _ kz => XS.iconst X0.here hx rfl (hb hby at_10) kz) ?_
    show own_Fin p e below G (s₁.setTop (mkF m 11 #[.val (.int p0), .val (.int p1), .unset, .unset, .unset, .unset, .unset, .unset] [(.int (0 : Int32))]))
    refine own_to (fun _ kz => XS.istoreN X0.here hx rfl (hb hby at_11) rfl (l' := #[.val (.int p0), .val (.int p1), .val (.int (0 : Int32)), .unset, .unset, .unset, .unset, .unset]) rfl kz) ?_
    show own_Fin p e below G (s₁.setTop (mkF m 12 #[.val (.int p0), .val (.int p1), .val (.int (0 : Int32)), .unset, .unset, .unset, .unset, .unset] []))
    refine own_to (fun _ kz => XS.iloadN X0.here hx rfl (hb hby at_12) rfl  kz) ?_
    show own_Fin p e below G (s₁.setTop (mkF m 13 #[.val (.int p0), .val (.int p1), .val (.int (0 : Int32)), .unset, .unset, .unset, .unset, .unset] [(.int p1)]))
    refine own_to (fun _ kz => X0.ldcInt hx hown (mvT hZ (hw _ (List.mem_of_getElem? (i := 0) rfl))) (g := (mkF m 13 #[.val (.int p0), .val (.int p1), .val (.int (0 : Int32)), .unset, .unset, .unset, .unset, .unset] [(.int p1)])) rfl (hb hby at_13) _ kz) ?_
    show own_Fin p e below G (s₁.setTop (mkF m 15 #[.val (.int p0), .val (.int p1), .val (.int (0 : Int32)), .unset, .unset, .unset, .unset, .unset] [(.int (2147483647 : Int32)), (.int p1)]))
    refine own_to (fun _ kz => XS.iand X0.here hx rfl (hb hby at_15) rfl kz) ?_
    show own_Fin p e below G (s₁.setTop (mkF m 16 #[.val (.int p0), .val (.int p1), .val (.int (0 : Int32)), .unset, .unset, .unset, .unset, .unset] [(.int (p1 &&& (2147483647 : Int32)))]))
    refine own_to (fun _ kz => XS.istoreN X0.here hx rfl (hb hby at_16) rfl (l' := #[.val (.int p0), .val (.int p1), .val (.int (0 : Int32)), .val (.int (p1 &&& (2147483647 : Int32))), .unset, .unset, .unset, .unset]) rfl kz) ?_
    show own_Fin p e below G (s₁.setTop (mkF m 17 #[.val (.int p0), .val (.int p1), .val (.int (0 : Int32)), .val (.int (p1 &&& (2147483647 : Int32))), .unset, .unset, .unset, .unset] []))
    refine own_to (fun _ kz => XS.iloadN X0.here hx rfl (hb hby at_17) rfl  kz) ?_
    show own_Fin p e below G (s₁.setTop (mkF m 18 #[.val (.int p0), .val (.int p1), .val (.int (0 : Int32)), .val (.int (p1 &&& (2147483647 : Int32))), .unset, .unset, .unset, .unset] [(.int (0 : Int32))]))
    have hc18 : (0 : Int32) = (0 : Int32) := by decide
    refine own_to (fun _ kz => XS.ifYes X0.here hx rfl (pc0 := 18) (pc' := 27) rfl (hb hby at_18) rfl ((if0 _ _).trans (teq hc18).1) (by decide) (by decide) kz) ?_
    show own_Fin p e below G (s₁.setTop (mkF m 27 #[.val (.int p0), .val (.int p1), .val (.int (0 : Int32)), .val (.int (p1 &&& (2147483647 : Int32))), .unset, .unset, .unset, .unset] []))
    obtain ⟨T27, h27, X27, e27, E27, A27, D27, -, st27⟩ := newO X0 hx hZ hown (hw _ (List.mem_of_getElem? (i := 1) rfl)) (hw _ (List.mem_of_getElem? (i := 2) rfl)) (hw _ (List.mem_of_getElem? (i := 3) rfl)) e0 (g := (mkF m 27 #[.val (.int p0), .val (.int p1), .val (.int (0 : Int32)), .val (.int (p1 &&& (2147483647 : Int32))), .unset, .unset, .unset, .unset] [])) rfl (hb hby at_27) (by decide) (by decide)
    obtain ⟨b27, g27⟩ : ∃ z, z = h0.size := ⟨_, rfl⟩
    rw [← g27] at A27 D27 st27
    refine own_to st27 ?_
    have g_b27 : n0 ≤ b27 := Nat.le_trans Z0 (Nat.le_of_eq g27.symm)
    have F_delivered_b27 : Fld Z h27 b27 "com/example/tabularium/tabularium/model/Delivery" "delivered" "Z" (.int (0 : Int32)) := D27 (Or.inr (hw _ (List.mem_of_getElem? (i := 16) rfl))) (ty := .boolean) (by decide)
    have F_attempts_b27 : Fld Z h27 b27 "com/example/tabularium/tabularium/model/Delivery" "attempts" "I" (.int (0 : Int32)) := D27 (Or.inr (hw _ (List.mem_of_getElem? (i := 18) rfl))) (ty := .int) (by decide)
    show own_Fin p e below G (T27.setTop (mkF m 30 #[.val (.int p0), .val (.int p1), .val (.int (0 : Int32)), .val (.int (p1 &&& (2147483647 : Int32))), .unset, .unset, .unset, .unset] [(.ref b27)]))
    refine own_to (fun _ kz => XS.dup X27.here hx rfl (hb hby at_30) rfl rfl kz) ?_
    show own_Fin p e below G (T27.setTop (mkF m 31 #[.val (.int p0), .val (.int p1), .val (.int (0 : Int32)), .val (.int (p1 &&& (2147483647 : Int32))), .unset, .unset, .unset, .unset] [(.ref b27), (.ref b27)]))
    refine own_to (fun _ kz => XS.iloadN X27.here hx rfl (hb hby at_31) rfl  kz) ?_
    show own_Fin p e below G (T27.setTop (mkF m 32 #[.val (.int p0), .val (.int p1), .val (.int (0 : Int32)), .val (.int (p1 &&& (2147483647 : Int32))), .unset, .unset, .unset, .unset] [(.int (0 : Int32)), (.ref b27), (.ref b27)]))
    refine own_to (fun _ kz => XS.iloadN X27.here hx rfl (hb hby at_32) rfl  kz) ?_
    show own_Fin p e below G (T27.setTop (mkF m 33 #[.val (.int p0), .val (.int p1), .val (.int (0 : Int32)), .val (.int (p1 &&& (2147483647 : Int32))), .unset, .unset, .unset, .unset] [(.int (p1 &&& (2147483647 : Int32))), (.int (0 : Int32)), (.ref b27), (.ref b27)]))
    have hC_33_E27 := CHr.trans hC0 (CHr.ext E27 hC0.1)
    have sf_b27_33 : Safe Z consts_1 s.vm h27 b27 := Safe.exa hZ.alike A27 (by decide) (by decide)
    have Zz_33_E27 := Nat.le_trans Z0 E27.1
    have Z_33 : n0 ≤ h27.size := Zz_33_E27
    obtain ⟨_, _, ⟨T33, L33, k33, n33⟩, -, X33, ⟨Lc33, hQ33, l33, y33, z33⟩, st33⟩ := X27.specialBack hx (y := (⟨"com/example/tabularium/tabularium/model/Delivery", "<init>", "(ZI)V"⟩ : MethodName)) rfl hown (mvT hZ (hw _ (List.mem_of_getElem? (i := 4) rfl))) (mvT hZ (hw _ (List.mem_of_getElem? (i := 5) rfl))) (mvT hZ (hw _ (List.mem_of_getElem? (i := 6) rfl))) (by decide) (backOf (W := 1) (rmi0 l Z a0 hw [] b27 (p1 &&& (2147483647 : Int32)) h27 n0 Z_33 A27 F_delivered_b27 F_attempts_b27 g_b27 (own_and0 _)) hZ (hw _ (List.mem_of_getElem? (i := 6) rfl)) (hw _ (List.mem_of_getElem? (i := 3) rfl)) (by decide) (by decide)) (g := (mkF m 33 #[.val (.int p0), .val (.int p1), .val (.int (0 : Int32)), .val (.int (p1 &&& (2147483647 : Int32))), .unset, .unset, .unset, .unset] [(.int (p1 &&& (2147483647 : Int32))), (.int (0 : Int32)), (.ref b27), (.ref b27)])) rfl (by rw [hml]; rfl) (Steps.refl _) (a := b27) (argsL := [(.int (0 : Int32)), (.int (p1 &&& (2147483647 : Int32)))]) (rest := [(.ref b27)]) (lenOf own_pd3 rfl) rfl (by show 2 * 0 + _ ≤ _; exact Nat.le_of_eq rfl) (hb hby at_33) (fun _ _ => ⟨rfl, e27, (by decide : 1 + 0 ≤ _), (by decide : 2 + 0 ≤ _)⟩)
    dsimp only [Pt.U, Pt.locs, Pt.cells, Pt.slots] at X33 l33 y33 z33 st33 hQ33
    subst l33 y33 z33
    obtain ⟨rfl, N33q, Kp33, P33_0, P33_1, P33_2⟩ := hQ33
    have hC_33_Kp33 := CHr.trans hC_33_E27 (CHr.keep Kp33 (allS sf_b27_33 all0) hC_33_E27.1)
    obtain ⟨lo33, X33, N33⟩ : ∃ lo, Stand p l e _ (s.setVm s.vm) m _ below meth c T33 lo _ _ ∧ Fr n0 lo := ⟨_, X33, Fr.app N0 N33q⟩
    refine own_via st33 ?_
    show own_Fin p e below G (T33.setTop (mkF m 36 #[.val (.int p0), .val (.int p1), .val (.int (0 : Int32)), .val (.int (p1 &&& (2147483647 : Int32))), .unset, .unset, .unset, .unset] [(.ref b27)]))
    refine own_to (fun _ kz => XS.astore X33.here hx rfl (hb hby at_36) rfl (rfl) (l' := #[.val (.int p0), .val (.int p1), .val (.int (0 : Int32)), .val (.int (p1 &&& (2147483647 : Int32))), .val (.ref b27), .unset, .unset, .unset]) rfl kz) ?_
    show own_Fin p e below G (T33.setTop (mkF m 38 #[.val (.int p0), .val (.int p1), .val (.int (0 : Int32)), .val (.int (p1 &&& (2147483647 : Int32))), .val (.ref b27), .unset, .unset, .unset] []))
    refine own_to (fun _ kz => XS.aload X33.here hx rfl (hb hby at_38) rfl (rfl)  kz) ?_
    show own_Fin p e below G (T33.setTop (mkF m 40 #[.val (.int p0), .val (.int p1), .val (.int (0 : Int32)), .val (.int (p1 &&& (2147483647 : Int32))), .val (.ref b27), .unset, .unset, .unset] [(.ref b27)]))
    have Zz_40_Kp33 := Nat.le_trans Z_33 Kp33.1
    have Z_40 : n0 ≤ T33.heap.size := Zz_40_Kp33
    have hk_40_E27 := Nat.le_trans hk0 E27.1
    have hk_40_Kp33 := Nat.le_trans hk_40_E27 Kp33.1
    obtain ⟨cq40, kq40, qa40, qb40, qc40⟩ := isOf hZ rfl P33_0
    obtain ⟨_, _, ⟨T40, L40, k40, n40⟩, -, X40, hT40, hgr40, ⟨Lc40, hQ40, l40, y40, z40, hq40⟩, st40⟩ := X33.virtualBackS hx (y := (⟨"com/example/tabularium/tabularium/model/Delivery", "text", "()Ljava/lang/String;"⟩ : MethodName)) (z := (⟨"com/example/tabularium/tabularium/model/Delivery", "text", "()Ljava/lang/String;"⟩ : MethodName)) hown (mvT hZ (hw _ (List.mem_of_getElem? (i := 19) rfl))) (mvT hZ (hw _ (List.mem_of_getElem? (i := 20) rfl))) (notFace_of_selects (args := #[]) (mvT hZ (hw _ (List.mem_of_getElem? (i := 22) rfl)))) (mvT hZ (hw _ (List.mem_of_getElem? (i := 22) rfl))) (mvT hZ (hw _ (List.mem_of_getElem? (i := 21) rfl))) (by decide) (backOfSH (W := 0) (rmt0 l Z a0 hw [] b27 T33.heap n0 Z_40 P33_0 P33_1) hZ (hw _ (List.mem_of_getElem? (i := 23) rfl)) (hw _ (List.mem_of_getElem? (i := 3) rfl)) (by decide) (by decide) hEL hC_33_Kp33.1) qa40 qc40 (g := (mkF m 40 #[.val (.int p0), .val (.int p1), .val (.int (0 : Int32)), .val (.int (p1 &&& (2147483647 : Int32))), .val (.ref b27), .unset, .unset, .unset] [(.ref b27)])) rfl (by rw [hml]; rfl) (Steps.refl _) (argsL := []) (rest := []) (lenOf own_pd4 rfl) rfl (by show 2 * 0 + _ ≤ _; exact Nat.le_of_eq rfl) (hb hby at_40) (fun _ _ => ⟨rfl, rfl, (by decide : 1 + 2 ≤ _), (by decide : 2 + 32 ≤ _)⟩)
    dsimp only [Pt.U, Pt.locs, Pt.cells, Pt.slots] at X40 l40 y40 z40 st40 hQ40 hT40 hgr40 hq40
    subst l40 y40 z40
    have hS40 := State.Since.trans hS0 hT40 (Nat.le_trans hk_40_Kp33 (Nat.le_trans (Nat.le_of_eq (congrArg Array.size (Eq.symm rfl))) hgr40))
    have hZ : Z.Warmed39 (s.setVm T40.vm).vm := State.Warmed39.trans (t := s.setVm s.vm) hZ hT40.1
    have hown : (s.setVm T40.vm).vm.findClass "com/example/tabularium/tabularium/model/DeliveryTextPinLaw" = some m.cls := by rw [show (s.setVm T40.vm).vm = T40.vm from rfl, hT40.1.alike.findClass]; exact hown
    have hC40 := CHr.trans hC_33_Kp33 hq40
    obtain ⟨at40, bt40, rfl, N40q, Kp40, PE40, PC40, PV40, PA40⟩ := hQ40
    obtain ⟨lo40, X40, N40⟩ : ∃ lo, Stand p l e _ (s.setVm T40.vm) m _ below meth c T40 lo _ _ ∧ Fr n0 lo := ⟨_, X40, Fr.app N33 N40q⟩
    refine own_via st40 ?_
    show own_Fin p e below G (T40.setTop (mkF m 43 #[.val (.int p0), .val (.int p1), .val (.int (0 : Int32)), .val (.int (p1 &&& (2147483647 : Int32))), .val (.ref b27), .unset, .unset, .unset] [(.ref at40)]))
    refine own_to (fun _ kz => XS.astore X40.here hx rfl (hb hby at_43) rfl (rfl) (l' := #[.val (.int p0), .val (.int p1), .val (.int (0 : Int32)), .val (.int (p1 &&& (2147483647 : Int32))), .val (.ref b27), .val (.ref at40), .unset, .unset]) rfl kz) ?_
    show own_Fin p e below G (T40.setTop (mkF m 45 #[.val (.int p0), .val (.int p1), .val (.int (0 : Int32)), .val (.int (p1 &&& (2147483647 : Int32))), .val (.ref b27), .val (.ref at40), .unset, .unset] []))
    refine own_to (fun _ kz => XS.iloadN X40.here hx rfl (hb hby at_45) rfl  kz) ?_
    show own_Fin p e below G (T40.setTop (mkF m 46 #[.val (.int p0), .val (.int p1), .val (.int (0 : Int32)), .val (.int (p1 &&& (2147483647 : Int32))), .val (.ref b27), .val (.ref at40), .unset, .unset] [(.int (0 : Int32))]))
    have hc46 : (0 : Int32) = (0 : Int32) := by decide
    refine own_to (fun _ kz => XS.ifYes X40.here hx rfl (pc0 := 46) (pc' := 54) rfl (hb hby at_46) rfl ((if0 _ _).trans (teq hc46).1) (by decide) (by decide) kz) ?_
    show own_Fin p e below G (T40.setTop (mkF m 54 #[.val (.int p0), .val (.int p1), .val (.int (0 : Int32)), .val (.int (p1 &&& (2147483647 : Int32))), .val (.ref b27), .val (.ref at40), .unset, .unset] []))
    obtain ⟨a54, T54, h54, k154, b54, kc54, X54, e54, E54, hS54, hk54, hZ, hown, A54, Fc54, Fv54, Ar54, -, -, hq54, -, -, st54⟩ := ldcCH (vm0 := T40.vm) X40 hx hZ hown (hw _ (List.mem_of_getElem? (i := 32) rfl)) (own_wS hw) rfl hS40 (Nat.le_refl _) hEL (List.mem_of_getElem? (i := 3) rfl) hC40.1 (z := (7 : Int32)) (own_txt0) (by decide) rfl (g := (mkF m 54 #[.val (.int p0), .val (.int p1), .val (.int (0 : Int32)), .val (.int (p1 &&& (2147483647 : Int32))), .val (.ref b27), .val (.ref at40), .unset, .unset] [])) rfl (hb hby at_54) (n := 28) (by decide) (by decide) (by decide) (by decide)
    refine own_to st54 ?_
    have hC54 := CHr.trans hC40 hq54
    have V54 : own_AV Value.int Z h54 b54 .byte 7 own_lit0 := own_AVarv Ar54 rfl (by decide) (own_lf0)
    have Zz_54_Kp40 := Nat.le_trans Z_40 Kp40.1
    have Zz_54_E54 := Nat.le_trans Zz_54_Kp40 E54.1
    have Z_54 : n0 ≤ h54.size := Zz_54_E54
    show own_Fin p e below G (T54.setTop (mkF m 56 #[.val (.int p0), .val (.int p1), .val (.int (0 : Int32)), .val (.int (p1 &&& (2147483647 : Int32))), .val (.ref b27), .val (.ref at40), .unset, .unset] [(.ref a54)]))
    refine own_to (fun _ kz => XS.astore X54.here hx rfl (hb hby at_56) rfl (rfl) (l' := #[.val (.int p0), .val (.int p1), .val (.int (0 : Int32)), .val (.int (p1 &&& (2147483647 : Int32))), .val (.ref b27), .val (.ref at40), .val (.ref a54), .unset]) rfl kz) ?_
    show own_Fin p e below G (T54.setTop (mkF m 58 #[.val (.int p0), .val (.int p1), .val (.int (0 : Int32)), .val (.int (p1 &&& (2147483647 : Int32))), .val (.ref b27), .val (.ref at40), .val (.ref a54), .unset] []))
    refine own_to (fun _ kz => XS.aload X54.here hx rfl (hb hby at_58) rfl (rfl)  kz) ?_
    show own_Fin p e below G (T54.setTop (mkF m 60 #[.val (.int p0), .val (.int p1), .val (.int (0 : Int32)), .val (.int (p1 &&& (2147483647 : Int32))), .val (.ref b27), .val (.ref at40), .val (.ref a54), .unset] [(.ref a54)]))
    refine own_to (fun _ kz => XS.aload X54.here hx rfl (hb hby at_60) rfl (rfl)  kz) ?_
    show own_Fin p e below G (T54.setTop (mkF m 62 #[.val (.int p0), .val (.int p1), .val (.int (0 : Int32)), .val (.int (p1 &&& (2147483647 : Int32))), .val (.ref b27), .val (.ref at40), .val (.ref a54), .unset] [(.ref at40), (.ref a54)]))
    have PE40_at_62 : Exa Z h54 at40 "java/lang/String" := (PE40.ext E54)
    have PC40_at_62 : Fld Z h54 at40 "java/lang/String" "coder" "B" (.int (0 : Int32)) := (PC40.ext E54)
    have PV40_at_62 : Fld Z h54 at40 "java/lang/String" "value" "[B" (.ref bt40) := (PV40.ext E54)
    have PA40_at_62 : own_AV Value.int Z h54 bt40 .byte 7 (own_lit0) := (PA40.ext E54)
    have S_COMPACT_STRINGS_at_62 : Sta Z h54 "java/lang/String" "COMPACT_STRINGS" "Z" (.int cz) := ((own_staKeep (own_staKeep (S_COMPACT_STRINGS.ext E27) Kp33 (allS (Exa.cell A27) all0)) Kp40 all0).ext E54)
    obtain ⟨cq62, kq62, qa62, qb62, qc62⟩ := isOf hZ e54 A54
    obtain ⟨_, _, ⟨T62, L62, k62, n62⟩, -, X62, ⟨Lc62, hQ62, l62, y62, z62⟩, st62⟩ := X54.virtualBack hx (y := (⟨"java/lang/String", "equals", "(Ljava/lang/Object;)Z"⟩ : MethodName)) (z := (⟨"java/lang/String", "equals", "(Ljava/lang/Object;)Z"⟩ : MethodName)) hown (mvT hZ (hw _ (List.mem_of_getElem? (i := 33) rfl))) (mvT hZ (hw _ (List.mem_of_getElem? (i := 34) rfl))) (notFace_of_selects (args := #[]) (mvT hZ (hw _ (List.mem_of_getElem? (i := 36) rfl)))) (mvT hZ (hw _ (List.mem_of_getElem? (i := 36) rfl))) (mvT hZ (hw _ (List.mem_of_getElem? (i := 35) rfl))) (by decide) (backOf (W := 0) (rmET l Z a0 hw [] a54 at40 7 (own_lit0) b54 bt40 cz h54 n0 Z_54 A54 Fc54 Fv54 V54 PE40_at_62 PC40_at_62 PV40_at_62 PA40_at_62 S_COMPACT_STRINGS_at_62 hcz) hZ (hw _ (List.mem_of_getElem? (i := 37) rfl)) (hw _ (List.mem_of_getElem? (i := 25) rfl)) (by decide) (by decide)) qa62 qc62 (g := (mkF m 62 #[.val (.int p0), .val (.int p1), .val (.int (0 : Int32)), .val (.int (p1 &&& (2147483647 : Int32))), .val (.ref b27), .val (.ref at40), .val (.ref a54), .unset] [(.ref at40), (.ref a54)])) rfl (by rw [hml]; rfl) (Steps.refl _) (argsL := [(.ref at40)]) (rest := []) (lenOf own_pd2 rfl) rfl (by show 2 * 0 + _ ≤ _; exact Nat.le_of_eq rfl) (hb hby at_62) (fun _ _ => ⟨rfl, e54, (by decide : 5 + 0 ≤ _), (by decide : 66 + 0 ≤ _)⟩)
    dsimp only [Pt.U, Pt.locs, Pt.cells, Pt.slots] at X62 l62 y62 z62 st62 hQ62
    subst l62 y62 z62
    obtain ⟨rfl, N62q, e62⟩ := hQ62
    obtain ⟨lo62, X62, N62⟩ : ∃ lo, Stand p l e _ (s.setVm T54.vm) m _ below meth c T62 lo _ _ ∧ Fr n0 lo := ⟨_, X62, Fr.app N40 N62q⟩
    refine own_via st62 ?_
    show own_Fin p e below G (T62.setTop (mkF m 65 #[.val (.int p0), .val (.int p1), .val (.int (0 : Int32)), .val (.int (p1 &&& (2147483647 : Int32))), .val (.ref b27), .val (.ref at40), .val (.ref a54), .unset] [(.int (1 : Int32))]))
    have hc65 : ¬ ((1 : Int32) = (0 : Int32)) := by decide
    refine own_to (fun _ kz => XS.ifYes X62.here hx rfl (pc0 := 65) (pc' := 70) rfl (hb hby at_65) rfl ((if0 _ _).trans (feq hc65).2) (by decide) (by decide) kz) ?_
    show own_Fin p e below G (T62.setTop (mkF m 70 #[.val (.int p0), .val (.int p1), .val (.int (0 : Int32)), .val (.int (p1 &&& (2147483647 : Int32))), .val (.ref b27), .val (.ref at40), .val (.ref a54), .unset] []))
    refine own_to (fun _ kz => XS.aload X62.here hx rfl (hb hby at_70) rfl (rfl)  kz) ?_
    show own_Fin p e below G (T62.setTop (mkF m 72 #[.val (.int p0), .val (.int p1), .val (.int (0 : Int32)), .val (.int (p1 &&& (2147483647 : Int32))), .val (.ref b27), .val (.ref at40), .val (.ref a54), .unset] [(.ref at40)]))
    refine own_to (fun _ kz => XS.iloadN X62.here hx rfl (hb hby at_72) rfl  kz) ?_
    show own_Fin p e below G (T62.setTop (mkF m 73 #[.val (.int p0), .val (.int p1), .val (.int (0 : Int32)), .val (.int (p1 &&& (2147483647 : Int32))), .val (.ref b27), .val (.ref at40), .val (.ref a54), .unset] [(.int (p1 &&& (2147483647 : Int32))), (.ref at40)]))
    obtain ⟨_, _, ⟨T73, L73, k73, n73⟩, -, X73, hT73, hgr73, ⟨Lc73, hQ73, l73, y73, z73, hq73⟩, st73⟩ := own_callSS X62 hx (y := (⟨"com/example/tabularium/tabularium/model/Delivery", "fromText", "(Ljava/lang/String;I)Lcom/example/tabularium/tabularium/model/Delivery;"⟩ : MethodName)) hown (mvT hZ (hw _ (List.mem_of_getElem? (i := 38) rfl))) (mvT hZ (hw _ (List.mem_of_getElem? (i := 39) rfl))) (mvT hZ (hw _ (List.mem_of_getElem? (i := 3) rfl))) (mvT hZ (hw _ (List.mem_of_getElem? (i := 40) rfl))) (by decide) (backOfSH (W := 0) (rmft0 l Z a0 hw [] at40 (p1 &&& (2147483647 : Int32)) bt40 cz h54 n0 Z_54 PE40_at_62 PC40_at_62 PV40_at_62 PA40_at_62 S_COMPACT_STRINGS_at_62 hcz (own_and0 _)) hZ (hw _ (List.mem_of_getElem? (i := 40) rfl)) (hw _ (List.mem_of_getElem? (i := 3) rfl)) (by decide) (by decide) hEL hC54.1) (g := (mkF m 73 #[.val (.int p0), .val (.int p1), .val (.int (0 : Int32)), .val (.int (p1 &&& (2147483647 : Int32))), .val (.ref b27), .val (.ref at40), .val (.ref a54), .unset] [(.int (p1 &&& (2147483647 : Int32))), (.ref at40)])) rfl (by rw [hml]; rfl) (argsL := [(.ref at40), (.int (p1 &&& (2147483647 : Int32)))]) (rest := []) (lenOf own_pd5 rfl) rfl (by show 2 * 0 + _ ≤ _; exact Nat.le_of_eq rfl) (hb hby at_73) (fun _ _ => ⟨rfl, e62, (by decide : 5 + 5 ≤ _), (by decide : 66 + 74 ≤ _)⟩)
    dsimp only [Pt.U, Pt.locs, Pt.cells, Pt.slots] at X73 l73 y73 z73 st73 hQ73 hT73 hgr73 hq73
    subst l73 y73 z73
    have hS73 := State.Since.trans hS54 hT73 (Nat.le_trans hk54 (Nat.le_trans (Nat.le_of_eq (congrArg Array.size (Eq.symm e62))) hgr73))
    have hZ : Z.Warmed39 (s.setVm T73.vm).vm := State.Warmed39.trans (t := s.setVm T54.vm) hZ hT73.1
    have hown : (s.setVm T73.vm).vm.findClass "com/example/tabularium/tabularium/model/DeliveryTextPinLaw" = some m.cls := by rw [show (s.setVm T73.vm).vm = T73.vm from rfl, hT73.1.alike.findClass]; exact hown
    have hC73 := CHr.trans hC54 hq73
    obtain ⟨b73, rfl, N73q, szq73, Kp73, P73_0, P73_1, P73_2⟩ := hQ73
    have ne_b27_b73 : b27 ≠ b73 := Nat.ne_of_lt (Nat.lt_of_lt_of_le ((P33_0.keep Kp40).ext E54).lt szq73)
    have ne_at40_b73 : at40 ≠ b73 := Nat.ne_of_lt (Nat.lt_of_lt_of_le PE40_at_62.lt szq73)
    have ne_bt40_b73 : bt40 ≠ b73 := Nat.ne_of_lt (Nat.lt_of_lt_of_le PA40_at_62.lt szq73)
    have ne_a54_b73 : a54 ≠ b73 := Nat.ne_of_lt (Nat.lt_of_lt_of_le A54.lt szq73)
    have ne_b54_b73 : b54 ≠ b73 := Nat.ne_of_lt (Nat.lt_of_lt_of_le V54.lt szq73)
    have g_b73 : n0 ≤ b73 := Nat.le_trans Z_54 szq73
    obtain ⟨lo73, X73, N73⟩ : ∃ lo, Stand p l e _ (s.setVm T73.vm) m _ below meth c T73 lo _ _ ∧ Fr n0 lo := ⟨_, X73, Fr.app N62 N73q⟩
    refine own_via st73 ?_
    show own_Fin p e below G (T73.setTop (mkF m 76 #[.val (.int p0), .val (.int p1), .val (.int (0 : Int32)), .val (.int (p1 &&& (2147483647 : Int32))), .val (.ref b27), .val (.ref at40), .val (.ref a54), .unset] [(.ref b73)]))
    refine own_to (fun _ kz => XS.astore X73.here hx rfl (hb hby at_76) rfl (rfl) (l' := #[.val (.int p0), .val (.int p1), .val (.int (0 : Int32)), .val (.int (p1 &&& (2147483647 : Int32))), .val (.ref b27), .val (.ref at40), .val (.ref a54), .val (.ref b73)]) rfl kz) ?_
    show own_Fin p e below G (T73.setTop (mkF m 78 #[.val (.int p0), .val (.int p1), .val (.int (0 : Int32)), .val (.int (p1 &&& (2147483647 : Int32))), .val (.ref b27), .val (.ref at40), .val (.ref a54), .val (.ref b73)] []))
    refine own_to (fun _ kz => XS.aload X73.here hx rfl (hb hby at_78) rfl (rfl)  kz) ?_
    show own_Fin p e below G (T73.setTop (mkF m 80 #[.val (.int p0), .val (.int p1), .val (.int (0 : Int32)), .val (.int (p1 &&& (2147483647 : Int32))), .val (.ref b27), .val (.ref at40), .val (.ref a54), .val (.ref b73)] [(.ref b73)]))
    have Zz_80_Kp73 := Nat.le_trans Z_54 Kp73.1
    have Z_80 : n0 ≤ T73.heap.size := Zz_80_Kp73
    obtain ⟨cq80, kq80, qa80, qb80, qc80⟩ := isOf hZ rfl P73_0
    obtain ⟨_, _, ⟨T80, L80, k80, n80⟩, -, X80, ⟨Lc80, hQ80, l80, y80, z80⟩, st80⟩ := X73.virtualBack hx (y := (⟨"com/example/tabularium/tabularium/model/Delivery", "delivered", "()Z"⟩ : MethodName)) (z := (⟨"com/example/tabularium/tabularium/model/Delivery", "delivered", "()Z"⟩ : MethodName)) hown (mvT hZ (hw _ (List.mem_of_getElem? (i := 54) rfl))) (mvT hZ (hw _ (List.mem_of_getElem? (i := 55) rfl))) (notFace_of_selects (args := #[]) (mvT hZ (hw _ (List.mem_of_getElem? (i := 57) rfl)))) (mvT hZ (hw _ (List.mem_of_getElem? (i := 57) rfl))) (mvT hZ (hw _ (List.mem_of_getElem? (i := 56) rfl))) (by decide) (backOf (W := 0) (rm8 l Z a0 hw [] b73 (0 : Int32) T73.heap n0 Z_80 P73_0 P73_1) hZ (hw _ (List.mem_of_getElem? (i := 58) rfl)) (hw _ (List.mem_of_getElem? (i := 3) rfl)) (by decide) (by decide)) qa80 qc80 (g := (mkF m 80 #[.val (.int p0), .val (.int p1), .val (.int (0 : Int32)), .val (.int (p1 &&& (2147483647 : Int32))), .val (.ref b27), .val (.ref at40), .val (.ref a54), .val (.ref b73)] [(.ref b73)])) rfl (by rw [hml]; rfl) (Steps.refl _) (argsL := []) (rest := []) (lenOf own_pd6 rfl) rfl (by show 2 * 0 + _ ≤ _; exact Nat.le_of_eq rfl) (hb hby at_80) (fun _ _ => ⟨rfl, rfl, (by decide : 10 + 0 ≤ _), (by decide : 140 + 0 ≤ _)⟩)
    dsimp only [Pt.U, Pt.locs, Pt.cells, Pt.slots] at X80 l80 y80 z80 st80 hQ80
    subst l80 y80 z80
    obtain ⟨rfl, N80q, e80⟩ := hQ80
    obtain ⟨lo80, X80, N80⟩ : ∃ lo, Stand p l e _ (s.setVm T73.vm) m _ below meth c T80 lo _ _ ∧ Fr n0 lo := ⟨_, X80, Fr.app N73 N80q⟩
    refine own_via st80 ?_
    show own_Fin p e below G (T80.setTop (mkF m 83 #[.val (.int p0), .val (.int p1), .val (.int (0 : Int32)), .val (.int (p1 &&& (2147483647 : Int32))), .val (.ref b27), .val (.ref at40), .val (.ref a54), .val (.ref b73)] [(.int (f8 (0 : Int32)))]))
    refine own_to (fun _ kz => XS.iloadN X80.here hx rfl (hb hby at_83) rfl  kz) ?_
    show own_Fin p e below G (T80.setTop (mkF m 84 #[.val (.int p0), .val (.int p1), .val (.int (0 : Int32)), .val (.int (p1 &&& (2147483647 : Int32))), .val (.ref b27), .val (.ref at40), .val (.ref a54), .val (.ref b73)] [(.int (0 : Int32)), (.int (f8 (0 : Int32)))]))
    have hc84 : (f8 (0 : Int32)) = (0 : Int32) := (by decide)
    refine own_to (fun _ kz => XS.icmpNo X80.here hx rfl (hb hby at_84) rfl (teq hc84).2 kz) ?_
    show own_Fin p e below G (T80.setTop (mkF m 87 #[.val (.int p0), .val (.int p1), .val (.int (0 : Int32)), .val (.int (p1 &&& (2147483647 : Int32))), .val (.ref b27), .val (.ref at40), .val (.ref a54), .val (.ref b73)] []))
    refine own_to (fun _ kz => XS.aload X80.here hx rfl (hb hby at_87) rfl (rfl)  kz) ?_
    show own_Fin p e below G (T80.setTop (mkF m 89 #[.val (.int p0), .val (.int p1), .val (.int (0 : Int32)), .val (.int (p1 &&& (2147483647 : Int32))), .val (.ref b27), .val (.ref at40), .val (.ref a54), .val (.ref b73)] [(.ref b73)]))
    obtain ⟨cq89, kq89, qa89, qb89, qc89⟩ := isOf hZ e80 P73_0
    obtain ⟨_, _, ⟨T89, L89, k89, n89⟩, -, X89, ⟨Lc89, hQ89, l89, y89, z89⟩, st89⟩ := X80.virtualBack hx (y := (⟨"com/example/tabularium/tabularium/model/Delivery", "attempts", "()I"⟩ : MethodName)) (z := (⟨"com/example/tabularium/tabularium/model/Delivery", "attempts", "()I"⟩ : MethodName)) hown (mvT hZ (hw _ (List.mem_of_getElem? (i := 59) rfl))) (mvT hZ (hw _ (List.mem_of_getElem? (i := 60) rfl))) (notFace_of_selects (args := #[]) (mvT hZ (hw _ (List.mem_of_getElem? (i := 62) rfl)))) (mvT hZ (hw _ (List.mem_of_getElem? (i := 62) rfl))) (mvT hZ (hw _ (List.mem_of_getElem? (i := 61) rfl))) (by decide) (backOf (W := 0) (rm9 l Z a0 hw [] b73 (p1 &&& (2147483647 : Int32)) T73.heap n0 Z_80 P73_0 P73_2) hZ (hw _ (List.mem_of_getElem? (i := 63) rfl)) (hw _ (List.mem_of_getElem? (i := 3) rfl)) (by decide) (by decide)) qa89 qc89 (g := (mkF m 89 #[.val (.int p0), .val (.int p1), .val (.int (0 : Int32)), .val (.int (p1 &&& (2147483647 : Int32))), .val (.ref b27), .val (.ref at40), .val (.ref a54), .val (.ref b73)] [(.ref b73)])) rfl (by rw [hml]; rfl) (Steps.refl _) (argsL := []) (rest := []) (lenOf own_pd7 rfl) rfl (by show 2 * 0 + _ ≤ _; exact Nat.le_of_eq rfl) (hb hby at_89) (fun _ _ => ⟨rfl, e80, (by decide : 10 + 0 ≤ _), (by decide : 140 + 0 ≤ _)⟩)
    dsimp only [Pt.U, Pt.locs, Pt.cells, Pt.slots] at X89 l89 y89 z89 st89 hQ89
    subst l89 y89 z89
    obtain ⟨rfl, N89q, e89⟩ := hQ89
    obtain ⟨lo89, X89, N89⟩ : ∃ lo, Stand p l e _ (s.setVm T73.vm) m _ below meth c T89 lo _ _ ∧ Fr n0 lo := ⟨_, X89, Fr.app N80 N89q⟩
    refine own_via st89 ?_
    show own_Fin p e below G (T89.setTop (mkF m 92 #[.val (.int p0), .val (.int p1), .val (.int (0 : Int32)), .val (.int (p1 &&& (2147483647 : Int32))), .val (.ref b27), .val (.ref at40), .val (.ref a54), .val (.ref b73)] [(.int (f9 (p1 &&& (2147483647 : Int32))))]))
    refine own_to (fun _ kz => XS.iloadN X89.here hx rfl (hb hby at_92) rfl  kz) ?_
    show own_Fin p e below G (T89.setTop (mkF m 93 #[.val (.int p0), .val (.int p1), .val (.int (0 : Int32)), .val (.int (p1 &&& (2147483647 : Int32))), .val (.ref b27), .val (.ref at40), .val (.ref a54), .val (.ref b73)] [(.int (p1 &&& (2147483647 : Int32))), (.int (f9 (p1 &&& (2147483647 : Int32))))]))
    have hc93 : (f9 (p1 &&& (2147483647 : Int32))) = (p1 &&& (2147483647 : Int32)) := rfl
    refine own_to (fun _ kz => XS.icmpNo X89.here hx rfl (hb hby at_93) rfl (teq hc93).2 kz) ?_
    show own_Fin p e below G (T89.setTop (mkF m 96 #[.val (.int p0), .val (.int p1), .val (.int (0 : Int32)), .val (.int (p1 &&& (2147483647 : Int32))), .val (.ref b27), .val (.ref at40), .val (.ref a54), .val (.ref b73)] []))
    refine own_to (fun _ kz => XS.iconst X89.here hx rfl (hb hby at_96) kz) ?_
    show own_Fin p e below G (T89.setTop (mkF m 97 #[.val (.int p0), .val (.int p1), .val (.int (0 : Int32)), .val (.int (p1 &&& (2147483647 : Int32))), .val (.ref b27), .val (.ref at40), .val (.ref a54), .val (.ref b73)] [(.int (1 : Int32))]))
    refine own_to (fun _ kz => XS.goto X89.here hx rfl (pc0 := 97) (pc' := 101) rfl (hb hby at_97) (by decide) (by decide) kz) ?_
    show own_Fin p e below G (T89.setTop (mkF m 101 #[.val (.int p0), .val (.int p1), .val (.int (0 : Int32)), .val (.int (p1 &&& (2147483647 : Int32))), .val (.ref b27), .val (.ref at40), .val (.ref a54), .val (.ref b73)] [(.int (1 : Int32))]))
    exact own_retHN (vm₁ := T73.vm) X89 hx hS73 (Nat.le_refl _) hC73 hZ hEL e89 hlk hG (t := .boolean) Bd.returns (by simp) (hb hby at_101) (by decide) (by decide) (by rw [e89]; exact ⟨rfl, N89, trivial⟩)
  · refine own_to (fun _ kz => XS.ifNo X0.here hx rfl (hb hby at_3) rfl ((if0 _ _).trans (feq hc3).1) kz) ?_
    show own_Fin p e below G (s₁.setTop (mkF m 6 #[.val (.int p0), .val (.int p1), .unset, .unset, .unset, .unset, .unset, .unset] []))
    refine own_to (fun _ kz => XS.iconst X0.here hx rfl (hb hby at_6) kz) ?_
    show own_Fin p e below G (s₁.setTop (mkF m 7 #[.val (.int p0), .val (.int p1), .unset, .unset, .unset, .unset, .unset, .unset] [(.int (1 : Int32))]))
    refine own_to (fun _ kz => XS.goto X0.here hx rfl (pc0 := 7) (pc' := 11) rfl (hb hby at_7) (by decide) (by decide) kz) ?_
    show own_Fin p e below G (s₁.setTop (mkF m 11 #[.val (.int p0), .val (.int p1), .unset, .unset, .unset, .unset, .unset, .unset] [(.int (1 : Int32))]))
    refine own_to (fun _ kz => XS.istoreN X0.here hx rfl (hb hby at_11) rfl (l' := #[.val (.int p0), .val (.int p1), .val (.int (1 : Int32)), .unset, .unset, .unset, .unset, .unset]) rfl kz) ?_
    show own_Fin p e below G (s₁.setTop (mkF m 12 #[.val (.int p0), .val (.int p1), .val (.int (1 : Int32)), .unset, .unset, .unset, .unset, .unset] []))
    refine own_to (fun _ kz => XS.iloadN X0.here hx rfl (hb hby at_12) rfl  kz) ?_
    show own_Fin p e below G (s₁.setTop (mkF m 13 #[.val (.int p0), .val (.int p1), .val (.int (1 : Int32)), .unset, .unset, .unset, .unset, .unset] [(.int p1)]))
    refine own_to (fun _ kz => X0.ldcInt hx hown (mvT hZ (hw _ (List.mem_of_getElem? (i := 0) rfl))) (g := (mkF m 13 #[.val (.int p0), .val (.int p1), .val (.int (1 : Int32)), .unset, .unset, .unset, .unset, .unset] [(.int p1)])) rfl (hb hby at_13) _ kz) ?_
    show own_Fin p e below G (s₁.setTop (mkF m 15 #[.val (.int p0), .val (.int p1), .val (.int (1 : Int32)), .unset, .unset, .unset, .unset, .unset] [(.int (2147483647 : Int32)), (.int p1)]))
    refine own_to (fun _ kz => XS.iand X0.here hx rfl (hb hby at_15) rfl kz) ?_
    show own_Fin p e below G (s₁.setTop (mkF m 16 #[.val (.int p0), .val (.int p1), .val (.int (1 : Int32)), .unset, .unset, .unset, .unset, .unset] [(.int (p1 &&& (2147483647 : Int32)))]))
    refine own_to (fun _ kz => XS.istoreN X0.here hx rfl (hb hby at_16) rfl (l' := #[.val (.int p0), .val (.int p1), .val (.int (1 : Int32)), .val (.int (p1 &&& (2147483647 : Int32))), .unset, .unset, .unset, .unset]) rfl kz) ?_
    show own_Fin p e below G (s₁.setTop (mkF m 17 #[.val (.int p0), .val (.int p1), .val (.int (1 : Int32)), .val (.int (p1 &&& (2147483647 : Int32))), .unset, .unset, .unset, .unset] []))
    refine own_to (fun _ kz => XS.iloadN X0.here hx rfl (hb hby at_17) rfl  kz) ?_
    show own_Fin p e below G (s₁.setTop (mkF m 18 #[.val (.int p0), .val (.int p1), .val (.int (1 : Int32)), .val (.int (p1 &&& (2147483647 : Int32))), .unset, .unset, .unset, .unset] [(.int (1 : Int32))]))
    have hc18 : ¬ ((1 : Int32) = (0 : Int32)) := by decide
    refine own_to (fun _ kz => XS.ifNo X0.here hx rfl (hb hby at_18) rfl ((if0 _ _).trans (feq hc18).1) kz) ?_
    show own_Fin p e below G (s₁.setTop (mkF m 21 #[.val (.int p0), .val (.int p1), .val (.int (1 : Int32)), .val (.int (p1 &&& (2147483647 : Int32))), .unset, .unset, .unset, .unset] []))
    refine own_to (fun _ kz => XS.iconst X0.here hx rfl (hb hby at_21) kz) ?_
    show own_Fin p e below G (s₁.setTop (mkF m 22 #[.val (.int p0), .val (.int p1), .val (.int (1 : Int32)), .val (.int (p1 &&& (2147483647 : Int32))), .unset, .unset, .unset, .unset] [(.int (1 : Int32))]))
    refine own_to (fun _ kz => XS.iloadN X0.here hx rfl (hb hby at_22) rfl  kz) ?_
    show own_Fin p e below G (s₁.setTop (mkF m 23 #[.val (.int p0), .val (.int p1), .val (.int (1 : Int32)), .val (.int (p1 &&& (2147483647 : Int32))), .unset, .unset, .unset, .unset] [(.int (p1 &&& (2147483647 : Int32))), (.int (1 : Int32))]))
    obtain ⟨_, _, ⟨T23, L23, k23, n23⟩, -, X23, ⟨Lc23, hQ23, l23, y23, z23⟩, st23⟩ := Jvm.LawKit.callS X0 hx (y := (⟨"java/lang/Math", "max", "(II)I"⟩ : MethodName)) hown (mvT hZ (hw _ (List.mem_of_getElem? (i := 64) rfl))) (mvT hZ (hw _ (List.mem_of_getElem? (i := 65) rfl))) (mvT hZ (hw _ (List.mem_of_getElem? (i := 66) rfl))) (mvT hZ (hw _ (List.mem_of_getElem? (i := 67) rfl))) (by decide) (backOf (W := 0) (rm10 l Z a0 hw [] (1 : Int32) (p1 &&& (2147483647 : Int32)) h0 n0 Z0) hZ (hw _ (List.mem_of_getElem? (i := 67) rfl)) (hw _ (List.mem_of_getElem? (i := 66) rfl)) (by decide) (by decide)) (g := (mkF m 23 #[.val (.int p0), .val (.int p1), .val (.int (1 : Int32)), .val (.int (p1 &&& (2147483647 : Int32))), .unset, .unset, .unset, .unset] [(.int (p1 &&& (2147483647 : Int32))), (.int (1 : Int32))])) rfl (by rw [hml]; rfl) (argsL := [(.int (1 : Int32)), (.int (p1 &&& (2147483647 : Int32)))]) (rest := []) (lenOf own_pd8 rfl) rfl (by show 2 * 0 + _ ≤ _; exact Nat.le_of_eq rfl) (hb hby at_23) (fun _ _ => ⟨rfl, e0, (by decide : 0 + 0 ≤ _), (by decide : 0 + 0 ≤ _)⟩)
    dsimp only [Pt.U, Pt.locs, Pt.cells, Pt.slots] at X23 l23 y23 z23 st23 hQ23
    subst l23 y23 z23
    obtain ⟨rfl, N23q, e23⟩ := hQ23
    obtain ⟨lo23, X23, N23⟩ : ∃ lo, Stand p l e _ (s.setVm s.vm) m _ below meth c T23 lo _ _ ∧ Fr n0 lo := ⟨_, X23, Fr.app N0 N23q⟩
    refine own_to st23 ?_
    show own_Fin p e below G (T23.setTop (mkF m 26 #[.val (.int p0), .val (.int p1), .val (.int (1 : Int32)), .val (.int (p1 &&& (2147483647 : Int32))), .unset, .unset, .unset, .unset] [(.int (f10 (1 : Int32) (p1 &&& (2147483647 : Int32))))]))
    refine own_to (fun _ kz => XS.istoreN X23.here hx rfl (hb hby at_26) rfl (l' := #[.val (.int p0), .val (.int p1), .val (.int (1 : Int32)), .val (.int (f10 (1 : Int32) (p1 &&& (2147483647 : Int32)))), .unset, .unset, .unset, .unset]) rfl kz) ?_
    show own_Fin p e below G (T23.setTop (mkF m 27 #[.val (.int p0), .val (.int p1), .val (.int (1 : Int32)), .val (.int (f10 (1 : Int32) (p1 &&& (2147483647 : Int32)))), .unset, .unset, .unset, .unset] []))
    obtain ⟨T27, h27, X27, e27, E27, A27, D27, -, st27⟩ := newO X23 hx hZ hown (hw _ (List.mem_of_getElem? (i := 1) rfl)) (hw _ (List.mem_of_getElem? (i := 2) rfl)) (hw _ (List.mem_of_getElem? (i := 3) rfl)) e23 (g := (mkF m 27 #[.val (.int p0), .val (.int p1), .val (.int (1 : Int32)), .val (.int (f10 (1 : Int32) (p1 &&& (2147483647 : Int32)))), .unset, .unset, .unset, .unset] [])) rfl (hb hby at_27) (by decide) (by decide)
    obtain ⟨b27, g27⟩ : ∃ z, z = h0.size := ⟨_, rfl⟩
    rw [← g27] at A27 D27 st27
    refine own_to st27 ?_
    have g_b27 : n0 ≤ b27 := Nat.le_trans Z0 (Nat.le_of_eq g27.symm)
    have F_delivered_b27'1 : Fld Z h27 b27 "com/example/tabularium/tabularium/model/Delivery" "delivered" "Z" (.int (0 : Int32)) := D27 (Or.inr (hw _ (List.mem_of_getElem? (i := 16) rfl))) (ty := .boolean) (by decide)
    have F_attempts_b27'1 : Fld Z h27 b27 "com/example/tabularium/tabularium/model/Delivery" "attempts" "I" (.int (0 : Int32)) := D27 (Or.inr (hw _ (List.mem_of_getElem? (i := 18) rfl))) (ty := .int) (by decide)
    show own_Fin p e below G (T27.setTop (mkF m 30 #[.val (.int p0), .val (.int p1), .val (.int (1 : Int32)), .val (.int (f10 (1 : Int32) (p1 &&& (2147483647 : Int32)))), .unset, .unset, .unset, .unset] [(.ref b27)]))
    refine own_to (fun _ kz => XS.dup X27.here hx rfl (hb hby at_30) rfl rfl kz) ?_
    show own_Fin p e below G (T27.setTop (mkF m 31 #[.val (.int p0), .val (.int p1), .val (.int (1 : Int32)), .val (.int (f10 (1 : Int32) (p1 &&& (2147483647 : Int32)))), .unset, .unset, .unset, .unset] [(.ref b27), (.ref b27)]))
    refine own_to (fun _ kz => XS.iloadN X27.here hx rfl (hb hby at_31) rfl  kz) ?_
    show own_Fin p e below G (T27.setTop (mkF m 32 #[.val (.int p0), .val (.int p1), .val (.int (1 : Int32)), .val (.int (f10 (1 : Int32) (p1 &&& (2147483647 : Int32)))), .unset, .unset, .unset, .unset] [(.int (1 : Int32)), (.ref b27), (.ref b27)]))
    refine own_to (fun _ kz => XS.iloadN X27.here hx rfl (hb hby at_32) rfl  kz) ?_
    show own_Fin p e below G (T27.setTop (mkF m 33 #[.val (.int p0), .val (.int p1), .val (.int (1 : Int32)), .val (.int (f10 (1 : Int32) (p1 &&& (2147483647 : Int32)))), .unset, .unset, .unset, .unset] [(.int (f10 (1 : Int32) (p1 &&& (2147483647 : Int32)))), (.int (1 : Int32)), (.ref b27), (.ref b27)]))
    have hC_33_E27'1 := CHr.trans hC0 (CHr.ext E27 hC0.1)
    have sf_b27_33'1 : Safe Z consts_1 s.vm h27 b27 := Safe.exa hZ.alike A27 (by decide) (by decide)
    have Zz_33_E27'1 := Nat.le_trans Z0 E27.1
    have Z_33'1 : n0 ≤ h27.size := Zz_33_E27'1
    obtain ⟨_, _, ⟨T33, L33, k33, n33⟩, -, X33, ⟨Lc33, hQ33, l33, y33, z33⟩, st33⟩ := X27.specialBack hx (y := (⟨"com/example/tabularium/tabularium/model/Delivery", "<init>", "(ZI)V"⟩ : MethodName)) rfl hown (mvT hZ (hw _ (List.mem_of_getElem? (i := 4) rfl))) (mvT hZ (hw _ (List.mem_of_getElem? (i := 5) rfl))) (mvT hZ (hw _ (List.mem_of_getElem? (i := 6) rfl))) (by decide) (backOf (W := 1) (rmi1 l Z a0 hw [] b27 (f10 (1 : Int32) (p1 &&& (2147483647 : Int32))) h27 n0 Z_33'1 A27 F_delivered_b27'1 F_attempts_b27'1 g_b27 (own_max1 _)) hZ (hw _ (List.mem_of_getElem? (i := 6) rfl)) (hw _ (List.mem_of_getElem? (i := 3) rfl)) (by decide) (by decide)) (g := (mkF m 33 #[.val (.int p0), .val (.int p1), .val (.int (1 : Int32)), .val (.int (f10 (1 : Int32) (p1 &&& (2147483647 : Int32)))), .unset, .unset, .unset, .unset] [(.int (f10 (1 : Int32) (p1 &&& (2147483647 : Int32)))), (.int (1 : Int32)), (.ref b27), (.ref b27)])) rfl (by rw [hml]; rfl) (Steps.refl _) (a := b27) (argsL := [(.int (1 : Int32)), (.int (f10 (1 : Int32) (p1 &&& (2147483647 : Int32))))]) (rest := [(.ref b27)]) (lenOf own_pd3 rfl) rfl (by show 2 * 0 + _ ≤ _; exact Nat.le_of_eq rfl) (hb hby at_33) (fun _ _ => ⟨rfl, e27, (by decide : 1 + 0 ≤ _), (by decide : 2 + 0 ≤ _)⟩)
    dsimp only [Pt.U, Pt.locs, Pt.cells, Pt.slots] at X33 l33 y33 z33 st33 hQ33
    subst l33 y33 z33
    obtain ⟨rfl, N33q, Kp33, P33_0, P33_1, P33_2⟩ := hQ33
    have hC_33_Kp33'1 := CHr.trans hC_33_E27'1 (CHr.keep Kp33 (allS sf_b27_33'1 all0) hC_33_E27'1.1)
    obtain ⟨lo33, X33, N33⟩ : ∃ lo, Stand p l e _ (s.setVm s.vm) m _ below meth c T33 lo _ _ ∧ Fr n0 lo := ⟨_, X33, Fr.app N23 N33q⟩
    refine own_via st33 ?_
    show own_Fin p e below G (T33.setTop (mkF m 36 #[.val (.int p0), .val (.int p1), .val (.int (1 : Int32)), .val (.int (f10 (1 : Int32) (p1 &&& (2147483647 : Int32)))), .unset, .unset, .unset, .unset] [(.ref b27)]))
    refine own_to (fun _ kz => XS.astore X33.here hx rfl (hb hby at_36) rfl (rfl) (l' := #[.val (.int p0), .val (.int p1), .val (.int (1 : Int32)), .val (.int (f10 (1 : Int32) (p1 &&& (2147483647 : Int32)))), .val (.ref b27), .unset, .unset, .unset]) rfl kz) ?_
    show own_Fin p e below G (T33.setTop (mkF m 38 #[.val (.int p0), .val (.int p1), .val (.int (1 : Int32)), .val (.int (f10 (1 : Int32) (p1 &&& (2147483647 : Int32)))), .val (.ref b27), .unset, .unset, .unset] []))
    refine own_to (fun _ kz => XS.aload X33.here hx rfl (hb hby at_38) rfl (rfl)  kz) ?_
    show own_Fin p e below G (T33.setTop (mkF m 40 #[.val (.int p0), .val (.int p1), .val (.int (1 : Int32)), .val (.int (f10 (1 : Int32) (p1 &&& (2147483647 : Int32)))), .val (.ref b27), .unset, .unset, .unset] [(.ref b27)]))
    have Zz_40_Kp33'1 := Nat.le_trans Z_33'1 Kp33.1
    have Z_40'1 : n0 ≤ T33.heap.size := Zz_40_Kp33'1
    have hk_40_E27'1 := Nat.le_trans hk0 E27.1
    have hk_40_Kp33'1 := Nat.le_trans hk_40_E27'1 Kp33.1
    obtain ⟨cq40, kq40, qa40, qb40, qc40⟩ := isOf hZ rfl P33_0
    obtain ⟨_, _, ⟨T40, L40, k40, n40⟩, -, X40, hT40, hgr40, ⟨Lc40, hQ40, l40, y40, z40, hq40⟩, st40⟩ := X33.virtualBackS hx (y := (⟨"com/example/tabularium/tabularium/model/Delivery", "text", "()Ljava/lang/String;"⟩ : MethodName)) (z := (⟨"com/example/tabularium/tabularium/model/Delivery", "text", "()Ljava/lang/String;"⟩ : MethodName)) hown (mvT hZ (hw _ (List.mem_of_getElem? (i := 19) rfl))) (mvT hZ (hw _ (List.mem_of_getElem? (i := 20) rfl))) (notFace_of_selects (args := #[]) (mvT hZ (hw _ (List.mem_of_getElem? (i := 22) rfl)))) (mvT hZ (hw _ (List.mem_of_getElem? (i := 22) rfl))) (mvT hZ (hw _ (List.mem_of_getElem? (i := 21) rfl))) (by decide) (backOfSH (W := 0) (rmt1 l Z a0 hw [] b27 T33.heap n0 Z_40'1 P33_0 P33_1) hZ (hw _ (List.mem_of_getElem? (i := 23) rfl)) (hw _ (List.mem_of_getElem? (i := 3) rfl)) (by decide) (by decide) hEL hC_33_Kp33'1.1) qa40 qc40 (g := (mkF m 40 #[.val (.int p0), .val (.int p1), .val (.int (1 : Int32)), .val (.int (f10 (1 : Int32) (p1 &&& (2147483647 : Int32)))), .val (.ref b27), .unset, .unset, .unset] [(.ref b27)])) rfl (by rw [hml]; rfl) (Steps.refl _) (argsL := []) (rest := []) (lenOf own_pd4 rfl) rfl (by show 2 * 0 + _ ≤ _; exact Nat.le_of_eq rfl) (hb hby at_40) (fun _ _ => ⟨rfl, rfl, (by decide : 1 + 2 ≤ _), (by decide : 2 + 40 ≤ _)⟩)
    dsimp only [Pt.U, Pt.locs, Pt.cells, Pt.slots] at X40 l40 y40 z40 st40 hQ40 hT40 hgr40 hq40
    subst l40 y40 z40
    have hS40 := State.Since.trans hS0 hT40 (Nat.le_trans hk_40_Kp33'1 (Nat.le_trans (Nat.le_of_eq (congrArg Array.size (Eq.symm rfl))) hgr40))
    have hZ : Z.Warmed39 (s.setVm T40.vm).vm := State.Warmed39.trans (t := s.setVm s.vm) hZ hT40.1
    have hown : (s.setVm T40.vm).vm.findClass "com/example/tabularium/tabularium/model/DeliveryTextPinLaw" = some m.cls := by rw [show (s.setVm T40.vm).vm = T40.vm from rfl, hT40.1.alike.findClass]; exact hown
    have hC40 := CHr.trans hC_33_Kp33'1 hq40
    obtain ⟨at40, bt40, rfl, N40q, Kp40, PE40, PC40, PV40, PA40⟩ := hQ40
    obtain ⟨lo40, X40, N40⟩ : ∃ lo, Stand p l e _ (s.setVm T40.vm) m _ below meth c T40 lo _ _ ∧ Fr n0 lo := ⟨_, X40, Fr.app N33 N40q⟩
    refine own_via st40 ?_
    show own_Fin p e below G (T40.setTop (mkF m 43 #[.val (.int p0), .val (.int p1), .val (.int (1 : Int32)), .val (.int (f10 (1 : Int32) (p1 &&& (2147483647 : Int32)))), .val (.ref b27), .unset, .unset, .unset] [(.ref at40)]))
    refine own_to (fun _ kz => XS.astore X40.here hx rfl (hb hby at_43) rfl (rfl) (l' := #[.val (.int p0), .val (.int p1), .val (.int (1 : Int32)), .val (.int (f10 (1 : Int32) (p1 &&& (2147483647 : Int32)))), .val (.ref b27), .val (.ref at40), .unset, .unset]) rfl kz) ?_
    show own_Fin p e below G (T40.setTop (mkF m 45 #[.val (.int p0), .val (.int p1), .val (.int (1 : Int32)), .val (.int (f10 (1 : Int32) (p1 &&& (2147483647 : Int32)))), .val (.ref b27), .val (.ref at40), .unset, .unset] []))
    refine own_to (fun _ kz => XS.iloadN X40.here hx rfl (hb hby at_45) rfl  kz) ?_
    show own_Fin p e below G (T40.setTop (mkF m 46 #[.val (.int p0), .val (.int p1), .val (.int (1 : Int32)), .val (.int (f10 (1 : Int32) (p1 &&& (2147483647 : Int32)))), .val (.ref b27), .val (.ref at40), .unset, .unset] [(.int (1 : Int32))]))
    have hc46 : ¬ ((1 : Int32) = (0 : Int32)) := by decide
    refine own_to (fun _ kz => XS.ifNo X40.here hx rfl (hb hby at_46) rfl ((if0 _ _).trans (feq hc46).1) kz) ?_
    show own_Fin p e below G (T40.setTop (mkF m 49 #[.val (.int p0), .val (.int p1), .val (.int (1 : Int32)), .val (.int (f10 (1 : Int32) (p1 &&& (2147483647 : Int32)))), .val (.ref b27), .val (.ref at40), .unset, .unset] []))
    obtain ⟨a49, T49, h49, k149, b49, kc49, X49, e49, E49, hS49, hk49, hZ, hown, A49, Fc49, Fv49, Ar49, -, -, hq49, -, -, st49⟩ := ldcCH (vm0 := T40.vm) X40 hx hZ hown (hw _ (List.mem_of_getElem? (i := 68) rfl)) (own_wS hw) rfl hS40 (Nat.le_refl _) hEL (List.mem_of_getElem? (i := 2) rfl) hC40.1 (z := (9 : Int32)) (own_txt1) (by decide) rfl (g := (mkF m 49 #[.val (.int p0), .val (.int p1), .val (.int (1 : Int32)), .val (.int (f10 (1 : Int32) (p1 &&& (2147483647 : Int32)))), .val (.ref b27), .val (.ref at40), .unset, .unset] [])) rfl (hb hby at_49) (n := 36) (by decide) (by decide) (by decide) (by decide)
    refine own_to st49 ?_
    have hC49 := CHr.trans hC40 hq49
    have V49 : own_AV Value.int Z h49 b49 .byte 9 own_lit1 := own_AVarv Ar49 rfl (by decide) (own_lf1)
    have Zz_49_Kp40 := Nat.le_trans Z_40'1 Kp40.1
    have Zz_49_E49 := Nat.le_trans Zz_49_Kp40 E49.1
    have Z_49 : n0 ≤ h49.size := Zz_49_E49
    show own_Fin p e below G (T49.setTop (mkF m 51 #[.val (.int p0), .val (.int p1), .val (.int (1 : Int32)), .val (.int (f10 (1 : Int32) (p1 &&& (2147483647 : Int32)))), .val (.ref b27), .val (.ref at40), .unset, .unset] [(.ref a49)]))
    refine own_to (fun _ kz => XS.goto X49.here hx rfl (pc0 := 51) (pc' := 56) rfl (hb hby at_51) (by decide) (by decide) kz) ?_
    show own_Fin p e below G (T49.setTop (mkF m 56 #[.val (.int p0), .val (.int p1), .val (.int (1 : Int32)), .val (.int (f10 (1 : Int32) (p1 &&& (2147483647 : Int32)))), .val (.ref b27), .val (.ref at40), .unset, .unset] [(.ref a49)]))
    refine own_to (fun _ kz => XS.astore X49.here hx rfl (hb hby at_56) rfl (rfl) (l' := #[.val (.int p0), .val (.int p1), .val (.int (1 : Int32)), .val (.int (f10 (1 : Int32) (p1 &&& (2147483647 : Int32)))), .val (.ref b27), .val (.ref at40), .val (.ref a49), .unset]) rfl kz) ?_
    show own_Fin p e below G (T49.setTop (mkF m 58 #[.val (.int p0), .val (.int p1), .val (.int (1 : Int32)), .val (.int (f10 (1 : Int32) (p1 &&& (2147483647 : Int32)))), .val (.ref b27), .val (.ref at40), .val (.ref a49), .unset] []))
    refine own_to (fun _ kz => XS.aload X49.here hx rfl (hb hby at_58) rfl (rfl)  kz) ?_
    show own_Fin p e below G (T49.setTop (mkF m 60 #[.val (.int p0), .val (.int p1), .val (.int (1 : Int32)), .val (.int (f10 (1 : Int32) (p1 &&& (2147483647 : Int32)))), .val (.ref b27), .val (.ref at40), .val (.ref a49), .unset] [(.ref a49)]))
    refine own_to (fun _ kz => XS.aload X49.here hx rfl (hb hby at_60) rfl (rfl)  kz) ?_
    show own_Fin p e below G (T49.setTop (mkF m 62 #[.val (.int p0), .val (.int p1), .val (.int (1 : Int32)), .val (.int (f10 (1 : Int32) (p1 &&& (2147483647 : Int32)))), .val (.ref b27), .val (.ref at40), .val (.ref a49), .unset] [(.ref at40), (.ref a49)]))
    have PE40_at_62'1 : Exa Z h49 at40 "java/lang/String" := (PE40.ext E49)
    have PC40_at_62'1 : Fld Z h49 at40 "java/lang/String" "coder" "B" (.int (0 : Int32)) := (PC40.ext E49)
    have PV40_at_62'1 : Fld Z h49 at40 "java/lang/String" "value" "[B" (.ref bt40) := (PV40.ext E49)
    have PA40_at_62'1 : own_AV Value.int Z h49 bt40 .byte 9 (own_lit1) := (PA40.ext E49)
    have S_COMPACT_STRINGS_at_62'1 : Sta Z h49 "java/lang/String" "COMPACT_STRINGS" "Z" (.int cz) := ((own_staKeep (own_staKeep (S_COMPACT_STRINGS.ext E27) Kp33 (allS (Exa.cell A27) all0)) Kp40 all0).ext E49)
    obtain ⟨cq62, kq62, qa62, qb62, qc62⟩ := isOf hZ e49 A49
    obtain ⟨_, _, ⟨T62, L62, k62, n62⟩, -, X62, ⟨Lc62, hQ62, l62, y62, z62⟩, st62⟩ := X49.virtualBack hx (y := (⟨"java/lang/String", "equals", "(Ljava/lang/Object;)Z"⟩ : MethodName)) (z := (⟨"java/lang/String", "equals", "(Ljava/lang/Object;)Z"⟩ : MethodName)) hown (mvT hZ (hw _ (List.mem_of_getElem? (i := 33) rfl))) (mvT hZ (hw _ (List.mem_of_getElem? (i := 34) rfl))) (notFace_of_selects (args := #[]) (mvT hZ (hw _ (List.mem_of_getElem? (i := 36) rfl)))) (mvT hZ (hw _ (List.mem_of_getElem? (i := 36) rfl))) (mvT hZ (hw _ (List.mem_of_getElem? (i := 35) rfl))) (by decide) (backOf (W := 0) (rmET l Z a0 hw [] a49 at40 9 (own_lit1) b49 bt40 cz h49 n0 Z_49 A49 Fc49 Fv49 V49 PE40_at_62'1 PC40_at_62'1 PV40_at_62'1 PA40_at_62'1 S_COMPACT_STRINGS_at_62'1 hcz) hZ (hw _ (List.mem_of_getElem? (i := 37) rfl)) (hw _ (List.mem_of_getElem? (i := 25) rfl)) (by decide) (by decide)) qa62 qc62 (g := (mkF m 62 #[.val (.int p0), .val (.int p1), .val (.int (1 : Int32)), .val (.int (f10 (1 : Int32) (p1 &&& (2147483647 : Int32)))), .val (.ref b27), .val (.ref at40), .val (.ref a49), .unset] [(.ref at40), (.ref a49)])) rfl (by rw [hml]; rfl) (Steps.refl _) (argsL := [(.ref at40)]) (rest := []) (lenOf own_pd2 rfl) rfl (by show 2 * 0 + _ ≤ _; exact Nat.le_of_eq rfl) (hb hby at_62) (fun _ _ => ⟨rfl, e49, (by decide : 5 + 0 ≤ _), (by decide : 82 + 0 ≤ _)⟩)
    dsimp only [Pt.U, Pt.locs, Pt.cells, Pt.slots] at X62 l62 y62 z62 st62 hQ62
    subst l62 y62 z62
    obtain ⟨rfl, N62q, e62⟩ := hQ62
    obtain ⟨lo62, X62, N62⟩ : ∃ lo, Stand p l e _ (s.setVm T49.vm) m _ below meth c T62 lo _ _ ∧ Fr n0 lo := ⟨_, X62, Fr.app N40 N62q⟩
    refine own_via st62 ?_
    show own_Fin p e below G (T62.setTop (mkF m 65 #[.val (.int p0), .val (.int p1), .val (.int (1 : Int32)), .val (.int (f10 (1 : Int32) (p1 &&& (2147483647 : Int32)))), .val (.ref b27), .val (.ref at40), .val (.ref a49), .unset] [(.int (1 : Int32))]))
    have hc65 : ¬ ((1 : Int32) = (0 : Int32)) := by decide
    refine own_to (fun _ kz => XS.ifYes X62.here hx rfl (pc0 := 65) (pc' := 70) rfl (hb hby at_65) rfl ((if0 _ _).trans (feq hc65).2) (by decide) (by decide) kz) ?_
    show own_Fin p e below G (T62.setTop (mkF m 70 #[.val (.int p0), .val (.int p1), .val (.int (1 : Int32)), .val (.int (f10 (1 : Int32) (p1 &&& (2147483647 : Int32)))), .val (.ref b27), .val (.ref at40), .val (.ref a49), .unset] []))
    refine own_to (fun _ kz => XS.aload X62.here hx rfl (hb hby at_70) rfl (rfl)  kz) ?_
    show own_Fin p e below G (T62.setTop (mkF m 72 #[.val (.int p0), .val (.int p1), .val (.int (1 : Int32)), .val (.int (f10 (1 : Int32) (p1 &&& (2147483647 : Int32)))), .val (.ref b27), .val (.ref at40), .val (.ref a49), .unset] [(.ref at40)]))
    refine own_to (fun _ kz => XS.iloadN X62.here hx rfl (hb hby at_72) rfl  kz) ?_
    show own_Fin p e below G (T62.setTop (mkF m 73 #[.val (.int p0), .val (.int p1), .val (.int (1 : Int32)), .val (.int (f10 (1 : Int32) (p1 &&& (2147483647 : Int32)))), .val (.ref b27), .val (.ref at40), .val (.ref a49), .unset] [(.int (f10 (1 : Int32) (p1 &&& (2147483647 : Int32)))), (.ref at40)]))
    obtain ⟨_, _, ⟨T73, L73, k73, n73⟩, -, X73, hT73, hgr73, ⟨Lc73, hQ73, l73, y73, z73, hq73⟩, st73⟩ := own_callSS X62 hx (y := (⟨"com/example/tabularium/tabularium/model/Delivery", "fromText", "(Ljava/lang/String;I)Lcom/example/tabularium/tabularium/model/Delivery;"⟩ : MethodName)) hown (mvT hZ (hw _ (List.mem_of_getElem? (i := 38) rfl))) (mvT hZ (hw _ (List.mem_of_getElem? (i := 39) rfl))) (mvT hZ (hw _ (List.mem_of_getElem? (i := 3) rfl))) (mvT hZ (hw _ (List.mem_of_getElem? (i := 40) rfl))) (by decide) (backOfSH (W := 0) (rmft1 l Z a0 hw [] at40 (f10 (1 : Int32) (p1 &&& (2147483647 : Int32))) bt40 cz h49 n0 Z_49 PE40_at_62'1 PC40_at_62'1 PV40_at_62'1 PA40_at_62'1 S_COMPACT_STRINGS_at_62'1 hcz (own_max1 _)) hZ (hw _ (List.mem_of_getElem? (i := 40) rfl)) (hw _ (List.mem_of_getElem? (i := 3) rfl)) (by decide) (by decide) hEL hC49.1) (g := (mkF m 73 #[.val (.int p0), .val (.int p1), .val (.int (1 : Int32)), .val (.int (f10 (1 : Int32) (p1 &&& (2147483647 : Int32)))), .val (.ref b27), .val (.ref at40), .val (.ref a49), .unset] [(.int (f10 (1 : Int32) (p1 &&& (2147483647 : Int32)))), (.ref at40)])) rfl (by rw [hml]; rfl) (argsL := [(.ref at40), (.int (f10 (1 : Int32) (p1 &&& (2147483647 : Int32))))]) (rest := []) (lenOf own_pd5 rfl) rfl (by show 2 * 0 + _ ≤ _; exact Nat.le_of_eq rfl) (hb hby at_73) (fun _ _ => ⟨rfl, e62, (by decide : 5 + 7 ≤ _), (by decide : 82 + 114 ≤ _)⟩)
    dsimp only [Pt.U, Pt.locs, Pt.cells, Pt.slots] at X73 l73 y73 z73 st73 hQ73 hT73 hgr73 hq73
    subst l73 y73 z73
    have hS73 := State.Since.trans hS49 hT73 (Nat.le_trans hk49 (Nat.le_trans (Nat.le_of_eq (congrArg Array.size (Eq.symm e62))) hgr73))
    have hZ : Z.Warmed39 (s.setVm T73.vm).vm := State.Warmed39.trans (t := s.setVm T49.vm) hZ hT73.1
    have hown : (s.setVm T73.vm).vm.findClass "com/example/tabularium/tabularium/model/DeliveryTextPinLaw" = some m.cls := by rw [show (s.setVm T73.vm).vm = T73.vm from rfl, hT73.1.alike.findClass]; exact hown
    have hC73 := CHr.trans hC49 hq73
    obtain ⟨b73, rfl, N73q, szq73, Kp73, P73_0, P73_1, P73_2⟩ := hQ73
    have ne_b27_b73'1 : b27 ≠ b73 := Nat.ne_of_lt (Nat.lt_of_lt_of_le ((P33_0.keep Kp40).ext E49).lt szq73)
    have ne_at40_b73'1 : at40 ≠ b73 := Nat.ne_of_lt (Nat.lt_of_lt_of_le PE40_at_62'1.lt szq73)
    have ne_bt40_b73'1 : bt40 ≠ b73 := Nat.ne_of_lt (Nat.lt_of_lt_of_le PA40_at_62'1.lt szq73)
    have ne_a49_b73 : a49 ≠ b73 := Nat.ne_of_lt (Nat.lt_of_lt_of_le A49.lt szq73)
    have ne_b49_b73 : b49 ≠ b73 := Nat.ne_of_lt (Nat.lt_of_lt_of_le V49.lt szq73)
    have g_b73 : n0 ≤ b73 := Nat.le_trans Z_49 szq73
    obtain ⟨lo73, X73, N73⟩ : ∃ lo, Stand p l e _ (s.setVm T73.vm) m _ below meth c T73 lo _ _ ∧ Fr n0 lo := ⟨_, X73, Fr.app N62 N73q⟩
    refine own_via st73 ?_
    show own_Fin p e below G (T73.setTop (mkF m 76 #[.val (.int p0), .val (.int p1), .val (.int (1 : Int32)), .val (.int (f10 (1 : Int32) (p1 &&& (2147483647 : Int32)))), .val (.ref b27), .val (.ref at40), .val (.ref a49), .unset] [(.ref b73)]))
    refine own_to (fun _ kz => XS.astore X73.here hx rfl (hb hby at_76) rfl (rfl) (l' := #[.val (.int p0), .val (.int p1), .val (.int (1 : Int32)), .val (.int (f10 (1 : Int32) (p1 &&& (2147483647 : Int32)))), .val (.ref b27), .val (.ref at40), .val (.ref a49), .val (.ref b73)]) rfl kz) ?_
    show own_Fin p e below G (T73.setTop (mkF m 78 #[.val (.int p0), .val (.int p1), .val (.int (1 : Int32)), .val (.int (f10 (1 : Int32) (p1 &&& (2147483647 : Int32)))), .val (.ref b27), .val (.ref at40), .val (.ref a49), .val (.ref b73)] []))
    refine own_to (fun _ kz => XS.aload X73.here hx rfl (hb hby at_78) rfl (rfl)  kz) ?_
    show own_Fin p e below G (T73.setTop (mkF m 80 #[.val (.int p0), .val (.int p1), .val (.int (1 : Int32)), .val (.int (f10 (1 : Int32) (p1 &&& (2147483647 : Int32)))), .val (.ref b27), .val (.ref at40), .val (.ref a49), .val (.ref b73)] [(.ref b73)]))
    have Zz_80_Kp73'1 := Nat.le_trans Z_49 Kp73.1
    have Z_80'1 : n0 ≤ T73.heap.size := Zz_80_Kp73'1
    obtain ⟨cq80, kq80, qa80, qb80, qc80⟩ := isOf hZ rfl P73_0
    obtain ⟨_, _, ⟨T80, L80, k80, n80⟩, -, X80, ⟨Lc80, hQ80, l80, y80, z80⟩, st80⟩ := X73.virtualBack hx (y := (⟨"com/example/tabularium/tabularium/model/Delivery", "delivered", "()Z"⟩ : MethodName)) (z := (⟨"com/example/tabularium/tabularium/model/Delivery", "delivered", "()Z"⟩ : MethodName)) hown (mvT hZ (hw _ (List.mem_of_getElem? (i := 54) rfl))) (mvT hZ (hw _ (List.mem_of_getElem? (i := 55) rfl))) (notFace_of_selects (args := #[]) (mvT hZ (hw _ (List.mem_of_getElem? (i := 57) rfl)))) (mvT hZ (hw _ (List.mem_of_getElem? (i := 57) rfl))) (mvT hZ (hw _ (List.mem_of_getElem? (i := 56) rfl))) (by decide) (backOf (W := 0) (rm8 l Z a0 hw [] b73 (1 : Int32) T73.heap n0 Z_80'1 P73_0 P73_1) hZ (hw _ (List.mem_of_getElem? (i := 58) rfl)) (hw _ (List.mem_of_getElem? (i := 3) rfl)) (by decide) (by decide)) qa80 qc80 (g := (mkF m 80 #[.val (.int p0), .val (.int p1), .val (.int (1 : Int32)), .val (.int (f10 (1 : Int32) (p1 &&& (2147483647 : Int32)))), .val (.ref b27), .val (.ref at40), .val (.ref a49), .val (.ref b73)] [(.ref b73)])) rfl (by rw [hml]; rfl) (Steps.refl _) (argsL := []) (rest := []) (lenOf own_pd6 rfl) rfl (by show 2 * 0 + _ ≤ _; exact Nat.le_of_eq rfl) (hb hby at_80) (fun _ _ => ⟨rfl, rfl, (by decide : 12 + 0 ≤ _), (by decide : 196 + 0 ≤ _)⟩)
    dsimp only [Pt.U, Pt.locs, Pt.cells, Pt.slots] at X80 l80 y80 z80 st80 hQ80
    subst l80 y80 z80
    obtain ⟨rfl, N80q, e80⟩ := hQ80
    obtain ⟨lo80, X80, N80⟩ : ∃ lo, Stand p l e _ (s.setVm T73.vm) m _ below meth c T80 lo _ _ ∧ Fr n0 lo := ⟨_, X80, Fr.app N73 N80q⟩
    refine own_via st80 ?_
    show own_Fin p e below G (T80.setTop (mkF m 83 #[.val (.int p0), .val (.int p1), .val (.int (1 : Int32)), .val (.int (f10 (1 : Int32) (p1 &&& (2147483647 : Int32)))), .val (.ref b27), .val (.ref at40), .val (.ref a49), .val (.ref b73)] [(.int (f8 (1 : Int32)))]))
    refine own_to (fun _ kz => XS.iloadN X80.here hx rfl (hb hby at_83) rfl  kz) ?_
    show own_Fin p e below G (T80.setTop (mkF m 84 #[.val (.int p0), .val (.int p1), .val (.int (1 : Int32)), .val (.int (f10 (1 : Int32) (p1 &&& (2147483647 : Int32)))), .val (.ref b27), .val (.ref at40), .val (.ref a49), .val (.ref b73)] [(.int (1 : Int32)), (.int (f8 (1 : Int32)))]))
    have hc84 : (f8 (1 : Int32)) = (1 : Int32) := (by decide)
    refine own_to (fun _ kz => XS.icmpNo X80.here hx rfl (hb hby at_84) rfl (teq hc84).2 kz) ?_
    show own_Fin p e below G (T80.setTop (mkF m 87 #[.val (.int p0), .val (.int p1), .val (.int (1 : Int32)), .val (.int (f10 (1 : Int32) (p1 &&& (2147483647 : Int32)))), .val (.ref b27), .val (.ref at40), .val (.ref a49), .val (.ref b73)] []))
    refine own_to (fun _ kz => XS.aload X80.here hx rfl (hb hby at_87) rfl (rfl)  kz) ?_
    show own_Fin p e below G (T80.setTop (mkF m 89 #[.val (.int p0), .val (.int p1), .val (.int (1 : Int32)), .val (.int (f10 (1 : Int32) (p1 &&& (2147483647 : Int32)))), .val (.ref b27), .val (.ref at40), .val (.ref a49), .val (.ref b73)] [(.ref b73)]))
    obtain ⟨cq89, kq89, qa89, qb89, qc89⟩ := isOf hZ e80 P73_0
    obtain ⟨_, _, ⟨T89, L89, k89, n89⟩, -, X89, ⟨Lc89, hQ89, l89, y89, z89⟩, st89⟩ := X80.virtualBack hx (y := (⟨"com/example/tabularium/tabularium/model/Delivery", "attempts", "()I"⟩ : MethodName)) (z := (⟨"com/example/tabularium/tabularium/model/Delivery", "attempts", "()I"⟩ : MethodName)) hown (mvT hZ (hw _ (List.mem_of_getElem? (i := 59) rfl))) (mvT hZ (hw _ (List.mem_of_getElem? (i := 60) rfl))) (notFace_of_selects (args := #[]) (mvT hZ (hw _ (List.mem_of_getElem? (i := 62) rfl)))) (mvT hZ (hw _ (List.mem_of_getElem? (i := 62) rfl))) (mvT hZ (hw _ (List.mem_of_getElem? (i := 61) rfl))) (by decide) (backOf (W := 0) (rm9 l Z a0 hw [] b73 (f10 (1 : Int32) (p1 &&& (2147483647 : Int32))) T73.heap n0 Z_80'1 P73_0 P73_2) hZ (hw _ (List.mem_of_getElem? (i := 63) rfl)) (hw _ (List.mem_of_getElem? (i := 3) rfl)) (by decide) (by decide)) qa89 qc89 (g := (mkF m 89 #[.val (.int p0), .val (.int p1), .val (.int (1 : Int32)), .val (.int (f10 (1 : Int32) (p1 &&& (2147483647 : Int32)))), .val (.ref b27), .val (.ref at40), .val (.ref a49), .val (.ref b73)] [(.ref b73)])) rfl (by rw [hml]; rfl) (Steps.refl _) (argsL := []) (rest := []) (lenOf own_pd7 rfl) rfl (by show 2 * 0 + _ ≤ _; exact Nat.le_of_eq rfl) (hb hby at_89) (fun _ _ => ⟨rfl, e80, (by decide : 12 + 0 ≤ _), (by decide : 196 + 0 ≤ _)⟩)
    dsimp only [Pt.U, Pt.locs, Pt.cells, Pt.slots] at X89 l89 y89 z89 st89 hQ89
    subst l89 y89 z89
    obtain ⟨rfl, N89q, e89⟩ := hQ89
    obtain ⟨lo89, X89, N89⟩ : ∃ lo, Stand p l e _ (s.setVm T73.vm) m _ below meth c T89 lo _ _ ∧ Fr n0 lo := ⟨_, X89, Fr.app N80 N89q⟩
    refine own_via st89 ?_
    show own_Fin p e below G (T89.setTop (mkF m 92 #[.val (.int p0), .val (.int p1), .val (.int (1 : Int32)), .val (.int (f10 (1 : Int32) (p1 &&& (2147483647 : Int32)))), .val (.ref b27), .val (.ref at40), .val (.ref a49), .val (.ref b73)] [(.int (f9 (f10 (1 : Int32) (p1 &&& (2147483647 : Int32)))))]))
    refine own_to (fun _ kz => XS.iloadN X89.here hx rfl (hb hby at_92) rfl  kz) ?_
    show own_Fin p e below G (T89.setTop (mkF m 93 #[.val (.int p0), .val (.int p1), .val (.int (1 : Int32)), .val (.int (f10 (1 : Int32) (p1 &&& (2147483647 : Int32)))), .val (.ref b27), .val (.ref at40), .val (.ref a49), .val (.ref b73)] [(.int (f10 (1 : Int32) (p1 &&& (2147483647 : Int32)))), (.int (f9 (f10 (1 : Int32) (p1 &&& (2147483647 : Int32)))))]))
    have hc93 : (f9 (f10 (1 : Int32) (p1 &&& (2147483647 : Int32)))) = (f10 (1 : Int32) (p1 &&& (2147483647 : Int32))) := rfl
    refine own_to (fun _ kz => XS.icmpNo X89.here hx rfl (hb hby at_93) rfl (teq hc93).2 kz) ?_
    show own_Fin p e below G (T89.setTop (mkF m 96 #[.val (.int p0), .val (.int p1), .val (.int (1 : Int32)), .val (.int (f10 (1 : Int32) (p1 &&& (2147483647 : Int32)))), .val (.ref b27), .val (.ref at40), .val (.ref a49), .val (.ref b73)] []))
    refine own_to (fun _ kz => XS.iconst X89.here hx rfl (hb hby at_96) kz) ?_
    show own_Fin p e below G (T89.setTop (mkF m 97 #[.val (.int p0), .val (.int p1), .val (.int (1 : Int32)), .val (.int (f10 (1 : Int32) (p1 &&& (2147483647 : Int32)))), .val (.ref b27), .val (.ref at40), .val (.ref a49), .val (.ref b73)] [(.int (1 : Int32))]))
    refine own_to (fun _ kz => XS.goto X89.here hx rfl (pc0 := 97) (pc' := 101) rfl (hb hby at_97) (by decide) (by decide) kz) ?_
    show own_Fin p e below G (T89.setTop (mkF m 101 #[.val (.int p0), .val (.int p1), .val (.int (1 : Int32)), .val (.int (f10 (1 : Int32) (p1 &&& (2147483647 : Int32)))), .val (.ref b27), .val (.ref at40), .val (.ref a49), .val (.ref b73)] [(.int (1 : Int32))]))
    exact own_retHN (vm₁ := T73.vm) X89 hx hS73 (Nat.le_refl _) hC73 hZ hEL e89 hlk hG (t := .boolean) Bd.returns (by simp) (hb hby at_101) (by decide) (by decide) (by rw [e89]; exact ⟨rfl, N89, trivial⟩)
set_option maxRecDepth 65536 in
set_option maxHeartbeats 40000000 in
theorem comes_1 {Post : Tables → Env → Array Value → State → Outcome → State → Prop} (hpost : ∀ tb e args s v u, (limb_1_1.after args s (.returned v) u = true ∧ limb_1_2.after args s (.returned v) u = true ∧ True) → ReturnedEndW s (.returned v) u (Jvm.fieldLocs frame_1_writes args s ++ Jvm.arrayLocs frame_1_arrays args s ++ Jvm.staticLocs frame_1_statics s) 24 4224 → Post tb e args s (.returned v) u) :
    ArmFor flags0 classFile x code maxLocals ret World_1 tables_1 room_1 Calls_1 rest_1 Pre_1 Post := by
  intro l hfl _ _ p e ha hc hk s m args below hf hA hF happ hP
  obtain ⟨hcalls, hrest, hpre⟩ := hP
  obtain ⟨-, -, -, hnamed, -, -, -, hat⟩ := (Spec.applies_iff hf).mp happ
  obtain ⟨hg, hn⟩ := and_e (Cond.before_iff.mp (show (Jvm.Cond.and given_1 narrow_1).before args s = true from hpre))
  obtain ⟨gg1, gg2⟩ := and_e hg
  obtain ⟨gg3, gg4⟩ := and_e gg2
  obtain ⟨w0, w1, rfl⟩ : ∃ w0 w1 : Value, args = #[w0, w1] := by
    have hs : args.size = 2 := by simpa [Cond.value, given_1] using gg1
    obtain ⟨L⟩ := args
    match L, hs with
    | [w0, w1], _ => exact ⟨w0, w1, rfl⟩
  have hw := fun d (hd : d ∈ tables_1) => atoms_spec (ws := Jvm.Cond.code x code maxLocals ret :: tables_1) hat d (List.mem_cons_of_mem _ hd)
  obtain ⟨i0, ei0⟩ := is_v gg3
  obtain rfl : w0 = (.int i0) := Option.some.inj ei0
  obtain ⟨i1, ei1⟩ := is_v gg4
  obtain rfl : w1 = (.int i1) := Option.some.inj ei1
  obtain ⟨hsets, -⟩ := atoms_of _ (rest_1_c_eq ▸ (show rest_1_c.before _ s = true from hrest))
  obtain ⟨sv_COMPACT_STRINGS, se_COMPACT_STRINGS⟩ := is_v (Cond.before_iff.mp (hsets _ (List.mem_of_getElem? (i := 1) rfl)))
  have S_COMPACT_STRINGS : Sta s s.heap "java/lang/String" "COMPACT_STRINGS" "Z" (.int sv_COMPACT_STRINGS) := Sta.start se_COMPACT_STRINGS (Or.inl (hsets _ (List.mem_of_getElem? (i := 0) rfl)))
  have sn_COMPACT_STRINGS : ¬ (sv_COMPACT_STRINGS = (0 : Int32)) := gotF (Cond.eq_ints se_COMPACT_STRINGS (Term.int_eval (0))) (not_v (Cond.before_iff.mp (hsets _ (List.mem_of_getElem? (i := 2) rfl))))
  have hCH := CHv.start (own_EW hw) (fun q hq => hcalls.1 q hq) (hsets _ (List.mem_of_getElem? (i := 2) rfl)) (hw _ (List.mem_of_getElem? (i := 27) rfl)) (hw _ (List.mem_of_getElem? (i := 26) rfl))
  obtain ⟨n, o, h1, h2, h3, v, L, rfl, ⟨hv, N, -⟩, -, hq⟩ := rm0 l s _ hw tables_1 i0 i1 sv_COMPACT_STRINGS s.heap s.heap.size (Nat.le_refl _) S_COMPACT_STRINGS sn_COMPACT_STRINGS p e ha hc hk s m _ below hf ((Spec.applies_iff_loose hf).mp happ).1 ⟨rfl, State.Warmed39.refl s, rfl, hCH⟩ trivial
  obtain rfl : v = some (.int 1) := hv
  refine ⟨n, _, h1, h2, h3, hpost _ _ _ _ _ _ ⟨Cond.after_iff.mpr rfl, Cond.after_iff.mpr (eq_i res_at (Term.int_eval (1)) rfl), trivial⟩ ⟨hq.1, hq.2.1, hq.2.2.1, (hq.2.2.2.sift fun y hy => Or.inr (N y hy)).mono (by decide) (by decide)⟩⟩
theorem main_1_1 : Claimed_1_1 := comes_1 fun _ _ _ _ _ _ h hF => ⟨h.1, hF⟩
theorem main_1_2 : Claimed_1_2 := comes_1 fun _ _ _ _ _ _ h hF => ⟨h.2.1, hF⟩
end Jvm.Pilot.@@N@@
namespace Jvm.Pilot.@@N@@
open Jvm Jvm.ClassFile Sem Op Lib Jvm.Free Jvm.Stand Jvm.Pilot.@@N@@.Jvm.D
/-! MADE BY PROGRAM (witnessworld.py) out of the Statement's table words and the real class files: 19 classes; the members and pool entries that the words name. The judged class is class 1, her method 1. -/
namespace start1
open Jvm.ClassFile
def u (s : String) : CpInfo := .utf8 (stringToUtf16 s)
/-- a pool by its gaps: so many unusable entries, then the entry; so many at the end -/
def gap : Nat → List CpInfo → List CpInfo
  | 0, r => r
  | n + 1, r => .unusable :: gap n r
def poolList (es : List (Nat × CpInfo)) (last : Nat) : List CpInfo := es.foldr (fun e r => gap e.1 (e.2 :: r)) (gap last [])
def pool (es : List (Nat × CpInfo)) (last : Nat) : Array CpInfo := ⟨poolList es last⟩
def fileOf (pool : Array CpInfo) (this : Nat) (attrs : Array Attribute := #[]) (ms : Array MethodInfo := #[]) (fl : Nat := 33) (sup : Nat := 0) (ifs : Array Nat := #[]) (fds : Array FieldInfo := #[]) : ClassFile where
  minorVersion := 0
  majorVersion := 65
  constantPool := pool
  accessFlags := fl
  thisClass := this
  superClass := sup
  interfaces := ifs
  fields := fds
  methods := ms
  attributes := attrs
def plain (name : String) (sup : Option ClassId) : Class where
  name := name
  kind := .ordinary
  loader := none
  accessFlags := 33
  super := sup
  interfaces := #[]
  cf := none
  fields := #[]
  methods := #[]
  instanceTypes := #[]
  staticTypes := #[]
  resolved := #[]
  callSites := []
  init := .initialized
  statics := none
  mirror := none

def pool0 : Array CpInfo := pool [(5, u "<init>"), (0, u "()V"), (1, .class_ 10), (1, u "java/lang/Object")] 113

def k0c0 : Code := { maxStack := 0, maxLocals := 1, code := object_method_1_code, exceptionTable := #[], attributes := #[] }
def k0m0 : Method := { name := "<init>", desc := "()V", sig := { parameters := [], returnType := none }, accessFlags := 1, code := some k0c0 }
/-- java/lang/Object -/
def k0 : Class := { plain "java/lang/Object" none with
  accessFlags := 33
  interfaces := #[]
  cf := some (fileOf pool0 8 #[] #[{ accessFlags := 1, nameIndex := 5, descriptorIndex := 6, attributes := #[] }] 33 0 #[] #[])
  fields := #[]
  methods := #[k0m0]
  instanceTypes := #[]
  staticTypes := #[]
  resolved := Array.replicate 124 none
  statics := none }

def pool1 : Array CpInfo := pool [(2, .class_ 4), (1, u "java/lang/Object"), (0, u "<init>"), (0, u "()V"), (0, .integer 2147483647), (0, .methodref 9 10), (0, .class_ 11), (0, .nameAndType 12 13), (0, u "java/lang/Math"), (0, u "max"), (0, u "(II)I"), (0, .class_ 15), (0, u "com/example/tabularium/tabularium/model/Delivery"), (0, .methodref 14 17), (0, .nameAndType 5 18), (0, u "(ZI)V"), (0, .methodref 14 20), (0, .nameAndType 21 22), (0, u "text"), (0, u "()Ljava/lang/String;"), (0, .string 24), (0, u "delivered"), (0, .string 26), (0, u "pending"), (0, .methodref 28 29), (0, .class_ 30), (0, .nameAndType 31 32), (0, u "java/lang/String"), (0, u "equals"), (0, u "(Ljava/lang/Object;)Z"), (0, .methodref 14 34), (0, .nameAndType 35 36), (0, u "fromText"), (0, u "(Ljava/lang/String;I)Lcom/example/tabularium/tabularium/model/Delivery;"), (0, .methodref 14 38), (0, .nameAndType 24 39), (0, u "()Z"), (0, .methodref 14 41), (0, .nameAndType 42 43), (0, u "attempts"), (0, u "()I"), (0, .class_ 45), (0, u "com/example/tabularium/tabularium/model/DeliveryTextPinLaw"), (2, u "law"), (0, u "(II)Z")] 3

def k1m0 : Method := { name := "<init>", desc := "()V", sig := { parameters := [], returnType := none }, accessFlags := 1, code := none }
def k1c1 : Code := { maxStack := 4, maxLocals := 8, code := code, exceptionTable := #[], attributes := #[] }
def k1m1 : Method := { name := "law", desc := "(II)Z", sig := { parameters := [.int, .int], returnType := some .boolean }, accessFlags := 9, code := some k1c1 }
/-- com/example/tabularium/tabularium/model/DeliveryTextPinLaw -/
def k1 : Class := { plain "com/example/tabularium/tabularium/model/DeliveryTextPinLaw" (some 0) with
  accessFlags := 49
  interfaces := #[]
  cf := some (fileOf pool1 44 #[] #[{ accessFlags := 1, nameIndex := 5, descriptorIndex := 6, attributes := #[] }, { accessFlags := 9, nameIndex := 48, descriptorIndex := 49, attributes := #[] }] 49 2 #[] #[])
  fields := #[]
  methods := #[k1m0, k1m1]
  instanceTypes := #[]
  staticTypes := #[]
  resolved := Array.replicate 53 none
  statics := none }

def pool2 : Array CpInfo := pool [(1, .methodref 2 3), (0, .class_ 4), (0, .nameAndType 5 6), (0, u "java/lang/Object"), (0, u "<init>"), (0, u "()V"), (0, .class_ 8), (0, u "java/lang/Record")] 13

def k2c0 : Code := { maxStack := 1, maxLocals := 1, code := jdk_30_method_1_code, exceptionTable := #[], attributes := #[] }
def k2m0 : Method := { name := "<init>", desc := "()V", sig := { parameters := [], returnType := none }, accessFlags := 4, code := some k2c0 }
/-- java/lang/Record -/
def k2 : Class := { plain "java/lang/Record" (some 0) with
  accessFlags := 1057
  interfaces := #[]
  cf := some (fileOf pool2 7 #[] #[{ accessFlags := 4, nameIndex := 5, descriptorIndex := 6, attributes := #[] }] 1057 2 #[] #[])
  fields := #[]
  methods := #[k2m0]
  instanceTypes := #[]
  staticTypes := #[]
  resolved := Array.replicate 22 none
  statics := none }

def pool3 : Array CpInfo := pool [(1, .methodref 2 3), (0, .class_ 4), (0, .nameAndType 5 6), (0, u "java/lang/Record"), (0, u "<init>"), (0, u "()V"), (9, .fieldref 17 18), (0, .class_ 19), (0, .nameAndType 20 21), (0, u "com/example/tabularium/tabularium/model/Delivery"), (0, u "delivered"), (0, u "Z"), (0, .fieldref 17 23), (0, .nameAndType 24 25), (0, u "attempts"), (0, u "I"), (2, u "PENDING"), (0, u "Lcom/example/tabularium/tabularium/model/Delivery;"), (0, .string 31), (0, u "pending"), (0, .methodref 33 34), (0, .class_ 35), (0, .nameAndType 36 37), (0, u "java/lang/String"), (0, u "equals"), (0, u "(Ljava/lang/Object;)Z"), (0, .string 20), (3, .methodref 17 43), (0, .nameAndType 5 44), (0, u "(ZI)V"), (17, u "PENDING_TEXT"), (0, u "Ljava/lang/String;"), (1, u "DELIVERED_TEXT"), (5, u "fromText"), (0, u "(Ljava/lang/String;I)Lcom/example/tabularium/tabularium/model/Delivery;"), (2, u "text"), (0, u "()Ljava/lang/String;"), (0, u "()I"), (0, u "()Z")] 32

def k3c0 : Code := { maxStack := 3, maxLocals := 3, code := prog_63_method_1_code, exceptionTable := #[], attributes := #[] }
def k3m0 : Method := { name := "<init>", desc := "(ZI)V", sig := { parameters := [.boolean, .int], returnType := none }, accessFlags := 1, code := some k3c0 }
def k3c1 : Code := { maxStack := 4, maxLocals := 2, code := prog_63_method_3_code, exceptionTable := #[], attributes := #[] }
def k3m1 : Method := { name := "fromText", desc := "(Ljava/lang/String;I)Lcom/example/tabularium/tabularium/model/Delivery;", sig := { parameters := [(.object "java/lang/String"), .int], returnType := some (.object "com/example/tabularium/tabularium/model/Delivery") }, accessFlags := 9, code := some k3c1 }
def k3c2 : Code := { maxStack := 1, maxLocals := 1, code := prog_63_method_5_code, exceptionTable := #[], attributes := #[] }
def k3m2 : Method := { name := "text", desc := "()Ljava/lang/String;", sig := { parameters := [], returnType := some (.object "java/lang/String") }, accessFlags := 1, code := some k3c2 }
def k3c3 : Code := { maxStack := 1, maxLocals := 1, code := prog_63_method_9_code, exceptionTable := #[], attributes := #[] }
def k3m3 : Method := { name := "delivered", desc := "()Z", sig := { parameters := [], returnType := some .boolean }, accessFlags := 1, code := some k3c3 }
def k3c4 : Code := { maxStack := 1, maxLocals := 1, code := prog_63_method_10_code, exceptionTable := #[], attributes := #[] }
def k3m4 : Method := { name := "attempts", desc := "()I", sig := { parameters := [], returnType := some .int }, accessFlags := 1, code := some k3c4 }
/-- com/example/tabularium/tabularium/model/Delivery -/
def k3 : Class := { plain "com/example/tabularium/tabularium/model/Delivery" (some 2) with
  accessFlags := 49
  interfaces := #[]
  cf := some (fileOf pool3 17 #[] #[{ accessFlags := 1, nameIndex := 5, descriptorIndex := 44, attributes := #[] }, { accessFlags := 9, nameIndex := 71, descriptorIndex := 72, attributes := #[] }, { accessFlags := 1, nameIndex := 75, descriptorIndex := 76, attributes := #[] }, { accessFlags := 1, nameIndex := 20, descriptorIndex := 78, attributes := #[] }, { accessFlags := 1, nameIndex := 24, descriptorIndex := 77, attributes := #[] }] 49 2 #[] #[{ accessFlags := 18, nameIndex := 20, descriptorIndex := 21, attributes := #[] }, { accessFlags := 18, nameIndex := 24, descriptorIndex := 25, attributes := #[] }, { accessFlags := 26, nameIndex := 62, descriptorIndex := 63, attributes := #[] }, { accessFlags := 26, nameIndex := 65, descriptorIndex := 63, attributes := #[] }, { accessFlags := 26, nameIndex := 28, descriptorIndex := 29, attributes := #[] }])
  fields := #[{ name := "delivered", type := .boolean, accessFlags := 18, slot := 0, constantValue := 0 }, { name := "attempts", type := .int, accessFlags := 18, slot := 1, constantValue := 0 }, { name := "PENDING_TEXT", type := (.object "java/lang/String"), accessFlags := 26, slot := 0, constantValue := 0 }, { name := "DELIVERED_TEXT", type := (.object "java/lang/String"), accessFlags := 26, slot := 1, constantValue := 0 }, { name := "PENDING", type := (.object "com/example/tabularium/tabularium/model/Delivery"), accessFlags := 26, slot := 2, constantValue := 0 }]
  methods := #[k3m0, k3m1, k3m2, k3m3, k3m4]
  instanceTypes := #[.boolean, .int]
  staticTypes := #[(.object "java/lang/String"), (.object "java/lang/String"), (.object "com/example/tabularium/tabularium/model/Delivery")]
  resolved := Array.replicate 111 none
  statics := none }

def pool4 : Array CpInfo := pool [(1, .class_ 2), (0, u "java/io/Serializable"), (0, .class_ 4), (0, u "java/lang/Object")] 2

/-- java/io/Serializable -/
def k4 : Class := { plain "java/io/Serializable" (some 0) with
  accessFlags := 1537
  interfaces := #[]
  cf := some (fileOf pool4 1 #[] #[] 1537 3 #[] #[])
  fields := #[]
  methods := #[]
  instanceTypes := #[]
  staticTypes := #[]
  resolved := Array.replicate 7 none
  statics := none }

def pool5 : Array CpInfo := pool [(1, .class_ 2), (0, u "java/lang/Comparable"), (0, .class_ 4), (0, u "java/lang/Object")] 7

/-- java/lang/Comparable -/
def k5 : Class := { plain "java/lang/Comparable" (some 0) with
  accessFlags := 1537
  interfaces := #[]
  cf := some (fileOf pool5 1 #[] #[] 1537 3 #[] #[])
  fields := #[]
  methods := #[]
  instanceTypes := #[]
  staticTypes := #[]
  resolved := Array.replicate 12 none
  statics := none }

def pool6 : Array CpInfo := pool [(2, .class_ 4), (1, u "java/lang/CharSequence"), (42, .class_ 48), (0, u "java/lang/CharSequence$1CodePointIterator"), (10, .class_ 60), (0, u "java/lang/CharSequence$1CharIterator"), (5, .class_ 67), (0, u "java/lang/Object")] 63

/-- java/lang/CharSequence -/
def k6 : Class := { plain "java/lang/CharSequence" (some 0) with
  accessFlags := 1537
  interfaces := #[]
  cf := some (fileOf pool6 2 #[.nestMembers #[47, 59]] #[] 1537 66 #[] #[])
  fields := #[]
  methods := #[]
  instanceTypes := #[]
  staticTypes := #[]
  resolved := Array.replicate 131 none
  statics := none }

def pool7 : Array CpInfo := pool [(1, .class_ 2), (0, u "java/lang/constant/Constable"), (0, .class_ 4), (0, u "java/lang/Object")] 6

/-- java/lang/constant/Constable -/
def k7 : Class := { plain "java/lang/constant/Constable" (some 0) with
  accessFlags := 1537
  interfaces := #[]
  cf := some (fileOf pool7 1 #[] #[] 1537 3 #[] #[])
  fields := #[]
  methods := #[]
  instanceTypes := #[]
  staticTypes := #[]
  resolved := Array.replicate 11 none
  statics := none }

def pool8 : Array CpInfo := pool [(1, .class_ 2), (0, u "java/lang/constant/ConstantDesc"), (0, .class_ 4), (0, u "java/lang/Object")] 32

/-- java/lang/constant/ConstantDesc -/
def k8 : Class := { plain "java/lang/constant/ConstantDesc" (some 0) with
  accessFlags := 1537
  interfaces := #[]
  cf := some (fileOf pool8 1 #[] #[] 1537 3 #[] #[])
  fields := #[]
  methods := #[]
  instanceTypes := #[]
  staticTypes := #[]
  resolved := Array.replicate 37 none
  statics := none }

def pool9 : Array CpInfo := pool [(2, .class_ 4), (1, u "java/lang/Object"), (0, u "<init>"), (0, u "()V"), (2, .fieldref 10 11), (0, .class_ 12), (0, .nameAndType 13 14), (0, u "java/lang/String"), (0, u "value"), (0, u "[B"), (0, .fieldref 10 16), (0, .nameAndType 17 18), (0, u "coder"), (0, u "B"), (2, u "hash"), (0, u "I"), (2, u "hashIsZero"), (0, u "Z"), (11, .fieldref 10 39), (0, .nameAndType 40 26), (0, u "COMPACT_STRINGS"), (66, .class_ 109), (1, u "java/lang/StringLatin1"), (431, .methodref 107 542), (0, .nameAndType 543 544), (0, u "equals"), (0, u "([B[B)Z"), (28, u "(Ljava/lang/Object;)Z"), (1, .class_ 576), (0, u "java/lang/CharSequence"), (22, u "CASE_INSENSITIVE_ORDER"), (0, u "Ljava/util/Comparator;"), (500, u "serialPersistentFields"), (0, u "[Ljava/io/ObjectStreamField;"), (0, .class_ 1104), (0, u "java/lang/String$CaseInsensitiveComparator"), (1, .class_ 1107), (0, u "java/io/Serializable"), (0, .class_ 1109), (0, u "java/lang/Comparable"), (0, .class_ 1111), (0, u "java/lang/constant/Constable"), (0, .class_ 1113), (0, u "java/lang/constant/ConstantDesc"), (2, u "serialVersionUID"), (0, u "J"), (3, u "REPL"), (0, u "C"), (2, u "LATIN1"), (1, u "UTF16")] 323

def k9m0 : Method := { name := "<init>", desc := "()V", sig := { parameters := [], returnType := none }, accessFlags := 1, code := none }
def k9c1 : Code := { maxStack := 2, maxLocals := 3, code := jdk_42_method_66_code, exceptionTable := #[], attributes := #[] }
def k9m1 : Method := { name := "equals", desc := "(Ljava/lang/Object;)Z", sig := { parameters := [(.object "java/lang/Object")], returnType := some .boolean }, accessFlags := 1, code := some k9c1 }
/-- java/lang/String -/
def k9 : Class := { plain "java/lang/String" (some 0) with
  accessFlags := 49
  interfaces := #[4, 5, 6, 7, 8]
  cf := some (fileOf pool9 10 #[.nestMembers #[1103]] #[{ accessFlags := 1, nameIndex := 5, descriptorIndex := 6, attributes := #[] }, { accessFlags := 1, nameIndex := 543, descriptorIndex := 573, attributes := #[] }] 49 2 #[1106, 1108, 575, 1110, 1112] #[{ accessFlags := 18, nameIndex := 13, descriptorIndex := 14, attributes := #[] }, { accessFlags := 18, nameIndex := 17, descriptorIndex := 18, attributes := #[] }, { accessFlags := 2, nameIndex := 21, descriptorIndex := 22, attributes := #[] }, { accessFlags := 2, nameIndex := 25, descriptorIndex := 26, attributes := #[] }, { accessFlags := 26, nameIndex := 1116, descriptorIndex := 1117, attributes := #[] }, { accessFlags := 24, nameIndex := 40, descriptorIndex := 26, attributes := #[] }, { accessFlags := 26, nameIndex := 1101, descriptorIndex := 1102, attributes := #[] }, { accessFlags := 26, nameIndex := 1121, descriptorIndex := 1122, attributes := #[] }, { accessFlags := 25, nameIndex := 599, descriptorIndex := 600, attributes := #[] }, { accessFlags := 24, nameIndex := 1125, descriptorIndex := 18, attributes := #[] }, { accessFlags := 24, nameIndex := 1127, descriptorIndex := 18, attributes := #[] }])
  fields := #[{ name := "value", type := (.array .byte), accessFlags := 18, slot := 0, constantValue := 0 }, { name := "coder", type := .byte, accessFlags := 18, slot := 1, constantValue := 0 }, { name := "hash", type := .int, accessFlags := 2, slot := 2, constantValue := 0 }, { name := "hashIsZero", type := .boolean, accessFlags := 2, slot := 3, constantValue := 0 }, { name := "serialVersionUID", type := .long, accessFlags := 26, slot := 0, constantValue := 0 }, { name := "COMPACT_STRINGS", type := .boolean, accessFlags := 24, slot := 1, constantValue := 0 }, { name := "serialPersistentFields", type := (.array (.object "java/io/ObjectStreamField")), accessFlags := 26, slot := 2, constantValue := 0 }, { name := "REPL", type := .char, accessFlags := 26, slot := 3, constantValue := 0 }, { name := "CASE_INSENSITIVE_ORDER", type := (.object "java/util/Comparator"), accessFlags := 25, slot := 4, constantValue := 0 }, { name := "LATIN1", type := .byte, accessFlags := 24, slot := 5, constantValue := 0 }, { name := "UTF16", type := .byte, accessFlags := 24, slot := 6, constantValue := 0 }]
  methods := #[k9m0, k9m1]
  instanceTypes := #[(.array .byte), .byte, .int, .boolean]
  staticTypes := #[.long, .boolean, (.array (.object "java/io/ObjectStreamField")), .char, (.object "java/util/Comparator"), .byte, .byte]
  resolved := Array.replicate 1451 none
  statics := some 0 }

def pool10 : Array CpInfo := pool [(4, .class_ 6), (1, u "java/lang/Object"), (0, u "<init>"), (0, u "()V"), (5, .class_ 16), (1, u "java/lang/StringLatin1"), (104, u "$assertionsDisabled"), (0, u "Z"), (98, .class_ 223), (1, u "java/lang/StringLatin1$LinesSpliterator"), (57, u "equals"), (0, u "([B[B)Z"), (107, .class_ 391), (0, u "java/lang/StringLatin1$CharsSpliterator")] 3

def k10m0 : Method := { name := "<init>", desc := "()V", sig := { parameters := [], returnType := none }, accessFlags := 0, code := none }
def k10c1 : Code := { maxStack := 3, maxLocals := 3, code := jdk_43_method_13_code, exceptionTable := #[], attributes := #[] }
def k10m1 : Method := { name := "equals", desc := "([B[B)Z", sig := { parameters := [(.array .byte), (.array .byte)], returnType := some .boolean }, accessFlags := 9, code := some k10c1 }
/-- java/lang/StringLatin1 -/
def k10 : Class := { plain "java/lang/StringLatin1" (some 0) with
  accessFlags := 48
  interfaces := #[]
  cf := some (fileOf pool10 14 #[.nestMembers #[390, 221]] #[{ accessFlags := 0, nameIndex := 7, descriptorIndex := 8, attributes := #[] }, { accessFlags := 9, nameIndex := 281, descriptorIndex := 282, attributes := #[] }] 48 4 #[] #[{ accessFlags := 4120, nameIndex := 121, descriptorIndex := 122, attributes := #[] }])
  fields := #[{ name := "$assertionsDisabled", type := .boolean, accessFlags := 4120, slot := 0, constantValue := 0 }]
  methods := #[k10m0, k10m1]
  instanceTypes := #[]
  staticTypes := #[.boolean]
  resolved := Array.replicate 395 none
  statics := none }

def pool11 : Array CpInfo := pool [(1, .class_ 2), (0, u "java/lang/Math"), (1, .class_ 6), (1, u "java/lang/Object"), (0, u "<init>"), (0, u "()V"), (89, .class_ 100), (1, u "java/lang/Math$RandomNumberGeneratorHolder"), (71, u "negativeZeroFloatBits"), (0, u "J"), (2, u "negativeZeroDoubleBits"), (21, u "max"), (46, u "$assertionsDisabled"), (0, u "Z"), (88, u "(II)I"), (2, u "twoToTheDoubleScaleDown"), (0, u "D"), (4, u "twoToTheDoubleScaleUp"), (9, u "E"), (3, u "PI"), (2, u "TAU"), (2, u "DEGREES_TO_RADIANS"), (0, u "RADIANS_TO_DEGREES")] 94

def k11m0 : Method := { name := "<init>", desc := "()V", sig := { parameters := [], returnType := none }, accessFlags := 2, code := none }
def k11c1 : Code := { maxStack := 2, maxLocals := 2, code := jdk_29_method_65_code, exceptionTable := #[], attributes := #[] }
def k11m1 : Method := { name := "max", desc := "(II)I", sig := { parameters := [.int, .int], returnType := some .int }, accessFlags := 9, code := some k11c1 }
/-- java/lang/Math -/
def k11 : Class := { plain "java/lang/Math" (some 0) with
  accessFlags := 49
  interfaces := #[]
  cf := some (fileOf pool11 1 #[.nestMembers #[98]] #[{ accessFlags := 2, nameIndex := 7, descriptorIndex := 8, attributes := #[] }, { accessFlags := 9, nameIndex := 198, descriptorIndex := 335, attributes := #[] }] 49 4 #[] #[{ accessFlags := 25, nameIndex := 354, descriptorIndex := 339, attributes := #[] }, { accessFlags := 25, nameIndex := 358, descriptorIndex := 339, attributes := #[] }, { accessFlags := 25, nameIndex := 361, descriptorIndex := 339, attributes := #[] }, { accessFlags := 26, nameIndex := 364, descriptorIndex := 339, attributes := #[] }, { accessFlags := 26, nameIndex := 365, descriptorIndex := 339, attributes := #[] }, { accessFlags := 26, nameIndex := 172, descriptorIndex := 173, attributes := #[] }, { accessFlags := 26, nameIndex := 176, descriptorIndex := 173, attributes := #[] }, { accessFlags := 8, nameIndex := 344, descriptorIndex := 339, attributes := #[] }, { accessFlags := 8, nameIndex := 338, descriptorIndex := 339, attributes := #[] }, { accessFlags := 4120, nameIndex := 245, descriptorIndex := 246, attributes := #[] }])
  fields := #[{ name := "E", type := .double, accessFlags := 25, slot := 0, constantValue := 0 }, { name := "PI", type := .double, accessFlags := 25, slot := 1, constantValue := 0 }, { name := "TAU", type := .double, accessFlags := 25, slot := 2, constantValue := 0 }, { name := "DEGREES_TO_RADIANS", type := .double, accessFlags := 26, slot := 3, constantValue := 0 }, { name := "RADIANS_TO_DEGREES", type := .double, accessFlags := 26, slot := 4, constantValue := 0 }, { name := "negativeZeroFloatBits", type := .long, accessFlags := 26, slot := 5, constantValue := 0 }, { name := "negativeZeroDoubleBits", type := .long, accessFlags := 26, slot := 6, constantValue := 0 }, { name := "twoToTheDoubleScaleUp", type := .double, accessFlags := 8, slot := 7, constantValue := 0 }, { name := "twoToTheDoubleScaleDown", type := .double, accessFlags := 8, slot := 8, constantValue := 0 }, { name := "$assertionsDisabled", type := .boolean, accessFlags := 4120, slot := 9, constantValue := 0 }]
  methods := #[k11m0, k11m1]
  instanceTypes := #[]
  staticTypes := #[.double, .double, .double, .double, .double, .long, .long, .double, .double, .boolean]
  resolved := Array.replicate 460 none
  statics := none }

def pool12 : Array CpInfo := pool [(2, .class_ 4), (1, u "java/lang/Object"), (0, u "<init>"), (0, u "()V"), (17, .class_ 26), (1, u "jdk/internal/util/Preconditions"), (28, .class_ 56), (0, u "jdk/internal/util/Preconditions$4"), (57, .class_ 115), (0, u "jdk/internal/util/Preconditions$1"), (7, u "SIOOBE_FORMATTER"), (0, u "Ljava/util/function/BiFunction;"), (0, .class_ 126), (0, u "jdk/internal/util/Preconditions$2"), (3, u "AIOOBE_FORMATTER"), (0, .class_ 132), (0, u "jdk/internal/util/Preconditions$3"), (3, u "IOOBE_FORMATTER")] 57

def k12m0 : Method := { name := "<init>", desc := "()V", sig := { parameters := [], returnType := none }, accessFlags := 1, code := none }
/-- jdk/internal/util/Preconditions -/
def k12 : Class := { plain "jdk/internal/util/Preconditions" (some 0) with
  accessFlags := 33
  interfaces := #[]
  cf := some (fileOf pool12 24 #[.nestMembers #[55, 131, 125, 114]] #[{ accessFlags := 1, nameIndex := 5, descriptorIndex := 6, attributes := #[] }] 33 2 #[] #[{ accessFlags := 25, nameIndex := 123, descriptorIndex := 124, attributes := #[] }, { accessFlags := 25, nameIndex := 130, descriptorIndex := 124, attributes := #[] }, { accessFlags := 25, nameIndex := 136, descriptorIndex := 124, attributes := #[] }])
  fields := #[{ name := "SIOOBE_FORMATTER", type := (.object "java/util/function/BiFunction"), accessFlags := 25, slot := 0, constantValue := 0 }, { name := "AIOOBE_FORMATTER", type := (.object "java/util/function/BiFunction"), accessFlags := 25, slot := 1, constantValue := 0 }, { name := "IOOBE_FORMATTER", type := (.object "java/util/function/BiFunction"), accessFlags := 25, slot := 2, constantValue := 0 }]
  methods := #[k12m0]
  instanceTypes := #[]
  staticTypes := #[(.object "java/util/function/BiFunction"), (.object "java/util/function/BiFunction"), (.object "java/util/function/BiFunction")]
  resolved := Array.replicate 194 none
  statics := some 1 }

def pool13 : Array CpInfo := pool [(9, u "<init>"), (6, .class_ 18), (1, u "java/lang/Object"), (0, u "()V"), (1, .class_ 23), (1, u "jdk/internal/util/ArraysSupport"), (0, u "LOG2_ARRAY_LONG_INDEX_SCALE"), (0, u "I"), (2, u "U"), (0, u "Ljdk/internal/misc/Unsafe;"), (8, u "BIG_ENDIAN"), (0, u "Z"), (8, u "LOG2_BYTE_BIT_SIZE"), (4, u "LOG2_ARRAY_INT_INDEX_SCALE"), (54, u "JLA"), (0, u "Ljdk/internal/access/JavaLangAccess;"), (11, u "LOG2_ARRAY_BOOLEAN_INDEX_SCALE"), (9, u "LOG2_ARRAY_BYTE_INDEX_SCALE"), (5, u "LOG2_ARRAY_CHAR_INDEX_SCALE"), (5, u "LOG2_ARRAY_SHORT_INDEX_SCALE"), (18, u "LOG2_ARRAY_FLOAT_INDEX_SCALE"), (24, u "LOG2_ARRAY_DOUBLE_INDEX_SCALE"), (89, u "T_BOOLEAN"), (2, u "T_CHAR"), (1, u "T_FLOAT"), (1, u "T_DOUBLE"), (1, u "T_BYTE"), (1, u "T_SHORT"), (1, u "T_INT"), (1, u "T_LONG"), (1, u "SOFT_MAX_ARRAY_LENGTH")] 83

def k13m0 : Method := { name := "<init>", desc := "()V", sig := { parameters := [], returnType := none }, accessFlags := 2, code := none }
/-- jdk/internal/util/ArraysSupport -/
def k13 : Class := { plain "jdk/internal/util/ArraysSupport" (some 0) with
  accessFlags := 33
  interfaces := #[]
  cf := some (fileOf pool13 21 #[] #[{ accessFlags := 2, nameIndex := 9, descriptorIndex := 19, attributes := #[] }] 33 16 #[] #[{ accessFlags := 24, nameIndex := 28, descriptorIndex := 29, attributes := #[] }, { accessFlags := 26, nameIndex := 38, descriptorIndex := 39, attributes := #[] }, { accessFlags := 25, nameIndex := 121, descriptorIndex := 25, attributes := #[] }, { accessFlags := 25, nameIndex := 131, descriptorIndex := 25, attributes := #[] }, { accessFlags := 25, nameIndex := 137, descriptorIndex := 25, attributes := #[] }, { accessFlags := 25, nameIndex := 143, descriptorIndex := 25, attributes := #[] }, { accessFlags := 25, nameIndex := 53, descriptorIndex := 25, attributes := #[] }, { accessFlags := 25, nameIndex := 24, descriptorIndex := 25, attributes := #[] }, { accessFlags := 25, nameIndex := 162, descriptorIndex := 25, attributes := #[] }, { accessFlags := 25, nameIndex := 187, descriptorIndex := 25, attributes := #[] }, { accessFlags := 26, nameIndex := 48, descriptorIndex := 25, attributes := #[] }, { accessFlags := 25, nameIndex := 277, descriptorIndex := 25, attributes := #[] }, { accessFlags := 25, nameIndex := 280, descriptorIndex := 25, attributes := #[] }, { accessFlags := 25, nameIndex := 282, descriptorIndex := 25, attributes := #[] }, { accessFlags := 25, nameIndex := 284, descriptorIndex := 25, attributes := #[] }, { accessFlags := 25, nameIndex := 286, descriptorIndex := 25, attributes := #[] }, { accessFlags := 25, nameIndex := 288, descriptorIndex := 25, attributes := #[] }, { accessFlags := 25, nameIndex := 290, descriptorIndex := 25, attributes := #[] }, { accessFlags := 25, nameIndex := 292, descriptorIndex := 25, attributes := #[] }, { accessFlags := 26, nameIndex := 108, descriptorIndex := 109, attributes := #[] }, { accessFlags := 25, nameIndex := 294, descriptorIndex := 25, attributes := #[] }])
  fields := #[{ name := "U", type := (.object "jdk/internal/misc/Unsafe"), accessFlags := 24, slot := 0, constantValue := 0 }, { name := "BIG_ENDIAN", type := .boolean, accessFlags := 26, slot := 1, constantValue := 0 }, { name := "LOG2_ARRAY_BOOLEAN_INDEX_SCALE", type := .int, accessFlags := 25, slot := 2, constantValue := 0 }, { name := "LOG2_ARRAY_BYTE_INDEX_SCALE", type := .int, accessFlags := 25, slot := 3, constantValue := 0 }, { name := "LOG2_ARRAY_CHAR_INDEX_SCALE", type := .int, accessFlags := 25, slot := 4, constantValue := 0 }, { name := "LOG2_ARRAY_SHORT_INDEX_SCALE", type := .int, accessFlags := 25, slot := 5, constantValue := 0 }, { name := "LOG2_ARRAY_INT_INDEX_SCALE", type := .int, accessFlags := 25, slot := 6, constantValue := 0 }, { name := "LOG2_ARRAY_LONG_INDEX_SCALE", type := .int, accessFlags := 25, slot := 7, constantValue := 0 }, { name := "LOG2_ARRAY_FLOAT_INDEX_SCALE", type := .int, accessFlags := 25, slot := 8, constantValue := 0 }, { name := "LOG2_ARRAY_DOUBLE_INDEX_SCALE", type := .int, accessFlags := 25, slot := 9, constantValue := 0 }, { name := "LOG2_BYTE_BIT_SIZE", type := .int, accessFlags := 26, slot := 10, constantValue := 0 }, { name := "T_BOOLEAN", type := .int, accessFlags := 25, slot := 11, constantValue := 0 }, { name := "T_CHAR", type := .int, accessFlags := 25, slot := 12, constantValue := 0 }, { name := "T_FLOAT", type := .int, accessFlags := 25, slot := 13, constantValue := 0 }, { name := "T_DOUBLE", type := .int, accessFlags := 25, slot := 14, constantValue := 0 }, { name := "T_BYTE", type := .int, accessFlags := 25, slot := 15, constantValue := 0 }, { name := "T_SHORT", type := .int, accessFlags := 25, slot := 16, constantValue := 0 }, { name := "T_INT", type := .int, accessFlags := 25, slot := 17, constantValue := 0 }, { name := "T_LONG", type := .int, accessFlags := 25, slot := 18, constantValue := 0 }, { name := "JLA", type := (.object "jdk/internal/access/JavaLangAccess"), accessFlags := 26, slot := 19, constantValue := 0 }, { name := "SOFT_MAX_ARRAY_LENGTH", type := .int, accessFlags := 25, slot := 20, constantValue := 0 }]
  methods := #[k13m0]
  instanceTypes := #[]
  staticTypes := #[(.object "jdk/internal/misc/Unsafe"), .boolean, .int, .int, .int, .int, .int, .int, .int, .int, .int, .int, .int, .int, .int, .int, .int, .int, .int, (.object "jdk/internal/access/JavaLangAccess"), .int]
  resolved := Array.replicate 378 none
  statics := none }

def pool14 : Array CpInfo := pool [(1, u "java/lang/Cloneable"), (0, .class_ 1), (0, u "java/lang/Object"), (0, .class_ 3)] 3

/-- java/lang/Cloneable -/
def k14 : Class := { plain "java/lang/Cloneable" (some 0) with
  accessFlags := 1537
  interfaces := #[]
  cf := some (fileOf pool14 2 #[] #[] 1537 4 #[] #[])
  fields := #[]
  methods := #[]
  instanceTypes := #[]
  staticTypes := #[]
  resolved := Array.replicate 8 none
  statics := none }

/-- the primitive byte -/
def k15 : Class := { plain "byte" none with kind := .primitive 'B', accessFlags := 0x411 }
/-- [B -/
def k16 : Class := { plain "[B" (some 0) with kind := .array 15 .byte, interfaces := #[14, 4], accessFlags := 1041 }

/-- the primitive int -/
def k17 : Class := { plain "int" none with kind := .primitive 'I', accessFlags := 0x411 }
/-- [I -/
def k18 : Class := { plain "[I" (some 0) with kind := .array 17 .int, interfaces := #[14, 4], accessFlags := 1041 }

def heap : Heap := #[{ cls := 9, slots := #[.long 0, .int 1, .null, .int 0, .null, .int 0, .int 0], vm := .statics 9 },
  { cls := 12, slots := #[.null, .null, .null], vm := .statics 12 }]
def classes : Array Class := #[k0, k1, k2, k3, k4, k5, k6, k7, k8, k9, k10, k11, k12, k13, k14, k15, k16, k17, k18]
def interned : List (Array UInt16 × Addr) := []
def slotsUsed : Nat := 10
def theMethod : MethodId := ⟨1, 1⟩
def args0 : Array Value := #[.int 5, .int 3]
def aboutOver (below : List Frame) : State where
  vm := { classes := classes, interned := interned.toArray }
  heap := heap
  slotsUsed := slotsUsed
  threads := #[{ frames := .invoking theMethod args0 :: below }]
def below0 : List Frame := [.native { method := ⟨0, 0⟩, args := #[] }]
def about1 : State := aboutOver below0
def p0 : Program := .bare "" "" ""
def e0 : Env := launch0.env 0 0 0
theorem w_frames : about1.frames = Frame.invoking theMethod args0 :: below0 := rfl
set_option maxRecDepth 65536 in
theorem w_args : argsFit about1.vm theMethod args0 = true := by decide +kernel
set_option maxRecDepth 65536 in
theorem w_heap : heapFits about1 = true := by decide +kernel
set_option maxRecDepth 65536 in
theorem w_runnable : about1.curStatus? = some .runnable := by decide +kernel
set_option maxRecDepth 65536 in
theorem w_alone : about1.alone = true := by decide +kernel
set_option maxRecDepth 65536 in
theorem w_named : about1.methodNamed? x = some theMethod := by decide +kernel
set_option maxRecDepth 65536 in
theorem w_hears : about1.hears theMethod below0 = true := by decide +kernel
set_option maxRecDepth 65536 in
theorem w_ripe : about1.ripe theMethod args0 below0 = true := by decide +kernel
theorem w_running : about1.status = .running := rfl
set_option maxRecDepth 65536 in
theorem w_room : about1.hasRoom e0.platform room_1 = true :=
  launch0.hasRoom_least _ room_1 (by decide +kernel) (by decide +kernel) (by decide +kernel) (by decide +kernel) (by decide +kernel) (by decide +kernel)
theorem allAtoms_all (ts : List Jvm.Cond) (a : Array Jvm.Value) (st : Jvm.State) : (allAtoms ts).before a st = ts.all (fun c => c.before a st) := by
  induction ts with
  | nil => rfl
  | cons c t ih =>
    show (Jvm.Cond.and c (allAtoms t)).before a st = _
    rw [Jvm.Cond.before_and, ih, List.all_cons]
def words1 : List Jvm.Cond := Jvm.Cond.code x code maxLocals ret :: tables_1
/-- a 'code' word, met by the world's own term for the bytes: nothing is compared byte by byte -/
theorem code_word {y : MethodName} {bytes : ByteArray} {mx : Nat} {rt : Option FieldType} {a : Array Value} {s : State} {m : MethodId} {meth : Method} {c : Code} (h1 : s.methodNamed? y = some m) (h2 : s.vm.method? m = some meth) (h3 : meth.code = some c) (h4 : c.code = bytes)
    (h5 : (c.maxLocals == mx && c.exceptionTable.isEmpty && decide (c.maxStack ≤ mostOperands) && decide (meth.sig.returnType = rt) && !meth.locks && decide (parseMethodDescriptor y.desc = some meth.sig)) = true) : (Jvm.Cond.code y bytes mx rt).before a s = true := by
  simp only [Bool.and_eq_true, beq_iff_eq, Bool.not_eq_true', decide_eq_true_eq] at h5
  obtain ⟨⟨⟨⟨⟨g1, g2⟩, g3⟩, g4⟩, g5⟩, g6⟩ := h5
  simp [Cond.before, Cond.holds, Cond.value, h1, h2, h3, h4, g1, g2, g3, g4, g5, g6]
def isCode : Jvm.Cond → Bool
  | .code _ _ _ _ => true
  | _ => false
theorem all_split {L : List Jvm.Cond} {P : Jvm.Cond → Bool} (h1 : L.all (fun c => isCode c || P c) = true) (h2 : ∀ c ∈ L.filter isCode, P c = true) : L.all P = true := by
  refine List.all_eq_true.mpr fun c hc => ?_
  have h := List.all_eq_true.mp h1 c hc
  rcases Bool.eq_false_or_eq_true (isCode c) with hi | hi
  · exact h2 c (List.mem_filter.mpr ⟨hc, hi⟩)
  · simpa [hi] using h
set_option maxRecDepth 65536 in
theorem w_c0 : (Jvm.Cond.code x code maxLocals ret).before args0 about1 = true := code_word (m := ⟨1, 1⟩) (meth := k1m1) (c := k1c1) (by decide +kernel) rfl rfl rfl (by decide +kernel)
set_option maxRecDepth 65536 in
theorem w_c1 : (Jvm.Cond.code ({ cls := "com/example/tabularium/tabularium/model/Delivery", name := "<init>", desc := "(ZI)V" } : Jvm.MethodName) prog_63_method_1_code (3 : Nat) (Option.none : Option Jvm.ClassFile.FieldType)).before args0 about1 = true := code_word (m := ⟨3, 0⟩) (meth := k3m0) (c := k3c0) (by decide +kernel) rfl rfl rfl (by decide +kernel)
set_option maxRecDepth 65536 in
theorem w_c2 : (Jvm.Cond.code ({ cls := "java/lang/Record", name := "<init>", desc := "()V" } : Jvm.MethodName) jdk_30_method_1_code (1 : Nat) (Option.none : Option Jvm.ClassFile.FieldType)).before args0 about1 = true := code_word (m := ⟨2, 0⟩) (meth := k2m0) (c := k2c0) (by decide +kernel) rfl rfl rfl (by decide +kernel)
set_option maxRecDepth 65536 in
theorem w_c3 : (Jvm.Cond.code ({ cls := "java/lang/Object", name := "<init>", desc := "()V" } : Jvm.MethodName) object_method_1_code (1 : Nat) (Option.none : Option Jvm.ClassFile.FieldType)).before args0 about1 = true := code_word (m := ⟨0, 0⟩) (meth := k0m0) (c := k0c0) (by decide +kernel) rfl rfl rfl (by decide +kernel)
set_option maxRecDepth 65536 in
theorem w_c4 : (Jvm.Cond.code ({ cls := "com/example/tabularium/tabularium/model/Delivery", name := "text", desc := "()Ljava/lang/String;" } : Jvm.MethodName) prog_63_method_5_code (1 : Nat) (Option.some (Jvm.ClassFile.FieldType.object "java/lang/String"))).before args0 about1 = true := code_word (m := ⟨3, 2⟩) (meth := k3m2) (c := k3c2) (by decide +kernel) rfl rfl rfl (by decide +kernel)
set_option maxRecDepth 65536 in
theorem w_c5 : (Jvm.Cond.code ({ cls := "java/lang/String", name := "equals", desc := "(Ljava/lang/Object;)Z" } : Jvm.MethodName) jdk_42_method_66_code (3 : Nat) (Option.some Jvm.ClassFile.FieldType.boolean)).before args0 about1 = true := code_word (m := ⟨9, 1⟩) (meth := k9m1) (c := k9c1) (by decide +kernel) rfl rfl rfl (by decide +kernel)
set_option maxRecDepth 65536 in
theorem w_c6 : (Jvm.Cond.code ({ cls := "com/example/tabularium/tabularium/model/Delivery", name := "fromText", desc := "(Ljava/lang/String;I)Lcom/example/tabularium/tabularium/model/Delivery;" } : Jvm.MethodName) prog_63_method_3_code (2 : Nat) (Option.some (Jvm.ClassFile.FieldType.object "com/example/tabularium/tabularium/model/Delivery"))).before args0 about1 = true := code_word (m := ⟨3, 1⟩) (meth := k3m1) (c := k3c1) (by decide +kernel) rfl rfl rfl (by decide +kernel)
set_option maxRecDepth 65536 in
theorem w_c7 : (Jvm.Cond.code ({ cls := "java/lang/StringLatin1", name := "equals", desc := "([B[B)Z" } : Jvm.MethodName) jdk_43_method_13_code (3 : Nat) (Option.some Jvm.ClassFile.FieldType.boolean)).before args0 about1 = true := code_word (m := ⟨10, 1⟩) (meth := k10m1) (c := k10c1) (by decide +kernel) rfl rfl rfl (by decide +kernel)
set_option maxRecDepth 65536 in
theorem w_c8 : (Jvm.Cond.code ({ cls := "com/example/tabularium/tabularium/model/Delivery", name := "delivered", desc := "()Z" } : Jvm.MethodName) prog_63_method_9_code (1 : Nat) (Option.some Jvm.ClassFile.FieldType.boolean)).before args0 about1 = true := code_word (m := ⟨3, 3⟩) (meth := k3m3) (c := k3c3) (by decide +kernel) rfl rfl rfl (by decide +kernel)
set_option maxRecDepth 65536 in
theorem w_c9 : (Jvm.Cond.code ({ cls := "com/example/tabularium/tabularium/model/Delivery", name := "attempts", desc := "()I" } : Jvm.MethodName) prog_63_method_10_code (1 : Nat) (Option.some Jvm.ClassFile.FieldType.int)).before args0 about1 = true := code_word (m := ⟨3, 4⟩) (meth := k3m4) (c := k3c4) (by decide +kernel) rfl rfl rfl (by decide +kernel)
set_option maxRecDepth 65536 in
theorem w_c10 : (Jvm.Cond.code ({ cls := "java/lang/Math", name := "max", desc := "(II)I" } : Jvm.MethodName) jdk_29_method_65_code (2 : Nat) (Option.some Jvm.ClassFile.FieldType.int)).before args0 about1 = true := code_word (m := ⟨11, 1⟩) (meth := k11m1) (c := k11c1) (by decide +kernel) rfl rfl rfl (by decide +kernel)
def codes1 : List Jvm.Cond := [Jvm.Cond.code x code maxLocals ret, Jvm.Cond.code ({ cls := "com/example/tabularium/tabularium/model/Delivery", name := "<init>", desc := "(ZI)V" } : Jvm.MethodName) prog_63_method_1_code (3 : Nat) (Option.none : Option Jvm.ClassFile.FieldType), Jvm.Cond.code ({ cls := "java/lang/Record", name := "<init>", desc := "()V" } : Jvm.MethodName) jdk_30_method_1_code (1 : Nat) (Option.none : Option Jvm.ClassFile.FieldType), Jvm.Cond.code ({ cls := "java/lang/Object", name := "<init>", desc := "()V" } : Jvm.MethodName) object_method_1_code (1 : Nat) (Option.none : Option Jvm.ClassFile.FieldType), Jvm.Cond.code ({ cls := "com/example/tabularium/tabularium/model/Delivery", name := "text", desc := "()Ljava/lang/String;" } : Jvm.MethodName) prog_63_method_5_code (1 : Nat) (Option.some (Jvm.ClassFile.FieldType.object "java/lang/String")), Jvm.Cond.code ({ cls := "java/lang/String", name := "equals", desc := "(Ljava/lang/Object;)Z" } : Jvm.MethodName) jdk_42_method_66_code (3 : Nat) (Option.some Jvm.ClassFile.FieldType.boolean), Jvm.Cond.code ({ cls := "com/example/tabularium/tabularium/model/Delivery", name := "fromText", desc := "(Ljava/lang/String;I)Lcom/example/tabularium/tabularium/model/Delivery;" } : Jvm.MethodName) prog_63_method_3_code (2 : Nat) (Option.some (Jvm.ClassFile.FieldType.object "com/example/tabularium/tabularium/model/Delivery")), Jvm.Cond.code ({ cls := "java/lang/StringLatin1", name := "equals", desc := "([B[B)Z" } : Jvm.MethodName) jdk_43_method_13_code (3 : Nat) (Option.some Jvm.ClassFile.FieldType.boolean), Jvm.Cond.code ({ cls := "com/example/tabularium/tabularium/model/Delivery", name := "delivered", desc := "()Z" } : Jvm.MethodName) prog_63_method_9_code (1 : Nat) (Option.some Jvm.ClassFile.FieldType.boolean), Jvm.Cond.code ({ cls := "com/example/tabularium/tabularium/model/Delivery", name := "attempts", desc := "()I" } : Jvm.MethodName) prog_63_method_10_code (1 : Nat) (Option.some Jvm.ClassFile.FieldType.int), Jvm.Cond.code ({ cls := "java/lang/Math", name := "max", desc := "(II)I" } : Jvm.MethodName) jdk_29_method_65_code (2 : Nat) (Option.some Jvm.ClassFile.FieldType.int)]
set_option maxRecDepth 65536 in
theorem codes_eq : words1.filter isCode = codes1 := rfl
theorem w_codes : ∀ c ∈ words1.filter isCode, c.before args0 about1 = true := by
  rw [codes_eq]
  intro c hc
  simp only [codes1, List.mem_cons, List.not_mem_nil, or_false] at hc
  rcases hc with rfl | rfl | rfl | rfl | rfl | rfl | rfl | rfl | rfl | rfl | rfl
  · exact w_c0
  · exact w_c1
  · exact w_c2
  · exact w_c3
  · exact w_c4
  · exact w_c5
  · exact w_c6
  · exact w_c7
  · exact w_c8
  · exact w_c9
  · exact w_c10
set_option maxRecDepth 65536 in
theorem w_t1 : (words1.take 24).all (fun c => isCode c || c.before args0 about1) = true := by decide +kernel
set_option maxRecDepth 65536 in
theorem w_t2 : ((words1.drop 24).take 24).all (fun c => isCode c || c.before args0 about1) = true := by decide +kernel
set_option maxRecDepth 65536 in
theorem w_t3 : ((words1.drop 24).drop 24).all (fun c => isCode c || c.before args0 about1) = true := by decide +kernel
theorem w_tables : (allAtoms (Jvm.Cond.code x code maxLocals ret :: tables_1)).before args0 about1 = true := by
  rw [allAtoms_all]
  show words1.all (fun c => c.before args0 about1) = true
  refine all_split ?_ w_codes
  rw [← List.take_append_drop 24 words1, List.all_append, w_t1, ← List.take_append_drop 24 (words1.drop 24), List.all_append, w_t2, w_t3]
  rfl
set_option maxRecDepth 65536 in
theorem w_rest : rest_1_c.before args0 about1 = true := by decide +kernel
set_option maxRecDepth 65536 in
theorem w_case : (Jvm.Cond.and given_1 narrow_1).before args0 about1 = true := by decide +kernel
set_option maxRecDepth 65536 in
theorem w_consts : constsHeld consts_1 about1 := Jvm.Lit.constsHeldB_iff.mp (by decide +kernel)
theorem w_applies : (headSpec (Jvm.Cond.code x code maxLocals ret :: tables_1) room_1).applies x e0.platform about1 = true :=
  (Spec.applies_iff w_frames).mpr ⟨w_running, w_runnable, w_alone, w_named, w_hears, w_ripe, w_room, w_tables⟩
theorem atStart : AtStart classFile x code maxLocals ret World_1 tables_1 room_1 Calls_1 rest_1 Pre_1 launch0 p0 e0 about1 theMethod args0 below0 :=
  ⟨lists_1, trivial, launch0.admits_env _ _ _, launch0.least_env, fairChoices_fair.cas, fairChoices_fair.clock, w_frames, w_args, w_heap, w_applies, ⟨w_consts, trivial⟩, w_rest, w_case⟩
end start1
theorem witness_1 : WitnessClaimed_1 := ⟨start1.p0, start1.e0, start1.about1, start1.theMethod, start1.args0, start1.below0, start1.atStart⟩
end Jvm.Pilot.@@N@@
