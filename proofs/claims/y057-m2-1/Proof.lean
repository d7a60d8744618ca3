import JvmDerived
import JvmDerived.Pilot.@@N@@Statement
import JvmDerived.Pilot.@@N@@Code
set_option linter.unusedVariables false
set_option linter.unusedSimpArgs false

namespace Jvm.Pilot.@@N@@
open Jvm Jvm.ClassFile Sem Op Lib Jvm.Free Jvm.Stand Jvm.LawKit Jvm.RoadKit Bundle Jvm.Pilot.@@N@@.Jvm.D

section OwnKit
variable {p : Program} {l : Launch} {e : Env} {R : Room} {s : State} {m : MethodId} {args : Array Value} {below : List Frame} {meth : Method} {c : Code} {T : State} {locs : List Loc} {cells slots : Nat} {G : Outcome → State → Prop} {Q : Option Value → Heap → List Loc → Prop} {C S : Nat} {Z : State} {h h' : Heap}
/-- from the state t the invocation comes to an end of which G holds -/
def own_Fin (p : Program) (e : Env) (below : List Frame) (G : Outcome → State → Prop) (t : State) : Prop := ∃ s₂ o, Steps p.tables e below t s₂ ∧ s₂.status = .running ∧ Ended s₂ below o ∧ G o s₂
def own_G (s : State) (Q : Option Value → Heap → List Loc → Prop) (C S : Nat) (o : Outcome) (U' : State) : Prop := ∃ v L, o = .returned v ∧ Q v U'.heap L ∧ FrameEnd s o U' L C S
theorem own_to {t u : State} (h : ∀ z, Steps p.tables e below u z → Steps p.tables e below t z) (k : own_Fin p e below G u) : own_Fin p e below G t := by
  obtain ⟨a, b, c, d⟩ := k; exact ⟨a, b, h _ c, d⟩
theorem own_via {t u : State} (h : Steps p.tables e below t u) (k : own_Fin p e below G u) : own_Fin p e below G t := own_to (fun _ kz => h.trans kz) k
theorem own_retW (X : Stand p l e R s m args below meth c T locs cells slots) (hx : p.tables.exec = Jvm.exec) (hlk : meth.locks = false) (hG : G = own_G s Q C S) {f : JFrame} {w : Option Value} (hv : meth.sig.returnType = none → w = none)
    (st : ∀ fs, (∀ (f : JFrame) (acts : List Action), f.method = m → f.locked = none → f.entered = [] → (doReturn e (T.setTop f) acts w).1 = T.setFrames fs) → Steps p.tables e below (T.setTop f) (T.setFrames fs))
    (hc : cells ≤ C) (hs : slots ≤ S) (hQ : Q w T.heap locs) : own_Fin p e below G (T.setTop f) := by
  subst hG
  obtain ⟨fs, hr, hrun, hended, hW, hsame⟩ := X.leave (v := w) hv hlk
  exact ⟨_, _, st fs hr, hrun, hended, _, _, rfl, hQ, ⟨_, rfl⟩, hW, hsame.mono hc hs⟩
theorem own_retI (X : Stand p l e R s m args below meth c T locs cells slots) (hx : p.tables.exec = Jvm.exec) (hlk : meth.locks = false) (hG : G = own_G s Q C S) {pc : Nat} {Ls : Array Slot} {z : Int32} {rest : List Value} (hret : meth.sig.returnType = some .int) (hd : decode c.code pc = .ok (.ireturn, 1))
    (hc : cells ≤ C) (hs : slots ≤ S) (hQ : Q (some (.int z)) T.heap locs) : own_Fin p e below G (T.setTop (mkF m pc Ls (.int z :: rest))) :=
  own_retW X hx hlk hG (w := some (.int z)) (fun h => by rw [hret] at h; cases h) (fun fs hr => retOut X hx hret rfl (Or.inl ⟨rfl, Or.inl rfl, z, rfl⟩) hd hr) hc hs hQ
theorem own_retJ (X : Stand p l e R s m args below meth c T locs cells slots) (hx : p.tables.exec = Jvm.exec) (hlk : meth.locks = false) (hG : G = own_G s Q C S) {pc : Nat} {Ls : Array Slot} {z : Int64} {rest : List Value} (hret : meth.sig.returnType = some .long) (hd : decode c.code pc = .ok (.lreturn, 1))
    (hc : cells ≤ C) (hs : slots ≤ S) (hQ : Q (some (.long z)) T.heap locs) : own_Fin p e below G (T.setTop (mkF m pc Ls (.long z :: rest))) :=
  own_retW X hx hlk hG (w := some (.long z)) (fun h => by rw [hret] at h; cases h) (fun fs hr => retOut X hx hret rfl (Or.inr (Or.inl ⟨rfl, rfl, z, rfl⟩)) hd hr) hc hs hQ
theorem own_retA (X : Stand p l e R s m args below meth c T locs cells slots) (hx : p.tables.exec = Jvm.exec) (hlk : meth.locks = false) (hG : G = own_G s Q C S) {pc : Nat} {Ls : Array Slot} {w : Value} {rest : List Value} {t : FieldType} (hret : meth.sig.returnType = some t) (ht : t.isReference = true) (hw : w.isRef = true) (hd : decode c.code pc = .ok (.areturn, 1))
    (hc : cells ≤ C) (hs : slots ≤ S) (hQ : Q (some w) T.heap locs) : own_Fin p e below G (T.setTop (mkF m pc Ls (w :: rest))) :=
  own_retW X hx hlk hG (w := some w) (fun h => by rw [hret] at h; cases h) (fun fs hr => retOut X hx hret (by rcases ref_cases hw with rfl | ⟨a, rfl⟩ <;> cases t <;> first | rfl | (simp [FieldType.isReference] at ht)) (Or.inr (Or.inr (Or.inr (Or.inr ⟨rfl, ht, hw⟩)))) hd hr) hc hs hQ
theorem own_retN (X : Stand p l e R s m args below meth c T locs cells slots) (hx : p.tables.exec = Jvm.exec) (hlk : meth.locks = false) (hG : G = own_G s Q C S) {pc : Nat} {Ls : Array Slot} {z : Int32} {rest : List Value} {t : FieldType} (hret : meth.sig.returnType = some t) (ht : t = .boolean ∨ t = .byte ∨ t = .char ∨ t = .short) (hd : decode c.code pc = .ok (.ireturn, 1))
    (hc : cells ≤ C) (hs : slots ≤ S) (hQ : Q (some (.int (nar t z))) T.heap locs) : own_Fin p e below G (T.setTop (mkF m pc Ls (.int z :: rest))) :=
  own_retW X hx hlk hG (w := some (.int (nar t z))) (fun h => by rw [hret] at h; cases h) (fun fs hr => retN X hx hret ht hd hr) hc hs hQ
theorem own_retV (X : Stand p l e R s m args below meth c T locs cells slots) (hx : p.tables.exec = Jvm.exec) (hlk : meth.locks = false) (hG : G = own_G s Q C S) {pc : Nat} {Ls : Array Slot} (hret : meth.sig.returnType = none) (hd : decode c.code pc = .ok (.return_, 1))
    (hc : cells ≤ C) (hs : slots ≤ S) (hQ : Q none T.heap locs) : own_Fin p e below G (T.setTop (mkF m pc Ls [])) :=
  own_retW X hx hlk hG (w := none) (fun _ => rfl) (fun fs hr => X.returnOut hx hret hd hr) hc hs hQ
theorem own_lrem {g : JFrame} {target : State} (X : Stand p l e R s m args below meth c T locs cells slots) (hx : p.tables.exec = Jvm.exec) (hg : g.method = m) {x y : Int64} {rest : List Value} (hd : decode c.code g.pc = .ok (.lrem, 1)) (hs : g.stack = .long y :: .long x :: rest) (hy : y ≠ 0)
    (hr : Steps p.tables e below (T.setTop { g with pc := g.pc + 1, stack := .long (x % y) :: rest }) target) : Steps p.tables e below (T.setTop g) target := by
  have q : x - x / y * y = x % y := lrem_mod x y
  exact XS.lrem X.here hx hg hd hs hy (by rw [q]; exact hr)
def own_Pair (a b : Slot) : Prop := (a = .unset ∧ b = .unset) ∨ ∃ x, a = .val (.long x) ∧ b = .second
/-- the array at a has n places; place i holds mk (f i) -/
def own_AV {α : Type} (mk : α → Value) (Z : State) (h : Heap) (a : Addr) (ty : FieldType) (n : Nat) (f : Nat → α) : Prop := n < 2 ^ 31 ∧ ∃ c : Cell, Arr Z h a c ty ∧ c.slots.size = n ∧ ∀ i, i < n → c.slots[i]? = some (mk (f i))
def own_upd {α : Type} (f : Nat → α) (k : Nat) (v : α) : Nat → α := fun i => if i = k then v else f i
section
variable {α : Type} {mk : α → Value} {a b : Addr} {ty : FieldType} {n : Nat} {f f' : Nat → α} {ws : List Addr} {sl : Nat} {v : Value}
theorem own_AV.lt (F : own_AV mk Z h a ty n f) : a < h.size := by obtain ⟨_, c, A, -⟩ := F; exact A.lt
theorem own_AV.ext (F : own_AV mk Z h a ty n f) (E : Ext h h') : own_AV mk Z h' a ty n f := by obtain ⟨q, c, A, r⟩ := F; exact ⟨q, c, A.ext E, r⟩
theorem own_AV.other (F : own_AV mk Z h b ty n f) (W : Wr h h' a sl v) (q : b ≠ a) : own_AV mk Z h' b ty n f := by obtain ⟨q', c, A, r⟩ := F; exact ⟨q', c, A.other W q, r⟩
theorem own_AV.keep (F : own_AV mk Z h a ty n f) (K : Keep h h' ws) (q : a ∉ ws) : own_AV mk Z h' a ty n f := by obtain ⟨q', c, A, r⟩ := F; exact ⟨q', c, ⟨K.2.1 a c A.1 q, A.2⟩, r⟩
theorem own_AV.congr (F : own_AV mk Z h a ty n f) (q : ∀ i, i < n → f i = f' i) : own_AV mk Z h a ty n f' := by obtain ⟨q', c, A, r, s⟩ := F; exact ⟨q', c, A, r, fun i hi => by rw [s i hi, q i hi]⟩
theorem own_AV.new {k : ClassId} {z : Int32} (A : Arr Z h a (newA k ty z) ty) (q : ¬ z < 0) (hn : z.toNatClampNeg = n) (hf : ∀ i : Nat, defaultValue ty = mk (f i)) : own_AV mk Z h a ty n f := by
  refine ⟨hn ▸ (back32 q).2, _, A, (sz_new _ _ _).trans hn, fun i hi => ?_⟩
  rw [← hf i]; simp [newA, hn, hi]
theorem own_in {c : Cell} {j : Int32} {k : Nat} (S : c.slots.size = n) (hj : ¬ j < 0) (hk : j.toNatClampNeg = k) (hlt : k < n) : ¬ (j < 0 ∨ c.slots.size ≤ j.toNatClampNeg) := fun q => q.elim hj fun r => by omega
theorem own_AV.set {c : Cell} {j : Int32} {k : Nat} {w : α} (nn : n < 2 ^ 31) (A : Arr Z h a c ty) (S : c.slots.size = n) (H : ∀ i, i < n → c.slots[i]? = some (mk (f i))) (W : Wr h h' a j.toNatClampNeg (mk w)) (hk : j.toNatClampNeg = k) : own_AV mk Z h' a ty n (own_upd f k w) := by
  subst hk
  refine ⟨nn, _, A.same W, by rw [sz_set]; exact S, fun i hi => ?_⟩
  show (c.setSlot j.toNatClampNeg (mk w)).slots[i]? = some (mk (if i = j.toNatClampNeg then w else f i))
  simp only [Cell.setSlot]
  by_cases q : i = j.toNatClampNeg
  · subst q; rw [if_pos rfl]; simp [S, hi]
  · rw [if_neg q, Array.getElem?_setIfInBounds_ne (fun r => q r.symm)]; exact H i hi
theorem own_iaload (X : Stand p l e R s m args below meth c T locs cells slots) (hx : p.tables.exec = Jvm.exec) (hZ : Z.Warmed39 s.vm) (eT : T.heap = h) {f : Nat → Int32} (F : own_AV Value.int Z h a .int n f) {j : Int32} {k : Nat} (hj : ¬ j < 0) (hk : j.toNatClampNeg = k) (hlt : k < n)
    {g : JFrame} (hg : g.method = m) {rest : List Value} (hs : g.stack = .int j :: .ref a :: rest) (hd : decode c.code g.pc = .ok (.iaload, 1)) {target : State} (hr : Steps p.tables e below (T.setTop { g with pc := g.pc + 1, stack := .int (f k) :: rest }) target) : Steps p.tables e below (T.setTop g) target := by
  obtain ⟨_, cl, A, S, H⟩ := F
  exact X.iaload hx (j := j) (v := .int (f k)) (by rw [eT]; exact A.1) (State.isArrayOf_alike hZ.alike A.2.1) A.2.2 (own_in S hj hk hlt) (by rw [hk]; exact H k hlt) hg hs hd _ hr
theorem own_laload (X : Stand p l e R s m args below meth c T locs cells slots) (hx : p.tables.exec = Jvm.exec) (hZ : Z.Warmed39 s.vm) (eT : T.heap = h) {f : Nat → Int64} (F : own_AV Value.long Z h a .long n f) {j : Int32} {k : Nat} (hj : ¬ j < 0) (hk : j.toNatClampNeg = k) (hlt : k < n)
    {g : JFrame} (hg : g.method = m) {rest : List Value} (hs : g.stack = .int j :: .ref a :: rest) (hd : decode c.code g.pc = .ok (.laload, 1)) {target : State} (hr : Steps p.tables e below (T.setTop { g with pc := g.pc + 1, stack := .long (f k) :: rest }) target) : Steps p.tables e below (T.setTop g) target := by
  obtain ⟨_, cl, A, S, H⟩ := F
  exact X.laload hx (j := j) (v := .long (f k)) (by rw [eT]; exact A.1) (State.isArrayOf_alike hZ.alike A.2.1) A.2.2 (own_in S hj hk hlt) (by rw [hk]; exact H k hlt) hg hs hd _ hr
theorem own_baload (X : Stand p l e R s m args below meth c T locs cells slots) (hx : p.tables.exec = Jvm.exec) (hZ : Z.Warmed39 s.vm) (eT : T.heap = h) {f : Nat → Int32} (F : own_AV Value.int Z h a .byte n f) {j : Int32} {k : Nat} (hj : ¬ j < 0) (hk : j.toNatClampNeg = k) (hlt : k < n)
    {g : JFrame} (hg : g.method = m) {rest : List Value} (hs : g.stack = .int j :: .ref a :: rest) (hd : decode c.code g.pc = .ok (.baload, 1)) {target : State} (hr : Steps p.tables e below (T.setTop { g with pc := g.pc + 1, stack := .int (f k) :: rest }) target) : Steps p.tables e below (T.setTop g) target := by
  obtain ⟨_, cl, A, S, H⟩ := F
  exact X.baloadBytes hx (j := j) (v := .int (f k)) (by rw [eT]; exact A.1) (State.isArrayOf_alike hZ.alike A.2.1) A.2.2 (own_in S hj hk hlt) (by rw [hk]; exact H k hlt) hg hs hd _ hr
theorem own_cloneI (X : Stand p l e R s m args below meth c T locs cells slots) (hx : p.tables.exec = Jvm.exec) (hZ : Z.Warmed39 s.vm) {a0 : Array Value} {own ad : String} {index : Nat} (hown : s.vm.findClass own = some m.cls)
    (w1 : (Cond.methodLink own index ⟨ad, "clone", "()Ljava/lang/Object;"⟩).before a0 Z = true) (w2 : (Cond.sameMethod ad "java/lang/Object" "clone" "()Ljava/lang/Object;").before a0 Z = true) (w3 : (Cond.native ⟨"java/lang/Object", "clone", "()Ljava/lang/Object;"⟩).before a0 Z = true)
    (w4 : (Cond.instanceMethod ⟨"java/lang/Object", "clone", "()Ljava/lang/Object;"⟩).before a0 Z = true) (w5 : (Cond.selects ad ⟨ad, "clone", "()Ljava/lang/Object;"⟩ ⟨"java/lang/Object", "clone", "()Ljava/lang/Object;"⟩).before a0 Z = true) (w6 : (Cond.castable ad "java/lang/Cloneable").before a0 Z = true)
    (eT : T.heap = h) {f : Nat → Int32} (F : own_AV Value.int Z h a .int n f) (E : Exa Z h a ad) {g : JFrame} (hg : g.method = m) (hsize : g.locals.size = c.maxLocals) {rest : List Value} (hs : g.stack = .ref a :: rest) (hd : decode c.code g.pc = .ok (.invokevirtual index, 3))
    (hf : 1 ≤ R.frames) {W cap : Nat} (hW : 2 * g.monitorRoom + (rest.map fun v => v.category).sum ≤ W) (hl : W + 14 ≤ R.locals) (hcap : n ≤ cap) (hc : cells + 1 ≤ R.cells) (hsl : slots + cap ≤ R.slots) :
    ∃ T' h', Stand p l e R s m args below meth c T' locs (cells + 1) (slots + cap) ∧ T'.heap = h' ∧ Ext h h' ∧ own_AV Value.int Z h' h.size .int n f ∧ Exa Z h' h.size ad ∧
      ∀ target, Steps p.tables e below (T'.setTop { g with pc := g.pc + 3, stack := .ref h.size :: rest }) target → Steps p.tables e below (T.setTop g) target := by
  obtain ⟨nn, cl, A, S, H⟩ := F
  have FC : FitC Z cl := fitC_of A fun i hi v hv => by rw [H i (S ▸ hi)] at hv; cases hv; rfl
  obtain ⟨T', h', X', e', ex, A', E', st⟩ := cloneA X hx hZ hown w1 w2 w3 w4 w5 w6 eT A E FC hg hsize hs hd hf hW hl (by rw [S]; exact hcap) hc hsl
  exact ⟨T', h', X', e', ex, ⟨nn, cloneOf cl, A', S, H⟩, E', st⟩
theorem own_alen (X : Stand p l e R s m args below meth c T locs cells slots) (hx : p.tables.exec = Jvm.exec) (hZ : Z.Warmed39 s.vm) (eT : T.heap = h) (F : own_AV mk Z h a ty n f) {z : Int32} (hz : n.toInt32 = z)
    {g : JFrame} (hg : g.method = m) {rest : List Value} (hs : g.stack = .ref a :: rest) (hd : decode c.code g.pc = .ok (.arraylength, 1)) {target : State} (hr : Steps p.tables e below (T.setTop { g with pc := g.pc + 1, stack := .int z :: rest }) target) : Steps p.tables e below (T.setTop g) target := by
  obtain ⟨_, cl, A, S, H⟩ := F
  exact X.arraylength hx (by rw [eT]; exact A.1) (State.isArrayOf_alike hZ.alike A.2.1) hg hs hd _ (by rw [S, hz]; exact hr)
end
end OwnKit
theorem d1_0 : decode jdk_29_method_70_code 0 = .ok (.lload_n 0, 1) := by decide +kernel
theorem d1_1 : decode jdk_29_method_70_code 1 = .ok (.lload_n 2, 1) := by decide +kernel
theorem d1_2 : decode jdk_29_method_70_code 2 = .ok (.lcmp, 1) := by decide +kernel
theorem d1_3 : decode jdk_29_method_70_code 3 = .ok (.ifCond .gt 7, 3) := by decide +kernel
theorem d1_6 : decode jdk_29_method_70_code 6 = .ok (.lload_n 0, 1) := by decide +kernel
theorem d1_7 : decode jdk_29_method_70_code 7 = .ok (.goto 4, 3) := by decide +kernel
theorem d1_10 : decode jdk_29_method_70_code 10 = .ok (.lload_n 2, 1) := by decide +kernel
theorem d1_11 : decode jdk_29_method_70_code 11 = .ok (.lreturn, 1) := by decide +kernel
theorem ef1 (m : MethodId) (x0 : Int64) (x1 : Int64) : entryFrame m #[(.long x0), (.long x1)] 4 = mkF m 0 #[.val (.long x0), .second, .val (.long x1), .second] [] := by first | (simp [entryFrame, mkF, argsToLocals, Value.category]; done) | rfl
def f1 (x0 : Int64) (x1 : Int64) : Int64 := if x1 < x0 then x1 else x0
def Q1 (Z : State) (x0 : Int64) (x1 : Int64) (h0 : Heap) (n0 : Nat) (v : Option Value) (h : Heap) (L : List Loc) : Prop := v = some (.long (f1 x0 x1)) ∧ Fr n0 L ∧ h = h0
set_option maxRecDepth 65536 in
set_option maxHeartbeats 40000000 in
theorem rm1 (l : Launch) (Z : State) (a0 : Array Value) (hw : ∀ d ∈ tables_1, d.before a0 Z = true) (ws : List Jvm.Cond) (x0 : Int64) (x1 : Int64) (h0 : Heap) (n0 : Nat) (Z0 : n0 ≤ h0.size) :
    MetFree l (⟨"java/lang/Math", "min", "(JJ)J"⟩ : MethodName) (head1 (Jvm.Cond.code (⟨"java/lang/Math", "min", "(JJ)J"⟩ : MethodName) jdk_29_method_70_code 4 (some .long) :: ws) ({ frames := 0, cells := 0, slots := 0, locals := 0 } : Room)) (fun a U => a = #[(.long x0), (.long x1)] ∧ Z.Warmed39 U.vm ∧ U.heap = h0) (fun _ _ _ _ _ => True) (fun _ U o U' => ∃ v L, o = .returned v ∧ Q1 Z x0 x1 h0 n0 v U'.heap L ∧ FrameEnd U o U' L ({ frames := 0, cells := 0, slots := 0, locals := 0 } : Room).cells ({ frames := 0, cells := 0, slots := 0, locals := 0 } : Room).slots) := by
  refine MetFree.of_bodySF (Jvm.Free.JP.mathPlain rfl (by decide +kernel)) hisR ?_
  intro p e s m args below meth c s₁ Bd hml0 hP hK
  obtain ⟨rfl, hZ, hh⟩ := hP
  have hx := Bd.exec
  have hby := Bd.bytes
  have hml : c.maxLocals = 4 := hml0
  have hown : s.vm.findClass "java/lang/Math" = some m.cls := findClass_of_methodNamed Bd.named
  have hnm := (name_of_methodNamed Bd.named Bd.method).1
  have hlk : meth.locks = false := BodyLoose.notSynchronized Bd
  have X0 : Stand p l e ({ frames := 0, cells := 0, slots := 0, locals := 0 } : Room) s m #[(.long x0), (.long x1)] below meth c s₁ [] 0 0 := Stand.of_body Bd
  have e0 : s₁.heap = h0 := by rw [← hh, Bd.state]; rfl
  have N0 := Fr.nil n0
  obtain ⟨G, hG⟩ : ∃ G, G = own_G s (Q1 Z x0 x1 h0 n0) ({ frames := 0, cells := 0, slots := 0, locals := 0 } : Room).cells ({ frames := 0, cells := 0, slots := 0, locals := 0 } : Room).slots := ⟨_, rfl⟩
  show own_Fin p e below (own_G s (Q1 Z x0 x1 h0 n0) ({ frames := 0, cells := 0, slots := 0, locals := 0 } : Room).cells ({ frames := 0, cells := 0, slots := 0, locals := 0 } : Room).slots) (s₁.setTop (entryFrame m #[(.long x0), (.long x1)] 4))
  rw [← hG]
  refine own_to (fun _ kz => castTop (ef1 m x0 x1) kz) ?_
  have q0 : (f1 x0 x1) = (f1 x0 x1) := rfl
  show own_Fin p e below G (s₁.setTop (mkF m 0 #[.val (.long x0), .second, .val (.long x1), .second] []))
  refine own_to (fun _ kz => XS.lloadN X0.here hx rfl (hb hby d1_0) rfl  kz) ?_
  show own_Fin p e below G (s₁.setTop (mkF m 1 #[.val (.long x0), .second, .val (.long x1), .second] [(.long x0)]))
  refine own_to (fun _ kz => XS.lloadN X0.here hx rfl (hb hby d1_1) rfl  kz) ?_
  show own_Fin p e below G (s₁.setTop (mkF m 2 #[.val (.long x0), .second, .val (.long x1), .second] [(.long x1), (.long x0)]))
  refine own_to (fun _ kz => XS.lcmp X0.here hx rfl (hb hby d1_2) rfl kz) ?_
  show own_Fin p e below G (s₁.setTop (mkF m 3 #[.val (.long x0), .second, .val (.long x1), .second] [(.int (lcmpW x0 x1))]))
  by_cases hc3 : x1 < x0
  · refine own_to (fun _ kz => XS.ifYes X0.here hx rfl (pc0 := 3) (pc' := 10) rfl (hb hby d1_3) rfl ((if0 _ _).trans (tlt ((lw_gt _ _).mpr hc3)).2.2.1) (by decide) (by decide) kz) ?_
    have q3t := q0.trans (if_pos hc3)
    show own_Fin p e below G (s₁.setTop (mkF m 10 #[.val (.long x0), .second, .val (.long x1), .second] []))
    refine own_to (fun _ kz => XS.lloadN X0.here hx rfl (hb hby d1_10) rfl  kz) ?_
    show own_Fin p e below G (s₁.setTop (mkF m 11 #[.val (.long x0), .second, .val (.long x1), .second] [(.long x1)]))
    exact own_retJ X0 hx hlk hG Bd.returns (hb hby d1_11) (by decide) (by decide) ⟨(congrArg (fun z => some (Value.long z)) q3t).symm, N0, e0⟩
  · refine own_to (fun _ kz => XS.ifNo X0.here hx rfl (hb hby d1_3) rfl ((if0 _ _).trans (flt (fun q => hc3 ((lw_gt _ _).mp q))).2.2.1) kz) ?_
    have q3f := q0.trans (if_neg hc3)
    show own_Fin p e below G (s₁.setTop (mkF m 6 #[.val (.long x0), .second, .val (.long x1), .second] []))
    refine own_to (fun _ kz => XS.lloadN X0.here hx rfl (hb hby d1_6) rfl  kz) ?_
    show own_Fin p e below G (s₁.setTop (mkF m 7 #[.val (.long x0), .second, .val (.long x1), .second] [(.long x0)]))
    refine own_to (fun _ kz => XS.goto X0.here hx rfl (pc0 := 7) (pc' := 11) rfl (hb hby d1_7) (by decide) (by decide) kz) ?_
    show own_Fin p e below G (s₁.setTop (mkF m 11 #[.val (.long x0), .second, .val (.long x1), .second] [(.long x0)]))
    exact own_retJ X0 hx hlk hG Bd.returns (hb hby d1_11) (by decide) (by decide) ⟨(congrArg (fun z => some (Value.long z)) q3f).symm, N0, e0⟩
theorem d2_0 : decode jdk_29_method_66_code 0 = .ok (.lload_n 0, 1) := by decide +kernel
theorem d2_1 : decode jdk_29_method_66_code 1 = .ok (.lload_n 2, 1) := by decide +kernel
theorem d2_2 : decode jdk_29_method_66_code 2 = .ok (.lcmp, 1) := by decide +kernel
theorem d2_3 : decode jdk_29_method_66_code 3 = .ok (.ifCond .lt 7, 3) := by decide +kernel
theorem d2_6 : decode jdk_29_method_66_code 6 = .ok (.lload_n 0, 1) := by decide +kernel
theorem d2_7 : decode jdk_29_method_66_code 7 = .ok (.goto 4, 3) := by decide +kernel
theorem d2_10 : decode jdk_29_method_66_code 10 = .ok (.lload_n 2, 1) := by decide +kernel
theorem d2_11 : decode jdk_29_method_66_code 11 = .ok (.lreturn, 1) := by decide +kernel
theorem ef2 (m : MethodId) (x0 : Int64) (x1 : Int64) : entryFrame m #[(.long x0), (.long x1)] 4 = mkF m 0 #[.val (.long x0), .second, .val (.long x1), .second] [] := by first | (simp [entryFrame, mkF, argsToLocals, Value.category]; done) | rfl
def f2 (x0 : Int64) (x1 : Int64) : Int64 := if x0 < x1 then x1 else x0
def Q2 (Z : State) (x0 : Int64) (x1 : Int64) (h0 : Heap) (n0 : Nat) (v : Option Value) (h : Heap) (L : List Loc) : Prop := v = some (.long (f2 x0 x1)) ∧ Fr n0 L ∧ h = h0
set_option maxRecDepth 65536 in
set_option maxHeartbeats 40000000 in
theorem rm2 (l : Launch) (Z : State) (a0 : Array Value) (hw : ∀ d ∈ tables_1, d.before a0 Z = true) (ws : List Jvm.Cond) (x0 : Int64) (x1 : Int64) (h0 : Heap) (n0 : Nat) (Z0 : n0 ≤ h0.size) :
    MetFree l (⟨"java/lang/Math", "max", "(JJ)J"⟩ : MethodName) (head1 (Jvm.Cond.code (⟨"java/lang/Math", "max", "(JJ)J"⟩ : MethodName) jdk_29_method_66_code 4 (some .long) :: ws) ({ frames := 0, cells := 0, slots := 0, locals := 0 } : Room)) (fun a U => a = #[(.long x0), (.long x1)] ∧ Z.Warmed39 U.vm ∧ U.heap = h0) (fun _ _ _ _ _ => True) (fun _ U o U' => ∃ v L, o = .returned v ∧ Q2 Z x0 x1 h0 n0 v U'.heap L ∧ FrameEnd U o U' L ({ frames := 0, cells := 0, slots := 0, locals := 0 } : Room).cells ({ frames := 0, cells := 0, slots := 0, locals := 0 } : Room).slots) := by
  refine MetFree.of_bodySF (Jvm.Free.JP.mathPlain rfl (by decide +kernel)) hisR ?_
  intro p e s m args below meth c s₁ Bd hml0 hP hK
  obtain ⟨rfl, hZ, hh⟩ := hP
  have hx := Bd.exec
  have hby := Bd.bytes
  have hml : c.maxLocals = 4 := hml0
  have hown : s.vm.findClass "java/lang/Math" = some m.cls := findClass_of_methodNamed Bd.named
  have hnm := (name_of_methodNamed Bd.named Bd.method).1
  have hlk : meth.locks = false := BodyLoose.notSynchronized Bd
  have X0 : Stand p l e ({ frames := 0, cells := 0, slots := 0, locals := 0 } : Room) s m #[(.long x0), (.long x1)] below meth c s₁ [] 0 0 := Stand.of_body Bd
  have e0 : s₁.heap = h0 := by rw [← hh, Bd.state]; rfl
  have N0 := Fr.nil n0
  obtain ⟨G, hG⟩ : ∃ G, G = own_G s (Q2 Z x0 x1 h0 n0) ({ frames := 0, cells := 0, slots := 0, locals := 0 } : Room).cells ({ frames := 0, cells := 0, slots := 0, locals := 0 } : Room).slots := ⟨_, rfl⟩
  show own_Fin p e below (own_G s (Q2 Z x0 x1 h0 n0) ({ frames := 0, cells := 0, slots := 0, locals := 0 } : Room).cells ({ frames := 0, cells := 0, slots := 0, locals := 0 } : Room).slots) (s₁.setTop (entryFrame m #[(.long x0), (.long x1)] 4))
  rw [← hG]
  refine own_to (fun _ kz => castTop (ef2 m x0 x1) kz) ?_
  have q0 : (f2 x0 x1) = (f2 x0 x1) := rfl
  show own_Fin p e below G (s₁.setTop (mkF m 0 #[.val (.long x0), .second, .val (.long x1), .second] []))
  refine own_to (fun _ kz => XS.lloadN X0.here hx rfl (hb hby d2_0) rfl  kz) ?_
  show own_Fin p e below G (s₁.setTop (mkF m 1 #[.val (.long x0), .second, .val (.long x1), .second] [(.long x0)]))
  refine own_to (fun _ kz => XS.lloadN X0.here hx rfl (hb hby d2_1) rfl  kz) ?_
  show own_Fin p e below G (s₁.setTop (mkF m 2 #[.val (.long x0), .second, .val (.long x1), .second] [(.long x1), (.long x0)]))
  refine own_to (fun _ kz => XS.lcmp X0.here hx rfl (hb hby d2_2) rfl kz) ?_
  show own_Fin p e below G (s₁.setTop (mkF m 3 #[.val (.long x0), .second, .val (.long x1), .second] [(.int (lcmpW x0 x1))]))
  by_cases hc3 : x0 < x1
  · refine own_to (fun _ kz => XS.ifYes X0.here hx rfl (pc0 := 3) (pc' := 10) rfl (hb hby d2_3) rfl ((if0 _ _).trans (tlt ((lw_lt _ _).mpr hc3)).1) (by decide) (by decide) kz) ?_
    have q3t := q0.trans (if_pos hc3)
    show own_Fin p e below G (s₁.setTop (mkF m 10 #[.val (.long x0), .second, .val (.long x1), .second] []))
    refine own_to (fun _ kz => XS.lloadN X0.here hx rfl (hb hby d2_10) rfl  kz) ?_
    show own_Fin p e below G (s₁.setTop (mkF m 11 #[.val (.long x0), .second, .val (.long x1), .second] [(.long x1)]))
    exact own_retJ X0 hx hlk hG Bd.returns (hb hby d2_11) (by decide) (by decide) ⟨(congrArg (fun z => some (Value.long z)) q3t).symm, N0, e0⟩
  · refine own_to (fun _ kz => XS.ifNo X0.here hx rfl (hb hby d2_3) rfl ((if0 _ _).trans (flt (fun q => hc3 ((lw_lt _ _).mp q))).1) kz) ?_
    have q3f := q0.trans (if_neg hc3)
    show own_Fin p e below G (s₁.setTop (mkF m 6 #[.val (.long x0), .second, .val (.long x1), .second] []))
    refine own_to (fun _ kz => XS.lloadN X0.here hx rfl (hb hby d2_6) rfl  kz) ?_
    show own_Fin p e below G (s₁.setTop (mkF m 7 #[.val (.long x0), .second, .val (.long x1), .second] [(.long x0)]))
    refine own_to (fun _ kz => XS.goto X0.here hx rfl (pc0 := 7) (pc' := 11) rfl (hb hby d2_7) (by decide) (by decide) kz) ?_
    show own_Fin p e below G (s₁.setTop (mkF m 11 #[.val (.long x0), .second, .val (.long x1), .second] [(.long x0)]))
    exact own_retJ X0 hx hlk hG Bd.returns (hb hby d2_11) (by decide) (by decide) ⟨(congrArg (fun z => some (Value.long z)) q3f).symm, N0, e0⟩
theorem own_pn0 : plainName "java/lang/Long" = true := by first | (simp [plainName, overriddenIn]; done) | decide +kernel
theorem d7_0 : decode jdk_35_method_42_code 0 = .ok (.lload_n 0, 1) := by decide +kernel
theorem d7_1 : decode jdk_35_method_42_code 1 = .ok (.lload_n 2, 1) := by decide +kernel
theorem d7_2 : decode jdk_35_method_42_code 2 = .ok (.lcmp, 1) := by decide +kernel
theorem d7_3 : decode jdk_35_method_42_code 3 = .ok (.ifCond .ge 7, 3) := by decide +kernel
theorem d7_6 : decode jdk_35_method_42_code 6 = .ok (.iconst (-1), 1) := by decide +kernel
theorem d7_7 : decode jdk_35_method_42_code 7 = .ok (.goto 14, 3) := by decide +kernel
theorem d7_10 : decode jdk_35_method_42_code 10 = .ok (.lload_n 0, 1) := by decide +kernel
theorem d7_11 : decode jdk_35_method_42_code 11 = .ok (.lload_n 2, 1) := by decide +kernel
theorem d7_12 : decode jdk_35_method_42_code 12 = .ok (.lcmp, 1) := by decide +kernel
theorem d7_13 : decode jdk_35_method_42_code 13 = .ok (.ifCond .ne 7, 3) := by decide +kernel
theorem d7_16 : decode jdk_35_method_42_code 16 = .ok (.iconst 0, 1) := by decide +kernel
theorem d7_17 : decode jdk_35_method_42_code 17 = .ok (.goto 4, 3) := by decide +kernel
theorem d7_20 : decode jdk_35_method_42_code 20 = .ok (.iconst 1, 1) := by decide +kernel
theorem d7_21 : decode jdk_35_method_42_code 21 = .ok (.ireturn, 1) := by decide +kernel
theorem ef7 (m : MethodId) (x0 : Int64) (x1 : Int64) : entryFrame m #[(.long x0), (.long x1)] 4 = mkF m 0 #[.val (.long x0), .second, .val (.long x1), .second] [] := by first | (simp [entryFrame, mkF, argsToLocals, Value.category]; done) | rfl
def f7 (x0 : Int64) (x1 : Int64) : Int32 := if x0 < x1 then (-1 : Int32) else if x0 = x1 then (0 : Int32) else (1 : Int32)
def Q7 (Z : State) (x0 : Int64) (x1 : Int64) (h0 : Heap) (n0 : Nat) (v : Option Value) (h : Heap) (L : List Loc) : Prop := v = some (.int (f7 x0 x1)) ∧ Fr n0 L ∧ h = h0
set_option maxRecDepth 65536 in
set_option maxHeartbeats 40000000 in
theorem rm7 (l : Launch) (Z : State) (a0 : Array Value) (hw : ∀ d ∈ tables_1, d.before a0 Z = true) (ws : List Jvm.Cond) (x0 : Int64) (x1 : Int64) (h0 : Heap) (n0 : Nat) (Z0 : n0 ≤ h0.size) :
    MetFree l (⟨"java/lang/Long", "compare", "(JJ)I"⟩ : MethodName) (head1 (Jvm.Cond.code (⟨"java/lang/Long", "compare", "(JJ)I"⟩ : MethodName) jdk_35_method_42_code 4 (some .int) :: ws) ({ frames := 0, cells := 0, slots := 0, locals := 0 } : Room)) (fun a U => a = #[(.long x0), (.long x1)] ∧ Z.Warmed39 U.vm ∧ U.heap = h0) (fun _ _ _ _ _ => True) (fun _ U o U' => ∃ v L, o = .returned v ∧ Q7 Z x0 x1 h0 n0 v U'.heap L ∧ FrameEnd U o U' L ({ frames := 0, cells := 0, slots := 0, locals := 0 } : Room).cells ({ frames := 0, cells := 0, slots := 0, locals := 0 } : Room).slots) := by
  refine MetFree.of_bodySF (plainFor_of_name own_pn0) hisR ?_
  intro p e s m args below meth c s₁ Bd hml0 hP hK
  obtain ⟨rfl, hZ, hh⟩ := hP
  have hx := Bd.exec
  have hby := Bd.bytes
  have hml : c.maxLocals = 4 := hml0
  have hown : s.vm.findClass "java/lang/Long" = some m.cls := findClass_of_methodNamed Bd.named
  have hnm := (name_of_methodNamed Bd.named Bd.method).1
  have hlk : meth.locks = false := BodyLoose.notSynchronized Bd
  have X0 : Stand p l e ({ frames := 0, cells := 0, slots := 0, locals := 0 } : Room) s m #[(.long x0), (.long x1)] below meth c s₁ [] 0 0 := Stand.of_body Bd
  have e0 : s₁.heap = h0 := by rw [← hh, Bd.state]; rfl
  have N0 := Fr.nil n0
  obtain ⟨G, hG⟩ : ∃ G, G = own_G s (Q7 Z x0 x1 h0 n0) ({ frames := 0, cells := 0, slots := 0, locals := 0 } : Room).cells ({ frames := 0, cells := 0, slots := 0, locals := 0 } : Room).slots := ⟨_, rfl⟩
  show own_Fin p e below (own_G s (Q7 Z x0 x1 h0 n0) ({ frames := 0, cells := 0, slots := 0, locals := 0 } : Room).cells ({ frames := 0, cells := 0, slots := 0, locals := 0 } : Room).slots) (s₁.setTop (entryFrame m #[(.long x0), (.long x1)] 4))
  rw [← hG]
  refine own_to (fun _ kz => castTop (ef7 m x0 x1) kz) ?_
  have q0 : (f7 x0 x1) = (f7 x0 x1) := rfl
  show own_Fin p e below G (s₁.setTop (mkF m 0 #[.val (.long x0), .second, .val (.long x1), .second] []))
  refine own_to (fun _ kz => XS.lloadN X0.here hx rfl (hb hby d7_0) rfl  kz) ?_
  show own_Fin p e below G (s₁.setTop (mkF m 1 #[.val (.long x0), .second, .val (.long x1), .second] [(.long x0)]))
  refine own_to (fun _ kz => XS.lloadN X0.here hx rfl (hb hby d7_1) rfl  kz) ?_
  show own_Fin p e below G (s₁.setTop (mkF m 2 #[.val (.long x0), .second, .val (.long x1), .second] [(.long x1), (.long x0)]))
  refine own_to (fun _ kz => XS.lcmp X0.here hx rfl (hb hby d7_2) rfl kz) ?_
  show own_Fin p e below G (s₁.setTop (mkF m 3 #[.val (.long x0), .second, .val (.long x1), .second] [(.int (lcmpW x0 x1))]))
  by_cases hc3 : x0 < x1
  · refine own_to (fun _ kz => XS.ifNo X0.here hx rfl (hb hby d7_3) rfl ((if0 _ _).trans (tlt ((lw_lt _ _).mpr hc3)).2.1) kz) ?_
    have q3t := q0.trans (if_pos hc3)
    show own_Fin p e below G (s₁.setTop (mkF m 6 #[.val (.long x0), .second, .val (.long x1), .second] []))
    refine own_to (fun _ kz => XS.iconst X0.here hx rfl (hb hby d7_6) kz) ?_
    show own_Fin p e below G (s₁.setTop (mkF m 7 #[.val (.long x0), .second, .val (.long x1), .second] [(.int (-1 : Int32))]))
    refine own_to (fun _ kz => XS.goto X0.here hx rfl (pc0 := 7) (pc' := 21) rfl (hb hby d7_7) (by decide) (by decide) kz) ?_
    show own_Fin p e below G (s₁.setTop (mkF m 21 #[.val (.long x0), .second, .val (.long x1), .second] [(.int (-1 : Int32))]))
    exact own_retI X0 hx hlk hG Bd.returns (hb hby d7_21) (by decide) (by decide) ⟨(congrArg (fun z => some (Value.int z)) q3t).symm, N0, e0⟩
  · refine own_to (fun _ kz => XS.ifYes X0.here hx rfl (pc0 := 3) (pc' := 10) rfl (hb hby d7_3) rfl ((if0 _ _).trans (flt (fun q => hc3 ((lw_lt _ _).mp q))).2.1) (by decide) (by decide) kz) ?_
    have q3f := q0.trans (if_neg hc3)
    show own_Fin p e below G (s₁.setTop (mkF m 10 #[.val (.long x0), .second, .val (.long x1), .second] []))
    refine own_to (fun _ kz => XS.lloadN X0.here hx rfl (hb hby d7_10) rfl  kz) ?_
    show own_Fin p e below G (s₁.setTop (mkF m 11 #[.val (.long x0), .second, .val (.long x1), .second] [(.long x0)]))
    refine own_to (fun _ kz => XS.lloadN X0.here hx rfl (hb hby d7_11) rfl  kz) ?_
    show own_Fin p e below G (s₁.setTop (mkF m 12 #[.val (.long x0), .second, .val (.long x1), .second] [(.long x1), (.long x0)]))
    refine own_to (fun _ kz => XS.lcmp X0.here hx rfl (hb hby d7_12) rfl kz) ?_
    show own_Fin p e below G (s₁.setTop (mkF m 13 #[.val (.long x0), .second, .val (.long x1), .second] [(.int (lcmpW x0 x1))]))
    by_cases hc13 : x0 = x1
    · refine own_to (fun _ kz => XS.ifNo X0.here hx rfl (hb hby d7_13) rfl ((if0 _ _).trans (teq ((lw_eq _ _).mpr hc13)).2) kz) ?_
      have q13t := q3f.trans (if_pos hc13)
      show own_Fin p e below G (s₁.setTop (mkF m 16 #[.val (.long x0), .second, .val (.long x1), .second] []))
      refine own_to (fun _ kz => XS.iconst X0.here hx rfl (hb hby d7_16) kz) ?_
      show own_Fin p e below G (s₁.setTop (mkF m 17 #[.val (.long x0), .second, .val (.long x1), .second] [(.int (0 : Int32))]))
      refine own_to (fun _ kz => XS.goto X0.here hx rfl (pc0 := 17) (pc' := 21) rfl (hb hby d7_17) (by decide) (by decide) kz) ?_
      show own_Fin p e below G (s₁.setTop (mkF m 21 #[.val (.long x0), .second, .val (.long x1), .second] [(.int (0 : Int32))]))
      exact own_retI X0 hx hlk hG Bd.returns (hb hby d7_21) (by decide) (by decide) ⟨(congrArg (fun z => some (Value.int z)) q13t).symm, N0, e0⟩
    · refine own_to (fun _ kz => XS.ifYes X0.here hx rfl (pc0 := 13) (pc' := 20) rfl (hb hby d7_13) rfl ((if0 _ _).trans (feq (fun q => hc13 ((lw_eq _ _).mp q))).2) (by decide) (by decide) kz) ?_
      have q13f := q3f.trans (if_neg hc13)
      show own_Fin p e below G (s₁.setTop (mkF m 20 #[.val (.long x0), .second, .val (.long x1), .second] []))
      refine own_to (fun _ kz => XS.iconst X0.here hx rfl (hb hby d7_20) kz) ?_
      show own_Fin p e below G (s₁.setTop (mkF m 21 #[.val (.long x0), .second, .val (.long x1), .second] [(.int (1 : Int32))]))
      exact own_retI X0 hx hlk hG Bd.returns (hb hby d7_21) (by decide) (by decide) ⟨(congrArg (fun z => some (Value.int z)) q13f).symm, N0, e0⟩
theorem own_pn1 : plainName "com/example/braidjoin/braidjoin/IntervalCompareToPinLaw" = true := by first | (simp [plainName, overriddenIn]; done) | decide +kernel
theorem d8_0 : decode method_2_code 0 = .ok (.iload_n 0, 1) := by decide +kernel
theorem d8_1 : decode method_2_code 1 = .ok (.ifCond .ge 5, 3) := by decide +kernel
theorem d8_4 : decode method_2_code 4 = .ok (.iconst (-1), 1) := by decide +kernel
theorem d8_5 : decode method_2_code 5 = .ok (.ireturn, 1) := by decide +kernel
theorem d8_6 : decode method_2_code 6 = .ok (.iload_n 0, 1) := by decide +kernel
theorem d8_7 : decode method_2_code 7 = .ok (.ifCond .le 5, 3) := by decide +kernel
theorem d8_10 : decode method_2_code 10 = .ok (.iconst 1, 1) := by decide +kernel
theorem d8_11 : decode method_2_code 11 = .ok (.ireturn, 1) := by decide +kernel
theorem d8_12 : decode method_2_code 12 = .ok (.iconst 0, 1) := by decide +kernel
theorem d8_13 : decode method_2_code 13 = .ok (.ireturn, 1) := by decide +kernel
theorem ef8 (m : MethodId) (p0 : Int32) : entryFrame m #[(.int p0)] 1 = mkF m 0 #[.val (.int p0)] [] := by first | (simp [entryFrame, mkF, argsToLocals, Value.category]; done) | rfl
def f8 (p0 : Int32) : Int32 := if p0 < (0 : Int32) then (-1 : Int32) else if (0 : Int32) < p0 then (1 : Int32) else (0 : Int32)
def Q8 (Z : State) (p0 : Int32) (h0 : Heap) (n0 : Nat) (v : Option Value) (h : Heap) (L : List Loc) : Prop := v = some (.int (f8 p0)) ∧ Fr n0 L ∧ h = h0
set_option maxRecDepth 65536 in
set_option maxHeartbeats 40000000 in
theorem rm8 (l : Launch) (Z : State) (a0 : Array Value) (hw : ∀ d ∈ tables_1, d.before a0 Z = true) (ws : List Jvm.Cond) (p0 : Int32) (h0 : Heap) (n0 : Nat) (Z0 : n0 ≤ h0.size) :
    MetFree l (⟨"com/example/braidjoin/braidjoin/IntervalCompareToPinLaw", "sign", "(I)I"⟩ : MethodName) (head1 (Jvm.Cond.code (⟨"com/example/braidjoin/braidjoin/IntervalCompareToPinLaw", "sign", "(I)I"⟩ : MethodName) method_2_code 1 (some .int) :: ws) ({ frames := 0, cells := 0, slots := 0, locals := 0 } : Room)) (fun a U => a = #[(.int p0)] ∧ Z.Warmed39 U.vm ∧ U.heap = h0) (fun _ _ _ _ _ => True) (fun _ U o U' => ∃ v L, o = .returned v ∧ Q8 Z p0 h0 n0 v U'.heap L ∧ FrameEnd U o U' L ({ frames := 0, cells := 0, slots := 0, locals := 0 } : Room).cells ({ frames := 0, cells := 0, slots := 0, locals := 0 } : Room).slots) := by
  refine MetFree.of_bodySF (plainFor_of_name own_pn1) hisR ?_
  intro p e s m args below meth c s₁ Bd hml0 hP hK
  obtain ⟨rfl, hZ, hh⟩ := hP
  have hx := Bd.exec
  have hby := Bd.bytes
  have hml : c.maxLocals = 1 := hml0
  have hown : s.vm.findClass "com/example/braidjoin/braidjoin/IntervalCompareToPinLaw" = some m.cls := findClass_of_methodNamed Bd.named
  have hnm := (name_of_methodNamed Bd.named Bd.method).1
  have hlk : meth.locks = false := BodyLoose.notSynchronized Bd
  have X0 : Stand p l e ({ frames := 0, cells := 0, slots := 0, locals := 0 } : Room) s m #[(.int p0)] below meth c s₁ [] 0 0 := Stand.of_body Bd
  have e0 : s₁.heap = h0 := by rw [← hh, Bd.state]; rfl
  have N0 := Fr.nil n0
  obtain ⟨G, hG⟩ : ∃ G, G = own_G s (Q8 Z p0 h0 n0) ({ frames := 0, cells := 0, slots := 0, locals := 0 } : Room).cells ({ frames := 0, cells := 0, slots := 0, locals := 0 } : Room).slots := ⟨_, rfl⟩
  show own_Fin p e below (own_G s (Q8 Z p0 h0 n0) ({ frames := 0, cells := 0, slots := 0, locals := 0 } : Room).cells ({ frames := 0, cells := 0, slots := 0, locals := 0 } : Room).slots) (s₁.setTop (entryFrame m #[(.int p0)] 1))
  rw [← hG]
  refine own_to (fun _ kz => castTop (ef8 m p0) kz) ?_
  have q0 : (f8 p0) = (f8 p0) := rfl
  show own_Fin p e below G (s₁.setTop (mkF m 0 #[.val (.int p0)] []))
  refine own_to (fun _ kz => XS.iloadN X0.here hx rfl (hb hby d8_0) rfl  kz) ?_
  show own_Fin p e below G (s₁.setTop (mkF m 1 #[.val (.int p0)] [(.int p0)]))
  by_cases hc1 : p0 < (0 : Int32)
  · refine own_to (fun _ kz => XS.ifNo X0.here hx rfl (hb hby d8_1) rfl ((if0 _ _).trans (tlt hc1).2.1) kz) ?_
    have q1t := q0.trans (if_pos hc1)
    show own_Fin p e below G (s₁.setTop (mkF m 4 #[.val (.int p0)] []))
    refine own_to (fun _ kz => XS.iconst X0.here hx rfl (hb hby d8_4) kz) ?_
    show own_Fin p e below G (s₁.setTop (mkF m 5 #[.val (.int p0)] [(.int (-1 : Int32))]))
    exact own_retI X0 hx hlk hG Bd.returns (hb hby d8_5) (by decide) (by decide) ⟨(congrArg (fun z => some (Value.int z)) q1t).symm, N0, e0⟩
  · refine own_to (fun _ kz => XS.ifYes X0.here hx rfl (pc0 := 1) (pc' := 6) rfl (hb hby d8_1) rfl ((if0 _ _).trans (flt hc1).2.1) (by decide) (by decide) kz) ?_
    have q1f := q0.trans (if_neg hc1)
    show own_Fin p e below G (s₁.setTop (mkF m 6 #[.val (.int p0)] []))
    refine own_to (fun _ kz => XS.iloadN X0.here hx rfl (hb hby d8_6) rfl  kz) ?_
    show own_Fin p e below G (s₁.setTop (mkF m 7 #[.val (.int p0)] [(.int p0)]))
    by_cases hc7 : (0 : Int32) < p0
    · refine own_to (fun _ kz => XS.ifNo X0.here hx rfl (hb hby d8_7) rfl ((if0 _ _).trans (tlt hc7).2.2.2) kz) ?_
      have q7t := q1f.trans (if_pos hc7)
      show own_Fin p e below G (s₁.setTop (mkF m 10 #[.val (.int p0)] []))
      refine own_to (fun _ kz => XS.iconst X0.here hx rfl (hb hby d8_10) kz) ?_
      show own_Fin p e below G (s₁.setTop (mkF m 11 #[.val (.int p0)] [(.int (1 : Int32))]))
      exact own_retI X0 hx hlk hG Bd.returns (hb hby d8_11) (by decide) (by decide) ⟨(congrArg (fun z => some (Value.int z)) q7t).symm, N0, e0⟩
    · refine own_to (fun _ kz => XS.ifYes X0.here hx rfl (pc0 := 7) (pc' := 12) rfl (hb hby d8_7) rfl ((if0 _ _).trans (flt hc7).2.2.2) (by decide) (by decide) kz) ?_
      have q7f := q1f.trans (if_neg hc7)
      show own_Fin p e below G (s₁.setTop (mkF m 12 #[.val (.int p0)] []))
      refine own_to (fun _ kz => XS.iconst X0.here hx rfl (hb hby d8_12) kz) ?_
      show own_Fin p e below G (s₁.setTop (mkF m 13 #[.val (.int p0)] [(.int (0 : Int32))]))
      exact own_retI X0 hx hlk hG Bd.returns (hb hby d8_13) (by decide) (by decide) ⟨(congrArg (fun z => some (Value.int z)) q7f).symm, N0, e0⟩
theorem d9_0 : decode method_3_code 0 = .ok (.lload_n 0, 1) := by decide +kernel
theorem d9_1 : decode method_3_code 1 = .ok (.lload 4, 2) := by decide +kernel
theorem d9_3 : decode method_3_code 3 = .ok (.lcmp, 1) := by decide +kernel
theorem d9_4 : decode method_3_code 4 = .ok (.ifCond .ge 5, 3) := by decide +kernel
theorem d9_7 : decode method_3_code 7 = .ok (.iconst (-1), 1) := by decide +kernel
theorem d9_8 : decode method_3_code 8 = .ok (.ireturn, 1) := by decide +kernel
theorem d9_9 : decode method_3_code 9 = .ok (.lload_n 0, 1) := by decide +kernel
theorem d9_10 : decode method_3_code 10 = .ok (.lload 4, 2) := by decide +kernel
theorem d9_12 : decode method_3_code 12 = .ok (.lcmp, 1) := by decide +kernel
theorem d9_13 : decode method_3_code 13 = .ok (.ifCond .le 5, 3) := by decide +kernel
theorem d9_16 : decode method_3_code 16 = .ok (.iconst 1, 1) := by decide +kernel
theorem d9_17 : decode method_3_code 17 = .ok (.ireturn, 1) := by decide +kernel
theorem d9_18 : decode method_3_code 18 = .ok (.lload_n 2, 1) := by decide +kernel
theorem d9_19 : decode method_3_code 19 = .ok (.lload 6, 2) := by decide +kernel
theorem d9_21 : decode method_3_code 21 = .ok (.lcmp, 1) := by decide +kernel
theorem d9_22 : decode method_3_code 22 = .ok (.ifCond .ge 5, 3) := by decide +kernel
theorem d9_25 : decode method_3_code 25 = .ok (.iconst (-1), 1) := by decide +kernel
theorem d9_26 : decode method_3_code 26 = .ok (.ireturn, 1) := by decide +kernel
theorem d9_27 : decode method_3_code 27 = .ok (.lload_n 2, 1) := by decide +kernel
theorem d9_28 : decode method_3_code 28 = .ok (.lload 6, 2) := by decide +kernel
theorem d9_30 : decode method_3_code 30 = .ok (.lcmp, 1) := by decide +kernel
theorem d9_31 : decode method_3_code 31 = .ok (.ifCond .le 5, 3) := by decide +kernel
theorem d9_34 : decode method_3_code 34 = .ok (.iconst 1, 1) := by decide +kernel
theorem d9_35 : decode method_3_code 35 = .ok (.ireturn, 1) := by decide +kernel
theorem d9_36 : decode method_3_code 36 = .ok (.iconst 0, 1) := by decide +kernel
theorem d9_37 : decode method_3_code 37 = .ok (.ireturn, 1) := by decide +kernel
theorem ef9 (m : MethodId) (x0 : Int64) (x1 : Int64) (x2 : Int64) (x3 : Int64) : entryFrame m #[(.long x0), (.long x1), (.long x2), (.long x3)] 8 = mkF m 0 #[.val (.long x0), .second, .val (.long x1), .second, .val (.long x2), .second, .val (.long x3), .second] [] := by first | (simp [entryFrame, mkF, argsToLocals, Value.category]; done) | rfl
def f9 (x0 : Int64) (x1 : Int64) (x2 : Int64) (x3 : Int64) : Int32 := if x0 < x2 then (-1 : Int32) else if x2 < x0 then (1 : Int32) else if x1 < x3 then (-1 : Int32) else if x3 < x1 then (1 : Int32) else (0 : Int32)
def Q9 (Z : State) (x0 : Int64) (x1 : Int64) (x2 : Int64) (x3 : Int64) (h0 : Heap) (n0 : Nat) (v : Option Value) (h : Heap) (L : List Loc) : Prop := v = some (.int (f9 x0 x1 x2 x3)) ∧ Fr n0 L ∧ h = h0
set_option maxRecDepth 65536 in
set_option maxHeartbeats 40000000 in
theorem rm9 (l : Launch) (Z : State) (a0 : Array Value) (hw : ∀ d ∈ tables_1, d.before a0 Z = true) (ws : List Jvm.Cond) (x0 : Int64) (x1 : Int64) (x2 : Int64) (x3 : Int64) (h0 : Heap) (n0 : Nat) (Z0 : n0 ≤ h0.size) :
    MetFree l (⟨"com/example/braidjoin/braidjoin/IntervalCompareToPinLaw", "expected", "(JJJJ)I"⟩ : MethodName) (head1 (Jvm.Cond.code (⟨"com/example/braidjoin/braidjoin/IntervalCompareToPinLaw", "expected", "(JJJJ)I"⟩ : MethodName) method_3_code 8 (some .int) :: ws) ({ frames := 0, cells := 0, slots := 0, locals := 0 } : Room)) (fun a U => a = #[(.long x0), (.long x1), (.long x2), (.long x3)] ∧ Z.Warmed39 U.vm ∧ U.heap = h0) (fun _ _ _ _ _ => True) (fun _ U o U' => ∃ v L, o = .returned v ∧ Q9 Z x0 x1 x2 x3 h0 n0 v U'.heap L ∧ FrameEnd U o U' L ({ frames := 0, cells := 0, slots := 0, locals := 0 } : Room).cells ({ frames := 0, cells := 0, slots := 0, locals := 0 } : Room).slots) := by
  refine MetFree.of_bodySF (plainFor_of_name own_pn1) hisR ?_
  intro p e s m args below meth c s₁ Bd hml0 hP hK
  obtain ⟨rfl, hZ, hh⟩ := hP
  have hx := Bd.exec
  have hby := Bd.bytes
  have hml : c.maxLocals = 8 := hml0
  have hown : s.vm.findClass "com/example/braidjoin/braidjoin/IntervalCompareToPinLaw" = some m.cls := findClass_of_methodNamed Bd.named
  have hnm := (name_of_methodNamed Bd.named Bd.method).1
  have hlk : meth.locks = false := BodyLoose.notSynchronized Bd
  have X0 : Stand p l e ({ frames := 0, cells := 0, slots := 0, locals := 0 } : Room) s m #[(.long x0), (.long x1), (.long x2), (.long x3)] below meth c s₁ [] 0 0 := Stand.of_body Bd
  have e0 : s₁.heap = h0 := by rw [← hh, Bd.state]; rfl
  have N0 := Fr.nil n0
  obtain ⟨G, hG⟩ : ∃ G, G = own_G s (Q9 Z x0 x1 x2 x3 h0 n0) ({ frames := 0, cells := 0, slots := 0, locals := 0 } : Room).cells ({ frames := 0, cells := 0, slots := 0, locals := 0 } : Room).slots := ⟨_, rfl⟩
  show own_Fin p e below (own_G s (Q9 Z x0 x1 x2 x3 h0 n0) ({ frames := 0, cells := 0, slots := 0, locals := 0 } : Room).cells ({ frames := 0, cells := 0, slots := 0, locals := 0 } : Room).slots) (s₁.setTop (entryFrame m #[(.long x0), (.long x1), (.long x2), (.long x3)] 8))
  rw [← hG]
  refine own_to (fun _ kz => castTop (ef9 m x0 x1 x2 x3) kz) ?_
  have q0 : (f9 x0 x1 x2 x3) = (f9 x0 x1 x2 x3) := rfl
  show own_Fin p e below G (s₁.setTop (mkF m 0 #[.val (.long x0), .second, .val (.long x1), .second, .val (.long x2), .second, .val (.long x3), .second] []))
  refine own_to (fun _ kz => XS.lloadN X0.here hx rfl (hb hby d9_0) rfl  kz) ?_
  show own_Fin p e below G (s₁.setTop (mkF m 1 #[.val (.long x0), .second, .val (.long x1), .second, .val (.long x2), .second, .val (.long x3), .second] [(.long x0)]))
  refine own_to (fun _ kz => XS.lload X0.here hx rfl (hb hby d9_1) rfl  kz) ?_
  show own_Fin p e below G (s₁.setTop (mkF m 3 #[.val (.long x0), .second, .val (.long x1), .second, .val (.long x2), .second, .val (.long x3), .second] [(.long x2), (.long x0)]))
  refine own_to (fun _ kz => XS.lcmp X0.here hx rfl (hb hby d9_3) rfl kz) ?_
  show own_Fin p e below G (s₁.setTop (mkF m 4 #[.val (.long x0), .second, .val (.long x1), .second, .val (.long x2), .second, .val (.long x3), .second] [(.int (lcmpW x0 x2))]))
  by_cases hc4 : x0 < x2
  · refine own_to (fun _ kz => XS.ifNo X0.here hx rfl (hb hby d9_4) rfl ((if0 _ _).trans (tlt ((lw_lt _ _).mpr hc4)).2.1) kz) ?_
    have q4t := q0.trans (if_pos hc4)
    show own_Fin p e below G (s₁.setTop (mkF m 7 #[.val (.long x0), .second, .val (.long x1), .second, .val (.long x2), .second, .val (.long x3), .second] []))
    refine own_to (fun _ kz => XS.iconst X0.here hx rfl (hb hby d9_7) kz) ?_
    show own_Fin p e below G (s₁.setTop (mkF m 8 #[.val (.long x0), .second, .val (.long x1), .second, .val (.long x2), .second, .val (.long x3), .second] [(.int (-1 : Int32))]))
    exact own_retI X0 hx hlk hG Bd.returns (hb hby d9_8) (by decide) (by decide) ⟨(congrArg (fun z => some (Value.int z)) q4t).symm, N0, e0⟩
  · refine own_to (fun _ kz => XS.ifYes X0.here hx rfl (pc0 := 4) (pc' := 9) rfl (hb hby d9_4) rfl ((if0 _ _).trans (flt (fun q => hc4 ((lw_lt _ _).mp q))).2.1) (by decide) (by decide) kz) ?_
    have q4f := q0.trans (if_neg hc4)
    show own_Fin p e below G (s₁.setTop (mkF m 9 #[.val (.long x0), .second, .val (.long x1), .second, .val (.long x2), .second, .val (.long x3), .second] []))
    refine own_to (fun _ kz => XS.lloadN X0.here hx rfl (hb hby d9_9) rfl  kz) ?_
    show own_Fin p e below G (s₁.setTop (mkF m 10 #[.val (.long x0), .second, .val (.long x1), .second, .val (.long x2), .second, .val (.long x3), .second] [(.long x0)]))
    refine own_to (fun _ kz => XS.lload X0.here hx rfl (hb hby d9_10) rfl  kz) ?_
    show own_Fin p e below G (s₁.setTop (mkF m 12 #[.val (.long x0), .second, .val (.long x1), .second, .val (.long x2), .second, .val (.long x3), .second] [(.long x2), (.long x0)]))
    refine own_to (fun _ kz => XS.lcmp X0.here hx rfl (hb hby d9_12) rfl kz) ?_
    show own_Fin p e below G (s₁.setTop (mkF m 13 #[.val (.long x0), .second, .val (.long x1), .second, .val (.long x2), .second, .val (.long x3), .second] [(.int (lcmpW x0 x2))]))
    by_cases hc13 : x2 < x0
    · refine own_to (fun _ kz => XS.ifNo X0.here hx rfl (hb hby d9_13) rfl ((if0 _ _).trans (tlt ((lw_gt _ _).mpr hc13)).2.2.2) kz) ?_
      have q13t := q4f.trans (if_pos hc13)
      show own_Fin p e below G (s₁.setTop (mkF m 16 #[.val (.long x0), .second, .val (.long x1), .second, .val (.long x2), .second, .val (.long x3), .second] []))
      refine own_to (fun _ kz => XS.iconst X0.here hx rfl (hb hby d9_16) kz) ?_
      show own_Fin p e below G (s₁.setTop (mkF m 17 #[.val (.long x0), .second, .val (.long x1), .second, .val (.long x2), .second, .val (.long x3), .second] [(.int (1 : Int32))]))
      exact own_retI X0 hx hlk hG Bd.returns (hb hby d9_17) (by decide) (by decide) ⟨(congrArg (fun z => some (Value.int z)) q13t).symm, N0, e0⟩
    · refine own_to (fun _ kz => XS.ifYes X0.here hx rfl (pc0 := 13) (pc' := 18) rfl (hb hby d9_13) rfl ((if0 _ _).trans (flt (fun q => hc13 ((lw_gt _ _).mp q))).2.2.2) (by decide) (by decide) kz) ?_
      have q13f := q4f.trans (if_neg hc13)
      show own_Fin p e below G (s₁.setTop (mkF m 18 #[.val (.long x0), .second, .val (.long x1), .second, .val (.long x2), .second, .val (.long x3), .second] []))
      refine own_to (fun _ kz => XS.lloadN X0.here hx rfl (hb hby d9_18) rfl  kz) ?_
      show own_Fin p e below G (s₁.setTop (mkF m 19 #[.val (.long x0), .second, .val (.long x1), .second, .val (.long x2), .second, .val (.long x3), .second] [(.long x1)]))
      refine own_to (fun _ kz => XS.lload X0.here hx rfl (hb hby d9_19) rfl  kz) ?_
      show own_Fin p e below G (s₁.setTop (mkF m 21 #[.val (.long x0), .second, .val (.long x1), .second, .val (.long x2), .second, .val (.long x3), .second] [(.long x3), (.long x1)]))
      refine own_to (fun _ kz => XS.lcmp X0.here hx rfl (hb hby d9_21) rfl kz) ?_
      show own_Fin p e below G (s₁.setTop (mkF m 22 #[.val (.long x0), .second, .val (.long x1), .second, .val (.long x2), .second, .val (.long x3), .second] [(.int (lcmpW x1 x3))]))
      by_cases hc22 : x1 < x3
      · refine own_to (fun _ kz => XS.ifNo X0.here hx rfl (hb hby d9_22) rfl ((if0 _ _).trans (tlt ((lw_lt _ _).mpr hc22)).2.1) kz) ?_
        have q22t := q13f.trans (if_pos hc22)
        show own_Fin p e below G (s₁.setTop (mkF m 25 #[.val (.long x0), .second, .val (.long x1), .second, .val (.long x2), .second, .val (.long x3), .second] []))
        refine own_to (fun _ kz => XS.iconst X0.here hx rfl (hb hby d9_25) kz) ?_
        show own_Fin p e below G (s₁.setTop (mkF m 26 #[.val (.long x0), .second, .val (.long x1), .second, .val (.long x2), .second, .val (.long x3), .second] [(.int (-1 : Int32))]))
        exact own_retI X0 hx hlk hG Bd.returns (hb hby d9_26) (by decide) (by decide) ⟨(congrArg (fun z => some (Value.int z)) q22t).symm, N0, e0⟩
      · refine own_to (fun _ kz => XS.ifYes X0.here hx rfl (pc0 := 22) (pc' := 27) rfl (hb hby d9_22) rfl ((if0 _ _).trans (flt (fun q => hc22 ((lw_lt _ _).mp q))).2.1) (by decide) (by decide) kz) ?_
        have q22f := q13f.trans (if_neg hc22)
        show own_Fin p e below G (s₁.setTop (mkF m 27 #[.val (.long x0), .second, .val (.long x1), .second, .val (.long x2), .second, .val (.long x3), .second] []))
        refine own_to (fun _ kz => XS.lloadN X0.here hx rfl (hb hby d9_27) rfl  kz) ?_
        show own_Fin p e below G (s₁.setTop (mkF m 28 #[.val (.long x0), .second, .val (.long x1), .second, .val (.long x2), .second, .val (.long x3), .second] [(.long x1)]))
        refine own_to (fun _ kz => XS.lload X0.here hx rfl (hb hby d9_28) rfl  kz) ?_
        show own_Fin p e below G (s₁.setTop (mkF m 30 #[.val (.long x0), .second, .val (.long x1), .second, .val (.long x2), .second, .val (.long x3), .second] [(.long x3), (.long x1)]))
        refine own_to (fun _ kz => XS.lcmp X0.here hx rfl (hb hby d9_30) rfl kz) ?_
        show own_Fin p e below G (s₁.setTop (mkF m 31 #[.val (.long x0), .second, .val (.long x1), .second, .val (.long x2), .second, .val (.long x3), .second] [(.int (lcmpW x1 x3))]))
        by_cases hc31 : x3 < x1
        · refine own_to (fun _ kz => XS.ifNo X0.here hx rfl (hb hby d9_31) rfl ((if0 _ _).trans (tlt ((lw_gt _ _).mpr hc31)).2.2.2) kz) ?_
          have q31t := q22f.trans (if_pos hc31)
          show own_Fin p e below G (s₁.setTop (mkF m 34 #[.val (.long x0), .second, .val (.long x1), .second, .val (.long x2), .second, .val (.long x3), .second] []))
          refine own_to (fun _ kz => XS.iconst X0.here hx rfl (hb hby d9_34) kz) ?_
          show own_Fin p e below G (s₁.setTop (mkF m 35 #[.val (.long x0), .second, .val (.long x1), .second, .val (.long x2), .second, .val (.long x3), .second] [(.int (1 : Int32))]))
          exact own_retI X0 hx hlk hG Bd.returns (hb hby d9_35) (by decide) (by decide) ⟨(congrArg (fun z => some (Value.int z)) q31t).symm, N0, e0⟩
        · refine own_to (fun _ kz => XS.ifYes X0.here hx rfl (pc0 := 31) (pc' := 36) rfl (hb hby d9_31) rfl ((if0 _ _).trans (flt (fun q => hc31 ((lw_gt _ _).mp q))).2.2.2) (by decide) (by decide) kz) ?_
          have q31f := q22f.trans (if_neg hc31)
          show own_Fin p e below G (s₁.setTop (mkF m 36 #[.val (.long x0), .second, .val (.long x1), .second, .val (.long x2), .second, .val (.long x3), .second] []))
          refine own_to (fun _ kz => XS.iconst X0.here hx rfl (hb hby d9_36) kz) ?_
          show own_Fin p e below G (s₁.setTop (mkF m 37 #[.val (.long x0), .second, .val (.long x1), .second, .val (.long x2), .second, .val (.long x3), .second] [(.int (0 : Int32))]))
          exact own_retI X0 hx hlk hG Bd.returns (hb hby d9_37) (by decide) (by decide) ⟨(congrArg (fun z => some (Value.int z)) q31f).symm, N0, e0⟩
theorem own_pn2 : plainName "java/lang/Record" = true := by first | (simp [plainName, overriddenIn]; done) | decide +kernel
theorem d4_0 : decode jdk_30_method_1_code 0 = .ok (.aload_n 0, 1) := by decide +kernel
theorem d4_1 : decode jdk_30_method_1_code 1 = .ok (.invokespecial 1, 3) := by decide +kernel
theorem d4_4 : decode jdk_30_method_1_code 4 = .ok (.return_, 1) := by decide +kernel
theorem ef4 (m : MethodId) (ad0 : Addr) : entryFrame m #[(.ref ad0)] 1 = mkF m 0 #[.val (.ref ad0)] [] := by first | (simp [entryFrame, mkF, argsToLocals, Value.category]; done) | rfl
def Q4 (Z : State) (ad0 : Addr) (h0 : Heap) (n0 : Nat) (v : Option Value) (h : Heap) (L : List Loc) : Prop := v = none ∧ Fr n0 L ∧ h = h0
set_option maxRecDepth 65536 in
set_option maxHeartbeats 40000000 in
theorem rm4 (l : Launch) (Z : State) (a0 : Array Value) (hw : ∀ d ∈ tables_1, d.before a0 Z = true) (ws : List Jvm.Cond) (ad0 : Addr) (h0 : Heap) (n0 : Nat) (Z0 : n0 ≤ h0.size) :
    MetFree l (⟨"java/lang/Record", "<init>", "()V"⟩ : MethodName) (head1 (Jvm.Cond.code (⟨"java/lang/Record", "<init>", "()V"⟩ : MethodName) jdk_30_method_1_code 1 none :: ws) ({ frames := 1, cells := 0, slots := 0, locals := 12 } : Room)) (fun a U => a = #[(.ref ad0)] ∧ Z.Warmed39 U.vm ∧ U.heap = h0) (fun _ _ _ _ _ => True) (fun _ U o U' => ∃ v L, o = .returned v ∧ Q4 Z ad0 h0 n0 v U'.heap L ∧ FrameEnd U o U' L ({ frames := 1, cells := 0, slots := 0, locals := 12 } : Room).cells ({ frames := 1, cells := 0, slots := 0, locals := 12 } : Room).slots) := by
  refine MetFree.of_bodySF (plainFor_of_name own_pn2) hisR ?_
  intro p e s m args below meth c s₁ Bd hml0 hP hK
  obtain ⟨rfl, hZ, hh⟩ := hP
  have hx := Bd.exec
  have hby := Bd.bytes
  have hml : c.maxLocals = 1 := hml0
  have hown : s.vm.findClass "java/lang/Record" = some m.cls := findClass_of_methodNamed Bd.named
  have hnm := (name_of_methodNamed Bd.named Bd.method).1
  have hlk : meth.locks = false := BodyLoose.notSynchronized Bd
  have X0 : Stand p l e ({ frames := 1, cells := 0, slots := 0, locals := 12 } : Room) s m #[(.ref ad0)] below meth c s₁ [] 0 0 := Stand.of_body Bd
  have e0 : s₁.heap = h0 := by rw [← hh, Bd.state]; rfl
  have N0 := Fr.nil n0
  obtain ⟨G, hG⟩ : ∃ G, G = own_G s (Q4 Z ad0 h0 n0) ({ frames := 1, cells := 0, slots := 0, locals := 12 } : Room).cells ({ frames := 1, cells := 0, slots := 0, locals := 12 } : Room).slots := ⟨_, rfl⟩
  show own_Fin p e below (own_G s (Q4 Z ad0 h0 n0) ({ frames := 1, cells := 0, slots := 0, locals := 12 } : Room).cells ({ frames := 1, cells := 0, slots := 0, locals := 12 } : Room).slots) (s₁.setTop (entryFrame m #[(.ref ad0)] 1))
  rw [← hG]
  refine own_to (fun _ kz => castTop (ef4 m ad0) kz) ?_
  show own_Fin p e below G (s₁.setTop (mkF m 0 #[.val (.ref ad0)] []))
  refine own_to (fun _ kz => XS.aloadN X0.here hx rfl (hb hby d4_0) rfl (rfl)  kz) ?_
  show own_Fin p e below G (s₁.setTop (mkF m 1 #[.val (.ref ad0)] [(.ref ad0)]))
  obtain ⟨T1, X1, e1, st1⟩ := initO X0 hx hZ hown (hw _ (List.mem_of_getElem? (i := 18) rfl)) (hw _ (List.mem_of_getElem? (i := 19) rfl)) (hw _ (List.mem_of_getElem? (i := 20) rfl)) e0 (g := (mkF m 1 #[.val (.ref ad0)] [(.ref ad0)])) rfl (by rw [hml]; rfl) rfl (hb hby d4_1) (by decide) (W := 0) (by show 2 * 0 + _ ≤ _; exact Nat.le_of_eq rfl) (by decide)
  refine own_to st1 ?_
  show own_Fin p e below G (T1.setTop (mkF m 4 #[.val (.ref ad0)] []))
  exact own_retV X1 hx hlk hG Bd.returns (hb hby d4_4) (by decide) (by decide) ⟨rfl, N0, e1⟩
theorem own_pd0 : parseMethodDescriptor "()V" = some ⟨[], none⟩ := by decide +kernel
theorem own_pn3 : plainName "com/example/braidjoin/braidjoin/Interval" = true := by first | (simp [plainName, overriddenIn]; done) | decide +kernel
theorem d3_0 : decode prog_4_method_1_code 0 = .ok (.aload_n 0, 1) := by decide +kernel
theorem d3_1 : decode prog_4_method_1_code 1 = .ok (.invokespecial 3, 3) := by decide +kernel
theorem d3_4 : decode prog_4_method_1_code 4 = .ok (.lload_n 3, 1) := by decide +kernel
theorem d3_5 : decode prog_4_method_1_code 5 = .ok (.lload_n 1, 1) := by decide +kernel
theorem d3_6 : decode prog_4_method_1_code 6 = .ok (.lcmp, 1) := by decide +kernel
theorem d3_7 : decode prog_4_method_1_code 7 = .ok (.ifCond .gt 21, 3) := by decide +kernel
theorem d3_28 : decode prog_4_method_1_code 28 = .ok (.aload_n 0, 1) := by decide +kernel
theorem d3_29 : decode prog_4_method_1_code 29 = .ok (.lload_n 1, 1) := by decide +kernel
theorem d3_30 : decode prog_4_method_1_code 30 = .ok (.putfield 24, 3) := by decide +kernel
theorem d3_33 : decode prog_4_method_1_code 33 = .ok (.aload_n 0, 1) := by decide +kernel
theorem d3_34 : decode prog_4_method_1_code 34 = .ok (.lload_n 3, 1) := by decide +kernel
theorem d3_35 : decode prog_4_method_1_code 35 = .ok (.putfield 28, 3) := by decide +kernel
theorem d3_38 : decode prog_4_method_1_code 38 = .ok (.return_, 1) := by decide +kernel
theorem ef3 (m : MethodId) (ad0 : Addr) (x1 : Int64) (x2 : Int64) : entryFrame m #[(.ref ad0), (.long x1), (.long x2)] 5 = mkF m 0 #[.val (.ref ad0), .val (.long x1), .second, .val (.long x2), .second] [] := by first | (simp [entryFrame, mkF, argsToLocals, Value.category]; done) | rfl
def Q3 (Z : State) (ad0 : Addr) (x1 : Int64) (x2 : Int64) (h0 : Heap) (n0 : Nat) (v : Option Value) (h : Heap) (L : List Loc) : Prop := v = none ∧ Fr n0 L ∧ Keep h0 h [ad0] ∧ Exa Z h ad0 "com/example/braidjoin/braidjoin/Interval" ∧ Fld Z h ad0 "com/example/braidjoin/braidjoin/Interval" "start" "J" (.long x1) ∧ Fld Z h ad0 "com/example/braidjoin/braidjoin/Interval" "end" "J" (.long x2)
set_option maxRecDepth 65536 in
set_option maxHeartbeats 40000000 in
theorem rm3 (l : Launch) (Z : State) (a0 : Array Value) (hw : ∀ d ∈ tables_1, d.before a0 Z = true) (ws : List Jvm.Cond) (ad0 : Addr) (x1 : Int64) (x2 : Int64) (h0 : Heap) (n0 : Nat) (Z0 : n0 ≤ h0.size) (E_ad0 : Exa Z h0 ad0 "com/example/braidjoin/braidjoin/Interval") (F_start_ad0 : Fld Z h0 ad0 "com/example/braidjoin/braidjoin/Interval" "start" "J" (.long (0 : Int64))) (F_end_ad0 : Fld Z h0 ad0 "com/example/braidjoin/braidjoin/Interval" "end" "J" (.long (0 : Int64))) (g_ad0 : n0 ≤ ad0) (hlt : x1 < x2) :
    MetFree l (⟨"com/example/braidjoin/braidjoin/Interval", "<init>", "(JJ)V"⟩ : MethodName) (head1 (Jvm.Cond.code (⟨"com/example/braidjoin/braidjoin/Interval", "<init>", "(JJ)V"⟩ : MethodName) prog_4_method_1_code 5 none :: ws) ({ frames := 2, cells := 0, slots := 0, locals := 24 } : Room)) (fun a U => a = #[(.ref ad0), (.long x1), (.long x2)] ∧ Z.Warmed39 U.vm ∧ U.heap = h0) (fun _ _ _ _ _ => True) (fun _ U o U' => ∃ v L, o = .returned v ∧ Q3 Z ad0 x1 x2 h0 n0 v U'.heap L ∧ FrameEnd U o U' L ({ frames := 2, cells := 0, slots := 0, locals := 24 } : Room).cells ({ frames := 2, cells := 0, slots := 0, locals := 24 } : Room).slots) := by
  refine MetFree.of_bodySF (plainFor_of_name own_pn3) hisR ?_
  intro p e s m args below meth c s₁ Bd hml0 hP hK
  obtain ⟨rfl, hZ, hh⟩ := hP
  have hx := Bd.exec
  have hby := Bd.bytes
  have hml : c.maxLocals = 5 := hml0
  have hown : s.vm.findClass "com/example/braidjoin/braidjoin/Interval" = some m.cls := findClass_of_methodNamed Bd.named
  have hnm := (name_of_methodNamed Bd.named Bd.method).1
  have hlk : meth.locks = false := BodyLoose.notSynchronized Bd
  have X0 : Stand p l e ({ frames := 2, cells := 0, slots := 0, locals := 24 } : Room) s m #[(.ref ad0), (.long x1), (.long x2)] below meth c s₁ [] 0 0 := Stand.of_body Bd
  have e0 : s₁.heap = h0 := by rw [← hh, Bd.state]; rfl
  have N0 := Fr.nil n0
  obtain ⟨G, hG⟩ : ∃ G, G = own_G s (Q3 Z ad0 x1 x2 h0 n0) ({ frames := 2, cells := 0, slots := 0, locals := 24 } : Room).cells ({ frames := 2, cells := 0, slots := 0, locals := 24 } : Room).slots := ⟨_, rfl⟩
  show own_Fin p e below (own_G s (Q3 Z ad0 x1 x2 h0 n0) ({ frames := 2, cells := 0, slots := 0, locals := 24 } : Room).cells ({ frames := 2, cells := 0, slots := 0, locals := 24 } : Room).slots) (s₁.setTop (entryFrame m #[(.ref ad0), (.long x1), (.long x2)] 5))
  rw [← hG]
  refine own_to (fun _ kz => castTop (ef3 m ad0 x1 x2) kz) ?_
  show own_Fin p e below G (s₁.setTop (mkF m 0 #[.val (.ref ad0), .val (.long x1), .second, .val (.long x2), .second] []))
  refine own_to (fun _ kz => XS.aloadN X0.here hx rfl (hb hby d3_0) rfl (rfl)  kz) ?_
  show own_Fin p e below G (s₁.setTop (mkF m 1 #[.val (.ref ad0), .val (.long x1), .second, .val (.long x2), .second] [(.ref ad0)]))
  obtain ⟨_, _, ⟨T1, L1, k1, n1⟩, -, X1, ⟨Lc1, hQ1, l1, y1, z1⟩, st1⟩ := X0.specialBack hx (y := (⟨"java/lang/Record", "<init>", "()V"⟩ : MethodName)) rfl hown (mvT hZ (hw _ (List.mem_of_getElem? (i := 13) rfl))) (mvT hZ (hw _ (List.mem_of_getElem? (i := 14) rfl))) (mvT hZ (hw _ (List.mem_of_getElem? (i := 17) rfl))) (by decide) (backOf (W := 0) (rm4 l Z a0 hw [] ad0 h0 n0 Z0 ) hZ (hw _ (List.mem_of_getElem? (i := 17) rfl)) (hw _ (List.mem_of_getElem? (i := 16) rfl)) (by decide) (by decide)) (g := (mkF m 1 #[.val (.ref ad0), .val (.long x1), .second, .val (.long x2), .second] [(.ref ad0)])) rfl (by rw [hml]; rfl) (Steps.refl _) (a := ad0) (argsL := []) (rest := []) (lenOf own_pd0 rfl) rfl (by show 2 * 0 + _ ≤ _; exact Nat.le_of_eq rfl) (hb hby d3_1) (fun _ _ => ⟨rfl, e0, (by decide : 0 + 0 ≤ _), (by decide : 0 + 0 ≤ _)⟩)
  dsimp only [Pt.U, Pt.locs, Pt.cells, Pt.slots] at X1 l1 y1 z1 st1 hQ1
  subst l1 y1 z1
  obtain ⟨rfl, N1q, e1⟩ := hQ1
  have N1 := Fr.app N0 N1q
  refine own_via st1 ?_
  show own_Fin p e below G (T1.setTop (mkF m 4 #[.val (.ref ad0), .val (.long x1), .second, .val (.long x2), .second] []))
  refine own_to (fun _ kz => XS.lloadN X1.here hx rfl (hb hby d3_4) rfl  kz) ?_
  show own_Fin p e below G (T1.setTop (mkF m 5 #[.val (.ref ad0), .val (.long x1), .second, .val (.long x2), .second] [(.long x2)]))
  refine own_to (fun _ kz => XS.lloadN X1.here hx rfl (hb hby d3_5) rfl  kz) ?_
  show own_Fin p e below G (T1.setTop (mkF m 6 #[.val (.ref ad0), .val (.long x1), .second, .val (.long x2), .second] [(.long x1), (.long x2)]))
  refine own_to (fun _ kz => XS.lcmp X1.here hx rfl (hb hby d3_6) rfl kz) ?_
  show own_Fin p e below G (T1.setTop (mkF m 7 #[.val (.ref ad0), .val (.long x1), .second, .val (.long x2), .second] [(.int (lcmpW x2 x1))]))
  have hc7 : x1 < x2 := hlt
  refine own_to (fun _ kz => XS.ifYes X1.here hx rfl (pc0 := 7) (pc' := 28) rfl (hb hby d3_7) rfl ((if0 _ _).trans (tlt ((lw_gt _ _).mpr hc7)).2.2.1) (by decide) (by decide) kz) ?_
  show own_Fin p e below G (T1.setTop (mkF m 28 #[.val (.ref ad0), .val (.long x1), .second, .val (.long x2), .second] []))
  refine own_to (fun _ kz => XS.aloadN X1.here hx rfl (hb hby d3_28) rfl (rfl)  kz) ?_
  show own_Fin p e below G (T1.setTop (mkF m 29 #[.val (.ref ad0), .val (.long x1), .second, .val (.long x2), .second] [(.ref ad0)]))
  refine own_to (fun _ kz => XS.lloadN X1.here hx rfl (hb hby d3_29) rfl  kz) ?_
  show own_Fin p e below G (T1.setTop (mkF m 30 #[.val (.ref ad0), .val (.long x1), .second, .val (.long x2), .second] [(.long x1), (.ref ad0)]))
  obtain ⟨T30, h30, X30, e30, W30, st30⟩ := putF X1 hx hZ hown (host := "") (Or.inl (hw _ (List.mem_of_getElem? (i := 21) rfl))) Via.refl e1 F_start_ad0 E_ad0 (Or.inr ⟨(hw _ (List.mem_of_getElem? (i := 22) rfl)), rfl, hnm⟩) (hw _ (List.mem_of_getElem? (i := 8) rfl)) (ty := .long) (by decide) rfl rfl (g := (mkF m 30 #[.val (.ref ad0), .val (.long x1), .second, .val (.long x2), .second] [(.long x1), (.ref ad0)])) rfl rfl (hb hby d3_30)
  refine own_to st30 ?_
  have Fw30 : Fld Z h30 ad0 "com/example/braidjoin/braidjoin/Interval" "start" "J" (.long x1) := Fld.same W30 F_start_ad0
  have N30 := Fr.snoc X30 N1 g_ad0
  show own_Fin p e below G (T30.setTop (mkF m 33 #[.val (.ref ad0), .val (.long x1), .second, .val (.long x2), .second] []))
  refine own_to (fun _ kz => XS.aloadN X30.here hx rfl (hb hby d3_33) rfl (rfl)  kz) ?_
  show own_Fin p e below G (T30.setTop (mkF m 34 #[.val (.ref ad0), .val (.long x1), .second, .val (.long x2), .second] [(.ref ad0)]))
  refine own_to (fun _ kz => XS.lloadN X30.here hx rfl (hb hby d3_34) rfl  kz) ?_
  show own_Fin p e below G (T30.setTop (mkF m 35 #[.val (.ref ad0), .val (.long x1), .second, .val (.long x2), .second] [(.long x2), (.ref ad0)]))
  have E_ad0_at_35 : Exa Z h30 ad0 "com/example/braidjoin/braidjoin/Interval" := (E_ad0.wr W30)
  have F_end_ad0_at_35 : Fld Z h30 ad0 "com/example/braidjoin/braidjoin/Interval" "end" "J" (.long (0 : Int64)) := (F_end_ad0.other W30 (Or.inr (slot_ne (Or.inr (hw _ (List.mem_of_getElem? (i := 24) rfl))) (Or.inr (hw _ (List.mem_of_getElem? (i := 22) rfl))) (by decide) (t := .long) (t' := .long) (by decide) (by decide))))
  obtain ⟨T35, h35, X35, e35, W35, st35⟩ := putF X30 hx hZ hown (host := "") (Or.inl (hw _ (List.mem_of_getElem? (i := 23) rfl))) Via.refl e30 F_end_ad0_at_35 E_ad0_at_35 (Or.inr ⟨(hw _ (List.mem_of_getElem? (i := 24) rfl)), rfl, hnm⟩) (hw _ (List.mem_of_getElem? (i := 8) rfl)) (ty := .long) (by decide) rfl rfl (g := (mkF m 35 #[.val (.ref ad0), .val (.long x1), .second, .val (.long x2), .second] [(.long x2), (.ref ad0)])) rfl rfl (hb hby d3_35)
  refine own_to st35 ?_
  have Fw35 : Fld Z h35 ad0 "com/example/braidjoin/braidjoin/Interval" "end" "J" (.long x2) := Fld.same W35 F_end_ad0_at_35
  have N35 := Fr.snoc X35 N30 g_ad0
  show own_Fin p e below G (T35.setTop (mkF m 38 #[.val (.ref ad0), .val (.long x1), .second, .val (.long x2), .second] []))
  have KP_38 : Keep h0 h35 [ad0] := (((Keep.refl h0 [ad0]).wr W30 (Or.inl (List.mem_of_getElem? (i := 0) rfl))).wr W35 (Or.inl (List.mem_of_getElem? (i := 0) rfl)))
  have E_ad0_at_38 : Exa Z h35 ad0 "com/example/braidjoin/braidjoin/Interval" := (E_ad0_at_35.wr W35)
  have Fw30_at_38 : Fld Z h35 ad0 "com/example/braidjoin/braidjoin/Interval" "start" "J" (.long x1) := (Fw30.other W35 (Or.inr (slot_ne (Or.inr (hw _ (List.mem_of_getElem? (i := 22) rfl))) (Or.inr (hw _ (List.mem_of_getElem? (i := 24) rfl))) (by decide) (t := .long) (t' := .long) (by decide) (by decide))))
  exact own_retV X35 hx hlk hG Bd.returns (hb hby d3_38) (by decide) (by decide) (by rw [e35]; exact ⟨rfl, N35, KP_38, E_ad0_at_38, Fw30_at_38, Fw35⟩)
theorem own_pd1 : parseMethodDescriptor "(JJ)I" = some ⟨[.long, .long], some .int⟩ := by decide +kernel
theorem d6_0 : decode prog_4_method_4_code 0 = .ok (.aload_n 0, 1) := by decide +kernel
theorem d6_1 : decode prog_4_method_4_code 1 = .ok (.getfield 24, 3) := by decide +kernel
theorem d6_4 : decode prog_4_method_4_code 4 = .ok (.aload_n 1, 1) := by decide +kernel
theorem d6_5 : decode prog_4_method_4_code 5 = .ok (.getfield 24, 3) := by decide +kernel
theorem d6_8 : decode prog_4_method_4_code 8 = .ok (.invokestatic 56, 3) := by decide +kernel
theorem d6_11 : decode prog_4_method_4_code 11 = .ok (.istore_n 2, 1) := by decide +kernel
theorem d6_12 : decode prog_4_method_4_code 12 = .ok (.iload_n 2, 1) := by decide +kernel
theorem d6_13 : decode prog_4_method_4_code 13 = .ok (.ifCond .eq 5, 3) := by decide +kernel
theorem d6_16 : decode prog_4_method_4_code 16 = .ok (.iload_n 2, 1) := by decide +kernel
theorem d6_17 : decode prog_4_method_4_code 17 = .ok (.ireturn, 1) := by decide +kernel
theorem d6_18 : decode prog_4_method_4_code 18 = .ok (.aload_n 0, 1) := by decide +kernel
theorem d6_19 : decode prog_4_method_4_code 19 = .ok (.getfield 28, 3) := by decide +kernel
theorem d6_22 : decode prog_4_method_4_code 22 = .ok (.aload_n 1, 1) := by decide +kernel
theorem d6_23 : decode prog_4_method_4_code 23 = .ok (.getfield 28, 3) := by decide +kernel
theorem d6_26 : decode prog_4_method_4_code 26 = .ok (.invokestatic 56, 3) := by decide +kernel
theorem d6_29 : decode prog_4_method_4_code 29 = .ok (.ireturn, 1) := by decide +kernel
theorem ef6 (m : MethodId) (ad0 : Addr) (ad1 : Addr) : entryFrame m #[(.ref ad0), (.ref ad1)] 3 = mkF m 0 #[.val (.ref ad0), .val (.ref ad1), .unset] [] := by first | (simp [entryFrame, mkF, argsToLocals, Value.category]; done) | rfl
def f6 (sn0 : Int64) (en0 : Int64) (sn1 : Int64) (en1 : Int64) : Int32 := if (f7 sn0 sn1) = (0 : Int32) then (f7 en0 en1) else (f7 sn0 sn1)
def Q6 (Z : State) (ad0 : Addr) (ad1 : Addr) (sn0 : Int64) (en0 : Int64) (sn1 : Int64) (en1 : Int64) (h0 : Heap) (n0 : Nat) (v : Option Value) (h : Heap) (L : List Loc) : Prop := v = some (.int (f6 sn0 en0 sn1 en1)) ∧ Fr n0 L ∧ h = h0
set_option maxRecDepth 65536 in
set_option maxHeartbeats 40000000 in
theorem rm6 (l : Launch) (Z : State) (a0 : Array Value) (hw : ∀ d ∈ tables_1, d.before a0 Z = true) (ws : List Jvm.Cond) (ad0 : Addr) (ad1 : Addr) (sn0 : Int64) (en0 : Int64) (sn1 : Int64) (en1 : Int64) (h0 : Heap) (n0 : Nat) (Z0 : n0 ≤ h0.size) (F_start_ad0 : Fld Z h0 ad0 "com/example/braidjoin/braidjoin/Interval" "start" "J" (.long sn0)) (F_end_ad0 : Fld Z h0 ad0 "com/example/braidjoin/braidjoin/Interval" "end" "J" (.long en0)) (F_start_ad1 : Fld Z h0 ad1 "com/example/braidjoin/braidjoin/Interval" "start" "J" (.long sn1)) (F_end_ad1 : Fld Z h0 ad1 "com/example/braidjoin/braidjoin/Interval" "end" "J" (.long en1)) :
    MetFree l (⟨"com/example/braidjoin/braidjoin/Interval", "compareTo", "(Lcom/example/braidjoin/braidjoin/Interval;)I"⟩ : MethodName) (head1 (Jvm.Cond.code (⟨"com/example/braidjoin/braidjoin/Interval", "compareTo", "(Lcom/example/braidjoin/braidjoin/Interval;)I"⟩ : MethodName) prog_4_method_4_code 3 (some .int) :: ws) ({ frames := 1, cells := 0, slots := 0, locals := 15 } : Room)) (fun a U => a = #[(.ref ad0), (.ref ad1)] ∧ Z.Warmed39 U.vm ∧ U.heap = h0) (fun _ _ _ _ _ => True) (fun _ U o U' => ∃ v L, o = .returned v ∧ Q6 Z ad0 ad1 sn0 en0 sn1 en1 h0 n0 v U'.heap L ∧ FrameEnd U o U' L ({ frames := 1, cells := 0, slots := 0, locals := 15 } : Room).cells ({ frames := 1, cells := 0, slots := 0, locals := 15 } : Room).slots) := by
  refine MetFree.of_bodySF (plainFor_of_name own_pn3) hisR ?_
  intro p e s m args below meth c s₁ Bd hml0 hP hK
  obtain ⟨rfl, hZ, hh⟩ := hP
  have hx := Bd.exec
  have hby := Bd.bytes
  have hml : c.maxLocals = 3 := hml0
  have hown : s.vm.findClass "com/example/braidjoin/braidjoin/Interval" = some m.cls := findClass_of_methodNamed Bd.named
  have hnm := (name_of_methodNamed Bd.named Bd.method).1
  have hlk : meth.locks = false := BodyLoose.notSynchronized Bd
  have X0 : Stand p l e ({ frames := 1, cells := 0, slots := 0, locals := 15 } : Room) s m #[(.ref ad0), (.ref ad1)] below meth c s₁ [] 0 0 := Stand.of_body Bd
  have e0 : s₁.heap = h0 := by rw [← hh, Bd.state]; rfl
  have N0 := Fr.nil n0
  obtain ⟨G, hG⟩ : ∃ G, G = own_G s (Q6 Z ad0 ad1 sn0 en0 sn1 en1 h0 n0) ({ frames := 1, cells := 0, slots := 0, locals := 15 } : Room).cells ({ frames := 1, cells := 0, slots := 0, locals := 15 } : Room).slots := ⟨_, rfl⟩
  show own_Fin p e below (own_G s (Q6 Z ad0 ad1 sn0 en0 sn1 en1 h0 n0) ({ frames := 1, cells := 0, slots := 0, locals := 15 } : Room).cells ({ frames := 1, cells := 0, slots := 0, locals := 15 } : Room).slots) (s₁.setTop (entryFrame m #[(.ref ad0), (.ref ad1)] 3))
  rw [← hG]
  refine own_to (fun _ kz => castTop (ef6 m ad0 ad1) kz) ?_
  have q0 : (f6 sn0 en0 sn1 en1) = (f6 sn0 en0 sn1 en1) := rfl
  show own_Fin p e below G (s₁.setTop (mkF m 0 #[.val (.ref ad0), .val (.ref ad1), .unset] []))
  refine own_to (fun _ kz => XS.aloadN X0.here hx rfl (hb hby d6_0) rfl (rfl)  kz) ?_
  show own_Fin p e below G (s₁.setTop (mkF m 1 #[.val (.ref ad0), .val (.ref ad1), .unset] [(.ref ad0)]))
  obtain ⟨T1, X1, e1, st1⟩ := getF X0 hx hZ hown (host := "") (Or.inl (hw _ (List.mem_of_getElem? (i := 21) rfl))) Via.refl e0 F_start_ad0 (g := (mkF m 1 #[.val (.ref ad0), .val (.ref ad1), .unset] [(.ref ad0)])) rfl rfl (hb hby d6_1)
  refine own_to st1 ?_
  show own_Fin p e below G (T1.setTop (mkF m 4 #[.val (.ref ad0), .val (.ref ad1), .unset] [(.long sn0)]))
  refine own_to (fun _ kz => XS.aloadN X1.here hx rfl (hb hby d6_4) rfl (rfl)  kz) ?_
  show own_Fin p e below G (T1.setTop (mkF m 5 #[.val (.ref ad0), .val (.ref ad1), .unset] [(.ref ad1), (.long sn0)]))
  obtain ⟨T5, X5, e5, st5⟩ := getF X1 hx hZ hown (host := "") (Or.inl (hw _ (List.mem_of_getElem? (i := 21) rfl))) Via.refl e1 F_start_ad1 (g := (mkF m 5 #[.val (.ref ad0), .val (.ref ad1), .unset] [(.ref ad1), (.long sn0)])) rfl rfl (hb hby d6_5)
  refine own_to st5 ?_
  show own_Fin p e below G (T5.setTop (mkF m 8 #[.val (.ref ad0), .val (.ref ad1), .unset] [(.long sn1), (.long sn0)]))
  obtain ⟨_, _, ⟨T8, L8, k8, n8⟩, -, X8, ⟨Lc8, hQ8, l8, y8, z8⟩, st8⟩ := Jvm.LawKit.callS X5 hx (y := (⟨"java/lang/Long", "compare", "(JJ)I"⟩ : MethodName)) hown (mvT hZ (hw _ (List.mem_of_getElem? (i := 30) rfl))) (mvT hZ (hw _ (List.mem_of_getElem? (i := 31) rfl))) (mvT hZ (hw _ (List.mem_of_getElem? (i := 32) rfl))) (mvT hZ (hw _ (List.mem_of_getElem? (i := 33) rfl))) (by decide) (backOf (W := 0) (rm7 l Z a0 hw [] sn0 sn1 h0 n0 Z0) hZ (hw _ (List.mem_of_getElem? (i := 33) rfl)) (hw _ (List.mem_of_getElem? (i := 32) rfl)) (by decide) (by decide)) (g := (mkF m 8 #[.val (.ref ad0), .val (.ref ad1), .unset] [(.long sn1), (.long sn0)])) rfl (by rw [hml]; rfl) (argsL := [(.long sn0), (.long sn1)]) (rest := []) (lenOf own_pd1 rfl) rfl (by show 2 * 0 + _ ≤ _; exact Nat.le_of_eq rfl) (hb hby d6_8) (fun _ _ => ⟨rfl, e5, (by decide : 0 + 0 ≤ _), (by decide : 0 + 0 ≤ _)⟩)
  dsimp only [Pt.U, Pt.locs, Pt.cells, Pt.slots] at X8 l8 y8 z8 st8 hQ8
  subst l8 y8 z8
  obtain ⟨rfl, N8q, e8⟩ := hQ8
  have N8 := Fr.app N0 N8q
  refine own_to st8 ?_
  show own_Fin p e below G (T8.setTop (mkF m 11 #[.val (.ref ad0), .val (.ref ad1), .unset] [(.int (f7 sn0 sn1))]))
  refine own_to (fun _ kz => XS.istoreN X8.here hx rfl (hb hby d6_11) rfl (l' := #[.val (.ref ad0), .val (.ref ad1), .val (.int (f7 sn0 sn1))]) rfl kz) ?_
  show own_Fin p e below G (T8.setTop (mkF m 12 #[.val (.ref ad0), .val (.ref ad1), .val (.int (f7 sn0 sn1))] []))
  refine own_to (fun _ kz => XS.iloadN X8.here hx rfl (hb hby d6_12) rfl  kz) ?_
  show own_Fin p e below G (T8.setTop (mkF m 13 #[.val (.ref ad0), .val (.ref ad1), .val (.int (f7 sn0 sn1))] [(.int (f7 sn0 sn1))]))
  by_cases hc13 : (f7 sn0 sn1) = (0 : Int32)
  · refine own_to (fun _ kz => XS.ifYes X8.here hx rfl (pc0 := 13) (pc' := 18) rfl (hb hby d6_13) rfl ((if0 _ _).trans (teq hc13).1) (by decide) (by decide) kz) ?_
    have q13t := q0.trans (if_pos hc13)
    show own_Fin p e below G (T8.setTop (mkF m 18 #[.val (.ref ad0), .val (.ref ad1), .val (.int (f7 sn0 sn1))] []))
    refine own_to (fun _ kz => XS.aloadN X8.here hx rfl (hb hby d6_18) rfl (rfl)  kz) ?_
    show own_Fin p e below G (T8.setTop (mkF m 19 #[.val (.ref ad0), .val (.ref ad1), .val (.int (f7 sn0 sn1))] [(.ref ad0)]))
    obtain ⟨T19, X19, e19, st19⟩ := getF X8 hx hZ hown (host := "") (Or.inl (hw _ (List.mem_of_getElem? (i := 23) rfl))) Via.refl e8 F_end_ad0 (g := (mkF m 19 #[.val (.ref ad0), .val (.ref ad1), .val (.int (f7 sn0 sn1))] [(.ref ad0)])) rfl rfl (hb hby d6_19)
    refine own_to st19 ?_
    show own_Fin p e below G (T19.setTop (mkF m 22 #[.val (.ref ad0), .val (.ref ad1), .val (.int (f7 sn0 sn1))] [(.long en0)]))
    refine own_to (fun _ kz => XS.aloadN X19.here hx rfl (hb hby d6_22) rfl (rfl)  kz) ?_
    show own_Fin p e below G (T19.setTop (mkF m 23 #[.val (.ref ad0), .val (.ref ad1), .val (.int (f7 sn0 sn1))] [(.ref ad1), (.long en0)]))
    obtain ⟨T23, X23, e23, st23⟩ := getF X19 hx hZ hown (host := "") (Or.inl (hw _ (List.mem_of_getElem? (i := 23) rfl))) Via.refl e19 F_end_ad1 (g := (mkF m 23 #[.val (.ref ad0), .val (.ref ad1), .val (.int (f7 sn0 sn1))] [(.ref ad1), (.long en0)])) rfl rfl (hb hby d6_23)
    refine own_to st23 ?_
    show own_Fin p e below G (T23.setTop (mkF m 26 #[.val (.ref ad0), .val (.ref ad1), .val (.int (f7 sn0 sn1))] [(.long en1), (.long en0)]))
    obtain ⟨_, _, ⟨T26, L26, k26, n26⟩, -, X26, ⟨Lc26, hQ26, l26, y26, z26⟩, st26⟩ := Jvm.LawKit.callS X23 hx (y := (⟨"java/lang/Long", "compare", "(JJ)I"⟩ : MethodName)) hown (mvT hZ (hw _ (List.mem_of_getElem? (i := 30) rfl))) (mvT hZ (hw _ (List.mem_of_getElem? (i := 31) rfl))) (mvT hZ (hw _ (List.mem_of_getElem? (i := 32) rfl))) (mvT hZ (hw _ (List.mem_of_getElem? (i := 33) rfl))) (by decide) (backOf (W := 0) (rm7 l Z a0 hw [] en0 en1 h0 n0 Z0) hZ (hw _ (List.mem_of_getElem? (i := 33) rfl)) (hw _ (List.mem_of_getElem? (i := 32) rfl)) (by decide) (by decide)) (g := (mkF m 26 #[.val (.ref ad0), .val (.ref ad1), .val (.int (f7 sn0 sn1))] [(.long en1), (.long en0)])) rfl (by rw [hml]; rfl) (argsL := [(.long en0), (.long en1)]) (rest := []) (lenOf own_pd1 rfl) rfl (by show 2 * 0 + _ ≤ _; exact Nat.le_of_eq rfl) (hb hby d6_26) (fun _ _ => ⟨rfl, e23, (by decide : 0 + 0 ≤ _), (by decide : 0 + 0 ≤ _)⟩)
    dsimp only [Pt.U, Pt.locs, Pt.cells, Pt.slots] at X26 l26 y26 z26 st26 hQ26
    subst l26 y26 z26
    obtain ⟨rfl, N26q, e26⟩ := hQ26
    have N26 := Fr.app N8 N26q
    refine own_to st26 ?_
    show own_Fin p e below G (T26.setTop (mkF m 29 #[.val (.ref ad0), .val (.ref ad1), .val (.int (f7 sn0 sn1))] [(.int (f7 en0 en1))]))
    exact own_retI X26 hx hlk hG Bd.returns (hb hby d6_29) (by decide) (by decide) ⟨(congrArg (fun z => some (Value.int z)) q13t).symm, N26, e26⟩
  · refine own_to (fun _ kz => XS.ifNo X8.here hx rfl (hb hby d6_13) rfl ((if0 _ _).trans (feq hc13).1) kz) ?_
    have q13f := q0.trans (if_neg hc13)
    show own_Fin p e below G (T8.setTop (mkF m 16 #[.val (.ref ad0), .val (.ref ad1), .val (.int (f7 sn0 sn1))] []))
    refine own_to (fun _ kz => XS.iloadN X8.here hx rfl (hb hby d6_16) rfl  kz) ?_
    show own_Fin p e below G (T8.setTop (mkF m 17 #[.val (.ref ad0), .val (.ref ad1), .val (.int (f7 sn0 sn1))] [(.int (f7 sn0 sn1))]))
    exact own_retI X8 hx hlk hG Bd.returns (hb hby d6_17) (by decide) (by decide) ⟨(congrArg (fun z => some (Value.int z)) q13f).symm, N8, e8⟩
theorem own_pd2 : parseMethodDescriptor "(JJ)J" = some ⟨[.long, .long], some .long⟩ := by decide +kernel
theorem own_pd3 : parseMethodDescriptor "(JJ)V" = some ⟨[.long, .long], none⟩ := by decide +kernel
theorem own_pd4 : parseMethodDescriptor "(Lcom/example/braidjoin/braidjoin/Interval;)I" = some ⟨[(.object "com/example/braidjoin/braidjoin/Interval")], some .int⟩ := by decide +kernel
theorem own_pd5 : parseMethodDescriptor "(I)I" = some ⟨[.int], some .int⟩ := by decide +kernel
theorem own_pd6 : parseMethodDescriptor "(JJJJ)I" = some ⟨[.long, .long, .long, .long], some .int⟩ := by decide +kernel
theorem ef0 (m : MethodId) (x0 : Int64) (x1 : Int64) (x2 : Int64) (x3 : Int64) (p4 : Int32) : entryFrame m #[(.long x0), (.long x1), (.long x2), (.long x3), (.int p4)] maxLocals = mkF m 0 #[.val (.long x0), .second, .val (.long x1), .second, .val (.long x2), .second, .val (.long x3), .second, .val (.int p4), .unset, .unset, .unset, .unset, .unset, .unset, .unset, .unset, .unset, .unset, .unset, .unset, .unset] [] := by first | (simp [entryFrame, mkF, argsToLocals, Value.category, maxLocals]; done) | rfl
def f0_156 (x0 : Int64) (x1 : Int64) (x2 : Int64) (x3 : Int64) (p4 : Int32) (w13_53 : Int64) (w15_64 : Int64) : Int32 := (0 : Int32)
def f0_64 (x0 : Int64) (x1 : Int64) (x2 : Int64) (x3 : Int64) (p4 : Int32) (w13_53 : Int64) (w15_64 : Int64) : Int32 := if w13_53 < w15_64 then (if (f8 (f6 (f1 x0 x1) (f2 x0 x1) w13_53 w15_64)) = (f9 (f1 x0 x1) (f2 x0 x1) w13_53 w15_64) then (if (f8 (f6 w13_53 w15_64 (f1 x0 x1) (f2 x0 x1))) = (-(f9 (f1 x0 x1) (f2 x0 x1) w13_53 w15_64)) then (1 : Int32) else (f0_156 x0 x1 x2 x3 p4 w13_53 w15_64)) else (f0_156 x0 x1 x2 x3 p4 w13_53 w15_64)) else (1 : Int32)
def f0_53 (x0 : Int64) (x1 : Int64) (x2 : Int64) (x3 : Int64) (p4 : Int32) (w13_53 : Int64) : Int32 := if (p4 &&& (2 : Int32)) = (0 : Int32) then (f0_64 x0 x1 x2 x3 p4 w13_53 (f2 x2 x3)) else (f0_64 x0 x1 x2 x3 p4 w13_53 (f2 x0 x1))
def f0 (x0 : Int64) (x1 : Int64) (x2 : Int64) (x3 : Int64) (p4 : Int32) : Int32 := if (f1 x0 x1) < (f2 x0 x1) then (if (p4 &&& (1 : Int32)) = (0 : Int32) then (f0_53 x0 x1 x2 x3 p4 (f1 x2 x3)) else (f0_53 x0 x1 x2 x3 p4 (f1 x0 x1))) else (1 : Int32)
def Q0 (Z : State) (x0 : Int64) (x1 : Int64) (x2 : Int64) (x3 : Int64) (p4 : Int32) (h0 : Heap) (n0 : Nat) (v : Option Value) (h : Heap) (L : List Loc) : Prop := v = some (.int (f0 x0 x1 x2 x3 p4)) ∧ Fr n0 L ∧ True
set_option maxRecDepth 65536 in
set_option maxHeartbeats 40000000 in
theorem rm0 (l : Launch) (Z : State) (a0 : Array Value) (hw : ∀ d ∈ tables_1, d.before a0 Z = true) (ws : List Jvm.Cond) (x0 : Int64) (x1 : Int64) (x2 : Int64) (x3 : Int64) (p4 : Int32) (h0 : Heap) (n0 : Nat) (Z0 : n0 ≤ h0.size) :
    MetFree l x (head1 (Jvm.Cond.code x code maxLocals ret :: ws) room_1) (fun a U => a = #[(.long x0), (.long x1), (.long x2), (.long x3), (.int p4)] ∧ Z.Warmed39 U.vm ∧ U.heap = h0) (fun _ _ _ _ _ => True) (fun _ U o U' => ∃ v L, o = .returned v ∧ Q0 Z x0 x1 x2 x3 p4 h0 n0 v U'.heap L ∧ FrameEnd U o U' L room_1.cells room_1.slots) := by
  refine MetFree.of_bodySF (plainFor_of_name own_pn1) hisR ?_
  intro p e s m args below meth c s₁ Bd hml0 hP hK
  obtain ⟨rfl, hZ, hh⟩ := hP
  have hx := Bd.exec
  have hby := Bd.bytes
  have hml : c.maxLocals = 22 := hml0
  have hown : s.vm.findClass "com/example/braidjoin/braidjoin/IntervalCompareToPinLaw" = some m.cls := findClass_of_methodNamed Bd.named
  have hnm := (name_of_methodNamed Bd.named Bd.method).1
  have hlk : meth.locks = false := BodyLoose.notSynchronized Bd
  have X0 : Stand p l e room_1 s m #[(.long x0), (.long x1), (.long x2), (.long x3), (.int p4)] below meth c s₁ [] 0 0 := Stand.of_body Bd
  have e0 : s₁.heap = h0 := by rw [← hh, Bd.state]; rfl
  have N0 := Fr.nil n0
  obtain ⟨G, hG⟩ : ∃ G, G = own_G s (Q0 Z x0 x1 x2 x3 p4 h0 n0) room_1.cells room_1.slots := ⟨_, rfl⟩
  show own_Fin p e below (own_G s (Q0 Z x0 x1 x2 x3 p4 h0 n0) room_1.cells room_1.slots) (s₁.setTop (entryFrame m #[(.long x0), (.long x1), (.long x2), (.long x3), (.int p4)] maxLocals))
  rw [← hG]
  refine own_to (fun _ kz => castTop (ef0 m x0 x1 x2 x3 p4) kz) ?_
  have q0 : (f0 x0 x1 x2 x3 p4) = (f0 x0 x1 x2 x3 p4) := rfl
  show own_Fin p e below G (s₁.setTop (mkF m 0 #[.val (.long x0), .second, .val (.long x1), .second, .val (.long x2), .second, .val (.long x3), .second, .val (.int p4), .unset, .unset, .unset, .unset, .unset, .unset, .unset, .unset, .unset, .unset, .unset, .unset, .unset] []))
  refine own_to (fun _ kz => XS.lloadN X0.here hx rfl (hb hby at_0) rfl  kz) ?_
  show own_Fin p e below G (s₁.setTop (mkF m 1 #[.val (.long x0), .second, .val (.long x1), .second, .val (.long x2), .second, .val (.long x3), .second, .val (.int p4), .unset, .unset, .unset, .unset, .unset, .unset, .unset, .unset, .unset, .unset, .unset, .unset, .unset] [(.long x0)]))
  refine own_to (fun _ kz => XS.lloadN X0.here hx rfl (hb hby at_1) rfl  kz) ?_
  show own_Fin p e below G (s₁.setTop (mkF m 2 #[.val (.long x0), .second, .val (.long x1), .second, .val (.long x2), .second, .val (.long x3), .second, .val (.int p4), .unset, .unset, .unset, .unset, .unset, .unset, .unset, .unset, .unset, .unset, .unset, .unset, .unset] [(.long x1), (.long x0)]))
  obtain ⟨_, _, ⟨T2, L2, k2, n2⟩, -, X2, ⟨Lc2, hQ2, l2, y2, z2⟩, st2⟩ := Jvm.LawKit.callS X0 hx (y := (⟨"java/lang/Math", "min", "(JJ)J"⟩ : MethodName)) hown (mvT hZ (hw _ (List.mem_of_getElem? (i := 0) rfl))) (mvT hZ (hw _ (List.mem_of_getElem? (i := 1) rfl))) (mvT hZ (hw _ (List.mem_of_getElem? (i := 2) rfl))) (mvT hZ (hw _ (List.mem_of_getElem? (i := 3) rfl))) (by decide) (backOf (W := 0) (rm1 l Z a0 hw [] x0 x1 h0 n0 Z0) hZ (hw _ (List.mem_of_getElem? (i := 3) rfl)) (hw _ (List.mem_of_getElem? (i := 2) rfl)) (by decide) (by decide)) (g := (mkF m 2 #[.val (.long x0), .second, .val (.long x1), .second, .val (.long x2), .second, .val (.long x3), .second, .val (.int p4), .unset, .unset, .unset, .unset, .unset, .unset, .unset, .unset, .unset, .unset, .unset, .unset, .unset] [(.long x1), (.long x0)])) rfl (by rw [hml]; rfl) (argsL := [(.long x0), (.long x1)]) (rest := []) (lenOf own_pd2 rfl) rfl (by show 2 * 0 + _ ≤ _; exact Nat.le_of_eq rfl) (hb hby at_2) (fun _ _ => ⟨rfl, e0, (by decide : 0 + 0 ≤ _), (by decide : 0 + 0 ≤ _)⟩)
  dsimp only [Pt.U, Pt.locs, Pt.cells, Pt.slots] at X2 l2 y2 z2 st2 hQ2
  subst l2 y2 z2
  obtain ⟨rfl, N2q, e2⟩ := hQ2
  have N2 := Fr.app N0 N2q
  refine own_to st2 ?_
  show own_Fin p e below G (T2.setTop (mkF m 5 #[.val (.long x0), .second, .val (.long x1), .second, .val (.long x2), .second, .val (.long x3), .second, .val (.int p4), .unset, .unset, .unset, .unset, .unset, .unset, .unset, .unset, .unset, .unset, .unset, .unset, .unset] [(.long (f1 x0 x1))]))
  refine own_to (fun _ kz => XS.lstore X2.here hx rfl (hb hby at_5) rfl (l' := #[.val (.long x0), .second, .val (.long x1), .second, .val (.long x2), .second, .val (.long x3), .second, .val (.int p4), .val (.long (f1 x0 x1)), .second, .unset, .unset, .unset, .unset, .unset, .unset, .unset, .unset, .unset, .unset, .unset]) rfl kz) ?_
  show own_Fin p e below G (T2.setTop (mkF m 7 #[.val (.long x0), .second, .val (.long x1), .second, .val (.long x2), .second, .val (.long x3), .second, .val (.int p4), .val (.long (f1 x0 x1)), .second, .unset, .unset, .unset, .unset, .unset, .unset, .unset, .unset, .unset, .unset, .unset] []))
  refine own_to (fun _ kz => XS.lloadN X2.here hx rfl (hb hby at_7) rfl  kz) ?_
  show own_Fin p e below G (T2.setTop (mkF m 8 #[.val (.long x0), .second, .val (.long x1), .second, .val (.long x2), .second, .val (.long x3), .second, .val (.int p4), .val (.long (f1 x0 x1)), .second, .unset, .unset, .unset, .unset, .unset, .unset, .unset, .unset, .unset, .unset, .unset] [(.long x0)]))
  refine own_to (fun _ kz => XS.lloadN X2.here hx rfl (hb hby at_8) rfl  kz) ?_
  show own_Fin p e below G (T2.setTop (mkF m 9 #[.val (.long x0), .second, .val (.long x1), .second, .val (.long x2), .second, .val (.long x3), .second, .val (.int p4), .val (.long (f1 x0 x1)), .second, .unset, .unset, .unset, .unset, .unset, .unset, .unset, .unset, .unset, .unset, .unset] [(.long x1), (.long x0)]))
  obtain ⟨_, _, ⟨T9, L9, k9, n9⟩, -, X9, ⟨Lc9, hQ9, l9, y9, z9⟩, st9⟩ := Jvm.LawKit.callS X2 hx (y := (⟨"java/lang/Math", "max", "(JJ)J"⟩ : MethodName)) hown (mvT hZ (hw _ (List.mem_of_getElem? (i := 4) rfl))) (mvT hZ (hw _ (List.mem_of_getElem? (i := 5) rfl))) (mvT hZ (hw _ (List.mem_of_getElem? (i := 2) rfl))) (mvT hZ (hw _ (List.mem_of_getElem? (i := 6) rfl))) (by decide) (backOf (W := 0) (rm2 l Z a0 hw [] x0 x1 h0 n0 Z0) hZ (hw _ (List.mem_of_getElem? (i := 6) rfl)) (hw _ (List.mem_of_getElem? (i := 2) rfl)) (by decide) (by decide)) (g := (mkF m 9 #[.val (.long x0), .second, .val (.long x1), .second, .val (.long x2), .second, .val (.long x3), .second, .val (.int p4), .val (.long (f1 x0 x1)), .second, .unset, .unset, .unset, .unset, .unset, .unset, .unset, .unset, .unset, .unset, .unset] [(.long x1), (.long x0)])) rfl (by rw [hml]; rfl) (argsL := [(.long x0), (.long x1)]) (rest := []) (lenOf own_pd2 rfl) rfl (by show 2 * 0 + _ ≤ _; exact Nat.le_of_eq rfl) (hb hby at_9) (fun _ _ => ⟨rfl, e2, (by decide : 0 + 0 ≤ _), (by decide : 0 + 0 ≤ _)⟩)
  dsimp only [Pt.U, Pt.locs, Pt.cells, Pt.slots] at X9 l9 y9 z9 st9 hQ9
  subst l9 y9 z9
  obtain ⟨rfl, N9q, e9⟩ := hQ9
  have N9 := Fr.app N2 N9q
  refine own_to st9 ?_
  show own_Fin p e below G (T9.setTop (mkF m 12 #[.val (.long x0), .second, .val (.long x1), .second, .val (.long x2), .second, .val (.long x3), .second, .val (.int p4), .val (.long (f1 x0 x1)), .second, .unset, .unset, .unset, .unset, .unset, .unset, .unset, .unset, .unset, .unset, .unset] [(.long (f2 x0 x1))]))
  refine own_to (fun _ kz => XS.lstore X9.here hx rfl (hb hby at_12) rfl (l' := #[.val (.long x0), .second, .val (.long x1), .second, .val (.long x2), .second, .val (.long x3), .second, .val (.int p4), .val (.long (f1 x0 x1)), .second, .val (.long (f2 x0 x1)), .second, .unset, .unset, .unset, .unset, .unset, .unset, .unset, .unset, .unset]) rfl kz) ?_
  show own_Fin p e below G (T9.setTop (mkF m 14 #[.val (.long x0), .second, .val (.long x1), .second, .val (.long x2), .second, .val (.long x3), .second, .val (.int p4), .val (.long (f1 x0 x1)), .second, .val (.long (f2 x0 x1)), .second, .unset, .unset, .unset, .unset, .unset, .unset, .unset, .unset, .unset] []))
  refine own_to (fun _ kz => XS.lload X9.here hx rfl (hb hby at_14) rfl  kz) ?_
  show own_Fin p e below G (T9.setTop (mkF m 16 #[.val (.long x0), .second, .val (.long x1), .second, .val (.long x2), .second, .val (.long x3), .second, .val (.int p4), .val (.long (f1 x0 x1)), .second, .val (.long (f2 x0 x1)), .second, .unset, .unset, .unset, .unset, .unset, .unset, .unset, .unset, .unset] [(.long (f2 x0 x1))]))
  refine own_to (fun _ kz => XS.lload X9.here hx rfl (hb hby at_16) rfl  kz) ?_
  show own_Fin p e below G (T9.setTop (mkF m 18 #[.val (.long x0), .second, .val (.long x1), .second, .val (.long x2), .second, .val (.long x3), .second, .val (.int p4), .val (.long (f1 x0 x1)), .second, .val (.long (f2 x0 x1)), .second, .unset, .unset, .unset, .unset, .unset, .unset, .unset, .unset, .unset] [(.long (f1 x0 x1)), (.long (f2 x0 x1))]))
  refine own_to (fun _ kz => XS.lcmp X9.here hx rfl (hb hby at_18) rfl kz) ?_
  show own_Fin p e below G (T9.setTop (mkF m 19 #[.val (.long x0), .second, .val (.long x1), .second, .val (.long x2), .second, .val (.long x3), .second, .val (.int p4), .val (.long (f1 x0 x1)), .second, .val (.long (f2 x0 x1)), .second, .unset, .unset, .unset, .unset, .unset, .unset, .unset, .unset, .unset] [(.int (lcmpW (f2 x0 x1) (f1 x0 x1)))]))
  by_cases hc19 : (f1 x0 x1) < (f2 x0 x1)
  · refine own_to (fun _ kz => XS.ifYes X9.here hx rfl (pc0 := 19) (pc' := 24) rfl (hb hby at_19) rfl ((if0 _ _).trans (tlt ((lw_gt _ _).mpr hc19)).2.2.1) (by decide) (by decide) kz) ?_
    have q19t := q0.trans (if_pos hc19)
    show own_Fin p e below G (T9.setTop (mkF m 24 #[.val (.long x0), .second, .val (.long x1), .second, .val (.long x2), .second, .val (.long x3), .second, .val (.int p4), .val (.long (f1 x0 x1)), .second, .val (.long (f2 x0 x1)), .second, .unset, .unset, .unset, .unset, .unset, .unset, .unset, .unset, .unset] []))
    refine own_to (fun _ kz => XS.lload X9.here hx rfl (hb hby at_24) rfl  kz) ?_
    show own_Fin p e below G (T9.setTop (mkF m 26 #[.val (.long x0), .second, .val (.long x1), .second, .val (.long x2), .second, .val (.long x3), .second, .val (.int p4), .val (.long (f1 x0 x1)), .second, .val (.long (f2 x0 x1)), .second, .unset, .unset, .unset, .unset, .unset, .unset, .unset, .unset, .unset] [(.long x2)]))
    refine own_to (fun _ kz => XS.lload X9.here hx rfl (hb hby at_26) rfl  kz) ?_
    show own_Fin p e below G (T9.setTop (mkF m 28 #[.val (.long x0), .second, .val (.long x1), .second, .val (.long x2), .second, .val (.long x3), .second, .val (.int p4), .val (.long (f1 x0 x1)), .second, .val (.long (f2 x0 x1)), .second, .unset, .unset, .unset, .unset, .unset, .unset, .unset, .unset, .unset] [(.long x3), (.long x2)]))
    obtain ⟨_, _, ⟨T28, L28, k28, n28⟩, -, X28, ⟨Lc28, hQ28, l28, y28, z28⟩, st28⟩ := Jvm.LawKit.callS X9 hx (y := (⟨"java/lang/Math", "min", "(JJ)J"⟩ : MethodName)) hown (mvT hZ (hw _ (List.mem_of_getElem? (i := 0) rfl))) (mvT hZ (hw _ (List.mem_of_getElem? (i := 1) rfl))) (mvT hZ (hw _ (List.mem_of_getElem? (i := 2) rfl))) (mvT hZ (hw _ (List.mem_of_getElem? (i := 3) rfl))) (by decide) (backOf (W := 0) (rm1 l Z a0 hw [] x2 x3 h0 n0 Z0) hZ (hw _ (List.mem_of_getElem? (i := 3) rfl)) (hw _ (List.mem_of_getElem? (i := 2) rfl)) (by decide) (by decide)) (g := (mkF m 28 #[.val (.long x0), .second, .val (.long x1), .second, .val (.long x2), .second, .val (.long x3), .second, .val (.int p4), .val (.long (f1 x0 x1)), .second, .val (.long (f2 x0 x1)), .second, .unset, .unset, .unset, .unset, .unset, .unset, .unset, .unset, .unset] [(.long x3), (.long x2)])) rfl (by rw [hml]; rfl) (argsL := [(.long x2), (.long x3)]) (rest := []) (lenOf own_pd2 rfl) rfl (by show 2 * 0 + _ ≤ _; exact Nat.le_of_eq rfl) (hb hby at_28) (fun _ _ => ⟨rfl, e9, (by decide : 0 + 0 ≤ _), (by decide : 0 + 0 ≤ _)⟩)
    dsimp only [Pt.U, Pt.locs, Pt.cells, Pt.slots] at X28 l28 y28 z28 st28 hQ28
    subst l28 y28 z28
    obtain ⟨rfl, N28q, e28⟩ := hQ28
    have N28 := Fr.app N9 N28q
    refine own_to st28 ?_
    show own_Fin p e below G (T28.setTop (mkF m 31 #[.val (.long x0), .second, .val (.long x1), .second, .val (.long x2), .second, .val (.long x3), .second, .val (.int p4), .val (.long (f1 x0 x1)), .second, .val (.long (f2 x0 x1)), .second, .unset, .unset, .unset, .unset, .unset, .unset, .unset, .unset, .unset] [(.long (f1 x2 x3))]))
    refine own_to (fun _ kz => XS.lstore X28.here hx rfl (hb hby at_31) rfl (l' := #[.val (.long x0), .second, .val (.long x1), .second, .val (.long x2), .second, .val (.long x3), .second, .val (.int p4), .val (.long (f1 x0 x1)), .second, .val (.long (f2 x0 x1)), .second, .val (.long (f1 x2 x3)), .second, .unset, .unset, .unset, .unset, .unset, .unset, .unset]) rfl kz) ?_
    show own_Fin p e below G (T28.setTop (mkF m 33 #[.val (.long x0), .second, .val (.long x1), .second, .val (.long x2), .second, .val (.long x3), .second, .val (.int p4), .val (.long (f1 x0 x1)), .second, .val (.long (f2 x0 x1)), .second, .val (.long (f1 x2 x3)), .second, .unset, .unset, .unset, .unset, .unset, .unset, .unset] []))
    refine own_to (fun _ kz => XS.lload X28.here hx rfl (hb hby at_33) rfl  kz) ?_
    show own_Fin p e below G (T28.setTop (mkF m 35 #[.val (.long x0), .second, .val (.long x1), .second, .val (.long x2), .second, .val (.long x3), .second, .val (.int p4), .val (.long (f1 x0 x1)), .second, .val (.long (f2 x0 x1)), .second, .val (.long (f1 x2 x3)), .second, .unset, .unset, .unset, .unset, .unset, .unset, .unset] [(.long x2)]))
    refine own_to (fun _ kz => XS.lload X28.here hx rfl (hb hby at_35) rfl  kz) ?_
    show own_Fin p e below G (T28.setTop (mkF m 37 #[.val (.long x0), .second, .val (.long x1), .second, .val (.long x2), .second, .val (.long x3), .second, .val (.int p4), .val (.long (f1 x0 x1)), .second, .val (.long (f2 x0 x1)), .second, .val (.long (f1 x2 x3)), .second, .unset, .unset, .unset, .unset, .unset, .unset, .unset] [(.long x3), (.long x2)]))
    obtain ⟨_, _, ⟨T37, L37, k37, n37⟩, -, X37, ⟨Lc37, hQ37, l37, y37, z37⟩, st37⟩ := Jvm.LawKit.callS X28 hx (y := (⟨"java/lang/Math", "max", "(JJ)J"⟩ : MethodName)) hown (mvT hZ (hw _ (List.mem_of_getElem? (i := 4) rfl))) (mvT hZ (hw _ (List.mem_of_getElem? (i := 5) rfl))) (mvT hZ (hw _ (List.mem_of_getElem? (i := 2) rfl))) (mvT hZ (hw _ (List.mem_of_getElem? (i := 6) rfl))) (by decide) (backOf (W := 0) (rm2 l Z a0 hw [] x2 x3 h0 n0 Z0) hZ (hw _ (List.mem_of_getElem? (i := 6) rfl)) (hw _ (List.mem_of_getElem? (i := 2) rfl)) (by decide) (by decide)) (g := (mkF m 37 #[.val (.long x0), .second, .val (.long x1), .second, .val (.long x2), .second, .val (.long x3), .second, .val (.int p4), .val (.long (f1 x0 x1)), .second, .val (.long (f2 x0 x1)), .second, .val (.long (f1 x2 x3)), .second, .unset, .unset, .unset, .unset, .unset, .unset, .unset] [(.long x3), (.long x2)])) rfl (by rw [hml]; rfl) (argsL := [(.long x2), (.long x3)]) (rest := []) (lenOf own_pd2 rfl) rfl (by show 2 * 0 + _ ≤ _; exact Nat.le_of_eq rfl) (hb hby at_37) (fun _ _ => ⟨rfl, e28, (by decide : 0 + 0 ≤ _), (by decide : 0 + 0 ≤ _)⟩)
    dsimp only [Pt.U, Pt.locs, Pt.cells, Pt.slots] at X37 l37 y37 z37 st37 hQ37
    subst l37 y37 z37
    obtain ⟨rfl, N37q, e37⟩ := hQ37
    have N37 := Fr.app N28 N37q
    refine own_to st37 ?_
    show own_Fin p e below G (T37.setTop (mkF m 40 #[.val (.long x0), .second, .val (.long x1), .second, .val (.long x2), .second, .val (.long x3), .second, .val (.int p4), .val (.long (f1 x0 x1)), .second, .val (.long (f2 x0 x1)), .second, .val (.long (f1 x2 x3)), .second, .unset, .unset, .unset, .unset, .unset, .unset, .unset] [(.long (f2 x2 x3))]))
    refine own_to (fun _ kz => XS.lstore X37.here hx rfl (hb hby at_40) rfl (l' := #[.val (.long x0), .second, .val (.long x1), .second, .val (.long x2), .second, .val (.long x3), .second, .val (.int p4), .val (.long (f1 x0 x1)), .second, .val (.long (f2 x0 x1)), .second, .val (.long (f1 x2 x3)), .second, .val (.long (f2 x2 x3)), .second, .unset, .unset, .unset, .unset, .unset]) rfl kz) ?_
    show own_Fin p e below G (T37.setTop (mkF m 42 #[.val (.long x0), .second, .val (.long x1), .second, .val (.long x2), .second, .val (.long x3), .second, .val (.int p4), .val (.long (f1 x0 x1)), .second, .val (.long (f2 x0 x1)), .second, .val (.long (f1 x2 x3)), .second, .val (.long (f2 x2 x3)), .second, .unset, .unset, .unset, .unset, .unset] []))
    refine own_to (fun _ kz => XS.iload X37.here hx rfl (hb hby at_42) rfl  kz) ?_
    show own_Fin p e below G (T37.setTop (mkF m 44 #[.val (.long x0), .second, .val (.long x1), .second, .val (.long x2), .second, .val (.long x3), .second, .val (.int p4), .val (.long (f1 x0 x1)), .second, .val (.long (f2 x0 x1)), .second, .val (.long (f1 x2 x3)), .second, .val (.long (f2 x2 x3)), .second, .unset, .unset, .unset, .unset, .unset] [(.int p4)]))
    refine own_to (fun _ kz => XS.iconst X37.here hx rfl (hb hby at_44) kz) ?_
    show own_Fin p e below G (T37.setTop (mkF m 45 #[.val (.long x0), .second, .val (.long x1), .second, .val (.long x2), .second, .val (.long x3), .second, .val (.int p4), .val (.long (f1 x0 x1)), .second, .val (.long (f2 x0 x1)), .second, .val (.long (f1 x2 x3)), .second, .val (.long (f2 x2 x3)), .second, .unset, .unset, .unset, .unset, .unset] [(.int (1 : Int32)), (.int p4)]))
    refine own_to (fun _ kz => XS.iand X37.here hx rfl (hb hby at_45) rfl kz) ?_
    show own_Fin p e below G (T37.setTop (mkF m 46 #[.val (.long x0), .second, .val (.long x1), .second, .val (.long x2), .second, .val (.long x3), .second, .val (.int p4), .val (.long (f1 x0 x1)), .second, .val (.long (f2 x0 x1)), .second, .val (.long (f1 x2 x3)), .second, .val (.long (f2 x2 x3)), .second, .unset, .unset, .unset, .unset, .unset] [(.int (p4 &&& (1 : Int32)))]))
    have K53 : ∀ (w13_53 : Int64) (q_j53 : (f0 x0 x1 x2 x3 p4) = (f0_53 x0 x1 x2 x3 p4 w13_53)), own_Fin p e below G (T37.setTop (mkF m 53 #[.val (.long x0), .second, .val (.long x1), .second, .val (.long x2), .second, .val (.long x3), .second, .val (.int p4), .val (.long (f1 x0 x1)), .second, .val (.long (f2 x0 x1)), .second, .val (.long w13_53), .second, .val (.long (f2 x2 x3)), .second, .unset, .unset, .unset, .unset, .unset] [])) := by
      intro w13_53 q_j53
      refine own_to (fun _ kz => XS.iload X37.here hx rfl (hb hby at_53) rfl  kz) ?_
      show own_Fin p e below G (T37.setTop (mkF m 55 #[.val (.long x0), .second, .val (.long x1), .second, .val (.long x2), .second, .val (.long x3), .second, .val (.int p4), .val (.long (f1 x0 x1)), .second, .val (.long (f2 x0 x1)), .second, .val (.long w13_53), .second, .val (.long (f2 x2 x3)), .second, .unset, .unset, .unset, .unset, .unset] [(.int p4)]))
      refine own_to (fun _ kz => XS.iconst X37.here hx rfl (hb hby at_55) kz) ?_
      show own_Fin p e below G (T37.setTop (mkF m 56 #[.val (.long x0), .second, .val (.long x1), .second, .val (.long x2), .second, .val (.long x3), .second, .val (.int p4), .val (.long (f1 x0 x1)), .second, .val (.long (f2 x0 x1)), .second, .val (.long w13_53), .second, .val (.long (f2 x2 x3)), .second, .unset, .unset, .unset, .unset, .unset] [(.int (2 : Int32)), (.int p4)]))
      refine own_to (fun _ kz => XS.iand X37.here hx rfl (hb hby at_56) rfl kz) ?_
      show own_Fin p e below G (T37.setTop (mkF m 57 #[.val (.long x0), .second, .val (.long x1), .second, .val (.long x2), .second, .val (.long x3), .second, .val (.int p4), .val (.long (f1 x0 x1)), .second, .val (.long (f2 x0 x1)), .second, .val (.long w13_53), .second, .val (.long (f2 x2 x3)), .second, .unset, .unset, .unset, .unset, .unset] [(.int (p4 &&& (2 : Int32)))]))
      have K64 : ∀ (w15_64 : Int64) (q_j64 : (f0 x0 x1 x2 x3 p4) = (f0_64 x0 x1 x2 x3 p4 w13_53 w15_64)), own_Fin p e below G (T37.setTop (mkF m 64 #[.val (.long x0), .second, .val (.long x1), .second, .val (.long x2), .second, .val (.long x3), .second, .val (.int p4), .val (.long (f1 x0 x1)), .second, .val (.long (f2 x0 x1)), .second, .val (.long w13_53), .second, .val (.long w15_64), .second, .unset, .unset, .unset, .unset, .unset] [])) := by
        intro w15_64 q_j64
        refine own_to (fun _ kz => XS.lload X37.here hx rfl (hb hby at_64) rfl  kz) ?_
        show own_Fin p e below G (T37.setTop (mkF m 66 #[.val (.long x0), .second, .val (.long x1), .second, .val (.long x2), .second, .val (.long x3), .second, .val (.int p4), .val (.long (f1 x0 x1)), .second, .val (.long (f2 x0 x1)), .second, .val (.long w13_53), .second, .val (.long w15_64), .second, .unset, .unset, .unset, .unset, .unset] [(.long w15_64)]))
        refine own_to (fun _ kz => XS.lload X37.here hx rfl (hb hby at_66) rfl  kz) ?_
        show own_Fin p e below G (T37.setTop (mkF m 68 #[.val (.long x0), .second, .val (.long x1), .second, .val (.long x2), .second, .val (.long x3), .second, .val (.int p4), .val (.long (f1 x0 x1)), .second, .val (.long (f2 x0 x1)), .second, .val (.long w13_53), .second, .val (.long w15_64), .second, .unset, .unset, .unset, .unset, .unset] [(.long w13_53), (.long w15_64)]))
        refine own_to (fun _ kz => XS.lcmp X37.here hx rfl (hb hby at_68) rfl kz) ?_
        show own_Fin p e below G (T37.setTop (mkF m 69 #[.val (.long x0), .second, .val (.long x1), .second, .val (.long x2), .second, .val (.long x3), .second, .val (.int p4), .val (.long (f1 x0 x1)), .second, .val (.long (f2 x0 x1)), .second, .val (.long w13_53), .second, .val (.long w15_64), .second, .unset, .unset, .unset, .unset, .unset] [(.int (lcmpW w15_64 w13_53))]))
        by_cases hc69 : w13_53 < w15_64
        · refine own_to (fun _ kz => XS.ifYes X37.here hx rfl (pc0 := 69) (pc' := 74) rfl (hb hby at_69) rfl ((if0 _ _).trans (tlt ((lw_gt _ _).mpr hc69)).2.2.1) (by decide) (by decide) kz) ?_
          have q69t := q_j64.trans (if_pos hc69)
          show own_Fin p e below G (T37.setTop (mkF m 74 #[.val (.long x0), .second, .val (.long x1), .second, .val (.long x2), .second, .val (.long x3), .second, .val (.int p4), .val (.long (f1 x0 x1)), .second, .val (.long (f2 x0 x1)), .second, .val (.long w13_53), .second, .val (.long w15_64), .second, .unset, .unset, .unset, .unset, .unset] []))
          obtain ⟨T74, h74, X74, e74, E74, A74, D74, -, st74⟩ := newO X37 hx hZ hown (hw _ (List.mem_of_getElem? (i := 7) rfl)) (hw _ (List.mem_of_getElem? (i := 8) rfl)) (hw _ (List.mem_of_getElem? (i := 9) rfl)) e37 (g := (mkF m 74 #[.val (.long x0), .second, .val (.long x1), .second, .val (.long x2), .second, .val (.long x3), .second, .val (.int p4), .val (.long (f1 x0 x1)), .second, .val (.long (f2 x0 x1)), .second, .val (.long w13_53), .second, .val (.long w15_64), .second, .unset, .unset, .unset, .unset, .unset] [])) rfl (hb hby at_74) (by decide) (by decide)
          obtain ⟨b74, g74⟩ : ∃ z, z = h0.size := ⟨_, rfl⟩
          rw [← g74] at A74 D74 st74
          refine own_to st74 ?_
          have g_b74 : n0 ≤ b74 := Nat.le_trans Z0 (Nat.le_of_eq g74.symm)
          have F_start_b74 : Fld Z h74 b74 "com/example/braidjoin/braidjoin/Interval" "start" "J" (.long (0 : Int64)) := D74 (Or.inr (hw _ (List.mem_of_getElem? (i := 22) rfl))) (ty := .long) (by decide)
          have F_end_b74 : Fld Z h74 b74 "com/example/braidjoin/braidjoin/Interval" "end" "J" (.long (0 : Int64)) := D74 (Or.inr (hw _ (List.mem_of_getElem? (i := 24) rfl))) (ty := .long) (by decide)
          show own_Fin p e below G (T74.setTop (mkF m 77 #[.val (.long x0), .second, .val (.long x1), .second, .val (.long x2), .second, .val (.long x3), .second, .val (.int p4), .val (.long (f1 x0 x1)), .second, .val (.long (f2 x0 x1)), .second, .val (.long w13_53), .second, .val (.long w15_64), .second, .unset, .unset, .unset, .unset, .unset] [(.ref b74)]))
          refine own_to (fun _ kz => XS.dup X74.here hx rfl (hb hby at_77) rfl rfl kz) ?_
          show own_Fin p e below G (T74.setTop (mkF m 78 #[.val (.long x0), .second, .val (.long x1), .second, .val (.long x2), .second, .val (.long x3), .second, .val (.int p4), .val (.long (f1 x0 x1)), .second, .val (.long (f2 x0 x1)), .second, .val (.long w13_53), .second, .val (.long w15_64), .second, .unset, .unset, .unset, .unset, .unset] [(.ref b74), (.ref b74)]))
          refine own_to (fun _ kz => XS.lload X74.here hx rfl (hb hby at_78) rfl  kz) ?_
          show own_Fin p e below G (T74.setTop (mkF m 80 #[.val (.long x0), .second, .val (.long x1), .second, .val (.long x2), .second, .val (.long x3), .second, .val (.int p4), .val (.long (f1 x0 x1)), .second, .val (.long (f2 x0 x1)), .second, .val (.long w13_53), .second, .val (.long w15_64), .second, .unset, .unset, .unset, .unset, .unset] [(.long (f1 x0 x1)), (.ref b74), (.ref b74)]))
          refine own_to (fun _ kz => XS.lload X74.here hx rfl (hb hby at_80) rfl  kz) ?_
          show own_Fin p e below G (T74.setTop (mkF m 82 #[.val (.long x0), .second, .val (.long x1), .second, .val (.long x2), .second, .val (.long x3), .second, .val (.int p4), .val (.long (f1 x0 x1)), .second, .val (.long (f2 x0 x1)), .second, .val (.long w13_53), .second, .val (.long w15_64), .second, .unset, .unset, .unset, .unset, .unset] [(.long (f2 x0 x1)), (.long (f1 x0 x1)), (.ref b74), (.ref b74)]))
          have Z_82 : n0 ≤ h74.size := (Nat.le_trans Z0 E74.1)
          obtain ⟨_, _, ⟨T82, L82, k82, n82⟩, -, X82, ⟨Lc82, hQ82, l82, y82, z82⟩, st82⟩ := X74.specialBack hx (y := (⟨"com/example/braidjoin/braidjoin/Interval", "<init>", "(JJ)V"⟩ : MethodName)) rfl hown (mvT hZ (hw _ (List.mem_of_getElem? (i := 10) rfl))) (mvT hZ (hw _ (List.mem_of_getElem? (i := 11) rfl))) (mvT hZ (hw _ (List.mem_of_getElem? (i := 12) rfl))) (by decide) (backOf (W := 1) (rm3 l Z a0 hw [] b74 (f1 x0 x1) (f2 x0 x1) h74 n0 Z_82 A74 F_start_b74 F_end_b74 g_b74 hc19) hZ (hw _ (List.mem_of_getElem? (i := 12) rfl)) (hw _ (List.mem_of_getElem? (i := 9) rfl)) (by decide) (by decide)) (g := (mkF m 82 #[.val (.long x0), .second, .val (.long x1), .second, .val (.long x2), .second, .val (.long x3), .second, .val (.int p4), .val (.long (f1 x0 x1)), .second, .val (.long (f2 x0 x1)), .second, .val (.long w13_53), .second, .val (.long w15_64), .second, .unset, .unset, .unset, .unset, .unset] [(.long (f2 x0 x1)), (.long (f1 x0 x1)), (.ref b74), (.ref b74)])) rfl (by rw [hml]; rfl) (Steps.refl _) (a := b74) (argsL := [(.long (f1 x0 x1)), (.long (f2 x0 x1))]) (rest := [(.ref b74)]) (lenOf own_pd3 rfl) rfl (by show 2 * 0 + _ ≤ _; exact Nat.le_of_eq rfl) (hb hby at_82) (fun _ _ => ⟨rfl, e74, (by decide : 1 + 0 ≤ _), (by decide : 2 + 0 ≤ _)⟩)
          dsimp only [Pt.U, Pt.locs, Pt.cells, Pt.slots] at X82 l82 y82 z82 st82 hQ82
          subst l82 y82 z82
          obtain ⟨rfl, N82q, Kp82, P82_0, P82_1, P82_2⟩ := hQ82
          have N82 := Fr.app N37 N82q
          refine own_via st82 ?_
          show own_Fin p e below G (T82.setTop (mkF m 85 #[.val (.long x0), .second, .val (.long x1), .second, .val (.long x2), .second, .val (.long x3), .second, .val (.int p4), .val (.long (f1 x0 x1)), .second, .val (.long (f2 x0 x1)), .second, .val (.long w13_53), .second, .val (.long w15_64), .second, .unset, .unset, .unset, .unset, .unset] [(.ref b74)]))
          refine own_to (fun _ kz => XS.astore X82.here hx rfl (hb hby at_85) rfl (rfl) (l' := #[.val (.long x0), .second, .val (.long x1), .second, .val (.long x2), .second, .val (.long x3), .second, .val (.int p4), .val (.long (f1 x0 x1)), .second, .val (.long (f2 x0 x1)), .second, .val (.long w13_53), .second, .val (.long w15_64), .second, .val (.ref b74), .unset, .unset, .unset, .unset]) rfl kz) ?_
          show own_Fin p e below G (T82.setTop (mkF m 87 #[.val (.long x0), .second, .val (.long x1), .second, .val (.long x2), .second, .val (.long x3), .second, .val (.int p4), .val (.long (f1 x0 x1)), .second, .val (.long (f2 x0 x1)), .second, .val (.long w13_53), .second, .val (.long w15_64), .second, .val (.ref b74), .unset, .unset, .unset, .unset] []))
          have Z_87 : n0 ≤ T82.heap.size := (Nat.le_trans Z_82 Kp82.1)
          obtain ⟨T87, h87, X87, e87, E87, A87, D87, -, st87⟩ := newO X82 hx hZ hown (hw _ (List.mem_of_getElem? (i := 7) rfl)) (hw _ (List.mem_of_getElem? (i := 8) rfl)) (hw _ (List.mem_of_getElem? (i := 9) rfl)) rfl (g := (mkF m 87 #[.val (.long x0), .second, .val (.long x1), .second, .val (.long x2), .second, .val (.long x3), .second, .val (.int p4), .val (.long (f1 x0 x1)), .second, .val (.long (f2 x0 x1)), .second, .val (.long w13_53), .second, .val (.long w15_64), .second, .val (.ref b74), .unset, .unset, .unset, .unset] [])) rfl (hb hby at_87) (by decide) (by decide)
          obtain ⟨b87, g87⟩ : ∃ z, z = T82.heap.size := ⟨_, rfl⟩
          rw [← g87] at A87 D87 st87
          refine own_to st87 ?_
          have ne_b74_b87 : b74 ≠ b87 := Nat.ne_of_lt (Nat.lt_of_lt_of_le P82_0.lt (Nat.le_of_eq g87.symm))
          have g_b87 : n0 ≤ b87 := Nat.le_trans Z_87 (Nat.le_of_eq g87.symm)
          have F_start_b87 : Fld Z h87 b87 "com/example/braidjoin/braidjoin/Interval" "start" "J" (.long (0 : Int64)) := D87 (Or.inr (hw _ (List.mem_of_getElem? (i := 22) rfl))) (ty := .long) (by decide)
          have F_end_b87 : Fld Z h87 b87 "com/example/braidjoin/braidjoin/Interval" "end" "J" (.long (0 : Int64)) := D87 (Or.inr (hw _ (List.mem_of_getElem? (i := 24) rfl))) (ty := .long) (by decide)
          show own_Fin p e below G (T87.setTop (mkF m 90 #[.val (.long x0), .second, .val (.long x1), .second, .val (.long x2), .second, .val (.long x3), .second, .val (.int p4), .val (.long (f1 x0 x1)), .second, .val (.long (f2 x0 x1)), .second, .val (.long w13_53), .second, .val (.long w15_64), .second, .val (.ref b74), .unset, .unset, .unset, .unset] [(.ref b87)]))
          refine own_to (fun _ kz => XS.dup X87.here hx rfl (hb hby at_90) rfl rfl kz) ?_
          show own_Fin p e below G (T87.setTop (mkF m 91 #[.val (.long x0), .second, .val (.long x1), .second, .val (.long x2), .second, .val (.long x3), .second, .val (.int p4), .val (.long (f1 x0 x1)), .second, .val (.long (f2 x0 x1)), .second, .val (.long w13_53), .second, .val (.long w15_64), .second, .val (.ref b74), .unset, .unset, .unset, .unset] [(.ref b87), (.ref b87)]))
          refine own_to (fun _ kz => XS.lload X87.here hx rfl (hb hby at_91) rfl  kz) ?_
          show own_Fin p e below G (T87.setTop (mkF m 93 #[.val (.long x0), .second, .val (.long x1), .second, .val (.long x2), .second, .val (.long x3), .second, .val (.int p4), .val (.long (f1 x0 x1)), .second, .val (.long (f2 x0 x1)), .second, .val (.long w13_53), .second, .val (.long w15_64), .second, .val (.ref b74), .unset, .unset, .unset, .unset] [(.long w13_53), (.ref b87), (.ref b87)]))
          refine own_to (fun _ kz => XS.lload X87.here hx rfl (hb hby at_93) rfl  kz) ?_
          show own_Fin p e below G (T87.setTop (mkF m 95 #[.val (.long x0), .second, .val (.long x1), .second, .val (.long x2), .second, .val (.long x3), .second, .val (.int p4), .val (.long (f1 x0 x1)), .second, .val (.long (f2 x0 x1)), .second, .val (.long w13_53), .second, .val (.long w15_64), .second, .val (.ref b74), .unset, .unset, .unset, .unset] [(.long w15_64), (.long w13_53), (.ref b87), (.ref b87)]))
          have Z_95 : n0 ≤ h87.size := (Nat.le_trans Z_87 E87.1)
          obtain ⟨_, _, ⟨T95, L95, k95, n95⟩, -, X95, ⟨Lc95, hQ95, l95, y95, z95⟩, st95⟩ := X87.specialBack hx (y := (⟨"com/example/braidjoin/braidjoin/Interval", "<init>", "(JJ)V"⟩ : MethodName)) rfl hown (mvT hZ (hw _ (List.mem_of_getElem? (i := 10) rfl))) (mvT hZ (hw _ (List.mem_of_getElem? (i := 11) rfl))) (mvT hZ (hw _ (List.mem_of_getElem? (i := 12) rfl))) (by decide) (backOf (W := 1) (rm3 l Z a0 hw [] b87 w13_53 w15_64 h87 n0 Z_95 A87 F_start_b87 F_end_b87 g_b87 hc69) hZ (hw _ (List.mem_of_getElem? (i := 12) rfl)) (hw _ (List.mem_of_getElem? (i := 9) rfl)) (by decide) (by decide)) (g := (mkF m 95 #[.val (.long x0), .second, .val (.long x1), .second, .val (.long x2), .second, .val (.long x3), .second, .val (.int p4), .val (.long (f1 x0 x1)), .second, .val (.long (f2 x0 x1)), .second, .val (.long w13_53), .second, .val (.long w15_64), .second, .val (.ref b74), .unset, .unset, .unset, .unset] [(.long w15_64), (.long w13_53), (.ref b87), (.ref b87)])) rfl (by rw [hml]; rfl) (Steps.refl _) (a := b87) (argsL := [(.long w13_53), (.long w15_64)]) (rest := [(.ref b87)]) (lenOf own_pd3 rfl) rfl (by show 2 * 0 + _ ≤ _; exact Nat.le_of_eq rfl) (hb hby at_95) (fun _ _ => ⟨rfl, e87, (by decide : 2 + 0 ≤ _), (by decide : 4 + 0 ≤ _)⟩)
          dsimp only [Pt.U, Pt.locs, Pt.cells, Pt.slots] at X95 l95 y95 z95 st95 hQ95
          subst l95 y95 z95
          obtain ⟨rfl, N95q, Kp95, P95_0, P95_1, P95_2⟩ := hQ95
          have N95 := Fr.app N82 N95q
          refine own_via st95 ?_
          show own_Fin p e below G (T95.setTop (mkF m 98 #[.val (.long x0), .second, .val (.long x1), .second, .val (.long x2), .second, .val (.long x3), .second, .val (.int p4), .val (.long (f1 x0 x1)), .second, .val (.long (f2 x0 x1)), .second, .val (.long w13_53), .second, .val (.long w15_64), .second, .val (.ref b74), .unset, .unset, .unset, .unset] [(.ref b87)]))
          refine own_to (fun _ kz => XS.astore X95.here hx rfl (hb hby at_98) rfl (rfl) (l' := #[.val (.long x0), .second, .val (.long x1), .second, .val (.long x2), .second, .val (.long x3), .second, .val (.int p4), .val (.long (f1 x0 x1)), .second, .val (.long (f2 x0 x1)), .second, .val (.long w13_53), .second, .val (.long w15_64), .second, .val (.ref b74), .val (.ref b87), .unset, .unset, .unset]) rfl kz) ?_
          show own_Fin p e below G (T95.setTop (mkF m 100 #[.val (.long x0), .second, .val (.long x1), .second, .val (.long x2), .second, .val (.long x3), .second, .val (.int p4), .val (.long (f1 x0 x1)), .second, .val (.long (f2 x0 x1)), .second, .val (.long w13_53), .second, .val (.long w15_64), .second, .val (.ref b74), .val (.ref b87), .unset, .unset, .unset] []))
          refine own_to (fun _ kz => XS.aload X95.here hx rfl (hb hby at_100) rfl (rfl)  kz) ?_
          show own_Fin p e below G (T95.setTop (mkF m 102 #[.val (.long x0), .second, .val (.long x1), .second, .val (.long x2), .second, .val (.long x3), .second, .val (.int p4), .val (.long (f1 x0 x1)), .second, .val (.long (f2 x0 x1)), .second, .val (.long w13_53), .second, .val (.long w15_64), .second, .val (.ref b74), .val (.ref b87), .unset, .unset, .unset] [(.ref b74)]))
          refine own_to (fun _ kz => XS.aload X95.here hx rfl (hb hby at_102) rfl (rfl)  kz) ?_
          show own_Fin p e below G (T95.setTop (mkF m 104 #[.val (.long x0), .second, .val (.long x1), .second, .val (.long x2), .second, .val (.long x3), .second, .val (.int p4), .val (.long (f1 x0 x1)), .second, .val (.long (f2 x0 x1)), .second, .val (.long w13_53), .second, .val (.long w15_64), .second, .val (.ref b74), .val (.ref b87), .unset, .unset, .unset] [(.ref b87), (.ref b74)]))
          have P82_1_at_104 : Fld Z T95.heap b74 "com/example/braidjoin/braidjoin/Interval" "start" "J" (.long (f1 x0 x1)) := ((P82_1.ext E87).keep Kp95 (ninS ne_b74_b87 nin0))
          have P82_2_at_104 : Fld Z T95.heap b74 "com/example/braidjoin/braidjoin/Interval" "end" "J" (.long (f2 x0 x1)) := ((P82_2.ext E87).keep Kp95 (ninS ne_b74_b87 nin0))
          have Z_104 : n0 ≤ T95.heap.size := (Nat.le_trans Z_95 Kp95.1)
          have P82_0_at_104 : Exa Z T95.heap b74 "com/example/braidjoin/braidjoin/Interval" := ((P82_0.ext E87).keep Kp95)
          obtain ⟨cq104, kq104, qa104, qb104, qc104⟩ := isOf hZ rfl P82_0_at_104
          obtain ⟨_, _, ⟨T104, L104, k104, n104⟩, -, X104, ⟨Lc104, hQ104, l104, y104, z104⟩, st104⟩ := X95.virtualBack hx (y := (⟨"com/example/braidjoin/braidjoin/Interval", "compareTo", "(Lcom/example/braidjoin/braidjoin/Interval;)I"⟩ : MethodName)) (z := (⟨"com/example/braidjoin/braidjoin/Interval", "compareTo", "(Lcom/example/braidjoin/braidjoin/Interval;)I"⟩ : MethodName)) hown (mvT hZ (hw _ (List.mem_of_getElem? (i := 25) rfl))) (mvT hZ (hw _ (List.mem_of_getElem? (i := 26) rfl))) (notFace_of_selects (args := #[]) (mvT hZ (hw _ (List.mem_of_getElem? (i := 28) rfl)))) (mvT hZ (hw _ (List.mem_of_getElem? (i := 28) rfl))) (mvT hZ (hw _ (List.mem_of_getElem? (i := 27) rfl))) (by decide) (backOf (W := 0) (rm6 l Z a0 hw [] b74 b87 (f1 x0 x1) (f2 x0 x1) w13_53 w15_64 T95.heap n0 Z_104 P82_1_at_104 P82_2_at_104 P95_1 P95_2) hZ (hw _ (List.mem_of_getElem? (i := 29) rfl)) (hw _ (List.mem_of_getElem? (i := 9) rfl)) (by decide) (by decide)) qa104 qc104 (g := (mkF m 104 #[.val (.long x0), .second, .val (.long x1), .second, .val (.long x2), .second, .val (.long x3), .second, .val (.int p4), .val (.long (f1 x0 x1)), .second, .val (.long (f2 x0 x1)), .second, .val (.long w13_53), .second, .val (.long w15_64), .second, .val (.ref b74), .val (.ref b87), .unset, .unset, .unset] [(.ref b87), (.ref b74)])) rfl (by rw [hml]; rfl) (Steps.refl _) (argsL := [(.ref b87)]) (rest := []) (lenOf own_pd4 rfl) rfl (by show 2 * 0 + _ ≤ _; exact Nat.le_of_eq rfl) (hb hby at_104) (fun _ _ => ⟨rfl, rfl, (by decide : 2 + 0 ≤ _), (by decide : 4 + 0 ≤ _)⟩)
          dsimp only [Pt.U, Pt.locs, Pt.cells, Pt.slots] at X104 l104 y104 z104 st104 hQ104
          subst l104 y104 z104
          obtain ⟨rfl, N104q, e104⟩ := hQ104
          have N104 := Fr.app N95 N104q
          refine own_via st104 ?_
          show own_Fin p e below G (T104.setTop (mkF m 107 #[.val (.long x0), .second, .val (.long x1), .second, .val (.long x2), .second, .val (.long x3), .second, .val (.int p4), .val (.long (f1 x0 x1)), .second, .val (.long (f2 x0 x1)), .second, .val (.long w13_53), .second, .val (.long w15_64), .second, .val (.ref b74), .val (.ref b87), .unset, .unset, .unset] [(.int (f6 (f1 x0 x1) (f2 x0 x1) w13_53 w15_64))]))
          obtain ⟨_, _, ⟨T107, L107, k107, n107⟩, -, X107, ⟨Lc107, hQ107, l107, y107, z107⟩, st107⟩ := Jvm.LawKit.callS X104 hx (y := (⟨"com/example/braidjoin/braidjoin/IntervalCompareToPinLaw", "sign", "(I)I"⟩ : MethodName)) hown (mvT hZ (hw _ (List.mem_of_getElem? (i := 34) rfl))) (mvT hZ (hw _ (List.mem_of_getElem? (i := 35) rfl))) (mvT hZ (hw _ (List.mem_of_getElem? (i := 36) rfl))) (mvT hZ (hw _ (List.mem_of_getElem? (i := 37) rfl))) (by decide) (backOf (W := 0) (rm8 l Z a0 hw [] (f6 (f1 x0 x1) (f2 x0 x1) w13_53 w15_64) T95.heap n0 Z_104) hZ (hw _ (List.mem_of_getElem? (i := 37) rfl)) (hw _ (List.mem_of_getElem? (i := 36) rfl)) (by decide) (by decide)) (g := (mkF m 107 #[.val (.long x0), .second, .val (.long x1), .second, .val (.long x2), .second, .val (.long x3), .second, .val (.int p4), .val (.long (f1 x0 x1)), .second, .val (.long (f2 x0 x1)), .second, .val (.long w13_53), .second, .val (.long w15_64), .second, .val (.ref b74), .val (.ref b87), .unset, .unset, .unset] [(.int (f6 (f1 x0 x1) (f2 x0 x1) w13_53 w15_64))])) rfl (by rw [hml]; rfl) (argsL := [(.int (f6 (f1 x0 x1) (f2 x0 x1) w13_53 w15_64))]) (rest := []) (lenOf own_pd5 rfl) rfl (by show 2 * 0 + _ ≤ _; exact Nat.le_of_eq rfl) (hb hby at_107) (fun _ _ => ⟨rfl, e104, (by decide : 2 + 0 ≤ _), (by decide : 4 + 0 ≤ _)⟩)
          dsimp only [Pt.U, Pt.locs, Pt.cells, Pt.slots] at X107 l107 y107 z107 st107 hQ107
          subst l107 y107 z107
          obtain ⟨rfl, N107q, e107⟩ := hQ107
          have N107 := Fr.app N104 N107q
          refine own_to st107 ?_
          show own_Fin p e below G (T107.setTop (mkF m 110 #[.val (.long x0), .second, .val (.long x1), .second, .val (.long x2), .second, .val (.long x3), .second, .val (.int p4), .val (.long (f1 x0 x1)), .second, .val (.long (f2 x0 x1)), .second, .val (.long w13_53), .second, .val (.long w15_64), .second, .val (.ref b74), .val (.ref b87), .unset, .unset, .unset] [(.int (f8 (f6 (f1 x0 x1) (f2 x0 x1) w13_53 w15_64)))]))
          refine own_to (fun _ kz => XS.istore X107.here hx rfl (hb hby at_110) rfl (l' := #[.val (.long x0), .second, .val (.long x1), .second, .val (.long x2), .second, .val (.long x3), .second, .val (.int p4), .val (.long (f1 x0 x1)), .second, .val (.long (f2 x0 x1)), .second, .val (.long w13_53), .second, .val (.long w15_64), .second, .val (.ref b74), .val (.ref b87), .val (.int (f8 (f6 (f1 x0 x1) (f2 x0 x1) w13_53 w15_64))), .unset, .unset]) rfl kz) ?_
          show own_Fin p e below G (T107.setTop (mkF m 112 #[.val (.long x0), .second, .val (.long x1), .second, .val (.long x2), .second, .val (.long x3), .second, .val (.int p4), .val (.long (f1 x0 x1)), .second, .val (.long (f2 x0 x1)), .second, .val (.long w13_53), .second, .val (.long w15_64), .second, .val (.ref b74), .val (.ref b87), .val (.int (f8 (f6 (f1 x0 x1) (f2 x0 x1) w13_53 w15_64))), .unset, .unset] []))
          refine own_to (fun _ kz => XS.aload X107.here hx rfl (hb hby at_112) rfl (rfl)  kz) ?_
          show own_Fin p e below G (T107.setTop (mkF m 114 #[.val (.long x0), .second, .val (.long x1), .second, .val (.long x2), .second, .val (.long x3), .second, .val (.int p4), .val (.long (f1 x0 x1)), .second, .val (.long (f2 x0 x1)), .second, .val (.long w13_53), .second, .val (.long w15_64), .second, .val (.ref b74), .val (.ref b87), .val (.int (f8 (f6 (f1 x0 x1) (f2 x0 x1) w13_53 w15_64))), .unset, .unset] [(.ref b87)]))
          refine own_to (fun _ kz => XS.aload X107.here hx rfl (hb hby at_114) rfl (rfl)  kz) ?_
          show own_Fin p e below G (T107.setTop (mkF m 116 #[.val (.long x0), .second, .val (.long x1), .second, .val (.long x2), .second, .val (.long x3), .second, .val (.int p4), .val (.long (f1 x0 x1)), .second, .val (.long (f2 x0 x1)), .second, .val (.long w13_53), .second, .val (.long w15_64), .second, .val (.ref b74), .val (.ref b87), .val (.int (f8 (f6 (f1 x0 x1) (f2 x0 x1) w13_53 w15_64))), .unset, .unset] [(.ref b74), (.ref b87)]))
          obtain ⟨cq116, kq116, qa116, qb116, qc116⟩ := isOf hZ e107 P95_0
          obtain ⟨_, _, ⟨T116, L116, k116, n116⟩, -, X116, ⟨Lc116, hQ116, l116, y116, z116⟩, st116⟩ := X107.virtualBack hx (y := (⟨"com/example/braidjoin/braidjoin/Interval", "compareTo", "(Lcom/example/braidjoin/braidjoin/Interval;)I"⟩ : MethodName)) (z := (⟨"com/example/braidjoin/braidjoin/Interval", "compareTo", "(Lcom/example/braidjoin/braidjoin/Interval;)I"⟩ : MethodName)) hown (mvT hZ (hw _ (List.mem_of_getElem? (i := 25) rfl))) (mvT hZ (hw _ (List.mem_of_getElem? (i := 26) rfl))) (notFace_of_selects (args := #[]) (mvT hZ (hw _ (List.mem_of_getElem? (i := 28) rfl)))) (mvT hZ (hw _ (List.mem_of_getElem? (i := 28) rfl))) (mvT hZ (hw _ (List.mem_of_getElem? (i := 27) rfl))) (by decide) (backOf (W := 0) (rm6 l Z a0 hw [] b87 b74 w13_53 w15_64 (f1 x0 x1) (f2 x0 x1) T95.heap n0 Z_104 P95_1 P95_2 P82_1_at_104 P82_2_at_104) hZ (hw _ (List.mem_of_getElem? (i := 29) rfl)) (hw _ (List.mem_of_getElem? (i := 9) rfl)) (by decide) (by decide)) qa116 qc116 (g := (mkF m 116 #[.val (.long x0), .second, .val (.long x1), .second, .val (.long x2), .second, .val (.long x3), .second, .val (.int p4), .val (.long (f1 x0 x1)), .second, .val (.long (f2 x0 x1)), .second, .val (.long w13_53), .second, .val (.long w15_64), .second, .val (.ref b74), .val (.ref b87), .val (.int (f8 (f6 (f1 x0 x1) (f2 x0 x1) w13_53 w15_64))), .unset, .unset] [(.ref b74), (.ref b87)])) rfl (by rw [hml]; rfl) (Steps.refl _) (argsL := [(.ref b74)]) (rest := []) (lenOf own_pd4 rfl) rfl (by show 2 * 0 + _ ≤ _; exact Nat.le_of_eq rfl) (hb hby at_116) (fun _ _ => ⟨rfl, e107, (by decide : 2 + 0 ≤ _), (by decide : 4 + 0 ≤ _)⟩)
          dsimp only [Pt.U, Pt.locs, Pt.cells, Pt.slots] at X116 l116 y116 z116 st116 hQ116
          subst l116 y116 z116
          obtain ⟨rfl, N116q, e116⟩ := hQ116
          have N116 := Fr.app N107 N116q
          refine own_via st116 ?_
          show own_Fin p e below G (T116.setTop (mkF m 119 #[.val (.long x0), .second, .val (.long x1), .second, .val (.long x2), .second, .val (.long x3), .second, .val (.int p4), .val (.long (f1 x0 x1)), .second, .val (.long (f2 x0 x1)), .second, .val (.long w13_53), .second, .val (.long w15_64), .second, .val (.ref b74), .val (.ref b87), .val (.int (f8 (f6 (f1 x0 x1) (f2 x0 x1) w13_53 w15_64))), .unset, .unset] [(.int (f6 w13_53 w15_64 (f1 x0 x1) (f2 x0 x1)))]))
          obtain ⟨_, _, ⟨T119, L119, k119, n119⟩, -, X119, ⟨Lc119, hQ119, l119, y119, z119⟩, st119⟩ := Jvm.LawKit.callS X116 hx (y := (⟨"com/example/braidjoin/braidjoin/IntervalCompareToPinLaw", "sign", "(I)I"⟩ : MethodName)) hown (mvT hZ (hw _ (List.mem_of_getElem? (i := 34) rfl))) (mvT hZ (hw _ (List.mem_of_getElem? (i := 35) rfl))) (mvT hZ (hw _ (List.mem_of_getElem? (i := 36) rfl))) (mvT hZ (hw _ (List.mem_of_getElem? (i := 37) rfl))) (by decide) (backOf (W := 0) (rm8 l Z a0 hw [] (f6 w13_53 w15_64 (f1 x0 x1) (f2 x0 x1)) T95.heap n0 Z_104) hZ (hw _ (List.mem_of_getElem? (i := 37) rfl)) (hw _ (List.mem_of_getElem? (i := 36) rfl)) (by decide) (by decide)) (g := (mkF m 119 #[.val (.long x0), .second, .val (.long x1), .second, .val (.long x2), .second, .val (.long x3), .second, .val (.int p4), .val (.long (f1 x0 x1)), .second, .val (.long (f2 x0 x1)), .second, .val (.long w13_53), .second, .val (.long w15_64), .second, .val (.ref b74), .val (.ref b87), .val (.int (f8 (f6 (f1 x0 x1) (f2 x0 x1) w13_53 w15_64))), .unset, .unset] [(.int (f6 w13_53 w15_64 (f1 x0 x1) (f2 x0 x1)))])) rfl (by rw [hml]; rfl) (argsL := [(.int (f6 w13_53 w15_64 (f1 x0 x1) (f2 x0 x1)))]) (rest := []) (lenOf own_pd5 rfl) rfl (by show 2 * 0 + _ ≤ _; exact Nat.le_of_eq rfl) (hb hby at_119) (fun _ _ => ⟨rfl, e116, (by decide : 2 + 0 ≤ _), (by decide : 4 + 0 ≤ _)⟩)
          dsimp only [Pt.U, Pt.locs, Pt.cells, Pt.slots] at X119 l119 y119 z119 st119 hQ119
          subst l119 y119 z119
          obtain ⟨rfl, N119q, e119⟩ := hQ119
          have N119 := Fr.app N116 N119q
          refine own_to st119 ?_
          show own_Fin p e below G (T119.setTop (mkF m 122 #[.val (.long x0), .second, .val (.long x1), .second, .val (.long x2), .second, .val (.long x3), .second, .val (.int p4), .val (.long (f1 x0 x1)), .second, .val (.long (f2 x0 x1)), .second, .val (.long w13_53), .second, .val (.long w15_64), .second, .val (.ref b74), .val (.ref b87), .val (.int (f8 (f6 (f1 x0 x1) (f2 x0 x1) w13_53 w15_64))), .unset, .unset] [(.int (f8 (f6 w13_53 w15_64 (f1 x0 x1) (f2 x0 x1))))]))
          refine own_to (fun _ kz => XS.istore X119.here hx rfl (hb hby at_122) rfl (l' := #[.val (.long x0), .second, .val (.long x1), .second, .val (.long x2), .second, .val (.long x3), .second, .val (.int p4), .val (.long (f1 x0 x1)), .second, .val (.long (f2 x0 x1)), .second, .val (.long w13_53), .second, .val (.long w15_64), .second, .val (.ref b74), .val (.ref b87), .val (.int (f8 (f6 (f1 x0 x1) (f2 x0 x1) w13_53 w15_64))), .val (.int (f8 (f6 w13_53 w15_64 (f1 x0 x1) (f2 x0 x1)))), .unset]) rfl kz) ?_
          show own_Fin p e below G (T119.setTop (mkF m 124 #[.val (.long x0), .second, .val (.long x1), .second, .val (.long x2), .second, .val (.long x3), .second, .val (.int p4), .val (.long (f1 x0 x1)), .second, .val (.long (f2 x0 x1)), .second, .val (.long w13_53), .second, .val (.long w15_64), .second, .val (.ref b74), .val (.ref b87), .val (.int (f8 (f6 (f1 x0 x1) (f2 x0 x1) w13_53 w15_64))), .val (.int (f8 (f6 w13_53 w15_64 (f1 x0 x1) (f2 x0 x1)))), .unset] []))
          refine own_to (fun _ kz => XS.lload X119.here hx rfl (hb hby at_124) rfl  kz) ?_
          show own_Fin p e below G (T119.setTop (mkF m 126 #[.val (.long x0), .second, .val (.long x1), .second, .val (.long x2), .second, .val (.long x3), .second, .val (.int p4), .val (.long (f1 x0 x1)), .second, .val (.long (f2 x0 x1)), .second, .val (.long w13_53), .second, .val (.long w15_64), .second, .val (.ref b74), .val (.ref b87), .val (.int (f8 (f6 (f1 x0 x1) (f2 x0 x1) w13_53 w15_64))), .val (.int (f8 (f6 w13_53 w15_64 (f1 x0 x1) (f2 x0 x1)))), .unset] [(.long (f1 x0 x1))]))
          refine own_to (fun _ kz => XS.lload X119.here hx rfl (hb hby at_126) rfl  kz) ?_
          show own_Fin p e below G (T119.setTop (mkF m 128 #[.val (.long x0), .second, .val (.long x1), .second, .val (.long x2), .second, .val (.long x3), .second, .val (.int p4), .val (.long (f1 x0 x1)), .second, .val (.long (f2 x0 x1)), .second, .val (.long w13_53), .second, .val (.long w15_64), .second, .val (.ref b74), .val (.ref b87), .val (.int (f8 (f6 (f1 x0 x1) (f2 x0 x1) w13_53 w15_64))), .val (.int (f8 (f6 w13_53 w15_64 (f1 x0 x1) (f2 x0 x1)))), .unset] [(.long (f2 x0 x1)), (.long (f1 x0 x1))]))
          refine own_to (fun _ kz => XS.lload X119.here hx rfl (hb hby at_128) rfl  kz) ?_
          show own_Fin p e below G (T119.setTop (mkF m 130 #[.val (.long x0), .second, .val (.long x1), .second, .val (.long x2), .second, .val (.long x3), .second, .val (.int p4), .val (.long (f1 x0 x1)), .second, .val (.long (f2 x0 x1)), .second, .val (.long w13_53), .second, .val (.long w15_64), .second, .val (.ref b74), .val (.ref b87), .val (.int (f8 (f6 (f1 x0 x1) (f2 x0 x1) w13_53 w15_64))), .val (.int (f8 (f6 w13_53 w15_64 (f1 x0 x1) (f2 x0 x1)))), .unset] [(.long w13_53), (.long (f2 x0 x1)), (.long (f1 x0 x1))]))
          refine own_to (fun _ kz => XS.lload X119.here hx rfl (hb hby at_130) rfl  kz) ?_
          show own_Fin p e below G (T119.setTop (mkF m 132 #[.val (.long x0), .second, .val (.long x1), .second, .val (.long x2), .second, .val (.long x3), .second, .val (.int p4), .val (.long (f1 x0 x1)), .second, .val (.long (f2 x0 x1)), .second, .val (.long w13_53), .second, .val (.long w15_64), .second, .val (.ref b74), .val (.ref b87), .val (.int (f8 (f6 (f1 x0 x1) (f2 x0 x1) w13_53 w15_64))), .val (.int (f8 (f6 w13_53 w15_64 (f1 x0 x1) (f2 x0 x1)))), .unset] [(.long w15_64), (.long w13_53), (.long (f2 x0 x1)), (.long (f1 x0 x1))]))
          obtain ⟨_, _, ⟨T132, L132, k132, n132⟩, -, X132, ⟨Lc132, hQ132, l132, y132, z132⟩, st132⟩ := Jvm.LawKit.callS X119 hx (y := (⟨"com/example/braidjoin/braidjoin/IntervalCompareToPinLaw", "expected", "(JJJJ)I"⟩ : MethodName)) hown (mvT hZ (hw _ (List.mem_of_getElem? (i := 38) rfl))) (mvT hZ (hw _ (List.mem_of_getElem? (i := 39) rfl))) (mvT hZ (hw _ (List.mem_of_getElem? (i := 36) rfl))) (mvT hZ (hw _ (List.mem_of_getElem? (i := 40) rfl))) (by decide) (backOf (W := 0) (rm9 l Z a0 hw [] (f1 x0 x1) (f2 x0 x1) w13_53 w15_64 T95.heap n0 Z_104) hZ (hw _ (List.mem_of_getElem? (i := 40) rfl)) (hw _ (List.mem_of_getElem? (i := 36) rfl)) (by decide) (by decide)) (g := (mkF m 132 #[.val (.long x0), .second, .val (.long x1), .second, .val (.long x2), .second, .val (.long x3), .second, .val (.int p4), .val (.long (f1 x0 x1)), .second, .val (.long (f2 x0 x1)), .second, .val (.long w13_53), .second, .val (.long w15_64), .second, .val (.ref b74), .val (.ref b87), .val (.int (f8 (f6 (f1 x0 x1) (f2 x0 x1) w13_53 w15_64))), .val (.int (f8 (f6 w13_53 w15_64 (f1 x0 x1) (f2 x0 x1)))), .unset] [(.long w15_64), (.long w13_53), (.long (f2 x0 x1)), (.long (f1 x0 x1))])) rfl (by rw [hml]; rfl) (argsL := [(.long (f1 x0 x1)), (.long (f2 x0 x1)), (.long w13_53), (.long w15_64)]) (rest := []) (lenOf own_pd6 rfl) rfl (by show 2 * 0 + _ ≤ _; exact Nat.le_of_eq rfl) (hb hby at_132) (fun _ _ => ⟨rfl, e119, (by decide : 2 + 0 ≤ _), (by decide : 4 + 0 ≤ _)⟩)
          dsimp only [Pt.U, Pt.locs, Pt.cells, Pt.slots] at X132 l132 y132 z132 st132 hQ132
          subst l132 y132 z132
          obtain ⟨rfl, N132q, e132⟩ := hQ132
          have N132 := Fr.app N119 N132q
          refine own_to st132 ?_
          show own_Fin p e below G (T132.setTop (mkF m 135 #[.val (.long x0), .second, .val (.long x1), .second, .val (.long x2), .second, .val (.long x3), .second, .val (.int p4), .val (.long (f1 x0 x1)), .second, .val (.long (f2 x0 x1)), .second, .val (.long w13_53), .second, .val (.long w15_64), .second, .val (.ref b74), .val (.ref b87), .val (.int (f8 (f6 (f1 x0 x1) (f2 x0 x1) w13_53 w15_64))), .val (.int (f8 (f6 w13_53 w15_64 (f1 x0 x1) (f2 x0 x1)))), .unset] [(.int (f9 (f1 x0 x1) (f2 x0 x1) w13_53 w15_64))]))
          refine own_to (fun _ kz => XS.istore X132.here hx rfl (hb hby at_135) rfl (l' := #[.val (.long x0), .second, .val (.long x1), .second, .val (.long x2), .second, .val (.long x3), .second, .val (.int p4), .val (.long (f1 x0 x1)), .second, .val (.long (f2 x0 x1)), .second, .val (.long w13_53), .second, .val (.long w15_64), .second, .val (.ref b74), .val (.ref b87), .val (.int (f8 (f6 (f1 x0 x1) (f2 x0 x1) w13_53 w15_64))), .val (.int (f8 (f6 w13_53 w15_64 (f1 x0 x1) (f2 x0 x1)))), .val (.int (f9 (f1 x0 x1) (f2 x0 x1) w13_53 w15_64))]) rfl kz) ?_
          show own_Fin p e below G (T132.setTop (mkF m 137 #[.val (.long x0), .second, .val (.long x1), .second, .val (.long x2), .second, .val (.long x3), .second, .val (.int p4), .val (.long (f1 x0 x1)), .second, .val (.long (f2 x0 x1)), .second, .val (.long w13_53), .second, .val (.long w15_64), .second, .val (.ref b74), .val (.ref b87), .val (.int (f8 (f6 (f1 x0 x1) (f2 x0 x1) w13_53 w15_64))), .val (.int (f8 (f6 w13_53 w15_64 (f1 x0 x1) (f2 x0 x1)))), .val (.int (f9 (f1 x0 x1) (f2 x0 x1) w13_53 w15_64))] []))
          refine own_to (fun _ kz => XS.iload X132.here hx rfl (hb hby at_137) rfl  kz) ?_
          show own_Fin p e below G (T132.setTop (mkF m 139 #[.val (.long x0), .second, .val (.long x1), .second, .val (.long x2), .second, .val (.long x3), .second, .val (.int p4), .val (.long (f1 x0 x1)), .second, .val (.long (f2 x0 x1)), .second, .val (.long w13_53), .second, .val (.long w15_64), .second, .val (.ref b74), .val (.ref b87), .val (.int (f8 (f6 (f1 x0 x1) (f2 x0 x1) w13_53 w15_64))), .val (.int (f8 (f6 w13_53 w15_64 (f1 x0 x1) (f2 x0 x1)))), .val (.int (f9 (f1 x0 x1) (f2 x0 x1) w13_53 w15_64))] [(.int (f8 (f6 (f1 x0 x1) (f2 x0 x1) w13_53 w15_64)))]))
          refine own_to (fun _ kz => XS.iload X132.here hx rfl (hb hby at_139) rfl  kz) ?_
          show own_Fin p e below G (T132.setTop (mkF m 141 #[.val (.long x0), .second, .val (.long x1), .second, .val (.long x2), .second, .val (.long x3), .second, .val (.int p4), .val (.long (f1 x0 x1)), .second, .val (.long (f2 x0 x1)), .second, .val (.long w13_53), .second, .val (.long w15_64), .second, .val (.ref b74), .val (.ref b87), .val (.int (f8 (f6 (f1 x0 x1) (f2 x0 x1) w13_53 w15_64))), .val (.int (f8 (f6 w13_53 w15_64 (f1 x0 x1) (f2 x0 x1)))), .val (.int (f9 (f1 x0 x1) (f2 x0 x1) w13_53 w15_64))] [(.int (f9 (f1 x0 x1) (f2 x0 x1) w13_53 w15_64)), (.int (f8 (f6 (f1 x0 x1) (f2 x0 x1) w13_53 w15_64)))]))
          have K156 : ∀ (q_j156 : (f0 x0 x1 x2 x3 p4) = (f0_156 x0 x1 x2 x3 p4 w13_53 w15_64)), own_Fin p e below G (T132.setTop (mkF m 156 #[.val (.long x0), .second, .val (.long x1), .second, .val (.long x2), .second, .val (.long x3), .second, .val (.int p4), .val (.long (f1 x0 x1)), .second, .val (.long (f2 x0 x1)), .second, .val (.long w13_53), .second, .val (.long w15_64), .second, .val (.ref b74), .val (.ref b87), .val (.int (f8 (f6 (f1 x0 x1) (f2 x0 x1) w13_53 w15_64))), .val (.int (f8 (f6 w13_53 w15_64 (f1 x0 x1) (f2 x0 x1)))), .val (.int (f9 (f1 x0 x1) (f2 x0 x1) w13_53 w15_64))] [])) := by
            intro q_j156
            refine own_to (fun _ kz => XS.iconst X132.here hx rfl (hb hby at_156) kz) ?_
            show own_Fin p e below G (T132.setTop (mkF m 157 #[.val (.long x0), .second, .val (.long x1), .second, .val (.long x2), .second, .val (.long x3), .second, .val (.int p4), .val (.long (f1 x0 x1)), .second, .val (.long (f2 x0 x1)), .second, .val (.long w13_53), .second, .val (.long w15_64), .second, .val (.ref b74), .val (.ref b87), .val (.int (f8 (f6 (f1 x0 x1) (f2 x0 x1) w13_53 w15_64))), .val (.int (f8 (f6 w13_53 w15_64 (f1 x0 x1) (f2 x0 x1)))), .val (.int (f9 (f1 x0 x1) (f2 x0 x1) w13_53 w15_64))] [(.int (0 : Int32))]))
            exact own_retN X132 hx hlk hG (t := .boolean) Bd.returns (by simp) (hb hby at_157) (by decide) (by decide) (by rw [e132]; exact ⟨(congrArg (fun z => some (Value.int z)) q_j156).symm, N132, trivial⟩)
          by_cases hc141 : (f8 (f6 (f1 x0 x1) (f2 x0 x1) w13_53 w15_64)) = (f9 (f1 x0 x1) (f2 x0 x1) w13_53 w15_64)
          · refine own_to (fun _ kz => XS.icmpNo X132.here hx rfl (hb hby at_141) rfl (teq hc141).2 kz) ?_
            have q141t := q69t.trans (if_pos hc141)
            show own_Fin p e below G (T132.setTop (mkF m 144 #[.val (.long x0), .second, .val (.long x1), .second, .val (.long x2), .second, .val (.long x3), .second, .val (.int p4), .val (.long (f1 x0 x1)), .second, .val (.long (f2 x0 x1)), .second, .val (.long w13_53), .second, .val (.long w15_64), .second, .val (.ref b74), .val (.ref b87), .val (.int (f8 (f6 (f1 x0 x1) (f2 x0 x1) w13_53 w15_64))), .val (.int (f8 (f6 w13_53 w15_64 (f1 x0 x1) (f2 x0 x1)))), .val (.int (f9 (f1 x0 x1) (f2 x0 x1) w13_53 w15_64))] []))
            refine own_to (fun _ kz => XS.iload X132.here hx rfl (hb hby at_144) rfl  kz) ?_
            show own_Fin p e below G (T132.setTop (mkF m 146 #[.val (.long x0), .second, .val (.long x1), .second, .val (.long x2), .second, .val (.long x3), .second, .val (.int p4), .val (.long (f1 x0 x1)), .second, .val (.long (f2 x0 x1)), .second, .val (.long w13_53), .second, .val (.long w15_64), .second, .val (.ref b74), .val (.ref b87), .val (.int (f8 (f6 (f1 x0 x1) (f2 x0 x1) w13_53 w15_64))), .val (.int (f8 (f6 w13_53 w15_64 (f1 x0 x1) (f2 x0 x1)))), .val (.int (f9 (f1 x0 x1) (f2 x0 x1) w13_53 w15_64))] [(.int (f8 (f6 w13_53 w15_64 (f1 x0 x1) (f2 x0 x1))))]))
            refine own_to (fun _ kz => XS.iload X132.here hx rfl (hb hby at_146) rfl  kz) ?_
            show own_Fin p e below G (T132.setTop (mkF m 148 #[.val (.long x0), .second, .val (.long x1), .second, .val (.long x2), .second, .val (.long x3), .second, .val (.int p4), .val (.long (f1 x0 x1)), .second, .val (.long (f2 x0 x1)), .second, .val (.long w13_53), .second, .val (.long w15_64), .second, .val (.ref b74), .val (.ref b87), .val (.int (f8 (f6 (f1 x0 x1) (f2 x0 x1) w13_53 w15_64))), .val (.int (f8 (f6 w13_53 w15_64 (f1 x0 x1) (f2 x0 x1)))), .val (.int (f9 (f1 x0 x1) (f2 x0 x1) w13_53 w15_64))] [(.int (f9 (f1 x0 x1) (f2 x0 x1) w13_53 w15_64)), (.int (f8 (f6 w13_53 w15_64 (f1 x0 x1) (f2 x0 x1))))]))
            refine own_to (fun _ kz => XS.ineg X132.here hx rfl (hb hby at_148) rfl kz) ?_
            show own_Fin p e below G (T132.setTop (mkF m 149 #[.val (.long x0), .second, .val (.long x1), .second, .val (.long x2), .second, .val (.long x3), .second, .val (.int p4), .val (.long (f1 x0 x1)), .second, .val (.long (f2 x0 x1)), .second, .val (.long w13_53), .second, .val (.long w15_64), .second, .val (.ref b74), .val (.ref b87), .val (.int (f8 (f6 (f1 x0 x1) (f2 x0 x1) w13_53 w15_64))), .val (.int (f8 (f6 w13_53 w15_64 (f1 x0 x1) (f2 x0 x1)))), .val (.int (f9 (f1 x0 x1) (f2 x0 x1) w13_53 w15_64))] [(.int (-(f9 (f1 x0 x1) (f2 x0 x1) w13_53 w15_64))), (.int (f8 (f6 w13_53 w15_64 (f1 x0 x1) (f2 x0 x1))))]))
            by_cases hc149 : (f8 (f6 w13_53 w15_64 (f1 x0 x1) (f2 x0 x1))) = (-(f9 (f1 x0 x1) (f2 x0 x1) w13_53 w15_64))
            · refine own_to (fun _ kz => XS.icmpNo X132.here hx rfl (hb hby at_149) rfl (teq hc149).2 kz) ?_
              have q149t := q141t.trans (if_pos hc149)
              show own_Fin p e below G (T132.setTop (mkF m 152 #[.val (.long x0), .second, .val (.long x1), .second, .val (.long x2), .second, .val (.long x3), .second, .val (.int p4), .val (.long (f1 x0 x1)), .second, .val (.long (f2 x0 x1)), .second, .val (.long w13_53), .second, .val (.long w15_64), .second, .val (.ref b74), .val (.ref b87), .val (.int (f8 (f6 (f1 x0 x1) (f2 x0 x1) w13_53 w15_64))), .val (.int (f8 (f6 w13_53 w15_64 (f1 x0 x1) (f2 x0 x1)))), .val (.int (f9 (f1 x0 x1) (f2 x0 x1) w13_53 w15_64))] []))
              refine own_to (fun _ kz => XS.iconst X132.here hx rfl (hb hby at_152) kz) ?_
              show own_Fin p e below G (T132.setTop (mkF m 153 #[.val (.long x0), .second, .val (.long x1), .second, .val (.long x2), .second, .val (.long x3), .second, .val (.int p4), .val (.long (f1 x0 x1)), .second, .val (.long (f2 x0 x1)), .second, .val (.long w13_53), .second, .val (.long w15_64), .second, .val (.ref b74), .val (.ref b87), .val (.int (f8 (f6 (f1 x0 x1) (f2 x0 x1) w13_53 w15_64))), .val (.int (f8 (f6 w13_53 w15_64 (f1 x0 x1) (f2 x0 x1)))), .val (.int (f9 (f1 x0 x1) (f2 x0 x1) w13_53 w15_64))] [(.int (1 : Int32))]))
              refine own_to (fun _ kz => XS.goto X132.here hx rfl (pc0 := 153) (pc' := 157) rfl (hb hby at_153) (by decide) (by decide) kz) ?_
              show own_Fin p e below G (T132.setTop (mkF m 157 #[.val (.long x0), .second, .val (.long x1), .second, .val (.long x2), .second, .val (.long x3), .second, .val (.int p4), .val (.long (f1 x0 x1)), .second, .val (.long (f2 x0 x1)), .second, .val (.long w13_53), .second, .val (.long w15_64), .second, .val (.ref b74), .val (.ref b87), .val (.int (f8 (f6 (f1 x0 x1) (f2 x0 x1) w13_53 w15_64))), .val (.int (f8 (f6 w13_53 w15_64 (f1 x0 x1) (f2 x0 x1)))), .val (.int (f9 (f1 x0 x1) (f2 x0 x1) w13_53 w15_64))] [(.int (1 : Int32))]))
              exact own_retN X132 hx hlk hG (t := .boolean) Bd.returns (by simp) (hb hby at_157) (by decide) (by decide) (by rw [e132]; exact ⟨(congrArg (fun z => some (Value.int z)) q149t).symm, N132, trivial⟩)
            · refine own_to (fun _ kz => XS.icmpYes X132.here hx rfl (pc0 := 149) (pc' := 156) rfl (hb hby at_149) rfl (feq hc149).2 (by decide) (by decide) kz) ?_
              have q149f := q141t.trans (if_neg hc149)
              show own_Fin p e below G (T132.setTop (mkF m 156 #[.val (.long x0), .second, .val (.long x1), .second, .val (.long x2), .second, .val (.long x3), .second, .val (.int p4), .val (.long (f1 x0 x1)), .second, .val (.long (f2 x0 x1)), .second, .val (.long w13_53), .second, .val (.long w15_64), .second, .val (.ref b74), .val (.ref b87), .val (.int (f8 (f6 (f1 x0 x1) (f2 x0 x1) w13_53 w15_64))), .val (.int (f8 (f6 w13_53 w15_64 (f1 x0 x1) (f2 x0 x1)))), .val (.int (f9 (f1 x0 x1) (f2 x0 x1) w13_53 w15_64))] []))
              exact K156 q149f
          · refine own_to (fun _ kz => XS.icmpYes X132.here hx rfl (pc0 := 141) (pc' := 156) rfl (hb hby at_141) rfl (feq hc141).2 (by decide) (by decide) kz) ?_
            have q141f := q69t.trans (if_neg hc141)
            show own_Fin p e below G (T132.setTop (mkF m 156 #[.val (.long x0), .second, .val (.long x1), .second, .val (.long x2), .second, .val (.long x3), .second, .val (.int p4), .val (.long (f1 x0 x1)), .second, .val (.long (f2 x0 x1)), .second, .val (.long w13_53), .second, .val (.long w15_64), .second, .val (.ref b74), .val (.ref b87), .val (.int (f8 (f6 (f1 x0 x1) (f2 x0 x1) w13_53 w15_64))), .val (.int (f8 (f6 w13_53 w15_64 (f1 x0 x1) (f2 x0 x1)))), .val (.int (f9 (f1 x0 x1) (f2 x0 x1) w13_53 w15_64))] []))
            exact K156 q141f
        · refine own_to (fun _ kz => XS.ifNo X37.here hx rfl (hb hby at_69) rfl ((if0 _ _).trans (flt (fun q => hc69 ((lw_gt _ _).mp q))).2.2.1) kz) ?_
          have q69f := q_j64.trans (if_neg hc69)
          show own_Fin p e below G (T37.setTop (mkF m 72 #[.val (.long x0), .second, .val (.long x1), .second, .val (.long x2), .second, .val (.long x3), .second, .val (.int p4), .val (.long (f1 x0 x1)), .second, .val (.long (f2 x0 x1)), .second, .val (.long w13_53), .second, .val (.long w15_64), .second, .unset, .unset, .unset, .unset, .unset] []))
          refine own_to (fun _ kz => XS.iconst X37.here hx rfl (hb hby at_72) kz) ?_
          show own_Fin p e below G (T37.setTop (mkF m 73 #[.val (.long x0), .second, .val (.long x1), .second, .val (.long x2), .second, .val (.long x3), .second, .val (.int p4), .val (.long (f1 x0 x1)), .second, .val (.long (f2 x0 x1)), .second, .val (.long w13_53), .second, .val (.long w15_64), .second, .unset, .unset, .unset, .unset, .unset] [(.int (1 : Int32))]))
          exact own_retN X37 hx hlk hG (t := .boolean) Bd.returns (by simp) (hb hby at_73) (by decide) (by decide) (by rw [e37]; exact ⟨(congrArg (fun z => some (Value.int z)) q69f).symm, N37, trivial⟩)
      by_cases hc57 : (p4 &&& (2 : Int32)) = (0 : Int32)
      · refine own_to (fun _ kz => XS.ifYes X37.here hx rfl (pc0 := 57) (pc' := 64) rfl (hb hby at_57) rfl ((if0 _ _).trans (teq hc57).1) (by decide) (by decide) kz) ?_
        have q57t := q_j53.trans (if_pos hc57)
        show own_Fin p e below G (T37.setTop (mkF m 64 #[.val (.long x0), .second, .val (.long x1), .second, .val (.long x2), .second, .val (.long x3), .second, .val (.int p4), .val (.long (f1 x0 x1)), .second, .val (.long (f2 x0 x1)), .second, .val (.long w13_53), .second, .val (.long (f2 x2 x3)), .second, .unset, .unset, .unset, .unset, .unset] []))
        exact K64 (f2 x2 x3) q57t
      · refine own_to (fun _ kz => XS.ifNo X37.here hx rfl (hb hby at_57) rfl ((if0 _ _).trans (feq hc57).1) kz) ?_
        have q57f := q_j53.trans (if_neg hc57)
        show own_Fin p e below G (T37.setTop (mkF m 60 #[.val (.long x0), .second, .val (.long x1), .second, .val (.long x2), .second, .val (.long x3), .second, .val (.int p4), .val (.long (f1 x0 x1)), .second, .val (.long (f2 x0 x1)), .second, .val (.long w13_53), .second, .val (.long (f2 x2 x3)), .second, .unset, .unset, .unset, .unset, .unset] []))
        refine own_to (fun _ kz => XS.lload X37.here hx rfl (hb hby at_60) rfl  kz) ?_
        show own_Fin p e below G (T37.setTop (mkF m 62 #[.val (.long x0), .second, .val (.long x1), .second, .val (.long x2), .second, .val (.long x3), .second, .val (.int p4), .val (.long (f1 x0 x1)), .second, .val (.long (f2 x0 x1)), .second, .val (.long w13_53), .second, .val (.long (f2 x2 x3)), .second, .unset, .unset, .unset, .unset, .unset] [(.long (f2 x0 x1))]))
        refine own_to (fun _ kz => XS.lstore X37.here hx rfl (hb hby at_62) rfl (l' := #[.val (.long x0), .second, .val (.long x1), .second, .val (.long x2), .second, .val (.long x3), .second, .val (.int p4), .val (.long (f1 x0 x1)), .second, .val (.long (f2 x0 x1)), .second, .val (.long w13_53), .second, .val (.long (f2 x0 x1)), .second, .unset, .unset, .unset, .unset, .unset]) rfl kz) ?_
        show own_Fin p e below G (T37.setTop (mkF m 64 #[.val (.long x0), .second, .val (.long x1), .second, .val (.long x2), .second, .val (.long x3), .second, .val (.int p4), .val (.long (f1 x0 x1)), .second, .val (.long (f2 x0 x1)), .second, .val (.long w13_53), .second, .val (.long (f2 x0 x1)), .second, .unset, .unset, .unset, .unset, .unset] []))
        exact K64 (f2 x0 x1) q57f
    by_cases hc46 : (p4 &&& (1 : Int32)) = (0 : Int32)
    · refine own_to (fun _ kz => XS.ifYes X37.here hx rfl (pc0 := 46) (pc' := 53) rfl (hb hby at_46) rfl ((if0 _ _).trans (teq hc46).1) (by decide) (by decide) kz) ?_
      have q46t := q19t.trans (if_pos hc46)
      show own_Fin p e below G (T37.setTop (mkF m 53 #[.val (.long x0), .second, .val (.long x1), .second, .val (.long x2), .second, .val (.long x3), .second, .val (.int p4), .val (.long (f1 x0 x1)), .second, .val (.long (f2 x0 x1)), .second, .val (.long (f1 x2 x3)), .second, .val (.long (f2 x2 x3)), .second, .unset, .unset, .unset, .unset, .unset] []))
      exact K53 (f1 x2 x3) q46t
    · refine own_to (fun _ kz => XS.ifNo X37.here hx rfl (hb hby at_46) rfl ((if0 _ _).trans (feq hc46).1) kz) ?_
      have q46f := q19t.trans (if_neg hc46)
      show own_Fin p e below G (T37.setTop (mkF m 49 #[.val (.long x0), .second, .val (.long x1), .second, .val (.long x2), .second, .val (.long x3), .second, .val (.int p4), .val (.long (f1 x0 x1)), .second, .val (.long (f2 x0 x1)), .second, .val (.long (f1 x2 x3)), .second, .val (.long (f2 x2 x3)), .second, .unset, .unset, .unset, .unset, .unset] []))
      refine own_to (fun _ kz => XS.lload X37.here hx rfl (hb hby at_49) rfl  kz) ?_
      show own_Fin p e below G (T37.setTop (mkF m 51 #[.val (.long x0), .second, .val (.long x1), .second, .val (.long x2), .second, .val (.long x3), .second, .val (.int p4), .val (.long (f1 x0 x1)), .second, .val (.long (f2 x0 x1)), .second, .val (.long (f1 x2 x3)), .second, .val (.long (f2 x2 x3)), .second, .unset, .unset, .unset, .unset, .unset] [(.long (f1 x0 x1))]))
      refine own_to (fun _ kz => XS.lstore X37.here hx rfl (hb hby at_51) rfl (l' := #[.val (.long x0), .second, .val (.long x1), .second, .val (.long x2), .second, .val (.long x3), .second, .val (.int p4), .val (.long (f1 x0 x1)), .second, .val (.long (f2 x0 x1)), .second, .val (.long (f1 x0 x1)), .second, .val (.long (f2 x2 x3)), .second, .unset, .unset, .unset, .unset, .unset]) rfl kz) ?_
      show own_Fin p e below G (T37.setTop (mkF m 53 #[.val (.long x0), .second, .val (.long x1), .second, .val (.long x2), .second, .val (.long x3), .second, .val (.int p4), .val (.long (f1 x0 x1)), .second, .val (.long (f2 x0 x1)), .second, .val (.long (f1 x0 x1)), .second, .val (.long (f2 x2 x3)), .second, .unset, .unset, .unset, .unset, .unset] []))
      exact K53 (f1 x0 x1) q46f
  · refine own_to (fun _ kz => XS.ifNo X9.here hx rfl (hb hby at_19) rfl ((if0 _ _).trans (flt (fun q => hc19 ((lw_gt _ _).mp q))).2.2.1) kz) ?_
    have q19f := q0.trans (if_neg hc19)
    show own_Fin p e below G (T9.setTop (mkF m 22 #[.val (.long x0), .second, .val (.long x1), .second, .val (.long x2), .second, .val (.long x3), .second, .val (.int p4), .val (.long (f1 x0 x1)), .second, .val (.long (f2 x0 x1)), .second, .unset, .unset, .unset, .unset, .unset, .unset, .unset, .unset, .unset] []))
    refine own_to (fun _ kz => XS.iconst X9.here hx rfl (hb hby at_22) kz) ?_
    show own_Fin p e below G (T9.setTop (mkF m 23 #[.val (.long x0), .second, .val (.long x1), .second, .val (.long x2), .second, .val (.long x3), .second, .val (.int p4), .val (.long (f1 x0 x1)), .second, .val (.long (f2 x0 x1)), .second, .unset, .unset, .unset, .unset, .unset, .unset, .unset, .unset, .unset] [(.int (1 : Int32))]))
    exact own_retN X9 hx hlk hG (t := .boolean) Bd.returns (by simp) (hb hby at_23) (by decide) (by decide) (by rw [e9]; exact ⟨(congrArg (fun z => some (Value.int z)) q19f).symm, N9, trivial⟩)
theorem own_lt {a b : Int64} (h : a.toInt < b.toInt) : f7 a b = -1 := by unfold f7; rw [if_pos (Int64.lt_iff_toInt_lt.mpr h)]
theorem own_gt {a b : Int64} (h : b.toInt < a.toInt) : f7 a b = 1 := by
  unfold f7; rw [if_neg (fun q => by rw [Int64.lt_iff_toInt_lt] at q; omega), if_neg (fun q => by subst q; omega)]
theorem own_eq {a b : Int64} (h : a = b) : f7 a b = 0 := by
  subst h; unfold f7; rw [if_neg (fun q => by rw [Int64.lt_iff_toInt_lt] at q; omega), if_pos rfl]
theorem own_tri (a b : Int64) : (a < b ∧ ¬ b < a ∧ a.toInt < b.toInt) ∨ (a = b) ∨ (¬ a < b ∧ b < a ∧ b.toInt < a.toInt) := by
  simp only [Int64.lt_iff_toInt_lt, ← Int64.toInt_inj]; omega
theorem own_irr (a : Int64) : ¬ a < a := by rw [Int64.lt_iff_toInt_lt]; omega
theorem own_c (s e s' e' : Int64) : f8 (f6 s e s' e') = f9 s e s' e' ∧ f8 (f6 s' e' s e) = -(f9 s e s' e') := by
  rcases own_tri s s' with ⟨h1, h2, h3⟩ | h | ⟨h1, h2, h3⟩
  · rw [f6, f6, own_lt h3, own_gt h3, f9, if_pos h1, if_neg (by decide), if_neg (by decide)]; decide
  · subst h
    rcases own_tri e e' with ⟨g1, g2, g3⟩ | g | ⟨g1, g2, g3⟩
    · rw [f6, f6, own_eq rfl, own_lt g3, own_gt g3, f9, if_neg (own_irr s), if_neg (own_irr s), if_pos g1]; decide
    · subst g
      rw [f6, own_eq rfl, own_eq rfl, f9, if_neg (own_irr s), if_neg (own_irr s), if_neg (own_irr e), if_neg (own_irr e)]; decide
    · rw [f6, f6, own_eq rfl, own_lt g3, own_gt g3, f9, if_neg (own_irr s), if_neg (own_irr s), if_neg g1, if_pos g2]; decide
  · rw [f6, f6, own_lt h3, own_gt h3, f9, if_neg h1, if_pos h2, if_neg (by decide), if_neg (by decide)]; decide
theorem own_64 (a b c d : Int64) (m : Int32) (s e : Int64) : f0_64 a b c d m s e = 1 := by
  simp [f0_64, f0_156, own_c (f1 a b) (f2 a b) s e]
theorem own_plain (a b c d : Int64) (m : Int32) : f0 a b c d m = 1 := by
  simp [f0, f0_53, own_64]
set_option maxRecDepth 65536 in
set_option maxHeartbeats 40000000 in
theorem comes_1 {Post : Tables → Env → Array Value → State → Outcome → State → Prop} (hpost : ∀ tb e args s v u, (limb_1_1.after args s (.returned v) u = true ∧ limb_1_2.after args s (.returned v) u = true ∧ True) → FrameEnd s (.returned v) u (Jvm.fieldLocs frame_1_writes args s ++ Jvm.arrayLocs frame_1_arrays args s ++ Jvm.staticLocs frame_1_statics s) 16 128 → Post tb e args s (.returned v) u) :
    ArmFor flags0 classFile x code maxLocals ret World_1 tables_1 room_1 Calls_1 rest_1 Pre_1 Post := by
  intro l hfl _ _ p e ha hc hk s m args below hf hA hF happ hP
  obtain ⟨hcalls, hrest, hpre⟩ := hP
  obtain ⟨-, -, -, hnamed, -, -, -, hat⟩ := (Spec.applies_iff hf).mp happ
  obtain ⟨hg, hn⟩ := and_e (Cond.before_iff.mp (show (Jvm.Cond.and given_1 narrow_1).before args s = true from hpre))
  obtain ⟨gg1, gg2⟩ := and_e hg
  obtain ⟨gg3, gg4⟩ := and_e gg2
  obtain ⟨gg5, gg6⟩ := and_e gg4
  obtain ⟨gg7, gg8⟩ := and_e gg6
  obtain ⟨gg9, gg10⟩ := and_e gg8
  obtain ⟨w0, w1, w2, w3, w4, rfl⟩ : ∃ w0 w1 w2 w3 w4 : Value, args = #[w0, w1, w2, w3, w4] := by
    have hs : args.size = 5 := by simpa [Cond.value, given_1] using gg1
    obtain ⟨L⟩ := args
    match L, hs with
    | [w0, w1, w2, w3, w4], _ => exact ⟨w0, w1, w2, w3, w4, rfl⟩
  have hw := fun d (hd : d ∈ tables_1) => atoms_spec (ws := Jvm.Cond.code x code maxLocals ret :: tables_1) hat d (List.mem_cons_of_mem _ hd)
  obtain ⟨i0, ei0⟩ := isL_v gg3
  obtain rfl : w0 = (.long i0) := Option.some.inj ei0
  obtain ⟨i1, ei1⟩ := isL_v gg5
  obtain rfl : w1 = (.long i1) := Option.some.inj ei1
  obtain ⟨i2, ei2⟩ := isL_v gg7
  obtain rfl : w2 = (.long i2) := Option.some.inj ei2
  obtain ⟨i3, ei3⟩ := isL_v gg9
  obtain rfl : w3 = (.long i3) := Option.some.inj ei3
  obtain ⟨i4, ei4⟩ := is_v gg10
  obtain rfl : w4 = (.int i4) := Option.some.inj ei4
  obtain ⟨n, o, h1, h2, h3, v, L, rfl, ⟨hv, N, -⟩, hq⟩ := rm0 l s _ hw tables_1 i0 i1 i2 i3 i4 s.heap s.heap.size (Nat.le_refl _) p e ha hc hk s m _ below hf ((Spec.applies_iff_loose hf).mp happ).1 ⟨rfl, State.Warmed39.refl s, rfl⟩ trivial
  obtain rfl : v = some (.int 1) := hv.trans (congrArg (fun z => some (Value.int z)) (own_plain i0 i1 i2 i3 i4))
  refine ⟨n, _, h1, h2, h3, hpost _ _ _ _ _ _ ⟨Cond.after_iff.mpr rfl, Cond.after_iff.mpr (eq_i res_at (Term.int_eval (1)) rfl), trivial⟩ ⟨hq.1, hq.2.1, (hq.2.2.sift fun y hy => Or.inr (N y hy)).mono (by decide) (by decide)⟩⟩
theorem main_1_1 : Claimed_1_1 := comes_1 fun _ _ _ _ _ _ h hF => ⟨h.1, hF⟩
theorem main_1_2 : Claimed_1_2 := comes_1 fun _ _ _ _ _ _ h hF => ⟨h.2.1, hF⟩
end Jvm.Pilot.@@N@@
namespace Jvm.Pilot.@@N@@
open Jvm Jvm.ClassFile Sem Op Lib Jvm.Free Jvm.Stand Jvm.Pilot.@@N@@.Jvm.D
/-! MADE BY PROGRAM (witnessworld.py) out of the Statement's table words and the real class files: 16 classes; the members and pool entries that the words name. The judged class is class 1, her method 3. -/
namespace start1
open Jvm.ClassFile
def u (s : String) : CpInfo := .utf8 (stringToUtf16 s)
/-- a pool by its gaps: so many unusable entries, then the entry; so many at the end -/
def gap : Nat → List CpInfo → List CpInfo
  | 0, r => r
  | n + 1, r => .unusable :: gap n r
def poolList (es : List (Nat × CpInfo)) (last : Nat) : List CpInfo := es.foldr (fun e r => gap e.1 (e.2 :: r)) (gap last [])
def pool (es : List (Nat × CpInfo)) (last : Nat) : Array CpInfo := ⟨poolList es last⟩
def fileOf (pool : Array CpInfo) (this : Nat) (attrs : Array Attribute := #[]) (ms : Array MethodInfo := #[]) (fl : Nat := 33) (sup : Nat := 0) (ifs : Array Nat := #[]) (fds : Array FieldInfo := #[]) : ClassFile where
  minorVersion := 0
  majorVersion := 65
  constantPool := pool
  accessFlags := fl
  thisClass := this
  superClass := sup
  interfaces := ifs
  fields := fds
  methods := ms
  attributes := attrs
def plain (name : String) (sup : Option ClassId) : Class where
  name := name
  kind := .ordinary
  loader := none
  accessFlags := 33
  super := sup
  interfaces := #[]
  cf := none
  fields := #[]
  methods := #[]
  instanceTypes := #[]
  staticTypes := #[]
  resolved := #[]
  callSites := []
  init := .initialized
  statics := none
  mirror := none

def pool0 : Array CpInfo := pool [(5, u "<init>"), (0, u "()V"), (1, .class_ 10), (1, u "java/lang/Object")] 113

def k0c0 : Code := { maxStack := 0, maxLocals := 1, code := object_method_1_code, exceptionTable := #[], attributes := #[] }
def k0m0 : Method := { name := "<init>", desc := "()V", sig := { parameters := [], returnType := none }, accessFlags := 1, code := some k0c0 }
/-- java/lang/Object -/
def k0 : Class := { plain "java/lang/Object" none with
  accessFlags := 33
  interfaces := #[]
  cf := some (fileOf pool0 8 #[] #[{ accessFlags := 1, nameIndex := 5, descriptorIndex := 6, attributes := #[] }] 33 0 #[] #[])
  fields := #[]
  methods := #[k0m0]
  instanceTypes := #[]
  staticTypes := #[]
  resolved := Array.replicate 124 none
  statics := none }

def pool1 : Array CpInfo := pool [(2, .class_ 4), (1, u "java/lang/Object"), (0, u "<init>"), (0, u "()V"), (0, .methodref 8 9), (0, .class_ 10), (0, .nameAndType 11 12), (0, u "java/lang/Math"), (0, u "min"), (0, u "(JJ)J"), (0, .methodref 8 14), (0, .nameAndType 15 12), (0, u "max"), (0, .class_ 17), (0, u "com/example/braidjoin/braidjoin/Interval"), (0, .methodref 16 19), (0, .nameAndType 5 20), (0, u "(JJ)V"), (0, .methodref 16 22), (0, .nameAndType 23 24), (0, u "compareTo"), (0, u "(Lcom/example/braidjoin/braidjoin/Interval;)I"), (0, .methodref 26 27), (0, .class_ 28), (0, .nameAndType 29 30), (0, u "com/example/braidjoin/braidjoin/IntervalCompareToPinLaw"), (0, u "sign"), (0, u "(I)I"), (0, .methodref 26 32), (0, .nameAndType 33 34), (0, u "expected"), (0, u "(JJJJ)I"), (3, u "law"), (0, u "(JJJJI)Z")] 2

def k1m0 : Method := { name := "<init>", desc := "()V", sig := { parameters := [], returnType := none }, accessFlags := 1, code := none }
def k1c1 : Code := { maxStack := 1, maxLocals := 1, code := method_2_code, exceptionTable := #[], attributes := #[] }
def k1m1 : Method := { name := "sign", desc := "(I)I", sig := { parameters := [.int], returnType := some .int }, accessFlags := 10, code := some k1c1 }
def k1c2 : Code := { maxStack := 4, maxLocals := 8, code := method_3_code, exceptionTable := #[], attributes := #[] }
def k1m2 : Method := { name := "expected", desc := "(JJJJ)I", sig := { parameters := [.long, .long, .long, .long], returnType := some .int }, accessFlags := 10, code := some k1c2 }
def k1c3 : Code := { maxStack := 8, maxLocals := 22, code := code, exceptionTable := #[], attributes := #[] }
def k1m3 : Method := { name := "law", desc := "(JJJJI)Z", sig := { parameters := [.long, .long, .long, .long, .int], returnType := some .boolean }, accessFlags := 9, code := some k1c3 }
/-- com/example/braidjoin/braidjoin/IntervalCompareToPinLaw -/
def k1 : Class := { plain "com/example/braidjoin/braidjoin/IntervalCompareToPinLaw" (some 0) with
  accessFlags := 49
  interfaces := #[]
  cf := some (fileOf pool1 26 #[] #[{ accessFlags := 1, nameIndex := 5, descriptorIndex := 6, attributes := #[] }, { accessFlags := 10, nameIndex := 29, descriptorIndex := 30, attributes := #[] }, { accessFlags := 10, nameIndex := 33, descriptorIndex := 34, attributes := #[] }, { accessFlags := 9, nameIndex := 38, descriptorIndex := 39, attributes := #[] }] 49 2 #[] #[])
  fields := #[]
  methods := #[k1m0, k1m1, k1m2, k1m3]
  instanceTypes := #[]
  staticTypes := #[]
  resolved := Array.replicate 42 none
  statics := none }

def pool2 : Array CpInfo := pool [(1, .class_ 2), (0, u "java/lang/Math"), (1, .class_ 6), (1, u "java/lang/Object"), (0, u "<init>"), (0, u "()V"), (89, .class_ 100), (1, u "java/lang/Math$RandomNumberGeneratorHolder"), (20, u "(JJ)J"), (50, u "negativeZeroFloatBits"), (0, u "J"), (2, u "negativeZeroDoubleBits"), (21, u "max"), (2, u "min"), (43, u "$assertionsDisabled"), (0, u "Z"), (91, u "twoToTheDoubleScaleDown"), (0, u "D"), (4, u "twoToTheDoubleScaleUp"), (9, u "E"), (3, u "PI"), (2, u "TAU"), (2, u "DEGREES_TO_RADIANS"), (0, u "RADIANS_TO_DEGREES")] 94

def k2m0 : Method := { name := "<init>", desc := "()V", sig := { parameters := [], returnType := none }, accessFlags := 2, code := none }
def k2c1 : Code := { maxStack := 4, maxLocals := 4, code := jdk_29_method_66_code, exceptionTable := #[], attributes := #[] }
def k2m1 : Method := { name := "max", desc := "(JJ)J", sig := { parameters := [.long, .long], returnType := some .long }, accessFlags := 9, code := some k2c1 }
def k2c2 : Code := { maxStack := 4, maxLocals := 4, code := jdk_29_method_70_code, exceptionTable := #[], attributes := #[] }
def k2m2 : Method := { name := "min", desc := "(JJ)J", sig := { parameters := [.long, .long], returnType := some .long }, accessFlags := 9, code := some k2c2 }
/-- java/lang/Math -/
def k2 : Class := { plain "java/lang/Math" (some 0) with
  accessFlags := 49
  interfaces := #[]
  cf := some (fileOf pool2 1 #[.nestMembers #[98]] #[{ accessFlags := 2, nameIndex := 7, descriptorIndex := 8, attributes := #[] }, { accessFlags := 9, nameIndex := 198, descriptorIndex := 121, attributes := #[] }, { accessFlags := 9, nameIndex := 201, descriptorIndex := 121, attributes := #[] }] 49 4 #[] #[{ accessFlags := 25, nameIndex := 354, descriptorIndex := 339, attributes := #[] }, { accessFlags := 25, nameIndex := 358, descriptorIndex := 339, attributes := #[] }, { accessFlags := 25, nameIndex := 361, descriptorIndex := 339, attributes := #[] }, { accessFlags := 26, nameIndex := 364, descriptorIndex := 339, attributes := #[] }, { accessFlags := 26, nameIndex := 365, descriptorIndex := 339, attributes := #[] }, { accessFlags := 26, nameIndex := 172, descriptorIndex := 173, attributes := #[] }, { accessFlags := 26, nameIndex := 176, descriptorIndex := 173, attributes := #[] }, { accessFlags := 8, nameIndex := 344, descriptorIndex := 339, attributes := #[] }, { accessFlags := 8, nameIndex := 338, descriptorIndex := 339, attributes := #[] }, { accessFlags := 4120, nameIndex := 245, descriptorIndex := 246, attributes := #[] }])
  fields := #[{ name := "E", type := .double, accessFlags := 25, slot := 0, constantValue := 0 }, { name := "PI", type := .double, accessFlags := 25, slot := 1, constantValue := 0 }, { name := "TAU", type := .double, accessFlags := 25, slot := 2, constantValue := 0 }, { name := "DEGREES_TO_RADIANS", type := .double, accessFlags := 26, slot := 3, constantValue := 0 }, { name := "RADIANS_TO_DEGREES", type := .double, accessFlags := 26, slot := 4, constantValue := 0 }, { name := "negativeZeroFloatBits", type := .long, accessFlags := 26, slot := 5, constantValue := 0 }, { name := "negativeZeroDoubleBits", type := .long, accessFlags := 26, slot := 6, constantValue := 0 }, { name := "twoToTheDoubleScaleUp", type := .double, accessFlags := 8, slot := 7, constantValue := 0 }, { name := "twoToTheDoubleScaleDown", type := .double, accessFlags := 8, slot := 8, constantValue := 0 }, { name := "$assertionsDisabled", type := .boolean, accessFlags := 4120, slot := 9, constantValue := 0 }]
  methods := #[k2m0, k2m1, k2m2]
  instanceTypes := #[]
  staticTypes := #[.double, .double, .double, .double, .double, .long, .long, .double, .double, .boolean]
  resolved := Array.replicate 460 none
  statics := none }

def pool3 : Array CpInfo := pool [(1, .methodref 2 3), (0, .class_ 4), (0, .nameAndType 5 6), (0, u "java/lang/Object"), (0, u "<init>"), (0, u "()V"), (0, .class_ 8), (0, u "java/lang/Record")] 13

def k3c0 : Code := { maxStack := 1, maxLocals := 1, code := jdk_30_method_1_code, exceptionTable := #[], attributes := #[] }
def k3m0 : Method := { name := "<init>", desc := "()V", sig := { parameters := [], returnType := none }, accessFlags := 4, code := some k3c0 }
/-- java/lang/Record -/
def k3 : Class := { plain "java/lang/Record" (some 0) with
  accessFlags := 1057
  interfaces := #[]
  cf := some (fileOf pool3 7 #[] #[{ accessFlags := 4, nameIndex := 5, descriptorIndex := 6, attributes := #[] }] 1057 2 #[] #[])
  fields := #[]
  methods := #[k3m0]
  instanceTypes := #[]
  staticTypes := #[]
  resolved := Array.replicate 22 none
  statics := none }

def pool4 : Array CpInfo := pool [(1, .class_ 2), (0, u "java/lang/Comparable"), (0, .class_ 4), (0, u "java/lang/Object")] 7

/-- java/lang/Comparable -/
def k4 : Class := { plain "java/lang/Comparable" (some 0) with
  accessFlags := 1537
  interfaces := #[]
  cf := some (fileOf pool4 1 #[] #[] 1537 3 #[] #[])
  fields := #[]
  methods := #[]
  instanceTypes := #[]
  staticTypes := #[]
  resolved := Array.replicate 12 none
  statics := none }

def pool5 : Array CpInfo := pool [(1, .class_ 2), (0, u "java/lang/Long"), (0, .methodref 4 5), (0, .class_ 6), (0, .nameAndType 7 8), (0, u "java/lang/Record"), (0, u "<init>"), (0, u "()V"), (3, .class_ 14), (1, u "com/example/braidjoin/braidjoin/Interval"), (9, .fieldref 12 25), (0, .nameAndType 26 27), (0, u "start"), (0, u "J"), (0, .fieldref 12 29), (0, .nameAndType 30 27), (0, u "end"), (24, u "(JJ)V"), (0, .methodref 1 57), (0, .nameAndType 58 59), (0, u "compare"), (0, u "(JJ)I"), (4, u "compareTo"), (0, u "(Lcom/example/braidjoin/braidjoin/Interval;)I"), (7, .class_ 74), (0, u "java/lang/Comparable"), (0, u "UNBOUNDED")] 50

def k5c0 : Code := { maxStack := 6, maxLocals := 5, code := prog_4_method_1_code, exceptionTable := #[], attributes := #[] }
def k5m0 : Method := { name := "<init>", desc := "(JJ)V", sig := { parameters := [.long, .long], returnType := none }, accessFlags := 1, code := some k5c0 }
def k5c1 : Code := { maxStack := 4, maxLocals := 3, code := prog_4_method_4_code, exceptionTable := #[], attributes := #[] }
def k5m1 : Method := { name := "compareTo", desc := "(Lcom/example/braidjoin/braidjoin/Interval;)I", sig := { parameters := [(.object "com/example/braidjoin/braidjoin/Interval")], returnType := some .int }, accessFlags := 1, code := some k5c1 }
/-- com/example/braidjoin/braidjoin/Interval -/
def k5 : Class := { plain "com/example/braidjoin/braidjoin/Interval" (some 3) with
  accessFlags := 49
  interfaces := #[4]
  cf := some (fileOf pool5 12 #[] #[{ accessFlags := 1, nameIndex := 7, descriptorIndex := 55, attributes := #[] }, { accessFlags := 1, nameIndex := 64, descriptorIndex := 65, attributes := #[] }] 49 4 #[73] #[{ accessFlags := 18, nameIndex := 26, descriptorIndex := 27, attributes := #[] }, { accessFlags := 18, nameIndex := 30, descriptorIndex := 27, attributes := #[] }, { accessFlags := 25, nameIndex := 75, descriptorIndex := 27, attributes := #[] }])
  fields := #[{ name := "start", type := .long, accessFlags := 18, slot := 0, constantValue := 0 }, { name := "end", type := .long, accessFlags := 18, slot := 1, constantValue := 0 }, { name := "UNBOUNDED", type := .long, accessFlags := 25, slot := 0, constantValue := 0 }]
  methods := #[k5m0, k5m1]
  instanceTypes := #[.long, .long]
  staticTypes := #[.long]
  resolved := Array.replicate 126 none
  statics := none }

def pool6 : Array CpInfo := pool [(1, .class_ 2), (0, u "java/io/Serializable"), (0, .class_ 4), (0, u "java/lang/Object")] 2

/-- java/io/Serializable -/
def k6 : Class := { plain "java/io/Serializable" (some 0) with
  accessFlags := 1537
  interfaces := #[]
  cf := some (fileOf pool6 1 #[] #[] 1537 3 #[] #[])
  fields := #[]
  methods := #[]
  instanceTypes := #[]
  staticTypes := #[]
  resolved := Array.replicate 7 none
  statics := none }

def pool7 : Array CpInfo := pool [(2, .class_ 4), (1, u "java/lang/Object"), (0, u "<init>"), (0, u "()V"), (1, .class_ 10), (1, u "java/lang/Number"), (2, .class_ 14), (0, u "java/io/Serializable"), (0, u "serialVersionUID"), (0, u "J")] 20

def k7m0 : Method := { name := "<init>", desc := "()V", sig := { parameters := [], returnType := none }, accessFlags := 1, code := none }
/-- java/lang/Number -/
def k7 : Class := { plain "java/lang/Number" (some 0) with
  accessFlags := 1057
  interfaces := #[6]
  cf := some (fileOf pool7 8 #[] #[{ accessFlags := 1, nameIndex := 5, descriptorIndex := 6, attributes := #[] }] 1057 2 #[13] #[{ accessFlags := 26, nameIndex := 15, descriptorIndex := 16, attributes := #[] }])
  fields := #[{ name := "serialVersionUID", type := .long, accessFlags := 26, slot := 0, constantValue := 0 }]
  methods := #[k7m0]
  instanceTypes := #[]
  staticTypes := #[.long]
  resolved := Array.replicate 37 none
  statics := none }

def pool8 : Array CpInfo := pool [(1, .class_ 2), (0, u "java/lang/constant/Constable"), (0, .class_ 4), (0, u "java/lang/Object")] 6

/-- java/lang/constant/Constable -/
def k8 : Class := { plain "java/lang/constant/Constable" (some 0) with
  accessFlags := 1537
  interfaces := #[]
  cf := some (fileOf pool8 1 #[] #[] 1537 3 #[] #[])
  fields := #[]
  methods := #[]
  instanceTypes := #[]
  staticTypes := #[]
  resolved := Array.replicate 11 none
  statics := none }

def pool9 : Array CpInfo := pool [(1, .class_ 2), (0, u "java/lang/constant/ConstantDesc"), (0, .class_ 4), (0, u "java/lang/Object")] 32

/-- java/lang/constant/ConstantDesc -/
def k9 : Class := { plain "java/lang/constant/ConstantDesc" (some 0) with
  accessFlags := 1537
  interfaces := #[]
  cf := some (fileOf pool9 1 #[] #[] 1537 3 #[] #[])
  fields := #[]
  methods := #[]
  instanceTypes := #[]
  staticTypes := #[]
  resolved := Array.replicate 37 none
  statics := none }

def pool10 : Array CpInfo := pool [(1, .class_ 2), (0, u "java/lang/Long"), (232, .class_ 237), (1, u "java/lang/Long$LongCache"), (33, .class_ 272), (0, u "java/lang/Number"), (2, u "value"), (0, u "J"), (27, u "compare"), (0, u "(JJ)I"), (55, u "TYPE"), (0, u "Ljava/lang/Class;"), (0, .class_ 364), (0, u "java/lang/Comparable"), (0, .class_ 366), (0, u "java/lang/constant/Constable"), (0, .class_ 368), (0, u "java/lang/constant/ConstantDesc"), (0, u "MIN_VALUE"), (1, u "MAX_VALUE"), (4, u "SIZE"), (0, u "I"), (1, u "BYTES"), (1, u "serialVersionUID")] 142

def k10c0 : Code := { maxStack := 4, maxLocals := 4, code := jdk_35_method_42_code, exceptionTable := #[], attributes := #[] }
def k10m0 : Method := { name := "compare", desc := "(JJ)I", sig := { parameters := [.long, .long], returnType := some .int }, accessFlags := 9, code := some k10c0 }
/-- java/lang/Long -/
def k10 : Class := { plain "java/lang/Long" (some 7) with
  accessFlags := 49
  interfaces := #[4, 8, 9]
  cf := some (fileOf pool10 1 #[.nestMembers #[235]] #[{ accessFlags := 9, nameIndex := 304, descriptorIndex := 305, attributes := #[] }] 49 271 #[363, 365, 367] #[{ accessFlags := 25, nameIndex := 369, descriptorIndex := 276, attributes := #[] }, { accessFlags := 25, nameIndex := 371, descriptorIndex := 276, attributes := #[] }, { accessFlags := 25, nameIndex := 361, descriptorIndex := 362, attributes := #[] }, { accessFlags := 18, nameIndex := 275, descriptorIndex := 276, attributes := #[] }, { accessFlags := 25, nameIndex := 376, descriptorIndex := 377, attributes := #[] }, { accessFlags := 25, nameIndex := 379, descriptorIndex := 377, attributes := #[] }, { accessFlags := 26, nameIndex := 381, descriptorIndex := 276, attributes := #[] }])
  fields := #[{ name := "MIN_VALUE", type := .long, accessFlags := 25, slot := 0, constantValue := 0 }, { name := "MAX_VALUE", type := .long, accessFlags := 25, slot := 1, constantValue := 0 }, { name := "TYPE", type := (.object "java/lang/Class"), accessFlags := 25, slot := 2, constantValue := 0 }, { name := "value", type := .long, accessFlags := 18, slot := 0, constantValue := 0 }, { name := "SIZE", type := .int, accessFlags := 25, slot := 3, constantValue := 0 }, { name := "BYTES", type := .int, accessFlags := 25, slot := 4, constantValue := 0 }, { name := "serialVersionUID", type := .long, accessFlags := 26, slot := 5, constantValue := 0 }]
  methods := #[k10m0]
  instanceTypes := #[.long]
  staticTypes := #[.long, .long, (.object "java/lang/Class"), .int, .int, .long]
  resolved := Array.replicate 524 none
  statics := none }

def pool11 : Array CpInfo := pool [(1, u "java/lang/Cloneable"), (0, .class_ 1), (0, u "java/lang/Object"), (0, .class_ 3)] 3

/-- java/lang/Cloneable -/
def k11 : Class := { plain "java/lang/Cloneable" (some 0) with
  accessFlags := 1537
  interfaces := #[]
  cf := some (fileOf pool11 2 #[] #[] 1537 4 #[] #[])
  fields := #[]
  methods := #[]
  instanceTypes := #[]
  staticTypes := #[]
  resolved := Array.replicate 8 none
  statics := none }

/-- the primitive byte -/
def k12 : Class := { plain "byte" none with kind := .primitive 'B', accessFlags := 0x411 }
/-- [B -/
def k13 : Class := { plain "[B" (some 0) with kind := .array 12 .byte, interfaces := #[11, 6], accessFlags := 1041 }

/-- the primitive int -/
def k14 : Class := { plain "int" none with kind := .primitive 'I', accessFlags := 0x411 }
/-- [I -/
def k15 : Class := { plain "[I" (some 0) with kind := .array 14 .int, interfaces := #[11, 6], accessFlags := 1041 }

def heap : Heap := #[]
def classes : Array Class := #[k0, k1, k2, k3, k4, k5, k6, k7, k8, k9, k10, k11, k12, k13, k14, k15]
def interned : List (Array UInt16 × Addr) := []
def slotsUsed : Nat := 0
def theMethod : MethodId := ⟨1, 3⟩
def args0 : Array Value := #[.long 5, .long 6, .long 7, .long 8, .int 3]
def aboutOver (below : List Frame) : State where
  vm := { classes := classes, interned := interned.toArray }
  heap := heap
  slotsUsed := slotsUsed
  threads := #[{ frames := .invoking theMethod args0 :: below }]
def below0 : List Frame := [.native { method := ⟨0, 0⟩, args := #[] }]
def about1 : State := aboutOver below0
def p0 : Program := .bare "" "" ""
def e0 : Env := launch0.env 0 0 0
theorem w_frames : about1.frames = Frame.invoking theMethod args0 :: below0 := rfl
set_option maxRecDepth 65536 in
theorem w_args : argsFit about1.vm theMethod args0 = true := by decide +kernel
set_option maxRecDepth 65536 in
theorem w_heap : heapFits about1 = true := by decide +kernel
set_option maxRecDepth 65536 in
theorem w_runnable : about1.curStatus? = some .runnable := by decide +kernel
set_option maxRecDepth 65536 in
theorem w_alone : about1.alone = true := by decide +kernel
set_option maxRecDepth 65536 in
theorem w_named : about1.methodNamed? x = some theMethod := by decide +kernel
set_option maxRecDepth 65536 in
theorem w_hears : about1.hears theMethod below0 = true := by decide +kernel
set_option maxRecDepth 65536 in
theorem w_ripe : about1.ripe theMethod args0 below0 = true := by decide +kernel
theorem w_running : about1.status = .running := rfl
set_option maxRecDepth 65536 in
theorem w_room : about1.hasRoom e0.platform room_1 = true :=
  launch0.hasRoom_least _ room_1 (by decide +kernel) (by decide +kernel) (by decide +kernel) (by decide +kernel) (by decide +kernel) (by decide +kernel)
theorem allAtoms_all (ts : List Jvm.Cond) (a : Array Jvm.Value) (st : Jvm.State) : (allAtoms ts).before a st = ts.all (fun c => c.before a st) := by
  induction ts with
  | nil => rfl
  | cons c t ih =>
    show (Jvm.Cond.and c (allAtoms t)).before a st = _
    rw [Jvm.Cond.before_and, ih, List.all_cons]
def words1 : List Jvm.Cond := Jvm.Cond.code x code maxLocals ret :: tables_1
/-- a 'code' word, met by the world's own term for the bytes: nothing is compared byte by byte -/
theorem code_word {y : MethodName} {bytes : ByteArray} {mx : Nat} {rt : Option FieldType} {a : Array Value} {s : State} {m : MethodId} {meth : Method} {c : Code} (h1 : s.methodNamed? y = some m) (h2 : s.vm.method? m = some meth) (h3 : meth.code = some c) (h4 : c.code = bytes)
    (h5 : (c.maxLocals == mx && c.exceptionTable.isEmpty && decide (c.maxStack ≤ mostOperands) && decide (meth.sig.returnType = rt) && !meth.locks && decide (parseMethodDescriptor y.desc = some meth.sig)) = true) : (Jvm.Cond.code y bytes mx rt).before a s = true := by
  simp only [Bool.and_eq_true, beq_iff_eq, Bool.not_eq_true', decide_eq_true_eq] at h5
  obtain ⟨⟨⟨⟨⟨g1, g2⟩, g3⟩, g4⟩, g5⟩, g6⟩ := h5
  simp [Cond.before, Cond.holds, Cond.value, h1, h2, h3, h4, g1, g2, g3, g4, g5, g6]
def isCode : Jvm.Cond → Bool
  | .code _ _ _ _ => true
  | _ => false
theorem all_split {L : List Jvm.Cond} {P : Jvm.Cond → Bool} (h1 : L.all (fun c => isCode c || P c) = true) (h2 : ∀ c ∈ L.filter isCode, P c = true) : L.all P = true := by
  refine List.all_eq_true.mpr fun c hc => ?_
  have h := List.all_eq_true.mp h1 c hc
  rcases Bool.eq_false_or_eq_true (isCode c) with hi | hi
  · exact h2 c (List.mem_filter.mpr ⟨hc, hi⟩)
  · simpa [hi] using h
set_option maxRecDepth 65536 in
theorem w_c0 : (Jvm.Cond.code x code maxLocals ret).before args0 about1 = true := code_word (m := ⟨1, 3⟩) (meth := k1m3) (c := k1c3) (by decide +kernel) rfl rfl rfl (by decide +kernel)
set_option maxRecDepth 65536 in
theorem w_c1 : (Jvm.Cond.code ({ cls := "java/lang/Math", name := "min", desc := "(JJ)J" } : Jvm.MethodName) jdk_29_method_70_code (4 : Nat) (Option.some Jvm.ClassFile.FieldType.long)).before args0 about1 = true := code_word (m := ⟨2, 2⟩) (meth := k2m2) (c := k2c2) (by decide +kernel) rfl rfl rfl (by decide +kernel)
set_option maxRecDepth 65536 in
theorem w_c2 : (Jvm.Cond.code ({ cls := "java/lang/Math", name := "max", desc := "(JJ)J" } : Jvm.MethodName) jdk_29_method_66_code (4 : Nat) (Option.some Jvm.ClassFile.FieldType.long)).before args0 about1 = true := code_word (m := ⟨2, 1⟩) (meth := k2m1) (c := k2c1) (by decide +kernel) rfl rfl rfl (by decide +kernel)
set_option maxRecDepth 65536 in
theorem w_c3 : (Jvm.Cond.code ({ cls := "com/example/braidjoin/braidjoin/Interval", name := "<init>", desc := "(JJ)V" } : Jvm.MethodName) prog_4_method_1_code (5 : Nat) (Option.none : Option Jvm.ClassFile.FieldType)).before args0 about1 = true := code_word (m := ⟨5, 0⟩) (meth := k5m0) (c := k5c0) (by decide +kernel) rfl rfl rfl (by decide +kernel)
set_option maxRecDepth 65536 in
theorem w_c4 : (Jvm.Cond.code ({ cls := "java/lang/Record", name := "<init>", desc := "()V" } : Jvm.MethodName) jdk_30_method_1_code (1 : Nat) (Option.none : Option Jvm.ClassFile.FieldType)).before args0 about1 = true := code_word (m := ⟨3, 0⟩) (meth := k3m0) (c := k3c0) (by decide +kernel) rfl rfl rfl (by decide +kernel)
set_option maxRecDepth 65536 in
theorem w_c5 : (Jvm.Cond.code ({ cls := "java/lang/Object", name := "<init>", desc := "()V" } : Jvm.MethodName) object_method_1_code (1 : Nat) (Option.none : Option Jvm.ClassFile.FieldType)).before args0 about1 = true := code_word (m := ⟨0, 0⟩) (meth := k0m0) (c := k0c0) (by decide +kernel) rfl rfl rfl (by decide +kernel)
set_option maxRecDepth 65536 in
theorem w_c6 : (Jvm.Cond.code ({ cls := "com/example/braidjoin/braidjoin/Interval", name := "compareTo", desc := "(Lcom/example/braidjoin/braidjoin/Interval;)I" } : Jvm.MethodName) prog_4_method_4_code (3 : Nat) (Option.some Jvm.ClassFile.FieldType.int)).before args0 about1 = true := code_word (m := ⟨5, 1⟩) (meth := k5m1) (c := k5c1) (by decide +kernel) rfl rfl rfl (by decide +kernel)
set_option maxRecDepth 65536 in
theorem w_c7 : (Jvm.Cond.code ({ cls := "java/lang/Long", name := "compare", desc := "(JJ)I" } : Jvm.MethodName) jdk_35_method_42_code (4 : Nat) (Option.some Jvm.ClassFile.FieldType.int)).before args0 about1 = true := code_word (m := ⟨10, 0⟩) (meth := k10m0) (c := k10c0) (by decide +kernel) rfl rfl rfl (by decide +kernel)
set_option maxRecDepth 65536 in
theorem w_c8 : (Jvm.Cond.code ({ cls := "com/example/braidjoin/braidjoin/IntervalCompareToPinLaw", name := "sign", desc := "(I)I" } : Jvm.MethodName) method_2_code (1 : Nat) (Option.some Jvm.ClassFile.FieldType.int)).before args0 about1 = true := code_word (m := ⟨1, 1⟩) (meth := k1m1) (c := k1c1) (by decide +kernel) rfl rfl rfl (by decide +kernel)
set_option maxRecDepth 65536 in
theorem w_c9 : (Jvm.Cond.code ({ cls := "com/example/braidjoin/braidjoin/IntervalCompareToPinLaw", name := "expected", desc := "(JJJJ)I" } : Jvm.MethodName) method_3_code (8 : Nat) (Option.some Jvm.ClassFile.FieldType.int)).before args0 about1 = true := code_word (m := ⟨1, 2⟩) (meth := k1m2) (c := k1c2) (by decide +kernel) rfl rfl rfl (by decide +kernel)
def codes1 : List Jvm.Cond := [Jvm.Cond.code x code maxLocals ret, Jvm.Cond.code ({ cls := "java/lang/Math", name := "min", desc := "(JJ)J" } : Jvm.MethodName) jdk_29_method_70_code (4 : Nat) (Option.some Jvm.ClassFile.FieldType.long), Jvm.Cond.code ({ cls := "java/lang/Math", name := "max", desc := "(JJ)J" } : Jvm.MethodName) jdk_29_method_66_code (4 : Nat) (Option.some Jvm.ClassFile.FieldType.long), Jvm.Cond.code ({ cls := "com/example/braidjoin/braidjoin/Interval", name := "<init>", desc := "(JJ)V" } : Jvm.MethodName) prog_4_method_1_code (5 : Nat) (Option.none : Option Jvm.ClassFile.FieldType), Jvm.Cond.code ({ cls := "java/lang/Record", name := "<init>", desc := "()V" } : Jvm.MethodName) jdk_30_method_1_code (1 : Nat) (Option.none : Option Jvm.ClassFile.FieldType), Jvm.Cond.code ({ cls := "java/lang/Object", name := "<init>", desc := "()V" } : Jvm.MethodName) object_method_1_code (1 : Nat) (Option.none : Option Jvm.ClassFile.FieldType), Jvm.Cond.code ({ cls := "com/example/braidjoin/braidjoin/Interval", name := "compareTo", desc := "(Lcom/example/braidjoin/braidjoin/Interval;)I" } : Jvm.MethodName) prog_4_method_4_code (3 : Nat) (Option.some Jvm.ClassFile.FieldType.int), Jvm.Cond.code ({ cls := "java/lang/Long", name := "compare", desc := "(JJ)I" } : Jvm.MethodName) jdk_35_method_42_code (4 : Nat) (Option.some Jvm.ClassFile.FieldType.int), Jvm.Cond.code ({ cls := "com/example/braidjoin/braidjoin/IntervalCompareToPinLaw", name := "sign", desc := "(I)I" } : Jvm.MethodName) method_2_code (1 : Nat) (Option.some Jvm.ClassFile.FieldType.int), Jvm.Cond.code ({ cls := "com/example/braidjoin/braidjoin/IntervalCompareToPinLaw", name := "expected", desc := "(JJJJ)I" } : Jvm.MethodName) method_3_code (8 : Nat) (Option.some Jvm.ClassFile.FieldType.int)]
set_option maxRecDepth 65536 in
theorem codes_eq : words1.filter isCode = codes1 := rfl
theorem w_codes : ∀ c ∈ words1.filter isCode, c.before args0 about1 = true := by
  rw [codes_eq]
  intro c hc
  simp only [codes1, List.mem_cons, List.not_mem_nil, or_false] at hc
  rcases hc with rfl | rfl | rfl | rfl | rfl | rfl | rfl | rfl | rfl | rfl
  · exact w_c0
  · exact w_c1
  · exact w_c2
  · exact w_c3
  · exact w_c4
  · exact w_c5
  · exact w_c6
  · exact w_c7
  · exact w_c8
  · exact w_c9
set_option maxRecDepth 65536 in
theorem w_t1 : (words1.take 24).all (fun c => isCode c || c.before args0 about1) = true := by decide +kernel
set_option maxRecDepth 65536 in
theorem w_t2 : (words1.drop 24).all (fun c => isCode c || c.before args0 about1) = true := by decide +kernel
theorem w_tables : (allAtoms (Jvm.Cond.code x code maxLocals ret :: tables_1)).before args0 about1 = true := by
  rw [allAtoms_all]
  show words1.all (fun c => c.before args0 about1) = true
  refine all_split ?_ w_codes
  rw [← List.take_append_drop 24 words1, List.all_append, w_t1, w_t2]
  rfl
set_option maxRecDepth 65536 in
theorem w_case : (Jvm.Cond.and given_1 narrow_1).before args0 about1 = true := by decide +kernel
theorem w_applies : (headSpec (Jvm.Cond.code x code maxLocals ret :: tables_1) room_1).applies x e0.platform about1 = true :=
  (Spec.applies_iff w_frames).mpr ⟨w_running, w_runnable, w_alone, w_named, w_hears, w_ripe, w_room, w_tables⟩
theorem atStart : AtStart classFile x code maxLocals ret World_1 tables_1 room_1 Calls_1 rest_1 Pre_1 launch0 p0 e0 about1 theMethod args0 below0 :=
  ⟨lists_1, trivial, launch0.admits_env _ _ _, launch0.least_env, fairChoices_fair.cas, fairChoices_fair.clock, w_frames, w_args, w_heap, w_applies, trivial, trivial, w_case⟩
end start1
theorem witness_1 : WitnessClaimed_1 := ⟨start1.p0, start1.e0, start1.about1, start1.theMethod, start1.args0, start1.below0, start1.atStart⟩
end Jvm.Pilot.@@N@@
