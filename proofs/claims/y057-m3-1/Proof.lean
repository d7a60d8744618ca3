import JvmDerived
import JvmDerived.Pilot.@@N@@Statement
import JvmDerived.Pilot.@@N@@Code
set_option linter.unusedVariables false
set_option linter.unusedSimpArgs false

namespace Jvm.Pilot.@@N@@
open Jvm Jvm.ClassFile Sem Op Lib Jvm.Free Jvm.Stand Jvm.LawKit Jvm.RoadKit Bundle Jvm.Pilot.@@N@@.Jvm.D

section OwnKit
variable {p : Program} {l : Launch} {e : Env} {R : Room} {s : State} {m : MethodId} {args : Array Value} {below : List Frame} {meth : Method} {c : Code} {T : State} {locs : List Loc} {cells slots : Nat} {G : Outcome → State → Prop} {Q : Option Value → Heap → List Loc → Prop} {C S : Nat} {Z : State} {h h' : Heap}
/-- from the state t the invocation comes to an end of which G holds -/
def own_Fin (p : Program) (e : Env) (below : List Frame) (G : Outcome → State → Prop) (t : State) : Prop := ∃ s₂ o, Steps p.tables e below t s₂ ∧ s₂.status = .running ∧ Ended s₂ below o ∧ G o s₂
def own_G (s : State) (Q : Option Value → Heap → List Loc → Prop) (C S : Nat) (o : Outcome) (U' : State) : Prop := ∃ v L, o = .returned v ∧ Q v U'.heap L ∧ FrameEnd s o U' L C S
theorem own_to {t u : State} (h : ∀ z, Steps p.tables e below u z → Steps p.tables e below t z) (k : own_Fin p e below G u) : own_Fin p e below G t := by
  obtain ⟨a, b, c, d⟩ := k; exact ⟨a, b, h _ c, d⟩
theorem own_via {t u : State} (h : Steps p.tables e below t u) (k : own_Fin p e below G u) : own_Fin p e below G t := own_to (fun _ kz => h.trans kz) k
theorem own_retW (X : Stand p l e R s m args below meth c T locs cells slots) (hx : p.tables.exec = Jvm.exec) (hlk : meth.locks = false) (hG : G = own_G s Q C S) {f : JFrame} {w : Option Value} (hv : meth.sig.returnType = none → w = none)
    (st : ∀ fs, (∀ (f : JFrame) (acts : List Action), f.method = m → f.locked = none → f.entered = [] → (doReturn e (T.setTop f) acts w).1 = T.setFrames fs) → Steps p.tables e below (T.setTop f) (T.setFrames fs))
    (hc : cells ≤ C) (hs : slots ≤ S) (hQ : Q w T.heap locs) : own_Fin p e below G (T.setTop f) := by
  subst hG
  obtain ⟨fs, hr, hrun, hended, hW, hsame⟩ := X.leave (v := w) hv hlk
  exact ⟨_, _, st fs hr, hrun, hended, _, _, rfl, hQ, ⟨_, rfl⟩, hW, hsame.mono hc hs⟩
theorem own_retI (X : Stand p l e R s m args below meth c T locs cells slots) (hx : p.tables.exec = Jvm.exec) (hlk : meth.locks = false) (hG : G = own_G s Q C S) {pc : Nat} {Ls : Array Slot} {z : Int32} {rest : List Value} (hret : meth.sig.returnType = some .int) (hd : decode c.code pc = .ok (.ireturn, 1))
    (hc : cells ≤ C) (hs : slots ≤ S) (hQ : Q (some (.int z)) T.heap locs) : own_Fin p e below G (T.setTop (mkF m pc Ls (.int z :: rest))) :=
  own_retW X hx hlk hG (w := some (.int z)) (fun h => by rw [hret] at h; cases h) (fun fs hr => retOut X hx hret rfl (Or.inl ⟨rfl, Or.inl rfl, z, rfl⟩) hd hr) hc hs hQ
theorem own_retJ (X : Stand p l e R s m args below meth c T locs cells slots) (hx : p.tables.exec = Jvm.exec) (hlk : meth.locks = false) (hG : G = own_G s Q C S) {pc : Nat} {Ls : Array Slot} {z : Int64} {rest : List Value} (hret : meth.sig.returnType = some .long) (hd : decode c.code pc = .ok (.lreturn, 1))
    (hc : cells ≤ C) (hs : slots ≤ S) (hQ : Q (some (.long z)) T.heap locs) : own_Fin p e below G (T.setTop (mkF m pc Ls (.long z :: rest))) :=
  own_retW X hx hlk hG (w := some (.long z)) (fun h => by rw [hret] at h; cases h) (fun fs hr => retOut X hx hret rfl (Or.inr (Or.inl ⟨rfl, rfl, z, rfl⟩)) hd hr) hc hs hQ
theorem own_retA (X : Stand p l e R s m args below meth c T locs cells slots) (hx : p.tables.exec = Jvm.exec) (hlk : meth.locks = false) (hG : G = own_G s Q C S) {pc : Nat} {Ls : Array Slot} {w : Value} {rest : List Value} {t : FieldType} (hret : meth.sig.returnType = some t) (ht : t.isReference = true) (hw : w.isRef = true) (hd : decode c.code pc = .ok (.areturn, 1))
    (hc : cells ≤ C) (hs : slots ≤ S) (hQ : Q (some w) T.heap locs) : own_Fin p e below G (T.setTop (mkF m pc Ls (w :: rest))) :=
  own_retW X hx hlk hG (w := some w) (fun h => by rw [hret] at h; cases h) (fun fs hr => retOut X hx hret (by rcases ref_cases hw with rfl | ⟨a, rfl⟩ <;> cases t <;> first | rfl | (simp [FieldType.isReference] at ht)) (Or.inr (Or.inr (Or.inr (Or.inr ⟨rfl, ht, hw⟩)))) hd hr) hc hs hQ
theorem own_retN (X : Stand p l e R s m args below meth c T locs cells slots) (hx : p.tables.exec = Jvm.exec) (hlk : meth.locks = false) (hG : G = own_G s Q C S) {pc : Nat} {Ls : Array Slot} {z : Int32} {rest : List Value} {t : FieldType} (hret : meth.sig.returnType = some t) (ht : t = .boolean ∨ t = .byte ∨ t = .char ∨ t = .short) (hd : decode c.code pc = .ok (.ireturn, 1))
    (hc : cells ≤ C) (hs : slots ≤ S) (hQ : Q (some (.int (nar t z))) T.heap locs) : own_Fin p e below G (T.setTop (mkF m pc Ls (.int z :: rest))) :=
  own_retW X hx hlk hG (w := some (.int (nar t z))) (fun h => by rw [hret] at h; cases h) (fun fs hr => retN X hx hret ht hd hr) hc hs hQ
theorem own_retV (X : Stand p l e R s m args below meth c T locs cells slots) (hx : p.tables.exec = Jvm.exec) (hlk : meth.locks = false) (hG : G = own_G s Q C S) {pc : Nat} {Ls : Array Slot} (hret : meth.sig.returnType = none) (hd : decode c.code pc = .ok (.return_, 1))
    (hc : cells ≤ C) (hs : slots ≤ S) (hQ : Q none T.heap locs) : own_Fin p e below G (T.setTop (mkF m pc Ls [])) :=
  own_retW X hx hlk hG (w := none) (fun _ => rfl) (fun fs hr => X.returnOut hx hret hd hr) hc hs hQ
theorem own_lrem {g : JFrame} {target : State} (X : Stand p l e R s m args below meth c T locs cells slots) (hx : p.tables.exec = Jvm.exec) (hg : g.method = m) {x y : Int64} {rest : List Value} (hd : decode c.code g.pc = .ok (.lrem, 1)) (hs : g.stack = .long y :: .long x :: rest) (hy : y ≠ 0)
    (hr : Steps p.tables e below (T.setTop { g with pc := g.pc + 1, stack := .long (x % y) :: rest }) target) : Steps p.tables e below (T.setTop g) target := by
  have q : x - x / y * y = x % y := lrem_mod x y
  exact XS.lrem X.here hx hg hd hs hy (by rw [q]; exact hr)
def own_Pair (a b : Slot) : Prop := (a = .unset ∧ b = .unset) ∨ ∃ x, a = .val (.long x) ∧ b = .second
/-- the array at a has n places; place i holds mk (f i) -/
def own_AV {α : Type} (mk : α → Value) (Z : State) (h : Heap) (a : Addr) (ty : FieldType) (n : Nat) (f : Nat → α) : Prop := n < 2 ^ 31 ∧ ∃ c : Cell, Arr Z h a c ty ∧ c.slots.size = n ∧ ∀ i, i < n → c.slots[i]? = some (mk (f i))
def own_upd {α : Type} (f : Nat → α) (k : Nat) (v : α) : Nat → α := fun i => if i = k then v else f i
section
variable {α : Type} {mk : α → Value} {a b : Addr} {ty : FieldType} {n : Nat} {f f' : Nat → α} {ws : List Addr} {sl : Nat} {v : Value}
theorem own_AV.lt (F : own_AV mk Z h a ty n f) : a < h.size := by obtain ⟨_, c, A, -⟩ := F; exact A.lt
theorem own_AV.ext (F : own_AV mk Z h a ty n f) (E : Ext h h') : own_AV mk Z h' a ty n f := by obtain ⟨q, c, A, r⟩ := F; exact ⟨q, c, A.ext E, r⟩
theorem own_AV.other (F : own_AV mk Z h b ty n f) (W : Wr h h' a sl v) (q : b ≠ a) : own_AV mk Z h' b ty n f := by obtain ⟨q', c, A, r⟩ := F; exact ⟨q', c, A.other W q, r⟩
theorem own_AV.keep (F : own_AV mk Z h a ty n f) (K : Keep h h' ws) (q : a ∉ ws) : own_AV mk Z h' a ty n f := by obtain ⟨q', c, A, r⟩ := F; exact ⟨q', c, ⟨K.2.1 a c A.1 q, A.2⟩, r⟩
theorem own_AV.congr (F : own_AV mk Z h a ty n f) (q : ∀ i, i < n → f i = f' i) : own_AV mk Z h a ty n f' := by obtain ⟨q', c, A, r, s⟩ := F; exact ⟨q', c, A, r, fun i hi => by rw [s i hi, q i hi]⟩
theorem own_AV.new {k : ClassId} {z : Int32} (A : Arr Z h a (newA k ty z) ty) (q : ¬ z < 0) (hn : z.toNatClampNeg = n) (hf : ∀ i : Nat, defaultValue ty = mk (f i)) : own_AV mk Z h a ty n f := by
  refine ⟨hn ▸ (back32 q).2, _, A, (sz_new _ _ _).trans hn, fun i hi => ?_⟩
  rw [← hf i]; simp [newA, hn, hi]
theorem own_in {c : Cell} {j : Int32} {k : Nat} (S : c.slots.size = n) (hj : ¬ j < 0) (hk : j.toNatClampNeg = k) (hlt : k < n) : ¬ (j < 0 ∨ c.slots.size ≤ j.toNatClampNeg) := fun q => q.elim hj fun r => by omega
theorem own_AV.set {c : Cell} {j : Int32} {k : Nat} {w : α} (nn : n < 2 ^ 31) (A : Arr Z h a c ty) (S : c.slots.size = n) (H : ∀ i, i < n → c.slots[i]? = some (mk (f i))) (W : Wr h h' a j.toNatClampNeg (mk w)) (hk : j.toNatClampNeg = k) : own_AV mk Z h' a ty n (own_upd f k w) := by
  subst hk
  refine ⟨nn, _, A.same W, by rw [sz_set]; exact S, fun i hi => ?_⟩
  show (c.setSlot j.toNatClampNeg (mk w)).slots[i]? = some (mk (if i = j.toNatClampNeg then w else f i))
  simp only [Cell.setSlot]
  by_cases q : i = j.toNatClampNeg
  · subst q; rw [if_pos rfl]; simp [S, hi]
  · rw [if_neg q, Array.getElem?_setIfInBounds_ne (fun r => q r.symm)]; exact H i hi
theorem own_iaload (X : Stand p l e R s m args below meth c T locs cells slots) (hx : p.tables.exec = Jvm.exec) (hZ : Z.Warmed39 s.vm) (eT : T.heap = h) {f : Nat → Int32} (F : own_AV Value.int Z h a .int n f) {j : Int32} {k : Nat} (hj : ¬ j < 0) (hk : j.toNatClampNeg = k) (hlt : k < n)
    {g : JFrame} (hg : g.method = m) {rest : List Value} (hs : g.stack = .int j :: .ref a :: rest) (hd : decode c.code g.pc = .ok (.iaload, 1)) {target : State} (hr : Steps p.tables e below (T.setTop { g with pc := g.pc + 1, stack := .int (f k) :: rest }) target) : Steps p.tables e below (T.setTop g) target := by
  obtain ⟨_, cl, A, S, H⟩ := F
  exact X.iaload hx (j := j) (v := .int (f k)) (by rw [eT]; exact A.1) (State.isArrayOf_alike hZ.alike A.2.1) A.2.2 (own_in S hj hk hlt) (by rw [hk]; exact H k hlt) hg hs hd _ hr
theorem own_laload (X : Stand p l e R s m args below meth c T locs cells slots) (hx : p.tables.exec = Jvm.exec) (hZ : Z.Warmed39 s.vm) (eT : T.heap = h) {f : Nat → Int64} (F : own_AV Value.long Z h a .long n f) {j : Int32} {k : Nat} (hj : ¬ j < 0) (hk : j.toNatClampNeg = k) (hlt : k < n)
    {g : JFrame} (hg : g.method = m) {rest : List Value} (hs : g.stack = .int j :: .ref a :: rest) (hd : decode c.code g.pc = .ok (.laload, 1)) {target : State} (hr : Steps p.tables e below (T.setTop { g with pc := g.pc + 1, stack := .long (f k) :: rest }) target) : Steps p.tables e below (T.setTop g) target := by
  obtain ⟨_, cl, A, S, H⟩ := F
  exact X.laload hx (j := j) (v := .long (f k)) (by rw [eT]; exact A.1) (State.isArrayOf_alike hZ.alike A.2.1) A.2.2 (own_in S hj hk hlt) (by rw [hk]; exact H k hlt) hg hs hd _ hr
theorem own_baload (X : Stand p l e R s m args below meth c T locs cells slots) (hx : p.tables.exec = Jvm.exec) (hZ : Z.Warmed39 s.vm) (eT : T.heap = h) {f : Nat → Int32} (F : own_AV Value.int Z h a .byte n f) {j : Int32} {k : Nat} (hj : ¬ j < 0) (hk : j.toNatClampNeg = k) (hlt : k < n)
    {g : JFrame} (hg : g.method = m) {rest : List Value} (hs : g.stack = .int j :: .ref a :: rest) (hd : decode c.code g.pc = .ok (.baload, 1)) {target : State} (hr : Steps p.tables e below (T.setTop { g with pc := g.pc + 1, stack := .int (f k) :: rest }) target) : Steps p.tables e below (T.setTop g) target := by
  obtain ⟨_, cl, A, S, H⟩ := F
  exact X.baloadBytes hx (j := j) (v := .int (f k)) (by rw [eT]; exact A.1) (State.isArrayOf_alike hZ.alike A.2.1) A.2.2 (own_in S hj hk hlt) (by rw [hk]; exact H k hlt) hg hs hd _ hr
theorem own_cloneI (X : Stand p l e R s m args below meth c T locs cells slots) (hx : p.tables.exec = Jvm.exec) (hZ : Z.Warmed39 s.vm) {a0 : Array Value} {own ad : String} {index : Nat} (hown : s.vm.findClass own = some m.cls)
    (w1 : (Cond.methodLink own index ⟨ad, "clone", "()Ljava/lang/Object;"⟩).before a0 Z = true) (w2 : (Cond.sameMethod ad "java/lang/Object" "clone" "()Ljava/lang/Object;").before a0 Z = true) (w3 : (Cond.native ⟨"java/lang/Object", "clone", "()Ljava/lang/Object;"⟩).before a0 Z = true)
    (w4 : (Cond.instanceMethod ⟨"java/lang/Object", "clone", "()Ljava/lang/Object;"⟩).before a0 Z = true) (w5 : (Cond.selects ad ⟨ad, "clone", "()Ljava/lang/Object;"⟩ ⟨"java/lang/Object", "clone", "()Ljava/lang/Object;"⟩).before a0 Z = true) (w6 : (Cond.castable ad "java/lang/Cloneable").before a0 Z = true)
    (eT : T.heap = h) {f : Nat → Int32} (F : own_AV Value.int Z h a .int n f) (E : Exa Z h a ad) {g : JFrame} (hg : g.method = m) (hsize : g.locals.size = c.maxLocals) {rest : List Value} (hs : g.stack = .ref a :: rest) (hd : decode c.code g.pc = .ok (.invokevirtual index, 3))
    (hf : 1 ≤ R.frames) {W cap : Nat} (hW : 2 * g.monitorRoom + (rest.map fun v => v.category).sum ≤ W) (hl : W + 14 ≤ R.locals) (hcap : n ≤ cap) (hc : cells + 1 ≤ R.cells) (hsl : slots + cap ≤ R.slots) :
    ∃ T' h', Stand p l e R s m args below meth c T' locs (cells + 1) (slots + cap) ∧ T'.heap = h' ∧ Ext h h' ∧ own_AV Value.int Z h' h.size .int n f ∧ Exa Z h' h.size ad ∧
      ∀ target, Steps p.tables e below (T'.setTop { g with pc := g.pc + 3, stack := .ref h.size :: rest }) target → Steps p.tables e below (T.setTop g) target := by
  obtain ⟨nn, cl, A, S, H⟩ := F
  have FC : FitC Z cl := fitC_of A fun i hi v hv => by rw [H i (S ▸ hi)] at hv; cases hv; rfl
  obtain ⟨T', h', X', e', ex, A', E', st⟩ := cloneA X hx hZ hown w1 w2 w3 w4 w5 w6 eT A E FC hg hsize hs hd hf hW hl (by rw [S]; exact hcap) hc hsl
  exact ⟨T', h', X', e', ex, ⟨nn, cloneOf cl, A', S, H⟩, E', st⟩
theorem own_alen (X : Stand p l e R s m args below meth c T locs cells slots) (hx : p.tables.exec = Jvm.exec) (hZ : Z.Warmed39 s.vm) (eT : T.heap = h) (F : own_AV mk Z h a ty n f) {z : Int32} (hz : n.toInt32 = z)
    {g : JFrame} (hg : g.method = m) {rest : List Value} (hs : g.stack = .ref a :: rest) (hd : decode c.code g.pc = .ok (.arraylength, 1)) {target : State} (hr : Steps p.tables e below (T.setTop { g with pc := g.pc + 1, stack := .int z :: rest }) target) : Steps p.tables e below (T.setTop g) target := by
  obtain ⟨_, cl, A, S, H⟩ := F
  exact X.arraylength hx (by rw [eT]; exact A.1) (State.isArrayOf_alike hZ.alike A.2.1) hg hs hd _ (by rw [S, hz]; exact hr)
end
end OwnKit
theorem d1_0 : decode jdk_29_method_70_code 0 = .ok (.lload_n 0, 1) := by decide +kernel
theorem d1_1 : decode jdk_29_method_70_code 1 = .ok (.lload_n 2, 1) := by decide +kernel
theorem d1_2 : decode jdk_29_method_70_code 2 = .ok (.lcmp, 1) := by decide +kernel
theorem d1_3 : decode jdk_29_method_70_code 3 = .ok (.ifCond .gt 7, 3) := by decide +kernel
theorem d1_6 : decode jdk_29_method_70_code 6 = .ok (.lload_n 0, 1) := by decide +kernel
theorem d1_7 : decode jdk_29_method_70_code 7 = .ok (.goto 4, 3) := by decide +kernel
theorem d1_10 : decode jdk_29_method_70_code 10 = .ok (.lload_n 2, 1) := by decide +kernel
theorem d1_11 : decode jdk_29_method_70_code 11 = .ok (.lreturn, 1) := by decide +kernel
theorem ef1 (m : MethodId) (x0 : Int64) (x1 : Int64) : entryFrame m #[(.long x0), (.long x1)] 4 = mkF m 0 #[.val (.long x0), .second, .val (.long x1), .second] [] := by first | (simp [entryFrame, mkF, argsToLocals, Value.category]; done) | rfl
def f1 (x0 : Int64) (x1 : Int64) : Int64 := if x1 < x0 then x1 else x0
def Q1 (Z : State) (x0 : Int64) (x1 : Int64) (h0 : Heap) (n0 : Nat) (v : Option Value) (h : Heap) (L : List Loc) : Prop := v = some (.long (f1 x0 x1)) ∧ Fr n0 L ∧ h = h0
set_option maxRecDepth 65536 in
set_option maxHeartbeats 40000000 in
theorem rm1 (l : Launch) (Z : State) (a0 : Array Value) (hw : ∀ d ∈ tables_1, d.before a0 Z = true) (ws : List Jvm.Cond) (x0 : Int64) (x1 : Int64) (h0 : Heap) (n0 : Nat) (Z0 : n0 ≤ h0.size) :
    MetFree l (⟨"java/lang/Math", "min", "(JJ)J"⟩ : MethodName) (head1 (Jvm.Cond.code (⟨"java/lang/Math", "min", "(JJ)J"⟩ : MethodName) jdk_29_method_70_code 4 (some .long) :: ws) ({ frames := 0, cells := 0, slots := 0, locals := 0 } : Room)) (fun a U => a = #[(.long x0), (.long x1)] ∧ Z.Warmed39 U.vm ∧ U.heap = h0) (fun _ _ _ _ _ => True) (fun _ U o U' => ∃ v L, o = .returned v ∧ Q1 Z x0 x1 h0 n0 v U'.heap L ∧ FrameEnd U o U' L ({ frames := 0, cells := 0, slots := 0, locals := 0 } : Room).cells ({ frames := 0, cells := 0, slots := 0, locals := 0 } : Room).slots) := by
  refine MetFree.of_bodySF (Jvm.Free.JP.mathPlain rfl (by decide +kernel)) hisR ?_
  intro p e s m args below meth c s₁ Bd hml0 hP hK
  obtain ⟨rfl, hZ, hh⟩ := hP
  have hx := Bd.exec
  have hby := Bd.bytes
  have hml : c.maxLocals = 4 := hml0
  have hown : s.vm.findClass "java/lang/Math" = some m.cls := findClass_of_methodNamed Bd.named
  have hnm := (name_of_methodNamed Bd.named Bd.method).1
  have hlk : meth.locks = false := BodyLoose.notSynchronized Bd
  have X0 : Stand p l e ({ frames := 0, cells := 0, slots := 0, locals := 0 } : Room) s m #[(.long x0), (.long x1)] below meth c s₁ [] 0 0 := Stand.of_body Bd
  have e0 : s₁.heap = h0 := by rw [← hh, Bd.state]; rfl
  have N0 := Fr.nil n0
  obtain ⟨G, hG⟩ : ∃ G, G = own_G s (Q1 Z x0 x1 h0 n0) ({ frames := 0, cells := 0, slots := 0, locals := 0 } : Room).cells ({ frames := 0, cells := 0, slots := 0, locals := 0 } : Room).slots := ⟨_, rfl⟩
  show own_Fin p e below (own_G s (Q1 Z x0 x1 h0 n0) ({ frames := 0, cells := 0, slots := 0, locals := 0 } : Room).cells ({ frames := 0, cells := 0, slots := 0, locals := 0 } : Room).slots) (s₁.setTop (entryFrame m #[(.long x0), (.long x1)] 4))
  rw [← hG]
  refine own_to (fun _ kz => castTop (ef1 m x0 x1) kz) ?_
  have q0 : (f1 x0 x1) = (f1 x0 x1) := rfl
  show own_Fin p e below G (s₁.setTop (mkF m 0 #[.val (.long x0), .second, .val (.long x1), .second] []))
  refine own_to (fun _ kz => XS.lloadN X0.here hx rfl (hb hby d1_0) rfl  kz) ?_
  show own_Fin p e below G (s₁.setTop (mkF m 1 #[.val (.long x0), .second, .val (.long x1), .second] [(.long x0)]))
  refine own_to (fun _ kz => XS.lloadN X0.here hx rfl (hb hby d1_1) rfl  kz) ?_
  show own_Fin p e below G (s₁.setTop (mkF m 2 #[.val (.long x0), .second, .val (.long x1), .second] [(.long x1), (.long x0)]))
  refine own_to (fun _ kz => XS.lcmp X0.here hx rfl (hb hby d1_2) rfl kz) ?_
  show own_Fin p e below G (s₁.setTop (mkF m 3 #[.val (.long x0), .second, .val (.long x1), .second] [(.int (lcmpW x0 x1))]))
  by_cases hc3 : x1 < x0
  · refine own_to (fun _ kz => XS.ifYes X0.here hx rfl (pc0 := 3) (pc' := 10) rfl (hb hby d1_3) rfl ((if0 _ _).trans (tlt ((lw_gt _ _).mpr hc3)).2.2.1) (by decide) (by decide) kz) ?_
    have q3t := q0.trans (if_pos hc3)
    show own_Fin p e below G (s₁.setTop (mkF m 10 #[.val (.long x0), .second, .val (.long x1), .second] []))
    refine own_to (fun _ kz => XS.lloadN X0.here hx rfl (hb hby d1_10) rfl  kz) ?_
    show own_Fin p e below G (s₁.setTop (mkF m 11 #[.val (.long x0), .second, .val (.long x1), .second] [(.long x1)]))
    exact own_retJ X0 hx hlk hG Bd.returns (hb hby d1_11) (by decide) (by decide) ⟨(congrArg (fun z => some (Value.long z)) q3t).symm, N0, e0⟩
  · refine own_to (fun _ kz => XS.ifNo X0.here hx rfl (hb hby d1_3) rfl ((if0 _ _).trans (flt (fun q => hc3 ((lw_gt _ _).mp q))).2.2.1) kz) ?_
    have q3f := q0.trans (if_neg hc3)
    show own_Fin p e below G (s₁.setTop (mkF m 6 #[.val (.long x0), .second, .val (.long x1), .second] []))
    refine own_to (fun _ kz => XS.lloadN X0.here hx rfl (hb hby d1_6) rfl  kz) ?_
    show own_Fin p e below G (s₁.setTop (mkF m 7 #[.val (.long x0), .second, .val (.long x1), .second] [(.long x0)]))
    refine own_to (fun _ kz => XS.goto X0.here hx rfl (pc0 := 7) (pc' := 11) rfl (hb hby d1_7) (by decide) (by decide) kz) ?_
    show own_Fin p e below G (s₁.setTop (mkF m 11 #[.val (.long x0), .second, .val (.long x1), .second] [(.long x0)]))
    exact own_retJ X0 hx hlk hG Bd.returns (hb hby d1_11) (by decide) (by decide) ⟨(congrArg (fun z => some (Value.long z)) q3f).symm, N0, e0⟩
theorem d2_0 : decode jdk_29_method_66_code 0 = .ok (.lload_n 0, 1) := by decide +kernel
theorem d2_1 : decode jdk_29_method_66_code 1 = .ok (.lload_n 2, 1) := by decide +kernel
theorem d2_2 : decode jdk_29_method_66_code 2 = .ok (.lcmp, 1) := by decide +kernel
theorem d2_3 : decode jdk_29_method_66_code 3 = .ok (.ifCond .lt 7, 3) := by decide +kernel
theorem d2_6 : decode jdk_29_method_66_code 6 = .ok (.lload_n 0, 1) := by decide +kernel
theorem d2_7 : decode jdk_29_method_66_code 7 = .ok (.goto 4, 3) := by decide +kernel
theorem d2_10 : decode jdk_29_method_66_code 10 = .ok (.lload_n 2, 1) := by decide +kernel
theorem d2_11 : decode jdk_29_method_66_code 11 = .ok (.lreturn, 1) := by decide +kernel
theorem ef2 (m : MethodId) (x0 : Int64) (x1 : Int64) : entryFrame m #[(.long x0), (.long x1)] 4 = mkF m 0 #[.val (.long x0), .second, .val (.long x1), .second] [] := by first | (simp [entryFrame, mkF, argsToLocals, Value.category]; done) | rfl
def f2 (x0 : Int64) (x1 : Int64) : Int64 := if x0 < x1 then x1 else x0
def Q2 (Z : State) (x0 : Int64) (x1 : Int64) (h0 : Heap) (n0 : Nat) (v : Option Value) (h : Heap) (L : List Loc) : Prop := v = some (.long (f2 x0 x1)) ∧ Fr n0 L ∧ h = h0
set_option maxRecDepth 65536 in
set_option maxHeartbeats 40000000 in
theorem rm2 (l : Launch) (Z : State) (a0 : Array Value) (hw : ∀ d ∈ tables_1, d.before a0 Z = true) (ws : List Jvm.Cond) (x0 : Int64) (x1 : Int64) (h0 : Heap) (n0 : Nat) (Z0 : n0 ≤ h0.size) :
    MetFree l (⟨"java/lang/Math", "max", "(JJ)J"⟩ : MethodName) (head1 (Jvm.Cond.code (⟨"java/lang/Math", "max", "(JJ)J"⟩ : MethodName) jdk_29_method_66_code 4 (some .long) :: ws) ({ frames := 0, cells := 0, slots := 0, locals := 0 } : Room)) (fun a U => a = #[(.long x0), (.long x1)] ∧ Z.Warmed39 U.vm ∧ U.heap = h0) (fun _ _ _ _ _ => True) (fun _ U o U' => ∃ v L, o = .returned v ∧ Q2 Z x0 x1 h0 n0 v U'.heap L ∧ FrameEnd U o U' L ({ frames := 0, cells := 0, slots := 0, locals := 0 } : Room).cells ({ frames := 0, cells := 0, slots := 0, locals := 0 } : Room).slots) := by
  refine MetFree.of_bodySF (Jvm.Free.JP.mathPlain rfl (by decide +kernel)) hisR ?_
  intro p e s m args below meth c s₁ Bd hml0 hP hK
  obtain ⟨rfl, hZ, hh⟩ := hP
  have hx := Bd.exec
  have hby := Bd.bytes
  have hml : c.maxLocals = 4 := hml0
  have hown : s.vm.findClass "java/lang/Math" = some m.cls := findClass_of_methodNamed Bd.named
  have hnm := (name_of_methodNamed Bd.named Bd.method).1
  have hlk : meth.locks = false := BodyLoose.notSynchronized Bd
  have X0 : Stand p l e ({ frames := 0, cells := 0, slots := 0, locals := 0 } : Room) s m #[(.long x0), (.long x1)] below meth c s₁ [] 0 0 := Stand.of_body Bd
  have e0 : s₁.heap = h0 := by rw [← hh, Bd.state]; rfl
  have N0 := Fr.nil n0
  obtain ⟨G, hG⟩ : ∃ G, G = own_G s (Q2 Z x0 x1 h0 n0) ({ frames := 0, cells := 0, slots := 0, locals := 0 } : Room).cells ({ frames := 0, cells := 0, slots := 0, locals := 0 } : Room).slots := ⟨_, rfl⟩
  show own_Fin p e below (own_G s (Q2 Z x0 x1 h0 n0) ({ frames := 0, cells := 0, slots := 0, locals := 0 } : Room).cells ({ frames := 0, cells := 0, slots := 0, locals := 0 } : Room).slots) (s₁.setTop (entryFrame m #[(.long x0), (.long x1)] 4))
  rw [← hG]
  refine own_to (fun _ kz => castTop (ef2 m x0 x1) kz) ?_
  have q0 : (f2 x0 x1) = (f2 x0 x1) := rfl
  show own_Fin p e below G (s₁.setTop (mkF m 0 #[.val (.long x0), .second, .val (.long x1), .second] []))
  refine own_to (fun _ kz => XS.lloadN X0.here hx rfl (hb hby d2_0) rfl  kz) ?_
  show own_Fin p e below G (s₁.setTop (mkF m 1 #[.val (.long x0), .second, .val (.long x1), .second] [(.long x0)]))
  refine own_to (fun _ kz => XS.lloadN X0.here hx rfl (hb hby d2_1) rfl  kz) ?_
  show own_Fin p e below G (s₁.setTop (mkF m 2 #[.val (.long x0), .second, .val (.long x1), .second] [(.long x1), (.long x0)]))
  refine own_to (fun _ kz => XS.lcmp X0.here hx rfl (hb hby d2_2) rfl kz) ?_
  show own_Fin p e below G (s₁.setTop (mkF m 3 #[.val (.long x0), .second, .val (.long x1), .second] [(.int (lcmpW x0 x1))]))
  by_cases hc3 : x0 < x1
  · refine own_to (fun _ kz => XS.ifYes X0.here hx rfl (pc0 := 3) (pc' := 10) rfl (hb hby d2_3) rfl ((if0 _ _).trans (tlt ((lw_lt _ _).mpr hc3)).1) (by decide) (by decide) kz) ?_
    have q3t := q0.trans (if_pos hc3)
    show own_Fin p e below G (s₁.setTop (mkF m 10 #[.val (.long x0), .second, .val (.long x1), .second] []))
    refine own_to (fun _ kz => XS.lloadN X0.here hx rfl (hb hby d2_10) rfl  kz) ?_
    show own_Fin p e below G (s₁.setTop (mkF m 11 #[.val (.long x0), .second, .val (.long x1), .second] [(.long x1)]))
    exact own_retJ X0 hx hlk hG Bd.returns (hb hby d2_11) (by decide) (by decide) ⟨(congrArg (fun z => some (Value.long z)) q3t).symm, N0, e0⟩
  · refine own_to (fun _ kz => XS.ifNo X0.here hx rfl (hb hby d2_3) rfl ((if0 _ _).trans (flt (fun q => hc3 ((lw_lt _ _).mp q))).1) kz) ?_
    have q3f := q0.trans (if_neg hc3)
    show own_Fin p e below G (s₁.setTop (mkF m 6 #[.val (.long x0), .second, .val (.long x1), .second] []))
    refine own_to (fun _ kz => XS.lloadN X0.here hx rfl (hb hby d2_6) rfl  kz) ?_
    show own_Fin p e below G (s₁.setTop (mkF m 7 #[.val (.long x0), .second, .val (.long x1), .second] [(.long x0)]))
    refine own_to (fun _ kz => XS.goto X0.here hx rfl (pc0 := 7) (pc' := 11) rfl (hb hby d2_7) (by decide) (by decide) kz) ?_
    show own_Fin p e below G (s₁.setTop (mkF m 11 #[.val (.long x0), .second, .val (.long x1), .second] [(.long x0)]))
    exact own_retJ X0 hx hlk hG Bd.returns (hb hby d2_11) (by decide) (by decide) ⟨(congrArg (fun z => some (Value.long z)) q3f).symm, N0, e0⟩
theorem own_pn0 : plainName "java/lang/Record" = true := by first | (simp [plainName, overriddenIn]; done) | decide +kernel
theorem d4_0 : decode jdk_30_method_1_code 0 = .ok (.aload_n 0, 1) := by decide +kernel
theorem d4_1 : decode jdk_30_method_1_code 1 = .ok (.invokespecial 1, 3) := by decide +kernel
theorem d4_4 : decode jdk_30_method_1_code 4 = .ok (.return_, 1) := by decide +kernel
theorem ef4 (m : MethodId) (ad0 : Addr) : entryFrame m #[(.ref ad0)] 1 = mkF m 0 #[.val (.ref ad0)] [] := by first | (simp [entryFrame, mkF, argsToLocals, Value.category]; done) | rfl
def Q4 (Z : State) (ad0 : Addr) (h0 : Heap) (n0 : Nat) (v : Option Value) (h : Heap) (L : List Loc) : Prop := v = none ∧ Fr n0 L ∧ h = h0
set_option maxRecDepth 65536 in
set_option maxHeartbeats 40000000 in
theorem rm4 (l : Launch) (Z : State) (a0 : Array Value) (hw : ∀ d ∈ tables_1, d.before a0 Z = true) (ws : List Jvm.Cond) (ad0 : Addr) (h0 : Heap) (n0 : Nat) (Z0 : n0 ≤ h0.size) :
    MetFree l (⟨"java/lang/Record", "<init>", "()V"⟩ : MethodName) (head1 (Jvm.Cond.code (⟨"java/lang/Record", "<init>", "()V"⟩ : MethodName) jdk_30_method_1_code 1 none :: ws) ({ frames := 1, cells := 0, slots := 0, locals := 12 } : Room)) (fun a U => a = #[(.ref ad0)] ∧ Z.Warmed39 U.vm ∧ U.heap = h0) (fun _ _ _ _ _ => True) (fun _ U o U' => ∃ v L, o = .returned v ∧ Q4 Z ad0 h0 n0 v U'.heap L ∧ FrameEnd U o U' L ({ frames := 1, cells := 0, slots := 0, locals := 12 } : Room).cells ({ frames := 1, cells := 0, slots := 0, locals := 12 } : Room).slots) := by
  refine MetFree.of_bodySF (plainFor_of_name own_pn0) hisR ?_
  intro p e s m args below meth c s₁ Bd hml0 hP hK
  obtain ⟨rfl, hZ, hh⟩ := hP
  have hx := Bd.exec
  have hby := Bd.bytes
  have hml : c.maxLocals = 1 := hml0
  have hown : s.vm.findClass "java/lang/Record" = some m.cls := findClass_of_methodNamed Bd.named
  have hnm := (name_of_methodNamed Bd.named Bd.method).1
  have hlk : meth.locks = false := BodyLoose.notSynchronized Bd
  have X0 : Stand p l e ({ frames := 1, cells := 0, slots := 0, locals := 12 } : Room) s m #[(.ref ad0)] below meth c s₁ [] 0 0 := Stand.of_body Bd
  have e0 : s₁.heap = h0 := by rw [← hh, Bd.state]; rfl
  have N0 := Fr.nil n0
  obtain ⟨G, hG⟩ : ∃ G, G = own_G s (Q4 Z ad0 h0 n0) ({ frames := 1, cells := 0, slots := 0, locals := 12 } : Room).cells ({ frames := 1, cells := 0, slots := 0, locals := 12 } : Room).slots := ⟨_, rfl⟩
  show own_Fin p e below (own_G s (Q4 Z ad0 h0 n0) ({ frames := 1, cells := 0, slots := 0, locals := 12 } : Room).cells ({ frames := 1, cells := 0, slots := 0, locals := 12 } : Room).slots) (s₁.setTop (entryFrame m #[(.ref ad0)] 1))
  rw [← hG]
  refine own_to (fun _ kz => castTop (ef4 m ad0) kz) ?_
  show own_Fin p e below G (s₁.setTop (mkF m 0 #[.val (.ref ad0)] []))
  refine own_to (fun _ kz => XS.aloadN X0.here hx rfl (hb hby d4_0) rfl (rfl)  kz) ?_
  show own_Fin p e below G (s₁.setTop (mkF m 1 #[.val (.ref ad0)] [(.ref ad0)]))
  obtain ⟨T1, X1, e1, st1⟩ := initO X0 hx hZ hown (hw _ (List.mem_of_getElem? (i := 19) rfl)) (hw _ (List.mem_of_getElem? (i := 20) rfl)) (hw _ (List.mem_of_getElem? (i := 21) rfl)) e0 (g := (mkF m 1 #[.val (.ref ad0)] [(.ref ad0)])) rfl (by rw [hml]; rfl) rfl (hb hby d4_1) (by decide) (W := 0) (by show 2 * 0 + _ ≤ _; exact Nat.le_of_eq rfl) (by decide)
  refine own_to st1 ?_
  show own_Fin p e below G (T1.setTop (mkF m 4 #[.val (.ref ad0)] []))
  exact own_retV X1 hx hlk hG Bd.returns (hb hby d4_4) (by decide) (by decide) ⟨rfl, N0, e1⟩
theorem own_pd0 : parseMethodDescriptor "()V" = some ⟨[], none⟩ := by decide +kernel
theorem own_pn1 : plainName "com/example/braidjoin/braidjoin/cli/ValidityRule$Explicit" = true := by first | (simp [plainName, overriddenIn]; done) | decide +kernel
theorem d3_0 : decode prog_27_method_1_code 0 = .ok (.aload_n 0, 1) := by decide +kernel
theorem d3_1 : decode prog_27_method_1_code 1 = .ok (.invokespecial 1, 3) := by decide +kernel
theorem d3_4 : decode prog_27_method_1_code 4 = .ok (.return_, 1) := by decide +kernel
theorem ef3 (m : MethodId) (ad0 : Addr) : entryFrame m #[(.ref ad0)] 1 = mkF m 0 #[.val (.ref ad0)] [] := by first | (simp [entryFrame, mkF, argsToLocals, Value.category]; done) | rfl
def Q3 (Z : State) (ad0 : Addr) (h0 : Heap) (n0 : Nat) (v : Option Value) (h : Heap) (L : List Loc) : Prop := v = none ∧ Fr n0 L ∧ h = h0
set_option maxRecDepth 65536 in
set_option maxHeartbeats 40000000 in
theorem rm3 (l : Launch) (Z : State) (a0 : Array Value) (hw : ∀ d ∈ tables_1, d.before a0 Z = true) (ws : List Jvm.Cond) (ad0 : Addr) (h0 : Heap) (n0 : Nat) (Z0 : n0 ≤ h0.size) :
    MetFree l (⟨"com/example/braidjoin/braidjoin/cli/ValidityRule$Explicit", "<init>", "()V"⟩ : MethodName) (head1 (Jvm.Cond.code (⟨"com/example/braidjoin/braidjoin/cli/ValidityRule$Explicit", "<init>", "()V"⟩ : MethodName) prog_27_method_1_code 1 none :: ws) ({ frames := 2, cells := 0, slots := 0, locals := 24 } : Room)) (fun a U => a = #[(.ref ad0)] ∧ Z.Warmed39 U.vm ∧ U.heap = h0) (fun _ _ _ _ _ => True) (fun _ U o U' => ∃ v L, o = .returned v ∧ Q3 Z ad0 h0 n0 v U'.heap L ∧ FrameEnd U o U' L ({ frames := 2, cells := 0, slots := 0, locals := 24 } : Room).cells ({ frames := 2, cells := 0, slots := 0, locals := 24 } : Room).slots) := by
  refine MetFree.of_bodySF (plainFor_of_name own_pn1) hisR ?_
  intro p e s m args below meth c s₁ Bd hml0 hP hK
  obtain ⟨rfl, hZ, hh⟩ := hP
  have hx := Bd.exec
  have hby := Bd.bytes
  have hml : c.maxLocals = 1 := hml0
  have hown : s.vm.findClass "com/example/braidjoin/braidjoin/cli/ValidityRule$Explicit" = some m.cls := findClass_of_methodNamed Bd.named
  have hnm := (name_of_methodNamed Bd.named Bd.method).1
  have hlk : meth.locks = false := BodyLoose.notSynchronized Bd
  have X0 : Stand p l e ({ frames := 2, cells := 0, slots := 0, locals := 24 } : Room) s m #[(.ref ad0)] below meth c s₁ [] 0 0 := Stand.of_body Bd
  have e0 : s₁.heap = h0 := by rw [← hh, Bd.state]; rfl
  have N0 := Fr.nil n0
  obtain ⟨G, hG⟩ : ∃ G, G = own_G s (Q3 Z ad0 h0 n0) ({ frames := 2, cells := 0, slots := 0, locals := 24 } : Room).cells ({ frames := 2, cells := 0, slots := 0, locals := 24 } : Room).slots := ⟨_, rfl⟩
  show own_Fin p e below (own_G s (Q3 Z ad0 h0 n0) ({ frames := 2, cells := 0, slots := 0, locals := 24 } : Room).cells ({ frames := 2, cells := 0, slots := 0, locals := 24 } : Room).slots) (s₁.setTop (entryFrame m #[(.ref ad0)] 1))
  rw [← hG]
  refine own_to (fun _ kz => castTop (ef3 m ad0) kz) ?_
  show own_Fin p e below G (s₁.setTop (mkF m 0 #[.val (.ref ad0)] []))
  refine own_to (fun _ kz => XS.aloadN X0.here hx rfl (hb hby d3_0) rfl (rfl)  kz) ?_
  show own_Fin p e below G (s₁.setTop (mkF m 1 #[.val (.ref ad0)] [(.ref ad0)]))
  obtain ⟨_, _, ⟨T1, L1, k1, n1⟩, -, X1, ⟨Lc1, hQ1, l1, y1, z1⟩, st1⟩ := X0.specialBack hx (y := (⟨"java/lang/Record", "<init>", "()V"⟩ : MethodName)) rfl hown (mvT hZ (hw _ (List.mem_of_getElem? (i := 14) rfl))) (mvT hZ (hw _ (List.mem_of_getElem? (i := 15) rfl))) (mvT hZ (hw _ (List.mem_of_getElem? (i := 18) rfl))) (by decide) (backOf (W := 0) (rm4 l Z a0 hw [] ad0 h0 n0 Z0 ) hZ (hw _ (List.mem_of_getElem? (i := 18) rfl)) (hw _ (List.mem_of_getElem? (i := 17) rfl)) (by decide) (by decide)) (g := (mkF m 1 #[.val (.ref ad0)] [(.ref ad0)])) rfl (by rw [hml]; rfl) (Steps.refl _) (a := ad0) (argsL := []) (rest := []) (lenOf own_pd0 rfl) rfl (by show 2 * 0 + _ ≤ _; exact Nat.le_of_eq rfl) (hb hby d3_1) (fun _ _ => ⟨rfl, e0, (by decide : 0 + 0 ≤ _), (by decide : 0 + 0 ≤ _)⟩)
  dsimp only [Pt.U, Pt.locs, Pt.cells, Pt.slots] at X1 l1 y1 z1 st1 hQ1
  subst l1 y1 z1
  obtain ⟨rfl, N1q, e1⟩ := hQ1
  have N1 := Fr.app N0 N1q
  refine own_via st1 ?_
  show own_Fin p e below G (T1.setTop (mkF m 4 #[.val (.ref ad0)] []))
  exact own_retV X1 hx hlk hG Bd.returns (hb hby d3_4) (by decide) (by decide) ⟨rfl, N1, e1⟩
theorem own_pn2 : plainName "com/example/braidjoin/braidjoin/Interval" = true := by first | (simp [plainName, overriddenIn]; done) | decide +kernel
theorem d7_0 : decode prog_4_method_1_code 0 = .ok (.aload_n 0, 1) := by decide +kernel
theorem d7_1 : decode prog_4_method_1_code 1 = .ok (.invokespecial 3, 3) := by decide +kernel
theorem d7_4 : decode prog_4_method_1_code 4 = .ok (.lload_n 3, 1) := by decide +kernel
theorem d7_5 : decode prog_4_method_1_code 5 = .ok (.lload_n 1, 1) := by decide +kernel
theorem d7_6 : decode prog_4_method_1_code 6 = .ok (.lcmp, 1) := by decide +kernel
theorem d7_7 : decode prog_4_method_1_code 7 = .ok (.ifCond .gt 21, 3) := by decide +kernel
theorem d7_28 : decode prog_4_method_1_code 28 = .ok (.aload_n 0, 1) := by decide +kernel
theorem d7_29 : decode prog_4_method_1_code 29 = .ok (.lload_n 1, 1) := by decide +kernel
theorem d7_30 : decode prog_4_method_1_code 30 = .ok (.putfield 24, 3) := by decide +kernel
theorem d7_33 : decode prog_4_method_1_code 33 = .ok (.aload_n 0, 1) := by decide +kernel
theorem d7_34 : decode prog_4_method_1_code 34 = .ok (.lload_n 3, 1) := by decide +kernel
theorem d7_35 : decode prog_4_method_1_code 35 = .ok (.putfield 28, 3) := by decide +kernel
theorem d7_38 : decode prog_4_method_1_code 38 = .ok (.return_, 1) := by decide +kernel
theorem ef7 (m : MethodId) (ad0 : Addr) (x1 : Int64) (x2 : Int64) : entryFrame m #[(.ref ad0), (.long x1), (.long x2)] 5 = mkF m 0 #[.val (.ref ad0), .val (.long x1), .second, .val (.long x2), .second] [] := by first | (simp [entryFrame, mkF, argsToLocals, Value.category]; done) | rfl
def Q7 (Z : State) (ad0 : Addr) (x1 : Int64) (x2 : Int64) (h0 : Heap) (n0 : Nat) (v : Option Value) (h : Heap) (L : List Loc) : Prop := v = none ∧ Fr n0 L ∧ Keep h0 h [ad0] ∧ Exa Z h ad0 "com/example/braidjoin/braidjoin/Interval" ∧ Fld Z h ad0 "com/example/braidjoin/braidjoin/Interval" "start" "J" (.long x1) ∧ Fld Z h ad0 "com/example/braidjoin/braidjoin/Interval" "end" "J" (.long x2)
set_option maxRecDepth 65536 in
set_option maxHeartbeats 40000000 in
theorem rm7 (l : Launch) (Z : State) (a0 : Array Value) (hw : ∀ d ∈ tables_1, d.before a0 Z = true) (ws : List Jvm.Cond) (ad0 : Addr) (x1 : Int64) (x2 : Int64) (h0 : Heap) (n0 : Nat) (Z0 : n0 ≤ h0.size) (E_ad0 : Exa Z h0 ad0 "com/example/braidjoin/braidjoin/Interval") (F_start_ad0 : Fld Z h0 ad0 "com/example/braidjoin/braidjoin/Interval" "start" "J" (.long (0 : Int64))) (F_end_ad0 : Fld Z h0 ad0 "com/example/braidjoin/braidjoin/Interval" "end" "J" (.long (0 : Int64))) (g_ad0 : n0 ≤ ad0) (hlt : x1 < x2) :
    MetFree l (⟨"com/example/braidjoin/braidjoin/Interval", "<init>", "(JJ)V"⟩ : MethodName) (head1 (Jvm.Cond.code (⟨"com/example/braidjoin/braidjoin/Interval", "<init>", "(JJ)V"⟩ : MethodName) prog_4_method_1_code 5 none :: ws) ({ frames := 2, cells := 0, slots := 0, locals := 24 } : Room)) (fun a U => a = #[(.ref ad0), (.long x1), (.long x2)] ∧ Z.Warmed39 U.vm ∧ U.heap = h0) (fun _ _ _ _ _ => True) (fun _ U o U' => ∃ v L, o = .returned v ∧ Q7 Z ad0 x1 x2 h0 n0 v U'.heap L ∧ FrameEnd U o U' L ({ frames := 2, cells := 0, slots := 0, locals := 24 } : Room).cells ({ frames := 2, cells := 0, slots := 0, locals := 24 } : Room).slots) := by
  refine MetFree.of_bodySF (plainFor_of_name own_pn2) hisR ?_
  intro p e s m args below meth c s₁ Bd hml0 hP hK
  obtain ⟨rfl, hZ, hh⟩ := hP
  have hx := Bd.exec
  have hby := Bd.bytes
  have hml : c.maxLocals = 5 := hml0
  have hown : s.vm.findClass "com/example/braidjoin/braidjoin/Interval" = some m.cls := findClass_of_methodNamed Bd.named
  have hnm := (name_of_methodNamed Bd.named Bd.method).1
  have hlk : meth.locks = false := BodyLoose.notSynchronized Bd
  have X0 : Stand p l e ({ frames := 2, cells := 0, slots := 0, locals := 24 } : Room) s m #[(.ref ad0), (.long x1), (.long x2)] below meth c s₁ [] 0 0 := Stand.of_body Bd
  have e0 : s₁.heap = h0 := by rw [← hh, Bd.state]; rfl
  have N0 := Fr.nil n0
  obtain ⟨G, hG⟩ : ∃ G, G = own_G s (Q7 Z ad0 x1 x2 h0 n0) ({ frames := 2, cells := 0, slots := 0, locals := 24 } : Room).cells ({ frames := 2, cells := 0, slots := 0, locals := 24 } : Room).slots := ⟨_, rfl⟩
  show own_Fin p e below (own_G s (Q7 Z ad0 x1 x2 h0 n0) ({ frames := 2, cells := 0, slots := 0, locals := 24 } : Room).cells ({ frames := 2, cells := 0, slots := 0, locals := 24 } : Room).slots) (s₁.setTop (entryFrame m #[(.ref ad0), (.long x1), (.long x2)] 5))
  rw [← hG]
  refine own_to (fun _ kz => castTop (ef7 m ad0 x1 x2) kz) ?_
  show own_Fin p e below G (s₁.setTop (mkF m 0 #[.val (.ref ad0), .val (.long x1), .second, .val (.long x2), .second] []))
  refine own_to (fun _ kz => XS.aloadN X0.here hx rfl (hb hby d7_0) rfl (rfl)  kz) ?_
  show own_Fin p e below G (s₁.setTop (mkF m 1 #[.val (.ref ad0), .val (.long x1), .second, .val (.long x2), .second] [(.ref ad0)]))
  obtain ⟨_, _, ⟨T1, L1, k1, n1⟩, -, X1, ⟨Lc1, hQ1, l1, y1, z1⟩, st1⟩ := X0.specialBack hx (y := (⟨"java/lang/Record", "<init>", "()V"⟩ : MethodName)) rfl hown (mvT hZ (hw _ (List.mem_of_getElem? (i := 33) rfl))) (mvT hZ (hw _ (List.mem_of_getElem? (i := 15) rfl))) (mvT hZ (hw _ (List.mem_of_getElem? (i := 18) rfl))) (by decide) (backOf (W := 0) (rm4 l Z a0 hw [] ad0 h0 n0 Z0 ) hZ (hw _ (List.mem_of_getElem? (i := 18) rfl)) (hw _ (List.mem_of_getElem? (i := 17) rfl)) (by decide) (by decide)) (g := (mkF m 1 #[.val (.ref ad0), .val (.long x1), .second, .val (.long x2), .second] [(.ref ad0)])) rfl (by rw [hml]; rfl) (Steps.refl _) (a := ad0) (argsL := []) (rest := []) (lenOf own_pd0 rfl) rfl (by show 2 * 0 + _ ≤ _; exact Nat.le_of_eq rfl) (hb hby d7_1) (fun _ _ => ⟨rfl, e0, (by decide : 0 + 0 ≤ _), (by decide : 0 + 0 ≤ _)⟩)
  dsimp only [Pt.U, Pt.locs, Pt.cells, Pt.slots] at X1 l1 y1 z1 st1 hQ1
  subst l1 y1 z1
  obtain ⟨rfl, N1q, e1⟩ := hQ1
  have N1 := Fr.app N0 N1q
  refine own_via st1 ?_
  show own_Fin p e below G (T1.setTop (mkF m 4 #[.val (.ref ad0), .val (.long x1), .second, .val (.long x2), .second] []))
  refine own_to (fun _ kz => XS.lloadN X1.here hx rfl (hb hby d7_4) rfl  kz) ?_
  show own_Fin p e below G (T1.setTop (mkF m 5 #[.val (.ref ad0), .val (.long x1), .second, .val (.long x2), .second] [(.long x2)]))
  refine own_to (fun _ kz => XS.lloadN X1.here hx rfl (hb hby d7_5) rfl  kz) ?_
  show own_Fin p e below G (T1.setTop (mkF m 6 #[.val (.ref ad0), .val (.long x1), .second, .val (.long x2), .second] [(.long x1), (.long x2)]))
  refine own_to (fun _ kz => XS.lcmp X1.here hx rfl (hb hby d7_6) rfl kz) ?_
  show own_Fin p e below G (T1.setTop (mkF m 7 #[.val (.ref ad0), .val (.long x1), .second, .val (.long x2), .second] [(.int (lcmpW x2 x1))]))
  have hc7 : x1 < x2 := hlt
  refine own_to (fun _ kz => XS.ifYes X1.here hx rfl (pc0 := 7) (pc' := 28) rfl (hb hby d7_7) rfl ((if0 _ _).trans (tlt ((lw_gt _ _).mpr hc7)).2.2.1) (by decide) (by decide) kz) ?_
  show own_Fin p e below G (T1.setTop (mkF m 28 #[.val (.ref ad0), .val (.long x1), .second, .val (.long x2), .second] []))
  refine own_to (fun _ kz => XS.aloadN X1.here hx rfl (hb hby d7_28) rfl (rfl)  kz) ?_
  show own_Fin p e below G (T1.setTop (mkF m 29 #[.val (.ref ad0), .val (.long x1), .second, .val (.long x2), .second] [(.ref ad0)]))
  refine own_to (fun _ kz => XS.lloadN X1.here hx rfl (hb hby d7_29) rfl  kz) ?_
  show own_Fin p e below G (T1.setTop (mkF m 30 #[.val (.ref ad0), .val (.long x1), .second, .val (.long x2), .second] [(.long x1), (.ref ad0)]))
  obtain ⟨T30, h30, X30, e30, W30, st30⟩ := putF X1 hx hZ hown (host := "") (Or.inl (hw _ (List.mem_of_getElem? (i := 34) rfl))) Via.refl e1 F_start_ad0 E_ad0 (Or.inr ⟨(hw _ (List.mem_of_getElem? (i := 35) rfl)), rfl, hnm⟩) (hw _ (List.mem_of_getElem? (i := 28) rfl)) (ty := .long) (by decide) rfl rfl (g := (mkF m 30 #[.val (.ref ad0), .val (.long x1), .second, .val (.long x2), .second] [(.long x1), (.ref ad0)])) rfl rfl (hb hby d7_30)
  refine own_to st30 ?_
  have Fw30 : Fld Z h30 ad0 "com/example/braidjoin/braidjoin/Interval" "start" "J" (.long x1) := Fld.same W30 F_start_ad0
  have N30 := Fr.snoc X30 N1 g_ad0
  show own_Fin p e below G (T30.setTop (mkF m 33 #[.val (.ref ad0), .val (.long x1), .second, .val (.long x2), .second] []))
  refine own_to (fun _ kz => XS.aloadN X30.here hx rfl (hb hby d7_33) rfl (rfl)  kz) ?_
  show own_Fin p e below G (T30.setTop (mkF m 34 #[.val (.ref ad0), .val (.long x1), .second, .val (.long x2), .second] [(.ref ad0)]))
  refine own_to (fun _ kz => XS.lloadN X30.here hx rfl (hb hby d7_34) rfl  kz) ?_
  show own_Fin p e below G (T30.setTop (mkF m 35 #[.val (.ref ad0), .val (.long x1), .second, .val (.long x2), .second] [(.long x2), (.ref ad0)]))
  have E_ad0_at_35 : Exa Z h30 ad0 "com/example/braidjoin/braidjoin/Interval" := (E_ad0.wr W30)
  have F_end_ad0_at_35 : Fld Z h30 ad0 "com/example/braidjoin/braidjoin/Interval" "end" "J" (.long (0 : Int64)) := (F_end_ad0.other W30 (Or.inr (slot_ne (Or.inr (hw _ (List.mem_of_getElem? (i := 37) rfl))) (Or.inr (hw _ (List.mem_of_getElem? (i := 35) rfl))) (by decide) (t := .long) (t' := .long) (by decide) (by decide))))
  obtain ⟨T35, h35, X35, e35, W35, st35⟩ := putF X30 hx hZ hown (host := "") (Or.inl (hw _ (List.mem_of_getElem? (i := 36) rfl))) Via.refl e30 F_end_ad0_at_35 E_ad0_at_35 (Or.inr ⟨(hw _ (List.mem_of_getElem? (i := 37) rfl)), rfl, hnm⟩) (hw _ (List.mem_of_getElem? (i := 28) rfl)) (ty := .long) (by decide) rfl rfl (g := (mkF m 35 #[.val (.ref ad0), .val (.long x1), .second, .val (.long x2), .second] [(.long x2), (.ref ad0)])) rfl rfl (hb hby d7_35)
  refine own_to st35 ?_
  have Fw35 : Fld Z h35 ad0 "com/example/braidjoin/braidjoin/Interval" "end" "J" (.long x2) := Fld.same W35 F_end_ad0_at_35
  have N35 := Fr.snoc X35 N30 g_ad0
  show own_Fin p e below G (T35.setTop (mkF m 38 #[.val (.ref ad0), .val (.long x1), .second, .val (.long x2), .second] []))
  have KP_38 : Keep h0 h35 [ad0] := (((Keep.refl h0 [ad0]).wr W30 (Or.inl (List.mem_of_getElem? (i := 0) rfl))).wr W35 (Or.inl (List.mem_of_getElem? (i := 0) rfl)))
  have E_ad0_at_38 : Exa Z h35 ad0 "com/example/braidjoin/braidjoin/Interval" := (E_ad0_at_35.wr W35)
  have Fw30_at_38 : Fld Z h35 ad0 "com/example/braidjoin/braidjoin/Interval" "start" "J" (.long x1) := (Fw30.other W35 (Or.inr (slot_ne (Or.inr (hw _ (List.mem_of_getElem? (i := 35) rfl))) (Or.inr (hw _ (List.mem_of_getElem? (i := 37) rfl))) (by decide) (t := .long) (t' := .long) (by decide) (by decide))))
  exact own_retV X35 hx hlk hG Bd.returns (hb hby d7_38) (by decide) (by decide) (by rw [e35]; exact ⟨rfl, N35, KP_38, E_ad0_at_38, Fw30_at_38, Fw35⟩)
theorem d8_0 : decode prog_4_method_9_code 0 = .ok (.aload_n 0, 1) := by decide +kernel
theorem d8_1 : decode prog_4_method_9_code 1 = .ok (.getfield 24, 3) := by decide +kernel
theorem d8_4 : decode prog_4_method_9_code 4 = .ok (.lreturn, 1) := by decide +kernel
theorem ef8 (m : MethodId) (ad0 : Addr) : entryFrame m #[(.ref ad0)] 1 = mkF m 0 #[.val (.ref ad0)] [] := by first | (simp [entryFrame, mkF, argsToLocals, Value.category]; done) | rfl
def f8 (sn0 : Int64) : Int64 := sn0
def Q8 (Z : State) (ad0 : Addr) (sn0 : Int64) (h0 : Heap) (n0 : Nat) (v : Option Value) (h : Heap) (L : List Loc) : Prop := v = some (.long (f8 sn0)) ∧ Fr n0 L ∧ h = h0
set_option maxRecDepth 65536 in
set_option maxHeartbeats 40000000 in
theorem rm8 (l : Launch) (Z : State) (a0 : Array Value) (hw : ∀ d ∈ tables_1, d.before a0 Z = true) (ws : List Jvm.Cond) (ad0 : Addr) (sn0 : Int64) (h0 : Heap) (n0 : Nat) (Z0 : n0 ≤ h0.size) (F_start_ad0 : Fld Z h0 ad0 "com/example/braidjoin/braidjoin/Interval" "start" "J" (.long sn0)) :
    MetFree l (⟨"com/example/braidjoin/braidjoin/Interval", "start", "()J"⟩ : MethodName) (head1 (Jvm.Cond.code (⟨"com/example/braidjoin/braidjoin/Interval", "start", "()J"⟩ : MethodName) prog_4_method_9_code 1 (some .long) :: ws) ({ frames := 0, cells := 0, slots := 0, locals := 0 } : Room)) (fun a U => a = #[(.ref ad0)] ∧ Z.Warmed39 U.vm ∧ U.heap = h0) (fun _ _ _ _ _ => True) (fun _ U o U' => ∃ v L, o = .returned v ∧ Q8 Z ad0 sn0 h0 n0 v U'.heap L ∧ FrameEnd U o U' L ({ frames := 0, cells := 0, slots := 0, locals := 0 } : Room).cells ({ frames := 0, cells := 0, slots := 0, locals := 0 } : Room).slots) := by
  refine MetFree.of_bodySF (plainFor_of_name own_pn2) hisR ?_
  intro p e s m args below meth c s₁ Bd hml0 hP hK
  obtain ⟨rfl, hZ, hh⟩ := hP
  have hx := Bd.exec
  have hby := Bd.bytes
  have hml : c.maxLocals = 1 := hml0
  have hown : s.vm.findClass "com/example/braidjoin/braidjoin/Interval" = some m.cls := findClass_of_methodNamed Bd.named
  have hnm := (name_of_methodNamed Bd.named Bd.method).1
  have hlk : meth.locks = false := BodyLoose.notSynchronized Bd
  have X0 : Stand p l e ({ frames := 0, cells := 0, slots := 0, locals := 0 } : Room) s m #[(.ref ad0)] below meth c s₁ [] 0 0 := Stand.of_body Bd
  have e0 : s₁.heap = h0 := by rw [← hh, Bd.state]; rfl
  have N0 := Fr.nil n0
  obtain ⟨G, hG⟩ : ∃ G, G = own_G s (Q8 Z ad0 sn0 h0 n0) ({ frames := 0, cells := 0, slots := 0, locals := 0 } : Room).cells ({ frames := 0, cells := 0, slots := 0, locals := 0 } : Room).slots := ⟨_, rfl⟩
  show own_Fin p e below (own_G s (Q8 Z ad0 sn0 h0 n0) ({ frames := 0, cells := 0, slots := 0, locals := 0 } : Room).cells ({ frames := 0, cells := 0, slots := 0, locals := 0 } : Room).slots) (s₁.setTop (entryFrame m #[(.ref ad0)] 1))
  rw [← hG]
  refine own_to (fun _ kz => castTop (ef8 m ad0) kz) ?_
  have q0 : (f8 sn0) = (f8 sn0) := rfl
  show own_Fin p e below G (s₁.setTop (mkF m 0 #[.val (.ref ad0)] []))
  refine own_to (fun _ kz => XS.aloadN X0.here hx rfl (hb hby d8_0) rfl (rfl)  kz) ?_
  show own_Fin p e below G (s₁.setTop (mkF m 1 #[.val (.ref ad0)] [(.ref ad0)]))
  obtain ⟨T1, X1, e1, st1⟩ := getF X0 hx hZ hown (host := "") (Or.inl (hw _ (List.mem_of_getElem? (i := 34) rfl))) Via.refl e0 F_start_ad0 (g := (mkF m 1 #[.val (.ref ad0)] [(.ref ad0)])) rfl rfl (hb hby d8_1)
  refine own_to st1 ?_
  show own_Fin p e below G (T1.setTop (mkF m 4 #[.val (.ref ad0)] [(.long sn0)]))
  exact own_retJ X1 hx hlk hG Bd.returns (hb hby d8_4) (by decide) (by decide) ⟨(congrArg (fun z => some (Value.long z)) q0).symm, N0, e1⟩
theorem d9_0 : decode prog_4_method_10_code 0 = .ok (.aload_n 0, 1) := by decide +kernel
theorem d9_1 : decode prog_4_method_10_code 1 = .ok (.getfield 28, 3) := by decide +kernel
theorem d9_4 : decode prog_4_method_10_code 4 = .ok (.lreturn, 1) := by decide +kernel
theorem ef9 (m : MethodId) (ad0 : Addr) : entryFrame m #[(.ref ad0)] 1 = mkF m 0 #[.val (.ref ad0)] [] := by first | (simp [entryFrame, mkF, argsToLocals, Value.category]; done) | rfl
def f9 (sn0 : Int64) : Int64 := sn0
def Q9 (Z : State) (ad0 : Addr) (sn0 : Int64) (h0 : Heap) (n0 : Nat) (v : Option Value) (h : Heap) (L : List Loc) : Prop := v = some (.long (f9 sn0)) ∧ Fr n0 L ∧ h = h0
set_option maxRecDepth 65536 in
set_option maxHeartbeats 40000000 in
theorem rm9 (l : Launch) (Z : State) (a0 : Array Value) (hw : ∀ d ∈ tables_1, d.before a0 Z = true) (ws : List Jvm.Cond) (ad0 : Addr) (sn0 : Int64) (h0 : Heap) (n0 : Nat) (Z0 : n0 ≤ h0.size) (F_end_ad0 : Fld Z h0 ad0 "com/example/braidjoin/braidjoin/Interval" "end" "J" (.long sn0)) :
    MetFree l (⟨"com/example/braidjoin/braidjoin/Interval", "end", "()J"⟩ : MethodName) (head1 (Jvm.Cond.code (⟨"com/example/braidjoin/braidjoin/Interval", "end", "()J"⟩ : MethodName) prog_4_method_10_code 1 (some .long) :: ws) ({ frames := 0, cells := 0, slots := 0, locals := 0 } : Room)) (fun a U => a = #[(.ref ad0)] ∧ Z.Warmed39 U.vm ∧ U.heap = h0) (fun _ _ _ _ _ => True) (fun _ U o U' => ∃ v L, o = .returned v ∧ Q9 Z ad0 sn0 h0 n0 v U'.heap L ∧ FrameEnd U o U' L ({ frames := 0, cells := 0, slots := 0, locals := 0 } : Room).cells ({ frames := 0, cells := 0, slots := 0, locals := 0 } : Room).slots) := by
  refine MetFree.of_bodySF (plainFor_of_name own_pn2) hisR ?_
  intro p e s m args below meth c s₁ Bd hml0 hP hK
  obtain ⟨rfl, hZ, hh⟩ := hP
  have hx := Bd.exec
  have hby := Bd.bytes
  have hml : c.maxLocals = 1 := hml0
  have hown : s.vm.findClass "com/example/braidjoin/braidjoin/Interval" = some m.cls := findClass_of_methodNamed Bd.named
  have hnm := (name_of_methodNamed Bd.named Bd.method).1
  have hlk : meth.locks = false := BodyLoose.notSynchronized Bd
  have X0 : Stand p l e ({ frames := 0, cells := 0, slots := 0, locals := 0 } : Room) s m #[(.ref ad0)] below meth c s₁ [] 0 0 := Stand.of_body Bd
  have e0 : s₁.heap = h0 := by rw [← hh, Bd.state]; rfl
  have N0 := Fr.nil n0
  obtain ⟨G, hG⟩ : ∃ G, G = own_G s (Q9 Z ad0 sn0 h0 n0) ({ frames := 0, cells := 0, slots := 0, locals := 0 } : Room).cells ({ frames := 0, cells := 0, slots := 0, locals := 0 } : Room).slots := ⟨_, rfl⟩
  show own_Fin p e below (own_G s (Q9 Z ad0 sn0 h0 n0) ({ frames := 0, cells := 0, slots := 0, locals := 0 } : Room).cells ({ frames := 0, cells := 0, slots := 0, locals := 0 } : Room).slots) (s₁.setTop (entryFrame m #[(.ref ad0)] 1))
  rw [← hG]
  refine own_to (fun _ kz => castTop (ef9 m ad0) kz) ?_
  have q0 : (f9 sn0) = (f9 sn0) := rfl
  show own_Fin p e below G (s₁.setTop (mkF m 0 #[.val (.ref ad0)] []))
  refine own_to (fun _ kz => XS.aloadN X0.here hx rfl (hb hby d9_0) rfl (rfl)  kz) ?_
  show own_Fin p e below G (s₁.setTop (mkF m 1 #[.val (.ref ad0)] [(.ref ad0)]))
  obtain ⟨T1, X1, e1, st1⟩ := getF X0 hx hZ hown (host := "") (Or.inl (hw _ (List.mem_of_getElem? (i := 36) rfl))) Via.refl e0 F_end_ad0 (g := (mkF m 1 #[.val (.ref ad0)] [(.ref ad0)])) rfl rfl (hb hby d9_1)
  refine own_to st1 ?_
  show own_Fin p e below G (T1.setTop (mkF m 4 #[.val (.ref ad0)] [(.long sn0)]))
  exact own_retJ X1 hx hlk hG Bd.returns (hb hby d9_4) (by decide) (by decide) ⟨(congrArg (fun z => some (Value.long z)) q0).symm, N0, e1⟩
theorem own_pd1 : parseMethodDescriptor "(JJ)V" = some ⟨[.long, .long], none⟩ := by decide +kernel
theorem d6_0 : decode prog_27_method_3_code 0 = .ok (.new 17, 3) := by decide +kernel
theorem d6_3 : decode prog_27_method_3_code 3 = .ok (.dup, 1) := by decide +kernel
theorem d6_4 : decode prog_27_method_3_code 4 = .ok (.aload_n 1, 1) := by decide +kernel
theorem d6_5 : decode prog_27_method_3_code 5 = .ok (.iconst 0, 1) := by decide +kernel
theorem d6_6 : decode prog_27_method_3_code 6 = .ok (.laload, 1) := by decide +kernel
theorem d6_7 : decode prog_27_method_3_code 7 = .ok (.aload_n 1, 1) := by decide +kernel
theorem d6_8 : decode prog_27_method_3_code 8 = .ok (.iconst 1, 1) := by decide +kernel
theorem d6_9 : decode prog_27_method_3_code 9 = .ok (.laload, 1) := by decide +kernel
theorem d6_10 : decode prog_27_method_3_code 10 = .ok (.invokespecial 19, 3) := by decide +kernel
theorem d6_13 : decode prog_27_method_3_code 13 = .ok (.areturn, 1) := by decide +kernel
theorem ef6 (m : MethodId) (ad0 : Addr) (ad1 : Addr) : entryFrame m #[(.ref ad0), (.ref ad1)] 2 = mkF m 0 #[.val (.ref ad0), .val (.ref ad1)] [] := by first | (simp [entryFrame, mkF, argsToLocals, Value.category]; done) | rfl
def Q6 (Z : State) (ad0 : Addr) (ad1 : Addr) (xs : Nat → Int64) (h0 : Heap) (n0 : Nat) (v : Option Value) (h : Heap) (L : List Loc) : Prop := ∃ b : Addr, v = some (.ref b) ∧ Fr n0 L ∧ h0.size ≤ b ∧ Keep h0 h [] ∧ Exa Z h b "com/example/braidjoin/braidjoin/Interval" ∧ Fld Z h b "com/example/braidjoin/braidjoin/Interval" "start" "J" (.long (xs 0)) ∧ Fld Z h b "com/example/braidjoin/braidjoin/Interval" "end" "J" (.long (xs 1))
set_option maxRecDepth 65536 in
set_option maxHeartbeats 40000000 in
theorem rm6 (l : Launch) (Z : State) (a0 : Array Value) (hw : ∀ d ∈ tables_1, d.before a0 Z = true) (ws : List Jvm.Cond) (ad0 : Addr) (ad1 : Addr) (xs : Nat → Int64) (h0 : Heap) (n0 : Nat) (Z0 : n0 ≤ h0.size) (V_ad1 : own_AV Value.long Z h0 ad1 .long 2 xs) (hlt : xs 0 < xs 1) :
    MetFree l (⟨"com/example/braidjoin/braidjoin/cli/ValidityRule$Explicit", "interval", "([J)Lcom/example/braidjoin/braidjoin/Interval;"⟩ : MethodName) (head1 (Jvm.Cond.code (⟨"com/example/braidjoin/braidjoin/cli/ValidityRule$Explicit", "interval", "([J)Lcom/example/braidjoin/braidjoin/Interval;"⟩ : MethodName) prog_27_method_3_code 2 (some (.object "com/example/braidjoin/braidjoin/Interval")) :: ws) ({ frames := 3, cells := 1, slots := 2, locals := 41 } : Room)) (fun a U => a = #[(.ref ad0), (.ref ad1)] ∧ Z.Warmed39 U.vm ∧ U.heap = h0) (fun _ _ _ _ _ => True) (fun _ U o U' => ∃ v L, o = .returned v ∧ Q6 Z ad0 ad1 xs h0 n0 v U'.heap L ∧ FrameEnd U o U' L ({ frames := 3, cells := 1, slots := 2, locals := 41 } : Room).cells ({ frames := 3, cells := 1, slots := 2, locals := 41 } : Room).slots) := by
  refine MetFree.of_bodySF (plainFor_of_name own_pn1) hisR ?_
  intro p e s m args below meth c s₁ Bd hml0 hP hK
  obtain ⟨rfl, hZ, hh⟩ := hP
  have hx := Bd.exec
  have hby := Bd.bytes
  have hml : c.maxLocals = 2 := hml0
  have hown : s.vm.findClass "com/example/braidjoin/braidjoin/cli/ValidityRule$Explicit" = some m.cls := findClass_of_methodNamed Bd.named
  have hnm := (name_of_methodNamed Bd.named Bd.method).1
  have hlk : meth.locks = false := BodyLoose.notSynchronized Bd
  have X0 : Stand p l e ({ frames := 3, cells := 1, slots := 2, locals := 41 } : Room) s m #[(.ref ad0), (.ref ad1)] below meth c s₁ [] 0 0 := Stand.of_body Bd
  have e0 : s₁.heap = h0 := by rw [← hh, Bd.state]; rfl
  have N0 := Fr.nil n0
  obtain ⟨G, hG⟩ : ∃ G, G = own_G s (Q6 Z ad0 ad1 xs h0 n0) ({ frames := 3, cells := 1, slots := 2, locals := 41 } : Room).cells ({ frames := 3, cells := 1, slots := 2, locals := 41 } : Room).slots := ⟨_, rfl⟩
  show own_Fin p e below (own_G s (Q6 Z ad0 ad1 xs h0 n0) ({ frames := 3, cells := 1, slots := 2, locals := 41 } : Room).cells ({ frames := 3, cells := 1, slots := 2, locals := 41 } : Room).slots) (s₁.setTop (entryFrame m #[(.ref ad0), (.ref ad1)] 2))
  rw [← hG]
  refine own_to (fun _ kz => castTop (ef6 m ad0 ad1) kz) ?_
  show own_Fin p e below G (s₁.setTop (mkF m 0 #[.val (.ref ad0), .val (.ref ad1)] []))
  obtain ⟨T0a, h0a, X0a, e0a, E0a, A0a, D0a, -, st0a⟩ := newO X0 hx hZ hown (hw _ (List.mem_of_getElem? (i := 27) rfl)) (hw _ (List.mem_of_getElem? (i := 28) rfl)) (hw _ (List.mem_of_getElem? (i := 29) rfl)) e0 (g := (mkF m 0 #[.val (.ref ad0), .val (.ref ad1)] [])) rfl (hb hby d6_0) (by decide) (by decide)
  obtain ⟨b0a, g0a⟩ : ∃ z, z = h0.size := ⟨_, rfl⟩
  rw [← g0a] at A0a D0a st0a
  refine own_to st0a ?_
  have ne_ad1_b0a : ad1 ≠ b0a := Nat.ne_of_lt (Nat.lt_of_lt_of_le V_ad1.lt (Nat.le_of_eq g0a.symm))
  have g_b0a : n0 ≤ b0a := Nat.le_trans Z0 (Nat.le_of_eq g0a.symm)
  have sz_b0a : h0.size ≤ b0a := Nat.le_trans (Keep.refl h0 []).1 (Nat.le_of_eq g0a.symm)
  have F_start_b0a : Fld Z h0a b0a "com/example/braidjoin/braidjoin/Interval" "start" "J" (.long (0 : Int64)) := D0a (Or.inr (hw _ (List.mem_of_getElem? (i := 35) rfl))) (ty := .long) (by decide)
  have F_end_b0a : Fld Z h0a b0a "com/example/braidjoin/braidjoin/Interval" "end" "J" (.long (0 : Int64)) := D0a (Or.inr (hw _ (List.mem_of_getElem? (i := 37) rfl))) (ty := .long) (by decide)
  show own_Fin p e below G (T0a.setTop (mkF m 3 #[.val (.ref ad0), .val (.ref ad1)] [(.ref b0a)]))
  refine own_to (fun _ kz => XS.dup X0a.here hx rfl (hb hby d6_3) rfl rfl kz) ?_
  show own_Fin p e below G (T0a.setTop (mkF m 4 #[.val (.ref ad0), .val (.ref ad1)] [(.ref b0a), (.ref b0a)]))
  refine own_to (fun _ kz => XS.aloadN X0a.here hx rfl (hb hby d6_4) rfl (rfl)  kz) ?_
  show own_Fin p e below G (T0a.setTop (mkF m 5 #[.val (.ref ad0), .val (.ref ad1)] [(.ref ad1), (.ref b0a), (.ref b0a)]))
  refine own_to (fun _ kz => XS.iconst X0a.here hx rfl (hb hby d6_5) kz) ?_
  show own_Fin p e below G (T0a.setTop (mkF m 6 #[.val (.ref ad0), .val (.ref ad1)] [(.int (0 : Int32)), (.ref ad1), (.ref b0a), (.ref b0a)]))
  have V_ad1_at_6 : own_AV Value.long Z h0a ad1 .long 2 xs := (V_ad1.ext E0a)
  refine own_to (fun _ kz => own_laload X0a hx hZ e0a V_ad1_at_6 (j := (0 : Int32)) (by decide) rfl (by decide) (g := (mkF m 6 #[.val (.ref ad0), .val (.ref ad1)] [(.int (0 : Int32)), (.ref ad1), (.ref b0a), (.ref b0a)])) rfl rfl (hb hby d6_6) kz) ?_
  show own_Fin p e below G (T0a.setTop (mkF m 7 #[.val (.ref ad0), .val (.ref ad1)] [(.long (xs 0)), (.ref b0a), (.ref b0a)]))
  refine own_to (fun _ kz => XS.aloadN X0a.here hx rfl (hb hby d6_7) rfl (rfl)  kz) ?_
  show own_Fin p e below G (T0a.setTop (mkF m 8 #[.val (.ref ad0), .val (.ref ad1)] [(.ref ad1), (.long (xs 0)), (.ref b0a), (.ref b0a)]))
  refine own_to (fun _ kz => XS.iconst X0a.here hx rfl (hb hby d6_8) kz) ?_
  show own_Fin p e below G (T0a.setTop (mkF m 9 #[.val (.ref ad0), .val (.ref ad1)] [(.int (1 : Int32)), (.ref ad1), (.long (xs 0)), (.ref b0a), (.ref b0a)]))
  refine own_to (fun _ kz => own_laload X0a hx hZ e0a V_ad1_at_6 (j := (1 : Int32)) (by decide) rfl (by decide) (g := (mkF m 9 #[.val (.ref ad0), .val (.ref ad1)] [(.int (1 : Int32)), (.ref ad1), (.long (xs 0)), (.ref b0a), (.ref b0a)])) rfl rfl (hb hby d6_9) kz) ?_
  show own_Fin p e below G (T0a.setTop (mkF m 10 #[.val (.ref ad0), .val (.ref ad1)] [(.long (xs 1)), (.long (xs 0)), (.ref b0a), (.ref b0a)]))
  have Z_10 : n0 ≤ h0a.size := (Nat.le_trans Z0 E0a.1)
  obtain ⟨_, _, ⟨T10, L10, k10, n10⟩, -, X10, ⟨Lc10, hQ10, l10, y10, z10⟩, st10⟩ := X0a.specialBack hx (y := (⟨"com/example/braidjoin/braidjoin/Interval", "<init>", "(JJ)V"⟩ : MethodName)) rfl hown (mvT hZ (hw _ (List.mem_of_getElem? (i := 30) rfl))) (mvT hZ (hw _ (List.mem_of_getElem? (i := 31) rfl))) (mvT hZ (hw _ (List.mem_of_getElem? (i := 32) rfl))) (by decide) (backOf (W := 1) (rm7 l Z a0 hw [] b0a (xs 0) (xs 1) h0a n0 Z_10 A0a F_start_b0a F_end_b0a g_b0a hlt) hZ (hw _ (List.mem_of_getElem? (i := 32) rfl)) (hw _ (List.mem_of_getElem? (i := 29) rfl)) (by decide) (by decide)) (g := (mkF m 10 #[.val (.ref ad0), .val (.ref ad1)] [(.long (xs 1)), (.long (xs 0)), (.ref b0a), (.ref b0a)])) rfl (by rw [hml]; rfl) (Steps.refl _) (a := b0a) (argsL := [(.long (xs 0)), (.long (xs 1))]) (rest := [(.ref b0a)]) (lenOf own_pd1 rfl) rfl (by show 2 * 0 + _ ≤ _; exact Nat.le_of_eq rfl) (hb hby d6_10) (fun _ _ => ⟨rfl, e0a, (by decide : 1 + 0 ≤ _), (by decide : 2 + 0 ≤ _)⟩)
  dsimp only [Pt.U, Pt.locs, Pt.cells, Pt.slots] at X10 l10 y10 z10 st10 hQ10
  subst l10 y10 z10
  obtain ⟨rfl, N10q, Kp10, P10_0, P10_1, P10_2⟩ := hQ10
  have N10 := Fr.app N0 N10q
  refine own_via st10 ?_
  show own_Fin p e below G (T10.setTop (mkF m 13 #[.val (.ref ad0), .val (.ref ad1)] [(.ref b0a)]))
  have KP_13 : Keep h0 T10.heap [] := (((Keep.refl h0 []).ext E0a).trans Kp10 (allS (Or.inr sz_b0a) all0))
  exact own_retA X10 hx hlk hG Bd.returns rfl rfl (hb hby d6_13) (by decide) (by decide) ⟨b0a, rfl, N10, sz_b0a, KP_13, P10_0, P10_1, P10_2⟩
theorem own_f1 (a b : Int64) : (f1 a b).toInt = min a.toInt b.toInt := by
  unfold f1; split <;> (rename_i h; rw [Int64.lt_iff_toInt_lt] at h; omega)
theorem own_f2 (a b : Int64) : (f2 a b).toInt = max a.toInt b.toInt := by
  unfold f2; split <;> (rename_i h; rw [Int64.lt_iff_toInt_lt] at h; omega)
theorem own_mm {a b : Int64} (h : ¬ (f1 a b) = (f2 a b)) : (f1 a b) < (f2 a b) := by
  have hh : ¬ (f1 a b).toInt = (f2 a b).toInt := fun q => h (Int64.toInt_inj.mp q)
  rw [Int64.lt_iff_toInt_lt]; rw [own_f1, own_f2] at *; omega
theorem own_pd2 : parseMethodDescriptor "(JJ)J" = some ⟨[.long, .long], some .long⟩ := by decide +kernel
theorem own_pd3 : parseMethodDescriptor "([J)Lcom/example/braidjoin/braidjoin/Interval;" = some ⟨[(.array .long)], some (.object "com/example/braidjoin/braidjoin/Interval")⟩ := by decide +kernel
theorem own_pd4 : parseMethodDescriptor "()J" = some ⟨[], some .long⟩ := by decide +kernel
theorem own_pn3 : plainName "com/example/braidjoin/braidjoin/cli/ExplicitIntervalPinLaw" = true := by first | (simp [plainName, overriddenIn]; done) | decide +kernel
theorem ef0 (m : MethodId) (x0 : Int64) (x1 : Int64) : entryFrame m #[(.long x0), (.long x1)] maxLocals = mkF m 0 #[.val (.long x0), .second, .val (.long x1), .second, .unset, .unset, .unset, .unset, .unset, .unset, .unset] [] := by first | (simp [entryFrame, mkF, argsToLocals, Value.category, maxLocals]; done) | rfl
def f0_105 (x0 : Int64) (x1 : Int64) : Int32 := (0 : Int32)
def f0 (x0 : Int64) (x1 : Int64) : Int32 := if (f1 x0 x1) = (f2 x0 x1) then (1 : Int32) else if (f8 ((own_upd (own_upd (fun _ => (0 : Int64)) 0 (f1 x0 x1)) 1 (f2 x0 x1)) 0)) = (f1 x0 x1) then (if (f9 ((own_upd (own_upd (fun _ => (0 : Int64)) 0 (f1 x0 x1)) 1 (f2 x0 x1)) 1)) = (f2 x0 x1) then (if ((own_upd (own_upd (fun _ => (0 : Int64)) 0 (f1 x0 x1)) 1 (f2 x0 x1)) 0) = (f1 x0 x1) then (if ((own_upd (own_upd (fun _ => (0 : Int64)) 0 (f1 x0 x1)) 1 (f2 x0 x1)) 1) = (f2 x0 x1) then (1 : Int32) else (f0_105 x0 x1)) else (f0_105 x0 x1)) else (f0_105 x0 x1)) else (f0_105 x0 x1)
def Q0 (Z : State) (x0 : Int64) (x1 : Int64) (h0 : Heap) (n0 : Nat) (v : Option Value) (h : Heap) (L : List Loc) : Prop := v = some (.int (f0 x0 x1)) ∧ Fr n0 L ∧ True
set_option maxRecDepth 65536 in
set_option maxHeartbeats 40000000 in
theorem rm0 (l : Launch) (Z : State) (a0 : Array Value) (hw : ∀ d ∈ tables_1, d.before a0 Z = true) (ws : List Jvm.Cond) (x0 : Int64) (x1 : Int64) (h0 : Heap) (n0 : Nat) (Z0 : n0 ≤ h0.size) :
    MetFree l x (head1 (Jvm.Cond.code x code maxLocals ret :: ws) room_1) (fun a U => a = #[(.long x0), (.long x1)] ∧ Z.Warmed39 U.vm ∧ U.heap = h0) (fun _ _ _ _ _ => True) (fun _ U o U' => ∃ v L, o = .returned v ∧ Q0 Z x0 x1 h0 n0 v U'.heap L ∧ FrameEnd U o U' L room_1.cells room_1.slots) := by
  refine MetFree.of_bodySF (plainFor_of_name own_pn3) hisR ?_
  intro p e s m args below meth c s₁ Bd hml0 hP hK
  obtain ⟨rfl, hZ, hh⟩ := hP
  have hx := Bd.exec
  have hby := Bd.bytes
  have hml : c.maxLocals = 11 := hml0
  have hown : s.vm.findClass "com/example/braidjoin/braidjoin/cli/ExplicitIntervalPinLaw" = some m.cls := findClass_of_methodNamed Bd.named
  have hnm := (name_of_methodNamed Bd.named Bd.method).1
  have hlk : meth.locks = false := BodyLoose.notSynchronized Bd
  have X0 : Stand p l e room_1 s m #[(.long x0), (.long x1)] below meth c s₁ [] 0 0 := Stand.of_body Bd
  have e0 : s₁.heap = h0 := by rw [← hh, Bd.state]; rfl
  have N0 := Fr.nil n0
  obtain ⟨G, hG⟩ : ∃ G, G = own_G s (Q0 Z x0 x1 h0 n0) room_1.cells room_1.slots := ⟨_, rfl⟩
  show own_Fin p e below (own_G s (Q0 Z x0 x1 h0 n0) room_1.cells room_1.slots) (s₁.setTop (entryFrame m #[(.long x0), (.long x1)] maxLocals))
  rw [← hG]
  refine own_to (fun _ kz => castTop (ef0 m x0 x1) kz) ?_
  have q0 : (f0 x0 x1) = (f0 x0 x1) := rfl
  show own_Fin p e below G (s₁.setTop (mkF m 0 #[.val (.long x0), .second, .val (.long x1), .second, .unset, .unset, .unset, .unset, .unset, .unset, .unset] []))
  refine own_to (fun _ kz => XS.lloadN X0.here hx rfl (hb hby at_0) rfl  kz) ?_
  show own_Fin p e below G (s₁.setTop (mkF m 1 #[.val (.long x0), .second, .val (.long x1), .second, .unset, .unset, .unset, .unset, .unset, .unset, .unset] [(.long x0)]))
  refine own_to (fun _ kz => XS.lloadN X0.here hx rfl (hb hby at_1) rfl  kz) ?_
  show own_Fin p e below G (s₁.setTop (mkF m 2 #[.val (.long x0), .second, .val (.long x1), .second, .unset, .unset, .unset, .unset, .unset, .unset, .unset] [(.long x1), (.long x0)]))
  obtain ⟨_, _, ⟨T2, L2, k2, n2⟩, -, X2, ⟨Lc2, hQ2, l2, y2, z2⟩, st2⟩ := Jvm.LawKit.callS X0 hx (y := (⟨"java/lang/Math", "min", "(JJ)J"⟩ : MethodName)) hown (mvT hZ (hw _ (List.mem_of_getElem? (i := 0) rfl))) (mvT hZ (hw _ (List.mem_of_getElem? (i := 1) rfl))) (mvT hZ (hw _ (List.mem_of_getElem? (i := 2) rfl))) (mvT hZ (hw _ (List.mem_of_getElem? (i := 3) rfl))) (by decide) (backOf (W := 0) (rm1 l Z a0 hw [] x0 x1 h0 n0 Z0) hZ (hw _ (List.mem_of_getElem? (i := 3) rfl)) (hw _ (List.mem_of_getElem? (i := 2) rfl)) (by decide) (by decide)) (g := (mkF m 2 #[.val (.long x0), .second, .val (.long x1), .second, .unset, .unset, .unset, .unset, .unset, .unset, .unset] [(.long x1), (.long x0)])) rfl (by rw [hml]; rfl) (argsL := [(.long x0), (.long x1)]) (rest := []) (lenOf own_pd2 rfl) rfl (by show 2 * 0 + _ ≤ _; exact Nat.le_of_eq rfl) (hb hby at_2) (fun _ _ => ⟨rfl, e0, (by decide : 0 + 0 ≤ _), (by decide : 0 + 0 ≤ _)⟩)
  dsimp only [Pt.U, Pt.locs, Pt.cells, Pt.slots] at X2 l2 y2 z2 st2 hQ2
  subst l2 y2 z2
  obtain ⟨rfl, N2q, e2⟩ := hQ2
  have N2 := Fr.app N0 N2q
  refine own_to st2 ?_
  show own_Fin p e below G (T2.setTop (mkF m 5 #[.val (.long x0), .second, .val (.long x1), .second, .unset, .unset, .unset, .unset, .unset, .unset, .unset] [(.long (f1 x0 x1))]))
  refine own_to (fun _ kz => XS.lstore X2.here hx rfl (hb hby at_5) rfl (l' := #[.val (.long x0), .second, .val (.long x1), .second, .val (.long (f1 x0 x1)), .second, .unset, .unset, .unset, .unset, .unset]) rfl kz) ?_
  show own_Fin p e below G (T2.setTop (mkF m 7 #[.val (.long x0), .second, .val (.long x1), .second, .val (.long (f1 x0 x1)), .second, .unset, .unset, .unset, .unset, .unset] []))
  refine own_to (fun _ kz => XS.lloadN X2.here hx rfl (hb hby at_7) rfl  kz) ?_
  show own_Fin p e below G (T2.setTop (mkF m 8 #[.val (.long x0), .second, .val (.long x1), .second, .val (.long (f1 x0 x1)), .second, .unset, .unset, .unset, .unset, .unset] [(.long x0)]))
  refine own_to (fun _ kz => XS.lloadN X2.here hx rfl (hb hby at_8) rfl  kz) ?_
  show own_Fin p e below G (T2.setTop (mkF m 9 #[.val (.long x0), .second, .val (.long x1), .second, .val (.long (f1 x0 x1)), .second, .unset, .unset, .unset, .unset, .unset] [(.long x1), (.long x0)]))
  obtain ⟨_, _, ⟨T9, L9, k9, n9⟩, -, X9, ⟨Lc9, hQ9, l9, y9, z9⟩, st9⟩ := Jvm.LawKit.callS X2 hx (y := (⟨"java/lang/Math", "max", "(JJ)J"⟩ : MethodName)) hown (mvT hZ (hw _ (List.mem_of_getElem? (i := 4) rfl))) (mvT hZ (hw _ (List.mem_of_getElem? (i := 5) rfl))) (mvT hZ (hw _ (List.mem_of_getElem? (i := 2) rfl))) (mvT hZ (hw _ (List.mem_of_getElem? (i := 6) rfl))) (by decide) (backOf (W := 0) (rm2 l Z a0 hw [] x0 x1 h0 n0 Z0) hZ (hw _ (List.mem_of_getElem? (i := 6) rfl)) (hw _ (List.mem_of_getElem? (i := 2) rfl)) (by decide) (by decide)) (g := (mkF m 9 #[.val (.long x0), .second, .val (.long x1), .second, .val (.long (f1 x0 x1)), .second, .unset, .unset, .unset, .unset, .unset] [(.long x1), (.long x0)])) rfl (by rw [hml]; rfl) (argsL := [(.long x0), (.long x1)]) (rest := []) (lenOf own_pd2 rfl) rfl (by show 2 * 0 + _ ≤ _; exact Nat.le_of_eq rfl) (hb hby at_9) (fun _ _ => ⟨rfl, e2, (by decide : 0 + 0 ≤ _), (by decide : 0 + 0 ≤ _)⟩)
  dsimp only [Pt.U, Pt.locs, Pt.cells, Pt.slots] at X9 l9 y9 z9 st9 hQ9
  subst l9 y9 z9
  obtain ⟨rfl, N9q, e9⟩ := hQ9
  have N9 := Fr.app N2 N9q
  refine own_to st9 ?_
  show own_Fin p e below G (T9.setTop (mkF m 12 #[.val (.long x0), .second, .val (.long x1), .second, .val (.long (f1 x0 x1)), .second, .unset, .unset, .unset, .unset, .unset] [(.long (f2 x0 x1))]))
  refine own_to (fun _ kz => XS.lstore X9.here hx rfl (hb hby at_12) rfl (l' := #[.val (.long x0), .second, .val (.long x1), .second, .val (.long (f1 x0 x1)), .second, .val (.long (f2 x0 x1)), .second, .unset, .unset, .unset]) rfl kz) ?_
  show own_Fin p e below G (T9.setTop (mkF m 14 #[.val (.long x0), .second, .val (.long x1), .second, .val (.long (f1 x0 x1)), .second, .val (.long (f2 x0 x1)), .second, .unset, .unset, .unset] []))
  refine own_to (fun _ kz => XS.lload X9.here hx rfl (hb hby at_14) rfl  kz) ?_
  show own_Fin p e below G (T9.setTop (mkF m 16 #[.val (.long x0), .second, .val (.long x1), .second, .val (.long (f1 x0 x1)), .second, .val (.long (f2 x0 x1)), .second, .unset, .unset, .unset] [(.long (f1 x0 x1))]))
  refine own_to (fun _ kz => XS.lload X9.here hx rfl (hb hby at_16) rfl  kz) ?_
  show own_Fin p e below G (T9.setTop (mkF m 18 #[.val (.long x0), .second, .val (.long x1), .second, .val (.long (f1 x0 x1)), .second, .val (.long (f2 x0 x1)), .second, .unset, .unset, .unset] [(.long (f2 x0 x1)), (.long (f1 x0 x1))]))
  refine own_to (fun _ kz => XS.lcmp X9.here hx rfl (hb hby at_18) rfl kz) ?_
  show own_Fin p e below G (T9.setTop (mkF m 19 #[.val (.long x0), .second, .val (.long x1), .second, .val (.long (f1 x0 x1)), .second, .val (.long (f2 x0 x1)), .second, .unset, .unset, .unset] [(.int (lcmpW (f1 x0 x1) (f2 x0 x1)))]))
  by_cases hc19 : (f1 x0 x1) = (f2 x0 x1)
  · refine own_to (fun _ kz => XS.ifNo X9.here hx rfl (hb hby at_19) rfl ((if0 _ _).trans (teq ((lw_eq _ _).mpr hc19)).2) kz) ?_
    have q19t := q0.trans (if_pos hc19)
    show own_Fin p e below G (T9.setTop (mkF m 22 #[.val (.long x0), .second, .val (.long x1), .second, .val (.long (f1 x0 x1)), .second, .val (.long (f2 x0 x1)), .second, .unset, .unset, .unset] []))
    refine own_to (fun _ kz => XS.iconst X9.here hx rfl (hb hby at_22) kz) ?_
    show own_Fin p e below G (T9.setTop (mkF m 23 #[.val (.long x0), .second, .val (.long x1), .second, .val (.long (f1 x0 x1)), .second, .val (.long (f2 x0 x1)), .second, .unset, .unset, .unset] [(.int (1 : Int32))]))
    exact own_retN X9 hx hlk hG (t := .boolean) Bd.returns (by simp) (hb hby at_23) (by decide) (by decide) (by rw [e9]; exact ⟨(congrArg (fun z => some (Value.int z)) q19t).symm, N9, trivial⟩)
  · refine own_to (fun _ kz => XS.ifYes X9.here hx rfl (pc0 := 19) (pc' := 24) rfl (hb hby at_19) rfl ((if0 _ _).trans (feq (fun q => hc19 ((lw_eq _ _).mp q))).2) (by decide) (by decide) kz) ?_
    have q19f := q0.trans (if_neg hc19)
    show own_Fin p e below G (T9.setTop (mkF m 24 #[.val (.long x0), .second, .val (.long x1), .second, .val (.long (f1 x0 x1)), .second, .val (.long (f2 x0 x1)), .second, .unset, .unset, .unset] []))
    refine own_to (fun _ kz => XS.iconst X9.here hx rfl (hb hby at_24) kz) ?_
    show own_Fin p e below G (T9.setTop (mkF m 25 #[.val (.long x0), .second, .val (.long x1), .second, .val (.long (f1 x0 x1)), .second, .val (.long (f2 x0 x1)), .second, .unset, .unset, .unset] [(.int (2 : Int32))]))
    obtain ⟨T25, h25, k25, X25, e25, E25, A25, st25⟩ := newP X9 hx hZ (hw _ (List.mem_of_getElem? (i := 7) rfl)) e9 (g := (mkF m 25 #[.val (.long x0), .second, .val (.long x1), .second, .val (.long (f1 x0 x1)), .second, .val (.long (f2 x0 x1)), .second, .unset, .unset, .unset] [(.int (2 : Int32))])) rfl (hb hby at_25) rfl (by decide) (cap := 2) (by decide) (by decide) (by decide) (by decide)
    obtain ⟨b25, g25⟩ : ∃ z, z = h0.size := ⟨_, rfl⟩
    rw [← g25] at A25 st25
    refine own_to st25 ?_
    have g_b25 : n0 ≤ b25 := Nat.le_trans Z0 (Nat.le_of_eq g25.symm)
    have V25 : own_AV Value.long Z h25 b25 .long 2 (fun _ => (0 : Int64)) := own_AV.new A25 (by decide) (by decide) (fun _ => rfl)
    show own_Fin p e below G (T25.setTop (mkF m 27 #[.val (.long x0), .second, .val (.long x1), .second, .val (.long (f1 x0 x1)), .second, .val (.long (f2 x0 x1)), .second, .unset, .unset, .unset] [(.ref b25)]))
    refine own_to (fun _ kz => XS.astore X25.here hx rfl (hb hby at_27) rfl (rfl) (l' := #[.val (.long x0), .second, .val (.long x1), .second, .val (.long (f1 x0 x1)), .second, .val (.long (f2 x0 x1)), .second, .val (.ref b25), .unset, .unset]) rfl kz) ?_
    show own_Fin p e below G (T25.setTop (mkF m 29 #[.val (.long x0), .second, .val (.long x1), .second, .val (.long (f1 x0 x1)), .second, .val (.long (f2 x0 x1)), .second, .val (.ref b25), .unset, .unset] []))
    refine own_to (fun _ kz => XS.aload X25.here hx rfl (hb hby at_29) rfl (rfl)  kz) ?_
    show own_Fin p e below G (T25.setTop (mkF m 31 #[.val (.long x0), .second, .val (.long x1), .second, .val (.long (f1 x0 x1)), .second, .val (.long (f2 x0 x1)), .second, .val (.ref b25), .unset, .unset] [(.ref b25)]))
    refine own_to (fun _ kz => XS.iconst X25.here hx rfl (hb hby at_31) kz) ?_
    show own_Fin p e below G (T25.setTop (mkF m 32 #[.val (.long x0), .second, .val (.long x1), .second, .val (.long (f1 x0 x1)), .second, .val (.long (f2 x0 x1)), .second, .val (.ref b25), .unset, .unset] [(.int (0 : Int32)), (.ref b25)]))
    refine own_to (fun _ kz => XS.lload X25.here hx rfl (hb hby at_32) rfl  kz) ?_
    show own_Fin p e below G (T25.setTop (mkF m 34 #[.val (.long x0), .second, .val (.long x1), .second, .val (.long (f1 x0 x1)), .second, .val (.long (f2 x0 x1)), .second, .val (.ref b25), .unset, .unset] [(.long (f1 x0 x1)), (.int (0 : Int32)), (.ref b25)]))
    obtain ⟨nn34, cl34, Ar34, Sz34, Hs34⟩ := V25
    obtain ⟨T34, h34, X34, e34, W34, st34⟩ := stJ X25 hx hZ e25 Ar34 (j := (0 : Int32)) (own_in Sz34 (by decide) rfl (by decide)) (g := (mkF m 34 #[.val (.long x0), .second, .val (.long x1), .second, .val (.long (f1 x0 x1)), .second, .val (.long (f2 x0 x1)), .second, .val (.ref b25), .unset, .unset] [(.long (f1 x0 x1)), (.int (0 : Int32)), (.ref b25)])) rfl rfl (hb hby at_34)
    refine own_to st34 ?_
    have V34 : own_AV Value.long Z h34 b25 .long 2 (own_upd (fun _ => (0 : Int64)) 0 (f1 x0 x1)) := own_AV.set nn34 Ar34 Sz34 Hs34 W34 rfl
    have N34 := Fr.snoc X34 N9 g_b25
    show own_Fin p e below G (T34.setTop (mkF m 35 #[.val (.long x0), .second, .val (.long x1), .second, .val (.long (f1 x0 x1)), .second, .val (.long (f2 x0 x1)), .second, .val (.ref b25), .unset, .unset] []))
    refine own_to (fun _ kz => XS.aload X34.here hx rfl (hb hby at_35) rfl (rfl)  kz) ?_
    show own_Fin p e below G (T34.setTop (mkF m 37 #[.val (.long x0), .second, .val (.long x1), .second, .val (.long (f1 x0 x1)), .second, .val (.long (f2 x0 x1)), .second, .val (.ref b25), .unset, .unset] [(.ref b25)]))
    refine own_to (fun _ kz => XS.iconst X34.here hx rfl (hb hby at_37) kz) ?_
    show own_Fin p e below G (T34.setTop (mkF m 38 #[.val (.long x0), .second, .val (.long x1), .second, .val (.long (f1 x0 x1)), .second, .val (.long (f2 x0 x1)), .second, .val (.ref b25), .unset, .unset] [(.int (1 : Int32)), (.ref b25)]))
    refine own_to (fun _ kz => XS.lload X34.here hx rfl (hb hby at_38) rfl  kz) ?_
    show own_Fin p e below G (T34.setTop (mkF m 40 #[.val (.long x0), .second, .val (.long x1), .second, .val (.long (f1 x0 x1)), .second, .val (.long (f2 x0 x1)), .second, .val (.ref b25), .unset, .unset] [(.long (f2 x0 x1)), (.int (1 : Int32)), (.ref b25)]))
    obtain ⟨nn40, cl40, Ar40, Sz40, Hs40⟩ := V34
    obtain ⟨T40, h40, X40, e40, W40, st40⟩ := stJ X34 hx hZ e34 Ar40 (j := (1 : Int32)) (own_in Sz40 (by decide) rfl (by decide)) (g := (mkF m 40 #[.val (.long x0), .second, .val (.long x1), .second, .val (.long (f1 x0 x1)), .second, .val (.long (f2 x0 x1)), .second, .val (.ref b25), .unset, .unset] [(.long (f2 x0 x1)), (.int (1 : Int32)), (.ref b25)])) rfl rfl (hb hby at_40)
    refine own_to st40 ?_
    have V40 : own_AV Value.long Z h40 b25 .long 2 (own_upd (own_upd (fun _ => (0 : Int64)) 0 (f1 x0 x1)) 1 (f2 x0 x1)) := own_AV.set nn40 Ar40 Sz40 Hs40 W40 rfl
    have N40 := Fr.snoc X40 N34 g_b25
    show own_Fin p e below G (T40.setTop (mkF m 41 #[.val (.long x0), .second, .val (.long x1), .second, .val (.long (f1 x0 x1)), .second, .val (.long (f2 x0 x1)), .second, .val (.ref b25), .unset, .unset] []))
    have Z_41 : n0 ≤ h40.size := (Nat.le_trans (Nat.le_trans (Nat.le_trans Z0 E25.1) (Keep.of_wr W34).1) (Keep.of_wr W40).1)
    obtain ⟨T41, h41, X41, e41, E41, A41, D41, -, st41⟩ := newO X40 hx hZ hown (hw _ (List.mem_of_getElem? (i := 8) rfl)) (hw _ (List.mem_of_getElem? (i := 9) rfl)) (hw _ (List.mem_of_getElem? (i := 10) rfl)) e40 (g := (mkF m 41 #[.val (.long x0), .second, .val (.long x1), .second, .val (.long (f1 x0 x1)), .second, .val (.long (f2 x0 x1)), .second, .val (.ref b25), .unset, .unset] [])) rfl (hb hby at_41) (by decide) (by decide)
    obtain ⟨b41, g41⟩ : ∃ z, z = h40.size := ⟨_, rfl⟩
    rw [← g41] at A41 D41 st41
    refine own_to st41 ?_
    have ne_b25_b41 : b25 ≠ b41 := Nat.ne_of_lt (Nat.lt_of_lt_of_le V40.lt (Nat.le_of_eq g41.symm))
    have g_b41 : n0 ≤ b41 := Nat.le_trans Z_41 (Nat.le_of_eq g41.symm)
    show own_Fin p e below G (T41.setTop (mkF m 44 #[.val (.long x0), .second, .val (.long x1), .second, .val (.long (f1 x0 x1)), .second, .val (.long (f2 x0 x1)), .second, .val (.ref b25), .unset, .unset] [(.ref b41)]))
    refine own_to (fun _ kz => XS.dup X41.here hx rfl (hb hby at_44) rfl rfl kz) ?_
    show own_Fin p e below G (T41.setTop (mkF m 45 #[.val (.long x0), .second, .val (.long x1), .second, .val (.long (f1 x0 x1)), .second, .val (.long (f2 x0 x1)), .second, .val (.ref b25), .unset, .unset] [(.ref b41), (.ref b41)]))
    have Z_45 : n0 ≤ h41.size := (Nat.le_trans Z_41 E41.1)
    obtain ⟨_, _, ⟨T45, L45, k45, n45⟩, -, X45, ⟨Lc45, hQ45, l45, y45, z45⟩, st45⟩ := X41.specialBack hx (y := (⟨"com/example/braidjoin/braidjoin/cli/ValidityRule$Explicit", "<init>", "()V"⟩ : MethodName)) rfl hown (mvT hZ (hw _ (List.mem_of_getElem? (i := 11) rfl))) (mvT hZ (hw _ (List.mem_of_getElem? (i := 12) rfl))) (mvT hZ (hw _ (List.mem_of_getElem? (i := 13) rfl))) (by decide) (backOf (W := 1) (rm3 l Z a0 hw [] b41 h41 n0 Z_45 ) hZ (hw _ (List.mem_of_getElem? (i := 13) rfl)) (hw _ (List.mem_of_getElem? (i := 10) rfl)) (by decide) (by decide)) (g := (mkF m 45 #[.val (.long x0), .second, .val (.long x1), .second, .val (.long (f1 x0 x1)), .second, .val (.long (f2 x0 x1)), .second, .val (.ref b25), .unset, .unset] [(.ref b41), (.ref b41)])) rfl (by rw [hml]; rfl) (Steps.refl _) (a := b41) (argsL := []) (rest := [(.ref b41)]) (lenOf own_pd0 rfl) rfl (by show 2 * 0 + _ ≤ _; exact Nat.le_of_eq rfl) (hb hby at_45) (fun _ _ => ⟨rfl, e41, (by decide : 2 + 0 ≤ _), (by decide : 2 + 0 ≤ _)⟩)
    dsimp only [Pt.U, Pt.locs, Pt.cells, Pt.slots] at X45 l45 y45 z45 st45 hQ45
    subst l45 y45 z45
    obtain ⟨rfl, N45q, e45⟩ := hQ45
    have N45 := Fr.app N40 N45q
    refine own_via st45 ?_
    show own_Fin p e below G (T45.setTop (mkF m 48 #[.val (.long x0), .second, .val (.long x1), .second, .val (.long (f1 x0 x1)), .second, .val (.long (f2 x0 x1)), .second, .val (.ref b25), .unset, .unset] [(.ref b41)]))
    refine own_to (fun _ kz => XS.astore X45.here hx rfl (hb hby at_48) rfl (rfl) (l' := #[.val (.long x0), .second, .val (.long x1), .second, .val (.long (f1 x0 x1)), .second, .val (.long (f2 x0 x1)), .second, .val (.ref b25), .val (.ref b41), .unset]) rfl kz) ?_
    show own_Fin p e below G (T45.setTop (mkF m 50 #[.val (.long x0), .second, .val (.long x1), .second, .val (.long (f1 x0 x1)), .second, .val (.long (f2 x0 x1)), .second, .val (.ref b25), .val (.ref b41), .unset] []))
    refine own_to (fun _ kz => XS.aload X45.here hx rfl (hb hby at_50) rfl (rfl)  kz) ?_
    show own_Fin p e below G (T45.setTop (mkF m 52 #[.val (.long x0), .second, .val (.long x1), .second, .val (.long (f1 x0 x1)), .second, .val (.long (f2 x0 x1)), .second, .val (.ref b25), .val (.ref b41), .unset] [(.ref b41)]))
    refine own_to (fun _ kz => XS.aload X45.here hx rfl (hb hby at_52) rfl (rfl)  kz) ?_
    show own_Fin p e below G (T45.setTop (mkF m 54 #[.val (.long x0), .second, .val (.long x1), .second, .val (.long (f1 x0 x1)), .second, .val (.long (f2 x0 x1)), .second, .val (.ref b25), .val (.ref b41), .unset] [(.ref b25), (.ref b41)]))
    have V40_at_54 : own_AV Value.long Z h41 b25 .long 2 (own_upd (own_upd (fun _ => (0 : Int64)) 0 (f1 x0 x1)) 1 (f2 x0 x1)) := (V40.ext E41)
    obtain ⟨cq54, kq54, qa54, qb54, qc54⟩ := isOf hZ e45 A41
    obtain ⟨_, _, ⟨T54, L54, k54, n54⟩, -, X54, ⟨Lc54, hQ54, l54, y54, z54⟩, st54⟩ := X45.virtualBack hx (y := (⟨"com/example/braidjoin/braidjoin/cli/ValidityRule$Explicit", "interval", "([J)Lcom/example/braidjoin/braidjoin/Interval;"⟩ : MethodName)) (z := (⟨"com/example/braidjoin/braidjoin/cli/ValidityRule$Explicit", "interval", "([J)Lcom/example/braidjoin/braidjoin/Interval;"⟩ : MethodName)) hown (mvT hZ (hw _ (List.mem_of_getElem? (i := 22) rfl))) (mvT hZ (hw _ (List.mem_of_getElem? (i := 23) rfl))) (notFace_of_selects (args := #[]) (mvT hZ (hw _ (List.mem_of_getElem? (i := 25) rfl)))) (mvT hZ (hw _ (List.mem_of_getElem? (i := 25) rfl))) (mvT hZ (hw _ (List.mem_of_getElem? (i := 24) rfl))) (by decide) (backOf (W := 0) (rm6 l Z a0 hw [] b41 b25 (own_upd (own_upd (fun _ => (0 : Int64)) 0 (f1 x0 x1)) 1 (f2 x0 x1)) h41 n0 Z_45 V40_at_54 (own_mm hc19)) hZ (hw _ (List.mem_of_getElem? (i := 26) rfl)) (hw _ (List.mem_of_getElem? (i := 10) rfl)) (by decide) (by decide)) qa54 qc54 (g := (mkF m 54 #[.val (.long x0), .second, .val (.long x1), .second, .val (.long (f1 x0 x1)), .second, .val (.long (f2 x0 x1)), .second, .val (.ref b25), .val (.ref b41), .unset] [(.ref b25), (.ref b41)])) rfl (by rw [hml]; rfl) (Steps.refl _) (argsL := [(.ref b25)]) (rest := []) (lenOf own_pd3 rfl) rfl (by show 2 * 0 + _ ≤ _; exact Nat.le_of_eq rfl) (hb hby at_54) (fun _ _ => ⟨rfl, e45, (by decide : 2 + 1 ≤ _), (by decide : 2 + 2 ≤ _)⟩)
    dsimp only [Pt.U, Pt.locs, Pt.cells, Pt.slots] at X54 l54 y54 z54 st54 hQ54
    subst l54 y54 z54
    obtain ⟨b54, rfl, N54q, szq54, Kp54, P54_0, P54_1, P54_2⟩ := hQ54
    have ne_b25_b54 : b25 ≠ b54 := Nat.ne_of_lt (Nat.lt_of_lt_of_le V40_at_54.lt szq54)
    have ne_b41_b54 : b41 ≠ b54 := Nat.ne_of_lt (Nat.lt_of_lt_of_le A41.lt szq54)
    have g_b54 : n0 ≤ b54 := Nat.le_trans Z_45 szq54
    have N54 := Fr.app N45 N54q
    refine own_via st54 ?_
    show own_Fin p e below G (T54.setTop (mkF m 57 #[.val (.long x0), .second, .val (.long x1), .second, .val (.long (f1 x0 x1)), .second, .val (.long (f2 x0 x1)), .second, .val (.ref b25), .val (.ref b41), .unset] [(.ref b54)]))
    refine own_to (fun _ kz => XS.astore X54.here hx rfl (hb hby at_57) rfl (rfl) (l' := #[.val (.long x0), .second, .val (.long x1), .second, .val (.long (f1 x0 x1)), .second, .val (.long (f2 x0 x1)), .second, .val (.ref b25), .val (.ref b41), .val (.ref b54)]) rfl kz) ?_
    show own_Fin p e below G (T54.setTop (mkF m 59 #[.val (.long x0), .second, .val (.long x1), .second, .val (.long (f1 x0 x1)), .second, .val (.long (f2 x0 x1)), .second, .val (.ref b25), .val (.ref b41), .val (.ref b54)] []))
    refine own_to (fun _ kz => XS.aload X54.here hx rfl (hb hby at_59) rfl (rfl)  kz) ?_
    show own_Fin p e below G (T54.setTop (mkF m 61 #[.val (.long x0), .second, .val (.long x1), .second, .val (.long (f1 x0 x1)), .second, .val (.long (f2 x0 x1)), .second, .val (.ref b25), .val (.ref b41), .val (.ref b54)] [(.ref b54)]))
    have Z_61 : n0 ≤ T54.heap.size := (Nat.le_trans Z_45 Kp54.1)
    obtain ⟨cq61, kq61, qa61, qb61, qc61⟩ := isOf hZ rfl P54_0
    obtain ⟨_, _, ⟨T61, L61, k61, n61⟩, -, X61, ⟨Lc61, hQ61, l61, y61, z61⟩, st61⟩ := X54.virtualBack hx (y := (⟨"com/example/braidjoin/braidjoin/Interval", "start", "()J"⟩ : MethodName)) (z := (⟨"com/example/braidjoin/braidjoin/Interval", "start", "()J"⟩ : MethodName)) hown (mvT hZ (hw _ (List.mem_of_getElem? (i := 38) rfl))) (mvT hZ (hw _ (List.mem_of_getElem? (i := 39) rfl))) (notFace_of_selects (args := #[]) (mvT hZ (hw _ (List.mem_of_getElem? (i := 41) rfl)))) (mvT hZ (hw _ (List.mem_of_getElem? (i := 41) rfl))) (mvT hZ (hw _ (List.mem_of_getElem? (i := 40) rfl))) (by decide) (backOf (W := 0) (rm8 l Z a0 hw [] b54 ((own_upd (own_upd (fun _ => (0 : Int64)) 0 (f1 x0 x1)) 1 (f2 x0 x1)) 0) T54.heap n0 Z_61 P54_1) hZ (hw _ (List.mem_of_getElem? (i := 42) rfl)) (hw _ (List.mem_of_getElem? (i := 29) rfl)) (by decide) (by decide)) qa61 qc61 (g := (mkF m 61 #[.val (.long x0), .second, .val (.long x1), .second, .val (.long (f1 x0 x1)), .second, .val (.long (f2 x0 x1)), .second, .val (.ref b25), .val (.ref b41), .val (.ref b54)] [(.ref b54)])) rfl (by rw [hml]; rfl) (Steps.refl _) (argsL := []) (rest := []) (lenOf own_pd4 rfl) rfl (by show 2 * 0 + _ ≤ _; exact Nat.le_of_eq rfl) (hb hby at_61) (fun _ _ => ⟨rfl, rfl, (by decide : 3 + 0 ≤ _), (by decide : 4 + 0 ≤ _)⟩)
    dsimp only [Pt.U, Pt.locs, Pt.cells, Pt.slots] at X61 l61 y61 z61 st61 hQ61
    subst l61 y61 z61
    obtain ⟨rfl, N61q, e61⟩ := hQ61
    have N61 := Fr.app N54 N61q
    refine own_via st61 ?_
    show own_Fin p e below G (T61.setTop (mkF m 64 #[.val (.long x0), .second, .val (.long x1), .second, .val (.long (f1 x0 x1)), .second, .val (.long (f2 x0 x1)), .second, .val (.ref b25), .val (.ref b41), .val (.ref b54)] [(.long (f8 ((own_upd (own_upd (fun _ => (0 : Int64)) 0 (f1 x0 x1)) 1 (f2 x0 x1)) 0)))]))
    refine own_to (fun _ kz => XS.lload X61.here hx rfl (hb hby at_64) rfl  kz) ?_
    show own_Fin p e below G (T61.setTop (mkF m 66 #[.val (.long x0), .second, .val (.long x1), .second, .val (.long (f1 x0 x1)), .second, .val (.long (f2 x0 x1)), .second, .val (.ref b25), .val (.ref b41), .val (.ref b54)] [(.long (f1 x0 x1)), (.long (f8 ((own_upd (own_upd (fun _ => (0 : Int64)) 0 (f1 x0 x1)) 1 (f2 x0 x1)) 0)))]))
    refine own_to (fun _ kz => XS.lcmp X61.here hx rfl (hb hby at_66) rfl kz) ?_
    show own_Fin p e below G (T61.setTop (mkF m 67 #[.val (.long x0), .second, .val (.long x1), .second, .val (.long (f1 x0 x1)), .second, .val (.long (f2 x0 x1)), .second, .val (.ref b25), .val (.ref b41), .val (.ref b54)] [(.int (lcmpW (f8 ((own_upd (own_upd (fun _ => (0 : Int64)) 0 (f1 x0 x1)) 1 (f2 x0 x1)) 0)) (f1 x0 x1)))]))
    have K105 : ∀ (T_j105 : State) (locs_j105 : List Loc) (N_j105 : Fr n0 locs_j105) (X_j105 : Stand p l e room_1 s m #[(.long x0), (.long x1)] below meth c T_j105 locs_j105 3 4) (e_j105 : T_j105.heap = T54.heap) (q_j105 : (f0 x0 x1) = (f0_105 x0 x1)), own_Fin p e below G (T_j105.setTop (mkF m 105 #[.val (.long x0), .second, .val (.long x1), .second, .val (.long (f1 x0 x1)), .second, .val (.long (f2 x0 x1)), .second, .val (.ref b25), .val (.ref b41), .val (.ref b54)] [])) := by
      intro T_j105 locs_j105 N_j105 X_j105 e_j105 q_j105
      refine own_to (fun _ kz => XS.iconst X_j105.here hx rfl (hb hby at_105) kz) ?_
      show own_Fin p e below G (T_j105.setTop (mkF m 106 #[.val (.long x0), .second, .val (.long x1), .second, .val (.long (f1 x0 x1)), .second, .val (.long (f2 x0 x1)), .second, .val (.ref b25), .val (.ref b41), .val (.ref b54)] [(.int (0 : Int32))]))
      exact own_retN X_j105 hx hlk hG (t := .boolean) Bd.returns (by simp) (hb hby at_106) (by decide) (by decide) (by rw [e_j105]; exact ⟨(congrArg (fun z => some (Value.int z)) q_j105).symm, N_j105, trivial⟩)
    by_cases hc67 : (f8 ((own_upd (own_upd (fun _ => (0 : Int64)) 0 (f1 x0 x1)) 1 (f2 x0 x1)) 0)) = (f1 x0 x1)
    · refine own_to (fun _ kz => XS.ifNo X61.here hx rfl (hb hby at_67) rfl ((if0 _ _).trans (teq ((lw_eq _ _).mpr hc67)).2) kz) ?_
      have q67t := q19f.trans (if_pos hc67)
      show own_Fin p e below G (T61.setTop (mkF m 70 #[.val (.long x0), .second, .val (.long x1), .second, .val (.long (f1 x0 x1)), .second, .val (.long (f2 x0 x1)), .second, .val (.ref b25), .val (.ref b41), .val (.ref b54)] []))
      refine own_to (fun _ kz => XS.aload X61.here hx rfl (hb hby at_70) rfl (rfl)  kz) ?_
      show own_Fin p e below G (T61.setTop (mkF m 72 #[.val (.long x0), .second, .val (.long x1), .second, .val (.long (f1 x0 x1)), .second, .val (.long (f2 x0 x1)), .second, .val (.ref b25), .val (.ref b41), .val (.ref b54)] [(.ref b54)]))
      obtain ⟨cq72, kq72, qa72, qb72, qc72⟩ := isOf hZ e61 P54_0
      obtain ⟨_, _, ⟨T72, L72, k72, n72⟩, -, X72, ⟨Lc72, hQ72, l72, y72, z72⟩, st72⟩ := X61.virtualBack hx (y := (⟨"com/example/braidjoin/braidjoin/Interval", "end", "()J"⟩ : MethodName)) (z := (⟨"com/example/braidjoin/braidjoin/Interval", "end", "()J"⟩ : MethodName)) hown (mvT hZ (hw _ (List.mem_of_getElem? (i := 43) rfl))) (mvT hZ (hw _ (List.mem_of_getElem? (i := 44) rfl))) (notFace_of_selects (args := #[]) (mvT hZ (hw _ (List.mem_of_getElem? (i := 46) rfl)))) (mvT hZ (hw _ (List.mem_of_getElem? (i := 46) rfl))) (mvT hZ (hw _ (List.mem_of_getElem? (i := 45) rfl))) (by decide) (backOf (W := 0) (rm9 l Z a0 hw [] b54 ((own_upd (own_upd (fun _ => (0 : Int64)) 0 (f1 x0 x1)) 1 (f2 x0 x1)) 1) T54.heap n0 Z_61 P54_2) hZ (hw _ (List.mem_of_getElem? (i := 47) rfl)) (hw _ (List.mem_of_getElem? (i := 29) rfl)) (by decide) (by decide)) qa72 qc72 (g := (mkF m 72 #[.val (.long x0), .second, .val (.long x1), .second, .val (.long (f1 x0 x1)), .second, .val (.long (f2 x0 x1)), .second, .val (.ref b25), .val (.ref b41), .val (.ref b54)] [(.ref b54)])) rfl (by rw [hml]; rfl) (Steps.refl _) (argsL := []) (rest := []) (lenOf own_pd4 rfl) rfl (by show 2 * 0 + _ ≤ _; exact Nat.le_of_eq rfl) (hb hby at_72) (fun _ _ => ⟨rfl, e61, (by decide : 3 + 0 ≤ _), (by decide : 4 + 0 ≤ _)⟩)
      dsimp only [Pt.U, Pt.locs, Pt.cells, Pt.slots] at X72 l72 y72 z72 st72 hQ72
      subst l72 y72 z72
      obtain ⟨rfl, N72q, e72⟩ := hQ72
      have N72 := Fr.app N61 N72q
      refine own_via st72 ?_
      show own_Fin p e below G (T72.setTop (mkF m 75 #[.val (.long x0), .second, .val (.long x1), .second, .val (.long (f1 x0 x1)), .second, .val (.long (f2 x0 x1)), .second, .val (.ref b25), .val (.ref b41), .val (.ref b54)] [(.long (f9 ((own_upd (own_upd (fun _ => (0 : Int64)) 0 (f1 x0 x1)) 1 (f2 x0 x1)) 1)))]))
      refine own_to (fun _ kz => XS.lload X72.here hx rfl (hb hby at_75) rfl  kz) ?_
      show own_Fin p e below G (T72.setTop (mkF m 77 #[.val (.long x0), .second, .val (.long x1), .second, .val (.long (f1 x0 x1)), .second, .val (.long (f2 x0 x1)), .second, .val (.ref b25), .val (.ref b41), .val (.ref b54)] [(.long (f2 x0 x1)), (.long (f9 ((own_upd (own_upd (fun _ => (0 : Int64)) 0 (f1 x0 x1)) 1 (f2 x0 x1)) 1)))]))
      refine own_to (fun _ kz => XS.lcmp X72.here hx rfl (hb hby at_77) rfl kz) ?_
      show own_Fin p e below G (T72.setTop (mkF m 78 #[.val (.long x0), .second, .val (.long x1), .second, .val (.long (f1 x0 x1)), .second, .val (.long (f2 x0 x1)), .second, .val (.ref b25), .val (.ref b41), .val (.ref b54)] [(.int (lcmpW (f9 ((own_upd (own_upd (fun _ => (0 : Int64)) 0 (f1 x0 x1)) 1 (f2 x0 x1)) 1)) (f2 x0 x1)))]))
      by_cases hc78 : (f9 ((own_upd (own_upd (fun _ => (0 : Int64)) 0 (f1 x0 x1)) 1 (f2 x0 x1)) 1)) = (f2 x0 x1)
      · refine own_to (fun _ kz => XS.ifNo X72.here hx rfl (hb hby at_78) rfl ((if0 _ _).trans (teq ((lw_eq _ _).mpr hc78)).2) kz) ?_
        have q78t := q67t.trans (if_pos hc78)
        show own_Fin p e below G (T72.setTop (mkF m 81 #[.val (.long x0), .second, .val (.long x1), .second, .val (.long (f1 x0 x1)), .second, .val (.long (f2 x0 x1)), .second, .val (.ref b25), .val (.ref b41), .val (.ref b54)] []))
        refine own_to (fun _ kz => XS.aload X72.here hx rfl (hb hby at_81) rfl (rfl)  kz) ?_
        show own_Fin p e below G (T72.setTop (mkF m 83 #[.val (.long x0), .second, .val (.long x1), .second, .val (.long (f1 x0 x1)), .second, .val (.long (f2 x0 x1)), .second, .val (.ref b25), .val (.ref b41), .val (.ref b54)] [(.ref b25)]))
        refine own_to (fun _ kz => XS.iconst X72.here hx rfl (hb hby at_83) kz) ?_
        show own_Fin p e below G (T72.setTop (mkF m 84 #[.val (.long x0), .second, .val (.long x1), .second, .val (.long (f1 x0 x1)), .second, .val (.long (f2 x0 x1)), .second, .val (.ref b25), .val (.ref b41), .val (.ref b54)] [(.int (0 : Int32)), (.ref b25)]))
        have V40_at_84 : own_AV Value.long Z T54.heap b25 .long 2 (own_upd (own_upd (fun _ => (0 : Int64)) 0 (f1 x0 x1)) 1 (f2 x0 x1)) := (V40_at_54.keep Kp54 nin0)
        refine own_to (fun _ kz => own_laload X72 hx hZ e72 V40_at_84 (j := (0 : Int32)) (by decide) rfl (by decide) (g := (mkF m 84 #[.val (.long x0), .second, .val (.long x1), .second, .val (.long (f1 x0 x1)), .second, .val (.long (f2 x0 x1)), .second, .val (.ref b25), .val (.ref b41), .val (.ref b54)] [(.int (0 : Int32)), (.ref b25)])) rfl rfl (hb hby at_84) kz) ?_
        show own_Fin p e below G (T72.setTop (mkF m 85 #[.val (.long x0), .second, .val (.long x1), .second, .val (.long (f1 x0 x1)), .second, .val (.long (f2 x0 x1)), .second, .val (.ref b25), .val (.ref b41), .val (.ref b54)] [(.long ((own_upd (own_upd (fun _ => (0 : Int64)) 0 (f1 x0 x1)) 1 (f2 x0 x1)) 0))]))
        refine own_to (fun _ kz => XS.lload X72.here hx rfl (hb hby at_85) rfl  kz) ?_
        show own_Fin p e below G (T72.setTop (mkF m 87 #[.val (.long x0), .second, .val (.long x1), .second, .val (.long (f1 x0 x1)), .second, .val (.long (f2 x0 x1)), .second, .val (.ref b25), .val (.ref b41), .val (.ref b54)] [(.long (f1 x0 x1)), (.long ((own_upd (own_upd (fun _ => (0 : Int64)) 0 (f1 x0 x1)) 1 (f2 x0 x1)) 0))]))
        refine own_to (fun _ kz => XS.lcmp X72.here hx rfl (hb hby at_87) rfl kz) ?_
        show own_Fin p e below G (T72.setTop (mkF m 88 #[.val (.long x0), .second, .val (.long x1), .second, .val (.long (f1 x0 x1)), .second, .val (.long (f2 x0 x1)), .second, .val (.ref b25), .val (.ref b41), .val (.ref b54)] [(.int (lcmpW ((own_upd (own_upd (fun _ => (0 : Int64)) 0 (f1 x0 x1)) 1 (f2 x0 x1)) 0) (f1 x0 x1)))]))
        by_cases hc88 : ((own_upd (own_upd (fun _ => (0 : Int64)) 0 (f1 x0 x1)) 1 (f2 x0 x1)) 0) = (f1 x0 x1)
        · refine own_to (fun _ kz => XS.ifNo X72.here hx rfl (hb hby at_88) rfl ((if0 _ _).trans (teq ((lw_eq _ _).mpr hc88)).2) kz) ?_
          have q88t := q78t.trans (if_pos hc88)
          show own_Fin p e below G (T72.setTop (mkF m 91 #[.val (.long x0), .second, .val (.long x1), .second, .val (.long (f1 x0 x1)), .second, .val (.long (f2 x0 x1)), .second, .val (.ref b25), .val (.ref b41), .val (.ref b54)] []))
          refine own_to (fun _ kz => XS.aload X72.here hx rfl (hb hby at_91) rfl (rfl)  kz) ?_
          show own_Fin p e below G (T72.setTop (mkF m 93 #[.val (.long x0), .second, .val (.long x1), .second, .val (.long (f1 x0 x1)), .second, .val (.long (f2 x0 x1)), .second, .val (.ref b25), .val (.ref b41), .val (.ref b54)] [(.ref b25)]))
          refine own_to (fun _ kz => XS.iconst X72.here hx rfl (hb hby at_93) kz) ?_
          show own_Fin p e below G (T72.setTop (mkF m 94 #[.val (.long x0), .second, .val (.long x1), .second, .val (.long (f1 x0 x1)), .second, .val (.long (f2 x0 x1)), .second, .val (.ref b25), .val (.ref b41), .val (.ref b54)] [(.int (1 : Int32)), (.ref b25)]))
          refine own_to (fun _ kz => own_laload X72 hx hZ e72 V40_at_84 (j := (1 : Int32)) (by decide) rfl (by decide) (g := (mkF m 94 #[.val (.long x0), .second, .val (.long x1), .second, .val (.long (f1 x0 x1)), .second, .val (.long (f2 x0 x1)), .second, .val (.ref b25), .val (.ref b41), .val (.ref b54)] [(.int (1 : Int32)), (.ref b25)])) rfl rfl (hb hby at_94) kz) ?_
          show own_Fin p e below G (T72.setTop (mkF m 95 #[.val (.long x0), .second, .val (.long x1), .second, .val (.long (f1 x0 x1)), .second, .val (.long (f2 x0 x1)), .second, .val (.ref b25), .val (.ref b41), .val (.ref b54)] [(.long ((own_upd (own_upd (fun _ => (0 : Int64)) 0 (f1 x0 x1)) 1 (f2 x0 x1)) 1))]))
          refine own_to (fun _ kz => XS.lload X72.here hx rfl (hb hby at_95) rfl  kz) ?_
          show own_Fin p e below G (T72.setTop (mkF m 97 #[.val (.long x0), .second, .val (.long x1), .second, .val (.long (f1 x0 x1)), .second, .val (.long (f2 x0 x1)), .second, .val (.ref b25), .val (.ref b41), .val (.ref b54)] [(.long (f2 x0 x1)), (.long ((own_upd (own_upd (fun _ => (0 : Int64)) 0 (f1 x0 x1)) 1 (f2 x0 x1)) 1))]))
          refine own_to (fun _ kz => XS.lcmp X72.here hx rfl (hb hby at_97) rfl kz) ?_
          show own_Fin p e below G (T72.setTop (mkF m 98 #[.val (.long x0), .second, .val (.long x1), .second, .val (.long (f1 x0 x1)), .second, .val (.long (f2 x0 x1)), .second, .val (.ref b25), .val (.ref b41), .val (.ref b54)] [(.int (lcmpW ((own_upd (own_upd (fun _ => (0 : Int64)) 0 (f1 x0 x1)) 1 (f2 x0 x1)) 1) (f2 x0 x1)))]))
          by_cases hc98 : ((own_upd (own_upd (fun _ => (0 : Int64)) 0 (f1 x0 x1)) 1 (f2 x0 x1)) 1) = (f2 x0 x1)
          · refine own_to (fun _ kz => XS.ifNo X72.here hx rfl (hb hby at_98) rfl ((if0 _ _).trans (teq ((lw_eq _ _).mpr hc98)).2) kz) ?_
            have q98t := q88t.trans (if_pos hc98)
            show own_Fin p e below G (T72.setTop (mkF m 101 #[.val (.long x0), .second, .val (.long x1), .second, .val (.long (f1 x0 x1)), .second, .val (.long (f2 x0 x1)), .second, .val (.ref b25), .val (.ref b41), .val (.ref b54)] []))
            refine own_to (fun _ kz => XS.iconst X72.here hx rfl (hb hby at_101) kz) ?_
            show own_Fin p e below G (T72.setTop (mkF m 102 #[.val (.long x0), .second, .val (.long x1), .second, .val (.long (f1 x0 x1)), .second, .val (.long (f2 x0 x1)), .second, .val (.ref b25), .val (.ref b41), .val (.ref b54)] [(.int (1 : Int32))]))
            refine own_to (fun _ kz => XS.goto X72.here hx rfl (pc0 := 102) (pc' := 106) rfl (hb hby at_102) (by decide) (by decide) kz) ?_
            show own_Fin p e below G (T72.setTop (mkF m 106 #[.val (.long x0), .second, .val (.long x1), .second, .val (.long (f1 x0 x1)), .second, .val (.long (f2 x0 x1)), .second, .val (.ref b25), .val (.ref b41), .val (.ref b54)] [(.int (1 : Int32))]))
            exact own_retN X72 hx hlk hG (t := .boolean) Bd.returns (by simp) (hb hby at_106) (by decide) (by decide) (by rw [e72]; exact ⟨(congrArg (fun z => some (Value.int z)) q98t).symm, N72, trivial⟩)
          · refine own_to (fun _ kz => XS.ifYes X72.here hx rfl (pc0 := 98) (pc' := 105) rfl (hb hby at_98) rfl ((if0 _ _).trans (feq (fun q => hc98 ((lw_eq _ _).mp q))).2) (by decide) (by decide) kz) ?_
            have q98f := q88t.trans (if_neg hc98)
            show own_Fin p e below G (T72.setTop (mkF m 105 #[.val (.long x0), .second, .val (.long x1), .second, .val (.long (f1 x0 x1)), .second, .val (.long (f2 x0 x1)), .second, .val (.ref b25), .val (.ref b41), .val (.ref b54)] []))
            exact K105 _ _ N72 X72 e72 q98f
        · refine own_to (fun _ kz => XS.ifYes X72.here hx rfl (pc0 := 88) (pc' := 105) rfl (hb hby at_88) rfl ((if0 _ _).trans (feq (fun q => hc88 ((lw_eq _ _).mp q))).2) (by decide) (by decide) kz) ?_
          have q88f := q78t.trans (if_neg hc88)
          show own_Fin p e below G (T72.setTop (mkF m 105 #[.val (.long x0), .second, .val (.long x1), .second, .val (.long (f1 x0 x1)), .second, .val (.long (f2 x0 x1)), .second, .val (.ref b25), .val (.ref b41), .val (.ref b54)] []))
          exact K105 _ _ N72 X72 e72 q88f
      · refine own_to (fun _ kz => XS.ifYes X72.here hx rfl (pc0 := 78) (pc' := 105) rfl (hb hby at_78) rfl ((if0 _ _).trans (feq (fun q => hc78 ((lw_eq _ _).mp q))).2) (by decide) (by decide) kz) ?_
        have q78f := q67t.trans (if_neg hc78)
        show own_Fin p e below G (T72.setTop (mkF m 105 #[.val (.long x0), .second, .val (.long x1), .second, .val (.long (f1 x0 x1)), .second, .val (.long (f2 x0 x1)), .second, .val (.ref b25), .val (.ref b41), .val (.ref b54)] []))
        exact K105 _ _ N72 X72 e72 q78f
    · refine own_to (fun _ kz => XS.ifYes X61.here hx rfl (pc0 := 67) (pc' := 105) rfl (hb hby at_67) rfl ((if0 _ _).trans (feq (fun q => hc67 ((lw_eq _ _).mp q))).2) (by decide) (by decide) kz) ?_
      have q67f := q19f.trans (if_neg hc67)
      show own_Fin p e below G (T61.setTop (mkF m 105 #[.val (.long x0), .second, .val (.long x1), .second, .val (.long (f1 x0 x1)), .second, .val (.long (f2 x0 x1)), .second, .val (.ref b25), .val (.ref b41), .val (.ref b54)] []))
      exact K105 _ _ N61 X61 e61 q67f
theorem own_plain (a b : Int64) : f0 a b = 1 := by
  simp [f0_105, f0, f8, f9, own_upd]
set_option maxRecDepth 65536 in
set_option maxHeartbeats 40000000 in
theorem comes_1 {Post : Tables → Env → Array Value → State → Outcome → State → Prop} (hpost : ∀ tb e args s v u, (limb_1_1.after args s (.returned v) u = true ∧ limb_1_2.after args s (.returned v) u = true ∧ True) → FrameEnd s (.returned v) u (Jvm.fieldLocs frame_1_writes args s ++ Jvm.arrayLocs frame_1_arrays args s ++ Jvm.staticLocs frame_1_statics s) 16 128 → Post tb e args s (.returned v) u) :
    ArmFor flags0 classFile x code maxLocals ret World_1 tables_1 room_1 Calls_1 rest_1 Pre_1 Post := by
  intro l hfl _ _ p e ha hc hk s m args below hf hA hF happ hP
  obtain ⟨hcalls, hrest, hpre⟩ := hP
  obtain ⟨-, -, -, hnamed, -, -, -, hat⟩ := (Spec.applies_iff hf).mp happ
  obtain ⟨hg, hn⟩ := and_e (Cond.before_iff.mp (show (Jvm.Cond.and given_1 narrow_1).before args s = true from hpre))
  obtain ⟨gg1, gg2⟩ := and_e hg
  obtain ⟨gg3, gg4⟩ := and_e gg2
  obtain ⟨w0, w1, rfl⟩ : ∃ w0 w1 : Value, args = #[w0, w1] := by
    have hs : args.size = 2 := by simpa [Cond.value, given_1] using gg1
    obtain ⟨L⟩ := args
    match L, hs with
    | [w0, w1], _ => exact ⟨w0, w1, rfl⟩
  have hw := fun d (hd : d ∈ tables_1) => atoms_spec (ws := Jvm.Cond.code x code maxLocals ret :: tables_1) hat d (List.mem_cons_of_mem _ hd)
  obtain ⟨i0, ei0⟩ := isL_v gg3
  obtain rfl : w0 = (.long i0) := Option.some.inj ei0
  obtain ⟨i1, ei1⟩ := isL_v gg4
  obtain rfl : w1 = (.long i1) := Option.some.inj ei1
  obtain ⟨n, o, h1, h2, h3, v, L, rfl, ⟨hv, N, -⟩, hq⟩ := rm0 l s _ hw tables_1 i0 i1 s.heap s.heap.size (Nat.le_refl _) p e ha hc hk s m _ below hf ((Spec.applies_iff_loose hf).mp happ).1 ⟨rfl, State.Warmed39.refl s, rfl⟩ trivial
  obtain rfl : v = some (.int 1) := hv.trans (congrArg (fun z => some (Value.int z)) (own_plain i0 i1))
  refine ⟨n, _, h1, h2, h3, hpost _ _ _ _ _ _ ⟨Cond.after_iff.mpr rfl, Cond.after_iff.mpr (eq_i res_at (Term.int_eval (1)) rfl), trivial⟩ ⟨hq.1, hq.2.1, (hq.2.2.sift fun y hy => Or.inr (N y hy)).mono (by decide) (by decide)⟩⟩
theorem main_1_1 : Claimed_1_1 := comes_1 fun _ _ _ _ _ _ h hF => ⟨h.1, hF⟩
theorem main_1_2 : Claimed_1_2 := comes_1 fun _ _ _ _ _ _ h hF => ⟨h.2.1, hF⟩
end Jvm.Pilot.@@N@@
namespace Jvm.Pilot.@@N@@
open Jvm Jvm.ClassFile Sem Op Lib Jvm.Free Jvm.Stand Jvm.Pilot.@@N@@.Jvm.D
/-! MADE BY PROGRAM (witnessworld.py) out of the Statement's table words and the real class files: 16 classes; the members and pool entries that the words name. The judged class is class 1, her method 1. -/
namespace start1
open Jvm.ClassFile
def u (s : String) : CpInfo := .utf8 (stringToUtf16 s)
/-- a pool by its gaps: so many unusable entries, then the entry; so many at the end -/
def gap : Nat → List CpInfo → List CpInfo
  | 0, r => r
  | n + 1, r => .unusable :: gap n r
def poolList (es : List (Nat × CpInfo)) (last : Nat) : List CpInfo := es.foldr (fun e r => gap e.1 (e.2 :: r)) (gap last [])
def pool (es : List (Nat × CpInfo)) (last : Nat) : Array CpInfo := ⟨poolList es last⟩
def fileOf (pool : Array CpInfo) (this : Nat) (attrs : Array Attribute := #[]) (ms : Array MethodInfo := #[]) (fl : Nat := 33) (sup : Nat := 0) (ifs : Array Nat := #[]) (fds : Array FieldInfo := #[]) : ClassFile where
  minorVersion := 0
  majorVersion := 65
  constantPool := pool
  accessFlags := fl
  thisClass := this
  superClass := sup
  interfaces := ifs
  fields := fds
  methods := ms
  attributes := attrs
def plain (name : String) (sup : Option ClassId) : Class where
  name := name
  kind := .ordinary
  loader := none
  accessFlags := 33
  super := sup
  interfaces := #[]
  cf := none
  fields := #[]
  methods := #[]
  instanceTypes := #[]
  staticTypes := #[]
  resolved := #[]
  callSites := []
  init := .initialized
  statics := none
  mirror := none

def pool0 : Array CpInfo := pool [(5, u "<init>"), (0, u "()V"), (1, .class_ 10), (1, u "java/lang/Object")] 113

def k0c0 : Code := { maxStack := 0, maxLocals := 1, code := object_method_1_code, exceptionTable := #[], attributes := #[] }
def k0m0 : Method := { name := "<init>", desc := "()V", sig := { parameters := [], returnType := none }, accessFlags := 1, code := some k0c0 }
/-- java/lang/Object -/
def k0 : Class := { plain "java/lang/Object" none with
  accessFlags := 33
  interfaces := #[]
  cf := some (fileOf pool0 8 #[] #[{ accessFlags := 1, nameIndex := 5, descriptorIndex := 6, attributes := #[] }] 33 0 #[] #[])
  fields := #[]
  methods := #[k0m0]
  instanceTypes := #[]
  staticTypes := #[]
  resolved := Array.replicate 124 none
  statics := none }

def pool1 : Array CpInfo := pool [(2, .class_ 4), (0, .nameAndType 5 6), (0, u "java/lang/Object"), (0, u "<init>"), (0, u "()V"), (0, .methodref 8 9), (0, .class_ 10), (0, .nameAndType 11 12), (0, u "java/lang/Math"), (0, u "min"), (0, u "(JJ)J"), (0, .methodref 8 14), (0, .nameAndType 15 12), (0, u "max"), (0, .class_ 17), (0, u "com/example/braidjoin/braidjoin/cli/ValidityRule$Explicit"), (0, .methodref 16 3), (0, .methodref 16 20), (0, .nameAndType 21 22), (0, u "interval"), (0, u "([J)Lcom/example/braidjoin/braidjoin/Interval;"), (0, .methodref 24 25), (0, .class_ 26), (0, .nameAndType 27 28), (0, u "com/example/braidjoin/braidjoin/Interval"), (0, u "start"), (0, u "()J"), (0, .methodref 24 30), (0, .nameAndType 31 28), (0, u "end"), (0, .class_ 33), (0, u "com/example/braidjoin/braidjoin/cli/ExplicitIntervalPinLaw"), (2, u "law"), (0, u "(JJ)Z")] 9

def k1m0 : Method := { name := "<init>", desc := "()V", sig := { parameters := [], returnType := none }, accessFlags := 1, code := none }
def k1c1 : Code := { maxStack := 4, maxLocals := 11, code := code, exceptionTable := #[], attributes := #[] }
def k1m1 : Method := { name := "law", desc := "(JJ)Z", sig := { parameters := [.long, .long], returnType := some .boolean }, accessFlags := 9, code := some k1c1 }
/-- com/example/braidjoin/braidjoin/cli/ExplicitIntervalPinLaw -/
def k1 : Class := { plain "com/example/braidjoin/braidjoin/cli/ExplicitIntervalPinLaw" (some 0) with
  accessFlags := 49
  interfaces := #[]
  cf := some (fileOf pool1 32 #[] #[{ accessFlags := 1, nameIndex := 5, descriptorIndex := 6, attributes := #[] }, { accessFlags := 9, nameIndex := 36, descriptorIndex := 37, attributes := #[] }] 49 2 #[] #[])
  fields := #[]
  methods := #[k1m0, k1m1]
  instanceTypes := #[]
  staticTypes := #[]
  resolved := Array.replicate 47 none
  statics := none }

def pool2 : Array CpInfo := pool [(1, .class_ 2), (0, u "java/lang/Math"), (1, .class_ 6), (1, u "java/lang/Object"), (0, u "<init>"), (0, u "()V"), (89, .class_ 100), (1, u "java/lang/Math$RandomNumberGeneratorHolder"), (20, u "(JJ)J"), (50, u "negativeZeroFloatBits"), (0, u "J"), (2, u "negativeZeroDoubleBits"), (21, u "max"), (2, u "min"), (43, u "$assertionsDisabled"), (0, u "Z"), (91, u "twoToTheDoubleScaleDown"), (0, u "D"), (4, u "twoToTheDoubleScaleUp"), (9, u "E"), (3, u "PI"), (2, u "TAU"), (2, u "DEGREES_TO_RADIANS"), (0, u "RADIANS_TO_DEGREES")] 94

def k2m0 : Method := { name := "<init>", desc := "()V", sig := { parameters := [], returnType := none }, accessFlags := 2, code := none }
def k2c1 : Code := { maxStack := 4, maxLocals := 4, code := jdk_29_method_66_code, exceptionTable := #[], attributes := #[] }
def k2m1 : Method := { name := "max", desc := "(JJ)J", sig := { parameters := [.long, .long], returnType := some .long }, accessFlags := 9, code := some k2c1 }
def k2c2 : Code := { maxStack := 4, maxLocals := 4, code := jdk_29_method_70_code, exceptionTable := #[], attributes := #[] }
def k2m2 : Method := { name := "min", desc := "(JJ)J", sig := { parameters := [.long, .long], returnType := some .long }, accessFlags := 9, code := some k2c2 }
/-- java/lang/Math -/
def k2 : Class := { plain "java/lang/Math" (some 0) with
  accessFlags := 49
  interfaces := #[]
  cf := some (fileOf pool2 1 #[.nestMembers #[98]] #[{ accessFlags := 2, nameIndex := 7, descriptorIndex := 8, attributes := #[] }, { accessFlags := 9, nameIndex := 198, descriptorIndex := 121, attributes := #[] }, { accessFlags := 9, nameIndex := 201, descriptorIndex := 121, attributes := #[] }] 49 4 #[] #[{ accessFlags := 25, nameIndex := 354, descriptorIndex := 339, attributes := #[] }, { accessFlags := 25, nameIndex := 358, descriptorIndex := 339, attributes := #[] }, { accessFlags := 25, nameIndex := 361, descriptorIndex := 339, attributes := #[] }, { accessFlags := 26, nameIndex := 364, descriptorIndex := 339, attributes := #[] }, { accessFlags := 26, nameIndex := 365, descriptorIndex := 339, attributes := #[] }, { accessFlags := 26, nameIndex := 172, descriptorIndex := 173, attributes := #[] }, { accessFlags := 26, nameIndex := 176, descriptorIndex := 173, attributes := #[] }, { accessFlags := 8, nameIndex := 344, descriptorIndex := 339, attributes := #[] }, { accessFlags := 8, nameIndex := 338, descriptorIndex := 339, attributes := #[] }, { accessFlags := 4120, nameIndex := 245, descriptorIndex := 246, attributes := #[] }])
  fields := #[{ name := "E", type := .double, accessFlags := 25, slot := 0, constantValue := 0 }, { name := "PI", type := .double, accessFlags := 25, slot := 1, constantValue := 0 }, { name := "TAU", type := .double, accessFlags := 25, slot := 2, constantValue := 0 }, { name := "DEGREES_TO_RADIANS", type := .double, accessFlags := 26, slot := 3, constantValue := 0 }, { name := "RADIANS_TO_DEGREES", type := .double, accessFlags := 26, slot := 4, constantValue := 0 }, { name := "negativeZeroFloatBits", type := .long, accessFlags := 26, slot := 5, constantValue := 0 }, { name := "negativeZeroDoubleBits", type := .long, accessFlags := 26, slot := 6, constantValue := 0 }, { name := "twoToTheDoubleScaleUp", type := .double, accessFlags := 8, slot := 7, constantValue := 0 }, { name := "twoToTheDoubleScaleDown", type := .double, accessFlags := 8, slot := 8, constantValue := 0 }, { name := "$assertionsDisabled", type := .boolean, accessFlags := 4120, slot := 9, constantValue := 0 }]
  methods := #[k2m0, k2m1, k2m2]
  instanceTypes := #[]
  staticTypes := #[.double, .double, .double, .double, .double, .long, .long, .double, .double, .boolean]
  resolved := Array.replicate 460 none
  statics := none }

def pool3 : Array CpInfo := pool [(1, .methodref 2 3), (0, .class_ 4), (0, .nameAndType 5 6), (0, u "java/lang/Object"), (0, u "<init>"), (0, u "()V"), (0, .class_ 8), (0, u "java/lang/Record")] 13

def k3c0 : Code := { maxStack := 1, maxLocals := 1, code := jdk_30_method_1_code, exceptionTable := #[], attributes := #[] }
def k3m0 : Method := { name := "<init>", desc := "()V", sig := { parameters := [], returnType := none }, accessFlags := 4, code := some k3c0 }
/-- java/lang/Record -/
def k3 : Class := { plain "java/lang/Record" (some 0) with
  accessFlags := 1057
  interfaces := #[]
  cf := some (fileOf pool3 7 #[] #[{ accessFlags := 4, nameIndex := 5, descriptorIndex := 6, attributes := #[] }] 1057 2 #[] #[])
  fields := #[]
  methods := #[k3m0]
  instanceTypes := #[]
  staticTypes := #[]
  resolved := Array.replicate 22 none
  statics := none }

def pool4 : Array CpInfo := pool [(15, .class_ 16), (0, u "com/example/braidjoin/braidjoin/cli/ValidityRule$Explicit"), (4, .class_ 23), (1, u "com/example/braidjoin/braidjoin/cli/ValidityRule"), (0, u "EXPLICIT"), (0, u "Lcom/example/braidjoin/braidjoin/cli/ValidityRule;"), (0, .class_ 27), (0, u "java/lang/Object"), (20, .class_ 49), (0, u "com/example/braidjoin/braidjoin/cli/ValidityRule$Tumbling"), (0, .class_ 51), (0, u "com/example/braidjoin/braidjoin/cli/ValidityRule$Unbounded"), (0, .class_ 53), (0, u "com/example/braidjoin/braidjoin/cli/ValidityRule$Sliding")] 23

/-- com/example/braidjoin/braidjoin/cli/ValidityRule -/
def k4 : Class := { plain "com/example/braidjoin/braidjoin/cli/ValidityRule" (some 0) with
  accessFlags := 1536
  interfaces := #[]
  cf := some (fileOf pool4 21 #[.nestMembers #[48, 50, 52, 15]] #[] 1536 26 #[] #[{ accessFlags := 25, nameIndex := 24, descriptorIndex := 25, attributes := #[] }])
  fields := #[{ name := "EXPLICIT", type := (.object "com/example/braidjoin/braidjoin/cli/ValidityRule"), accessFlags := 25, slot := 0, constantValue := 0 }]
  methods := #[]
  instanceTypes := #[]
  staticTypes := #[(.object "com/example/braidjoin/braidjoin/cli/ValidityRule")]
  resolved := Array.replicate 77 none
  statics := none }

def pool5 : Array CpInfo := pool [(1, .methodref 2 3), (0, .class_ 4), (0, .nameAndType 5 6), (0, u "java/lang/Record"), (0, u "<init>"), (0, u "()V"), (10, .class_ 18), (0, u "com/example/braidjoin/braidjoin/Interval"), (0, .methodref 17 20), (0, .nameAndType 5 21), (0, u "(JJ)V"), (10, .class_ 33), (0, u "com/example/braidjoin/braidjoin/cli/ValidityRule$Explicit"), (0, .class_ 35), (0, u "com/example/braidjoin/braidjoin/cli/ValidityRule"), (6, u "interval"), (0, u "([J)Lcom/example/braidjoin/braidjoin/Interval;")] 28

def k5c0 : Code := { maxStack := 1, maxLocals := 1, code := prog_27_method_1_code, exceptionTable := #[], attributes := #[] }
def k5m0 : Method := { name := "<init>", desc := "()V", sig := { parameters := [], returnType := none }, accessFlags := 1, code := some k5c0 }
def k5c1 : Code := { maxStack := 6, maxLocals := 2, code := prog_27_method_3_code, exceptionTable := #[], attributes := #[] }
def k5m1 : Method := { name := "interval", desc := "([J)Lcom/example/braidjoin/braidjoin/Interval;", sig := { parameters := [(.array .long)], returnType := some (.object "com/example/braidjoin/braidjoin/Interval") }, accessFlags := 1, code := some k5c1 }
/-- com/example/braidjoin/braidjoin/cli/ValidityRule$Explicit -/
def k5 : Class := { plain "com/example/braidjoin/braidjoin/cli/ValidityRule$Explicit" (some 3) with
  accessFlags := 49
  interfaces := #[4]
  cf := some (fileOf pool5 32 #[.nestHost 34] #[{ accessFlags := 1, nameIndex := 5, descriptorIndex := 6, attributes := #[] }, { accessFlags := 1, nameIndex := 42, descriptorIndex := 43, attributes := #[] }] 49 2 #[34] #[])
  fields := #[]
  methods := #[k5m0, k5m1]
  instanceTypes := #[]
  staticTypes := #[]
  resolved := Array.replicate 72 none
  statics := none }

def pool6 : Array CpInfo := pool [(1, .class_ 2), (0, u "java/lang/Comparable"), (0, .class_ 4), (0, u "java/lang/Object")] 7

/-- java/lang/Comparable -/
def k6 : Class := { plain "java/lang/Comparable" (some 0) with
  accessFlags := 1537
  interfaces := #[]
  cf := some (fileOf pool6 1 #[] #[] 1537 3 #[] #[])
  fields := #[]
  methods := #[]
  instanceTypes := #[]
  staticTypes := #[]
  resolved := Array.replicate 12 none
  statics := none }

def pool7 : Array CpInfo := pool [(3, .methodref 4 5), (0, .class_ 6), (0, .nameAndType 7 8), (0, u "java/lang/Record"), (0, u "<init>"), (0, u "()V"), (3, .class_ 14), (1, u "com/example/braidjoin/braidjoin/Interval"), (9, .fieldref 12 25), (0, .nameAndType 26 27), (0, u "start"), (0, u "J"), (0, .fieldref 12 29), (0, .nameAndType 30 27), (0, u "end"), (24, u "(JJ)V"), (17, .class_ 74), (0, u "java/lang/Comparable"), (0, u "UNBOUNDED"), (13, u "()J")] 36

def k7c0 : Code := { maxStack := 6, maxLocals := 5, code := prog_4_method_1_code, exceptionTable := #[], attributes := #[] }
def k7m0 : Method := { name := "<init>", desc := "(JJ)V", sig := { parameters := [.long, .long], returnType := none }, accessFlags := 1, code := some k7c0 }
def k7c1 : Code := { maxStack := 2, maxLocals := 1, code := prog_4_method_9_code, exceptionTable := #[], attributes := #[] }
def k7m1 : Method := { name := "start", desc := "()J", sig := { parameters := [], returnType := some .long }, accessFlags := 1, code := some k7c1 }
def k7c2 : Code := { maxStack := 2, maxLocals := 1, code := prog_4_method_10_code, exceptionTable := #[], attributes := #[] }
def k7m2 : Method := { name := "end", desc := "()J", sig := { parameters := [], returnType := some .long }, accessFlags := 1, code := some k7c2 }
/-- com/example/braidjoin/braidjoin/Interval -/
def k7 : Class := { plain "com/example/braidjoin/braidjoin/Interval" (some 3) with
  accessFlags := 49
  interfaces := #[6]
  cf := some (fileOf pool7 12 #[] #[{ accessFlags := 1, nameIndex := 7, descriptorIndex := 55, attributes := #[] }, { accessFlags := 1, nameIndex := 26, descriptorIndex := 89, attributes := #[] }, { accessFlags := 1, nameIndex := 30, descriptorIndex := 89, attributes := #[] }] 49 4 #[73] #[{ accessFlags := 18, nameIndex := 26, descriptorIndex := 27, attributes := #[] }, { accessFlags := 18, nameIndex := 30, descriptorIndex := 27, attributes := #[] }, { accessFlags := 25, nameIndex := 75, descriptorIndex := 27, attributes := #[] }])
  fields := #[{ name := "start", type := .long, accessFlags := 18, slot := 0, constantValue := 0 }, { name := "end", type := .long, accessFlags := 18, slot := 1, constantValue := 0 }, { name := "UNBOUNDED", type := .long, accessFlags := 25, slot := 0, constantValue := 0 }]
  methods := #[k7m0, k7m1, k7m2]
  instanceTypes := #[.long, .long]
  staticTypes := #[.long]
  resolved := Array.replicate 126 none
  statics := none }

def pool8 : Array CpInfo := pool [(1, u "java/lang/Cloneable"), (0, .class_ 1), (0, u "java/lang/Object"), (0, .class_ 3)] 3

/-- java/lang/Cloneable -/
def k8 : Class := { plain "java/lang/Cloneable" (some 0) with
  accessFlags := 1537
  interfaces := #[]
  cf := some (fileOf pool8 2 #[] #[] 1537 4 #[] #[])
  fields := #[]
  methods := #[]
  instanceTypes := #[]
  staticTypes := #[]
  resolved := Array.replicate 8 none
  statics := none }

def pool9 : Array CpInfo := pool [(1, u "java/io/Serializable"), (0, .class_ 1), (0, u "java/lang/Object"), (0, .class_ 3)] 3

/-- java/io/Serializable -/
def k9 : Class := { plain "java/io/Serializable" (some 0) with
  accessFlags := 1537
  interfaces := #[]
  cf := some (fileOf pool9 2 #[] #[] 1537 4 #[] #[])
  fields := #[]
  methods := #[]
  instanceTypes := #[]
  staticTypes := #[]
  resolved := Array.replicate 8 none
  statics := none }

/-- the primitive byte -/
def k10 : Class := { plain "byte" none with kind := .primitive 'B', accessFlags := 0x411 }
/-- [B -/
def k11 : Class := { plain "[B" (some 0) with kind := .array 10 .byte, interfaces := #[8, 9], accessFlags := 1041 }

/-- the primitive int -/
def k12 : Class := { plain "int" none with kind := .primitive 'I', accessFlags := 0x411 }
/-- [I -/
def k13 : Class := { plain "[I" (some 0) with kind := .array 12 .int, interfaces := #[8, 9], accessFlags := 1041 }

/-- the primitive long -/
def k14 : Class := { plain "long" none with kind := .primitive 'J', accessFlags := 0x411 }
/-- [J -/
def k15 : Class := { plain "[J" (some 0) with kind := .array 14 .long, interfaces := #[8, 9], accessFlags := 1041 }

def heap : Heap := #[]
def classes : Array Class := #[k0, k1, k2, k3, k4, k5, k6, k7, k8, k9, k10, k11, k12, k13, k14, k15]
def interned : List (Array UInt16 × Addr) := []
def slotsUsed : Nat := 0
def theMethod : MethodId := ⟨1, 1⟩
def args0 : Array Value := #[.long 5, .long 6]
def aboutOver (below : List Frame) : State where
  vm := { classes := classes, interned := interned.toArray }
  heap := heap
  slotsUsed := slotsUsed
  threads := #[{ frames := .invoking theMethod args0 :: below }]
def below0 : List Frame := [.native { method := ⟨0, 0⟩, args := #[] }]
def about1 : State := aboutOver below0
def p0 : Program := .bare "" "" ""
def e0 : Env := launch0.env 0 0 0
theorem w_frames : about1.frames = Frame.invoking theMethod args0 :: below0 := rfl
set_option maxRecDepth 65536 in
theorem w_args : argsFit about1.vm theMethod args0 = true := by decide +kernel
set_option maxRecDepth 65536 in
theorem w_heap : heapFits about1 = true := by decide +kernel
set_option maxRecDepth 65536 in
theorem w_runnable : about1.curStatus? = some .runnable := by decide +kernel
set_option maxRecDepth 65536 in
theorem w_alone : about1.alone = true := by decide +kernel
set_option maxRecDepth 65536 in
theorem w_named : about1.methodNamed? x = some theMethod := by decide +kernel
set_option maxRecDepth 65536 in
theorem w_hears : about1.hears theMethod below0 = true := by decide +kernel
set_option maxRecDepth 65536 in
theorem w_ripe : about1.ripe theMethod args0 below0 = true := by decide +kernel
theorem w_running : about1.status = .running := rfl
set_option maxRecDepth 65536 in
theorem w_room : about1.hasRoom e0.platform room_1 = true :=
  launch0.hasRoom_least _ room_1 (by decide +kernel) (by decide +kernel) (by decide +kernel) (by decide +kernel) (by decide +kernel) (by decide +kernel)
theorem allAtoms_all (ts : List Jvm.Cond) (a : Array Jvm.Value) (st : Jvm.State) : (allAtoms ts).before a st = ts.all (fun c => c.before a st) := by
  induction ts with
  | nil => rfl
  | cons c t ih =>
    show (Jvm.Cond.and c (allAtoms t)).before a st = _
    rw [Jvm.Cond.before_and, ih, List.all_cons]
def words1 : List Jvm.Cond := Jvm.Cond.code x code maxLocals ret :: tables_1
/-- a 'code' word, met by the world's own term for the bytes: nothing is compared byte by byte -/
theorem code_word {y : MethodName} {bytes : ByteArray} {mx : Nat} {rt : Option FieldType} {a : Array Value} {s : State} {m : MethodId} {meth : Method} {c : Code} (h1 : s.methodNamed? y = some m) (h2 : s.vm.method? m = some meth) (h3 : meth.code = some c) (h4 : c.code = bytes)
    (h5 : (c.maxLocals == mx && c.exceptionTable.isEmpty && decide (c.maxStack ≤ mostOperands) && decide (meth.sig.returnType = rt) && !meth.locks && decide (parseMethodDescriptor y.desc = some meth.sig)) = true) : (Jvm.Cond.code y bytes mx rt).before a s = true := by
  simp only [Bool.and_eq_true, beq_iff_eq, Bool.not_eq_true', decide_eq_true_eq] at h5
  obtain ⟨⟨⟨⟨⟨g1, g2⟩, g3⟩, g4⟩, g5⟩, g6⟩ := h5
  simp [Cond.before, Cond.holds, Cond.value, h1, h2, h3, h4, g1, g2, g3, g4, g5, g6]
def isCode : Jvm.Cond → Bool
  | .code _ _ _ _ => true
  | _ => false
theorem all_split {L : List Jvm.Cond} {P : Jvm.Cond → Bool} (h1 : L.all (fun c => isCode c || P c) = true) (h2 : ∀ c ∈ L.filter isCode, P c = true) : L.all P = true := by
  refine List.all_eq_true.mpr fun c hc => ?_
  have h := List.all_eq_true.mp h1 c hc
  rcases Bool.eq_false_or_eq_true (isCode c) with hi | hi
  · exact h2 c (List.mem_filter.mpr ⟨hc, hi⟩)
  · simpa [hi] using h
set_option maxRecDepth 65536 in
theorem w_c0 : (Jvm.Cond.code x code maxLocals ret).before args0 about1 = true := code_word (m := ⟨1, 1⟩) (meth := k1m1) (c := k1c1) (by decide +kernel) rfl rfl rfl (by decide +kernel)
set_option maxRecDepth 65536 in
theorem w_c1 : (Jvm.Cond.code ({ cls := "java/lang/Math", name := "min", desc := "(JJ)J" } : Jvm.MethodName) jdk_29_method_70_code (4 : Nat) (Option.some Jvm.ClassFile.FieldType.long)).before args0 about1 = true := code_word (m := ⟨2, 2⟩) (meth := k2m2) (c := k2c2) (by decide +kernel) rfl rfl rfl (by decide +kernel)
set_option maxRecDepth 65536 in
theorem w_c2 : (Jvm.Cond.code ({ cls := "java/lang/Math", name := "max", desc := "(JJ)J" } : Jvm.MethodName) jdk_29_method_66_code (4 : Nat) (Option.some Jvm.ClassFile.FieldType.long)).before args0 about1 = true := code_word (m := ⟨2, 1⟩) (meth := k2m1) (c := k2c1) (by decide +kernel) rfl rfl rfl (by decide +kernel)
set_option maxRecDepth 65536 in
theorem w_c3 : (Jvm.Cond.code ({ cls := "com/example/braidjoin/braidjoin/cli/ValidityRule$Explicit", name := "<init>", desc := "()V" } : Jvm.MethodName) prog_27_method_1_code (1 : Nat) (Option.none : Option Jvm.ClassFile.FieldType)).before args0 about1 = true := code_word (m := ⟨5, 0⟩) (meth := k5m0) (c := k5c0) (by decide +kernel) rfl rfl rfl (by decide +kernel)
set_option maxRecDepth 65536 in
theorem w_c4 : (Jvm.Cond.code ({ cls := "java/lang/Record", name := "<init>", desc := "()V" } : Jvm.MethodName) jdk_30_method_1_code (1 : Nat) (Option.none : Option Jvm.ClassFile.FieldType)).before args0 about1 = true := code_word (m := ⟨3, 0⟩) (meth := k3m0) (c := k3c0) (by decide +kernel) rfl rfl rfl (by decide +kernel)
set_option maxRecDepth 65536 in
theorem w_c5 : (Jvm.Cond.code ({ cls := "java/lang/Object", name := "<init>", desc := "()V" } : Jvm.MethodName) object_method_1_code (1 : Nat) (Option.none : Option Jvm.ClassFile.FieldType)).before args0 about1 = true := code_word (m := ⟨0, 0⟩) (meth := k0m0) (c := k0c0) (by decide +kernel) rfl rfl rfl (by decide +kernel)
set_option maxRecDepth 65536 in
theorem w_c6 : (Jvm.Cond.code ({ cls := "com/example/braidjoin/braidjoin/cli/ValidityRule$Explicit", name := "interval", desc := "([J)Lcom/example/braidjoin/braidjoin/Interval;" } : Jvm.MethodName) prog_27_method_3_code (2 : Nat) (Option.some (Jvm.ClassFile.FieldType.object "com/example/braidjoin/braidjoin/Interval"))).before args0 about1 = true := code_word (m := ⟨5, 1⟩) (meth := k5m1) (c := k5c1) (by decide +kernel) rfl rfl rfl (by decide +kernel)
set_option maxRecDepth 65536 in
theorem w_c7 : (Jvm.Cond.code ({ cls := "com/example/braidjoin/braidjoin/Interval", name := "<init>", desc := "(JJ)V" } : Jvm.MethodName) prog_4_method_1_code (5 : Nat) (Option.none : Option Jvm.ClassFile.FieldType)).before args0 about1 = true := code_word (m := ⟨7, 0⟩) (meth := k7m0) (c := k7c0) (by decide +kernel) rfl rfl rfl (by decide +kernel)
set_option maxRecDepth 65536 in
theorem w_c8 : (Jvm.Cond.code ({ cls := "com/example/braidjoin/braidjoin/Interval", name := "start", desc := "()J" } : Jvm.MethodName) prog_4_method_9_code (1 : Nat) (Option.some Jvm.ClassFile.FieldType.long)).before args0 about1 = true := code_word (m := ⟨7, 1⟩) (meth := k7m1) (c := k7c1) (by decide +kernel) rfl rfl rfl (by decide +kernel)
set_option maxRecDepth 65536 in
theorem w_c9 : (Jvm.Cond.code ({ cls := "com/example/braidjoin/braidjoin/Interval", name := "end", desc := "()J" } : Jvm.MethodName) prog_4_method_10_code (1 : Nat) (Option.some Jvm.ClassFile.FieldType.long)).before args0 about1 = true := code_word (m := ⟨7, 2⟩) (meth := k7m2) (c := k7c2) (by decide +kernel) rfl rfl rfl (by decide +kernel)
def codes1 : List Jvm.Cond := [Jvm.Cond.code x code maxLocals ret, Jvm.Cond.code ({ cls := "java/lang/Math", name := "min", desc := "(JJ)J" } : Jvm.MethodName) jdk_29_method_70_code (4 : Nat) (Option.some Jvm.ClassFile.FieldType.long), Jvm.Cond.code ({ cls := "java/lang/Math", name := "max", desc := "(JJ)J" } : Jvm.MethodName) jdk_29_method_66_code (4 : Nat) (Option.some Jvm.ClassFile.FieldType.long), Jvm.Cond.code ({ cls := "com/example/braidjoin/braidjoin/cli/ValidityRule$Explicit", name := "<init>", desc := "()V" } : Jvm.MethodName) prog_27_method_1_code (1 : Nat) (Option.none : Option Jvm.ClassFile.FieldType), Jvm.Cond.code ({ cls := "java/lang/Record", name := "<init>", desc := "()V" } : Jvm.MethodName) jdk_30_method_1_code (1 : Nat) (Option.none : Option Jvm.ClassFile.FieldType), Jvm.Cond.code ({ cls := "java/lang/Object", name := "<init>", desc := "()V" } : Jvm.MethodName) object_method_1_code (1 : Nat) (Option.none : Option Jvm.ClassFile.FieldType), Jvm.Cond.code ({ cls := "com/example/braidjoin/braidjoin/cli/ValidityRule$Explicit", name := "interval", desc := "([J)Lcom/example/braidjoin/braidjoin/Interval;" } : Jvm.MethodName) prog_27_method_3_code (2 : Nat) (Option.some (Jvm.ClassFile.FieldType.object "com/example/braidjoin/braidjoin/Interval")), Jvm.Cond.code ({ cls := "com/example/braidjoin/braidjoin/Interval", name := "<init>", desc := "(JJ)V" } : Jvm.MethodName) prog_4_method_1_code (5 : Nat) (Option.none : Option Jvm.ClassFile.FieldType), Jvm.Cond.code ({ cls := "com/example/braidjoin/braidjoin/Interval", name := "start", desc := "()J" } : Jvm.MethodName) prog_4_method_9_code (1 : Nat) (Option.some Jvm.ClassFile.FieldType.long), Jvm.Cond.code ({ cls := "com/example/braidjoin/braidjoin/Interval", name := "end", desc := "()J" } : Jvm.MethodName) prog_4_method_10_code (1 : Nat) (Option.some Jvm.ClassFile.FieldType.long)]
set_option maxRecDepth 65536 in
theorem codes_eq : words1.filter isCode = codes1 := rfl
theorem w_codes : ∀ c ∈ words1.filter isCode, c.before args0 about1 = true := by
  rw [codes_eq]
  intro c hc
  simp only [codes1, List.mem_cons, List.not_mem_nil, or_false] at hc
  rcases hc with rfl | rfl | rfl | rfl | rfl | rfl | rfl | rfl | rfl | rfl
  · exact w_c0
  · exact w_c1
  · exact w_c2
  · exact w_c3
  · exact w_c4
  · exact w_c5
  · exact w_c6
  · exact w_c7
  · exact w_c8
  · exact w_c9
set_option maxRecDepth 65536 in
theorem w_t1 : (words1.take 24).all (fun c => isCode c || c.before args0 about1) = true := by decide +kernel
set_option maxRecDepth 65536 in
theorem w_t2 : ((words1.drop 24).take 24).all (fun c => isCode c || c.before args0 about1) = true := by decide +kernel
set_option maxRecDepth 65536 in
theorem w_t3 : ((words1.drop 24).drop 24).all (fun c => isCode c || c.before args0 about1) = true := by decide +kernel
theorem w_tables : (allAtoms (Jvm.Cond.code x code maxLocals ret :: tables_1)).before args0 about1 = true := by
  rw [allAtoms_all]
  show words1.all (fun c => c.before args0 about1) = true
  refine all_split ?_ w_codes
  rw [← List.take_append_drop 24 words1, List.all_append, w_t1, ← List.take_append_drop 24 (words1.drop 24), List.all_append, w_t2, w_t3]
  rfl
set_option maxRecDepth 65536 in
theorem w_case : (Jvm.Cond.and given_1 narrow_1).before args0 about1 = true := by decide +kernel
theorem w_applies : (headSpec (Jvm.Cond.code x code maxLocals ret :: tables_1) room_1).applies x e0.platform about1 = true :=
  (Spec.applies_iff w_frames).mpr ⟨w_running, w_runnable, w_alone, w_named, w_hears, w_ripe, w_room, w_tables⟩
theorem atStart : AtStart classFile x code maxLocals ret World_1 tables_1 room_1 Calls_1 rest_1 Pre_1 launch0 p0 e0 about1 theMethod args0 below0 :=
  ⟨lists_1, trivial, launch0.admits_env _ _ _, launch0.least_env, fairChoices_fair.cas, fairChoices_fair.clock, w_frames, w_args, w_heap, w_applies, trivial, trivial, w_case⟩
end start1
theorem witness_1 : WitnessClaimed_1 := ⟨start1.p0, start1.e0, start1.about1, start1.theMethod, start1.args0, start1.below0, start1.atStart⟩
end Jvm.Pilot.@@N@@
