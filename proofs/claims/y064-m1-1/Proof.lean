import JvmDerived
import JvmDerived.Pilot.@@N@@Statement
import JvmDerived.Pilot.@@N@@Code
set_option linter.unusedVariables false
set_option linter.unusedSimpArgs false

namespace Jvm.Pilot.@@N@@
open Jvm Jvm.ClassFile Sem Op Lib Jvm.Free Jvm.Stand Jvm.LawKit Jvm.RoadKit Bundle Jvm.Pilot.@@N@@.Jvm.D

section OwnKit
variable {p : Program} {l : Launch} {e : Env} {R : Room} {s : State} {m : MethodId} {args : Array Value} {below : List Frame} {meth : Method} {c : Code} {T : State} {locs : List Loc} {cells slots : Nat} {G : Outcome → State → Prop} {Q : Option Value → Heap → List Loc → Prop} {C S : Nat} {Z : State} {h h' : Heap}
/-- from the state t the invocation comes to an end of which G holds -/
def own_Fin (p : Program) (e : Env) (below : List Frame) (G : Outcome → State → Prop) (t : State) : Prop := ∃ s₂ o, Steps p.tables e below t s₂ ∧ s₂.status = .running ∧ Ended s₂ below o ∧ G o s₂
def own_G (s : State) (Q : Option Value → Heap → List Loc → Prop) (C S : Nat) (o : Outcome) (U' : State) : Prop := ∃ v L, o = .returned v ∧ Q v U'.heap L ∧ FrameEnd s o U' L C S
theorem own_to {t u : State} (h : ∀ z, Steps p.tables e below u z → Steps p.tables e below t z) (k : own_Fin p e below G u) : own_Fin p e below G t := by
  obtain ⟨a, b, c, d⟩ := k; exact ⟨a, b, h _ c, d⟩
theorem own_via {t u : State} (h : Steps p.tables e below t u) (k : own_Fin p e below G u) : own_Fin p e below G t := own_to (fun _ kz => h.trans kz) k
theorem own_retW (X : Stand p l e R s m args below meth c T locs cells slots) (hx : p.tables.exec = Jvm.exec) (hlk : meth.locks = false) (hG : G = own_G s Q C S) {f : JFrame} {w : Option Value} (hv : meth.sig.returnType = none → w = none)
    (st : ∀ fs, (∀ (f : JFrame) (acts : List Action), f.method = m → f.locked = none → f.entered = [] → (doReturn e (T.setTop f) acts w).1 = T.setFrames fs) → Steps p.tables e below (T.setTop f) (T.setFrames fs))
    (hc : cells ≤ C) (hs : slots ≤ S) (hQ : Q w T.heap locs) : own_Fin p e below G (T.setTop f) := by
  subst hG
  obtain ⟨fs, hr, hrun, hended, hW, hsame⟩ := X.leave (v := w) hv hlk
  exact ⟨_, _, st fs hr, hrun, hended, _, _, rfl, hQ, ⟨_, rfl⟩, hW, hsame.mono hc hs⟩
theorem own_retI (X : Stand p l e R s m args below meth c T locs cells slots) (hx : p.tables.exec = Jvm.exec) (hlk : meth.locks = false) (hG : G = own_G s Q C S) {pc : Nat} {Ls : Array Slot} {z : Int32} {rest : List Value} (hret : meth.sig.returnType = some .int) (hd : decode c.code pc = .ok (.ireturn, 1))
    (hc : cells ≤ C) (hs : slots ≤ S) (hQ : Q (some (.int z)) T.heap locs) : own_Fin p e below G (T.setTop (mkF m pc Ls (.int z :: rest))) :=
  own_retW X hx hlk hG (w := some (.int z)) (fun h => by rw [hret] at h; cases h) (fun fs hr => retOut X hx hret rfl (Or.inl ⟨rfl, Or.inl rfl, z, rfl⟩) hd hr) hc hs hQ
theorem own_retJ (X : Stand p l e R s m args below meth c T locs cells slots) (hx : p.tables.exec = Jvm.exec) (hlk : meth.locks = false) (hG : G = own_G s Q C S) {pc : Nat} {Ls : Array Slot} {z : Int64} {rest : List Value} (hret : meth.sig.returnType = some .long) (hd : decode c.code pc = .ok (.lreturn, 1))
    (hc : cells ≤ C) (hs : slots ≤ S) (hQ : Q (some (.long z)) T.heap locs) : own_Fin p e below G (T.setTop (mkF m pc Ls (.long z :: rest))) :=
  own_retW X hx hlk hG (w := some (.long z)) (fun h => by rw [hret] at h; cases h) (fun fs hr => retOut X hx hret rfl (Or.inr (Or.inl ⟨rfl, rfl, z, rfl⟩)) hd hr) hc hs hQ
theorem own_retA (X : Stand p l e R s m args below meth c T locs cells slots) (hx : p.tables.exec = Jvm.exec) (hlk : meth.locks = false) (hG : G = own_G s Q C S) {pc : Nat} {Ls : Array Slot} {w : Value} {rest : List Value} {t : FieldType} (hret : meth.sig.returnType = some t) (ht : t.isReference = true) (hw : w.isRef = true) (hd : decode c.code pc = .ok (.areturn, 1))
    (hc : cells ≤ C) (hs : slots ≤ S) (hQ : Q (some w) T.heap locs) : own_Fin p e below G (T.setTop (mkF m pc Ls (w :: rest))) :=
  own_retW X hx hlk hG (w := some w) (fun h => by rw [hret] at h; cases h) (fun fs hr => retOut X hx hret (by rcases ref_cases hw with rfl | ⟨a, rfl⟩ <;> cases t <;> first | rfl | (simp [FieldType.isReference] at ht)) (Or.inr (Or.inr (Or.inr (Or.inr ⟨rfl, ht, hw⟩)))) hd hr) hc hs hQ
theorem own_retN (X : Stand p l e R s m args below meth c T locs cells slots) (hx : p.tables.exec = Jvm.exec) (hlk : meth.locks = false) (hG : G = own_G s Q C S) {pc : Nat} {Ls : Array Slot} {z : Int32} {rest : List Value} {t : FieldType} (hret : meth.sig.returnType = some t) (ht : t = .boolean ∨ t = .byte ∨ t = .char ∨ t = .short) (hd : decode c.code pc = .ok (.ireturn, 1))
    (hc : cells ≤ C) (hs : slots ≤ S) (hQ : Q (some (.int (nar t z))) T.heap locs) : own_Fin p e below G (T.setTop (mkF m pc Ls (.int z :: rest))) :=
  own_retW X hx hlk hG (w := some (.int (nar t z))) (fun h => by rw [hret] at h; cases h) (fun fs hr => retN X hx hret ht hd hr) hc hs hQ
theorem own_retV (X : Stand p l e R s m args below meth c T locs cells slots) (hx : p.tables.exec = Jvm.exec) (hlk : meth.locks = false) (hG : G = own_G s Q C S) {pc : Nat} {Ls : Array Slot} (hret : meth.sig.returnType = none) (hd : decode c.code pc = .ok (.return_, 1))
    (hc : cells ≤ C) (hs : slots ≤ S) (hQ : Q none T.heap locs) : own_Fin p e below G (T.setTop (mkF m pc Ls [])) :=
  own_retW X hx hlk hG (w := none) (fun _ => rfl) (fun fs hr => X.returnOut hx hret hd hr) hc hs hQ
theorem own_lrem {g : JFrame} {target : State} (X : Stand p l e R s m args below meth c T locs cells slots) (hx : p.tables.exec = Jvm.exec) (hg : g.method = m) {x y : Int64} {rest : List Value} (hd : decode c.code g.pc = .ok (.lrem, 1)) (hs : g.stack = .long y :: .long x :: rest) (hy : y ≠ 0)
    (hr : Steps p.tables e below (T.setTop { g with pc := g.pc + 1, stack := .long (x % y) :: rest }) target) : Steps p.tables e below (T.setTop g) target := by
  have q : x - x / y * y = x % y := lrem_mod x y
  exact XS.lrem X.here hx hg hd hs hy (by rw [q]; exact hr)
def own_Pair (a b : Slot) : Prop := (a = .unset ∧ b = .unset) ∨ ∃ x, a = .val (.long x) ∧ b = .second
/-- the array at a has n places; place i holds mk (f i) -/
def own_AV {α : Type} (mk : α → Value) (Z : State) (h : Heap) (a : Addr) (ty : FieldType) (n : Nat) (f : Nat → α) : Prop := n < 2 ^ 31 ∧ ∃ c : Cell, Arr Z h a c ty ∧ c.slots.size = n ∧ ∀ i, i < n → c.slots[i]? = some (mk (f i))
def own_upd {α : Type} (f : Nat → α) (k : Nat) (v : α) : Nat → α := fun i => if i = k then v else f i
section
variable {α : Type} {mk : α → Value} {a b : Addr} {ty : FieldType} {n : Nat} {f f' : Nat → α} {ws : List Addr} {sl : Nat} {v : Value}
theorem own_AV.lt (F : own_AV mk Z h a ty n f) : a < h.size := by obtain ⟨_, c, A, -⟩ := F; exact A.lt
theorem own_AV.ext (F : own_AV mk Z h a ty n f) (E : Ext h h') : own_AV mk Z h' a ty n f := by obtain ⟨q, c, A, r⟩ := F; exact ⟨q, c, A.ext E, r⟩
theorem own_AV.other (F : own_AV mk Z h b ty n f) (W : Wr h h' a sl v) (q : b ≠ a) : own_AV mk Z h' b ty n f := by obtain ⟨q', c, A, r⟩ := F; exact ⟨q', c, A.other W q, r⟩
theorem own_AV.keep (F : own_AV mk Z h a ty n f) (K : Keep h h' ws) (q : a ∉ ws) : own_AV mk Z h' a ty n f := by obtain ⟨q', c, A, r⟩ := F; exact ⟨q', c, ⟨K.2.1 a c A.1 q, A.2⟩, r⟩
theorem own_AV.congr (F : own_AV mk Z h a ty n f) (q : ∀ i, i < n → f i = f' i) : own_AV mk Z h a ty n f' := by obtain ⟨q', c, A, r, s⟩ := F; exact ⟨q', c, A, r, fun i hi => by rw [s i hi, q i hi]⟩
theorem own_AV.new {k : ClassId} {z : Int32} (A : Arr Z h a (newA k ty z) ty) (q : ¬ z < 0) (hn : z.toNatClampNeg = n) (hf : ∀ i : Nat, defaultValue ty = mk (f i)) : own_AV mk Z h a ty n f := by
  refine ⟨hn ▸ (back32 q).2, _, A, (sz_new _ _ _).trans hn, fun i hi => ?_⟩
  rw [← hf i]; simp [newA, hn, hi]
theorem own_in {c : Cell} {j : Int32} {k : Nat} (S : c.slots.size = n) (hj : ¬ j < 0) (hk : j.toNatClampNeg = k) (hlt : k < n) : ¬ (j < 0 ∨ c.slots.size ≤ j.toNatClampNeg) := fun q => q.elim hj fun r => by omega
theorem own_AV.set {c : Cell} {j : Int32} {k : Nat} {w : α} (nn : n < 2 ^ 31) (A : Arr Z h a c ty) (S : c.slots.size = n) (H : ∀ i, i < n → c.slots[i]? = some (mk (f i))) (W : Wr h h' a j.toNatClampNeg (mk w)) (hk : j.toNatClampNeg = k) : own_AV mk Z h' a ty n (own_upd f k w) := by
  subst hk
  refine ⟨nn, _, A.same W, by rw [sz_set]; exact S, fun i hi => ?_⟩
  show (c.setSlot j.toNatClampNeg (mk w)).slots[i]? = some (mk (if i = j.toNatClampNeg then w else f i))
  simp only [Cell.setSlot]
  by_cases q : i = j.toNatClampNeg
  · subst q; rw [if_pos rfl]; simp [S, hi]
  · rw [if_neg q, Array.getElem?_setIfInBounds_ne (fun r => q r.symm)]; exact H i hi
theorem own_iaload (X : Stand p l e R s m args below meth c T locs cells slots) (hx : p.tables.exec = Jvm.exec) (hZ : Z.Warmed39 s.vm) (eT : T.heap = h) {f : Nat → Int32} (F : own_AV Value.int Z h a .int n f) {j : Int32} {k : Nat} (hj : ¬ j < 0) (hk : j.toNatClampNeg = k) (hlt : k < n)
    {g : JFrame} (hg : g.method = m) {rest : List Value} (hs : g.stack = .int j :: .ref a :: rest) (hd : decode c.code g.pc = .ok (.iaload, 1)) {target : State} (hr : Steps p.tables e below (T.setTop { g with pc := g.pc + 1, stack := .int (f k) :: rest }) target) : Steps p.tables e below (T.setTop g) target := by
  obtain ⟨_, cl, A, S, H⟩ := F
  exact X.iaload hx (j := j) (v := .int (f k)) (by rw [eT]; exact A.1) (State.isArrayOf_alike hZ.alike A.2.1) A.2.2 (own_in S hj hk hlt) (by rw [hk]; exact H k hlt) hg hs hd _ hr
theorem own_laload (X : Stand p l e R s m args below meth c T locs cells slots) (hx : p.tables.exec = Jvm.exec) (hZ : Z.Warmed39 s.vm) (eT : T.heap = h) {f : Nat → Int64} (F : own_AV Value.long Z h a .long n f) {j : Int32} {k : Nat} (hj : ¬ j < 0) (hk : j.toNatClampNeg = k) (hlt : k < n)
    {g : JFrame} (hg : g.method = m) {rest : List Value} (hs : g.stack = .int j :: .ref a :: rest) (hd : decode c.code g.pc = .ok (.laload, 1)) {target : State} (hr : Steps p.tables e below (T.setTop { g with pc := g.pc + 1, stack := .long (f k) :: rest }) target) : Steps p.tables e below (T.setTop g) target := by
  obtain ⟨_, cl, A, S, H⟩ := F
  exact X.laload hx (j := j) (v := .long (f k)) (by rw [eT]; exact A.1) (State.isArrayOf_alike hZ.alike A.2.1) A.2.2 (own_in S hj hk hlt) (by rw [hk]; exact H k hlt) hg hs hd _ hr
theorem own_baload (X : Stand p l e R s m args below meth c T locs cells slots) (hx : p.tables.exec = Jvm.exec) (hZ : Z.Warmed39 s.vm) (eT : T.heap = h) {f : Nat → Int32} (F : own_AV Value.int Z h a .byte n f) {j : Int32} {k : Nat} (hj : ¬ j < 0) (hk : j.toNatClampNeg = k) (hlt : k < n)
    {g : JFrame} (hg : g.method = m) {rest : List Value} (hs : g.stack = .int j :: .ref a :: rest) (hd : decode c.code g.pc = .ok (.baload, 1)) {target : State} (hr : Steps p.tables e below (T.setTop { g with pc := g.pc + 1, stack := .int (f k) :: rest }) target) : Steps p.tables e below (T.setTop g) target := by
  obtain ⟨_, cl, A, S, H⟩ := F
  exact X.baloadBytes hx (j := j) (v := .int (f k)) (by rw [eT]; exact A.1) (State.isArrayOf_alike hZ.alike A.2.1) A.2.2 (own_in S hj hk hlt) (by rw [hk]; exact H k hlt) hg hs hd _ hr
theorem own_cloneI (X : Stand p l e R s m args below meth c T locs cells slots) (hx : p.tables.exec = Jvm.exec) (hZ : Z.Warmed39 s.vm) {a0 : Array Value} {own ad : String} {index : Nat} (hown : s.vm.findClass own = some m.cls)
    (w1 : (Cond.methodLink own index ⟨ad, "clone", "()Ljava/lang/Object;"⟩).before a0 Z = true) (w2 : (Cond.sameMethod ad "java/lang/Object" "clone" "()Ljava/lang/Object;").before a0 Z = true) (w3 : (Cond.native ⟨"java/lang/Object", "clone", "()Ljava/lang/Object;"⟩).before a0 Z = true)
    (w4 : (Cond.instanceMethod ⟨"java/lang/Object", "clone", "()Ljava/lang/Object;"⟩).before a0 Z = true) (w5 : (Cond.selects ad ⟨ad, "clone", "()Ljava/lang/Object;"⟩ ⟨"java/lang/Object", "clone", "()Ljava/lang/Object;"⟩).before a0 Z = true) (w6 : (Cond.castable ad "java/lang/Cloneable").before a0 Z = true)
    (eT : T.heap = h) {f : Nat → Int32} (F : own_AV Value.int Z h a .int n f) (E : Exa Z h a ad) {g : JFrame} (hg : g.method = m) (hsize : g.locals.size = c.maxLocals) {rest : List Value} (hs : g.stack = .ref a :: rest) (hd : decode c.code g.pc = .ok (.invokevirtual index, 3))
    (hf : 1 ≤ R.frames) {W cap : Nat} (hW : 2 * g.monitorRoom + (rest.map fun v => v.category).sum ≤ W) (hl : W + 14 ≤ R.locals) (hcap : n ≤ cap) (hc : cells + 1 ≤ R.cells) (hsl : slots + cap ≤ R.slots) :
    ∃ T' h', Stand p l e R s m args below meth c T' locs (cells + 1) (slots + cap) ∧ T'.heap = h' ∧ Ext h h' ∧ own_AV Value.int Z h' h.size .int n f ∧ Exa Z h' h.size ad ∧
      ∀ target, Steps p.tables e below (T'.setTop { g with pc := g.pc + 3, stack := .ref h.size :: rest }) target → Steps p.tables e below (T.setTop g) target := by
  obtain ⟨nn, cl, A, S, H⟩ := F
  have FC : FitC Z cl := fitC_of A fun i hi v hv => by rw [H i (S ▸ hi)] at hv; cases hv; rfl
  obtain ⟨T', h', X', e', ex, A', E', st⟩ := cloneA X hx hZ hown w1 w2 w3 w4 w5 w6 eT A E FC hg hsize hs hd hf hW hl (by rw [S]; exact hcap) hc hsl
  exact ⟨T', h', X', e', ex, ⟨nn, cloneOf cl, A', S, H⟩, E', st⟩
theorem own_alen (X : Stand p l e R s m args below meth c T locs cells slots) (hx : p.tables.exec = Jvm.exec) (hZ : Z.Warmed39 s.vm) (eT : T.heap = h) (F : own_AV mk Z h a ty n f) {z : Int32} (hz : n.toInt32 = z)
    {g : JFrame} (hg : g.method = m) {rest : List Value} (hs : g.stack = .ref a :: rest) (hd : decode c.code g.pc = .ok (.arraylength, 1)) {target : State} (hr : Steps p.tables e below (T.setTop { g with pc := g.pc + 1, stack := .int z :: rest }) target) : Steps p.tables e below (T.setTop g) target := by
  obtain ⟨_, cl, A, S, H⟩ := F
  exact X.arraylength hx (by rw [eT]; exact A.1) (State.isArrayOf_alike hZ.alike A.2.1) hg hs hd _ (by rw [S, hz]; exact hr)
end
end OwnKit
theorem own_pn0 : plainName "java/lang/Record" = true := by first | (simp [plainName, overriddenIn]; done) | decide +kernel
theorem d2_0 : decode jdk_30_method_1_code 0 = .ok (.aload_n 0, 1) := by decide +kernel
theorem d2_1 : decode jdk_30_method_1_code 1 = .ok (.invokespecial 1, 3) := by decide +kernel
theorem d2_4 : decode jdk_30_method_1_code 4 = .ok (.return_, 1) := by decide +kernel
theorem ef2 (m : MethodId) (ad0 : Addr) : entryFrame m #[(.ref ad0)] 1 = mkF m 0 #[.val (.ref ad0)] [] := by first | (simp [entryFrame, mkF, argsToLocals, Value.category]; done) | rfl
def Q2 (Z : State) (ad0 : Addr) (h0 : Heap) (n0 : Nat) (v : Option Value) (h : Heap) (L : List Loc) : Prop := v = none ∧ Fr n0 L ∧ h = h0
set_option maxRecDepth 65536 in
set_option maxHeartbeats 40000000 in
theorem rm2 (l : Launch) (Z : State) (a0 : Array Value) (hw : ∀ d ∈ tables_1, d.before a0 Z = true) (ws : List Jvm.Cond) (ad0 : Addr) (h0 : Heap) (n0 : Nat) (Z0 : n0 ≤ h0.size) :
    MetFree l (⟨"java/lang/Record", "<init>", "()V"⟩ : MethodName) (head1 (Jvm.Cond.code (⟨"java/lang/Record", "<init>", "()V"⟩ : MethodName) jdk_30_method_1_code 1 none :: ws) ({ frames := 1, cells := 0, slots := 0, locals := 12 } : Room)) (fun a U => a = #[(.ref ad0)] ∧ Z.Warmed39 U.vm ∧ U.heap = h0) (fun _ _ _ _ _ => True) (fun _ U o U' => ∃ v L, o = .returned v ∧ Q2 Z ad0 h0 n0 v U'.heap L ∧ FrameEnd U o U' L ({ frames := 1, cells := 0, slots := 0, locals := 12 } : Room).cells ({ frames := 1, cells := 0, slots := 0, locals := 12 } : Room).slots) := by
  refine MetFree.of_bodySF (plainFor_of_name own_pn0) hisR ?_
  intro p e s m args below meth c s₁ Bd hml0 hP hK
  obtain ⟨rfl, hZ, hh⟩ := hP
  have hx := Bd.exec
  have hby := Bd.bytes
  have hml : c.maxLocals = 1 := hml0
  have hown : s.vm.findClass "java/lang/Record" = some m.cls := findClass_of_methodNamed Bd.named
  have hnm := (name_of_methodNamed Bd.named Bd.method).1
  have hlk : meth.locks = false := BodyLoose.notSynchronized Bd
  have X0 : Stand p l e ({ frames := 1, cells := 0, slots := 0, locals := 12 } : Room) s m #[(.ref ad0)] below meth c s₁ [] 0 0 := Stand.of_body Bd
  have e0 : s₁.heap = h0 := by rw [← hh, Bd.state]; rfl
  have N0 := Fr.nil n0
  obtain ⟨G, hG⟩ : ∃ G, G = own_G s (Q2 Z ad0 h0 n0) ({ frames := 1, cells := 0, slots := 0, locals := 12 } : Room).cells ({ frames := 1, cells := 0, slots := 0, locals := 12 } : Room).slots := ⟨_, rfl⟩
  show own_Fin p e below (own_G s (Q2 Z ad0 h0 n0) ({ frames := 1, cells := 0, slots := 0, locals := 12 } : Room).cells ({ frames := 1, cells := 0, slots := 0, locals := 12 } : Room).slots) (s₁.setTop (entryFrame m #[(.ref ad0)] 1))
  rw [← hG]
  refine own_to (fun _ kz => castTop (ef2 m ad0) kz) ?_
  show own_Fin p e below G (s₁.setTop (mkF m 0 #[.val (.ref ad0)] []))
  refine own_to (fun _ kz => XS.aloadN X0.here hx rfl (hb hby d2_0) rfl (rfl)  kz) ?_
  show own_Fin p e below G (s₁.setTop (mkF m 1 #[.val (.ref ad0)] [(.ref ad0)]))
  obtain ⟨T1, X1, e1, st1⟩ := initO X0 hx hZ hown (hw _ (List.mem_of_getElem? (i := 12) rfl)) (hw _ (List.mem_of_getElem? (i := 13) rfl)) (hw _ (List.mem_of_getElem? (i := 14) rfl)) e0 (g := (mkF m 1 #[.val (.ref ad0)] [(.ref ad0)])) rfl (by rw [hml]; rfl) rfl (hb hby d2_1) (by decide) (W := 0) (by show 2 * 0 + _ ≤ _; exact Nat.le_of_eq rfl) (by decide)
  refine own_to st1 ?_
  show own_Fin p e below G (T1.setTop (mkF m 4 #[.val (.ref ad0)] []))
  exact own_retV X1 hx hlk hG Bd.returns (hb hby d2_4) (by decide) (by decide) ⟨rfl, N0, e1⟩
theorem own_pd0 : parseMethodDescriptor "()V" = some ⟨[], none⟩ := by decide +kernel
theorem own_pn1 : plainName "com/example/doorward/doorward/YubiKeyOtp$Fields" = true := by first | (simp [plainName, overriddenIn]; done) | decide +kernel
theorem d1_0 : decode prog_32_method_1_code 0 = .ok (.aload_n 0, 1) := by decide +kernel
theorem d1_1 : decode prog_32_method_1_code 1 = .ok (.invokespecial 1, 3) := by decide +kernel
theorem d1_4 : decode prog_32_method_1_code 4 = .ok (.aload_n 0, 1) := by decide +kernel
theorem d1_5 : decode prog_32_method_1_code 5 = .ok (.aload_n 1, 1) := by decide +kernel
theorem d1_6 : decode prog_32_method_1_code 6 = .ok (.putfield 7, 3) := by decide +kernel
theorem d1_9 : decode prog_32_method_1_code 9 = .ok (.aload_n 0, 1) := by decide +kernel
theorem d1_10 : decode prog_32_method_1_code 10 = .ok (.iload_n 2, 1) := by decide +kernel
theorem d1_11 : decode prog_32_method_1_code 11 = .ok (.putfield 13, 3) := by decide +kernel
theorem d1_14 : decode prog_32_method_1_code 14 = .ok (.aload_n 0, 1) := by decide +kernel
theorem d1_15 : decode prog_32_method_1_code 15 = .ok (.iload_n 3, 1) := by decide +kernel
theorem d1_16 : decode prog_32_method_1_code 16 = .ok (.putfield 17, 3) := by decide +kernel
theorem d1_19 : decode prog_32_method_1_code 19 = .ok (.return_, 1) := by decide +kernel
theorem ef1 (m : MethodId) (ad0 : Addr) (ad1 : Addr) (p2 : Int32) (p3 : Int32) : entryFrame m #[(.ref ad0), (.ref ad1), (.int p2), (.int p3)] 4 = mkF m 0 #[.val (.ref ad0), .val (.ref ad1), .val (.int p2), .val (.int p3)] [] := by first | (simp [entryFrame, mkF, argsToLocals, Value.category]; done) | rfl
def Q1 (Z : State) (ad0 : Addr) (ad1 : Addr) (p2 : Int32) (p3 : Int32) (h0 : Heap) (n0 : Nat) (v : Option Value) (h : Heap) (L : List Loc) : Prop := v = none ∧ Fr n0 L ∧ Keep h0 h [ad0] ∧ Exa Z h ad0 "com/example/doorward/doorward/YubiKeyOtp$Fields" ∧ Fld Z h ad0 "com/example/doorward/doorward/YubiKeyOtp$Fields" "privateId" "[B" (.ref ad1) ∧ Fld Z h ad0 "com/example/doorward/doorward/YubiKeyOtp$Fields" "counter" "I" (.int p2) ∧ Fld Z h ad0 "com/example/doorward/doorward/YubiKeyOtp$Fields" "sessionUse" "I" (.int p3)
set_option maxRecDepth 65536 in
set_option maxHeartbeats 40000000 in
theorem rm1 (l : Launch) (Z : State) (a0 : Array Value) (hw : ∀ d ∈ tables_1, d.before a0 Z = true) (ws : List Jvm.Cond) (ad0 : Addr) (ad1 : Addr) (p2 : Int32) (p3 : Int32) (h0 : Heap) (n0 : Nat) (Z0 : n0 ≤ h0.size) (E_ad0 : Exa Z h0 ad0 "com/example/doorward/doorward/YubiKeyOtp$Fields") (F_privateId_ad0 : Fld Z h0 ad0 "com/example/doorward/doorward/YubiKeyOtp$Fields" "privateId" "[B" .null) (F_counter_ad0 : Fld Z h0 ad0 "com/example/doorward/doorward/YubiKeyOtp$Fields" "counter" "I" (.int (0 : Int32))) (F_sessionUse_ad0 : Fld Z h0 ad0 "com/example/doorward/doorward/YubiKeyOtp$Fields" "sessionUse" "I" (.int (0 : Int32))) (g_ad0 : n0 ≤ ad0) :
    MetFree l (⟨"com/example/doorward/doorward/YubiKeyOtp$Fields", "<init>", "([BII)V"⟩ : MethodName) (head1 (Jvm.Cond.code (⟨"com/example/doorward/doorward/YubiKeyOtp$Fields", "<init>", "([BII)V"⟩ : MethodName) prog_32_method_1_code 4 none :: ws) ({ frames := 2, cells := 0, slots := 0, locals := 24 } : Room)) (fun a U => a = #[(.ref ad0), (.ref ad1), (.int p2), (.int p3)] ∧ Z.Warmed39 U.vm ∧ U.heap = h0) (fun _ _ _ _ _ => True) (fun _ U o U' => ∃ v L, o = .returned v ∧ Q1 Z ad0 ad1 p2 p3 h0 n0 v U'.heap L ∧ FrameEnd U o U' L ({ frames := 2, cells := 0, slots := 0, locals := 24 } : Room).cells ({ frames := 2, cells := 0, slots := 0, locals := 24 } : Room).slots) := by
  refine MetFree.of_bodySF (plainFor_of_name own_pn1) hisR ?_
  intro p e s m args below meth c s₁ Bd hml0 hP hK
  obtain ⟨rfl, hZ, hh⟩ := hP
  have hx := Bd.exec
  have hby := Bd.bytes
  have hml : c.maxLocals = 4 := hml0
  have hown : s.vm.findClass "com/example/doorward/doorward/YubiKeyOtp$Fields" = some m.cls := findClass_of_methodNamed Bd.named
  have hnm := (name_of_methodNamed Bd.named Bd.method).1
  have hlk : meth.locks = false := BodyLoose.notSynchronized Bd
  have X0 : Stand p l e ({ frames := 2, cells := 0, slots := 0, locals := 24 } : Room) s m #[(.ref ad0), (.ref ad1), (.int p2), (.int p3)] below meth c s₁ [] 0 0 := Stand.of_body Bd
  have e0 : s₁.heap = h0 := by rw [← hh, Bd.state]; rfl
  have N0 := Fr.nil n0
  obtain ⟨G, hG⟩ : ∃ G, G = own_G s (Q1 Z ad0 ad1 p2 p3 h0 n0) ({ frames := 2, cells := 0, slots := 0, locals := 24 } : Room).cells ({ frames := 2, cells := 0, slots := 0, locals := 24 } : Room).slots := ⟨_, rfl⟩
  show own_Fin p e below (own_G s (Q1 Z ad0 ad1 p2 p3 h0 n0) ({ frames := 2, cells := 0, slots := 0, locals := 24 } : Room).cells ({ frames := 2, cells := 0, slots := 0, locals := 24 } : Room).slots) (s₁.setTop (entryFrame m #[(.ref ad0), (.ref ad1), (.int p2), (.int p3)] 4))
  rw [← hG]
  refine own_to (fun _ kz => castTop (ef1 m ad0 ad1 p2 p3) kz) ?_
  show own_Fin p e below G (s₁.setTop (mkF m 0 #[.val (.ref ad0), .val (.ref ad1), .val (.int p2), .val (.int p3)] []))
  refine own_to (fun _ kz => XS.aloadN X0.here hx rfl (hb hby d1_0) rfl (rfl)  kz) ?_
  show own_Fin p e below G (s₁.setTop (mkF m 1 #[.val (.ref ad0), .val (.ref ad1), .val (.int p2), .val (.int p3)] [(.ref ad0)]))
  obtain ⟨_, _, ⟨T1, L1, k1, n1⟩, -, X1, ⟨Lc1, hQ1, l1, y1, z1⟩, st1⟩ := X0.specialBack hx (y := (⟨"java/lang/Record", "<init>", "()V"⟩ : MethodName)) rfl hown (mvT hZ (hw _ (List.mem_of_getElem? (i := 7) rfl))) (mvT hZ (hw _ (List.mem_of_getElem? (i := 8) rfl))) (mvT hZ (hw _ (List.mem_of_getElem? (i := 11) rfl))) (by decide) (backOf (W := 0) (rm2 l Z a0 hw [] ad0 h0 n0 Z0 ) hZ (hw _ (List.mem_of_getElem? (i := 11) rfl)) (hw _ (List.mem_of_getElem? (i := 10) rfl)) (by decide) (by decide)) (g := (mkF m 1 #[.val (.ref ad0), .val (.ref ad1), .val (.int p2), .val (.int p3)] [(.ref ad0)])) rfl (by rw [hml]; rfl) (Steps.refl _) (a := ad0) (argsL := []) (rest := []) (lenOf own_pd0 rfl) rfl (by show 2 * 0 + _ ≤ _; exact Nat.le_of_eq rfl) (hb hby d1_1) (fun _ _ => ⟨rfl, e0, (by decide : 0 + 0 ≤ _), (by decide : 0 + 0 ≤ _)⟩)
  dsimp only [Pt.U, Pt.locs, Pt.cells, Pt.slots] at X1 l1 y1 z1 st1 hQ1
  subst l1 y1 z1
  obtain ⟨rfl, N1q, e1⟩ := hQ1
  have N1 := Fr.app N0 N1q
  refine own_via st1 ?_
  show own_Fin p e below G (T1.setTop (mkF m 4 #[.val (.ref ad0), .val (.ref ad1), .val (.int p2), .val (.int p3)] []))
  refine own_to (fun _ kz => XS.aloadN X1.here hx rfl (hb hby d1_4) rfl (rfl)  kz) ?_
  show own_Fin p e below G (T1.setTop (mkF m 5 #[.val (.ref ad0), .val (.ref ad1), .val (.int p2), .val (.int p3)] [(.ref ad0)]))
  refine own_to (fun _ kz => XS.aloadN X1.here hx rfl (hb hby d1_5) rfl (rfl)  kz) ?_
  show own_Fin p e below G (T1.setTop (mkF m 6 #[.val (.ref ad0), .val (.ref ad1), .val (.int p2), .val (.int p3)] [(.ref ad1), (.ref ad0)]))
  obtain ⟨T6, h6, X6, e6, W6, st6⟩ := putF X1 hx hZ hown (host := "") (Or.inl (hw _ (List.mem_of_getElem? (i := 15) rfl))) Via.refl e1 F_privateId_ad0 E_ad0 (Or.inr ⟨(hw _ (List.mem_of_getElem? (i := 16) rfl)), rfl, hnm⟩) (hw _ (List.mem_of_getElem? (i := 1) rfl)) (ty := (.array .byte)) (by decide) rfl rfl (g := (mkF m 6 #[.val (.ref ad0), .val (.ref ad1), .val (.int p2), .val (.int p3)] [(.ref ad1), (.ref ad0)])) rfl rfl (hb hby d1_6)
  refine own_to st6 ?_
  have Fw6 : Fld Z h6 ad0 "com/example/doorward/doorward/YubiKeyOtp$Fields" "privateId" "[B" (.ref ad1) := Fld.same W6 F_privateId_ad0
  have N6 := Fr.snoc X6 N1 g_ad0
  show own_Fin p e below G (T6.setTop (mkF m 9 #[.val (.ref ad0), .val (.ref ad1), .val (.int p2), .val (.int p3)] []))
  refine own_to (fun _ kz => XS.aloadN X6.here hx rfl (hb hby d1_9) rfl (rfl)  kz) ?_
  show own_Fin p e below G (T6.setTop (mkF m 10 #[.val (.ref ad0), .val (.ref ad1), .val (.int p2), .val (.int p3)] [(.ref ad0)]))
  refine own_to (fun _ kz => XS.iloadN X6.here hx rfl (hb hby d1_10) rfl  kz) ?_
  show own_Fin p e below G (T6.setTop (mkF m 11 #[.val (.ref ad0), .val (.ref ad1), .val (.int p2), .val (.int p3)] [(.int p2), (.ref ad0)]))
  have E_ad0_at_11 : Exa Z h6 ad0 "com/example/doorward/doorward/YubiKeyOtp$Fields" := (E_ad0.wr W6)
  have F_counter_ad0_at_11 : Fld Z h6 ad0 "com/example/doorward/doorward/YubiKeyOtp$Fields" "counter" "I" (.int (0 : Int32)) := (F_counter_ad0.other W6 (Or.inr (slot_ne (Or.inr (hw _ (List.mem_of_getElem? (i := 18) rfl))) (Or.inr (hw _ (List.mem_of_getElem? (i := 16) rfl))) (by decide) (t := .int) (t' := (.array .byte)) (by decide) (by decide))))
  obtain ⟨T11, h11, X11, e11, W11, st11⟩ := putF X6 hx hZ hown (host := "") (Or.inl (hw _ (List.mem_of_getElem? (i := 17) rfl))) Via.refl e6 F_counter_ad0_at_11 E_ad0_at_11 (Or.inr ⟨(hw _ (List.mem_of_getElem? (i := 18) rfl)), rfl, hnm⟩) (hw _ (List.mem_of_getElem? (i := 1) rfl)) (ty := .int) (by decide) rfl rfl (g := (mkF m 11 #[.val (.ref ad0), .val (.ref ad1), .val (.int p2), .val (.int p3)] [(.int p2), (.ref ad0)])) rfl rfl (hb hby d1_11)
  refine own_to st11 ?_
  have Fw11 : Fld Z h11 ad0 "com/example/doorward/doorward/YubiKeyOtp$Fields" "counter" "I" (.int p2) := Fld.same W11 F_counter_ad0_at_11
  have N11 := Fr.snoc X11 N6 g_ad0
  show own_Fin p e below G (T11.setTop (mkF m 14 #[.val (.ref ad0), .val (.ref ad1), .val (.int p2), .val (.int p3)] []))
  refine own_to (fun _ kz => XS.aloadN X11.here hx rfl (hb hby d1_14) rfl (rfl)  kz) ?_
  show own_Fin p e below G (T11.setTop (mkF m 15 #[.val (.ref ad0), .val (.ref ad1), .val (.int p2), .val (.int p3)] [(.ref ad0)]))
  refine own_to (fun _ kz => XS.iloadN X11.here hx rfl (hb hby d1_15) rfl  kz) ?_
  show own_Fin p e below G (T11.setTop (mkF m 16 #[.val (.ref ad0), .val (.ref ad1), .val (.int p2), .val (.int p3)] [(.int p3), (.ref ad0)]))
  have E_ad0_at_16 : Exa Z h11 ad0 "com/example/doorward/doorward/YubiKeyOtp$Fields" := (E_ad0_at_11.wr W11)
  have F_sessionUse_ad0_at_16 : Fld Z h11 ad0 "com/example/doorward/doorward/YubiKeyOtp$Fields" "sessionUse" "I" (.int (0 : Int32)) := ((F_sessionUse_ad0.other W6 (Or.inr (slot_ne (Or.inr (hw _ (List.mem_of_getElem? (i := 20) rfl))) (Or.inr (hw _ (List.mem_of_getElem? (i := 16) rfl))) (by decide) (t := .int) (t' := (.array .byte)) (by decide) (by decide)))).other W11 (Or.inr (slot_ne (Or.inr (hw _ (List.mem_of_getElem? (i := 20) rfl))) (Or.inr (hw _ (List.mem_of_getElem? (i := 18) rfl))) (by decide) (t := .int) (t' := .int) (by decide) (by decide))))
  obtain ⟨T16, h16, X16, e16, W16, st16⟩ := putF X11 hx hZ hown (host := "") (Or.inl (hw _ (List.mem_of_getElem? (i := 19) rfl))) Via.refl e11 F_sessionUse_ad0_at_16 E_ad0_at_16 (Or.inr ⟨(hw _ (List.mem_of_getElem? (i := 20) rfl)), rfl, hnm⟩) (hw _ (List.mem_of_getElem? (i := 1) rfl)) (ty := .int) (by decide) rfl rfl (g := (mkF m 16 #[.val (.ref ad0), .val (.ref ad1), .val (.int p2), .val (.int p3)] [(.int p3), (.ref ad0)])) rfl rfl (hb hby d1_16)
  refine own_to st16 ?_
  have Fw16 : Fld Z h16 ad0 "com/example/doorward/doorward/YubiKeyOtp$Fields" "sessionUse" "I" (.int p3) := Fld.same W16 F_sessionUse_ad0_at_16
  have N16 := Fr.snoc X16 N11 g_ad0
  show own_Fin p e below G (T16.setTop (mkF m 19 #[.val (.ref ad0), .val (.ref ad1), .val (.int p2), .val (.int p3)] []))
  have KP_19 : Keep h0 h16 [ad0] := ((((Keep.refl h0 [ad0]).wr W6 (Or.inl (List.mem_of_getElem? (i := 0) rfl))).wr W11 (Or.inl (List.mem_of_getElem? (i := 0) rfl))).wr W16 (Or.inl (List.mem_of_getElem? (i := 0) rfl)))
  have E_ad0_at_19 : Exa Z h16 ad0 "com/example/doorward/doorward/YubiKeyOtp$Fields" := (E_ad0_at_16.wr W16)
  have Fw6_at_19 : Fld Z h16 ad0 "com/example/doorward/doorward/YubiKeyOtp$Fields" "privateId" "[B" (.ref ad1) := ((Fw6.other W11 (Or.inr (slot_ne (Or.inr (hw _ (List.mem_of_getElem? (i := 16) rfl))) (Or.inr (hw _ (List.mem_of_getElem? (i := 18) rfl))) (by decide) (t := (.array .byte)) (t' := .int) (by decide) (by decide)))).other W16 (Or.inr (slot_ne (Or.inr (hw _ (List.mem_of_getElem? (i := 16) rfl))) (Or.inr (hw _ (List.mem_of_getElem? (i := 20) rfl))) (by decide) (t := (.array .byte)) (t' := .int) (by decide) (by decide))))
  have Fw11_at_19 : Fld Z h16 ad0 "com/example/doorward/doorward/YubiKeyOtp$Fields" "counter" "I" (.int p2) := (Fw11.other W16 (Or.inr (slot_ne (Or.inr (hw _ (List.mem_of_getElem? (i := 18) rfl))) (Or.inr (hw _ (List.mem_of_getElem? (i := 20) rfl))) (by decide) (t := .int) (t' := .int) (by decide) (by decide))))
  exact own_retV X16 hx hlk hG Bd.returns (hb hby d1_19) (by decide) (by decide) (by rw [e16]; exact ⟨rfl, N16, KP_19, E_ad0_at_19, Fw6_at_19, Fw11_at_19, Fw16⟩)
theorem d4_0 : decode prog_32_method_2_code 0 = .ok (.aload_n 0, 1) := by decide +kernel
theorem d4_1 : decode prog_32_method_2_code 1 = .ok (.getfield 13, 3) := by decide +kernel
theorem d4_4 : decode prog_32_method_2_code 4 = .ok (.aload_n 1, 1) := by decide +kernel
theorem d4_5 : decode prog_32_method_2_code 5 = .ok (.getfield 13, 3) := by decide +kernel
theorem d4_8 : decode prog_32_method_2_code 8 = .ok (.if_icmp .eq 22, 3) := by decide +kernel
theorem d4_11 : decode prog_32_method_2_code 11 = .ok (.aload_n 0, 1) := by decide +kernel
theorem d4_12 : decode prog_32_method_2_code 12 = .ok (.getfield 13, 3) := by decide +kernel
theorem d4_15 : decode prog_32_method_2_code 15 = .ok (.aload_n 1, 1) := by decide +kernel
theorem d4_16 : decode prog_32_method_2_code 16 = .ok (.getfield 13, 3) := by decide +kernel
theorem d4_19 : decode prog_32_method_2_code 19 = .ok (.if_icmp .le 7, 3) := by decide +kernel
theorem d4_22 : decode prog_32_method_2_code 22 = .ok (.iconst 1, 1) := by decide +kernel
theorem d4_23 : decode prog_32_method_2_code 23 = .ok (.goto 23, 3) := by decide +kernel
theorem d4_26 : decode prog_32_method_2_code 26 = .ok (.iconst 0, 1) := by decide +kernel
theorem d4_27 : decode prog_32_method_2_code 27 = .ok (.goto 19, 3) := by decide +kernel
theorem d4_30 : decode prog_32_method_2_code 30 = .ok (.aload_n 0, 1) := by decide +kernel
theorem d4_31 : decode prog_32_method_2_code 31 = .ok (.getfield 17, 3) := by decide +kernel
theorem d4_34 : decode prog_32_method_2_code 34 = .ok (.aload_n 1, 1) := by decide +kernel
theorem d4_35 : decode prog_32_method_2_code 35 = .ok (.getfield 17, 3) := by decide +kernel
theorem d4_38 : decode prog_32_method_2_code 38 = .ok (.if_icmp .le 7, 3) := by decide +kernel
theorem d4_41 : decode prog_32_method_2_code 41 = .ok (.iconst 1, 1) := by decide +kernel
theorem d4_42 : decode prog_32_method_2_code 42 = .ok (.goto 4, 3) := by decide +kernel
theorem d4_45 : decode prog_32_method_2_code 45 = .ok (.iconst 0, 1) := by decide +kernel
theorem d4_46 : decode prog_32_method_2_code 46 = .ok (.ireturn, 1) := by decide +kernel
theorem ef4 (m : MethodId) (ad0 : Addr) (ad1 : Addr) : entryFrame m #[(.ref ad0), (.ref ad1)] 2 = mkF m 0 #[.val (.ref ad0), .val (.ref ad1)] [] := by first | (simp [entryFrame, mkF, argsToLocals, Value.category]; done) | rfl
def f4 (cn0 : Int32) (sn0 : Int32) (cn1 : Int32) (sn1 : Int32) : Int32 := if cn0 = cn1 then (if sn1 < sn0 then (1 : Int32) else (0 : Int32)) else if cn1 < cn0 then (1 : Int32) else (0 : Int32)
def Q4 (Z : State) (ad0 : Addr) (ad1 : Addr) (cn0 : Int32) (sn0 : Int32) (cn1 : Int32) (sn1 : Int32) (h0 : Heap) (n0 : Nat) (v : Option Value) (h : Heap) (L : List Loc) : Prop := v = some (.int (f4 cn0 sn0 cn1 sn1)) ∧ Fr n0 L ∧ h = h0
set_option maxRecDepth 65536 in
set_option maxHeartbeats 40000000 in
theorem rm4 (l : Launch) (Z : State) (a0 : Array Value) (hw : ∀ d ∈ tables_1, d.before a0 Z = true) (ws : List Jvm.Cond) (ad0 : Addr) (ad1 : Addr) (cn0 : Int32) (sn0 : Int32) (cn1 : Int32) (sn1 : Int32) (h0 : Heap) (n0 : Nat) (Z0 : n0 ≤ h0.size) (F_counter_ad0 : Fld Z h0 ad0 "com/example/doorward/doorward/YubiKeyOtp$Fields" "counter" "I" (.int cn0)) (F_sessionUse_ad0 : Fld Z h0 ad0 "com/example/doorward/doorward/YubiKeyOtp$Fields" "sessionUse" "I" (.int sn0)) (F_counter_ad1 : Fld Z h0 ad1 "com/example/doorward/doorward/YubiKeyOtp$Fields" "counter" "I" (.int cn1)) (F_sessionUse_ad1 : Fld Z h0 ad1 "com/example/doorward/doorward/YubiKeyOtp$Fields" "sessionUse" "I" (.int sn1)) :
    MetFree l (⟨"com/example/doorward/doorward/YubiKeyOtp$Fields", "follow", "(Lcom/example/doorward/doorward/YubiKeyOtp$Fields;)Z"⟩ : MethodName) (head1 (Jvm.Cond.code (⟨"com/example/doorward/doorward/YubiKeyOtp$Fields", "follow", "(Lcom/example/doorward/doorward/YubiKeyOtp$Fields;)Z"⟩ : MethodName) prog_32_method_2_code 2 (some .boolean) :: ws) ({ frames := 0, cells := 0, slots := 0, locals := 0 } : Room)) (fun a U => a = #[(.ref ad0), (.ref ad1)] ∧ Z.Warmed39 U.vm ∧ U.heap = h0) (fun _ _ _ _ _ => True) (fun _ U o U' => ∃ v L, o = .returned v ∧ Q4 Z ad0 ad1 cn0 sn0 cn1 sn1 h0 n0 v U'.heap L ∧ FrameEnd U o U' L ({ frames := 0, cells := 0, slots := 0, locals := 0 } : Room).cells ({ frames := 0, cells := 0, slots := 0, locals := 0 } : Room).slots) := by
  refine MetFree.of_bodySF (plainFor_of_name own_pn1) hisR ?_
  intro p e s m args below meth c s₁ Bd hml0 hP hK
  obtain ⟨rfl, hZ, hh⟩ := hP
  have hx := Bd.exec
  have hby := Bd.bytes
  have hml : c.maxLocals = 2 := hml0
  have hown : s.vm.findClass "com/example/doorward/doorward/YubiKeyOtp$Fields" = some m.cls := findClass_of_methodNamed Bd.named
  have hnm := (name_of_methodNamed Bd.named Bd.method).1
  have hlk : meth.locks = false := BodyLoose.notSynchronized Bd
  have X0 : Stand p l e ({ frames := 0, cells := 0, slots := 0, locals := 0 } : Room) s m #[(.ref ad0), (.ref ad1)] below meth c s₁ [] 0 0 := Stand.of_body Bd
  have e0 : s₁.heap = h0 := by rw [← hh, Bd.state]; rfl
  have N0 := Fr.nil n0
  obtain ⟨G, hG⟩ : ∃ G, G = own_G s (Q4 Z ad0 ad1 cn0 sn0 cn1 sn1 h0 n0) ({ frames := 0, cells := 0, slots := 0, locals := 0 } : Room).cells ({ frames := 0, cells := 0, slots := 0, locals := 0 } : Room).slots := ⟨_, rfl⟩
  show own_Fin p e below (own_G s (Q4 Z ad0 ad1 cn0 sn0 cn1 sn1 h0 n0) ({ frames := 0, cells := 0, slots := 0, locals := 0 } : Room).cells ({ frames := 0, cells := 0, slots := 0, locals := 0 } : Room).slots) (s₁.setTop (entryFrame m #[(.ref ad0), (.ref ad1)] 2))
  rw [← hG]
  refine own_to (fun _ kz => castTop (ef4 m ad0 ad1) kz) ?_
  have q0 : (f4 cn0 sn0 cn1 sn1) = (f4 cn0 sn0 cn1 sn1) := rfl
  show own_Fin p e below G (s₁.setTop (mkF m 0 #[.val (.ref ad0), .val (.ref ad1)] []))
  refine own_to (fun _ kz => XS.aloadN X0.here hx rfl (hb hby d4_0) rfl (rfl)  kz) ?_
  show own_Fin p e below G (s₁.setTop (mkF m 1 #[.val (.ref ad0), .val (.ref ad1)] [(.ref ad0)]))
  obtain ⟨T1, X1, e1, st1⟩ := getF X0 hx hZ hown (host := "") (Or.inl (hw _ (List.mem_of_getElem? (i := 17) rfl))) Via.refl e0 F_counter_ad0 (g := (mkF m 1 #[.val (.ref ad0), .val (.ref ad1)] [(.ref ad0)])) rfl rfl (hb hby d4_1)
  refine own_to st1 ?_
  show own_Fin p e below G (T1.setTop (mkF m 4 #[.val (.ref ad0), .val (.ref ad1)] [(.int cn0)]))
  refine own_to (fun _ kz => XS.aloadN X1.here hx rfl (hb hby d4_4) rfl (rfl)  kz) ?_
  show own_Fin p e below G (T1.setTop (mkF m 5 #[.val (.ref ad0), .val (.ref ad1)] [(.ref ad1), (.int cn0)]))
  obtain ⟨T5, X5, e5, st5⟩ := getF X1 hx hZ hown (host := "") (Or.inl (hw _ (List.mem_of_getElem? (i := 17) rfl))) Via.refl e1 F_counter_ad1 (g := (mkF m 5 #[.val (.ref ad0), .val (.ref ad1)] [(.ref ad1), (.int cn0)])) rfl rfl (hb hby d4_5)
  refine own_to st5 ?_
  show own_Fin p e below G (T5.setTop (mkF m 8 #[.val (.ref ad0), .val (.ref ad1)] [(.int cn1), (.int cn0)]))
  by_cases hc8 : cn0 = cn1
  · refine own_to (fun _ kz => XS.icmpYes X5.here hx rfl (pc0 := 8) (pc' := 30) rfl (hb hby d4_8) rfl (teq hc8).1 (by decide) (by decide) kz) ?_
    have q8t := q0.trans (if_pos hc8)
    show own_Fin p e below G (T5.setTop (mkF m 30 #[.val (.ref ad0), .val (.ref ad1)] []))
    refine own_to (fun _ kz => XS.aloadN X5.here hx rfl (hb hby d4_30) rfl (rfl)  kz) ?_
    show own_Fin p e below G (T5.setTop (mkF m 31 #[.val (.ref ad0), .val (.ref ad1)] [(.ref ad0)]))
    obtain ⟨T31, X31, e31, st31⟩ := getF X5 hx hZ hown (host := "") (Or.inl (hw _ (List.mem_of_getElem? (i := 19) rfl))) Via.refl e5 F_sessionUse_ad0 (g := (mkF m 31 #[.val (.ref ad0), .val (.ref ad1)] [(.ref ad0)])) rfl rfl (hb hby d4_31)
    refine own_to st31 ?_
    show own_Fin p e below G (T31.setTop (mkF m 34 #[.val (.ref ad0), .val (.ref ad1)] [(.int sn0)]))
    refine own_to (fun _ kz => XS.aloadN X31.here hx rfl (hb hby d4_34) rfl (rfl)  kz) ?_
    show own_Fin p e below G (T31.setTop (mkF m 35 #[.val (.ref ad0), .val (.ref ad1)] [(.ref ad1), (.int sn0)]))
    obtain ⟨T35, X35, e35, st35⟩ := getF X31 hx hZ hown (host := "") (Or.inl (hw _ (List.mem_of_getElem? (i := 19) rfl))) Via.refl e31 F_sessionUse_ad1 (g := (mkF m 35 #[.val (.ref ad0), .val (.ref ad1)] [(.ref ad1), (.int sn0)])) rfl rfl (hb hby d4_35)
    refine own_to st35 ?_
    show own_Fin p e below G (T35.setTop (mkF m 38 #[.val (.ref ad0), .val (.ref ad1)] [(.int sn1), (.int sn0)]))
    by_cases hc38 : sn1 < sn0
    · refine own_to (fun _ kz => XS.icmpNo X35.here hx rfl (hb hby d4_38) rfl (tlt hc38).2.2.2 kz) ?_
      have q38t := q8t.trans (if_pos hc38)
      show own_Fin p e below G (T35.setTop (mkF m 41 #[.val (.ref ad0), .val (.ref ad1)] []))
      refine own_to (fun _ kz => XS.iconst X35.here hx rfl (hb hby d4_41) kz) ?_
      show own_Fin p e below G (T35.setTop (mkF m 42 #[.val (.ref ad0), .val (.ref ad1)] [(.int (1 : Int32))]))
      refine own_to (fun _ kz => XS.goto X35.here hx rfl (pc0 := 42) (pc' := 46) rfl (hb hby d4_42) (by decide) (by decide) kz) ?_
      show own_Fin p e below G (T35.setTop (mkF m 46 #[.val (.ref ad0), .val (.ref ad1)] [(.int (1 : Int32))]))
      exact own_retN X35 hx hlk hG (t := .boolean) Bd.returns (by simp) (hb hby d4_46) (by decide) (by decide) ⟨(congrArg (fun z => some (Value.int z)) q38t).symm, N0, e35⟩
    · refine own_to (fun _ kz => XS.icmpYes X35.here hx rfl (pc0 := 38) (pc' := 45) rfl (hb hby d4_38) rfl (flt hc38).2.2.2 (by decide) (by decide) kz) ?_
      have q38f := q8t.trans (if_neg hc38)
      show own_Fin p e below G (T35.setTop (mkF m 45 #[.val (.ref ad0), .val (.ref ad1)] []))
      refine own_to (fun _ kz => XS.iconst X35.here hx rfl (hb hby d4_45) kz) ?_
      show own_Fin p e below G (T35.setTop (mkF m 46 #[.val (.ref ad0), .val (.ref ad1)] [(.int (0 : Int32))]))
      exact own_retN X35 hx hlk hG (t := .boolean) Bd.returns (by simp) (hb hby d4_46) (by decide) (by decide) ⟨(congrArg (fun z => some (Value.int z)) q38f).symm, N0, e35⟩
  · refine own_to (fun _ kz => XS.icmpNo X5.here hx rfl (hb hby d4_8) rfl (feq hc8).1 kz) ?_
    have q8f := q0.trans (if_neg hc8)
    show own_Fin p e below G (T5.setTop (mkF m 11 #[.val (.ref ad0), .val (.ref ad1)] []))
    refine own_to (fun _ kz => XS.aloadN X5.here hx rfl (hb hby d4_11) rfl (rfl)  kz) ?_
    show own_Fin p e below G (T5.setTop (mkF m 12 #[.val (.ref ad0), .val (.ref ad1)] [(.ref ad0)]))
    obtain ⟨T12, X12, e12, st12⟩ := getF X5 hx hZ hown (host := "") (Or.inl (hw _ (List.mem_of_getElem? (i := 17) rfl))) Via.refl e5 F_counter_ad0 (g := (mkF m 12 #[.val (.ref ad0), .val (.ref ad1)] [(.ref ad0)])) rfl rfl (hb hby d4_12)
    refine own_to st12 ?_
    show own_Fin p e below G (T12.setTop (mkF m 15 #[.val (.ref ad0), .val (.ref ad1)] [(.int cn0)]))
    refine own_to (fun _ kz => XS.aloadN X12.here hx rfl (hb hby d4_15) rfl (rfl)  kz) ?_
    show own_Fin p e below G (T12.setTop (mkF m 16 #[.val (.ref ad0), .val (.ref ad1)] [(.ref ad1), (.int cn0)]))
    obtain ⟨T16, X16, e16, st16⟩ := getF X12 hx hZ hown (host := "") (Or.inl (hw _ (List.mem_of_getElem? (i := 17) rfl))) Via.refl e12 F_counter_ad1 (g := (mkF m 16 #[.val (.ref ad0), .val (.ref ad1)] [(.ref ad1), (.int cn0)])) rfl rfl (hb hby d4_16)
    refine own_to st16 ?_
    show own_Fin p e below G (T16.setTop (mkF m 19 #[.val (.ref ad0), .val (.ref ad1)] [(.int cn1), (.int cn0)]))
    by_cases hc19 : cn1 < cn0
    · refine own_to (fun _ kz => XS.icmpNo X16.here hx rfl (hb hby d4_19) rfl (tlt hc19).2.2.2 kz) ?_
      have q19t := q8f.trans (if_pos hc19)
      show own_Fin p e below G (T16.setTop (mkF m 22 #[.val (.ref ad0), .val (.ref ad1)] []))
      refine own_to (fun _ kz => XS.iconst X16.here hx rfl (hb hby d4_22) kz) ?_
      show own_Fin p e below G (T16.setTop (mkF m 23 #[.val (.ref ad0), .val (.ref ad1)] [(.int (1 : Int32))]))
      refine own_to (fun _ kz => XS.goto X16.here hx rfl (pc0 := 23) (pc' := 46) rfl (hb hby d4_23) (by decide) (by decide) kz) ?_
      show own_Fin p e below G (T16.setTop (mkF m 46 #[.val (.ref ad0), .val (.ref ad1)] [(.int (1 : Int32))]))
      exact own_retN X16 hx hlk hG (t := .boolean) Bd.returns (by simp) (hb hby d4_46) (by decide) (by decide) ⟨(congrArg (fun z => some (Value.int z)) q19t).symm, N0, e16⟩
    · refine own_to (fun _ kz => XS.icmpYes X16.here hx rfl (pc0 := 19) (pc' := 26) rfl (hb hby d4_19) rfl (flt hc19).2.2.2 (by decide) (by decide) kz) ?_
      have q19f := q8f.trans (if_neg hc19)
      show own_Fin p e below G (T16.setTop (mkF m 26 #[.val (.ref ad0), .val (.ref ad1)] []))
      refine own_to (fun _ kz => XS.iconst X16.here hx rfl (hb hby d4_26) kz) ?_
      show own_Fin p e below G (T16.setTop (mkF m 27 #[.val (.ref ad0), .val (.ref ad1)] [(.int (0 : Int32))]))
      refine own_to (fun _ kz => XS.goto X16.here hx rfl (pc0 := 27) (pc' := 46) rfl (hb hby d4_27) (by decide) (by decide) kz) ?_
      show own_Fin p e below G (T16.setTop (mkF m 46 #[.val (.ref ad0), .val (.ref ad1)] [(.int (0 : Int32))]))
      exact own_retN X16 hx hlk hG (t := .boolean) Bd.returns (by simp) (hb hby d4_46) (by decide) (by decide) ⟨(congrArg (fun z => some (Value.int z)) q19f).symm, N0, e16⟩
theorem own_pn2 : plainName "com/example/doorward/doorward/FieldsFollowPinLaw" = true := by first | (simp [plainName, overriddenIn]; done) | decide +kernel
theorem d5_0 : decode method_2_code 0 = .ok (.iload_n 0, 1) := by decide +kernel
theorem d5_1 : decode method_2_code 1 = .ok (.i2l, 1) := by decide +kernel
theorem d5_2 : decode method_2_code 2 = .ok (.bipush 32, 2) := by decide +kernel
theorem d5_4 : decode method_2_code 4 = .ok (.lshl, 1) := by decide +kernel
theorem d5_5 : decode method_2_code 5 = .ok (.iload_n 1, 1) := by decide +kernel
theorem d5_6 : decode method_2_code 6 = .ok (.ldc 7, 2) := by decide +kernel
theorem d5_8 : decode method_2_code 8 = .ok (.ixor, 1) := by decide +kernel
theorem d5_9 : decode method_2_code 9 = .ok (.i2l, 1) := by decide +kernel
theorem d5_10 : decode method_2_code 10 = .ok (.ldc2_w 8, 3) := by decide +kernel
theorem d5_13 : decode method_2_code 13 = .ok (.land, 1) := by decide +kernel
theorem d5_14 : decode method_2_code 14 = .ok (.lor, 1) := by decide +kernel
theorem d5_15 : decode method_2_code 15 = .ok (.lreturn, 1) := by decide +kernel
theorem ef5 (m : MethodId) (p0 : Int32) (p1 : Int32) : entryFrame m #[(.int p0), (.int p1)] 2 = mkF m 0 #[.val (.int p0), .val (.int p1)] [] := by first | (simp [entryFrame, mkF, argsToLocals, Value.category]; done) | rfl
def f5 (p0 : Int32) (p1 : Int32) : Int64 := (((p0.toInt64) <<< ((32 : Int32) &&& 0x3f).toInt64) ||| (((p1 ^^^ (-2147483648 : Int32)).toInt64) &&& (4294967295 : Int64)))
def Q5 (Z : State) (p0 : Int32) (p1 : Int32) (h0 : Heap) (n0 : Nat) (v : Option Value) (h : Heap) (L : List Loc) : Prop := v = some (.long (f5 p0 p1)) ∧ Fr n0 L ∧ h = h0
set_option maxRecDepth 65536 in
set_option maxHeartbeats 40000000 in
theorem rm5 (l : Launch) (Z : State) (a0 : Array Value) (hw : ∀ d ∈ tables_1, d.before a0 Z = true) (ws : List Jvm.Cond) (p0 : Int32) (p1 : Int32) (h0 : Heap) (n0 : Nat) (Z0 : n0 ≤ h0.size) :
    MetFree l (⟨"com/example/doorward/doorward/FieldsFollowPinLaw", "key", "(II)J"⟩ : MethodName) (head1 (Jvm.Cond.code (⟨"com/example/doorward/doorward/FieldsFollowPinLaw", "key", "(II)J"⟩ : MethodName) method_2_code 2 (some .long) :: ws) ({ frames := 0, cells := 0, slots := 0, locals := 0 } : Room)) (fun a U => a = #[(.int p0), (.int p1)] ∧ Z.Warmed39 U.vm ∧ U.heap = h0) (fun _ _ _ _ _ => True) (fun _ U o U' => ∃ v L, o = .returned v ∧ Q5 Z p0 p1 h0 n0 v U'.heap L ∧ FrameEnd U o U' L ({ frames := 0, cells := 0, slots := 0, locals := 0 } : Room).cells ({ frames := 0, cells := 0, slots := 0, locals := 0 } : Room).slots) := by
  refine MetFree.of_bodySF (plainFor_of_name own_pn2) hisR ?_
  intro p e s m args below meth c s₁ Bd hml0 hP hK
  obtain ⟨rfl, hZ, hh⟩ := hP
  have hx := Bd.exec
  have hby := Bd.bytes
  have hml : c.maxLocals = 2 := hml0
  have hown : s.vm.findClass "com/example/doorward/doorward/FieldsFollowPinLaw" = some m.cls := findClass_of_methodNamed Bd.named
  have hnm := (name_of_methodNamed Bd.named Bd.method).1
  have hlk : meth.locks = false := BodyLoose.notSynchronized Bd
  have X0 : Stand p l e ({ frames := 0, cells := 0, slots := 0, locals := 0 } : Room) s m #[(.int p0), (.int p1)] below meth c s₁ [] 0 0 := Stand.of_body Bd
  have e0 : s₁.heap = h0 := by rw [← hh, Bd.state]; rfl
  have N0 := Fr.nil n0
  obtain ⟨G, hG⟩ : ∃ G, G = own_G s (Q5 Z p0 p1 h0 n0) ({ frames := 0, cells := 0, slots := 0, locals := 0 } : Room).cells ({ frames := 0, cells := 0, slots := 0, locals := 0 } : Room).slots := ⟨_, rfl⟩
  show own_Fin p e below (own_G s (Q5 Z p0 p1 h0 n0) ({ frames := 0, cells := 0, slots := 0, locals := 0 } : Room).cells ({ frames := 0, cells := 0, slots := 0, locals := 0 } : Room).slots) (s₁.setTop (entryFrame m #[(.int p0), (.int p1)] 2))
  rw [← hG]
  refine own_to (fun _ kz => castTop (ef5 m p0 p1) kz) ?_
  have q0 : (f5 p0 p1) = (f5 p0 p1) := rfl
  show own_Fin p e below G (s₁.setTop (mkF m 0 #[.val (.int p0), .val (.int p1)] []))
  refine own_to (fun _ kz => XS.iloadN X0.here hx rfl (hb hby d5_0) rfl  kz) ?_
  show own_Fin p e below G (s₁.setTop (mkF m 1 #[.val (.int p0), .val (.int p1)] [(.int p0)]))
  refine own_to (fun _ kz => XS.i2l X0.here hx rfl (hb hby d5_1) rfl kz) ?_
  show own_Fin p e below G (s₁.setTop (mkF m 2 #[.val (.int p0), .val (.int p1)] [(.long (p0.toInt64))]))
  refine own_to (fun _ kz => XS.bipush X0.here hx rfl (hb hby d5_2) kz) ?_
  show own_Fin p e below G (s₁.setTop (mkF m 4 #[.val (.int p0), .val (.int p1)] [(.int (32 : Int32)), (.long (p0.toInt64))]))
  refine own_to (fun _ kz => XS.lshl X0.here hx rfl (hb hby d5_4) rfl kz) ?_
  show own_Fin p e below G (s₁.setTop (mkF m 5 #[.val (.int p0), .val (.int p1)] [(.long ((p0.toInt64) <<< ((32 : Int32) &&& 0x3f).toInt64))]))
  refine own_to (fun _ kz => XS.iloadN X0.here hx rfl (hb hby d5_5) rfl  kz) ?_
  show own_Fin p e below G (s₁.setTop (mkF m 6 #[.val (.int p0), .val (.int p1)] [(.int p1), (.long ((p0.toInt64) <<< ((32 : Int32) &&& 0x3f).toInt64))]))
  refine own_to (fun _ kz => X0.ldcInt hx hown (mvT hZ (hw _ (List.mem_of_getElem? (i := 30) rfl))) (g := (mkF m 6 #[.val (.int p0), .val (.int p1)] [(.int p1), (.long ((p0.toInt64) <<< ((32 : Int32) &&& 0x3f).toInt64))])) rfl (hb hby d5_6) _ kz) ?_
  show own_Fin p e below G (s₁.setTop (mkF m 8 #[.val (.int p0), .val (.int p1)] [(.int (-2147483648 : Int32)), (.int p1), (.long ((p0.toInt64) <<< ((32 : Int32) &&& 0x3f).toInt64))]))
  refine own_to (fun _ kz => XS.ixor X0.here hx rfl (hb hby d5_8) rfl kz) ?_
  show own_Fin p e below G (s₁.setTop (mkF m 9 #[.val (.int p0), .val (.int p1)] [(.int (p1 ^^^ (-2147483648 : Int32))), (.long ((p0.toInt64) <<< ((32 : Int32) &&& 0x3f).toInt64))]))
  refine own_to (fun _ kz => XS.i2l X0.here hx rfl (hb hby d5_9) rfl kz) ?_
  show own_Fin p e below G (s₁.setTop (mkF m 10 #[.val (.int p0), .val (.int p1)] [(.long ((p1 ^^^ (-2147483648 : Int32)).toInt64)), (.long ((p0.toInt64) <<< ((32 : Int32) &&& 0x3f).toInt64))]))
  refine own_to (fun _ kz => X0.ldc2Long hx hown (mvT hZ (hw _ (List.mem_of_getElem? (i := 31) rfl))) (g := (mkF m 10 #[.val (.int p0), .val (.int p1)] [(.long ((p1 ^^^ (-2147483648 : Int32)).toInt64)), (.long ((p0.toInt64) <<< ((32 : Int32) &&& 0x3f).toInt64))])) rfl (hb hby d5_10) _ kz) ?_
  show own_Fin p e below G (s₁.setTop (mkF m 13 #[.val (.int p0), .val (.int p1)] [(.long (4294967295 : Int64)), (.long ((p1 ^^^ (-2147483648 : Int32)).toInt64)), (.long ((p0.toInt64) <<< ((32 : Int32) &&& 0x3f).toInt64))]))
  refine own_to (fun _ kz => XS.land X0.here hx rfl (hb hby d5_13) rfl kz) ?_
  show own_Fin p e below G (s₁.setTop (mkF m 14 #[.val (.int p0), .val (.int p1)] [(.long (((p1 ^^^ (-2147483648 : Int32)).toInt64) &&& (4294967295 : Int64))), (.long ((p0.toInt64) <<< ((32 : Int32) &&& 0x3f).toInt64))]))
  refine own_to (fun _ kz => XS.lor X0.here hx rfl (hb hby d5_14) rfl kz) ?_
  show own_Fin p e below G (s₁.setTop (mkF m 15 #[.val (.int p0), .val (.int p1)] [(.long (((p0.toInt64) <<< ((32 : Int32) &&& 0x3f).toInt64) ||| (((p1 ^^^ (-2147483648 : Int32)).toInt64) &&& (4294967295 : Int64))))]))
  exact own_retJ X0 hx hlk hG Bd.returns (hb hby d5_15) (by decide) (by decide) ⟨(congrArg (fun z => some (Value.long z)) q0).symm, N0, e0⟩
theorem own_pd1 : parseMethodDescriptor "([BII)V" = some ⟨[(.array .byte), .int, .int], none⟩ := by decide +kernel
theorem own_pd2 : parseMethodDescriptor "(Lcom/example/doorward/doorward/YubiKeyOtp$Fields;)Z" = some ⟨[(.object "com/example/doorward/doorward/YubiKeyOtp$Fields")], some .boolean⟩ := by decide +kernel
theorem own_pd3 : parseMethodDescriptor "(II)J" = some ⟨[.int, .int], some .long⟩ := by decide +kernel
theorem ef0 (m : MethodId) (p0 : Int32) (p1 : Int32) (p2 : Int32) (p3 : Int32) (p4 : Int32) : entryFrame m #[(.int p0), (.int p1), (.int p2), (.int p3), (.int p4)] maxLocals = mkF m 0 #[.val (.int p0), .val (.int p1), .val (.int p2), .val (.int p3), .val (.int p4), .unset, .unset, .unset, .unset, .unset, .unset, .unset, .unset, .unset, .unset] [] := by first | (simp [entryFrame, mkF, argsToLocals, Value.category, maxLocals]; done) | rfl
def f0_134 (p0 : Int32) (p1 : Int32) (p2 : Int32) (p3 : Int32) (p4 : Int32) (t0_12 : Int32) (t0_26 : Int32) (t0_109 : Int32) : Int32 := (0 : Int32)
def f0_127 (p0 : Int32) (p1 : Int32) (p2 : Int32) (p3 : Int32) (p4 : Int32) (t0_12 : Int32) (t0_26 : Int32) (t0_109 : Int32) (t0_127 : Int32) : Int32 := if (f4 t0_12 t0_26 p0 p1) = t0_127 then (1 : Int32) else (f0_134 p0 p1 p2 p3 p4 t0_12 t0_26 t0_109)
def f0_109 (p0 : Int32) (p1 : Int32) (p2 : Int32) (p3 : Int32) (p4 : Int32) (t0_12 : Int32) (t0_26 : Int32) (t0_109 : Int32) : Int32 := if (f4 p0 p1 t0_12 t0_26) = t0_109 then (if (f5 p0 p1) < (f5 t0_12 t0_26) then (f0_127 p0 p1 p2 p3 p4 t0_12 t0_26 t0_109 (1 : Int32)) else (f0_127 p0 p1 p2 p3 p4 t0_12 t0_26 t0_109 (0 : Int32))) else (f0_134 p0 p1 p2 p3 p4 t0_12 t0_26 t0_109)
def f0_26 (p0 : Int32) (p1 : Int32) (p2 : Int32) (p3 : Int32) (p4 : Int32) (t0_12 : Int32) (t0_26 : Int32) : Int32 := if (f5 t0_12 t0_26) < (f5 p0 p1) then (f0_109 p0 p1 p2 p3 p4 t0_12 t0_26 (1 : Int32)) else (f0_109 p0 p1 p2 p3 p4 t0_12 t0_26 (0 : Int32))
def f0_12 (p0 : Int32) (p1 : Int32) (p2 : Int32) (p3 : Int32) (p4 : Int32) (t0_12 : Int32) : Int32 := if (p4 &&& (2 : Int32)) = (0 : Int32) then (f0_26 p0 p1 p2 p3 p4 t0_12 p3) else (f0_26 p0 p1 p2 p3 p4 t0_12 p1)
def f0 (p0 : Int32) (p1 : Int32) (p2 : Int32) (p3 : Int32) (p4 : Int32) : Int32 := if (p4 &&& (1 : Int32)) = (0 : Int32) then (f0_12 p0 p1 p2 p3 p4 p2) else (f0_12 p0 p1 p2 p3 p4 p0)
def Q0 (Z : State) (p0 : Int32) (p1 : Int32) (p2 : Int32) (p3 : Int32) (p4 : Int32) (h0 : Heap) (n0 : Nat) (v : Option Value) (h : Heap) (L : List Loc) : Prop := v = some (.int (f0 p0 p1 p2 p3 p4)) ∧ Fr n0 L ∧ True
set_option maxRecDepth 65536 in
set_option maxHeartbeats 40000000 in
theorem rm0 (l : Launch) (Z : State) (a0 : Array Value) (hw : ∀ d ∈ tables_1, d.before a0 Z = true) (ws : List Jvm.Cond) (p0 : Int32) (p1 : Int32) (p2 : Int32) (p3 : Int32) (p4 : Int32) (h0 : Heap) (n0 : Nat) (Z0 : n0 ≤ h0.size) :
    MetFree l x (head1 (Jvm.Cond.code x code maxLocals ret :: ws) room_1) (fun a U => a = #[(.int p0), (.int p1), (.int p2), (.int p3), (.int p4)] ∧ Z.Warmed39 U.vm ∧ U.heap = h0) (fun _ _ _ _ _ => True) (fun _ U o U' => ∃ v L, o = .returned v ∧ Q0 Z p0 p1 p2 p3 p4 h0 n0 v U'.heap L ∧ FrameEnd U o U' L room_1.cells room_1.slots) := by
  refine MetFree.of_bodySF (plainFor_of_name own_pn2) hisR ?_
  intro p e s m args below meth c s₁ Bd hml0 hP hK
  obtain ⟨rfl, hZ, hh⟩ := hP
  have hx := Bd.exec
  have hby := Bd.bytes
  have hml : c.maxLocals = 15 := hml0
  have hown : s.vm.findClass "com/example/doorward/doorward/FieldsFollowPinLaw" = some m.cls := findClass_of_methodNamed Bd.named
  have hnm := (name_of_methodNamed Bd.named Bd.method).1
  have hlk : meth.locks = false := BodyLoose.notSynchronized Bd
  have X0 : Stand p l e room_1 s m #[(.int p0), (.int p1), (.int p2), (.int p3), (.int p4)] below meth c s₁ [] 0 0 := Stand.of_body Bd
  have e0 : s₁.heap = h0 := by rw [← hh, Bd.state]; rfl
  have N0 := Fr.nil n0
  obtain ⟨G, hG⟩ : ∃ G, G = own_G s (Q0 Z p0 p1 p2 p3 p4 h0 n0) room_1.cells room_1.slots := ⟨_, rfl⟩
  show own_Fin p e below (own_G s (Q0 Z p0 p1 p2 p3 p4 h0 n0) room_1.cells room_1.slots) (s₁.setTop (entryFrame m #[(.int p0), (.int p1), (.int p2), (.int p3), (.int p4)] maxLocals))
  rw [← hG]
  refine own_to (fun _ kz => castTop (ef0 m p0 p1 p2 p3 p4) kz) ?_
  have q0 : (f0 p0 p1 p2 p3 p4) = (f0 p0 p1 p2 p3 p4) := rfl
  show own_Fin p e below G (s₁.setTop (mkF m 0 #[.val (.int p0), .val (.int p1), .val (.int p2), .val (.int p3), .val (.int p4), .unset, .unset, .unset, .unset, .unset, .unset, .unset, .unset, .unset, .unset] []))
  refine own_to (fun _ kz => XS.iload X0.here hx rfl (hb hby at_0) rfl  kz) ?_
  show own_Fin p e below G (s₁.setTop (mkF m 2 #[.val (.int p0), .val (.int p1), .val (.int p2), .val (.int p3), .val (.int p4), .unset, .unset, .unset, .unset, .unset, .unset, .unset, .unset, .unset, .unset] [(.int p4)]))
  refine own_to (fun _ kz => XS.iconst X0.here hx rfl (hb hby at_2) kz) ?_
  show own_Fin p e below G (s₁.setTop (mkF m 3 #[.val (.int p0), .val (.int p1), .val (.int p2), .val (.int p3), .val (.int p4), .unset, .unset, .unset, .unset, .unset, .unset, .unset, .unset, .unset, .unset] [(.int (1 : Int32)), (.int p4)]))
  refine own_to (fun _ kz => XS.iand X0.here hx rfl (hb hby at_3) rfl kz) ?_
  show own_Fin p e below G (s₁.setTop (mkF m 4 #[.val (.int p0), .val (.int p1), .val (.int p2), .val (.int p3), .val (.int p4), .unset, .unset, .unset, .unset, .unset, .unset, .unset, .unset, .unset, .unset] [(.int (p4 &&& (1 : Int32)))]))
  have K12 : ∀ (t0_12 : Int32) (q_j12 : (f0 p0 p1 p2 p3 p4) = (f0_12 p0 p1 p2 p3 p4 t0_12)), own_Fin p e below G (s₁.setTop (mkF m 12 #[.val (.int p0), .val (.int p1), .val (.int p2), .val (.int p3), .val (.int p4), .unset, .unset, .unset, .unset, .unset, .unset, .unset, .unset, .unset, .unset] [(.int t0_12)])) := by
    intro t0_12 q_j12
    refine own_to (fun _ kz => XS.istore X0.here hx rfl (hb hby at_12) rfl (l' := #[.val (.int p0), .val (.int p1), .val (.int p2), .val (.int p3), .val (.int p4), .val (.int t0_12), .unset, .unset, .unset, .unset, .unset, .unset, .unset, .unset, .unset]) rfl kz) ?_
    show own_Fin p e below G (s₁.setTop (mkF m 14 #[.val (.int p0), .val (.int p1), .val (.int p2), .val (.int p3), .val (.int p4), .val (.int t0_12), .unset, .unset, .unset, .unset, .unset, .unset, .unset, .unset, .unset] []))
    refine own_to (fun _ kz => XS.iload X0.here hx rfl (hb hby at_14) rfl  kz) ?_
    show own_Fin p e below G (s₁.setTop (mkF m 16 #[.val (.int p0), .val (.int p1), .val (.int p2), .val (.int p3), .val (.int p4), .val (.int t0_12), .unset, .unset, .unset, .unset, .unset, .unset, .unset, .unset, .unset] [(.int p4)]))
    refine own_to (fun _ kz => XS.iconst X0.here hx rfl (hb hby at_16) kz) ?_
    show own_Fin p e below G (s₁.setTop (mkF m 17 #[.val (.int p0), .val (.int p1), .val (.int p2), .val (.int p3), .val (.int p4), .val (.int t0_12), .unset, .unset, .unset, .unset, .unset, .unset, .unset, .unset, .unset] [(.int (2 : Int32)), (.int p4)]))
    refine own_to (fun _ kz => XS.iand X0.here hx rfl (hb hby at_17) rfl kz) ?_
    show own_Fin p e below G (s₁.setTop (mkF m 18 #[.val (.int p0), .val (.int p1), .val (.int p2), .val (.int p3), .val (.int p4), .val (.int t0_12), .unset, .unset, .unset, .unset, .unset, .unset, .unset, .unset, .unset] [(.int (p4 &&& (2 : Int32)))]))
    have K26 : ∀ (t0_26 : Int32) (q_j26 : (f0 p0 p1 p2 p3 p4) = (f0_26 p0 p1 p2 p3 p4 t0_12 t0_26)), own_Fin p e below G (s₁.setTop (mkF m 26 #[.val (.int p0), .val (.int p1), .val (.int p2), .val (.int p3), .val (.int p4), .val (.int t0_12), .unset, .unset, .unset, .unset, .unset, .unset, .unset, .unset, .unset] [(.int t0_26)])) := by
      intro t0_26 q_j26
      refine own_to (fun _ kz => XS.istore X0.here hx rfl (hb hby at_26) rfl (l' := #[.val (.int p0), .val (.int p1), .val (.int p2), .val (.int p3), .val (.int p4), .val (.int t0_12), .val (.int t0_26), .unset, .unset, .unset, .unset, .unset, .unset, .unset, .unset]) rfl kz) ?_
      show own_Fin p e below G (s₁.setTop (mkF m 28 #[.val (.int p0), .val (.int p1), .val (.int p2), .val (.int p3), .val (.int p4), .val (.int t0_12), .val (.int t0_26), .unset, .unset, .unset, .unset, .unset, .unset, .unset, .unset] []))
      obtain ⟨T28, h28, X28, e28, E28, A28, D28, -, st28⟩ := newO X0 hx hZ hown (hw _ (List.mem_of_getElem? (i := 0) rfl)) (hw _ (List.mem_of_getElem? (i := 1) rfl)) (hw _ (List.mem_of_getElem? (i := 2) rfl)) e0 (g := (mkF m 28 #[.val (.int p0), .val (.int p1), .val (.int p2), .val (.int p3), .val (.int p4), .val (.int t0_12), .val (.int t0_26), .unset, .unset, .unset, .unset, .unset, .unset, .unset, .unset] [])) rfl (hb hby at_28) (by decide) (by decide)
      obtain ⟨b28, g28⟩ : ∃ z, z = h0.size := ⟨_, rfl⟩
      rw [← g28] at A28 D28 st28
      refine own_to st28 ?_
      have g_b28 : n0 ≤ b28 := Nat.le_trans Z0 (Nat.le_of_eq g28.symm)
      have F_privateId_b28 : Fld Z h28 b28 "com/example/doorward/doorward/YubiKeyOtp$Fields" "privateId" "[B" .null := D28 (Or.inr (hw _ (List.mem_of_getElem? (i := 16) rfl))) (ty := (.array .byte)) (by decide)
      have F_counter_b28 : Fld Z h28 b28 "com/example/doorward/doorward/YubiKeyOtp$Fields" "counter" "I" (.int (0 : Int32)) := D28 (Or.inr (hw _ (List.mem_of_getElem? (i := 18) rfl))) (ty := .int) (by decide)
      have F_sessionUse_b28 : Fld Z h28 b28 "com/example/doorward/doorward/YubiKeyOtp$Fields" "sessionUse" "I" (.int (0 : Int32)) := D28 (Or.inr (hw _ (List.mem_of_getElem? (i := 20) rfl))) (ty := .int) (by decide)
      show own_Fin p e below G (T28.setTop (mkF m 31 #[.val (.int p0), .val (.int p1), .val (.int p2), .val (.int p3), .val (.int p4), .val (.int t0_12), .val (.int t0_26), .unset, .unset, .unset, .unset, .unset, .unset, .unset, .unset] [(.ref b28)]))
      refine own_to (fun _ kz => XS.dup X28.here hx rfl (hb hby at_31) rfl rfl kz) ?_
      show own_Fin p e below G (T28.setTop (mkF m 32 #[.val (.int p0), .val (.int p1), .val (.int p2), .val (.int p3), .val (.int p4), .val (.int t0_12), .val (.int t0_26), .unset, .unset, .unset, .unset, .unset, .unset, .unset, .unset] [(.ref b28), (.ref b28)]))
      refine own_to (fun _ kz => XS.bipush X28.here hx rfl (hb hby at_32) kz) ?_
      show own_Fin p e below G (T28.setTop (mkF m 34 #[.val (.int p0), .val (.int p1), .val (.int p2), .val (.int p3), .val (.int p4), .val (.int t0_12), .val (.int t0_26), .unset, .unset, .unset, .unset, .unset, .unset, .unset, .unset] [(.int (6 : Int32)), (.ref b28), (.ref b28)]))
      have Z_34 : n0 ≤ h28.size := (Nat.le_trans Z0 E28.1)
      obtain ⟨T34, h34, k34, X34, e34, E34, A34, st34⟩ := newP X28 hx hZ (hw _ (List.mem_of_getElem? (i := 3) rfl)) e28 (g := (mkF m 34 #[.val (.int p0), .val (.int p1), .val (.int p2), .val (.int p3), .val (.int p4), .val (.int t0_12), .val (.int t0_26), .unset, .unset, .unset, .unset, .unset, .unset, .unset, .unset] [(.int (6 : Int32)), (.ref b28), (.ref b28)])) rfl (hb hby at_34) rfl (by decide) (cap := 6) (by decide) (by decide) (by decide) (by decide)
      obtain ⟨b34, g34⟩ : ∃ z, z = h28.size := ⟨_, rfl⟩
      rw [← g34] at A34 st34
      refine own_to st34 ?_
      have ne_b28_b34 : b28 ≠ b34 := Nat.ne_of_lt (Nat.lt_of_lt_of_le A28.lt (Nat.le_of_eq g34.symm))
      have g_b34 : n0 ≤ b34 := Nat.le_trans Z_34 (Nat.le_of_eq g34.symm)
      have V34 : own_AV Value.int Z h34 b34 .byte 6 (fun _ => (0 : Int32)) := own_AV.new A34 (by decide) (by decide) (fun _ => rfl)
      show own_Fin p e below G (T34.setTop (mkF m 36 #[.val (.int p0), .val (.int p1), .val (.int p2), .val (.int p3), .val (.int p4), .val (.int t0_12), .val (.int t0_26), .unset, .unset, .unset, .unset, .unset, .unset, .unset, .unset] [(.ref b34), (.ref b28), (.ref b28)]))
      refine own_to (fun _ kz => XS.iloadN X34.here hx rfl (hb hby at_36) rfl  kz) ?_
      show own_Fin p e below G (T34.setTop (mkF m 37 #[.val (.int p0), .val (.int p1), .val (.int p2), .val (.int p3), .val (.int p4), .val (.int t0_12), .val (.int t0_26), .unset, .unset, .unset, .unset, .unset, .unset, .unset, .unset] [(.int p0), (.ref b34), (.ref b28), (.ref b28)]))
      refine own_to (fun _ kz => XS.iloadN X34.here hx rfl (hb hby at_37) rfl  kz) ?_
      show own_Fin p e below G (T34.setTop (mkF m 38 #[.val (.int p0), .val (.int p1), .val (.int p2), .val (.int p3), .val (.int p4), .val (.int t0_12), .val (.int t0_26), .unset, .unset, .unset, .unset, .unset, .unset, .unset, .unset] [(.int p1), (.int p0), (.ref b34), (.ref b28), (.ref b28)]))
      have A28_at_38 : Exa Z h34 b28 "com/example/doorward/doorward/YubiKeyOtp$Fields" := (A28.ext E34)
      have F_privateId_b28_at_38 : Fld Z h34 b28 "com/example/doorward/doorward/YubiKeyOtp$Fields" "privateId" "[B" .null := (F_privateId_b28.ext E34)
      have F_counter_b28_at_38 : Fld Z h34 b28 "com/example/doorward/doorward/YubiKeyOtp$Fields" "counter" "I" (.int (0 : Int32)) := (F_counter_b28.ext E34)
      have F_sessionUse_b28_at_38 : Fld Z h34 b28 "com/example/doorward/doorward/YubiKeyOtp$Fields" "sessionUse" "I" (.int (0 : Int32)) := (F_sessionUse_b28.ext E34)
      have Z_38 : n0 ≤ h34.size := (Nat.le_trans Z_34 E34.1)
      obtain ⟨_, _, ⟨T38, L38, k38, n38⟩, -, X38, ⟨Lc38, hQ38, l38, y38, z38⟩, st38⟩ := X34.specialBack hx (y := (⟨"com/example/doorward/doorward/YubiKeyOtp$Fields", "<init>", "([BII)V"⟩ : MethodName)) rfl hown (mvT hZ (hw _ (List.mem_of_getElem? (i := 4) rfl))) (mvT hZ (hw _ (List.mem_of_getElem? (i := 5) rfl))) (mvT hZ (hw _ (List.mem_of_getElem? (i := 6) rfl))) (by decide) (backOf (W := 1) (rm1 l Z a0 hw [] b28 b34 p0 p1 h34 n0 Z_38 A28_at_38 F_privateId_b28_at_38 F_counter_b28_at_38 F_sessionUse_b28_at_38 g_b28) hZ (hw _ (List.mem_of_getElem? (i := 6) rfl)) (hw _ (List.mem_of_getElem? (i := 2) rfl)) (by decide) (by decide)) (g := (mkF m 38 #[.val (.int p0), .val (.int p1), .val (.int p2), .val (.int p3), .val (.int p4), .val (.int t0_12), .val (.int t0_26), .unset, .unset, .unset, .unset, .unset, .unset, .unset, .unset] [(.int p1), (.int p0), (.ref b34), (.ref b28), (.ref b28)])) rfl (by rw [hml]; rfl) (Steps.refl _) (a := b28) (argsL := [(.ref b34), (.int p0), (.int p1)]) (rest := [(.ref b28)]) (lenOf own_pd1 rfl) rfl (by show 2 * 0 + _ ≤ _; exact Nat.le_of_eq rfl) (hb hby at_38) (fun _ _ => ⟨rfl, e34, (by decide : 2 + 0 ≤ _), (by decide : 9 + 0 ≤ _)⟩)
      dsimp only [Pt.U, Pt.locs, Pt.cells, Pt.slots] at X38 l38 y38 z38 st38 hQ38
      subst l38 y38 z38
      obtain ⟨rfl, N38q, Kp38, P38_0, P38_1, P38_2, P38_3⟩ := hQ38
      have N38 := Fr.app N0 N38q
      refine own_via st38 ?_
      show own_Fin p e below G (T38.setTop (mkF m 41 #[.val (.int p0), .val (.int p1), .val (.int p2), .val (.int p3), .val (.int p4), .val (.int t0_12), .val (.int t0_26), .unset, .unset, .unset, .unset, .unset, .unset, .unset, .unset] [(.ref b28)]))
      refine own_to (fun _ kz => XS.astore X38.here hx rfl (hb hby at_41) rfl (rfl) (l' := #[.val (.int p0), .val (.int p1), .val (.int p2), .val (.int p3), .val (.int p4), .val (.int t0_12), .val (.int t0_26), .val (.ref b28), .unset, .unset, .unset, .unset, .unset, .unset, .unset]) rfl kz) ?_
      show own_Fin p e below G (T38.setTop (mkF m 43 #[.val (.int p0), .val (.int p1), .val (.int p2), .val (.int p3), .val (.int p4), .val (.int t0_12), .val (.int t0_26), .val (.ref b28), .unset, .unset, .unset, .unset, .unset, .unset, .unset] []))
      have Z_43 : n0 ≤ T38.heap.size := (Nat.le_trans Z_38 Kp38.1)
      obtain ⟨T43, h43, X43, e43, E43, A43, D43, -, st43⟩ := newO X38 hx hZ hown (hw _ (List.mem_of_getElem? (i := 0) rfl)) (hw _ (List.mem_of_getElem? (i := 1) rfl)) (hw _ (List.mem_of_getElem? (i := 2) rfl)) rfl (g := (mkF m 43 #[.val (.int p0), .val (.int p1), .val (.int p2), .val (.int p3), .val (.int p4), .val (.int t0_12), .val (.int t0_26), .val (.ref b28), .unset, .unset, .unset, .unset, .unset, .unset, .unset] [])) rfl (hb hby at_43) (by decide) (by decide)
      obtain ⟨b43, g43⟩ : ∃ z, z = T38.heap.size := ⟨_, rfl⟩
      rw [← g43] at A43 D43 st43
      refine own_to st43 ?_
      have ne_b28_b43 : b28 ≠ b43 := Nat.ne_of_lt (Nat.lt_of_lt_of_le P38_0.lt (Nat.le_of_eq g43.symm))
      have ne_b34_b43 : b34 ≠ b43 := Nat.ne_of_lt (Nat.lt_of_lt_of_le (V34.keep Kp38 (ninS (Ne.symm ne_b28_b34) nin0)).lt (Nat.le_of_eq g43.symm))
      have g_b43 : n0 ≤ b43 := Nat.le_trans Z_43 (Nat.le_of_eq g43.symm)
      have F_privateId_b43 : Fld Z h43 b43 "com/example/doorward/doorward/YubiKeyOtp$Fields" "privateId" "[B" .null := D43 (Or.inr (hw _ (List.mem_of_getElem? (i := 16) rfl))) (ty := (.array .byte)) (by decide)
      have F_counter_b43 : Fld Z h43 b43 "com/example/doorward/doorward/YubiKeyOtp$Fields" "counter" "I" (.int (0 : Int32)) := D43 (Or.inr (hw _ (List.mem_of_getElem? (i := 18) rfl))) (ty := .int) (by decide)
      have F_sessionUse_b43 : Fld Z h43 b43 "com/example/doorward/doorward/YubiKeyOtp$Fields" "sessionUse" "I" (.int (0 : Int32)) := D43 (Or.inr (hw _ (List.mem_of_getElem? (i := 20) rfl))) (ty := .int) (by decide)
      show own_Fin p e below G (T43.setTop (mkF m 46 #[.val (.int p0), .val (.int p1), .val (.int p2), .val (.int p3), .val (.int p4), .val (.int t0_12), .val (.int t0_26), .val (.ref b28), .unset, .unset, .unset, .unset, .unset, .unset, .unset] [(.ref b43)]))
      refine own_to (fun _ kz => XS.dup X43.here hx rfl (hb hby at_46) rfl rfl kz) ?_
      show own_Fin p e below G (T43.setTop (mkF m 47 #[.val (.int p0), .val (.int p1), .val (.int p2), .val (.int p3), .val (.int p4), .val (.int t0_12), .val (.int t0_26), .val (.ref b28), .unset, .unset, .unset, .unset, .unset, .unset, .unset] [(.ref b43), (.ref b43)]))
      refine own_to (fun _ kz => XS.bipush X43.here hx rfl (hb hby at_47) kz) ?_
      show own_Fin p e below G (T43.setTop (mkF m 49 #[.val (.int p0), .val (.int p1), .val (.int p2), .val (.int p3), .val (.int p4), .val (.int t0_12), .val (.int t0_26), .val (.ref b28), .unset, .unset, .unset, .unset, .unset, .unset, .unset] [(.int (6 : Int32)), (.ref b43), (.ref b43)]))
      have Z_49 : n0 ≤ h43.size := (Nat.le_trans Z_43 E43.1)
      obtain ⟨T49, h49, k49, X49, e49, E49, A49, st49⟩ := newP X43 hx hZ (hw _ (List.mem_of_getElem? (i := 3) rfl)) e43 (g := (mkF m 49 #[.val (.int p0), .val (.int p1), .val (.int p2), .val (.int p3), .val (.int p4), .val (.int t0_12), .val (.int t0_26), .val (.ref b28), .unset, .unset, .unset, .unset, .unset, .unset, .unset] [(.int (6 : Int32)), (.ref b43), (.ref b43)])) rfl (hb hby at_49) rfl (by decide) (cap := 6) (by decide) (by decide) (by decide) (by decide)
      obtain ⟨b49, g49⟩ : ∃ z, z = h43.size := ⟨_, rfl⟩
      rw [← g49] at A49 st49
      refine own_to st49 ?_
      have ne_b28_b49 : b28 ≠ b49 := Nat.ne_of_lt (Nat.lt_of_lt_of_le (P38_0.ext E43).lt (Nat.le_of_eq g49.symm))
      have ne_b34_b49 : b34 ≠ b49 := Nat.ne_of_lt (Nat.lt_of_lt_of_le ((V34.keep Kp38 (ninS (Ne.symm ne_b28_b34) nin0)).ext E43).lt (Nat.le_of_eq g49.symm))
      have ne_b43_b49 : b43 ≠ b49 := Nat.ne_of_lt (Nat.lt_of_lt_of_le A43.lt (Nat.le_of_eq g49.symm))
      have g_b49 : n0 ≤ b49 := Nat.le_trans Z_49 (Nat.le_of_eq g49.symm)
      have V49 : own_AV Value.int Z h49 b49 .byte 6 (fun _ => (0 : Int32)) := own_AV.new A49 (by decide) (by decide) (fun _ => rfl)
      show own_Fin p e below G (T49.setTop (mkF m 51 #[.val (.int p0), .val (.int p1), .val (.int p2), .val (.int p3), .val (.int p4), .val (.int t0_12), .val (.int t0_26), .val (.ref b28), .unset, .unset, .unset, .unset, .unset, .unset, .unset] [(.ref b49), (.ref b43), (.ref b43)]))
      refine own_to (fun _ kz => XS.iload X49.here hx rfl (hb hby at_51) rfl  kz) ?_
      show own_Fin p e below G (T49.setTop (mkF m 53 #[.val (.int p0), .val (.int p1), .val (.int p2), .val (.int p3), .val (.int p4), .val (.int t0_12), .val (.int t0_26), .val (.ref b28), .unset, .unset, .unset, .unset, .unset, .unset, .unset] [(.int t0_12), (.ref b49), (.ref b43), (.ref b43)]))
      refine own_to (fun _ kz => XS.iload X49.here hx rfl (hb hby at_53) rfl  kz) ?_
      show own_Fin p e below G (T49.setTop (mkF m 55 #[.val (.int p0), .val (.int p1), .val (.int p2), .val (.int p3), .val (.int p4), .val (.int t0_12), .val (.int t0_26), .val (.ref b28), .unset, .unset, .unset, .unset, .unset, .unset, .unset] [(.int t0_26), (.int t0_12), (.ref b49), (.ref b43), (.ref b43)]))
      have A43_at_55 : Exa Z h49 b43 "com/example/doorward/doorward/YubiKeyOtp$Fields" := (A43.ext E49)
      have F_privateId_b43_at_55 : Fld Z h49 b43 "com/example/doorward/doorward/YubiKeyOtp$Fields" "privateId" "[B" .null := (F_privateId_b43.ext E49)
      have F_counter_b43_at_55 : Fld Z h49 b43 "com/example/doorward/doorward/YubiKeyOtp$Fields" "counter" "I" (.int (0 : Int32)) := (F_counter_b43.ext E49)
      have F_sessionUse_b43_at_55 : Fld Z h49 b43 "com/example/doorward/doorward/YubiKeyOtp$Fields" "sessionUse" "I" (.int (0 : Int32)) := (F_sessionUse_b43.ext E49)
      have Z_55 : n0 ≤ h49.size := (Nat.le_trans Z_49 E49.1)
      obtain ⟨_, _, ⟨T55, L55, k55, n55⟩, -, X55, ⟨Lc55, hQ55, l55, y55, z55⟩, st55⟩ := X49.specialBack hx (y := (⟨"com/example/doorward/doorward/YubiKeyOtp$Fields", "<init>", "([BII)V"⟩ : MethodName)) rfl hown (mvT hZ (hw _ (List.mem_of_getElem? (i := 4) rfl))) (mvT hZ (hw _ (List.mem_of_getElem? (i := 5) rfl))) (mvT hZ (hw _ (List.mem_of_getElem? (i := 6) rfl))) (by decide) (backOf (W := 1) (rm1 l Z a0 hw [] b43 b49 t0_12 t0_26 h49 n0 Z_55 A43_at_55 F_privateId_b43_at_55 F_counter_b43_at_55 F_sessionUse_b43_at_55 g_b43) hZ (hw _ (List.mem_of_getElem? (i := 6) rfl)) (hw _ (List.mem_of_getElem? (i := 2) rfl)) (by decide) (by decide)) (g := (mkF m 55 #[.val (.int p0), .val (.int p1), .val (.int p2), .val (.int p3), .val (.int p4), .val (.int t0_12), .val (.int t0_26), .val (.ref b28), .unset, .unset, .unset, .unset, .unset, .unset, .unset] [(.int t0_26), (.int t0_12), (.ref b49), (.ref b43), (.ref b43)])) rfl (by rw [hml]; rfl) (Steps.refl _) (a := b43) (argsL := [(.ref b49), (.int t0_12), (.int t0_26)]) (rest := [(.ref b43)]) (lenOf own_pd1 rfl) rfl (by show 2 * 0 + _ ≤ _; exact Nat.le_of_eq rfl) (hb hby at_55) (fun _ _ => ⟨rfl, e49, (by decide : 4 + 0 ≤ _), (by decide : 18 + 0 ≤ _)⟩)
      dsimp only [Pt.U, Pt.locs, Pt.cells, Pt.slots] at X55 l55 y55 z55 st55 hQ55
      subst l55 y55 z55
      obtain ⟨rfl, N55q, Kp55, P55_0, P55_1, P55_2, P55_3⟩ := hQ55
      have N55 := Fr.app N38 N55q
      refine own_via st55 ?_
      show own_Fin p e below G (T55.setTop (mkF m 58 #[.val (.int p0), .val (.int p1), .val (.int p2), .val (.int p3), .val (.int p4), .val (.int t0_12), .val (.int t0_26), .val (.ref b28), .unset, .unset, .unset, .unset, .unset, .unset, .unset] [(.ref b43)]))
      refine own_to (fun _ kz => XS.astore X55.here hx rfl (hb hby at_58) rfl (rfl) (l' := #[.val (.int p0), .val (.int p1), .val (.int p2), .val (.int p3), .val (.int p4), .val (.int t0_12), .val (.int t0_26), .val (.ref b28), .val (.ref b43), .unset, .unset, .unset, .unset, .unset, .unset]) rfl kz) ?_
      show own_Fin p e below G (T55.setTop (mkF m 60 #[.val (.int p0), .val (.int p1), .val (.int p2), .val (.int p3), .val (.int p4), .val (.int t0_12), .val (.int t0_26), .val (.ref b28), .val (.ref b43), .unset, .unset, .unset, .unset, .unset, .unset] []))
      refine own_to (fun _ kz => XS.aload X55.here hx rfl (hb hby at_60) rfl (rfl)  kz) ?_
      show own_Fin p e below G (T55.setTop (mkF m 62 #[.val (.int p0), .val (.int p1), .val (.int p2), .val (.int p3), .val (.int p4), .val (.int t0_12), .val (.int t0_26), .val (.ref b28), .val (.ref b43), .unset, .unset, .unset, .unset, .unset, .unset] [(.ref b28)]))
      refine own_to (fun _ kz => XS.aload X55.here hx rfl (hb hby at_62) rfl (rfl)  kz) ?_
      show own_Fin p e below G (T55.setTop (mkF m 64 #[.val (.int p0), .val (.int p1), .val (.int p2), .val (.int p3), .val (.int p4), .val (.int t0_12), .val (.int t0_26), .val (.ref b28), .val (.ref b43), .unset, .unset, .unset, .unset, .unset, .unset] [(.ref b43), (.ref b28)]))
      have P38_2_at_64 : Fld Z T55.heap b28 "com/example/doorward/doorward/YubiKeyOtp$Fields" "counter" "I" (.int p0) := (((P38_2.ext E43).ext E49).keep Kp55 (ninS ne_b28_b43 nin0))
      have P38_3_at_64 : Fld Z T55.heap b28 "com/example/doorward/doorward/YubiKeyOtp$Fields" "sessionUse" "I" (.int p1) := (((P38_3.ext E43).ext E49).keep Kp55 (ninS ne_b28_b43 nin0))
      have Z_64 : n0 ≤ T55.heap.size := (Nat.le_trans Z_55 Kp55.1)
      have P38_0_at_64 : Exa Z T55.heap b28 "com/example/doorward/doorward/YubiKeyOtp$Fields" := (((P38_0.ext E43).ext E49).keep Kp55)
      obtain ⟨cq64, kq64, qa64, qb64, qc64⟩ := isOf hZ rfl P38_0_at_64
      obtain ⟨_, _, ⟨T64, L64, k64, n64⟩, -, X64, ⟨Lc64, hQ64, l64, y64, z64⟩, st64⟩ := X55.virtualBack hx (y := (⟨"com/example/doorward/doorward/YubiKeyOtp$Fields", "follow", "(Lcom/example/doorward/doorward/YubiKeyOtp$Fields;)Z"⟩ : MethodName)) (z := (⟨"com/example/doorward/doorward/YubiKeyOtp$Fields", "follow", "(Lcom/example/doorward/doorward/YubiKeyOtp$Fields;)Z"⟩ : MethodName)) hown (mvT hZ (hw _ (List.mem_of_getElem? (i := 21) rfl))) (mvT hZ (hw _ (List.mem_of_getElem? (i := 22) rfl))) (notFace_of_selects (args := #[]) (mvT hZ (hw _ (List.mem_of_getElem? (i := 24) rfl)))) (mvT hZ (hw _ (List.mem_of_getElem? (i := 24) rfl))) (mvT hZ (hw _ (List.mem_of_getElem? (i := 23) rfl))) (by decide) (backOf (W := 0) (rm4 l Z a0 hw [] b28 b43 p0 p1 t0_12 t0_26 T55.heap n0 Z_64 P38_2_at_64 P38_3_at_64 P55_2 P55_3) hZ (hw _ (List.mem_of_getElem? (i := 25) rfl)) (hw _ (List.mem_of_getElem? (i := 2) rfl)) (by decide) (by decide)) qa64 qc64 (g := (mkF m 64 #[.val (.int p0), .val (.int p1), .val (.int p2), .val (.int p3), .val (.int p4), .val (.int t0_12), .val (.int t0_26), .val (.ref b28), .val (.ref b43), .unset, .unset, .unset, .unset, .unset, .unset] [(.ref b43), (.ref b28)])) rfl (by rw [hml]; rfl) (Steps.refl _) (argsL := [(.ref b43)]) (rest := []) (lenOf own_pd2 rfl) rfl (by show 2 * 0 + _ ≤ _; exact Nat.le_of_eq rfl) (hb hby at_64) (fun _ _ => ⟨rfl, rfl, (by decide : 4 + 0 ≤ _), (by decide : 18 + 0 ≤ _)⟩)
      dsimp only [Pt.U, Pt.locs, Pt.cells, Pt.slots] at X64 l64 y64 z64 st64 hQ64
      subst l64 y64 z64
      obtain ⟨rfl, N64q, e64⟩ := hQ64
      have N64 := Fr.app N55 N64q
      refine own_via st64 ?_
      show own_Fin p e below G (T64.setTop (mkF m 67 #[.val (.int p0), .val (.int p1), .val (.int p2), .val (.int p3), .val (.int p4), .val (.int t0_12), .val (.int t0_26), .val (.ref b28), .val (.ref b43), .unset, .unset, .unset, .unset, .unset, .unset] [(.int (f4 p0 p1 t0_12 t0_26))]))
      refine own_to (fun _ kz => XS.istore X64.here hx rfl (hb hby at_67) rfl (l' := #[.val (.int p0), .val (.int p1), .val (.int p2), .val (.int p3), .val (.int p4), .val (.int t0_12), .val (.int t0_26), .val (.ref b28), .val (.ref b43), .val (.int (f4 p0 p1 t0_12 t0_26)), .unset, .unset, .unset, .unset, .unset]) rfl kz) ?_
      show own_Fin p e below G (T64.setTop (mkF m 69 #[.val (.int p0), .val (.int p1), .val (.int p2), .val (.int p3), .val (.int p4), .val (.int t0_12), .val (.int t0_26), .val (.ref b28), .val (.ref b43), .val (.int (f4 p0 p1 t0_12 t0_26)), .unset, .unset, .unset, .unset, .unset] []))
      refine own_to (fun _ kz => XS.aload X64.here hx rfl (hb hby at_69) rfl (rfl)  kz) ?_
      show own_Fin p e below G (T64.setTop (mkF m 71 #[.val (.int p0), .val (.int p1), .val (.int p2), .val (.int p3), .val (.int p4), .val (.int t0_12), .val (.int t0_26), .val (.ref b28), .val (.ref b43), .val (.int (f4 p0 p1 t0_12 t0_26)), .unset, .unset, .unset, .unset, .unset] [(.ref b43)]))
      refine own_to (fun _ kz => XS.aload X64.here hx rfl (hb hby at_71) rfl (rfl)  kz) ?_
      show own_Fin p e below G (T64.setTop (mkF m 73 #[.val (.int p0), .val (.int p1), .val (.int p2), .val (.int p3), .val (.int p4), .val (.int t0_12), .val (.int t0_26), .val (.ref b28), .val (.ref b43), .val (.int (f4 p0 p1 t0_12 t0_26)), .unset, .unset, .unset, .unset, .unset] [(.ref b28), (.ref b43)]))
      obtain ⟨cq73, kq73, qa73, qb73, qc73⟩ := isOf hZ e64 P55_0
      obtain ⟨_, _, ⟨T73, L73, k73, n73⟩, -, X73, ⟨Lc73, hQ73, l73, y73, z73⟩, st73⟩ := X64.virtualBack hx (y := (⟨"com/example/doorward/doorward/YubiKeyOtp$Fields", "follow", "(Lcom/example/doorward/doorward/YubiKeyOtp$Fields;)Z"⟩ : MethodName)) (z := (⟨"com/example/doorward/doorward/YubiKeyOtp$Fields", "follow", "(Lcom/example/doorward/doorward/YubiKeyOtp$Fields;)Z"⟩ : MethodName)) hown (mvT hZ (hw _ (List.mem_of_getElem? (i := 21) rfl))) (mvT hZ (hw _ (List.mem_of_getElem? (i := 22) rfl))) (notFace_of_selects (args := #[]) (mvT hZ (hw _ (List.mem_of_getElem? (i := 24) rfl)))) (mvT hZ (hw _ (List.mem_of_getElem? (i := 24) rfl))) (mvT hZ (hw _ (List.mem_of_getElem? (i := 23) rfl))) (by decide) (backOf (W := 0) (rm4 l Z a0 hw [] b43 b28 t0_12 t0_26 p0 p1 T55.heap n0 Z_64 P55_2 P55_3 P38_2_at_64 P38_3_at_64) hZ (hw _ (List.mem_of_getElem? (i := 25) rfl)) (hw _ (List.mem_of_getElem? (i := 2) rfl)) (by decide) (by decide)) qa73 qc73 (g := (mkF m 73 #[.val (.int p0), .val (.int p1), .val (.int p2), .val (.int p3), .val (.int p4), .val (.int t0_12), .val (.int t0_26), .val (.ref b28), .val (.ref b43), .val (.int (f4 p0 p1 t0_12 t0_26)), .unset, .unset, .unset, .unset, .unset] [(.ref b28), (.ref b43)])) rfl (by rw [hml]; rfl) (Steps.refl _) (argsL := [(.ref b28)]) (rest := []) (lenOf own_pd2 rfl) rfl (by show 2 * 0 + _ ≤ _; exact Nat.le_of_eq rfl) (hb hby at_73) (fun _ _ => ⟨rfl, e64, (by decide : 4 + 0 ≤ _), (by decide : 18 + 0 ≤ _)⟩)
      dsimp only [Pt.U, Pt.locs, Pt.cells, Pt.slots] at X73 l73 y73 z73 st73 hQ73
      subst l73 y73 z73
      obtain ⟨rfl, N73q, e73⟩ := hQ73
      have N73 := Fr.app N64 N73q
      refine own_via st73 ?_
      show own_Fin p e below G (T73.setTop (mkF m 76 #[.val (.int p0), .val (.int p1), .val (.int p2), .val (.int p3), .val (.int p4), .val (.int t0_12), .val (.int t0_26), .val (.ref b28), .val (.ref b43), .val (.int (f4 p0 p1 t0_12 t0_26)), .unset, .unset, .unset, .unset, .unset] [(.int (f4 t0_12 t0_26 p0 p1))]))
      refine own_to (fun _ kz => XS.istore X73.here hx rfl (hb hby at_76) rfl (l' := #[.val (.int p0), .val (.int p1), .val (.int p2), .val (.int p3), .val (.int p4), .val (.int t0_12), .val (.int t0_26), .val (.ref b28), .val (.ref b43), .val (.int (f4 p0 p1 t0_12 t0_26)), .val (.int (f4 t0_12 t0_26 p0 p1)), .unset, .unset, .unset, .unset]) rfl kz) ?_
      show own_Fin p e below G (T73.setTop (mkF m 78 #[.val (.int p0), .val (.int p1), .val (.int p2), .val (.int p3), .val (.int p4), .val (.int t0_12), .val (.int t0_26), .val (.ref b28), .val (.ref b43), .val (.int (f4 p0 p1 t0_12 t0_26)), .val (.int (f4 t0_12 t0_26 p0 p1)), .unset, .unset, .unset, .unset] []))
      refine own_to (fun _ kz => XS.iloadN X73.here hx rfl (hb hby at_78) rfl  kz) ?_
      show own_Fin p e below G (T73.setTop (mkF m 79 #[.val (.int p0), .val (.int p1), .val (.int p2), .val (.int p3), .val (.int p4), .val (.int t0_12), .val (.int t0_26), .val (.ref b28), .val (.ref b43), .val (.int (f4 p0 p1 t0_12 t0_26)), .val (.int (f4 t0_12 t0_26 p0 p1)), .unset, .unset, .unset, .unset] [(.int p0)]))
      refine own_to (fun _ kz => XS.iloadN X73.here hx rfl (hb hby at_79) rfl  kz) ?_
      show own_Fin p e below G (T73.setTop (mkF m 80 #[.val (.int p0), .val (.int p1), .val (.int p2), .val (.int p3), .val (.int p4), .val (.int t0_12), .val (.int t0_26), .val (.ref b28), .val (.ref b43), .val (.int (f4 p0 p1 t0_12 t0_26)), .val (.int (f4 t0_12 t0_26 p0 p1)), .unset, .unset, .unset, .unset] [(.int p1), (.int p0)]))
      obtain ⟨_, _, ⟨T80, L80, k80, n80⟩, -, X80, ⟨Lc80, hQ80, l80, y80, z80⟩, st80⟩ := Jvm.LawKit.callS X73 hx (y := (⟨"com/example/doorward/doorward/FieldsFollowPinLaw", "key", "(II)J"⟩ : MethodName)) hown (mvT hZ (hw _ (List.mem_of_getElem? (i := 26) rfl))) (mvT hZ (hw _ (List.mem_of_getElem? (i := 27) rfl))) (mvT hZ (hw _ (List.mem_of_getElem? (i := 28) rfl))) (mvT hZ (hw _ (List.mem_of_getElem? (i := 29) rfl))) (by decide) (backOf (W := 0) (rm5 l Z a0 hw [] p0 p1 T55.heap n0 Z_64) hZ (hw _ (List.mem_of_getElem? (i := 29) rfl)) (hw _ (List.mem_of_getElem? (i := 28) rfl)) (by decide) (by decide)) (g := (mkF m 80 #[.val (.int p0), .val (.int p1), .val (.int p2), .val (.int p3), .val (.int p4), .val (.int t0_12), .val (.int t0_26), .val (.ref b28), .val (.ref b43), .val (.int (f4 p0 p1 t0_12 t0_26)), .val (.int (f4 t0_12 t0_26 p0 p1)), .unset, .unset, .unset, .unset] [(.int p1), (.int p0)])) rfl (by rw [hml]; rfl) (argsL := [(.int p0), (.int p1)]) (rest := []) (lenOf own_pd3 rfl) rfl (by show 2 * 0 + _ ≤ _; exact Nat.le_of_eq rfl) (hb hby at_80) (fun _ _ => ⟨rfl, e73, (by decide : 4 + 0 ≤ _), (by decide : 18 + 0 ≤ _)⟩)
      dsimp only [Pt.U, Pt.locs, Pt.cells, Pt.slots] at X80 l80 y80 z80 st80 hQ80
      subst l80 y80 z80
      obtain ⟨rfl, N80q, e80⟩ := hQ80
      have N80 := Fr.app N73 N80q
      refine own_to st80 ?_
      show own_Fin p e below G (T80.setTop (mkF m 83 #[.val (.int p0), .val (.int p1), .val (.int p2), .val (.int p3), .val (.int p4), .val (.int t0_12), .val (.int t0_26), .val (.ref b28), .val (.ref b43), .val (.int (f4 p0 p1 t0_12 t0_26)), .val (.int (f4 t0_12 t0_26 p0 p1)), .unset, .unset, .unset, .unset] [(.long (f5 p0 p1))]))
      refine own_to (fun _ kz => XS.lstore X80.here hx rfl (hb hby at_83) rfl (l' := #[.val (.int p0), .val (.int p1), .val (.int p2), .val (.int p3), .val (.int p4), .val (.int t0_12), .val (.int t0_26), .val (.ref b28), .val (.ref b43), .val (.int (f4 p0 p1 t0_12 t0_26)), .val (.int (f4 t0_12 t0_26 p0 p1)), .val (.long (f5 p0 p1)), .second, .unset, .unset]) rfl kz) ?_
      show own_Fin p e below G (T80.setTop (mkF m 85 #[.val (.int p0), .val (.int p1), .val (.int p2), .val (.int p3), .val (.int p4), .val (.int t0_12), .val (.int t0_26), .val (.ref b28), .val (.ref b43), .val (.int (f4 p0 p1 t0_12 t0_26)), .val (.int (f4 t0_12 t0_26 p0 p1)), .val (.long (f5 p0 p1)), .second, .unset, .unset] []))
      refine own_to (fun _ kz => XS.iload X80.here hx rfl (hb hby at_85) rfl  kz) ?_
      show own_Fin p e below G (T80.setTop (mkF m 87 #[.val (.int p0), .val (.int p1), .val (.int p2), .val (.int p3), .val (.int p4), .val (.int t0_12), .val (.int t0_26), .val (.ref b28), .val (.ref b43), .val (.int (f4 p0 p1 t0_12 t0_26)), .val (.int (f4 t0_12 t0_26 p0 p1)), .val (.long (f5 p0 p1)), .second, .unset, .unset] [(.int t0_12)]))
      refine own_to (fun _ kz => XS.iload X80.here hx rfl (hb hby at_87) rfl  kz) ?_
      show own_Fin p e below G (T80.setTop (mkF m 89 #[.val (.int p0), .val (.int p1), .val (.int p2), .val (.int p3), .val (.int p4), .val (.int t0_12), .val (.int t0_26), .val (.ref b28), .val (.ref b43), .val (.int (f4 p0 p1 t0_12 t0_26)), .val (.int (f4 t0_12 t0_26 p0 p1)), .val (.long (f5 p0 p1)), .second, .unset, .unset] [(.int t0_26), (.int t0_12)]))
      obtain ⟨_, _, ⟨T89, L89, k89, n89⟩, -, X89, ⟨Lc89, hQ89, l89, y89, z89⟩, st89⟩ := Jvm.LawKit.callS X80 hx (y := (⟨"com/example/doorward/doorward/FieldsFollowPinLaw", "key", "(II)J"⟩ : MethodName)) hown (mvT hZ (hw _ (List.mem_of_getElem? (i := 26) rfl))) (mvT hZ (hw _ (List.mem_of_getElem? (i := 27) rfl))) (mvT hZ (hw _ (List.mem_of_getElem? (i := 28) rfl))) (mvT hZ (hw _ (List.mem_of_getElem? (i := 29) rfl))) (by decide) (backOf (W := 0) (rm5 l Z a0 hw [] t0_12 t0_26 T55.heap n0 Z_64) hZ (hw _ (List.mem_of_getElem? (i := 29) rfl)) (hw _ (List.mem_of_getElem? (i := 28) rfl)) (by decide) (by decide)) (g := (mkF m 89 #[.val (.int p0), .val (.int p1), .val (.int p2), .val (.int p3), .val (.int p4), .val (.int t0_12), .val (.int t0_26), .val (.ref b28), .val (.ref b43), .val (.int (f4 p0 p1 t0_12 t0_26)), .val (.int (f4 t0_12 t0_26 p0 p1)), .val (.long (f5 p0 p1)), .second, .unset, .unset] [(.int t0_26), (.int t0_12)])) rfl (by rw [hml]; rfl) (argsL := [(.int t0_12), (.int t0_26)]) (rest := []) (lenOf own_pd3 rfl) rfl (by show 2 * 0 + _ ≤ _; exact Nat.le_of_eq rfl) (hb hby at_89) (fun _ _ => ⟨rfl, e80, (by decide : 4 + 0 ≤ _), (by decide : 18 + 0 ≤ _)⟩)
      dsimp only [Pt.U, Pt.locs, Pt.cells, Pt.slots] at X89 l89 y89 z89 st89 hQ89
      subst l89 y89 z89
      obtain ⟨rfl, N89q, e89⟩ := hQ89
      have N89 := Fr.app N80 N89q
      refine own_to st89 ?_
      show own_Fin p e below G (T89.setTop (mkF m 92 #[.val (.int p0), .val (.int p1), .val (.int p2), .val (.int p3), .val (.int p4), .val (.int t0_12), .val (.int t0_26), .val (.ref b28), .val (.ref b43), .val (.int (f4 p0 p1 t0_12 t0_26)), .val (.int (f4 t0_12 t0_26 p0 p1)), .val (.long (f5 p0 p1)), .second, .unset, .unset] [(.long (f5 t0_12 t0_26))]))
      refine own_to (fun _ kz => XS.lstore X89.here hx rfl (hb hby at_92) rfl (l' := #[.val (.int p0), .val (.int p1), .val (.int p2), .val (.int p3), .val (.int p4), .val (.int t0_12), .val (.int t0_26), .val (.ref b28), .val (.ref b43), .val (.int (f4 p0 p1 t0_12 t0_26)), .val (.int (f4 t0_12 t0_26 p0 p1)), .val (.long (f5 p0 p1)), .second, .val (.long (f5 t0_12 t0_26)), .second]) rfl kz) ?_
      show own_Fin p e below G (T89.setTop (mkF m 94 #[.val (.int p0), .val (.int p1), .val (.int p2), .val (.int p3), .val (.int p4), .val (.int t0_12), .val (.int t0_26), .val (.ref b28), .val (.ref b43), .val (.int (f4 p0 p1 t0_12 t0_26)), .val (.int (f4 t0_12 t0_26 p0 p1)), .val (.long (f5 p0 p1)), .second, .val (.long (f5 t0_12 t0_26)), .second] []))
      refine own_to (fun _ kz => XS.iload X89.here hx rfl (hb hby at_94) rfl  kz) ?_
      show own_Fin p e below G (T89.setTop (mkF m 96 #[.val (.int p0), .val (.int p1), .val (.int p2), .val (.int p3), .val (.int p4), .val (.int t0_12), .val (.int t0_26), .val (.ref b28), .val (.ref b43), .val (.int (f4 p0 p1 t0_12 t0_26)), .val (.int (f4 t0_12 t0_26 p0 p1)), .val (.long (f5 p0 p1)), .second, .val (.long (f5 t0_12 t0_26)), .second] [(.int (f4 p0 p1 t0_12 t0_26))]))
      refine own_to (fun _ kz => XS.lload X89.here hx rfl (hb hby at_96) rfl  kz) ?_
      show own_Fin p e below G (T89.setTop (mkF m 98 #[.val (.int p0), .val (.int p1), .val (.int p2), .val (.int p3), .val (.int p4), .val (.int t0_12), .val (.int t0_26), .val (.ref b28), .val (.ref b43), .val (.int (f4 p0 p1 t0_12 t0_26)), .val (.int (f4 t0_12 t0_26 p0 p1)), .val (.long (f5 p0 p1)), .second, .val (.long (f5 t0_12 t0_26)), .second] [(.long (f5 p0 p1)), (.int (f4 p0 p1 t0_12 t0_26))]))
      refine own_to (fun _ kz => XS.lload X89.here hx rfl (hb hby at_98) rfl  kz) ?_
      show own_Fin p e below G (T89.setTop (mkF m 100 #[.val (.int p0), .val (.int p1), .val (.int p2), .val (.int p3), .val (.int p4), .val (.int t0_12), .val (.int t0_26), .val (.ref b28), .val (.ref b43), .val (.int (f4 p0 p1 t0_12 t0_26)), .val (.int (f4 t0_12 t0_26 p0 p1)), .val (.long (f5 p0 p1)), .second, .val (.long (f5 t0_12 t0_26)), .second] [(.long (f5 t0_12 t0_26)), (.long (f5 p0 p1)), (.int (f4 p0 p1 t0_12 t0_26))]))
      refine own_to (fun _ kz => XS.lcmp X89.here hx rfl (hb hby at_100) rfl kz) ?_
      show own_Fin p e below G (T89.setTop (mkF m 101 #[.val (.int p0), .val (.int p1), .val (.int p2), .val (.int p3), .val (.int p4), .val (.int t0_12), .val (.int t0_26), .val (.ref b28), .val (.ref b43), .val (.int (f4 p0 p1 t0_12 t0_26)), .val (.int (f4 t0_12 t0_26 p0 p1)), .val (.long (f5 p0 p1)), .second, .val (.long (f5 t0_12 t0_26)), .second] [(.int (lcmpW (f5 p0 p1) (f5 t0_12 t0_26))), (.int (f4 p0 p1 t0_12 t0_26))]))
      have K109 : ∀ (t0_109 : Int32) (q_j109 : (f0 p0 p1 p2 p3 p4) = (f0_109 p0 p1 p2 p3 p4 t0_12 t0_26 t0_109)), own_Fin p e below G (T89.setTop (mkF m 109 #[.val (.int p0), .val (.int p1), .val (.int p2), .val (.int p3), .val (.int p4), .val (.int t0_12), .val (.int t0_26), .val (.ref b28), .val (.ref b43), .val (.int (f4 p0 p1 t0_12 t0_26)), .val (.int (f4 t0_12 t0_26 p0 p1)), .val (.long (f5 p0 p1)), .second, .val (.long (f5 t0_12 t0_26)), .second] [(.int t0_109), (.int (f4 p0 p1 t0_12 t0_26))])) := by
        intro t0_109 q_j109
        have K134 : ∀ (q_j134 : (f0 p0 p1 p2 p3 p4) = (f0_134 p0 p1 p2 p3 p4 t0_12 t0_26 t0_109)), own_Fin p e below G (T89.setTop (mkF m 134 #[.val (.int p0), .val (.int p1), .val (.int p2), .val (.int p3), .val (.int p4), .val (.int t0_12), .val (.int t0_26), .val (.ref b28), .val (.ref b43), .val (.int (f4 p0 p1 t0_12 t0_26)), .val (.int (f4 t0_12 t0_26 p0 p1)), .val (.long (f5 p0 p1)), .second, .val (.long (f5 t0_12 t0_26)), .second] [])) := by
          intro q_j134
          refine own_to (fun _ kz => XS.iconst X89.here hx rfl (hb hby at_134) kz) ?_
          show own_Fin p e below G (T89.setTop (mkF m 135 #[.val (.int p0), .val (.int p1), .val (.int p2), .val (.int p3), .val (.int p4), .val (.int t0_12), .val (.int t0_26), .val (.ref b28), .val (.ref b43), .val (.int (f4 p0 p1 t0_12 t0_26)), .val (.int (f4 t0_12 t0_26 p0 p1)), .val (.long (f5 p0 p1)), .second, .val (.long (f5 t0_12 t0_26)), .second] [(.int (0 : Int32))]))
          exact own_retN X89 hx hlk hG (t := .boolean) Bd.returns (by simp) (hb hby at_135) (by decide) (by decide) (by rw [e89]; exact ⟨(congrArg (fun z => some (Value.int z)) q_j134).symm, N89, trivial⟩)
        by_cases hc109 : (f4 p0 p1 t0_12 t0_26) = t0_109
        · refine own_to (fun _ kz => XS.icmpNo X89.here hx rfl (hb hby at_109) rfl (teq hc109).2 kz) ?_
          have q109t := q_j109.trans (if_pos hc109)
          show own_Fin p e below G (T89.setTop (mkF m 112 #[.val (.int p0), .val (.int p1), .val (.int p2), .val (.int p3), .val (.int p4), .val (.int t0_12), .val (.int t0_26), .val (.ref b28), .val (.ref b43), .val (.int (f4 p0 p1 t0_12 t0_26)), .val (.int (f4 t0_12 t0_26 p0 p1)), .val (.long (f5 p0 p1)), .second, .val (.long (f5 t0_12 t0_26)), .second] []))
          refine own_to (fun _ kz => XS.iload X89.here hx rfl (hb hby at_112) rfl  kz) ?_
          show own_Fin p e below G (T89.setTop (mkF m 114 #[.val (.int p0), .val (.int p1), .val (.int p2), .val (.int p3), .val (.int p4), .val (.int t0_12), .val (.int t0_26), .val (.ref b28), .val (.ref b43), .val (.int (f4 p0 p1 t0_12 t0_26)), .val (.int (f4 t0_12 t0_26 p0 p1)), .val (.long (f5 p0 p1)), .second, .val (.long (f5 t0_12 t0_26)), .second] [(.int (f4 t0_12 t0_26 p0 p1))]))
          refine own_to (fun _ kz => XS.lload X89.here hx rfl (hb hby at_114) rfl  kz) ?_
          show own_Fin p e below G (T89.setTop (mkF m 116 #[.val (.int p0), .val (.int p1), .val (.int p2), .val (.int p3), .val (.int p4), .val (.int t0_12), .val (.int t0_26), .val (.ref b28), .val (.ref b43), .val (.int (f4 p0 p1 t0_12 t0_26)), .val (.int (f4 t0_12 t0_26 p0 p1)), .val (.long (f5 p0 p1)), .second, .val (.long (f5 t0_12 t0_26)), .second] [(.long (f5 t0_12 t0_26)), (.int (f4 t0_12 t0_26 p0 p1))]))
          refine own_to (fun _ kz => XS.lload X89.here hx rfl (hb hby at_116) rfl  kz) ?_
          show own_Fin p e below G (T89.setTop (mkF m 118 #[.val (.int p0), .val (.int p1), .val (.int p2), .val (.int p3), .val (.int p4), .val (.int t0_12), .val (.int t0_26), .val (.ref b28), .val (.ref b43), .val (.int (f4 p0 p1 t0_12 t0_26)), .val (.int (f4 t0_12 t0_26 p0 p1)), .val (.long (f5 p0 p1)), .second, .val (.long (f5 t0_12 t0_26)), .second] [(.long (f5 p0 p1)), (.long (f5 t0_12 t0_26)), (.int (f4 t0_12 t0_26 p0 p1))]))
          refine own_to (fun _ kz => XS.lcmp X89.here hx rfl (hb hby at_118) rfl kz) ?_
          show own_Fin p e below G (T89.setTop (mkF m 119 #[.val (.int p0), .val (.int p1), .val (.int p2), .val (.int p3), .val (.int p4), .val (.int t0_12), .val (.int t0_26), .val (.ref b28), .val (.ref b43), .val (.int (f4 p0 p1 t0_12 t0_26)), .val (.int (f4 t0_12 t0_26 p0 p1)), .val (.long (f5 p0 p1)), .second, .val (.long (f5 t0_12 t0_26)), .second] [(.int (lcmpW (f5 t0_12 t0_26) (f5 p0 p1))), (.int (f4 t0_12 t0_26 p0 p1))]))
          have K127 : ∀ (t0_127 : Int32) (q_j127 : (f0 p0 p1 p2 p3 p4) = (f0_127 p0 p1 p2 p3 p4 t0_12 t0_26 t0_109 t0_127)), own_Fin p e below G (T89.setTop (mkF m 127 #[.val (.int p0), .val (.int p1), .val (.int p2), .val (.int p3), .val (.int p4), .val (.int t0_12), .val (.int t0_26), .val (.ref b28), .val (.ref b43), .val (.int (f4 p0 p1 t0_12 t0_26)), .val (.int (f4 t0_12 t0_26 p0 p1)), .val (.long (f5 p0 p1)), .second, .val (.long (f5 t0_12 t0_26)), .second] [(.int t0_127), (.int (f4 t0_12 t0_26 p0 p1))])) := by
            intro t0_127 q_j127
            by_cases hc127 : (f4 t0_12 t0_26 p0 p1) = t0_127
            · refine own_to (fun _ kz => XS.icmpNo X89.here hx rfl (hb hby at_127) rfl (teq hc127).2 kz) ?_
              have q127t := q_j127.trans (if_pos hc127)
              show own_Fin p e below G (T89.setTop (mkF m 130 #[.val (.int p0), .val (.int p1), .val (.int p2), .val (.int p3), .val (.int p4), .val (.int t0_12), .val (.int t0_26), .val (.ref b28), .val (.ref b43), .val (.int (f4 p0 p1 t0_12 t0_26)), .val (.int (f4 t0_12 t0_26 p0 p1)), .val (.long (f5 p0 p1)), .second, .val (.long (f5 t0_12 t0_26)), .second] []))
              refine own_to (fun _ kz => XS.iconst X89.here hx rfl (hb hby at_130) kz) ?_
              show own_Fin p e below G (T89.setTop (mkF m 131 #[.val (.int p0), .val (.int p1), .val (.int p2), .val (.int p3), .val (.int p4), .val (.int t0_12), .val (.int t0_26), .val (.ref b28), .val (.ref b43), .val (.int (f4 p0 p1 t0_12 t0_26)), .val (.int (f4 t0_12 t0_26 p0 p1)), .val (.long (f5 p0 p1)), .second, .val (.long (f5 t0_12 t0_26)), .second] [(.int (1 : Int32))]))
              refine own_to (fun _ kz => XS.goto X89.here hx rfl (pc0 := 131) (pc' := 135) rfl (hb hby at_131) (by decide) (by decide) kz) ?_
              show own_Fin p e below G (T89.setTop (mkF m 135 #[.val (.int p0), .val (.int p1), .val (.int p2), .val (.int p3), .val (.int p4), .val (.int t0_12), .val (.int t0_26), .val (.ref b28), .val (.ref b43), .val (.int (f4 p0 p1 t0_12 t0_26)), .val (.int (f4 t0_12 t0_26 p0 p1)), .val (.long (f5 p0 p1)), .second, .val (.long (f5 t0_12 t0_26)), .second] [(.int (1 : Int32))]))
              exact own_retN X89 hx hlk hG (t := .boolean) Bd.returns (by simp) (hb hby at_135) (by decide) (by decide) (by rw [e89]; exact ⟨(congrArg (fun z => some (Value.int z)) q127t).symm, N89, trivial⟩)
            · refine own_to (fun _ kz => XS.icmpYes X89.here hx rfl (pc0 := 127) (pc' := 134) rfl (hb hby at_127) rfl (feq hc127).2 (by decide) (by decide) kz) ?_
              have q127f := q_j127.trans (if_neg hc127)
              show own_Fin p e below G (T89.setTop (mkF m 134 #[.val (.int p0), .val (.int p1), .val (.int p2), .val (.int p3), .val (.int p4), .val (.int t0_12), .val (.int t0_26), .val (.ref b28), .val (.ref b43), .val (.int (f4 p0 p1 t0_12 t0_26)), .val (.int (f4 t0_12 t0_26 p0 p1)), .val (.long (f5 p0 p1)), .second, .val (.long (f5 t0_12 t0_26)), .second] []))
              exact K134 q127f
          by_cases hc119 : (f5 p0 p1) < (f5 t0_12 t0_26)
          · refine own_to (fun _ kz => XS.ifNo X89.here hx rfl (hb hby at_119) rfl ((if0 _ _).trans (tlt ((lw_gt _ _).mpr hc119)).2.2.2) kz) ?_
            have q119t := q109t.trans (if_pos hc119)
            show own_Fin p e below G (T89.setTop (mkF m 122 #[.val (.int p0), .val (.int p1), .val (.int p2), .val (.int p3), .val (.int p4), .val (.int t0_12), .val (.int t0_26), .val (.ref b28), .val (.ref b43), .val (.int (f4 p0 p1 t0_12 t0_26)), .val (.int (f4 t0_12 t0_26 p0 p1)), .val (.long (f5 p0 p1)), .second, .val (.long (f5 t0_12 t0_26)), .second] [(.int (f4 t0_12 t0_26 p0 p1))]))
            refine own_to (fun _ kz => XS.iconst X89.here hx rfl (hb hby at_122) kz) ?_
            show own_Fin p e below G (T89.setTop (mkF m 123 #[.val (.int p0), .val (.int p1), .val (.int p2), .val (.int p3), .val (.int p4), .val (.int t0_12), .val (.int t0_26), .val (.ref b28), .val (.ref b43), .val (.int (f4 p0 p1 t0_12 t0_26)), .val (.int (f4 t0_12 t0_26 p0 p1)), .val (.long (f5 p0 p1)), .second, .val (.long (f5 t0_12 t0_26)), .second] [(.int (1 : Int32)), (.int (f4 t0_12 t0_26 p0 p1))]))
            refine own_to (fun _ kz => XS.goto X89.here hx rfl (pc0 := 123) (pc' := 127) rfl (hb hby at_123) (by decide) (by decide) kz) ?_
            show own_Fin p e below G (T89.setTop (mkF m 127 #[.val (.int p0), .val (.int p1), .val (.int p2), .val (.int p3), .val (.int p4), .val (.int t0_12), .val (.int t0_26), .val (.ref b28), .val (.ref b43), .val (.int (f4 p0 p1 t0_12 t0_26)), .val (.int (f4 t0_12 t0_26 p0 p1)), .val (.long (f5 p0 p1)), .second, .val (.long (f5 t0_12 t0_26)), .second] [(.int (1 : Int32)), (.int (f4 t0_12 t0_26 p0 p1))]))
            exact K127 (1 : Int32) q119t
          · refine own_to (fun _ kz => XS.ifYes X89.here hx rfl (pc0 := 119) (pc' := 126) rfl (hb hby at_119) rfl ((if0 _ _).trans (flt (fun q => hc119 ((lw_gt _ _).mp q))).2.2.2) (by decide) (by decide) kz) ?_
            have q119f := q109t.trans (if_neg hc119)
            show own_Fin p e below G (T89.setTop (mkF m 126 #[.val (.int p0), .val (.int p1), .val (.int p2), .val (.int p3), .val (.int p4), .val (.int t0_12), .val (.int t0_26), .val (.ref b28), .val (.ref b43), .val (.int (f4 p0 p1 t0_12 t0_26)), .val (.int (f4 t0_12 t0_26 p0 p1)), .val (.long (f5 p0 p1)), .second, .val (.long (f5 t0_12 t0_26)), .second] [(.int (f4 t0_12 t0_26 p0 p1))]))
            refine own_to (fun _ kz => XS.iconst X89.here hx rfl (hb hby at_126) kz) ?_
            show own_Fin p e below G (T89.setTop (mkF m 127 #[.val (.int p0), .val (.int p1), .val (.int p2), .val (.int p3), .val (.int p4), .val (.int t0_12), .val (.int t0_26), .val (.ref b28), .val (.ref b43), .val (.int (f4 p0 p1 t0_12 t0_26)), .val (.int (f4 t0_12 t0_26 p0 p1)), .val (.long (f5 p0 p1)), .second, .val (.long (f5 t0_12 t0_26)), .second] [(.int (0 : Int32)), (.int (f4 t0_12 t0_26 p0 p1))]))
            exact K127 (0 : Int32) q119f
        · refine own_to (fun _ kz => XS.icmpYes X89.here hx rfl (pc0 := 109) (pc' := 134) rfl (hb hby at_109) rfl (feq hc109).2 (by decide) (by decide) kz) ?_
          have q109f := q_j109.trans (if_neg hc109)
          show own_Fin p e below G (T89.setTop (mkF m 134 #[.val (.int p0), .val (.int p1), .val (.int p2), .val (.int p3), .val (.int p4), .val (.int t0_12), .val (.int t0_26), .val (.ref b28), .val (.ref b43), .val (.int (f4 p0 p1 t0_12 t0_26)), .val (.int (f4 t0_12 t0_26 p0 p1)), .val (.long (f5 p0 p1)), .second, .val (.long (f5 t0_12 t0_26)), .second] []))
          exact K134 q109f
      by_cases hc101 : (f5 t0_12 t0_26) < (f5 p0 p1)
      · refine own_to (fun _ kz => XS.ifNo X89.here hx rfl (hb hby at_101) rfl ((if0 _ _).trans (tlt ((lw_gt _ _).mpr hc101)).2.2.2) kz) ?_
        have q101t := q_j26.trans (if_pos hc101)
        show own_Fin p e below G (T89.setTop (mkF m 104 #[.val (.int p0), .val (.int p1), .val (.int p2), .val (.int p3), .val (.int p4), .val (.int t0_12), .val (.int t0_26), .val (.ref b28), .val (.ref b43), .val (.int (f4 p0 p1 t0_12 t0_26)), .val (.int (f4 t0_12 t0_26 p0 p1)), .val (.long (f5 p0 p1)), .second, .val (.long (f5 t0_12 t0_26)), .second] [(.int (f4 p0 p1 t0_12 t0_26))]))
        refine own_to (fun _ kz => XS.iconst X89.here hx rfl (hb hby at_104) kz) ?_
        show own_Fin p e below G (T89.setTop (mkF m 105 #[.val (.int p0), .val (.int p1), .val (.int p2), .val (.int p3), .val (.int p4), .val (.int t0_12), .val (.int t0_26), .val (.ref b28), .val (.ref b43), .val (.int (f4 p0 p1 t0_12 t0_26)), .val (.int (f4 t0_12 t0_26 p0 p1)), .val (.long (f5 p0 p1)), .second, .val (.long (f5 t0_12 t0_26)), .second] [(.int (1 : Int32)), (.int (f4 p0 p1 t0_12 t0_26))]))
        refine own_to (fun _ kz => XS.goto X89.here hx rfl (pc0 := 105) (pc' := 109) rfl (hb hby at_105) (by decide) (by decide) kz) ?_
        show own_Fin p e below G (T89.setTop (mkF m 109 #[.val (.int p0), .val (.int p1), .val (.int p2), .val (.int p3), .val (.int p4), .val (.int t0_12), .val (.int t0_26), .val (.ref b28), .val (.ref b43), .val (.int (f4 p0 p1 t0_12 t0_26)), .val (.int (f4 t0_12 t0_26 p0 p1)), .val (.long (f5 p0 p1)), .second, .val (.long (f5 t0_12 t0_26)), .second] [(.int (1 : Int32)), (.int (f4 p0 p1 t0_12 t0_26))]))
        exact K109 (1 : Int32) q101t
      · refine own_to (fun _ kz => XS.ifYes X89.here hx rfl (pc0 := 101) (pc' := 108) rfl (hb hby at_101) rfl ((if0 _ _).trans (flt (fun q => hc101 ((lw_gt _ _).mp q))).2.2.2) (by decide) (by decide) kz) ?_
        have q101f := q_j26.trans (if_neg hc101)
        show own_Fin p e below G (T89.setTop (mkF m 108 #[.val (.int p0), .val (.int p1), .val (.int p2), .val (.int p3), .val (.int p4), .val (.int t0_12), .val (.int t0_26), .val (.ref b28), .val (.ref b43), .val (.int (f4 p0 p1 t0_12 t0_26)), .val (.int (f4 t0_12 t0_26 p0 p1)), .val (.long (f5 p0 p1)), .second, .val (.long (f5 t0_12 t0_26)), .second] [(.int (f4 p0 p1 t0_12 t0_26))]))
        refine own_to (fun _ kz => XS.iconst X89.here hx rfl (hb hby at_108) kz) ?_
        show own_Fin p e below G (T89.setTop (mkF m 109 #[.val (.int p0), .val (.int p1), .val (.int p2), .val (.int p3), .val (.int p4), .val (.int t0_12), .val (.int t0_26), .val (.ref b28), .val (.ref b43), .val (.int (f4 p0 p1 t0_12 t0_26)), .val (.int (f4 t0_12 t0_26 p0 p1)), .val (.long (f5 p0 p1)), .second, .val (.long (f5 t0_12 t0_26)), .second] [(.int (0 : Int32)), (.int (f4 p0 p1 t0_12 t0_26))]))
        exact K109 (0 : Int32) q101f
    by_cases hc18 : (p4 &&& (2 : Int32)) = (0 : Int32)
    · refine own_to (fun _ kz => XS.ifYes X0.here hx rfl (pc0 := 18) (pc' := 25) rfl (hb hby at_18) rfl ((if0 _ _).trans (teq hc18).1) (by decide) (by decide) kz) ?_
      have q18t := q_j12.trans (if_pos hc18)
      show own_Fin p e below G (s₁.setTop (mkF m 25 #[.val (.int p0), .val (.int p1), .val (.int p2), .val (.int p3), .val (.int p4), .val (.int t0_12), .unset, .unset, .unset, .unset, .unset, .unset, .unset, .unset, .unset] []))
      refine own_to (fun _ kz => XS.iloadN X0.here hx rfl (hb hby at_25) rfl  kz) ?_
      show own_Fin p e below G (s₁.setTop (mkF m 26 #[.val (.int p0), .val (.int p1), .val (.int p2), .val (.int p3), .val (.int p4), .val (.int t0_12), .unset, .unset, .unset, .unset, .unset, .unset, .unset, .unset, .unset] [(.int p3)]))
      exact K26 p3 q18t
    · refine own_to (fun _ kz => XS.ifNo X0.here hx rfl (hb hby at_18) rfl ((if0 _ _).trans (feq hc18).1) kz) ?_
      have q18f := q_j12.trans (if_neg hc18)
      show own_Fin p e below G (s₁.setTop (mkF m 21 #[.val (.int p0), .val (.int p1), .val (.int p2), .val (.int p3), .val (.int p4), .val (.int t0_12), .unset, .unset, .unset, .unset, .unset, .unset, .unset, .unset, .unset] []))
      refine own_to (fun _ kz => XS.iloadN X0.here hx rfl (hb hby at_21) rfl  kz) ?_
      show own_Fin p e below G (s₁.setTop (mkF m 22 #[.val (.int p0), .val (.int p1), .val (.int p2), .val (.int p3), .val (.int p4), .val (.int t0_12), .unset, .unset, .unset, .unset, .unset, .unset, .unset, .unset, .unset] [(.int p1)]))
      refine own_to (fun _ kz => XS.goto X0.here hx rfl (pc0 := 22) (pc' := 26) rfl (hb hby at_22) (by decide) (by decide) kz) ?_
      show own_Fin p e below G (s₁.setTop (mkF m 26 #[.val (.int p0), .val (.int p1), .val (.int p2), .val (.int p3), .val (.int p4), .val (.int t0_12), .unset, .unset, .unset, .unset, .unset, .unset, .unset, .unset, .unset] [(.int p1)]))
      exact K26 p1 q18f
  by_cases hc4 : (p4 &&& (1 : Int32)) = (0 : Int32)
  · refine own_to (fun _ kz => XS.ifYes X0.here hx rfl (pc0 := 4) (pc' := 11) rfl (hb hby at_4) rfl ((if0 _ _).trans (teq hc4).1) (by decide) (by decide) kz) ?_
    have q4t := q0.trans (if_pos hc4)
    show own_Fin p e below G (s₁.setTop (mkF m 11 #[.val (.int p0), .val (.int p1), .val (.int p2), .val (.int p3), .val (.int p4), .unset, .unset, .unset, .unset, .unset, .unset, .unset, .unset, .unset, .unset] []))
    refine own_to (fun _ kz => XS.iloadN X0.here hx rfl (hb hby at_11) rfl  kz) ?_
    show own_Fin p e below G (s₁.setTop (mkF m 12 #[.val (.int p0), .val (.int p1), .val (.int p2), .val (.int p3), .val (.int p4), .unset, .unset, .unset, .unset, .unset, .unset, .unset, .unset, .unset, .unset] [(.int p2)]))
    exact K12 p2 q4t
  · refine own_to (fun _ kz => XS.ifNo X0.here hx rfl (hb hby at_4) rfl ((if0 _ _).trans (feq hc4).1) kz) ?_
    have q4f := q0.trans (if_neg hc4)
    show own_Fin p e below G (s₁.setTop (mkF m 7 #[.val (.int p0), .val (.int p1), .val (.int p2), .val (.int p3), .val (.int p4), .unset, .unset, .unset, .unset, .unset, .unset, .unset, .unset, .unset, .unset] []))
    refine own_to (fun _ kz => XS.iloadN X0.here hx rfl (hb hby at_7) rfl  kz) ?_
    show own_Fin p e below G (s₁.setTop (mkF m 8 #[.val (.int p0), .val (.int p1), .val (.int p2), .val (.int p3), .val (.int p4), .unset, .unset, .unset, .unset, .unset, .unset, .unset, .unset, .unset, .unset] [(.int p0)]))
    refine own_to (fun _ kz => XS.goto X0.here hx rfl (pc0 := 8) (pc' := 12) rfl (hb hby at_8) (by decide) (by decide) kz) ?_
    show own_Fin p e below G (s₁.setTop (mkF m 12 #[.val (.int p0), .val (.int p1), .val (.int p2), .val (.int p3), .val (.int p4), .unset, .unset, .unset, .unset, .unset, .unset, .unset, .unset, .unset, .unset] [(.int p0)]))
    exact K12 p0 q4f
theorem own_x31 (x : Nat) (h : x < 4294967296) : x ^^^ 2147483648 = (1 - x / 2147483648) * 2147483648 + x % 2147483648 := by
  have h1 := Nat.xor_mod_two_pow (a := x) (b := 2147483648) (n := 31)
  have h2 := Nat.xor_div_two_pow (a := x) (b := 2147483648) (n := 31)
  have e1 : (2 ^ 31 : Nat) = 2147483648 := by decide
  rw [e1] at h1 h2
  rw [show (2147483648 : Nat) % 2147483648 = 0 from by decide, Nat.xor_zero] at h1
  rw [show (2147483648 : Nat) / 2147483648 = 1 from by decide] at h2
  have h3 : x / 2147483648 = 0 ∨ x / 2147483648 = 1 := by omega
  rcases h3 with h3 | h3
  · rw [h3, show (0 : Nat) ^^^ 1 = 1 from by decide] at h2; rw [h3]; omega
  · rw [h3, show (1 : Nat) ^^^ 1 = 0 from by decide] at h2; rw [h3]; omega
theorem own_flip (s : Int32) : ((s ^^^ (-2147483648 : Int32)).toInt64 &&& (4294967295 : Int64)).toInt = s.toInt + 2147483648 := by
  have a := c_maskL (s ^^^ (-2147483648 : Int32)).toInt64 4294967295 32 (by decide) (by decide)
  have e : ((2 ^ 32 : Nat) : Int) = 4294967296 := by decide
  rw [e, c_i2l] at a
  rw [a]
  have h1 : (s ^^^ (-2147483648 : Int32)).toInt = (s.toBitVec ^^^ 2147483648#32).toInt := rfl
  have h2 : s.toInt = s.toBitVec.toInt := rfl
  rw [h1, h2, BitVec.toInt_eq_toNat_cond, BitVec.toInt_eq_toNat_cond, BitVec.toNat_xor]
  have h3 : s.toBitVec.toNat < 4294967296 := s.toBitVec.isLt
  rw [show (2147483648#32).toNat = 2147483648 from by decide, own_x31 _ h3]
  have e2 : (2 ^ 32 : Nat) = 4294967296 := by decide
  rw [e2]
  generalize s.toBitVec.toNat = n at *
  have h4 : n / 2147483648 = 0 ∨ n / 2147483648 = 1 := by omega
  rcases h4 with h4 | h4 <;> rw [h4] <;> split <;> split <;> omega
theorem own_key (c s : Int32) : (f5 c s).toInt = c.toInt * 4294967296 + (s.toInt + 2147483648) := by
  have a := own_flip s
  have b := c_lshl c.toInt64 32 32 (by decide)
  have rs := rng32 s
  have rc := rng32 c
  have e1 := c_i2l c
  have r1 := rng64 (c.toInt64 <<< ((32 : Int32) &&& 0x3f).toInt64)
  have hP : ((2 ^ 32 : Nat) : Int) = 4294967296 := by decide
  rw [hP] at b
  have z := c_orL (c.toInt64 <<< ((32 : Int32) &&& 0x3f).toInt64) ((s ^^^ (-2147483648 : Int32)).toInt64 &&& (4294967295 : Int64)) 32 (by decide) 4294967296 (by decide) (by omega) (by omega) (by omega)
  have r2 := rng64 (f5 c s)
  unfold f5 at *
  omega
theorem own_f4 (c s c' s' : Int32) : f4 c s c' s' = if (f5 c' s').toInt < (f5 c s).toInt then 1 else 0 := by
  rw [own_key, own_key]; unfold f4
  simp only [Int32.lt_iff_toInt_lt, ← Int32.toInt_inj]
  have h1 := rng32 s; have h2 := rng32 s'
  by_cases h : c.toInt = c'.toInt
  · by_cases g : s'.toInt < s.toInt
    · rw [if_pos h, if_pos g, if_pos (by omega)]
    · rw [if_pos h, if_neg g, if_neg (by omega)]
  · by_cases g : c'.toInt < c.toInt
    · rw [if_neg h, if_pos g, if_pos (by omega)]
    · rw [if_neg h, if_neg g, if_neg (by omega)]
theorem own_26 (c1 s1 c2 s2 m c s : Int32) : f0_26 c1 s1 c2 s2 m c s = 1 := by
  simp only [f0_26, f0_109, f0_127, f0_134, own_f4, Int64.lt_iff_toInt_lt]
  by_cases h1 : (f5 c s).toInt < (f5 c1 s1).toInt <;> by_cases h2 : (f5 c1 s1).toInt < (f5 c s).toInt <;> simp [h1, h2]
theorem own_plain (c1 s1 c2 s2 m : Int32) : f0 c1 s1 c2 s2 m = 1 := by
  simp [f0, f0_12, own_26]
set_option maxRecDepth 65536 in
set_option maxHeartbeats 40000000 in
theorem comes_1 {Post : Tables → Env → Array Value → State → Outcome → State → Prop} (hpost : ∀ tb e args s v u, (limb_1_1.after args s (.returned v) u = true ∧ limb_1_2.after args s (.returned v) u = true ∧ True) → FrameEnd s (.returned v) u (Jvm.fieldLocs frame_1_writes args s ++ Jvm.arrayLocs frame_1_arrays args s ++ Jvm.staticLocs frame_1_statics s) 16 128 → Post tb e args s (.returned v) u) :
    ArmFor flags0 classFile x code maxLocals ret World_1 tables_1 room_1 Calls_1 rest_1 Pre_1 Post := by
  intro l hfl _ _ p e ha hc hk s m args below hf hA hF happ hP
  obtain ⟨hcalls, hrest, hpre⟩ := hP
  obtain ⟨-, -, -, hnamed, -, -, -, hat⟩ := (Spec.applies_iff hf).mp happ
  obtain ⟨hg, hn⟩ := and_e (Cond.before_iff.mp (show (Jvm.Cond.and given_1 narrow_1).before args s = true from hpre))
  obtain ⟨gg1, gg2⟩ := and_e hg
  obtain ⟨gg3, gg4⟩ := and_e gg2
  obtain ⟨gg5, gg6⟩ := and_e gg4
  obtain ⟨gg7, gg8⟩ := and_e gg6
  obtain ⟨gg9, gg10⟩ := and_e gg8
  obtain ⟨w0, w1, w2, w3, w4, rfl⟩ : ∃ w0 w1 w2 w3 w4 : Value, args = #[w0, w1, w2, w3, w4] := by
    have hs : args.size = 5 := by simpa [Cond.value, given_1] using gg1
    obtain ⟨L⟩ := args
    match L, hs with
    | [w0, w1, w2, w3, w4], _ => exact ⟨w0, w1, w2, w3, w4, rfl⟩
  have hw := fun d (hd : d ∈ tables_1) => atoms_spec (ws := Jvm.Cond.code x code maxLocals ret :: tables_1) hat d (List.mem_cons_of_mem _ hd)
  obtain ⟨i0, ei0⟩ := is_v gg3
  obtain rfl : w0 = (.int i0) := Option.some.inj ei0
  obtain ⟨i1, ei1⟩ := is_v gg5
  obtain rfl : w1 = (.int i1) := Option.some.inj ei1
  obtain ⟨i2, ei2⟩ := is_v gg7
  obtain rfl : w2 = (.int i2) := Option.some.inj ei2
  obtain ⟨i3, ei3⟩ := is_v gg9
  obtain rfl : w3 = (.int i3) := Option.some.inj ei3
  obtain ⟨i4, ei4⟩ := is_v gg10
  obtain rfl : w4 = (.int i4) := Option.some.inj ei4
  obtain ⟨n, o, h1, h2, h3, v, L, rfl, ⟨hv, N, -⟩, hq⟩ := rm0 l s _ hw tables_1 i0 i1 i2 i3 i4 s.heap s.heap.size (Nat.le_refl _) p e ha hc hk s m _ below hf ((Spec.applies_iff_loose hf).mp happ).1 ⟨rfl, State.Warmed39.refl s, rfl⟩ trivial
  obtain rfl : v = some (.int 1) := hv.trans (congrArg (fun z => some (Value.int z)) (own_plain i0 i1 i2 i3 i4))
  refine ⟨n, _, h1, h2, h3, hpost _ _ _ _ _ _ ⟨Cond.after_iff.mpr rfl, Cond.after_iff.mpr (eq_i res_at (Term.int_eval (1)) rfl), trivial⟩ ⟨hq.1, hq.2.1, (hq.2.2.sift fun y hy => Or.inr (N y hy)).mono (by decide) (by decide)⟩⟩
theorem main_1_1 : Claimed_1_1 := comes_1 fun _ _ _ _ _ _ h hF => ⟨h.1, hF⟩
theorem main_1_2 : Claimed_1_2 := comes_1 fun _ _ _ _ _ _ h hF => ⟨h.2.1, hF⟩
end Jvm.Pilot.@@N@@
namespace Jvm.Pilot.@@N@@
open Jvm Jvm.ClassFile Sem Op Lib Jvm.Free Jvm.Stand Jvm.Pilot.@@N@@.Jvm.D
/-! MADE BY PROGRAM (witnessworld.py) out of the Statement's table words and the real class files: 10 classes; the members and pool entries that the words name. The judged class is class 1, her method 2. -/
namespace start1
open Jvm.ClassFile
def u (s : String) : CpInfo := .utf8 (stringToUtf16 s)
/-- a pool by its gaps: so many unusable entries, then the entry; so many at the end -/
def gap : Nat → List CpInfo → List CpInfo
  | 0, r => r
  | n + 1, r => .unusable :: gap n r
def poolList (es : List (Nat × CpInfo)) (last : Nat) : List CpInfo := es.foldr (fun e r => gap e.1 (e.2 :: r)) (gap last [])
def pool (es : List (Nat × CpInfo)) (last : Nat) : Array CpInfo := ⟨poolList es last⟩
def fileOf (pool : Array CpInfo) (this : Nat) (attrs : Array Attribute := #[]) (ms : Array MethodInfo := #[]) (fl : Nat := 33) (sup : Nat := 0) (ifs : Array Nat := #[]) (fds : Array FieldInfo := #[]) : ClassFile where
  minorVersion := 0
  majorVersion := 65
  constantPool := pool
  accessFlags := fl
  thisClass := this
  superClass := sup
  interfaces := ifs
  fields := fds
  methods := ms
  attributes := attrs
def plain (name : String) (sup : Option ClassId) : Class where
  name := name
  kind := .ordinary
  loader := none
  accessFlags := 33
  super := sup
  interfaces := #[]
  cf := none
  fields := #[]
  methods := #[]
  instanceTypes := #[]
  staticTypes := #[]
  resolved := #[]
  callSites := []
  init := .initialized
  statics := none
  mirror := none

def pool0 : Array CpInfo := pool [(5, u "<init>"), (0, u "()V"), (1, .class_ 10), (1, u "java/lang/Object")] 113

def k0c0 : Code := { maxStack := 0, maxLocals := 1, code := object_method_1_code, exceptionTable := #[], attributes := #[] }
def k0m0 : Method := { name := "<init>", desc := "()V", sig := { parameters := [], returnType := none }, accessFlags := 1, code := some k0c0 }
/-- java/lang/Object -/
def k0 : Class := { plain "java/lang/Object" none with
  accessFlags := 33
  interfaces := #[]
  cf := some (fileOf pool0 8 #[] #[{ accessFlags := 1, nameIndex := 5, descriptorIndex := 6, attributes := #[] }] 33 0 #[] #[])
  fields := #[]
  methods := #[k0m0]
  instanceTypes := #[]
  staticTypes := #[]
  resolved := Array.replicate 124 none
  statics := none }

def pool1 : Array CpInfo := pool [(2, .class_ 4), (1, u "java/lang/Object"), (0, u "<init>"), (0, u "()V"), (0, .integer 2147483648), (0, .long 4294967295), (1, .class_ 11), (0, u "com/example/doorward/doorward/YubiKeyOtp$Fields"), (0, .methodref 10 13), (0, .nameAndType 5 14), (0, u "([BII)V"), (0, .methodref 10 16), (0, .nameAndType 17 18), (0, u "follow"), (0, u "(Lcom/example/doorward/doorward/YubiKeyOtp$Fields;)Z"), (0, .methodref 20 21), (0, .class_ 22), (0, .nameAndType 23 24), (0, u "com/example/doorward/doorward/FieldsFollowPinLaw"), (0, u "key"), (0, u "(II)J"), (2, u "law"), (0, u "(IIIII)Z")] 7

def k1m0 : Method := { name := "<init>", desc := "()V", sig := { parameters := [], returnType := none }, accessFlags := 2, code := none }
def k1c1 : Code := { maxStack := 6, maxLocals := 2, code := method_2_code, exceptionTable := #[], attributes := #[] }
def k1m1 : Method := { name := "key", desc := "(II)J", sig := { parameters := [.int, .int], returnType := some .long }, accessFlags := 10, code := some k1c1 }
def k1c2 : Code := { maxStack := 5, maxLocals := 15, code := code, exceptionTable := #[], attributes := #[] }
def k1m2 : Method := { name := "law", desc := "(IIIII)Z", sig := { parameters := [.int, .int, .int, .int, .int], returnType := some .boolean }, accessFlags := 9, code := some k1c2 }
/-- com/example/doorward/doorward/FieldsFollowPinLaw -/
def k1 : Class := { plain "com/example/doorward/doorward/FieldsFollowPinLaw" (some 0) with
  accessFlags := 49
  interfaces := #[]
  cf := some (fileOf pool1 20 #[] #[{ accessFlags := 2, nameIndex := 5, descriptorIndex := 6, attributes := #[] }, { accessFlags := 10, nameIndex := 23, descriptorIndex := 24, attributes := #[] }, { accessFlags := 9, nameIndex := 27, descriptorIndex := 28, attributes := #[] }] 49 2 #[] #[])
  fields := #[]
  methods := #[k1m0, k1m1, k1m2]
  instanceTypes := #[]
  staticTypes := #[]
  resolved := Array.replicate 36 none
  statics := none }

def pool2 : Array CpInfo := pool [(1, .methodref 2 3), (0, .class_ 4), (0, .nameAndType 5 6), (0, u "java/lang/Object"), (0, u "<init>"), (0, u "()V"), (0, .class_ 8), (0, u "java/lang/Record")] 13

def k2c0 : Code := { maxStack := 1, maxLocals := 1, code := jdk_30_method_1_code, exceptionTable := #[], attributes := #[] }
def k2m0 : Method := { name := "<init>", desc := "()V", sig := { parameters := [], returnType := none }, accessFlags := 4, code := some k2c0 }
/-- java/lang/Record -/
def k2 : Class := { plain "java/lang/Record" (some 0) with
  accessFlags := 1057
  interfaces := #[]
  cf := some (fileOf pool2 7 #[] #[{ accessFlags := 4, nameIndex := 5, descriptorIndex := 6, attributes := #[] }] 1057 2 #[] #[])
  fields := #[]
  methods := #[k2m0]
  instanceTypes := #[]
  staticTypes := #[]
  resolved := Array.replicate 22 none
  statics := none }

def pool3 : Array CpInfo := pool [(1, .methodref 2 3), (0, .class_ 4), (0, .nameAndType 5 6), (0, u "java/lang/Record"), (0, u "<init>"), (0, u "()V"), (0, .fieldref 8 9), (0, .class_ 10), (0, .nameAndType 11 12), (0, u "com/example/doorward/doorward/YubiKeyOtp$Fields"), (0, u "privateId"), (0, u "[B"), (0, .fieldref 8 14), (0, .nameAndType 15 16), (0, u "counter"), (0, u "I"), (0, .fieldref 8 18), (0, .nameAndType 19 16), (0, u "sessionUse"), (12, u "([BII)V"), (3, u "follow"), (0, u "(Lcom/example/doorward/doorward/YubiKeyOtp$Fields;)Z"), (9, .class_ 48), (0, u "com/example/doorward/doorward/YubiKeyOtp")] 29

def k3c0 : Code := { maxStack := 2, maxLocals := 4, code := prog_32_method_1_code, exceptionTable := #[], attributes := #[] }
def k3m0 : Method := { name := "<init>", desc := "([BII)V", sig := { parameters := [(.array .byte), .int, .int], returnType := none }, accessFlags := 0, code := some k3c0 }
def k3c1 : Code := { maxStack := 2, maxLocals := 2, code := prog_32_method_2_code, exceptionTable := #[], attributes := #[] }
def k3m1 : Method := { name := "follow", desc := "(Lcom/example/doorward/doorward/YubiKeyOtp$Fields;)Z", sig := { parameters := [(.object "com/example/doorward/doorward/YubiKeyOtp$Fields")], returnType := some .boolean }, accessFlags := 0, code := some k3c1 }
/-- com/example/doorward/doorward/YubiKeyOtp$Fields -/
def k3 : Class := { plain "com/example/doorward/doorward/YubiKeyOtp$Fields" (some 2) with
  accessFlags := 48
  interfaces := #[]
  cf := some (fileOf pool3 8 #[.nestHost 47] #[{ accessFlags := 0, nameIndex := 5, descriptorIndex := 32, attributes := #[] }, { accessFlags := 0, nameIndex := 36, descriptorIndex := 37, attributes := #[] }] 48 2 #[] #[{ accessFlags := 18, nameIndex := 11, descriptorIndex := 12, attributes := #[] }, { accessFlags := 18, nameIndex := 15, descriptorIndex := 16, attributes := #[] }, { accessFlags := 18, nameIndex := 19, descriptorIndex := 16, attributes := #[] }])
  fields := #[{ name := "privateId", type := (.array .byte), accessFlags := 18, slot := 0, constantValue := 0 }, { name := "counter", type := .int, accessFlags := 18, slot := 1, constantValue := 0 }, { name := "sessionUse", type := .int, accessFlags := 18, slot := 2, constantValue := 0 }]
  methods := #[k3m0, k3m1]
  instanceTypes := #[(.array .byte), .int, .int]
  staticTypes := #[]
  resolved := Array.replicate 78 none
  statics := none }

def pool4 : Array CpInfo := pool [(1, u "java/lang/Cloneable"), (0, .class_ 1), (0, u "java/lang/Object"), (0, .class_ 3)] 3

/-- java/lang/Cloneable -/
def k4 : Class := { plain "java/lang/Cloneable" (some 0) with
  accessFlags := 1537
  interfaces := #[]
  cf := some (fileOf pool4 2 #[] #[] 1537 4 #[] #[])
  fields := #[]
  methods := #[]
  instanceTypes := #[]
  staticTypes := #[]
  resolved := Array.replicate 8 none
  statics := none }

def pool5 : Array CpInfo := pool [(1, u "java/io/Serializable"), (0, .class_ 1), (0, u "java/lang/Object"), (0, .class_ 3)] 3

/-- java/io/Serializable -/
def k5 : Class := { plain "java/io/Serializable" (some 0) with
  accessFlags := 1537
  interfaces := #[]
  cf := some (fileOf pool5 2 #[] #[] 1537 4 #[] #[])
  fields := #[]
  methods := #[]
  instanceTypes := #[]
  staticTypes := #[]
  resolved := Array.replicate 8 none
  statics := none }

/-- the primitive byte -/
def k6 : Class := { plain "byte" none with kind := .primitive 'B', accessFlags := 0x411 }
/-- [B -/
def k7 : Class := { plain "[B" (some 0) with kind := .array 6 .byte, interfaces := #[4, 5], accessFlags := 1041 }

/-- the primitive int -/
def k8 : Class := { plain "int" none with kind := .primitive 'I', accessFlags := 0x411 }
/-- [I -/
def k9 : Class := { plain "[I" (some 0) with kind := .array 8 .int, interfaces := #[4, 5], accessFlags := 1041 }

def heap : Heap := #[]
def classes : Array Class := #[k0, k1, k2, k3, k4, k5, k6, k7, k8, k9]
def interned : List (Array UInt16 × Addr) := []
def slotsUsed : Nat := 0
def theMethod : MethodId := ⟨1, 2⟩
def args0 : Array Value := #[.int 5, .int 6, .int 7, .int 8, .int 9]
def aboutOver (below : List Frame) : State where
  vm := { classes := classes, interned := interned.toArray }
  heap := heap
  slotsUsed := slotsUsed
  threads := #[{ frames := .invoking theMethod args0 :: below }]
def below0 : List Frame := [.native { method := ⟨0, 0⟩, args := #[] }]
def about1 : State := aboutOver below0
def p0 : Program := .bare "" "" ""
def e0 : Env := launch0.env 0 0 0
theorem w_frames : about1.frames = Frame.invoking theMethod args0 :: below0 := rfl
set_option maxRecDepth 65536 in
theorem w_args : argsFit about1.vm theMethod args0 = true := by decide +kernel
set_option maxRecDepth 65536 in
theorem w_heap : heapFits about1 = true := by decide +kernel
set_option maxRecDepth 65536 in
theorem w_runnable : about1.curStatus? = some .runnable := by decide +kernel
set_option maxRecDepth 65536 in
theorem w_alone : about1.alone = true := by decide +kernel
set_option maxRecDepth 65536 in
theorem w_named : about1.methodNamed? x = some theMethod := by decide +kernel
set_option maxRecDepth 65536 in
theorem w_hears : about1.hears theMethod below0 = true := by decide +kernel
set_option maxRecDepth 65536 in
theorem w_ripe : about1.ripe theMethod args0 below0 = true := by decide +kernel
theorem w_running : about1.status = .running := rfl
set_option maxRecDepth 65536 in
theorem w_room : about1.hasRoom e0.platform room_1 = true :=
  launch0.hasRoom_least _ room_1 (by decide +kernel) (by decide +kernel) (by decide +kernel) (by decide +kernel) (by decide +kernel) (by decide +kernel)
theorem allAtoms_all (ts : List Jvm.Cond) (a : Array Jvm.Value) (st : Jvm.State) : (allAtoms ts).before a st = ts.all (fun c => c.before a st) := by
  induction ts with
  | nil => rfl
  | cons c t ih =>
    show (Jvm.Cond.and c (allAtoms t)).before a st = _
    rw [Jvm.Cond.before_and, ih, List.all_cons]
def words1 : List Jvm.Cond := Jvm.Cond.code x code maxLocals ret :: tables_1
/-- a 'code' word, met by the world's own term for the bytes: nothing is compared byte by byte -/
theorem code_word {y : MethodName} {bytes : ByteArray} {mx : Nat} {rt : Option FieldType} {a : Array Value} {s : State} {m : MethodId} {meth : Method} {c : Code} (h1 : s.methodNamed? y = some m) (h2 : s.vm.method? m = some meth) (h3 : meth.code = some c) (h4 : c.code = bytes)
    (h5 : (c.maxLocals == mx && c.exceptionTable.isEmpty && decide (c.maxStack ≤ mostOperands) && decide (meth.sig.returnType = rt) && !meth.locks && decide (parseMethodDescriptor y.desc = some meth.sig)) = true) : (Jvm.Cond.code y bytes mx rt).before a s = true := by
  simp only [Bool.and_eq_true, beq_iff_eq, Bool.not_eq_true', decide_eq_true_eq] at h5
  obtain ⟨⟨⟨⟨⟨g1, g2⟩, g3⟩, g4⟩, g5⟩, g6⟩ := h5
  simp [Cond.before, Cond.holds, Cond.value, h1, h2, h3, h4, g1, g2, g3, g4, g5, g6]
def isCode : Jvm.Cond → Bool
  | .code _ _ _ _ => true
  | _ => false
theorem all_split {L : List Jvm.Cond} {P : Jvm.Cond → Bool} (h1 : L.all (fun c => isCode c || P c) = true) (h2 : ∀ c ∈ L.filter isCode, P c = true) : L.all P = true := by
  refine List.all_eq_true.mpr fun c hc => ?_
  have h := List.all_eq_true.mp h1 c hc
  rcases Bool.eq_false_or_eq_true (isCode c) with hi | hi
  · exact h2 c (List.mem_filter.mpr ⟨hc, hi⟩)
  · simpa [hi] using h
set_option maxRecDepth 65536 in
theorem w_c0 : (Jvm.Cond.code x code maxLocals ret).before args0 about1 = true := code_word (m := ⟨1, 2⟩) (meth := k1m2) (c := k1c2) (by decide +kernel) rfl rfl rfl (by decide +kernel)
set_option maxRecDepth 65536 in
theorem w_c1 : (Jvm.Cond.code ({ cls := "com/example/doorward/doorward/YubiKeyOtp$Fields", name := "<init>", desc := "([BII)V" } : Jvm.MethodName) prog_32_method_1_code (4 : Nat) (Option.none : Option Jvm.ClassFile.FieldType)).before args0 about1 = true := code_word (m := ⟨3, 0⟩) (meth := k3m0) (c := k3c0) (by decide +kernel) rfl rfl rfl (by decide +kernel)
set_option maxRecDepth 65536 in
theorem w_c2 : (Jvm.Cond.code ({ cls := "java/lang/Record", name := "<init>", desc := "()V" } : Jvm.MethodName) jdk_30_method_1_code (1 : Nat) (Option.none : Option Jvm.ClassFile.FieldType)).before args0 about1 = true := code_word (m := ⟨2, 0⟩) (meth := k2m0) (c := k2c0) (by decide +kernel) rfl rfl rfl (by decide +kernel)
set_option maxRecDepth 65536 in
theorem w_c3 : (Jvm.Cond.code ({ cls := "java/lang/Object", name := "<init>", desc := "()V" } : Jvm.MethodName) object_method_1_code (1 : Nat) (Option.none : Option Jvm.ClassFile.FieldType)).before args0 about1 = true := code_word (m := ⟨0, 0⟩) (meth := k0m0) (c := k0c0) (by decide +kernel) rfl rfl rfl (by decide +kernel)
set_option maxRecDepth 65536 in
theorem w_c4 : (Jvm.Cond.code ({ cls := "com/example/doorward/doorward/YubiKeyOtp$Fields", name := "follow", desc := "(Lcom/example/doorward/doorward/YubiKeyOtp$Fields;)Z" } : Jvm.MethodName) prog_32_method_2_code (2 : Nat) (Option.some Jvm.ClassFile.FieldType.boolean)).before args0 about1 = true := code_word (m := ⟨3, 1⟩) (meth := k3m1) (c := k3c1) (by decide +kernel) rfl rfl rfl (by decide +kernel)
set_option maxRecDepth 65536 in
theorem w_c5 : (Jvm.Cond.code ({ cls := "com/example/doorward/doorward/FieldsFollowPinLaw", name := "key", desc := "(II)J" } : Jvm.MethodName) method_2_code (2 : Nat) (Option.some Jvm.ClassFile.FieldType.long)).before args0 about1 = true := code_word (m := ⟨1, 1⟩) (meth := k1m1) (c := k1c1) (by decide +kernel) rfl rfl rfl (by decide +kernel)
def codes1 : List Jvm.Cond := [Jvm.Cond.code x code maxLocals ret, Jvm.Cond.code ({ cls := "com/example/doorward/doorward/YubiKeyOtp$Fields", name := "<init>", desc := "([BII)V" } : Jvm.MethodName) prog_32_method_1_code (4 : Nat) (Option.none : Option Jvm.ClassFile.FieldType), Jvm.Cond.code ({ cls := "java/lang/Record", name := "<init>", desc := "()V" } : Jvm.MethodName) jdk_30_method_1_code (1 : Nat) (Option.none : Option Jvm.ClassFile.FieldType), Jvm.Cond.code ({ cls := "java/lang/Object", name := "<init>", desc := "()V" } : Jvm.MethodName) object_method_1_code (1 : Nat) (Option.none : Option Jvm.ClassFile.FieldType), Jvm.Cond.code ({ cls := "com/example/doorward/doorward/YubiKeyOtp$Fields", name := "follow", desc := "(Lcom/example/doorward/doorward/YubiKeyOtp$Fields;)Z" } : Jvm.MethodName) prog_32_method_2_code (2 : Nat) (Option.some Jvm.ClassFile.FieldType.boolean), Jvm.Cond.code ({ cls := "com/example/doorward/doorward/FieldsFollowPinLaw", name := "key", desc := "(II)J" } : Jvm.MethodName) method_2_code (2 : Nat) (Option.some Jvm.ClassFile.FieldType.long)]
set_option maxRecDepth 65536 in
theorem codes_eq : words1.filter isCode = codes1 := rfl
theorem w_codes : ∀ c ∈ words1.filter isCode, c.before args0 about1 = true := by
  rw [codes_eq]
  intro c hc
  simp only [codes1, List.mem_cons, List.not_mem_nil, or_false] at hc
  rcases hc with rfl | rfl | rfl | rfl | rfl | rfl
  · exact w_c0
  · exact w_c1
  · exact w_c2
  · exact w_c3
  · exact w_c4
  · exact w_c5
set_option maxRecDepth 65536 in
theorem w_t1 : (words1.take 24).all (fun c => isCode c || c.before args0 about1) = true := by decide +kernel
set_option maxRecDepth 65536 in
theorem w_t2 : (words1.drop 24).all (fun c => isCode c || c.before args0 about1) = true := by decide +kernel
theorem w_tables : (allAtoms (Jvm.Cond.code x code maxLocals ret :: tables_1)).before args0 about1 = true := by
  rw [allAtoms_all]
  show words1.all (fun c => c.before args0 about1) = true
  refine all_split ?_ w_codes
  rw [← List.take_append_drop 24 words1, List.all_append, w_t1, w_t2]
  rfl
set_option maxRecDepth 65536 in
theorem w_case : (Jvm.Cond.and given_1 narrow_1).before args0 about1 = true := by decide +kernel
theorem w_applies : (headSpec (Jvm.Cond.code x code maxLocals ret :: tables_1) room_1).applies x e0.platform about1 = true :=
  (Spec.applies_iff w_frames).mpr ⟨w_running, w_runnable, w_alone, w_named, w_hears, w_ripe, w_room, w_tables⟩
theorem atStart : AtStart classFile x code maxLocals ret World_1 tables_1 room_1 Calls_1 rest_1 Pre_1 launch0 p0 e0 about1 theMethod args0 below0 :=
  ⟨lists_1, trivial, launch0.admits_env _ _ _, launch0.least_env, fairChoices_fair.cas, fairChoices_fair.clock, w_frames, w_args, w_heap, w_applies, trivial, trivial, w_case⟩
end start1
theorem witness_1 : WitnessClaimed_1 := ⟨start1.p0, start1.e0, start1.about1, start1.theMethod, start1.args0, start1.below0, start1.atStart⟩
end Jvm.Pilot.@@N@@
