import JvmDerived
import JvmDerived.Pilot.@@N@@Statement
import JvmDerived.Pilot.@@N@@Code
set_option linter.unusedVariables false
set_option linter.unusedSimpArgs false

namespace Jvm.Pilot.@@N@@
open Jvm Jvm.ClassFile Sem Op Lib Jvm.Free Jvm.Stand Jvm.LawKit Jvm.RoadKit Bundle Jvm.Pilot.@@N@@.Jvm.D

section OwnKit
variable {p : Program} {l : Launch} {e : Env} {R : Room} {s : State} {m : MethodId} {args : Array Value} {below : List Frame} {meth : Method} {c : Code} {T : State} {locs : List Loc} {cells slots : Nat} {G : Outcome → State → Prop} {Q : Option Value → Heap → List Loc → Prop} {C S : Nat} {Z : State} {h h' : Heap}
/-- from the state t the invocation comes to an end of which G holds -/
def own_Fin (p : Program) (e : Env) (below : List Frame) (G : Outcome → State → Prop) (t : State) : Prop := ∃ s₂ o, Steps p.tables e below t s₂ ∧ s₂.status = .running ∧ Ended s₂ below o ∧ G o s₂
def own_G (s : State) (Q : Option Value → Heap → List Loc → Prop) (C S : Nat) (o : Outcome) (U' : State) : Prop := ∃ v L, o = .returned v ∧ Q v U'.heap L ∧ FrameEnd s o U' L C S
theorem own_to {t u : State} (h : ∀ z, Steps p.tables e below u z → Steps p.tables e below t z) (k : own_Fin p e below G u) : own_Fin p e below G t := by
  obtain ⟨a, b, c, d⟩ := k; exact ⟨a, b, h _ c, d⟩
theorem own_via {t u : State} (h : Steps p.tables e below t u) (k : own_Fin p e below G u) : own_Fin p e below G t := own_to (fun _ kz => h.trans kz) k
theorem own_retW (X : Stand p l e R s m args below meth c T locs cells slots) (hx : p.tables.exec = Jvm.exec) (hlk : meth.locks = false) (hG : G = own_G s Q C S) {f : JFrame} {w : Option Value} (hv : meth.sig.returnType = none → w = none)
    (st : ∀ fs, (∀ (f : JFrame) (acts : List Action), f.method = m → f.locked = none → f.entered = [] → (doReturn e (T.setTop f) acts w).1 = T.setFrames fs) → Steps p.tables e below (T.setTop f) (T.setFrames fs))
    (hc : cells ≤ C) (hs : slots ≤ S) (hQ : Q w T.heap locs) : own_Fin p e below G (T.setTop f) := by
  subst hG
  obtain ⟨fs, hr, hrun, hended, hW, hsame⟩ := X.leave (v := w) hv hlk
  exact ⟨_, _, st fs hr, hrun, hended, _, _, rfl, hQ, ⟨_, rfl⟩, hW, hsame.mono hc hs⟩
theorem own_retI (X : Stand p l e R s m args below meth c T locs cells slots) (hx : p.tables.exec = Jvm.exec) (hlk : meth.locks = false) (hG : G = own_G s Q C S) {pc : Nat} {Ls : Array Slot} {z : Int32} {rest : List Value} (hret : meth.sig.returnType = some .int) (hd : decode c.code pc = .ok (.ireturn, 1))
    (hc : cells ≤ C) (hs : slots ≤ S) (hQ : Q (some (.int z)) T.heap locs) : own_Fin p e below G (T.setTop (mkF m pc Ls (.int z :: rest))) :=
  own_retW X hx hlk hG (w := some (.int z)) (fun h => by rw [hret] at h; cases h) (fun fs hr => retOut X hx hret rfl (Or.inl ⟨rfl, Or.inl rfl, z, rfl⟩) hd hr) hc hs hQ
theorem own_retJ (X : Stand p l e R s m args below meth c T locs cells slots) (hx : p.tables.exec = Jvm.exec) (hlk : meth.locks = false) (hG : G = own_G s Q C S) {pc : Nat} {Ls : Array Slot} {z : Int64} {rest : List Value} (hret : meth.sig.returnType = some .long) (hd : decode c.code pc = .ok (.lreturn, 1))
    (hc : cells ≤ C) (hs : slots ≤ S) (hQ : Q (some (.long z)) T.heap locs) : own_Fin p e below G (T.setTop (mkF m pc Ls (.long z :: rest))) :=
  own_retW X hx hlk hG (w := some (.long z)) (fun h => by rw [hret] at h; cases h) (fun fs hr => retOut X hx hret rfl (Or.inr (Or.inl ⟨rfl, rfl, z, rfl⟩)) hd hr) hc hs hQ
theorem own_retA (X : Stand p l e R s m args below meth c T locs cells slots) (hx : p.tables.exec = Jvm.exec) (hlk : meth.locks = false) (hG : G = own_G s Q C S) {pc : Nat} {Ls : Array Slot} {w : Value} {rest : List Value} {t : FieldType} (hret : meth.sig.returnType = some t) (ht : t.isReference = true) (hw : w.isRef = true) (hd : decode c.code pc = .ok (.areturn, 1))
    (hc : cells ≤ C) (hs : slots ≤ S) (hQ : Q (some w) T.heap locs) : own_Fin p e below G (T.setTop (mkF m pc Ls (w :: rest))) :=
  own_retW X hx hlk hG (w := some w) (fun h => by rw [hret] at h; cases h) (fun fs hr => retOut X hx hret (by rcases ref_cases hw with rfl | ⟨a, rfl⟩ <;> cases t <;> first | rfl | (simp [FieldType.isReference] at ht)) (Or.inr (Or.inr (Or.inr (Or.inr ⟨rfl, ht, hw⟩)))) hd hr) hc hs hQ
theorem own_retN (X : Stand p l e R s m args below meth c T locs cells slots) (hx : p.tables.exec = Jvm.exec) (hlk : meth.locks = false) (hG : G = own_G s Q C S) {pc : Nat} {Ls : Array Slot} {z : Int32} {rest : List Value} {t : FieldType} (hret : meth.sig.returnType = some t) (ht : t = .boolean ∨ t = .byte ∨ t = .char ∨ t = .short) (hd : decode c.code pc = .ok (.ireturn, 1))
    (hc : cells ≤ C) (hs : slots ≤ S) (hQ : Q (some (.int (nar t z))) T.heap locs) : own_Fin p e below G (T.setTop (mkF m pc Ls (.int z :: rest))) :=
  own_retW X hx hlk hG (w := some (.int (nar t z))) (fun h => by rw [hret] at h; cases h) (fun fs hr => retN X hx hret ht hd hr) hc hs hQ
theorem own_retV (X : Stand p l e R s m args below meth c T locs cells slots) (hx : p.tables.exec = Jvm.exec) (hlk : meth.locks = false) (hG : G = own_G s Q C S) {pc : Nat} {Ls : Array Slot} (hret : meth.sig.returnType = none) (hd : decode c.code pc = .ok (.return_, 1))
    (hc : cells ≤ C) (hs : slots ≤ S) (hQ : Q none T.heap locs) : own_Fin p e below G (T.setTop (mkF m pc Ls [])) :=
  own_retW X hx hlk hG (w := none) (fun _ => rfl) (fun fs hr => X.returnOut hx hret hd hr) hc hs hQ
theorem own_lrem {g : JFrame} {target : State} (X : Stand p l e R s m args below meth c T locs cells slots) (hx : p.tables.exec = Jvm.exec) (hg : g.method = m) {x y : Int64} {rest : List Value} (hd : decode c.code g.pc = .ok (.lrem, 1)) (hs : g.stack = .long y :: .long x :: rest) (hy : y ≠ 0)
    (hr : Steps p.tables e below (T.setTop { g with pc := g.pc + 1, stack := .long (x % y) :: rest }) target) : Steps p.tables e below (T.setTop g) target := by
  have q : x - x / y * y = x % y := lrem_mod x y
  exact XS.lrem X.here hx hg hd hs hy (by rw [q]; exact hr)
def own_Pair (a b : Slot) : Prop := (a = .unset ∧ b = .unset) ∨ ∃ x, a = .val (.long x) ∧ b = .second
/-- the array at a has n places; place i holds mk (f i) -/
def own_AV {α : Type} (mk : α → Value) (Z : State) (h : Heap) (a : Addr) (ty : FieldType) (n : Nat) (f : Nat → α) : Prop := n < 2 ^ 31 ∧ ∃ c : Cell, Arr Z h a c ty ∧ c.slots.size = n ∧ ∀ i, i < n → c.slots[i]? = some (mk (f i))
def own_upd {α : Type} (f : Nat → α) (k : Nat) (v : α) : Nat → α := fun i => if i = k then v else f i
section
variable {α : Type} {mk : α → Value} {a b : Addr} {ty : FieldType} {n : Nat} {f f' : Nat → α} {ws : List Addr} {sl : Nat} {v : Value}
theorem own_AV.lt (F : own_AV mk Z h a ty n f) : a < h.size := by obtain ⟨_, c, A, -⟩ := F; exact A.lt
theorem own_AV.ext (F : own_AV mk Z h a ty n f) (E : Ext h h') : own_AV mk Z h' a ty n f := by obtain ⟨q, c, A, r⟩ := F; exact ⟨q, c, A.ext E, r⟩
theorem own_AV.other (F : own_AV mk Z h b ty n f) (W : Wr h h' a sl v) (q : b ≠ a) : own_AV mk Z h' b ty n f := by obtain ⟨q', c, A, r⟩ := F; exact ⟨q', c, A.other W q, r⟩
theorem own_AV.keep (F : own_AV mk Z h a ty n f) (K : Keep h h' ws) (q : a ∉ ws) : own_AV mk Z h' a ty n f := by obtain ⟨q', c, A, r⟩ := F; exact ⟨q', c, ⟨K.2.1 a c A.1 q, A.2⟩, r⟩
theorem own_AV.congr (F : own_AV mk Z h a ty n f) (q : ∀ i, i < n → f i = f' i) : own_AV mk Z h a ty n f' := by obtain ⟨q', c, A, r, s⟩ := F; exact ⟨q', c, A, r, fun i hi => by rw [s i hi, q i hi]⟩
theorem own_AV.new {k : ClassId} {z : Int32} (A : Arr Z h a (newA k ty z) ty) (q : ¬ z < 0) (hn : z.toNatClampNeg = n) (hf : ∀ i : Nat, defaultValue ty = mk (f i)) : own_AV mk Z h a ty n f := by
  refine ⟨hn ▸ (back32 q).2, _, A, (sz_new _ _ _).trans hn, fun i hi => ?_⟩
  rw [← hf i]; simp [newA, hn, hi]
theorem own_in {c : Cell} {j : Int32} {k : Nat} (S : c.slots.size = n) (hj : ¬ j < 0) (hk : j.toNatClampNeg = k) (hlt : k < n) : ¬ (j < 0 ∨ c.slots.size ≤ j.toNatClampNeg) := fun q => q.elim hj fun r => by omega
theorem own_AV.set {c : Cell} {j : Int32} {k : Nat} {w : α} (nn : n < 2 ^ 31) (A : Arr Z h a c ty) (S : c.slots.size = n) (H : ∀ i, i < n → c.slots[i]? = some (mk (f i))) (W : Wr h h' a j.toNatClampNeg (mk w)) (hk : j.toNatClampNeg = k) : own_AV mk Z h' a ty n (own_upd f k w) := by
  subst hk
  refine ⟨nn, _, A.same W, by rw [sz_set]; exact S, fun i hi => ?_⟩
  show (c.setSlot j.toNatClampNeg (mk w)).slots[i]? = some (mk (if i = j.toNatClampNeg then w else f i))
  simp only [Cell.setSlot]
  by_cases q : i = j.toNatClampNeg
  · subst q; rw [if_pos rfl]; simp [S, hi]
  · rw [if_neg q, Array.getElem?_setIfInBounds_ne (fun r => q r.symm)]; exact H i hi
theorem own_iaload (X : Stand p l e R s m args below meth c T locs cells slots) (hx : p.tables.exec = Jvm.exec) (hZ : Z.Warmed39 s.vm) (eT : T.heap = h) {f : Nat → Int32} (F : own_AV Value.int Z h a .int n f) {j : Int32} {k : Nat} (hj : ¬ j < 0) (hk : j.toNatClampNeg = k) (hlt : k < n)
    {g : JFrame} (hg : g.method = m) {rest : List Value} (hs : g.stack = .int j :: .ref a :: rest) (hd : decode c.code g.pc = .ok (.iaload, 1)) {target : State} (hr : Steps p.tables e below (T.setTop { g with pc := g.pc + 1, stack := .int (f k) :: rest }) target) : Steps p.tables e below (T.setTop g) target := by
  obtain ⟨_, cl, A, S, H⟩ := F
  exact X.iaload hx (j := j) (v := .int (f k)) (by rw [eT]; exact A.1) (State.isArrayOf_alike hZ.alike A.2.1) A.2.2 (own_in S hj hk hlt) (by rw [hk]; exact H k hlt) hg hs hd _ hr
theorem own_laload (X : Stand p l e R s m args below meth c T locs cells slots) (hx : p.tables.exec = Jvm.exec) (hZ : Z.Warmed39 s.vm) (eT : T.heap = h) {f : Nat → Int64} (F : own_AV Value.long Z h a .long n f) {j : Int32} {k : Nat} (hj : ¬ j < 0) (hk : j.toNatClampNeg = k) (hlt : k < n)
    {g : JFrame} (hg : g.method = m) {rest : List Value} (hs : g.stack = .int j :: .ref a :: rest) (hd : decode c.code g.pc = .ok (.laload, 1)) {target : State} (hr : Steps p.tables e below (T.setTop { g with pc := g.pc + 1, stack := .long (f k) :: rest }) target) : Steps p.tables e below (T.setTop g) target := by
  obtain ⟨_, cl, A, S, H⟩ := F
  exact X.laload hx (j := j) (v := .long (f k)) (by rw [eT]; exact A.1) (State.isArrayOf_alike hZ.alike A.2.1) A.2.2 (own_in S hj hk hlt) (by rw [hk]; exact H k hlt) hg hs hd _ hr
theorem own_baload (X : Stand p l e R s m args below meth c T locs cells slots) (hx : p.tables.exec = Jvm.exec) (hZ : Z.Warmed39 s.vm) (eT : T.heap = h) {f : Nat → Int32} (F : own_AV Value.int Z h a .byte n f) {j : Int32} {k : Nat} (hj : ¬ j < 0) (hk : j.toNatClampNeg = k) (hlt : k < n)
    {g : JFrame} (hg : g.method = m) {rest : List Value} (hs : g.stack = .int j :: .ref a :: rest) (hd : decode c.code g.pc = .ok (.baload, 1)) {target : State} (hr : Steps p.tables e below (T.setTop { g with pc := g.pc + 1, stack := .int (f k) :: rest }) target) : Steps p.tables e below (T.setTop g) target := by
  obtain ⟨_, cl, A, S, H⟩ := F
  exact X.baloadBytes hx (j := j) (v := .int (f k)) (by rw [eT]; exact A.1) (State.isArrayOf_alike hZ.alike A.2.1) A.2.2 (own_in S hj hk hlt) (by rw [hk]; exact H k hlt) hg hs hd _ hr
theorem own_cloneI (X : Stand p l e R s m args below meth c T locs cells slots) (hx : p.tables.exec = Jvm.exec) (hZ : Z.Warmed39 s.vm) {a0 : Array Value} {own ad : String} {index : Nat} (hown : s.vm.findClass own = some m.cls)
    (w1 : (Cond.methodLink own index ⟨ad, "clone", "()Ljava/lang/Object;"⟩).before a0 Z = true) (w2 : (Cond.sameMethod ad "java/lang/Object" "clone" "()Ljava/lang/Object;").before a0 Z = true) (w3 : (Cond.native ⟨"java/lang/Object", "clone", "()Ljava/lang/Object;"⟩).before a0 Z = true)
    (w4 : (Cond.instanceMethod ⟨"java/lang/Object", "clone", "()Ljava/lang/Object;"⟩).before a0 Z = true) (w5 : (Cond.selects ad ⟨ad, "clone", "()Ljava/lang/Object;"⟩ ⟨"java/lang/Object", "clone", "()Ljava/lang/Object;"⟩).before a0 Z = true) (w6 : (Cond.castable ad "java/lang/Cloneable").before a0 Z = true)
    (eT : T.heap = h) {f : Nat → Int32} (F : own_AV Value.int Z h a .int n f) (E : Exa Z h a ad) {g : JFrame} (hg : g.method = m) (hsize : g.locals.size = c.maxLocals) {rest : List Value} (hs : g.stack = .ref a :: rest) (hd : decode c.code g.pc = .ok (.invokevirtual index, 3))
    (hf : 1 ≤ R.frames) {W cap : Nat} (hW : 2 * g.monitorRoom + (rest.map fun v => v.category).sum ≤ W) (hl : W + 14 ≤ R.locals) (hcap : n ≤ cap) (hc : cells + 1 ≤ R.cells) (hsl : slots + cap ≤ R.slots) :
    ∃ T' h', Stand p l e R s m args below meth c T' locs (cells + 1) (slots + cap) ∧ T'.heap = h' ∧ Ext h h' ∧ own_AV Value.int Z h' h.size .int n f ∧ Exa Z h' h.size ad ∧
      ∀ target, Steps p.tables e below (T'.setTop { g with pc := g.pc + 3, stack := .ref h.size :: rest }) target → Steps p.tables e below (T.setTop g) target := by
  obtain ⟨nn, cl, A, S, H⟩ := F
  have FC : FitC Z cl := fitC_of A fun i hi v hv => by rw [H i (S ▸ hi)] at hv; cases hv; rfl
  obtain ⟨T', h', X', e', ex, A', E', st⟩ := cloneA X hx hZ hown w1 w2 w3 w4 w5 w6 eT A E FC hg hsize hs hd hf hW hl (by rw [S]; exact hcap) hc hsl
  exact ⟨T', h', X', e', ex, ⟨nn, cloneOf cl, A', S, H⟩, E', st⟩
theorem own_alen (X : Stand p l e R s m args below meth c T locs cells slots) (hx : p.tables.exec = Jvm.exec) (hZ : Z.Warmed39 s.vm) (eT : T.heap = h) (F : own_AV mk Z h a ty n f) {z : Int32} (hz : n.toInt32 = z)
    {g : JFrame} (hg : g.method = m) {rest : List Value} (hs : g.stack = .ref a :: rest) (hd : decode c.code g.pc = .ok (.arraylength, 1)) {target : State} (hr : Steps p.tables e below (T.setTop { g with pc := g.pc + 1, stack := .int z :: rest }) target) : Steps p.tables e below (T.setTop g) target := by
  obtain ⟨_, cl, A, S, H⟩ := F
  exact X.arraylength hx (by rw [eT]; exact A.1) (State.isArrayOf_alike hZ.alike A.2.1) hg hs hd _ (by rw [S, hz]; exact hr)
end
end OwnKit
theorem own_pn0 : plainName "com/example/nuthatch/nuthatch/lang/Characters" = true := by first | (simp [plainName, overriddenIn]; done) | decide +kernel
theorem d2_0 : decode prog_7_method_3_code 0 = .ok (.iload_n 0, 1) := by decide +kernel
theorem d2_1 : decode prog_7_method_3_code 1 = .ok (.bipush 97, 2) := by decide +kernel
theorem d2_3 : decode prog_7_method_3_code 3 = .ok (.if_icmp .lt 9, 3) := by decide +kernel
theorem d2_6 : decode prog_7_method_3_code 6 = .ok (.iload_n 0, 1) := by decide +kernel
theorem d2_7 : decode prog_7_method_3_code 7 = .ok (.bipush 122, 2) := by decide +kernel
theorem d2_9 : decode prog_7_method_3_code 9 = .ok (.if_icmp .le 15, 3) := by decide +kernel
theorem d2_12 : decode prog_7_method_3_code 12 = .ok (.iload_n 0, 1) := by decide +kernel
theorem d2_13 : decode prog_7_method_3_code 13 = .ok (.bipush 65, 2) := by decide +kernel
theorem d2_15 : decode prog_7_method_3_code 15 = .ok (.if_icmp .lt 13, 3) := by decide +kernel
theorem d2_18 : decode prog_7_method_3_code 18 = .ok (.iload_n 0, 1) := by decide +kernel
theorem d2_19 : decode prog_7_method_3_code 19 = .ok (.bipush 90, 2) := by decide +kernel
theorem d2_21 : decode prog_7_method_3_code 21 = .ok (.if_icmp .gt 7, 3) := by decide +kernel
theorem d2_24 : decode prog_7_method_3_code 24 = .ok (.iconst 1, 1) := by decide +kernel
theorem d2_25 : decode prog_7_method_3_code 25 = .ok (.goto 4, 3) := by decide +kernel
theorem d2_28 : decode prog_7_method_3_code 28 = .ok (.iconst 0, 1) := by decide +kernel
theorem d2_29 : decode prog_7_method_3_code 29 = .ok (.ireturn, 1) := by decide +kernel
theorem ef2 (m : MethodId) (p0 : Int32) : entryFrame m #[(.int p0)] 1 = mkF m 0 #[.val (.int p0)] [] := by first | (simp [entryFrame, mkF, argsToLocals, Value.category]; done) | rfl
def f2_28 (p0 : Int32) : Int32 := (0 : Int32)
def f2_24 (p0 : Int32) : Int32 := (1 : Int32)
def f2_12 (p0 : Int32) : Int32 := if p0 < (65 : Int32) then (f2_28 p0) else if (90 : Int32) < p0 then (f2_28 p0) else (f2_24 p0)
def f2 (p0 : Int32) : Int32 := if p0 < (97 : Int32) then (f2_12 p0) else if (122 : Int32) < p0 then (f2_12 p0) else (f2_24 p0)
def Q2 (Z : State) (p0 : Int32) (h0 : Heap) (n0 : Nat) (v : Option Value) (h : Heap) (L : List Loc) : Prop := v = some (.int (f2 p0)) ∧ Fr n0 L ∧ h = h0
set_option maxRecDepth 65536 in
set_option maxHeartbeats 40000000 in
theorem rm2 (l : Launch) (Z : State) (a0 : Array Value) (hw : ∀ d ∈ tables_1, d.before a0 Z = true) (ws : List Jvm.Cond) (p0 : Int32) (h0 : Heap) (n0 : Nat) (Z0 : n0 ≤ h0.size) :
    MetFree l (⟨"com/example/nuthatch/nuthatch/lang/Characters", "isLetter", "(C)Z"⟩ : MethodName) (head1 (Jvm.Cond.code (⟨"com/example/nuthatch/nuthatch/lang/Characters", "isLetter", "(C)Z"⟩ : MethodName) prog_7_method_3_code 1 (some .boolean) :: ws) ({ frames := 0, cells := 0, slots := 0, locals := 0 } : Room)) (fun a U => a = #[(.int p0)] ∧ Z.Warmed39 U.vm ∧ U.heap = h0) (fun _ _ _ _ _ => True) (fun _ U o U' => ∃ v L, o = .returned v ∧ Q2 Z p0 h0 n0 v U'.heap L ∧ FrameEnd U o U' L ({ frames := 0, cells := 0, slots := 0, locals := 0 } : Room).cells ({ frames := 0, cells := 0, slots := 0, locals := 0 } : Room).slots) := by
  refine MetFree.of_bodySF (plainFor_of_name own_pn0) hisR ?_
  intro p e s m args below meth c s₁ Bd hml0 hP hK
  obtain ⟨rfl, hZ, hh⟩ := hP
  have hx := Bd.exec
  have hby := Bd.bytes
  have hml : c.maxLocals = 1 := hml0
  have hown : s.vm.findClass "com/example/nuthatch/nuthatch/lang/Characters" = some m.cls := findClass_of_methodNamed Bd.named
  have hnm := (name_of_methodNamed Bd.named Bd.method).1
  have hlk : meth.locks = false := BodyLoose.notSynchronized Bd
  have X0 : Stand p l e ({ frames := 0, cells := 0, slots := 0, locals := 0 } : Room) s m #[(.int p0)] below meth c s₁ [] 0 0 := Stand.of_body Bd
  have e0 : s₁.heap = h0 := by rw [← hh, Bd.state]; rfl
  have N0 := Fr.nil n0
  obtain ⟨G, hG⟩ : ∃ G, G = own_G s (Q2 Z p0 h0 n0) ({ frames := 0, cells := 0, slots := 0, locals := 0 } : Room).cells ({ frames := 0, cells := 0, slots := 0, locals := 0 } : Room).slots := ⟨_, rfl⟩
  show own_Fin p e below (own_G s (Q2 Z p0 h0 n0) ({ frames := 0, cells := 0, slots := 0, locals := 0 } : Room).cells ({ frames := 0, cells := 0, slots := 0, locals := 0 } : Room).slots) (s₁.setTop (entryFrame m #[(.int p0)] 1))
  rw [← hG]
  refine own_to (fun _ kz => castTop (ef2 m p0) kz) ?_
  have q0 : (f2 p0) = (f2 p0) := rfl
  show own_Fin p e below G (s₁.setTop (mkF m 0 #[.val (.int p0)] []))
  refine own_to (fun _ kz => XS.iloadN X0.here hx rfl (hb hby d2_0) rfl  kz) ?_
  show own_Fin p e below G (s₁.setTop (mkF m 1 #[.val (.int p0)] [(.int p0)]))
  refine own_to (fun _ kz => XS.bipush X0.here hx rfl (hb hby d2_1) kz) ?_
  show own_Fin p e below G (s₁.setTop (mkF m 3 #[.val (.int p0)] [(.int (97 : Int32)), (.int p0)]))
  have K24 : ∀ (q_j24 : (f2 p0) = (f2_24 p0)), own_Fin p e below G (s₁.setTop (mkF m 24 #[.val (.int p0)] [])) := by
    intro q_j24
    refine own_to (fun _ kz => XS.iconst X0.here hx rfl (hb hby d2_24) kz) ?_
    show own_Fin p e below G (s₁.setTop (mkF m 25 #[.val (.int p0)] [(.int (1 : Int32))]))
    refine own_to (fun _ kz => XS.goto X0.here hx rfl (pc0 := 25) (pc' := 29) rfl (hb hby d2_25) (by decide) (by decide) kz) ?_
    show own_Fin p e below G (s₁.setTop (mkF m 29 #[.val (.int p0)] [(.int (1 : Int32))]))
    exact own_retN X0 hx hlk hG (t := .boolean) Bd.returns (by simp) (hb hby d2_29) (by decide) (by decide) ⟨(congrArg (fun z => some (Value.int z)) q_j24).symm, N0, e0⟩
  have K12 : ∀ (q_j12 : (f2 p0) = (f2_12 p0)), own_Fin p e below G (s₁.setTop (mkF m 12 #[.val (.int p0)] [])) := by
    intro q_j12
    refine own_to (fun _ kz => XS.iloadN X0.here hx rfl (hb hby d2_12) rfl  kz) ?_
    show own_Fin p e below G (s₁.setTop (mkF m 13 #[.val (.int p0)] [(.int p0)]))
    refine own_to (fun _ kz => XS.bipush X0.here hx rfl (hb hby d2_13) kz) ?_
    show own_Fin p e below G (s₁.setTop (mkF m 15 #[.val (.int p0)] [(.int (65 : Int32)), (.int p0)]))
    have K28 : ∀ (q_j28 : (f2 p0) = (f2_28 p0)), own_Fin p e below G (s₁.setTop (mkF m 28 #[.val (.int p0)] [])) := by
      intro q_j28
      refine own_to (fun _ kz => XS.iconst X0.here hx rfl (hb hby d2_28) kz) ?_
      show own_Fin p e below G (s₁.setTop (mkF m 29 #[.val (.int p0)] [(.int (0 : Int32))]))
      exact own_retN X0 hx hlk hG (t := .boolean) Bd.returns (by simp) (hb hby d2_29) (by decide) (by decide) ⟨(congrArg (fun z => some (Value.int z)) q_j28).symm, N0, e0⟩
    by_cases hc15 : p0 < (65 : Int32)
    · refine own_to (fun _ kz => XS.icmpYes X0.here hx rfl (pc0 := 15) (pc' := 28) rfl (hb hby d2_15) rfl (tlt hc15).1 (by decide) (by decide) kz) ?_
      have q15t := q_j12.trans (if_pos hc15)
      show own_Fin p e below G (s₁.setTop (mkF m 28 #[.val (.int p0)] []))
      exact K28 q15t
    · refine own_to (fun _ kz => XS.icmpNo X0.here hx rfl (hb hby d2_15) rfl (flt hc15).1 kz) ?_
      have q15f := q_j12.trans (if_neg hc15)
      show own_Fin p e below G (s₁.setTop (mkF m 18 #[.val (.int p0)] []))
      refine own_to (fun _ kz => XS.iloadN X0.here hx rfl (hb hby d2_18) rfl  kz) ?_
      show own_Fin p e below G (s₁.setTop (mkF m 19 #[.val (.int p0)] [(.int p0)]))
      refine own_to (fun _ kz => XS.bipush X0.here hx rfl (hb hby d2_19) kz) ?_
      show own_Fin p e below G (s₁.setTop (mkF m 21 #[.val (.int p0)] [(.int (90 : Int32)), (.int p0)]))
      by_cases hc21 : (90 : Int32) < p0
      · refine own_to (fun _ kz => XS.icmpYes X0.here hx rfl (pc0 := 21) (pc' := 28) rfl (hb hby d2_21) rfl (tlt hc21).2.2.1 (by decide) (by decide) kz) ?_
        have q21t := q15f.trans (if_pos hc21)
        show own_Fin p e below G (s₁.setTop (mkF m 28 #[.val (.int p0)] []))
        exact K28 q21t
      · refine own_to (fun _ kz => XS.icmpNo X0.here hx rfl (hb hby d2_21) rfl (flt hc21).2.2.1 kz) ?_
        have q21f := q15f.trans (if_neg hc21)
        show own_Fin p e below G (s₁.setTop (mkF m 24 #[.val (.int p0)] []))
        exact K24 q21f
  by_cases hc3 : p0 < (97 : Int32)
  · refine own_to (fun _ kz => XS.icmpYes X0.here hx rfl (pc0 := 3) (pc' := 12) rfl (hb hby d2_3) rfl (tlt hc3).1 (by decide) (by decide) kz) ?_
    have q3t := q0.trans (if_pos hc3)
    show own_Fin p e below G (s₁.setTop (mkF m 12 #[.val (.int p0)] []))
    exact K12 q3t
  · refine own_to (fun _ kz => XS.icmpNo X0.here hx rfl (hb hby d2_3) rfl (flt hc3).1 kz) ?_
    have q3f := q0.trans (if_neg hc3)
    show own_Fin p e below G (s₁.setTop (mkF m 6 #[.val (.int p0)] []))
    refine own_to (fun _ kz => XS.iloadN X0.here hx rfl (hb hby d2_6) rfl  kz) ?_
    show own_Fin p e below G (s₁.setTop (mkF m 7 #[.val (.int p0)] [(.int p0)]))
    refine own_to (fun _ kz => XS.bipush X0.here hx rfl (hb hby d2_7) kz) ?_
    show own_Fin p e below G (s₁.setTop (mkF m 9 #[.val (.int p0)] [(.int (122 : Int32)), (.int p0)]))
    by_cases hc9 : (122 : Int32) < p0
    · refine own_to (fun _ kz => XS.icmpNo X0.here hx rfl (hb hby d2_9) rfl (tlt hc9).2.2.2 kz) ?_
      have q9t := q3f.trans (if_pos hc9)
      show own_Fin p e below G (s₁.setTop (mkF m 12 #[.val (.int p0)] []))
      exact K12 q9t
    · refine own_to (fun _ kz => XS.icmpYes X0.here hx rfl (pc0 := 9) (pc' := 24) rfl (hb hby d2_9) rfl (flt hc9).2.2.2 (by decide) (by decide) kz) ?_
      have q9f := q3f.trans (if_neg hc9)
      show own_Fin p e below G (s₁.setTop (mkF m 24 #[.val (.int p0)] []))
      exact K24 q9f
theorem d3_0 : decode prog_7_method_2_code 0 = .ok (.iload_n 0, 1) := by decide +kernel
theorem d3_1 : decode prog_7_method_2_code 1 = .ok (.bipush 48, 2) := by decide +kernel
theorem d3_3 : decode prog_7_method_2_code 3 = .ok (.if_icmp .lt 13, 3) := by decide +kernel
theorem d3_6 : decode prog_7_method_2_code 6 = .ok (.iload_n 0, 1) := by decide +kernel
theorem d3_7 : decode prog_7_method_2_code 7 = .ok (.bipush 57, 2) := by decide +kernel
theorem d3_9 : decode prog_7_method_2_code 9 = .ok (.if_icmp .gt 7, 3) := by decide +kernel
theorem d3_12 : decode prog_7_method_2_code 12 = .ok (.iconst 1, 1) := by decide +kernel
theorem d3_13 : decode prog_7_method_2_code 13 = .ok (.goto 4, 3) := by decide +kernel
theorem d3_16 : decode prog_7_method_2_code 16 = .ok (.iconst 0, 1) := by decide +kernel
theorem d3_17 : decode prog_7_method_2_code 17 = .ok (.ireturn, 1) := by decide +kernel
theorem ef3 (m : MethodId) (p0 : Int32) : entryFrame m #[(.int p0)] 1 = mkF m 0 #[.val (.int p0)] [] := by first | (simp [entryFrame, mkF, argsToLocals, Value.category]; done) | rfl
def f3_16 (p0 : Int32) : Int32 := (0 : Int32)
def f3 (p0 : Int32) : Int32 := if p0 < (48 : Int32) then (f3_16 p0) else if (57 : Int32) < p0 then (f3_16 p0) else (1 : Int32)
def Q3 (Z : State) (p0 : Int32) (h0 : Heap) (n0 : Nat) (v : Option Value) (h : Heap) (L : List Loc) : Prop := v = some (.int (f3 p0)) ∧ Fr n0 L ∧ h = h0
set_option maxRecDepth 65536 in
set_option maxHeartbeats 40000000 in
theorem rm3 (l : Launch) (Z : State) (a0 : Array Value) (hw : ∀ d ∈ tables_1, d.before a0 Z = true) (ws : List Jvm.Cond) (p0 : Int32) (h0 : Heap) (n0 : Nat) (Z0 : n0 ≤ h0.size) :
    MetFree l (⟨"com/example/nuthatch/nuthatch/lang/Characters", "isDigit", "(C)Z"⟩ : MethodName) (head1 (Jvm.Cond.code (⟨"com/example/nuthatch/nuthatch/lang/Characters", "isDigit", "(C)Z"⟩ : MethodName) prog_7_method_2_code 1 (some .boolean) :: ws) ({ frames := 0, cells := 0, slots := 0, locals := 0 } : Room)) (fun a U => a = #[(.int p0)] ∧ Z.Warmed39 U.vm ∧ U.heap = h0) (fun _ _ _ _ _ => True) (fun _ U o U' => ∃ v L, o = .returned v ∧ Q3 Z p0 h0 n0 v U'.heap L ∧ FrameEnd U o U' L ({ frames := 0, cells := 0, slots := 0, locals := 0 } : Room).cells ({ frames := 0, cells := 0, slots := 0, locals := 0 } : Room).slots) := by
  refine MetFree.of_bodySF (plainFor_of_name own_pn0) hisR ?_
  intro p e s m args below meth c s₁ Bd hml0 hP hK
  obtain ⟨rfl, hZ, hh⟩ := hP
  have hx := Bd.exec
  have hby := Bd.bytes
  have hml : c.maxLocals = 1 := hml0
  have hown : s.vm.findClass "com/example/nuthatch/nuthatch/lang/Characters" = some m.cls := findClass_of_methodNamed Bd.named
  have hnm := (name_of_methodNamed Bd.named Bd.method).1
  have hlk : meth.locks = false := BodyLoose.notSynchronized Bd
  have X0 : Stand p l e ({ frames := 0, cells := 0, slots := 0, locals := 0 } : Room) s m #[(.int p0)] below meth c s₁ [] 0 0 := Stand.of_body Bd
  have e0 : s₁.heap = h0 := by rw [← hh, Bd.state]; rfl
  have N0 := Fr.nil n0
  obtain ⟨G, hG⟩ : ∃ G, G = own_G s (Q3 Z p0 h0 n0) ({ frames := 0, cells := 0, slots := 0, locals := 0 } : Room).cells ({ frames := 0, cells := 0, slots := 0, locals := 0 } : Room).slots := ⟨_, rfl⟩
  show own_Fin p e below (own_G s (Q3 Z p0 h0 n0) ({ frames := 0, cells := 0, slots := 0, locals := 0 } : Room).cells ({ frames := 0, cells := 0, slots := 0, locals := 0 } : Room).slots) (s₁.setTop (entryFrame m #[(.int p0)] 1))
  rw [← hG]
  refine own_to (fun _ kz => castTop (ef3 m p0) kz) ?_
  have q0 : (f3 p0) = (f3 p0) := rfl
  show own_Fin p e below G (s₁.setTop (mkF m 0 #[.val (.int p0)] []))
  refine own_to (fun _ kz => XS.iloadN X0.here hx rfl (hb hby d3_0) rfl  kz) ?_
  show own_Fin p e below G (s₁.setTop (mkF m 1 #[.val (.int p0)] [(.int p0)]))
  refine own_to (fun _ kz => XS.bipush X0.here hx rfl (hb hby d3_1) kz) ?_
  show own_Fin p e below G (s₁.setTop (mkF m 3 #[.val (.int p0)] [(.int (48 : Int32)), (.int p0)]))
  have K16 : ∀ (q_j16 : (f3 p0) = (f3_16 p0)), own_Fin p e below G (s₁.setTop (mkF m 16 #[.val (.int p0)] [])) := by
    intro q_j16
    refine own_to (fun _ kz => XS.iconst X0.here hx rfl (hb hby d3_16) kz) ?_
    show own_Fin p e below G (s₁.setTop (mkF m 17 #[.val (.int p0)] [(.int (0 : Int32))]))
    exact own_retN X0 hx hlk hG (t := .boolean) Bd.returns (by simp) (hb hby d3_17) (by decide) (by decide) ⟨(congrArg (fun z => some (Value.int z)) q_j16).symm, N0, e0⟩
  by_cases hc3 : p0 < (48 : Int32)
  · refine own_to (fun _ kz => XS.icmpYes X0.here hx rfl (pc0 := 3) (pc' := 16) rfl (hb hby d3_3) rfl (tlt hc3).1 (by decide) (by decide) kz) ?_
    have q3t := q0.trans (if_pos hc3)
    show own_Fin p e below G (s₁.setTop (mkF m 16 #[.val (.int p0)] []))
    exact K16 q3t
  · refine own_to (fun _ kz => XS.icmpNo X0.here hx rfl (hb hby d3_3) rfl (flt hc3).1 kz) ?_
    have q3f := q0.trans (if_neg hc3)
    show own_Fin p e below G (s₁.setTop (mkF m 6 #[.val (.int p0)] []))
    refine own_to (fun _ kz => XS.iloadN X0.here hx rfl (hb hby d3_6) rfl  kz) ?_
    show own_Fin p e below G (s₁.setTop (mkF m 7 #[.val (.int p0)] [(.int p0)]))
    refine own_to (fun _ kz => XS.bipush X0.here hx rfl (hb hby d3_7) kz) ?_
    show own_Fin p e below G (s₁.setTop (mkF m 9 #[.val (.int p0)] [(.int (57 : Int32)), (.int p0)]))
    by_cases hc9 : (57 : Int32) < p0
    · refine own_to (fun _ kz => XS.icmpYes X0.here hx rfl (pc0 := 9) (pc' := 16) rfl (hb hby d3_9) rfl (tlt hc9).2.2.1 (by decide) (by decide) kz) ?_
      have q9t := q3f.trans (if_pos hc9)
      show own_Fin p e below G (s₁.setTop (mkF m 16 #[.val (.int p0)] []))
      exact K16 q9t
    · refine own_to (fun _ kz => XS.icmpNo X0.here hx rfl (hb hby d3_9) rfl (flt hc9).2.2.1 kz) ?_
      have q9f := q3f.trans (if_neg hc9)
      show own_Fin p e below G (s₁.setTop (mkF m 12 #[.val (.int p0)] []))
      refine own_to (fun _ kz => XS.iconst X0.here hx rfl (hb hby d3_12) kz) ?_
      show own_Fin p e below G (s₁.setTop (mkF m 13 #[.val (.int p0)] [(.int (1 : Int32))]))
      refine own_to (fun _ kz => XS.goto X0.here hx rfl (pc0 := 13) (pc' := 17) rfl (hb hby d3_13) (by decide) (by decide) kz) ?_
      show own_Fin p e below G (s₁.setTop (mkF m 17 #[.val (.int p0)] [(.int (1 : Int32))]))
      exact own_retN X0 hx hlk hG (t := .boolean) Bd.returns (by simp) (hb hby d3_17) (by decide) (by decide) ⟨(congrArg (fun z => some (Value.int z)) q9f).symm, N0, e0⟩
theorem own_pd0 : parseMethodDescriptor "(C)Z" = some ⟨[.char], some .boolean⟩ := by decide +kernel
theorem d1_0 : decode prog_7_method_4_code 0 = .ok (.iload_n 0, 1) := by decide +kernel
theorem d1_1 : decode prog_7_method_4_code 1 = .ok (.invokestatic 7, 3) := by decide +kernel
theorem d1_4 : decode prog_7_method_4_code 4 = .ok (.ifCond .ne 16, 3) := by decide +kernel
theorem d1_7 : decode prog_7_method_4_code 7 = .ok (.iload_n 0, 1) := by decide +kernel
theorem d1_8 : decode prog_7_method_4_code 8 = .ok (.invokestatic 13, 3) := by decide +kernel
theorem d1_11 : decode prog_7_method_4_code 11 = .ok (.ifCond .ne 9, 3) := by decide +kernel
theorem d1_14 : decode prog_7_method_4_code 14 = .ok (.iload_n 0, 1) := by decide +kernel
theorem d1_15 : decode prog_7_method_4_code 15 = .ok (.bipush 95, 2) := by decide +kernel
theorem d1_17 : decode prog_7_method_4_code 17 = .ok (.if_icmp .ne 7, 3) := by decide +kernel
theorem d1_20 : decode prog_7_method_4_code 20 = .ok (.iconst 1, 1) := by decide +kernel
theorem d1_21 : decode prog_7_method_4_code 21 = .ok (.goto 4, 3) := by decide +kernel
theorem d1_24 : decode prog_7_method_4_code 24 = .ok (.iconst 0, 1) := by decide +kernel
theorem d1_25 : decode prog_7_method_4_code 25 = .ok (.ireturn, 1) := by decide +kernel
theorem ef1 (m : MethodId) (p0 : Int32) : entryFrame m #[(.int p0)] 1 = mkF m 0 #[.val (.int p0)] [] := by first | (simp [entryFrame, mkF, argsToLocals, Value.category]; done) | rfl
def f1_20 (p0 : Int32) : Int32 := (1 : Int32)
def f1 (p0 : Int32) : Int32 := if (f2 p0) = (0 : Int32) then (if (f3 p0) = (0 : Int32) then (if p0 = (95 : Int32) then (f1_20 p0) else (0 : Int32)) else (f1_20 p0)) else (f1_20 p0)
def Q1 (Z : State) (p0 : Int32) (h0 : Heap) (n0 : Nat) (v : Option Value) (h : Heap) (L : List Loc) : Prop := v = some (.int (f1 p0)) ∧ Fr n0 L ∧ h = h0
set_option maxRecDepth 65536 in
set_option maxHeartbeats 40000000 in
theorem rm1 (l : Launch) (Z : State) (a0 : Array Value) (hw : ∀ d ∈ tables_1, d.before a0 Z = true) (ws : List Jvm.Cond) (p0 : Int32) (h0 : Heap) (n0 : Nat) (Z0 : n0 ≤ h0.size) :
    MetFree l (⟨"com/example/nuthatch/nuthatch/lang/Characters", "isNamePart", "(C)Z"⟩ : MethodName) (head1 (Jvm.Cond.code (⟨"com/example/nuthatch/nuthatch/lang/Characters", "isNamePart", "(C)Z"⟩ : MethodName) prog_7_method_4_code 1 (some .boolean) :: ws) ({ frames := 1, cells := 0, slots := 0, locals := 12 } : Room)) (fun a U => a = #[(.int p0)] ∧ Z.Warmed39 U.vm ∧ U.heap = h0) (fun _ _ _ _ _ => True) (fun _ U o U' => ∃ v L, o = .returned v ∧ Q1 Z p0 h0 n0 v U'.heap L ∧ FrameEnd U o U' L ({ frames := 1, cells := 0, slots := 0, locals := 12 } : Room).cells ({ frames := 1, cells := 0, slots := 0, locals := 12 } : Room).slots) := by
  refine MetFree.of_bodySF (plainFor_of_name own_pn0) hisR ?_
  intro p e s m args below meth c s₁ Bd hml0 hP hK
  obtain ⟨rfl, hZ, hh⟩ := hP
  have hx := Bd.exec
  have hby := Bd.bytes
  have hml : c.maxLocals = 1 := hml0
  have hown : s.vm.findClass "com/example/nuthatch/nuthatch/lang/Characters" = some m.cls := findClass_of_methodNamed Bd.named
  have hnm := (name_of_methodNamed Bd.named Bd.method).1
  have hlk : meth.locks = false := BodyLoose.notSynchronized Bd
  have X0 : Stand p l e ({ frames := 1, cells := 0, slots := 0, locals := 12 } : Room) s m #[(.int p0)] below meth c s₁ [] 0 0 := Stand.of_body Bd
  have e0 : s₁.heap = h0 := by rw [← hh, Bd.state]; rfl
  have N0 := Fr.nil n0
  obtain ⟨G, hG⟩ : ∃ G, G = own_G s (Q1 Z p0 h0 n0) ({ frames := 1, cells := 0, slots := 0, locals := 12 } : Room).cells ({ frames := 1, cells := 0, slots := 0, locals := 12 } : Room).slots := ⟨_, rfl⟩
  show own_Fin p e below (own_G s (Q1 Z p0 h0 n0) ({ frames := 1, cells := 0, slots := 0, locals := 12 } : Room).cells ({ frames := 1, cells := 0, slots := 0, locals := 12 } : Room).slots) (s₁.setTop (entryFrame m #[(.int p0)] 1))
  rw [← hG]
  refine own_to (fun _ kz => castTop (ef1 m p0) kz) ?_
  have q0 : (f1 p0) = (f1 p0) := rfl
  show own_Fin p e below G (s₁.setTop (mkF m 0 #[.val (.int p0)] []))
  refine own_to (fun _ kz => XS.iloadN X0.here hx rfl (hb hby d1_0) rfl  kz) ?_
  show own_Fin p e below G (s₁.setTop (mkF m 1 #[.val (.int p0)] [(.int p0)]))
  obtain ⟨_, _, ⟨T1, L1, k1, n1⟩, -, X1, ⟨Lc1, hQ1, l1, y1, z1⟩, st1⟩ := Jvm.LawKit.callS X0 hx (y := (⟨"com/example/nuthatch/nuthatch/lang/Characters", "isLetter", "(C)Z"⟩ : MethodName)) hown (mvT hZ (hw _ (List.mem_of_getElem? (i := 5) rfl))) (mvT hZ (hw _ (List.mem_of_getElem? (i := 6) rfl))) (mvT hZ (hw _ (List.mem_of_getElem? (i := 3) rfl))) (mvT hZ (hw _ (List.mem_of_getElem? (i := 7) rfl))) (by decide) (backOf (W := 0) (rm2 l Z a0 hw [] p0 h0 n0 Z0) hZ (hw _ (List.mem_of_getElem? (i := 7) rfl)) (hw _ (List.mem_of_getElem? (i := 3) rfl)) (by decide) (by decide)) (g := (mkF m 1 #[.val (.int p0)] [(.int p0)])) rfl (by rw [hml]; rfl) (argsL := [(.int p0)]) (rest := []) (lenOf own_pd0 rfl) rfl (by show 2 * 0 + _ ≤ _; exact Nat.le_of_eq rfl) (hb hby d1_1) (fun _ _ => ⟨rfl, e0, (by decide : 0 + 0 ≤ _), (by decide : 0 + 0 ≤ _)⟩)
  dsimp only [Pt.U, Pt.locs, Pt.cells, Pt.slots] at X1 l1 y1 z1 st1 hQ1
  subst l1 y1 z1
  obtain ⟨rfl, N1q, e1⟩ := hQ1
  have N1 := Fr.app N0 N1q
  refine own_to st1 ?_
  show own_Fin p e below G (T1.setTop (mkF m 4 #[.val (.int p0)] [(.int (f2 p0))]))
  have K20 : ∀ (T_j20 : State) (locs_j20 : List Loc) (N_j20 : Fr n0 locs_j20) (X_j20 : Stand p l e ({ frames := 1, cells := 0, slots := 0, locals := 12 } : Room) s m #[(.int p0)] below meth c T_j20 locs_j20 0 0) (e_j20 : T_j20.heap = h0) (q_j20 : (f1 p0) = (f1_20 p0)), own_Fin p e below G (T_j20.setTop (mkF m 20 #[.val (.int p0)] [])) := by
    intro T_j20 locs_j20 N_j20 X_j20 e_j20 q_j20
    refine own_to (fun _ kz => XS.iconst X_j20.here hx rfl (hb hby d1_20) kz) ?_
    show own_Fin p e below G (T_j20.setTop (mkF m 21 #[.val (.int p0)] [(.int (1 : Int32))]))
    refine own_to (fun _ kz => XS.goto X_j20.here hx rfl (pc0 := 21) (pc' := 25) rfl (hb hby d1_21) (by decide) (by decide) kz) ?_
    show own_Fin p e below G (T_j20.setTop (mkF m 25 #[.val (.int p0)] [(.int (1 : Int32))]))
    exact own_retN X_j20 hx hlk hG (t := .boolean) Bd.returns (by simp) (hb hby d1_25) (by decide) (by decide) ⟨(congrArg (fun z => some (Value.int z)) q_j20).symm, N_j20, e_j20⟩
  by_cases hc4 : (f2 p0) = (0 : Int32)
  · refine own_to (fun _ kz => XS.ifNo X1.here hx rfl (hb hby d1_4) rfl ((if0 _ _).trans (teq hc4).2) kz) ?_
    have q4t := q0.trans (if_pos hc4)
    show own_Fin p e below G (T1.setTop (mkF m 7 #[.val (.int p0)] []))
    refine own_to (fun _ kz => XS.iloadN X1.here hx rfl (hb hby d1_7) rfl  kz) ?_
    show own_Fin p e below G (T1.setTop (mkF m 8 #[.val (.int p0)] [(.int p0)]))
    obtain ⟨_, _, ⟨T8, L8, k8, n8⟩, -, X8, ⟨Lc8, hQ8, l8, y8, z8⟩, st8⟩ := Jvm.LawKit.callS X1 hx (y := (⟨"com/example/nuthatch/nuthatch/lang/Characters", "isDigit", "(C)Z"⟩ : MethodName)) hown (mvT hZ (hw _ (List.mem_of_getElem? (i := 8) rfl))) (mvT hZ (hw _ (List.mem_of_getElem? (i := 9) rfl))) (mvT hZ (hw _ (List.mem_of_getElem? (i := 3) rfl))) (mvT hZ (hw _ (List.mem_of_getElem? (i := 10) rfl))) (by decide) (backOf (W := 0) (rm3 l Z a0 hw [] p0 h0 n0 Z0) hZ (hw _ (List.mem_of_getElem? (i := 10) rfl)) (hw _ (List.mem_of_getElem? (i := 3) rfl)) (by decide) (by decide)) (g := (mkF m 8 #[.val (.int p0)] [(.int p0)])) rfl (by rw [hml]; rfl) (argsL := [(.int p0)]) (rest := []) (lenOf own_pd0 rfl) rfl (by show 2 * 0 + _ ≤ _; exact Nat.le_of_eq rfl) (hb hby d1_8) (fun _ _ => ⟨rfl, e1, (by decide : 0 + 0 ≤ _), (by decide : 0 + 0 ≤ _)⟩)
    dsimp only [Pt.U, Pt.locs, Pt.cells, Pt.slots] at X8 l8 y8 z8 st8 hQ8
    subst l8 y8 z8
    obtain ⟨rfl, N8q, e8⟩ := hQ8
    have N8 := Fr.app N1 N8q
    refine own_to st8 ?_
    show own_Fin p e below G (T8.setTop (mkF m 11 #[.val (.int p0)] [(.int (f3 p0))]))
    by_cases hc11 : (f3 p0) = (0 : Int32)
    · refine own_to (fun _ kz => XS.ifNo X8.here hx rfl (hb hby d1_11) rfl ((if0 _ _).trans (teq hc11).2) kz) ?_
      have q11t := q4t.trans (if_pos hc11)
      show own_Fin p e below G (T8.setTop (mkF m 14 #[.val (.int p0)] []))
      refine own_to (fun _ kz => XS.iloadN X8.here hx rfl (hb hby d1_14) rfl  kz) ?_
      show own_Fin p e below G (T8.setTop (mkF m 15 #[.val (.int p0)] [(.int p0)]))
      refine own_to (fun _ kz => XS.bipush X8.here hx rfl (hb hby d1_15) kz) ?_
      show own_Fin p e below G (T8.setTop (mkF m 17 #[.val (.int p0)] [(.int (95 : Int32)), (.int p0)]))
      by_cases hc17 : p0 = (95 : Int32)
      · refine own_to (fun _ kz => XS.icmpNo X8.here hx rfl (hb hby d1_17) rfl (teq hc17).2 kz) ?_
        have q17t := q11t.trans (if_pos hc17)
        show own_Fin p e below G (T8.setTop (mkF m 20 #[.val (.int p0)] []))
        exact K20 _ _ N8 X8 e8 q17t
      · refine own_to (fun _ kz => XS.icmpYes X8.here hx rfl (pc0 := 17) (pc' := 24) rfl (hb hby d1_17) rfl (feq hc17).2 (by decide) (by decide) kz) ?_
        have q17f := q11t.trans (if_neg hc17)
        show own_Fin p e below G (T8.setTop (mkF m 24 #[.val (.int p0)] []))
        refine own_to (fun _ kz => XS.iconst X8.here hx rfl (hb hby d1_24) kz) ?_
        show own_Fin p e below G (T8.setTop (mkF m 25 #[.val (.int p0)] [(.int (0 : Int32))]))
        exact own_retN X8 hx hlk hG (t := .boolean) Bd.returns (by simp) (hb hby d1_25) (by decide) (by decide) ⟨(congrArg (fun z => some (Value.int z)) q17f).symm, N8, e8⟩
    · refine own_to (fun _ kz => XS.ifYes X8.here hx rfl (pc0 := 11) (pc' := 20) rfl (hb hby d1_11) rfl ((if0 _ _).trans (feq hc11).2) (by decide) (by decide) kz) ?_
      have q11f := q4t.trans (if_neg hc11)
      show own_Fin p e below G (T8.setTop (mkF m 20 #[.val (.int p0)] []))
      exact K20 _ _ N8 X8 e8 q11f
  · refine own_to (fun _ kz => XS.ifYes X1.here hx rfl (pc0 := 4) (pc' := 20) rfl (hb hby d1_4) rfl ((if0 _ _).trans (feq hc4).2) (by decide) (by decide) kz) ?_
    have q4f := q0.trans (if_neg hc4)
    show own_Fin p e below G (T1.setTop (mkF m 20 #[.val (.int p0)] []))
    exact K20 _ _ N1 X1 e1 q4f
theorem own_pn1 : plainName "com/example/nuthatch/nuthatch/lang/CharactersIsNamePartPinLaw" = true := by first | (simp [plainName, overriddenIn]; done) | decide +kernel
theorem d4_0 : decode method_2_code 0 = .ok (.iload_n 0, 1) := by decide +kernel
theorem d4_1 : decode method_2_code 1 = .ok (.bipush 48, 2) := by decide +kernel
theorem d4_3 : decode method_2_code 3 = .ok (.if_icmp .ge 5, 3) := by decide +kernel
theorem d4_6 : decode method_2_code 6 = .ok (.iconst 0, 1) := by decide +kernel
theorem d4_7 : decode method_2_code 7 = .ok (.ireturn, 1) := by decide +kernel
theorem d4_8 : decode method_2_code 8 = .ok (.iload_n 0, 1) := by decide +kernel
theorem d4_9 : decode method_2_code 9 = .ok (.bipush 57, 2) := by decide +kernel
theorem d4_11 : decode method_2_code 11 = .ok (.if_icmp .gt 5, 3) := by decide +kernel
theorem d4_14 : decode method_2_code 14 = .ok (.iconst 1, 1) := by decide +kernel
theorem d4_15 : decode method_2_code 15 = .ok (.ireturn, 1) := by decide +kernel
theorem d4_16 : decode method_2_code 16 = .ok (.iload_n 0, 1) := by decide +kernel
theorem d4_17 : decode method_2_code 17 = .ok (.bipush 65, 2) := by decide +kernel
theorem d4_19 : decode method_2_code 19 = .ok (.if_icmp .ge 5, 3) := by decide +kernel
theorem d4_22 : decode method_2_code 22 = .ok (.iconst 0, 1) := by decide +kernel
theorem d4_23 : decode method_2_code 23 = .ok (.ireturn, 1) := by decide +kernel
theorem d4_24 : decode method_2_code 24 = .ok (.iload_n 0, 1) := by decide +kernel
theorem d4_25 : decode method_2_code 25 = .ok (.bipush 90, 2) := by decide +kernel
theorem d4_27 : decode method_2_code 27 = .ok (.if_icmp .gt 5, 3) := by decide +kernel
theorem d4_30 : decode method_2_code 30 = .ok (.iconst 1, 1) := by decide +kernel
theorem d4_31 : decode method_2_code 31 = .ok (.ireturn, 1) := by decide +kernel
theorem d4_32 : decode method_2_code 32 = .ok (.iload_n 0, 1) := by decide +kernel
theorem d4_33 : decode method_2_code 33 = .ok (.bipush 95, 2) := by decide +kernel
theorem d4_35 : decode method_2_code 35 = .ok (.if_icmp .ne 5, 3) := by decide +kernel
theorem d4_38 : decode method_2_code 38 = .ok (.iconst 1, 1) := by decide +kernel
theorem d4_39 : decode method_2_code 39 = .ok (.ireturn, 1) := by decide +kernel
theorem d4_40 : decode method_2_code 40 = .ok (.iload_n 0, 1) := by decide +kernel
theorem d4_41 : decode method_2_code 41 = .ok (.bipush 97, 2) := by decide +kernel
theorem d4_43 : decode method_2_code 43 = .ok (.if_icmp .ge 5, 3) := by decide +kernel
theorem d4_46 : decode method_2_code 46 = .ok (.iconst 0, 1) := by decide +kernel
theorem d4_47 : decode method_2_code 47 = .ok (.ireturn, 1) := by decide +kernel
theorem d4_48 : decode method_2_code 48 = .ok (.iload_n 0, 1) := by decide +kernel
theorem d4_49 : decode method_2_code 49 = .ok (.bipush 122, 2) := by decide +kernel
theorem d4_51 : decode method_2_code 51 = .ok (.if_icmp .gt 5, 3) := by decide +kernel
theorem d4_54 : decode method_2_code 54 = .ok (.iconst 1, 1) := by decide +kernel
theorem d4_55 : decode method_2_code 55 = .ok (.ireturn, 1) := by decide +kernel
theorem d4_56 : decode method_2_code 56 = .ok (.iconst 0, 1) := by decide +kernel
theorem d4_57 : decode method_2_code 57 = .ok (.ireturn, 1) := by decide +kernel
theorem ef4 (m : MethodId) (p0 : Int32) : entryFrame m #[(.int p0)] 1 = mkF m 0 #[.val (.int p0)] [] := by first | (simp [entryFrame, mkF, argsToLocals, Value.category]; done) | rfl
def f4 (p0 : Int32) : Int32 := if p0 < (48 : Int32) then (0 : Int32) else if (57 : Int32) < p0 then (if p0 < (65 : Int32) then (0 : Int32) else if (90 : Int32) < p0 then (if p0 = (95 : Int32) then (1 : Int32) else if p0 < (97 : Int32) then (0 : Int32) else if (122 : Int32) < p0 then (0 : Int32) else (1 : Int32)) else (1 : Int32)) else (1 : Int32)
def Q4 (Z : State) (p0 : Int32) (h0 : Heap) (n0 : Nat) (v : Option Value) (h : Heap) (L : List Loc) : Prop := v = some (.int (f4 p0)) ∧ Fr n0 L ∧ h = h0
set_option maxRecDepth 65536 in
set_option maxHeartbeats 40000000 in
theorem rm4 (l : Launch) (Z : State) (a0 : Array Value) (hw : ∀ d ∈ tables_1, d.before a0 Z = true) (ws : List Jvm.Cond) (p0 : Int32) (h0 : Heap) (n0 : Nat) (Z0 : n0 ≤ h0.size) :
    MetFree l (⟨"com/example/nuthatch/nuthatch/lang/CharactersIsNamePartPinLaw", "reference", "(I)Z"⟩ : MethodName) (head1 (Jvm.Cond.code (⟨"com/example/nuthatch/nuthatch/lang/CharactersIsNamePartPinLaw", "reference", "(I)Z"⟩ : MethodName) method_2_code 1 (some .boolean) :: ws) ({ frames := 0, cells := 0, slots := 0, locals := 0 } : Room)) (fun a U => a = #[(.int p0)] ∧ Z.Warmed39 U.vm ∧ U.heap = h0) (fun _ _ _ _ _ => True) (fun _ U o U' => ∃ v L, o = .returned v ∧ Q4 Z p0 h0 n0 v U'.heap L ∧ FrameEnd U o U' L ({ frames := 0, cells := 0, slots := 0, locals := 0 } : Room).cells ({ frames := 0, cells := 0, slots := 0, locals := 0 } : Room).slots) := by
  refine MetFree.of_bodySF (plainFor_of_name own_pn1) hisR ?_
  intro p e s m args below meth c s₁ Bd hml0 hP hK
  obtain ⟨rfl, hZ, hh⟩ := hP
  have hx := Bd.exec
  have hby := Bd.bytes
  have hml : c.maxLocals = 1 := hml0
  have hown : s.vm.findClass "com/example/nuthatch/nuthatch/lang/CharactersIsNamePartPinLaw" = some m.cls := findClass_of_methodNamed Bd.named
  have hnm := (name_of_methodNamed Bd.named Bd.method).1
  have hlk : meth.locks = false := BodyLoose.notSynchronized Bd
  have X0 : Stand p l e ({ frames := 0, cells := 0, slots := 0, locals := 0 } : Room) s m #[(.int p0)] below meth c s₁ [] 0 0 := Stand.of_body Bd
  have e0 : s₁.heap = h0 := by rw [← hh, Bd.state]; rfl
  have N0 := Fr.nil n0
  obtain ⟨G, hG⟩ : ∃ G, G = own_G s (Q4 Z p0 h0 n0) ({ frames := 0, cells := 0, slots := 0, locals := 0 } : Room).cells ({ frames := 0, cells := 0, slots := 0, locals := 0 } : Room).slots := ⟨_, rfl⟩
  show own_Fin p e below (own_G s (Q4 Z p0 h0 n0) ({ frames := 0, cells := 0, slots := 0, locals := 0 } : Room).cells ({ frames := 0, cells := 0, slots := 0, locals := 0 } : Room).slots) (s₁.setTop (entryFrame m #[(.int p0)] 1))
  rw [← hG]
  refine own_to (fun _ kz => castTop (ef4 m p0) kz) ?_
  have q0 : (f4 p0) = (f4 p0) := rfl
  show own_Fin p e below G (s₁.setTop (mkF m 0 #[.val (.int p0)] []))
  refine own_to (fun _ kz => XS.iloadN X0.here hx rfl (hb hby d4_0) rfl  kz) ?_
  show own_Fin p e below G (s₁.setTop (mkF m 1 #[.val (.int p0)] [(.int p0)]))
  refine own_to (fun _ kz => XS.bipush X0.here hx rfl (hb hby d4_1) kz) ?_
  show own_Fin p e below G (s₁.setTop (mkF m 3 #[.val (.int p0)] [(.int (48 : Int32)), (.int p0)]))
  by_cases hc3 : p0 < (48 : Int32)
  · refine own_to (fun _ kz => XS.icmpNo X0.here hx rfl (hb hby d4_3) rfl (tlt hc3).2.1 kz) ?_
    have q3t := q0.trans (if_pos hc3)
    show own_Fin p e below G (s₁.setTop (mkF m 6 #[.val (.int p0)] []))
    refine own_to (fun _ kz => XS.iconst X0.here hx rfl (hb hby d4_6) kz) ?_
    show own_Fin p e below G (s₁.setTop (mkF m 7 #[.val (.int p0)] [(.int (0 : Int32))]))
    exact own_retN X0 hx hlk hG (t := .boolean) Bd.returns (by simp) (hb hby d4_7) (by decide) (by decide) ⟨(congrArg (fun z => some (Value.int z)) q3t).symm, N0, e0⟩
  · refine own_to (fun _ kz => XS.icmpYes X0.here hx rfl (pc0 := 3) (pc' := 8) rfl (hb hby d4_3) rfl (flt hc3).2.1 (by decide) (by decide) kz) ?_
    have q3f := q0.trans (if_neg hc3)
    show own_Fin p e below G (s₁.setTop (mkF m 8 #[.val (.int p0)] []))
    refine own_to (fun _ kz => XS.iloadN X0.here hx rfl (hb hby d4_8) rfl  kz) ?_
    show own_Fin p e below G (s₁.setTop (mkF m 9 #[.val (.int p0)] [(.int p0)]))
    refine own_to (fun _ kz => XS.bipush X0.here hx rfl (hb hby d4_9) kz) ?_
    show own_Fin p e below G (s₁.setTop (mkF m 11 #[.val (.int p0)] [(.int (57 : Int32)), (.int p0)]))
    by_cases hc11 : (57 : Int32) < p0
    · refine own_to (fun _ kz => XS.icmpYes X0.here hx rfl (pc0 := 11) (pc' := 16) rfl (hb hby d4_11) rfl (tlt hc11).2.2.1 (by decide) (by decide) kz) ?_
      have q11t := q3f.trans (if_pos hc11)
      show own_Fin p e below G (s₁.setTop (mkF m 16 #[.val (.int p0)] []))
      refine own_to (fun _ kz => XS.iloadN X0.here hx rfl (hb hby d4_16) rfl  kz) ?_
      show own_Fin p e below G (s₁.setTop (mkF m 17 #[.val (.int p0)] [(.int p0)]))
      refine own_to (fun _ kz => XS.bipush X0.here hx rfl (hb hby d4_17) kz) ?_
      show own_Fin p e below G (s₁.setTop (mkF m 19 #[.val (.int p0)] [(.int (65 : Int32)), (.int p0)]))
      by_cases hc19 : p0 < (65 : Int32)
      · refine own_to (fun _ kz => XS.icmpNo X0.here hx rfl (hb hby d4_19) rfl (tlt hc19).2.1 kz) ?_
        have q19t := q11t.trans (if_pos hc19)
        show own_Fin p e below G (s₁.setTop (mkF m 22 #[.val (.int p0)] []))
        refine own_to (fun _ kz => XS.iconst X0.here hx rfl (hb hby d4_22) kz) ?_
        show own_Fin p e below G (s₁.setTop (mkF m 23 #[.val (.int p0)] [(.int (0 : Int32))]))
        exact own_retN X0 hx hlk hG (t := .boolean) Bd.returns (by simp) (hb hby d4_23) (by decide) (by decide) ⟨(congrArg (fun z => some (Value.int z)) q19t).symm, N0, e0⟩
      · refine own_to (fun _ kz => XS.icmpYes X0.here hx rfl (pc0 := 19) (pc' := 24) rfl (hb hby d4_19) rfl (flt hc19).2.1 (by decide) (by decide) kz) ?_
        have q19f := q11t.trans (if_neg hc19)
        show own_Fin p e below G (s₁.setTop (mkF m 24 #[.val (.int p0)] []))
        refine own_to (fun _ kz => XS.iloadN X0.here hx rfl (hb hby d4_24) rfl  kz) ?_
        show own_Fin p e below G (s₁.setTop (mkF m 25 #[.val (.int p0)] [(.int p0)]))
        refine own_to (fun _ kz => XS.bipush X0.here hx rfl (hb hby d4_25) kz) ?_
        show own_Fin p e below G (s₁.setTop (mkF m 27 #[.val (.int p0)] [(.int (90 : Int32)), (.int p0)]))
        by_cases hc27 : (90 : Int32) < p0
        · refine own_to (fun _ kz => XS.icmpYes X0.here hx rfl (pc0 := 27) (pc' := 32) rfl (hb hby d4_27) rfl (tlt hc27).2.2.1 (by decide) (by decide) kz) ?_
          have q27t := q19f.trans (if_pos hc27)
          show own_Fin p e below G (s₁.setTop (mkF m 32 #[.val (.int p0)] []))
          refine own_to (fun _ kz => XS.iloadN X0.here hx rfl (hb hby d4_32) rfl  kz) ?_
          show own_Fin p e below G (s₁.setTop (mkF m 33 #[.val (.int p0)] [(.int p0)]))
          refine own_to (fun _ kz => XS.bipush X0.here hx rfl (hb hby d4_33) kz) ?_
          show own_Fin p e below G (s₁.setTop (mkF m 35 #[.val (.int p0)] [(.int (95 : Int32)), (.int p0)]))
          by_cases hc35 : p0 = (95 : Int32)
          · refine own_to (fun _ kz => XS.icmpNo X0.here hx rfl (hb hby d4_35) rfl (teq hc35).2 kz) ?_
            have q35t := q27t.trans (if_pos hc35)
            show own_Fin p e below G (s₁.setTop (mkF m 38 #[.val (.int p0)] []))
            refine own_to (fun _ kz => XS.iconst X0.here hx rfl (hb hby d4_38) kz) ?_
            show own_Fin p e below G (s₁.setTop (mkF m 39 #[.val (.int p0)] [(.int (1 : Int32))]))
            exact own_retN X0 hx hlk hG (t := .boolean) Bd.returns (by simp) (hb hby d4_39) (by decide) (by decide) ⟨(congrArg (fun z => some (Value.int z)) q35t).symm, N0, e0⟩
          · refine own_to (fun _ kz => XS.icmpYes X0.here hx rfl (pc0 := 35) (pc' := 40) rfl (hb hby d4_35) rfl (feq hc35).2 (by decide) (by decide) kz) ?_
            have q35f := q27t.trans (if_neg hc35)
            show own_Fin p e below G (s₁.setTop (mkF m 40 #[.val (.int p0)] []))
            refine own_to (fun _ kz => XS.iloadN X0.here hx rfl (hb hby d4_40) rfl  kz) ?_
            show own_Fin p e below G (s₁.setTop (mkF m 41 #[.val (.int p0)] [(.int p0)]))
            refine own_to (fun _ kz => XS.bipush X0.here hx rfl (hb hby d4_41) kz) ?_
            show own_Fin p e below G (s₁.setTop (mkF m 43 #[.val (.int p0)] [(.int (97 : Int32)), (.int p0)]))
            by_cases hc43 : p0 < (97 : Int32)
            · refine own_to (fun _ kz => XS.icmpNo X0.here hx rfl (hb hby d4_43) rfl (tlt hc43).2.1 kz) ?_
              have q43t := q35f.trans (if_pos hc43)
              show own_Fin p e below G (s₁.setTop (mkF m 46 #[.val (.int p0)] []))
              refine own_to (fun _ kz => XS.iconst X0.here hx rfl (hb hby d4_46) kz) ?_
              show own_Fin p e below G (s₁.setTop (mkF m 47 #[.val (.int p0)] [(.int (0 : Int32))]))
              exact own_retN X0 hx hlk hG (t := .boolean) Bd.returns (by simp) (hb hby d4_47) (by decide) (by decide) ⟨(congrArg (fun z => some (Value.int z)) q43t).symm, N0, e0⟩
            · refine own_to (fun _ kz => XS.icmpYes X0.here hx rfl (pc0 := 43) (pc' := 48) rfl (hb hby d4_43) rfl (flt hc43).2.1 (by decide) (by decide) kz) ?_
              have q43f := q35f.trans (if_neg hc43)
              show own_Fin p e below G (s₁.setTop (mkF m 48 #[.val (.int p0)] []))
              refine own_to (fun _ kz => XS.iloadN X0.here hx rfl (hb hby d4_48) rfl  kz) ?_
              show own_Fin p e below G (s₁.setTop (mkF m 49 #[.val (.int p0)] [(.int p0)]))
              refine own_to (fun _ kz => XS.bipush X0.here hx rfl (hb hby d4_49) kz) ?_
              show own_Fin p e below G (s₁.setTop (mkF m 51 #[.val (.int p0)] [(.int (122 : Int32)), (.int p0)]))
              by_cases hc51 : (122 : Int32) < p0
              · refine own_to (fun _ kz => XS.icmpYes X0.here hx rfl (pc0 := 51) (pc' := 56) rfl (hb hby d4_51) rfl (tlt hc51).2.2.1 (by decide) (by decide) kz) ?_
                have q51t := q43f.trans (if_pos hc51)
                show own_Fin p e below G (s₁.setTop (mkF m 56 #[.val (.int p0)] []))
                refine own_to (fun _ kz => XS.iconst X0.here hx rfl (hb hby d4_56) kz) ?_
                show own_Fin p e below G (s₁.setTop (mkF m 57 #[.val (.int p0)] [(.int (0 : Int32))]))
                exact own_retN X0 hx hlk hG (t := .boolean) Bd.returns (by simp) (hb hby d4_57) (by decide) (by decide) ⟨(congrArg (fun z => some (Value.int z)) q51t).symm, N0, e0⟩
              · refine own_to (fun _ kz => XS.icmpNo X0.here hx rfl (hb hby d4_51) rfl (flt hc51).2.2.1 kz) ?_
                have q51f := q43f.trans (if_neg hc51)
                show own_Fin p e below G (s₁.setTop (mkF m 54 #[.val (.int p0)] []))
                refine own_to (fun _ kz => XS.iconst X0.here hx rfl (hb hby d4_54) kz) ?_
                show own_Fin p e below G (s₁.setTop (mkF m 55 #[.val (.int p0)] [(.int (1 : Int32))]))
                exact own_retN X0 hx hlk hG (t := .boolean) Bd.returns (by simp) (hb hby d4_55) (by decide) (by decide) ⟨(congrArg (fun z => some (Value.int z)) q51f).symm, N0, e0⟩
        · refine own_to (fun _ kz => XS.icmpNo X0.here hx rfl (hb hby d4_27) rfl (flt hc27).2.2.1 kz) ?_
          have q27f := q19f.trans (if_neg hc27)
          show own_Fin p e below G (s₁.setTop (mkF m 30 #[.val (.int p0)] []))
          refine own_to (fun _ kz => XS.iconst X0.here hx rfl (hb hby d4_30) kz) ?_
          show own_Fin p e below G (s₁.setTop (mkF m 31 #[.val (.int p0)] [(.int (1 : Int32))]))
          exact own_retN X0 hx hlk hG (t := .boolean) Bd.returns (by simp) (hb hby d4_31) (by decide) (by decide) ⟨(congrArg (fun z => some (Value.int z)) q27f).symm, N0, e0⟩
    · refine own_to (fun _ kz => XS.icmpNo X0.here hx rfl (hb hby d4_11) rfl (flt hc11).2.2.1 kz) ?_
      have q11f := q3f.trans (if_neg hc11)
      show own_Fin p e below G (s₁.setTop (mkF m 14 #[.val (.int p0)] []))
      refine own_to (fun _ kz => XS.iconst X0.here hx rfl (hb hby d4_14) kz) ?_
      show own_Fin p e below G (s₁.setTop (mkF m 15 #[.val (.int p0)] [(.int (1 : Int32))]))
      exact own_retN X0 hx hlk hG (t := .boolean) Bd.returns (by simp) (hb hby d4_15) (by decide) (by decide) ⟨(congrArg (fun z => some (Value.int z)) q11f).symm, N0, e0⟩
theorem own_pd1 : parseMethodDescriptor "(I)Z" = some ⟨[.int], some .boolean⟩ := by decide +kernel
theorem ef0 (m : MethodId) (p0 : Int32) : entryFrame m #[(.int p0)] maxLocals = mkF m 0 #[.val (.int p0), .unset, .unset] [] := by first | (simp [entryFrame, mkF, argsToLocals, Value.category, maxLocals]; done) | rfl
def f0_5 (p0 : Int32) (v1_5 : Int32) : Int32 := if (f1 (v1_5.toUInt32.toUInt16.toUInt32.toInt32)) = (f4 v1_5) then (1 : Int32) else (0 : Int32)
def f0 (p0 : Int32) : Int32 := (f0_5 p0 (p0 &&& (65535 : Int32)))
def Q0 (Z : State) (p0 : Int32) (h0 : Heap) (n0 : Nat) (v : Option Value) (h : Heap) (L : List Loc) : Prop := v = some (.int (f0 p0)) ∧ Fr n0 L ∧ h = h0
set_option maxRecDepth 65536 in
set_option maxHeartbeats 40000000 in
theorem rm0 (l : Launch) (Z : State) (a0 : Array Value) (hw : ∀ d ∈ tables_1, d.before a0 Z = true) (ws : List Jvm.Cond) (p0 : Int32) (h0 : Heap) (n0 : Nat) (Z0 : n0 ≤ h0.size) :
    MetFree l x (head1 (Jvm.Cond.code x code maxLocals ret :: ws) room_1) (fun a U => a = #[(.int p0)] ∧ Z.Warmed39 U.vm ∧ U.heap = h0) (fun _ _ _ _ _ => True) (fun _ U o U' => ∃ v L, o = .returned v ∧ Q0 Z p0 h0 n0 v U'.heap L ∧ FrameEnd U o U' L room_1.cells room_1.slots) := by
  refine MetFree.of_bodySF (plainFor_of_name own_pn1) hisR ?_
  intro p e s m args below meth c s₁ Bd hml0 hP hK
  obtain ⟨rfl, hZ, hh⟩ := hP
  have hx := Bd.exec
  have hby := Bd.bytes
  have hml : c.maxLocals = 3 := hml0
  have hown : s.vm.findClass "com/example/nuthatch/nuthatch/lang/CharactersIsNamePartPinLaw" = some m.cls := findClass_of_methodNamed Bd.named
  have hnm := (name_of_methodNamed Bd.named Bd.method).1
  have hlk : meth.locks = false := BodyLoose.notSynchronized Bd
  have X0 : Stand p l e room_1 s m #[(.int p0)] below meth c s₁ [] 0 0 := Stand.of_body Bd
  have e0 : s₁.heap = h0 := by rw [← hh, Bd.state]; rfl
  have N0 := Fr.nil n0
  obtain ⟨G, hG⟩ : ∃ G, G = own_G s (Q0 Z p0 h0 n0) room_1.cells room_1.slots := ⟨_, rfl⟩
  show own_Fin p e below (own_G s (Q0 Z p0 h0 n0) room_1.cells room_1.slots) (s₁.setTop (entryFrame m #[(.int p0)] maxLocals))
  rw [← hG]
  refine own_to (fun _ kz => castTop (ef0 m p0) kz) ?_
  have q0 : (f0 p0) = (f0 p0) := rfl
  show own_Fin p e below G (s₁.setTop (mkF m 0 #[.val (.int p0), .unset, .unset] []))
  refine own_to (fun _ kz => XS.iloadN X0.here hx rfl (hb hby at_0) rfl  kz) ?_
  show own_Fin p e below G (s₁.setTop (mkF m 1 #[.val (.int p0), .unset, .unset] [(.int p0)]))
  refine own_to (fun _ kz => X0.ldcInt hx hown (mvT hZ (hw _ (List.mem_of_getElem? (i := 0) rfl))) (g := (mkF m 1 #[.val (.int p0), .unset, .unset] [(.int p0)])) rfl (hb hby at_1) _ kz) ?_
  show own_Fin p e below G (s₁.setTop (mkF m 3 #[.val (.int p0), .unset, .unset] [(.int (65535 : Int32)), (.int p0)]))
  refine own_to (fun _ kz => XS.iand X0.here hx rfl (hb hby at_3) rfl kz) ?_
  show own_Fin p e below G (s₁.setTop (mkF m 4 #[.val (.int p0), .unset, .unset] [(.int (p0 &&& (65535 : Int32)))]))
  refine own_to (fun _ kz => XS.istoreN X0.here hx rfl (hb hby at_4) rfl (l' := #[.val (.int p0), .val (.int (p0 &&& (65535 : Int32))), .unset]) rfl kz) ?_
  show own_Fin p e below G (s₁.setTop (mkF m 5 #[.val (.int p0), .val (.int (p0 &&& (65535 : Int32))), .unset] []))
  have K5 : ∀ (v1_5 : Int32) (q_j5 : (f0 p0) = (f0_5 p0 v1_5)), own_Fin p e below G (s₁.setTop (mkF m 5 #[.val (.int p0), .val (.int v1_5), .unset] [])) := by
    intro v1_5 q_j5
    refine own_to (fun _ kz => XS.iloadN X0.here hx rfl (hb hby at_5) rfl  kz) ?_
    show own_Fin p e below G (s₁.setTop (mkF m 6 #[.val (.int p0), .val (.int v1_5), .unset] [(.int v1_5)]))
    refine own_to (fun _ kz => XS.i2c X0.here hx rfl (hb hby at_6) rfl kz) ?_
    show own_Fin p e below G (s₁.setTop (mkF m 7 #[.val (.int p0), .val (.int v1_5), .unset] [(.int (v1_5.toUInt32.toUInt16.toUInt32.toInt32))]))
    refine own_to (fun _ kz => XS.istoreN X0.here hx rfl (hb hby at_7) rfl (l' := #[.val (.int p0), .val (.int v1_5), .val (.int (v1_5.toUInt32.toUInt16.toUInt32.toInt32))]) rfl kz) ?_
    show own_Fin p e below G (s₁.setTop (mkF m 8 #[.val (.int p0), .val (.int v1_5), .val (.int (v1_5.toUInt32.toUInt16.toUInt32.toInt32))] []))
    refine own_to (fun _ kz => XS.iloadN X0.here hx rfl (hb hby at_8) rfl  kz) ?_
    show own_Fin p e below G (s₁.setTop (mkF m 9 #[.val (.int p0), .val (.int v1_5), .val (.int (v1_5.toUInt32.toUInt16.toUInt32.toInt32))] [(.int (v1_5.toUInt32.toUInt16.toUInt32.toInt32))]))
    obtain ⟨_, _, ⟨T9, L9, k9, n9⟩, -, X9, ⟨Lc9, hQ9, l9, y9, z9⟩, st9⟩ := Jvm.LawKit.callS X0 hx (y := (⟨"com/example/nuthatch/nuthatch/lang/Characters", "isNamePart", "(C)Z"⟩ : MethodName)) hown (mvT hZ (hw _ (List.mem_of_getElem? (i := 1) rfl))) (mvT hZ (hw _ (List.mem_of_getElem? (i := 2) rfl))) (mvT hZ (hw _ (List.mem_of_getElem? (i := 3) rfl))) (mvT hZ (hw _ (List.mem_of_getElem? (i := 4) rfl))) (by decide) (backOf (W := 0) (rm1 l Z a0 hw [] (v1_5.toUInt32.toUInt16.toUInt32.toInt32) h0 n0 Z0) hZ (hw _ (List.mem_of_getElem? (i := 4) rfl)) (hw _ (List.mem_of_getElem? (i := 3) rfl)) (by decide) (by decide)) (g := (mkF m 9 #[.val (.int p0), .val (.int v1_5), .val (.int (v1_5.toUInt32.toUInt16.toUInt32.toInt32))] [(.int (v1_5.toUInt32.toUInt16.toUInt32.toInt32))])) rfl (by rw [hml]; rfl) (argsL := [(.int (v1_5.toUInt32.toUInt16.toUInt32.toInt32))]) (rest := []) (lenOf own_pd0 rfl) rfl (by show 2 * 0 + _ ≤ _; exact Nat.le_of_eq rfl) (hb hby at_9) (fun _ _ => ⟨rfl, e0, (by decide : 0 + 0 ≤ _), (by decide : 0 + 0 ≤ _)⟩)
    dsimp only [Pt.U, Pt.locs, Pt.cells, Pt.slots] at X9 l9 y9 z9 st9 hQ9
    subst l9 y9 z9
    obtain ⟨rfl, N9q, e9⟩ := hQ9
    have N9 := Fr.app N0 N9q
    refine own_to st9 ?_
    show own_Fin p e below G (T9.setTop (mkF m 12 #[.val (.int p0), .val (.int v1_5), .val (.int (v1_5.toUInt32.toUInt16.toUInt32.toInt32))] [(.int (f1 (v1_5.toUInt32.toUInt16.toUInt32.toInt32)))]))
    refine own_to (fun _ kz => XS.iloadN X9.here hx rfl (hb hby at_12) rfl  kz) ?_
    show own_Fin p e below G (T9.setTop (mkF m 13 #[.val (.int p0), .val (.int v1_5), .val (.int (v1_5.toUInt32.toUInt16.toUInt32.toInt32))] [(.int v1_5), (.int (f1 (v1_5.toUInt32.toUInt16.toUInt32.toInt32)))]))
    obtain ⟨_, _, ⟨T13, L13, k13, n13⟩, -, X13, ⟨Lc13, hQ13, l13, y13, z13⟩, st13⟩ := Jvm.LawKit.callS X9 hx (y := (⟨"com/example/nuthatch/nuthatch/lang/CharactersIsNamePartPinLaw", "reference", "(I)Z"⟩ : MethodName)) hown (mvT hZ (hw _ (List.mem_of_getElem? (i := 11) rfl))) (mvT hZ (hw _ (List.mem_of_getElem? (i := 12) rfl))) (mvT hZ (hw _ (List.mem_of_getElem? (i := 13) rfl))) (mvT hZ (hw _ (List.mem_of_getElem? (i := 14) rfl))) (by decide) (backOf (W := 1) (rm4 l Z a0 hw [] v1_5 h0 n0 Z0) hZ (hw _ (List.mem_of_getElem? (i := 14) rfl)) (hw _ (List.mem_of_getElem? (i := 13) rfl)) (by decide) (by decide)) (g := (mkF m 13 #[.val (.int p0), .val (.int v1_5), .val (.int (v1_5.toUInt32.toUInt16.toUInt32.toInt32))] [(.int v1_5), (.int (f1 (v1_5.toUInt32.toUInt16.toUInt32.toInt32)))])) rfl (by rw [hml]; rfl) (argsL := [(.int v1_5)]) (rest := [(.int (f1 (v1_5.toUInt32.toUInt16.toUInt32.toInt32)))]) (lenOf own_pd1 rfl) rfl (by show 2 * 0 + _ ≤ _; exact Nat.le_of_eq rfl) (hb hby at_13) (fun _ _ => ⟨rfl, e9, (by decide : 0 + 0 ≤ _), (by decide : 0 + 0 ≤ _)⟩)
    dsimp only [Pt.U, Pt.locs, Pt.cells, Pt.slots] at X13 l13 y13 z13 st13 hQ13
    subst l13 y13 z13
    obtain ⟨rfl, N13q, e13⟩ := hQ13
    have N13 := Fr.app N9 N13q
    refine own_to st13 ?_
    show own_Fin p e below G (T13.setTop (mkF m 16 #[.val (.int p0), .val (.int v1_5), .val (.int (v1_5.toUInt32.toUInt16.toUInt32.toInt32))] [(.int (f4 v1_5)), (.int (f1 (v1_5.toUInt32.toUInt16.toUInt32.toInt32)))]))
    by_cases hc16 : (f1 (v1_5.toUInt32.toUInt16.toUInt32.toInt32)) = (f4 v1_5)
    · refine own_to (fun _ kz => XS.icmpNo X13.here hx rfl (hb hby at_16) rfl (teq hc16).2 kz) ?_
      have q16t := q_j5.trans (if_pos hc16)
      show own_Fin p e below G (T13.setTop (mkF m 19 #[.val (.int p0), .val (.int v1_5), .val (.int (v1_5.toUInt32.toUInt16.toUInt32.toInt32))] []))
      refine own_to (fun _ kz => XS.iconst X13.here hx rfl (hb hby at_19) kz) ?_
      show own_Fin p e below G (T13.setTop (mkF m 20 #[.val (.int p0), .val (.int v1_5), .val (.int (v1_5.toUInt32.toUInt16.toUInt32.toInt32))] [(.int (1 : Int32))]))
      refine own_to (fun _ kz => XS.goto X13.here hx rfl (pc0 := 20) (pc' := 24) rfl (hb hby at_20) (by decide) (by decide) kz) ?_
      show own_Fin p e below G (T13.setTop (mkF m 24 #[.val (.int p0), .val (.int v1_5), .val (.int (v1_5.toUInt32.toUInt16.toUInt32.toInt32))] [(.int (1 : Int32))]))
      exact own_retN X13 hx hlk hG (t := .boolean) Bd.returns (by simp) (hb hby at_24) (by decide) (by decide) ⟨(congrArg (fun z => some (Value.int z)) q16t).symm, N13, e13⟩
    · refine own_to (fun _ kz => XS.icmpYes X13.here hx rfl (pc0 := 16) (pc' := 23) rfl (hb hby at_16) rfl (feq hc16).2 (by decide) (by decide) kz) ?_
      have q16f := q_j5.trans (if_neg hc16)
      show own_Fin p e below G (T13.setTop (mkF m 23 #[.val (.int p0), .val (.int v1_5), .val (.int (v1_5.toUInt32.toUInt16.toUInt32.toInt32))] []))
      refine own_to (fun _ kz => XS.iconst X13.here hx rfl (hb hby at_23) kz) ?_
      show own_Fin p e below G (T13.setTop (mkF m 24 #[.val (.int p0), .val (.int v1_5), .val (.int (v1_5.toUInt32.toUInt16.toUInt32.toInt32))] [(.int (0 : Int32))]))
      exact own_retN X13 hx hlk hG (t := .boolean) Bd.returns (by simp) (hb hby at_24) (by decide) (by decide) ⟨(congrArg (fun z => some (Value.int z)) q16f).symm, N13, e13⟩
  exact K5 (p0 &&& (65535 : Int32)) q0
theorem own_i2c (c : Int32) (h0 : 0 ≤ c.toInt) (h1 : c.toInt < 65536) : c.toUInt32.toUInt16.toUInt32.toInt32 = c := by
  have h := c_i2c c
  apply Int32.toInt_inj.mp; omega
theorem own_small : ∀ k : Fin 128, f0_5 0 (Int32.ofNat k.1) = 1 := by decide +kernel
theorem own_mid (p0 c : Int32) (h0 : 0 ≤ c.toInt) (h1 : c.toInt < 65536) : f0_5 p0 c = 1 := by
  show f0_5 0 c = 1
  by_cases h : c.toInt < 128
  · have e : c = Int32.ofNat c.toInt.toNat := by
      apply Int32.toInt_inj.mp
      rw [Int32.toInt_ofNat_of_lt (by omega)]; omega
    rw [e]; exact own_small ⟨c.toInt.toNat, by omega⟩
  · have b : ∀ k : Int32, k.toInt < 128 → ¬ c = k := fun k hk e => by subst e; omega
    have l : ∀ k : Int32, k.toInt < 128 → ¬ c < k := fun k hk e => by rw [Int32.lt_iff_toInt_lt] at e; omega
    have g : ∀ k : Int32, k.toInt < 128 → k < c := fun k hk => by rw [Int32.lt_iff_toInt_lt]; omega
    have q := own_i2c c h0 h1
    unfold f0_5; rw [q]
    simp [f1_20, f1, f2_12, f2_24, f2_28, f2, f3_16, f3, f4, b 95 (by decide), l 97 (by decide), l 65 (by decide), l 48 (by decide), g 122 (by decide), g 90 (by decide), g 57 (by decide)]
theorem own_plain (p0 : Int32) : f0 p0 = 1 := by
  have h := c_mask p0 65535 16 (by decide) (by decide)
  have h2 : (p0 &&& (65535 : Int32)).toInt = p0.toInt % 65536 := h
  exact own_mid p0 _ (by omega) (by omega)
set_option maxRecDepth 65536 in
set_option maxHeartbeats 40000000 in
theorem comes_1 {Post : Tables → Env → Array Value → State → Outcome → State → Prop} (hpost : ∀ tb e args s v u, (limb_1_1.after args s (.returned v) u = true ∧ limb_1_2.after args s (.returned v) u = true ∧ True) → FrameEnd s (.returned v) u (Jvm.fieldLocs frame_1_writes args s ++ Jvm.arrayLocs frame_1_arrays args s ++ Jvm.staticLocs frame_1_statics s) 0 0 → Post tb e args s (.returned v) u) :
    ArmFor flags0 classFile x code maxLocals ret World_1 tables_1 room_1 Calls_1 rest_1 Pre_1 Post := by
  intro l hfl _ _ p e ha hc hk s m args below hf hA hF happ hP
  obtain ⟨hcalls, hrest, hpre⟩ := hP
  obtain ⟨-, -, -, hnamed, -, -, -, hat⟩ := (Spec.applies_iff hf).mp happ
  obtain ⟨hg, hn⟩ := and_e (Cond.before_iff.mp (show (Jvm.Cond.and given_1 narrow_1).before args s = true from hpre))
  obtain ⟨gg1, gg2⟩ := and_e hg
  obtain ⟨w0, rfl⟩ : ∃ w0 : Value, args = #[w0] := by
    have hs : args.size = 1 := by simpa [Cond.value, given_1] using gg1
    obtain ⟨L⟩ := args
    match L, hs with
    | [w0], _ => exact ⟨w0, rfl⟩
  have hw := fun d (hd : d ∈ tables_1) => atoms_spec (ws := Jvm.Cond.code x code maxLocals ret :: tables_1) hat d (List.mem_cons_of_mem _ hd)
  obtain ⟨i0, ei0⟩ := is_v gg2
  obtain rfl : w0 = (.int i0) := Option.some.inj ei0
  obtain ⟨n, o, h1, h2, h3, v, L, rfl, ⟨hv, N, -⟩, hq⟩ := rm0 l s _ hw tables_1 i0 s.heap s.heap.size (Nat.le_refl _) p e ha hc hk s m _ below hf ((Spec.applies_iff_loose hf).mp happ).1 ⟨rfl, State.Warmed39.refl s, rfl⟩ trivial
  obtain rfl : v = some (.int 1) := hv.trans (congrArg (fun z => some (Value.int z)) (own_plain i0))
  refine ⟨n, _, h1, h2, h3, hpost _ _ _ _ _ _ ⟨Cond.after_iff.mpr rfl, Cond.after_iff.mpr (eq_i res_at (Term.int_eval (1)) rfl), trivial⟩ ⟨hq.1, hq.2.1, (hq.2.2.sift fun y hy => Or.inr (N y hy)).mono (by decide) (by decide)⟩⟩
theorem main_1_1 : Claimed_1_1 := comes_1 fun _ _ _ _ _ _ h hF => ⟨h.1, hF⟩
theorem main_1_2 : Claimed_1_2 := comes_1 fun _ _ _ _ _ _ h hF => ⟨h.2.1, hF⟩
end Jvm.Pilot.@@N@@
namespace Jvm.Pilot.@@N@@
open Jvm Jvm.ClassFile Sem Op Lib Jvm.Free Jvm.Stand Jvm.Pilot.@@N@@.Jvm.D
/-! MADE BY PROGRAM (witnessworld.py) out of the Statement's table words and the real class files: 9 classes; the members and pool entries that the words name. The judged class is class 1, her method 2. -/
namespace start1
open Jvm.ClassFile
def u (s : String) : CpInfo := .utf8 (stringToUtf16 s)
/-- a pool by its gaps: so many unusable entries, then the entry; so many at the end -/
def gap : Nat → List CpInfo → List CpInfo
  | 0, r => r
  | n + 1, r => .unusable :: gap n r
def poolList (es : List (Nat × CpInfo)) (last : Nat) : List CpInfo := es.foldr (fun e r => gap e.1 (e.2 :: r)) (gap last [])
def pool (es : List (Nat × CpInfo)) (last : Nat) : Array CpInfo := ⟨poolList es last⟩
def fileOf (pool : Array CpInfo) (this : Nat) (attrs : Array Attribute := #[]) (ms : Array MethodInfo := #[]) (fl : Nat := 33) (sup : Nat := 0) (ifs : Array Nat := #[]) (fds : Array FieldInfo := #[]) : ClassFile where
  minorVersion := 0
  majorVersion := 65
  constantPool := pool
  accessFlags := fl
  thisClass := this
  superClass := sup
  interfaces := ifs
  fields := fds
  methods := ms
  attributes := attrs
def plain (name : String) (sup : Option ClassId) : Class where
  name := name
  kind := .ordinary
  loader := none
  accessFlags := 33
  super := sup
  interfaces := #[]
  cf := none
  fields := #[]
  methods := #[]
  instanceTypes := #[]
  staticTypes := #[]
  resolved := #[]
  callSites := []
  init := .initialized
  statics := none
  mirror := none

def pool0 : Array CpInfo := pool [(5, u "<init>"), (0, u "()V"), (1, .class_ 10), (1, u "java/lang/Object")] 113

def k0m0 : Method := { name := "<init>", desc := "()V", sig := { parameters := [], returnType := none }, accessFlags := 1, code := none }
/-- java/lang/Object -/
def k0 : Class := { plain "java/lang/Object" none with
  accessFlags := 33
  interfaces := #[]
  cf := some (fileOf pool0 8 #[] #[{ accessFlags := 1, nameIndex := 5, descriptorIndex := 6, attributes := #[] }] 33 0 #[] #[])
  fields := #[]
  methods := #[k0m0]
  instanceTypes := #[]
  staticTypes := #[]
  resolved := Array.replicate 124 none
  statics := none }

def pool1 : Array CpInfo := pool [(2, .class_ 4), (1, u "java/lang/Object"), (0, u "<init>"), (0, u "()V"), (0, .integer 65535), (0, .methodref 9 10), (0, .class_ 11), (0, .nameAndType 12 13), (0, u "com/example/nuthatch/nuthatch/lang/Characters"), (0, u "isNamePart"), (0, u "(C)Z"), (0, .methodref 15 16), (0, .class_ 17), (0, .nameAndType 18 19), (0, u "com/example/nuthatch/nuthatch/lang/CharactersIsNamePartPinLaw"), (0, u "reference"), (0, u "(I)Z"), (3, u "law")] 2

def k1m0 : Method := { name := "<init>", desc := "()V", sig := { parameters := [], returnType := none }, accessFlags := 2, code := none }
def k1c1 : Code := { maxStack := 2, maxLocals := 1, code := method_2_code, exceptionTable := #[], attributes := #[] }
def k1m1 : Method := { name := "reference", desc := "(I)Z", sig := { parameters := [.int], returnType := some .boolean }, accessFlags := 10, code := some k1c1 }
def k1c2 : Code := { maxStack := 2, maxLocals := 3, code := code, exceptionTable := #[], attributes := #[] }
def k1m2 : Method := { name := "law", desc := "(I)Z", sig := { parameters := [.int], returnType := some .boolean }, accessFlags := 9, code := some k1c2 }
/-- com/example/nuthatch/nuthatch/lang/CharactersIsNamePartPinLaw -/
def k1 : Class := { plain "com/example/nuthatch/nuthatch/lang/CharactersIsNamePartPinLaw" (some 0) with
  accessFlags := 49
  interfaces := #[]
  cf := some (fileOf pool1 15 #[] #[{ accessFlags := 2, nameIndex := 5, descriptorIndex := 6, attributes := #[] }, { accessFlags := 10, nameIndex := 18, descriptorIndex := 19, attributes := #[] }, { accessFlags := 9, nameIndex := 23, descriptorIndex := 19, attributes := #[] }] 49 2 #[] #[])
  fields := #[]
  methods := #[k1m0, k1m1, k1m2]
  instanceTypes := #[]
  staticTypes := #[]
  resolved := Array.replicate 26 none
  statics := none }

def pool2 : Array CpInfo := pool [(2, .class_ 4), (1, u "java/lang/Object"), (0, u "<init>"), (0, u "()V"), (0, .methodref 8 9), (0, .class_ 10), (0, .nameAndType 11 12), (0, u "com/example/nuthatch/nuthatch/lang/Characters"), (0, u "isLetter"), (0, u "(C)Z"), (0, .methodref 8 14), (0, .nameAndType 15 12), (0, u "isDigit"), (16, u "isNamePart")] 7

def k2m0 : Method := { name := "<init>", desc := "()V", sig := { parameters := [], returnType := none }, accessFlags := 2, code := none }
def k2c1 : Code := { maxStack := 2, maxLocals := 1, code := prog_7_method_2_code, exceptionTable := #[], attributes := #[] }
def k2m1 : Method := { name := "isDigit", desc := "(C)Z", sig := { parameters := [.char], returnType := some .boolean }, accessFlags := 8, code := some k2c1 }
def k2c2 : Code := { maxStack := 2, maxLocals := 1, code := prog_7_method_3_code, exceptionTable := #[], attributes := #[] }
def k2m2 : Method := { name := "isLetter", desc := "(C)Z", sig := { parameters := [.char], returnType := some .boolean }, accessFlags := 8, code := some k2c2 }
def k2c3 : Code := { maxStack := 2, maxLocals := 1, code := prog_7_method_4_code, exceptionTable := #[], attributes := #[] }
def k2m3 : Method := { name := "isNamePart", desc := "(C)Z", sig := { parameters := [.char], returnType := some .boolean }, accessFlags := 8, code := some k2c3 }
/-- com/example/nuthatch/nuthatch/lang/Characters -/
def k2 : Class := { plain "com/example/nuthatch/nuthatch/lang/Characters" (some 0) with
  accessFlags := 48
  interfaces := #[]
  cf := some (fileOf pool2 8 #[] #[{ accessFlags := 2, nameIndex := 5, descriptorIndex := 6, attributes := #[] }, { accessFlags := 8, nameIndex := 15, descriptorIndex := 12, attributes := #[] }, { accessFlags := 8, nameIndex := 11, descriptorIndex := 12, attributes := #[] }, { accessFlags := 8, nameIndex := 32, descriptorIndex := 12, attributes := #[] }] 48 2 #[] #[])
  fields := #[]
  methods := #[k2m0, k2m1, k2m2, k2m3]
  instanceTypes := #[]
  staticTypes := #[]
  resolved := Array.replicate 40 none
  statics := none }

def pool3 : Array CpInfo := pool [(1, u "java/lang/Cloneable"), (0, .class_ 1), (0, u "java/lang/Object"), (0, .class_ 3)] 3

/-- java/lang/Cloneable -/
def k3 : Class := { plain "java/lang/Cloneable" (some 0) with
  accessFlags := 1537
  interfaces := #[]
  cf := some (fileOf pool3 2 #[] #[] 1537 4 #[] #[])
  fields := #[]
  methods := #[]
  instanceTypes := #[]
  staticTypes := #[]
  resolved := Array.replicate 8 none
  statics := none }

def pool4 : Array CpInfo := pool [(1, u "java/io/Serializable"), (0, .class_ 1), (0, u "java/lang/Object"), (0, .class_ 3)] 3

/-- java/io/Serializable -/
def k4 : Class := { plain "java/io/Serializable" (some 0) with
  accessFlags := 1537
  interfaces := #[]
  cf := some (fileOf pool4 2 #[] #[] 1537 4 #[] #[])
  fields := #[]
  methods := #[]
  instanceTypes := #[]
  staticTypes := #[]
  resolved := Array.replicate 8 none
  statics := none }

/-- the primitive byte -/
def k5 : Class := { plain "byte" none with kind := .primitive 'B', accessFlags := 0x411 }
/-- [B -/
def k6 : Class := { plain "[B" (some 0) with kind := .array 5 .byte, interfaces := #[3, 4], accessFlags := 1041 }

/-- the primitive int -/
def k7 : Class := { plain "int" none with kind := .primitive 'I', accessFlags := 0x411 }
/-- [I -/
def k8 : Class := { plain "[I" (some 0) with kind := .array 7 .int, interfaces := #[3, 4], accessFlags := 1041 }

def heap : Heap := #[]
def classes : Array Class := #[k0, k1, k2, k3, k4, k5, k6, k7, k8]
def interned : List (Array UInt16 × Addr) := []
def slotsUsed : Nat := 0
def theMethod : MethodId := ⟨1, 2⟩
def args0 : Array Value := #[.int 5]
def aboutOver (below : List Frame) : State where
  vm := { classes := classes, interned := interned.toArray }
  heap := heap
  slotsUsed := slotsUsed
  threads := #[{ frames := .invoking theMethod args0 :: below }]
def below0 : List Frame := [.native { method := ⟨0, 0⟩, args := #[] }]
def about1 : State := aboutOver below0
def p0 : Program := .bare "" "" ""
def e0 : Env := launch0.env 0 0 0
theorem w_frames : about1.frames = Frame.invoking theMethod args0 :: below0 := rfl
set_option maxRecDepth 65536 in
theorem w_args : argsFit about1.vm theMethod args0 = true := by decide +kernel
set_option maxRecDepth 65536 in
theorem w_heap : heapFits about1 = true := by decide +kernel
set_option maxRecDepth 65536 in
theorem w_runnable : about1.curStatus? = some .runnable := by decide +kernel
set_option maxRecDepth 65536 in
theorem w_alone : about1.alone = true := by decide +kernel
set_option maxRecDepth 65536 in
theorem w_named : about1.methodNamed? x = some theMethod := by decide +kernel
set_option maxRecDepth 65536 in
theorem w_hears : about1.hears theMethod below0 = true := by decide +kernel
set_option maxRecDepth 65536 in
theorem w_ripe : about1.ripe theMethod args0 below0 = true := by decide +kernel
theorem w_running : about1.status = .running := rfl
set_option maxRecDepth 65536 in
theorem w_room : about1.hasRoom e0.platform room_1 = true :=
  launch0.hasRoom_least _ room_1 (by decide +kernel) (by decide +kernel) (by decide +kernel) (by decide +kernel) (by decide +kernel) (by decide +kernel)
theorem allAtoms_all (ts : List Jvm.Cond) (a : Array Jvm.Value) (st : Jvm.State) : (allAtoms ts).before a st = ts.all (fun c => c.before a st) := by
  induction ts with
  | nil => rfl
  | cons c t ih =>
    show (Jvm.Cond.and c (allAtoms t)).before a st = _
    rw [Jvm.Cond.before_and, ih, List.all_cons]
def words1 : List Jvm.Cond := Jvm.Cond.code x code maxLocals ret :: tables_1
/-- a 'code' word, met by the world's own term for the bytes: nothing is compared byte by byte -/
theorem code_word {y : MethodName} {bytes : ByteArray} {mx : Nat} {rt : Option FieldType} {a : Array Value} {s : State} {m : MethodId} {meth : Method} {c : Code} (h1 : s.methodNamed? y = some m) (h2 : s.vm.method? m = some meth) (h3 : meth.code = some c) (h4 : c.code = bytes)
    (h5 : (c.maxLocals == mx && c.exceptionTable.isEmpty && decide (c.maxStack ≤ mostOperands) && decide (meth.sig.returnType = rt) && !meth.locks && decide (parseMethodDescriptor y.desc = some meth.sig)) = true) : (Jvm.Cond.code y bytes mx rt).before a s = true := by
  simp only [Bool.and_eq_true, beq_iff_eq, Bool.not_eq_true', decide_eq_true_eq] at h5
  obtain ⟨⟨⟨⟨⟨g1, g2⟩, g3⟩, g4⟩, g5⟩, g6⟩ := h5
  simp [Cond.before, Cond.holds, Cond.value, h1, h2, h3, h4, g1, g2, g3, g4, g5, g6]
def isCode : Jvm.Cond → Bool
  | .code _ _ _ _ => true
  | _ => false
theorem all_split {L : List Jvm.Cond} {P : Jvm.Cond → Bool} (h1 : L.all (fun c => isCode c || P c) = true) (h2 : ∀ c ∈ L.filter isCode, P c = true) : L.all P = true := by
  refine List.all_eq_true.mpr fun c hc => ?_
  have h := List.all_eq_true.mp h1 c hc
  rcases Bool.eq_false_or_eq_true (isCode c) with hi | hi
  · exact h2 c (List.mem_filter.mpr ⟨hc, hi⟩)
  · simpa [hi] using h
set_option maxRecDepth 65536 in
theorem w_c0 : (Jvm.Cond.code x code maxLocals ret).before args0 about1 = true := code_word (m := ⟨1, 2⟩) (meth := k1m2) (c := k1c2) (by decide +kernel) rfl rfl rfl (by decide +kernel)
set_option maxRecDepth 65536 in
theorem w_c1 : (Jvm.Cond.code ({ cls := "com/example/nuthatch/nuthatch/lang/Characters", name := "isNamePart", desc := "(C)Z" } : Jvm.MethodName) prog_7_method_4_code (1 : Nat) (Option.some Jvm.ClassFile.FieldType.boolean)).before args0 about1 = true := code_word (m := ⟨2, 3⟩) (meth := k2m3) (c := k2c3) (by decide +kernel) rfl rfl rfl (by decide +kernel)
set_option maxRecDepth 65536 in
theorem w_c2 : (Jvm.Cond.code ({ cls := "com/example/nuthatch/nuthatch/lang/Characters", name := "isLetter", desc := "(C)Z" } : Jvm.MethodName) prog_7_method_3_code (1 : Nat) (Option.some Jvm.ClassFile.FieldType.boolean)).before args0 about1 = true := code_word (m := ⟨2, 2⟩) (meth := k2m2) (c := k2c2) (by decide +kernel) rfl rfl rfl (by decide +kernel)
set_option maxRecDepth 65536 in
theorem w_c3 : (Jvm.Cond.code ({ cls := "com/example/nuthatch/nuthatch/lang/Characters", name := "isDigit", desc := "(C)Z" } : Jvm.MethodName) prog_7_method_2_code (1 : Nat) (Option.some Jvm.ClassFile.FieldType.boolean)).before args0 about1 = true := code_word (m := ⟨2, 1⟩) (meth := k2m1) (c := k2c1) (by decide +kernel) rfl rfl rfl (by decide +kernel)
set_option maxRecDepth 65536 in
theorem w_c4 : (Jvm.Cond.code ({ cls := "com/example/nuthatch/nuthatch/lang/CharactersIsNamePartPinLaw", name := "reference", desc := "(I)Z" } : Jvm.MethodName) method_2_code (1 : Nat) (Option.some Jvm.ClassFile.FieldType.boolean)).before args0 about1 = true := code_word (m := ⟨1, 1⟩) (meth := k1m1) (c := k1c1) (by decide +kernel) rfl rfl rfl (by decide +kernel)
def codes1 : List Jvm.Cond := [Jvm.Cond.code x code maxLocals ret, Jvm.Cond.code ({ cls := "com/example/nuthatch/nuthatch/lang/Characters", name := "isNamePart", desc := "(C)Z" } : Jvm.MethodName) prog_7_method_4_code (1 : Nat) (Option.some Jvm.ClassFile.FieldType.boolean), Jvm.Cond.code ({ cls := "com/example/nuthatch/nuthatch/lang/Characters", name := "isLetter", desc := "(C)Z" } : Jvm.MethodName) prog_7_method_3_code (1 : Nat) (Option.some Jvm.ClassFile.FieldType.boolean), Jvm.Cond.code ({ cls := "com/example/nuthatch/nuthatch/lang/Characters", name := "isDigit", desc := "(C)Z" } : Jvm.MethodName) prog_7_method_2_code (1 : Nat) (Option.some Jvm.ClassFile.FieldType.boolean), Jvm.Cond.code ({ cls := "com/example/nuthatch/nuthatch/lang/CharactersIsNamePartPinLaw", name := "reference", desc := "(I)Z" } : Jvm.MethodName) method_2_code (1 : Nat) (Option.some Jvm.ClassFile.FieldType.boolean)]
set_option maxRecDepth 65536 in
theorem codes_eq : words1.filter isCode = codes1 := rfl
theorem w_codes : ∀ c ∈ words1.filter isCode, c.before args0 about1 = true := by
  rw [codes_eq]
  intro c hc
  simp only [codes1, List.mem_cons, List.not_mem_nil, or_false] at hc
  rcases hc with rfl | rfl | rfl | rfl | rfl
  · exact w_c0
  · exact w_c1
  · exact w_c2
  · exact w_c3
  · exact w_c4
set_option maxRecDepth 65536 in
theorem w_t1 : words1.all (fun c => isCode c || c.before args0 about1) = true := by decide +kernel
theorem w_tables : (allAtoms (Jvm.Cond.code x code maxLocals ret :: tables_1)).before args0 about1 = true := by
  rw [allAtoms_all]
  show words1.all (fun c => c.before args0 about1) = true
  refine all_split ?_ w_codes
  rw [w_t1]
set_option maxRecDepth 65536 in
theorem w_case : (Jvm.Cond.and given_1 narrow_1).before args0 about1 = true := by decide +kernel
theorem w_applies : (headSpec (Jvm.Cond.code x code maxLocals ret :: tables_1) room_1).applies x e0.platform about1 = true :=
  (Spec.applies_iff w_frames).mpr ⟨w_running, w_runnable, w_alone, w_named, w_hears, w_ripe, w_room, w_tables⟩
theorem atStart : AtStart classFile x code maxLocals ret World_1 tables_1 room_1 Calls_1 rest_1 Pre_1 launch0 p0 e0 about1 theMethod args0 below0 :=
  ⟨lists_1, trivial, launch0.admits_env _ _ _, launch0.least_env, fairChoices_fair.cas, fairChoices_fair.clock, w_frames, w_args, w_heap, w_applies, trivial, trivial, w_case⟩
end start1
theorem witness_1 : WitnessClaimed_1 := ⟨start1.p0, start1.e0, start1.about1, start1.theMethod, start1.args0, start1.below0, start1.atStart⟩
end Jvm.Pilot.@@N@@
