import JvmDerived
import JvmDerived.Pilot.@@N@@Statement
import JvmDerived.Pilot.@@N@@Code
set_option linter.unusedVariables false
set_option linter.unusedSimpArgs false

namespace Jvm.Pilot.@@N@@
open Jvm Jvm.ClassFile Sem Op Lib Jvm.Free Jvm.Stand Jvm.LawKit Jvm.RoadKit Bundle Jvm.Pilot.@@N@@.Jvm.D

section OwnKit
variable {p : Program} {l : Launch} {e : Env} {R : Room} {s : State} {m : MethodId} {args : Array Value} {below : List Frame} {meth : Method} {c : Code} {T : State} {locs : List Loc} {cells slots : Nat} {G : Outcome → State → Prop} {Q : Option Value → Heap → List Loc → Prop} {C S : Nat} {Z : State} {h h' : Heap}
/-- from the state t the invocation comes to an end of which G holds -/
def own_Fin (p : Program) (e : Env) (below : List Frame) (G : Outcome → State → Prop) (t : State) : Prop := ∃ s₂ o, Steps p.tables e below t s₂ ∧ s₂.status = .running ∧ Ended s₂ below o ∧ G o s₂
def own_G (s : State) (Q : Option Value → Heap → List Loc → Prop) (C S : Nat) (o : Outcome) (U' : State) : Prop := ∃ v L, o = .returned v ∧ Q v U'.heap L ∧ FrameEnd s o U' L C S
theorem own_to {t u : State} (h : ∀ z, Steps p.tables e below u z → Steps p.tables e below t z) (k : own_Fin p e below G u) : own_Fin p e below G t := by
  obtain ⟨a, b, c, d⟩ := k; exact ⟨a, b, h _ c, d⟩
theorem own_via {t u : State} (h : Steps p.tables e below t u) (k : own_Fin p e below G u) : own_Fin p e below G t := own_to (fun _ kz => h.trans kz) k
theorem own_retW (X : Stand p l e R s m args below meth c T locs cells slots) (hx : p.tables.exec = Jvm.exec) (hlk : meth.locks = false) (hG : G = own_G s Q C S) {f : JFrame} {w : Option Value} (hv : meth.sig.returnType = none → w = none)
    (st : ∀ fs, (∀ (f : JFrame) (acts : List Action), f.method = m → f.locked = none → f.entered = [] → (doReturn e (T.setTop f) acts w).1 = T.setFrames fs) → Steps p.tables e below (T.setTop f) (T.setFrames fs))
    (hc : cells ≤ C) (hs : slots ≤ S) (hQ : Q w T.heap locs) : own_Fin p e below G (T.setTop f) := by
  subst hG
  obtain ⟨fs, hr, hrun, hended, hW, hsame⟩ := X.leave (v := w) hv hlk
  exact ⟨_, _, st fs hr, hrun, hended, _, _, rfl, hQ, ⟨_, rfl⟩, hW, hsame.mono hc hs⟩
theorem own_retI (X : Stand p l e R s m args below meth c T locs cells slots) (hx : p.tables.exec = Jvm.exec) (hlk : meth.locks = false) (hG : G = own_G s Q C S) {pc : Nat} {Ls : Array Slot} {z : Int32} {rest : List Value} (hret : meth.sig.returnType = some .int) (hd : decode c.code pc = .ok (.ireturn, 1))
    (hc : cells ≤ C) (hs : slots ≤ S) (hQ : Q (some (.int z)) T.heap locs) : own_Fin p e below G (T.setTop (mkF m pc Ls (.int z :: rest))) :=
  own_retW X hx hlk hG (w := some (.int z)) (fun h => by rw [hret] at h; cases h) (fun fs hr => retOut X hx hret rfl (Or.inl ⟨rfl, Or.inl rfl, z, rfl⟩) hd hr) hc hs hQ
theorem own_retJ (X : Stand p l e R s m args below meth c T locs cells slots) (hx : p.tables.exec = Jvm.exec) (hlk : meth.locks = false) (hG : G = own_G s Q C S) {pc : Nat} {Ls : Array Slot} {z : Int64} {rest : List Value} (hret : meth.sig.returnType = some .long) (hd : decode c.code pc = .ok (.lreturn, 1))
    (hc : cells ≤ C) (hs : slots ≤ S) (hQ : Q (some (.long z)) T.heap locs) : own_Fin p e below G (T.setTop (mkF m pc Ls (.long z :: rest))) :=
  own_retW X hx hlk hG (w := some (.long z)) (fun h => by rw [hret] at h; cases h) (fun fs hr => retOut X hx hret rfl (Or.inr (Or.inl ⟨rfl, rfl, z, rfl⟩)) hd hr) hc hs hQ
theorem own_retA (X : Stand p l e R s m args below meth c T locs cells slots) (hx : p.tables.exec = Jvm.exec) (hlk : meth.locks = false) (hG : G = own_G s Q C S) {pc : Nat} {Ls : Array Slot} {w : Value} {rest : List Value} {t : FieldType} (hret : meth.sig.returnType = some t) (ht : t.isReference = true) (hw : w.isRef = true) (hd : decode c.code pc = .ok (.areturn, 1))
    (hc : cells ≤ C) (hs : slots ≤ S) (hQ : Q (some w) T.heap locs) : own_Fin p e below G (T.setTop (mkF m pc Ls (w :: rest))) :=
  own_retW X hx hlk hG (w := some w) (fun h => by rw [hret] at h; cases h) (fun fs hr => retOut X hx hret (by rcases ref_cases hw with rfl | ⟨a, rfl⟩ <;> cases t <;> first | rfl | (simp [FieldType.isReference] at ht)) (Or.inr (Or.inr (Or.inr (Or.inr ⟨rfl, ht, hw⟩)))) hd hr) hc hs hQ
theorem own_retN (X : Stand p l e R s m args below meth c T locs cells slots) (hx : p.tables.exec = Jvm.exec) (hlk : meth.locks = false) (hG : G = own_G s Q C S) {pc : Nat} {Ls : Array Slot} {z : Int32} {rest : List Value} {t : FieldType} (hret : meth.sig.returnType = some t) (ht : t = .boolean ∨ t = .byte ∨ t = .char ∨ t = .short) (hd : decode c.code pc = .ok (.ireturn, 1))
    (hc : cells ≤ C) (hs : slots ≤ S) (hQ : Q (some (.int (nar t z))) T.heap locs) : own_Fin p e below G (T.setTop (mkF m pc Ls (.int z :: rest))) :=
  own_retW X hx hlk hG (w := some (.int (nar t z))) (fun h => by rw [hret] at h; cases h) (fun fs hr => retN X hx hret ht hd hr) hc hs hQ
theorem own_retV (X : Stand p l e R s m args below meth c T locs cells slots) (hx : p.tables.exec = Jvm.exec) (hlk : meth.locks = false) (hG : G = own_G s Q C S) {pc : Nat} {Ls : Array Slot} (hret : meth.sig.returnType = none) (hd : decode c.code pc = .ok (.return_, 1))
    (hc : cells ≤ C) (hs : slots ≤ S) (hQ : Q none T.heap locs) : own_Fin p e below G (T.setTop (mkF m pc Ls [])) :=
  own_retW X hx hlk hG (w := none) (fun _ => rfl) (fun fs hr => X.returnOut hx hret hd hr) hc hs hQ
theorem own_lrem {g : JFrame} {target : State} (X : Stand p l e R s m args below meth c T locs cells slots) (hx : p.tables.exec = Jvm.exec) (hg : g.method = m) {x y : Int64} {rest : List Value} (hd : decode c.code g.pc = .ok (.lrem, 1)) (hs : g.stack = .long y :: .long x :: rest) (hy : y ≠ 0)
    (hr : Steps p.tables e below (T.setTop { g with pc := g.pc + 1, stack := .long (x % y) :: rest }) target) : Steps p.tables e below (T.setTop g) target := by
  have q : x - x / y * y = x % y := lrem_mod x y
  exact XS.lrem X.here hx hg hd hs hy (by rw [q]; exact hr)
def own_Pair (a b : Slot) : Prop := (a = .unset ∧ b = .unset) ∨ ∃ x, a = .val (.long x) ∧ b = .second
/-- the array at a has n places; place i holds mk (f i) -/
def own_AV {α : Type} (mk : α → Value) (Z : State) (h : Heap) (a : Addr) (ty : FieldType) (n : Nat) (f : Nat → α) : Prop := n < 2 ^ 31 ∧ ∃ c : Cell, Arr Z h a c ty ∧ c.slots.size = n ∧ ∀ i, i < n → c.slots[i]? = some (mk (f i))
def own_upd {α : Type} (f : Nat → α) (k : Nat) (v : α) : Nat → α := fun i => if i = k then v else f i
section
variable {α : Type} {mk : α → Value} {a b : Addr} {ty : FieldType} {n : Nat} {f f' : Nat → α} {ws : List Addr} {sl : Nat} {v : Value}
theorem own_AV.lt (F : own_AV mk Z h a ty n f) : a < h.size := by obtain ⟨_, c, A, -⟩ := F; exact A.lt
theorem own_AV.ext (F : own_AV mk Z h a ty n f) (E : Ext h h') : own_AV mk Z h' a ty n f := by obtain ⟨q, c, A, r⟩ := F; exact ⟨q, c, A.ext E, r⟩
theorem own_AV.other (F : own_AV mk Z h b ty n f) (W : Wr h h' a sl v) (q : b ≠ a) : own_AV mk Z h' b ty n f := by obtain ⟨q', c, A, r⟩ := F; exact ⟨q', c, A.other W q, r⟩
theorem own_AV.keep (F : own_AV mk Z h a ty n f) (K : Keep h h' ws) (q : a ∉ ws) : own_AV mk Z h' a ty n f := by obtain ⟨q', c, A, r⟩ := F; exact ⟨q', c, ⟨K.2.1 a c A.1 q, A.2⟩, r⟩
theorem own_AV.congr (F : own_AV mk Z h a ty n f) (q : ∀ i, i < n → f i = f' i) : own_AV mk Z h a ty n f' := by obtain ⟨q', c, A, r, s⟩ := F; exact ⟨q', c, A, r, fun i hi => by rw [s i hi, q i hi]⟩
theorem own_AV.new {k : ClassId} {z : Int32} (A : Arr Z h a (newA k ty z) ty) (q : ¬ z < 0) (hn : z.toNatClampNeg = n) (hf : ∀ i : Nat, defaultValue ty = mk (f i)) : own_AV mk Z h a ty n f := by
  refine ⟨hn ▸ (back32 q).2, _, A, (sz_new _ _ _).trans hn, fun i hi => ?_⟩
  rw [← hf i]; simp [newA, hn, hi]
theorem own_in {c : Cell} {j : Int32} {k : Nat} (S : c.slots.size = n) (hj : ¬ j < 0) (hk : j.toNatClampNeg = k) (hlt : k < n) : ¬ (j < 0 ∨ c.slots.size ≤ j.toNatClampNeg) := fun q => q.elim hj fun r => by omega
theorem own_AV.set {c : Cell} {j : Int32} {k : Nat} {w : α} (nn : n < 2 ^ 31) (A : Arr Z h a c ty) (S : c.slots.size = n) (H : ∀ i, i < n → c.slots[i]? = some (mk (f i))) (W : Wr h h' a j.toNatClampNeg (mk w)) (hk : j.toNatClampNeg = k) : own_AV mk Z h' a ty n (own_upd f k w) := by
  subst hk
  refine ⟨nn, _, A.same W, by rw [sz_set]; exact S, fun i hi => ?_⟩
  show (c.setSlot j.toNatClampNeg (mk w)).slots[i]? = some (mk (if i = j.toNatClampNeg then w else f i))
  simp only [Cell.setSlot]
  by_cases q : i = j.toNatClampNeg
  · subst q; rw [if_pos rfl]; simp [S, hi]
  · rw [if_neg q, Array.getElem?_setIfInBounds_ne (fun r => q r.symm)]; exact H i hi
theorem own_iaload (X : Stand p l e R s m args below meth c T locs cells slots) (hx : p.tables.exec = Jvm.exec) (hZ : Z.Warmed39 s.vm) (eT : T.heap = h) {f : Nat → Int32} (F : own_AV Value.int Z h a .int n f) {j : Int32} {k : Nat} (hj : ¬ j < 0) (hk : j.toNatClampNeg = k) (hlt : k < n)
    {g : JFrame} (hg : g.method = m) {rest : List Value} (hs : g.stack = .int j :: .ref a :: rest) (hd : decode c.code g.pc = .ok (.iaload, 1)) {target : State} (hr : Steps p.tables e below (T.setTop { g with pc := g.pc + 1, stack := .int (f k) :: rest }) target) : Steps p.tables e below (T.setTop g) target := by
  obtain ⟨_, cl, A, S, H⟩ := F
  exact X.iaload hx (j := j) (v := .int (f k)) (by rw [eT]; exact A.1) (State.isArrayOf_alike hZ.alike A.2.1) A.2.2 (own_in S hj hk hlt) (by rw [hk]; exact H k hlt) hg hs hd _ hr
theorem own_laload (X : Stand p l e R s m args below meth c T locs cells slots) (hx : p.tables.exec = Jvm.exec) (hZ : Z.Warmed39 s.vm) (eT : T.heap = h) {f : Nat → Int64} (F : own_AV Value.long Z h a .long n f) {j : Int32} {k : Nat} (hj : ¬ j < 0) (hk : j.toNatClampNeg = k) (hlt : k < n)
    {g : JFrame} (hg : g.method = m) {rest : List Value} (hs : g.stack = .int j :: .ref a :: rest) (hd : decode c.code g.pc = .ok (.laload, 1)) {target : State} (hr : Steps p.tables e below (T.setTop { g with pc := g.pc + 1, stack := .long (f k) :: rest }) target) : Steps p.tables e below (T.setTop g) target := by
  obtain ⟨_, cl, A, S, H⟩ := F
  exact X.laload hx (j := j) (v := .long (f k)) (by rw [eT]; exact A.1) (State.isArrayOf_alike hZ.alike A.2.1) A.2.2 (own_in S hj hk hlt) (by rw [hk]; exact H k hlt) hg hs hd _ hr
theorem own_baload (X : Stand p l e R s m args below meth c T locs cells slots) (hx : p.tables.exec = Jvm.exec) (hZ : Z.Warmed39 s.vm) (eT : T.heap = h) {f : Nat → Int32} (F : own_AV Value.int Z h a .byte n f) {j : Int32} {k : Nat} (hj : ¬ j < 0) (hk : j.toNatClampNeg = k) (hlt : k < n)
    {g : JFrame} (hg : g.method = m) {rest : List Value} (hs : g.stack = .int j :: .ref a :: rest) (hd : decode c.code g.pc = .ok (.baload, 1)) {target : State} (hr : Steps p.tables e below (T.setTop { g with pc := g.pc + 1, stack := .int (f k) :: rest }) target) : Steps p.tables e below (T.setTop g) target := by
  obtain ⟨_, cl, A, S, H⟩ := F
  exact X.baloadBytes hx (j := j) (v := .int (f k)) (by rw [eT]; exact A.1) (State.isArrayOf_alike hZ.alike A.2.1) A.2.2 (own_in S hj hk hlt) (by rw [hk]; exact H k hlt) hg hs hd _ hr
theorem own_cloneI (X : Stand p l e R s m args below meth c T locs cells slots) (hx : p.tables.exec = Jvm.exec) (hZ : Z.Warmed39 s.vm) {a0 : Array Value} {own ad : String} {index : Nat} (hown : s.vm.findClass own = some m.cls)
    (w1 : (Cond.methodLink own index ⟨ad, "clone", "()Ljava/lang/Object;"⟩).before a0 Z = true) (w2 : (Cond.sameMethod ad "java/lang/Object" "clone" "()Ljava/lang/Object;").before a0 Z = true) (w3 : (Cond.native ⟨"java/lang/Object", "clone", "()Ljava/lang/Object;"⟩).before a0 Z = true)
    (w4 : (Cond.instanceMethod ⟨"java/lang/Object", "clone", "()Ljava/lang/Object;"⟩).before a0 Z = true) (w5 : (Cond.selects ad ⟨ad, "clone", "()Ljava/lang/Object;"⟩ ⟨"java/lang/Object", "clone", "()Ljava/lang/Object;"⟩).before a0 Z = true) (w6 : (Cond.castable ad "java/lang/Cloneable").before a0 Z = true)
    (eT : T.heap = h) {f : Nat → Int32} (F : own_AV Value.int Z h a .int n f) (E : Exa Z h a ad) {g : JFrame} (hg : g.method = m) (hsize : g.locals.size = c.maxLocals) {rest : List Value} (hs : g.stack = .ref a :: rest) (hd : decode c.code g.pc = .ok (.invokevirtual index, 3))
    (hf : 1 ≤ R.frames) {W cap : Nat} (hW : 2 * g.monitorRoom + (rest.map fun v => v.category).sum ≤ W) (hl : W + 14 ≤ R.locals) (hcap : n ≤ cap) (hc : cells + 1 ≤ R.cells) (hsl : slots + cap ≤ R.slots) :
    ∃ T' h', Stand p l e R s m args below meth c T' locs (cells + 1) (slots + cap) ∧ T'.heap = h' ∧ Ext h h' ∧ own_AV Value.int Z h' h.size .int n f ∧ Exa Z h' h.size ad ∧
      ∀ target, Steps p.tables e below (T'.setTop { g with pc := g.pc + 3, stack := .ref h.size :: rest }) target → Steps p.tables e below (T.setTop g) target := by
  obtain ⟨nn, cl, A, S, H⟩ := F
  have FC : FitC Z cl := fitC_of A fun i hi v hv => by rw [H i (S ▸ hi)] at hv; cases hv; rfl
  obtain ⟨T', h', X', e', ex, A', E', st⟩ := cloneA X hx hZ hown w1 w2 w3 w4 w5 w6 eT A E FC hg hsize hs hd hf hW hl (by rw [S]; exact hcap) hc hsl
  exact ⟨T', h', X', e', ex, ⟨nn, cloneOf cl, A', S, H⟩, E', st⟩
theorem own_alen (X : Stand p l e R s m args below meth c T locs cells slots) (hx : p.tables.exec = Jvm.exec) (hZ : Z.Warmed39 s.vm) (eT : T.heap = h) (F : own_AV mk Z h a ty n f) {z : Int32} (hz : n.toInt32 = z)
    {g : JFrame} (hg : g.method = m) {rest : List Value} (hs : g.stack = .ref a :: rest) (hd : decode c.code g.pc = .ok (.arraylength, 1)) {target : State} (hr : Steps p.tables e below (T.setTop { g with pc := g.pc + 1, stack := .int z :: rest }) target) : Steps p.tables e below (T.setTop g) target := by
  obtain ⟨_, cl, A, S, H⟩ := F
  exact X.arraylength hx (by rw [eT]; exact A.1) (State.isArrayOf_alike hZ.alike A.2.1) hg hs hd _ (by rw [S, hz]; exact hr)
end
end OwnKit
theorem own_pn0 : plainName "com/example/lanterns/lanterns/solvers/Graph" = true := by first | (simp [plainName, overriddenIn]; done) | decide +kernel
theorem d1_0 : decode prog_24_method_1_code 0 = .ok (.aload_n 0, 1) := by decide +kernel
theorem d1_1 : decode prog_24_method_1_code 1 = .ok (.invokespecial 1, 3) := by decide +kernel
theorem d1_4 : decode prog_24_method_1_code 4 = .ok (.aload_n 0, 1) := by decide +kernel
theorem d1_5 : decode prog_24_method_1_code 5 = .ok (.aload_n 1, 1) := by decide +kernel
theorem d1_6 : decode prog_24_method_1_code 6 = .ok (.putfield 7, 3) := by decide +kernel
theorem d1_9 : decode prog_24_method_1_code 9 = .ok (.aload_n 0, 1) := by decide +kernel
theorem d1_10 : decode prog_24_method_1_code 10 = .ok (.aload_n 2, 1) := by decide +kernel
theorem d1_11 : decode prog_24_method_1_code 11 = .ok (.putfield 13, 3) := by decide +kernel
theorem d1_14 : decode prog_24_method_1_code 14 = .ok (.aload_n 0, 1) := by decide +kernel
theorem d1_15 : decode prog_24_method_1_code 15 = .ok (.aload_n 3, 1) := by decide +kernel
theorem d1_16 : decode prog_24_method_1_code 16 = .ok (.putfield 16, 3) := by decide +kernel
theorem d1_19 : decode prog_24_method_1_code 19 = .ok (.return_, 1) := by decide +kernel
theorem ef1 (m : MethodId) (ad0 : Addr) (ad1 : Addr) (ad2 : Addr) (ad3 : Addr) : entryFrame m #[(.ref ad0), (.ref ad1), (.ref ad2), (.ref ad3)] 4 = mkF m 0 #[.val (.ref ad0), .val (.ref ad1), .val (.ref ad2), .val (.ref ad3)] [] := by first | (simp [entryFrame, mkF, argsToLocals, Value.category]; done) | rfl
def Q1 (Z : State) (ad0 : Addr) (ad1 : Addr) (ad2 : Addr) (ad3 : Addr) (h0 : Heap) (n0 : Nat) (v : Option Value) (h : Heap) (L : List Loc) : Prop := v = none ∧ Fr n0 L ∧ Keep h0 h [ad0] ∧ Exa Z h ad0 "com/example/lanterns/lanterns/solvers/Graph" ∧ Fld Z h ad0 "com/example/lanterns/lanterns/solvers/Graph" "start" "[I" (.ref ad1) ∧ Fld Z h ad0 "com/example/lanterns/lanterns/solvers/Graph" "neighbours" "[I" (.ref ad2) ∧ Fld Z h ad0 "com/example/lanterns/lanterns/solvers/Graph" "edges" "[I" (.ref ad3)
set_option maxRecDepth 65536 in
set_option maxHeartbeats 40000000 in
theorem rm1 (l : Launch) (Z : State) (a0 : Array Value) (hw : ∀ d ∈ tables_1, d.before a0 Z = true) (ws : List Jvm.Cond) (ad0 : Addr) (ad1 : Addr) (ad2 : Addr) (ad3 : Addr) (h0 : Heap) (n0 : Nat) (Z0 : n0 ≤ h0.size) (E_ad0 : Exa Z h0 ad0 "com/example/lanterns/lanterns/solvers/Graph") (F_start_ad0 : Fld Z h0 ad0 "com/example/lanterns/lanterns/solvers/Graph" "start" "[I" .null) (F_neighbours_ad0 : Fld Z h0 ad0 "com/example/lanterns/lanterns/solvers/Graph" "neighbours" "[I" .null) (F_edges_ad0 : Fld Z h0 ad0 "com/example/lanterns/lanterns/solvers/Graph" "edges" "[I" .null) (g_ad0 : n0 ≤ ad0) :
    MetFree l (⟨"com/example/lanterns/lanterns/solvers/Graph", "<init>", "([I[I[I)V"⟩ : MethodName) (head1 (Jvm.Cond.code (⟨"com/example/lanterns/lanterns/solvers/Graph", "<init>", "([I[I[I)V"⟩ : MethodName) prog_24_method_1_code 4 none :: ws) ({ frames := 1, cells := 0, slots := 0, locals := 12 } : Room)) (fun a U => a = #[(.ref ad0), (.ref ad1), (.ref ad2), (.ref ad3)] ∧ Z.Warmed39 U.vm ∧ U.heap = h0) (fun _ _ _ _ _ => True) (fun _ U o U' => ∃ v L, o = .returned v ∧ Q1 Z ad0 ad1 ad2 ad3 h0 n0 v U'.heap L ∧ FrameEnd U o U' L ({ frames := 1, cells := 0, slots := 0, locals := 12 } : Room).cells ({ frames := 1, cells := 0, slots := 0, locals := 12 } : Room).slots) := by
  refine MetFree.of_bodySF (plainFor_of_name own_pn0) hisR ?_
  intro p e s m args below meth c s₁ Bd hml0 hP hK
  obtain ⟨rfl, hZ, hh⟩ := hP
  have hx := Bd.exec
  have hby := Bd.bytes
  have hml : c.maxLocals = 4 := hml0
  have hown : s.vm.findClass "com/example/lanterns/lanterns/solvers/Graph" = some m.cls := findClass_of_methodNamed Bd.named
  have hnm := (name_of_methodNamed Bd.named Bd.method).1
  have hlk : meth.locks = false := BodyLoose.notSynchronized Bd
  have X0 : Stand p l e ({ frames := 1, cells := 0, slots := 0, locals := 12 } : Room) s m #[(.ref ad0), (.ref ad1), (.ref ad2), (.ref ad3)] below meth c s₁ [] 0 0 := Stand.of_body Bd
  have e0 : s₁.heap = h0 := by rw [← hh, Bd.state]; rfl
  have N0 := Fr.nil n0
  obtain ⟨G, hG⟩ : ∃ G, G = own_G s (Q1 Z ad0 ad1 ad2 ad3 h0 n0) ({ frames := 1, cells := 0, slots := 0, locals := 12 } : Room).cells ({ frames := 1, cells := 0, slots := 0, locals := 12 } : Room).slots := ⟨_, rfl⟩
  show own_Fin p e below (own_G s (Q1 Z ad0 ad1 ad2 ad3 h0 n0) ({ frames := 1, cells := 0, slots := 0, locals := 12 } : Room).cells ({ frames := 1, cells := 0, slots := 0, locals := 12 } : Room).slots) (s₁.setTop (entryFrame m #[(.ref ad0), (.ref ad1), (.ref ad2), (.ref ad3)] 4))
  rw [← hG]
  refine own_to (fun _ kz => castTop (ef1 m ad0 ad1 ad2 ad3) kz) ?_
  show own_Fin p e below G (s₁.setTop (mkF m 0 #[.val (.ref ad0), .val (.ref ad1), .val (.ref ad2), .val (.ref ad3)] []))
  refine own_to (fun _ kz => XS.aloadN X0.here hx rfl (hb hby d1_0) rfl (rfl)  kz) ?_
  show own_Fin p e below G (s₁.setTop (mkF m 1 #[.val (.ref ad0), .val (.ref ad1), .val (.ref ad2), .val (.ref ad3)] [(.ref ad0)]))
  obtain ⟨T1, X1, e1, st1⟩ := initO X0 hx hZ hown (hw _ (List.mem_of_getElem? (i := 7) rfl)) (hw _ (List.mem_of_getElem? (i := 8) rfl)) (hw _ (List.mem_of_getElem? (i := 9) rfl)) e0 (g := (mkF m 1 #[.val (.ref ad0), .val (.ref ad1), .val (.ref ad2), .val (.ref ad3)] [(.ref ad0)])) rfl (by rw [hml]; rfl) rfl (hb hby d1_1) (by decide) (W := 0) (by show 2 * 0 + _ ≤ _; exact Nat.le_of_eq rfl) (by decide)
  refine own_to st1 ?_
  show own_Fin p e below G (T1.setTop (mkF m 4 #[.val (.ref ad0), .val (.ref ad1), .val (.ref ad2), .val (.ref ad3)] []))
  refine own_to (fun _ kz => XS.aloadN X1.here hx rfl (hb hby d1_4) rfl (rfl)  kz) ?_
  show own_Fin p e below G (T1.setTop (mkF m 5 #[.val (.ref ad0), .val (.ref ad1), .val (.ref ad2), .val (.ref ad3)] [(.ref ad0)]))
  refine own_to (fun _ kz => XS.aloadN X1.here hx rfl (hb hby d1_5) rfl (rfl)  kz) ?_
  show own_Fin p e below G (T1.setTop (mkF m 6 #[.val (.ref ad0), .val (.ref ad1), .val (.ref ad2), .val (.ref ad3)] [(.ref ad1), (.ref ad0)]))
  obtain ⟨T6, h6, X6, e6, W6, st6⟩ := putF X1 hx hZ hown (host := "") (Or.inl (hw _ (List.mem_of_getElem? (i := 10) rfl))) Via.refl e1 F_start_ad0 E_ad0 (Or.inr ⟨(hw _ (List.mem_of_getElem? (i := 11) rfl)), rfl, hnm⟩) (hw _ (List.mem_of_getElem? (i := 2) rfl)) (ty := (.array .int)) (by decide) rfl rfl (g := (mkF m 6 #[.val (.ref ad0), .val (.ref ad1), .val (.ref ad2), .val (.ref ad3)] [(.ref ad1), (.ref ad0)])) rfl rfl (hb hby d1_6)
  refine own_to st6 ?_
  have Fw6 : Fld Z h6 ad0 "com/example/lanterns/lanterns/solvers/Graph" "start" "[I" (.ref ad1) := Fld.same W6 F_start_ad0
  have N6 := Fr.snoc X6 N0 g_ad0
  show own_Fin p e below G (T6.setTop (mkF m 9 #[.val (.ref ad0), .val (.ref ad1), .val (.ref ad2), .val (.ref ad3)] []))
  refine own_to (fun _ kz => XS.aloadN X6.here hx rfl (hb hby d1_9) rfl (rfl)  kz) ?_
  show own_Fin p e below G (T6.setTop (mkF m 10 #[.val (.ref ad0), .val (.ref ad1), .val (.ref ad2), .val (.ref ad3)] [(.ref ad0)]))
  refine own_to (fun _ kz => XS.aloadN X6.here hx rfl (hb hby d1_10) rfl (rfl)  kz) ?_
  show own_Fin p e below G (T6.setTop (mkF m 11 #[.val (.ref ad0), .val (.ref ad1), .val (.ref ad2), .val (.ref ad3)] [(.ref ad2), (.ref ad0)]))
  have E_ad0_at_11 : Exa Z h6 ad0 "com/example/lanterns/lanterns/solvers/Graph" := (E_ad0.wr W6)
  have F_neighbours_ad0_at_11 : Fld Z h6 ad0 "com/example/lanterns/lanterns/solvers/Graph" "neighbours" "[I" .null := (F_neighbours_ad0.other W6 (Or.inr (slot_ne (Or.inr (hw _ (List.mem_of_getElem? (i := 13) rfl))) (Or.inr (hw _ (List.mem_of_getElem? (i := 11) rfl))) (by decide) (t := (.array .int)) (t' := (.array .int)) (by decide) (by decide))))
  obtain ⟨T11, h11, X11, e11, W11, st11⟩ := putF X6 hx hZ hown (host := "") (Or.inl (hw _ (List.mem_of_getElem? (i := 12) rfl))) Via.refl e6 F_neighbours_ad0_at_11 E_ad0_at_11 (Or.inr ⟨(hw _ (List.mem_of_getElem? (i := 13) rfl)), rfl, hnm⟩) (hw _ (List.mem_of_getElem? (i := 2) rfl)) (ty := (.array .int)) (by decide) rfl rfl (g := (mkF m 11 #[.val (.ref ad0), .val (.ref ad1), .val (.ref ad2), .val (.ref ad3)] [(.ref ad2), (.ref ad0)])) rfl rfl (hb hby d1_11)
  refine own_to st11 ?_
  have Fw11 : Fld Z h11 ad0 "com/example/lanterns/lanterns/solvers/Graph" "neighbours" "[I" (.ref ad2) := Fld.same W11 F_neighbours_ad0_at_11
  have N11 := Fr.snoc X11 N6 g_ad0
  show own_Fin p e below G (T11.setTop (mkF m 14 #[.val (.ref ad0), .val (.ref ad1), .val (.ref ad2), .val (.ref ad3)] []))
  refine own_to (fun _ kz => XS.aloadN X11.here hx rfl (hb hby d1_14) rfl (rfl)  kz) ?_
  show own_Fin p e below G (T11.setTop (mkF m 15 #[.val (.ref ad0), .val (.ref ad1), .val (.ref ad2), .val (.ref ad3)] [(.ref ad0)]))
  refine own_to (fun _ kz => XS.aloadN X11.here hx rfl (hb hby d1_15) rfl (rfl)  kz) ?_
  show own_Fin p e below G (T11.setTop (mkF m 16 #[.val (.ref ad0), .val (.ref ad1), .val (.ref ad2), .val (.ref ad3)] [(.ref ad3), (.ref ad0)]))
  have E_ad0_at_16 : Exa Z h11 ad0 "com/example/lanterns/lanterns/solvers/Graph" := (E_ad0_at_11.wr W11)
  have F_edges_ad0_at_16 : Fld Z h11 ad0 "com/example/lanterns/lanterns/solvers/Graph" "edges" "[I" .null := ((F_edges_ad0.other W6 (Or.inr (slot_ne (Or.inr (hw _ (List.mem_of_getElem? (i := 15) rfl))) (Or.inr (hw _ (List.mem_of_getElem? (i := 11) rfl))) (by decide) (t := (.array .int)) (t' := (.array .int)) (by decide) (by decide)))).other W11 (Or.inr (slot_ne (Or.inr (hw _ (List.mem_of_getElem? (i := 15) rfl))) (Or.inr (hw _ (List.mem_of_getElem? (i := 13) rfl))) (by decide) (t := (.array .int)) (t' := (.array .int)) (by decide) (by decide))))
  obtain ⟨T16, h16, X16, e16, W16, st16⟩ := putF X11 hx hZ hown (host := "") (Or.inl (hw _ (List.mem_of_getElem? (i := 14) rfl))) Via.refl e11 F_edges_ad0_at_16 E_ad0_at_16 (Or.inr ⟨(hw _ (List.mem_of_getElem? (i := 15) rfl)), rfl, hnm⟩) (hw _ (List.mem_of_getElem? (i := 2) rfl)) (ty := (.array .int)) (by decide) rfl rfl (g := (mkF m 16 #[.val (.ref ad0), .val (.ref ad1), .val (.ref ad2), .val (.ref ad3)] [(.ref ad3), (.ref ad0)])) rfl rfl (hb hby d1_16)
  refine own_to st16 ?_
  have Fw16 : Fld Z h16 ad0 "com/example/lanterns/lanterns/solvers/Graph" "edges" "[I" (.ref ad3) := Fld.same W16 F_edges_ad0_at_16
  have N16 := Fr.snoc X16 N11 g_ad0
  show own_Fin p e below G (T16.setTop (mkF m 19 #[.val (.ref ad0), .val (.ref ad1), .val (.ref ad2), .val (.ref ad3)] []))
  have KP_19 : Keep h0 h16 [ad0] := ((((Keep.refl h0 [ad0]).wr W6 (Or.inl (List.mem_of_getElem? (i := 0) rfl))).wr W11 (Or.inl (List.mem_of_getElem? (i := 0) rfl))).wr W16 (Or.inl (List.mem_of_getElem? (i := 0) rfl)))
  have E_ad0_at_19 : Exa Z h16 ad0 "com/example/lanterns/lanterns/solvers/Graph" := (E_ad0_at_16.wr W16)
  have Fw6_at_19 : Fld Z h16 ad0 "com/example/lanterns/lanterns/solvers/Graph" "start" "[I" (.ref ad1) := ((Fw6.other W11 (Or.inr (slot_ne (Or.inr (hw _ (List.mem_of_getElem? (i := 11) rfl))) (Or.inr (hw _ (List.mem_of_getElem? (i := 13) rfl))) (by decide) (t := (.array .int)) (t' := (.array .int)) (by decide) (by decide)))).other W16 (Or.inr (slot_ne (Or.inr (hw _ (List.mem_of_getElem? (i := 11) rfl))) (Or.inr (hw _ (List.mem_of_getElem? (i := 15) rfl))) (by decide) (t := (.array .int)) (t' := (.array .int)) (by decide) (by decide))))
  have Fw11_at_19 : Fld Z h16 ad0 "com/example/lanterns/lanterns/solvers/Graph" "neighbours" "[I" (.ref ad2) := (Fw11.other W16 (Or.inr (slot_ne (Or.inr (hw _ (List.mem_of_getElem? (i := 13) rfl))) (Or.inr (hw _ (List.mem_of_getElem? (i := 15) rfl))) (by decide) (t := (.array .int)) (t' := (.array .int)) (by decide) (by decide))))
  exact own_retV X16 hx hlk hG Bd.returns (hb hby d1_19) (by decide) (by decide) (by rw [e16]; exact ⟨rfl, N16, KP_19, E_ad0_at_19, Fw6_at_19, Fw11_at_19, Fw16⟩)
theorem d3_0 : decode prog_24_method_9_code 0 = .ok (.aload_n 0, 1) := by decide +kernel
theorem d3_1 : decode prog_24_method_9_code 1 = .ok (.getfield 7, 3) := by decide +kernel
theorem d3_4 : decode prog_24_method_9_code 4 = .ok (.iload_n 1, 1) := by decide +kernel
theorem d3_5 : decode prog_24_method_9_code 5 = .ok (.iconst 1, 1) := by decide +kernel
theorem d3_6 : decode prog_24_method_9_code 6 = .ok (.iadd, 1) := by decide +kernel
theorem d3_7 : decode prog_24_method_9_code 7 = .ok (.iaload, 1) := by decide +kernel
theorem d3_8 : decode prog_24_method_9_code 8 = .ok (.aload_n 0, 1) := by decide +kernel
theorem d3_9 : decode prog_24_method_9_code 9 = .ok (.getfield 7, 3) := by decide +kernel
theorem d3_12 : decode prog_24_method_9_code 12 = .ok (.iload_n 1, 1) := by decide +kernel
theorem d3_13 : decode prog_24_method_9_code 13 = .ok (.iaload, 1) := by decide +kernel
theorem d3_14 : decode prog_24_method_9_code 14 = .ok (.isub, 1) := by decide +kernel
theorem d3_15 : decode prog_24_method_9_code 15 = .ok (.ireturn, 1) := by decide +kernel
theorem ef3 (m : MethodId) (ad0 : Addr) (p1 : Int32) : entryFrame m #[(.ref ad0), (.int p1)] 2 = mkF m 0 #[.val (.ref ad0), .val (.int p1)] [] := by first | (simp [entryFrame, mkF, argsToLocals, Value.category]; done) | rfl
def f3 (p1 : Int32) (n : Nat) (xs : Nat → Int32) (k : Nat) : Int32 := ((xs (k + 1)) - (xs k))
def Q3 (Z : State) (ad0 : Addr) (p1 : Int32) (n : Nat) (xs : Nat → Int32) (k : Nat) (st : Addr) (h0 : Heap) (n0 : Nat) (v : Option Value) (h : Heap) (L : List Loc) : Prop := v = some (.int (f3 p1 n xs k)) ∧ Fr n0 L ∧ h = h0
set_option maxRecDepth 65536 in
set_option maxHeartbeats 40000000 in
theorem rm3 (l : Launch) (Z : State) (a0 : Array Value) (hw : ∀ d ∈ tables_1, d.before a0 Z = true) (ws : List Jvm.Cond) (ad0 : Addr) (p1 : Int32) (n : Nat) (xs : Nat → Int32) (k : Nat) (st : Addr) (h0 : Heap) (n0 : Nat) (Z0 : n0 ≤ h0.size) (F_start_ad0 : Fld Z h0 ad0 "com/example/lanterns/lanterns/solvers/Graph" "start" "[I" (.ref st)) (V_st : own_AV Value.int Z h0 st .int n xs) (hp0 : ¬ p1 < 0) (hk : p1.toNatClampNeg = k) (h1 : ¬ p1 + (1 : Int32) < 0) (hk1 : (p1 + (1 : Int32)).toNatClampNeg = k + 1) (hlt : k + 1 < n) :
    MetFree l (⟨"com/example/lanterns/lanterns/solvers/Graph", "degree", "(I)I"⟩ : MethodName) (head1 (Jvm.Cond.code (⟨"com/example/lanterns/lanterns/solvers/Graph", "degree", "(I)I"⟩ : MethodName) prog_24_method_9_code 2 (some .int) :: ws) ({ frames := 0, cells := 0, slots := 0, locals := 0 } : Room)) (fun a U => a = #[(.ref ad0), (.int p1)] ∧ Z.Warmed39 U.vm ∧ U.heap = h0) (fun _ _ _ _ _ => True) (fun _ U o U' => ∃ v L, o = .returned v ∧ Q3 Z ad0 p1 n xs k st h0 n0 v U'.heap L ∧ FrameEnd U o U' L ({ frames := 0, cells := 0, slots := 0, locals := 0 } : Room).cells ({ frames := 0, cells := 0, slots := 0, locals := 0 } : Room).slots) := by
  refine MetFree.of_bodySF (plainFor_of_name own_pn0) hisR ?_
  intro p e s m args below meth c s₁ Bd hml0 hP hK
  obtain ⟨rfl, hZ, hh⟩ := hP
  have hx := Bd.exec
  have hby := Bd.bytes
  have hml : c.maxLocals = 2 := hml0
  have hown : s.vm.findClass "com/example/lanterns/lanterns/solvers/Graph" = some m.cls := findClass_of_methodNamed Bd.named
  have hnm := (name_of_methodNamed Bd.named Bd.method).1
  have hlk : meth.locks = false := BodyLoose.notSynchronized Bd
  have X0 : Stand p l e ({ frames := 0, cells := 0, slots := 0, locals := 0 } : Room) s m #[(.ref ad0), (.int p1)] below meth c s₁ [] 0 0 := Stand.of_body Bd
  have e0 : s₁.heap = h0 := by rw [← hh, Bd.state]; rfl
  have N0 := Fr.nil n0
  obtain ⟨G, hG⟩ : ∃ G, G = own_G s (Q3 Z ad0 p1 n xs k st h0 n0) ({ frames := 0, cells := 0, slots := 0, locals := 0 } : Room).cells ({ frames := 0, cells := 0, slots := 0, locals := 0 } : Room).slots := ⟨_, rfl⟩
  show own_Fin p e below (own_G s (Q3 Z ad0 p1 n xs k st h0 n0) ({ frames := 0, cells := 0, slots := 0, locals := 0 } : Room).cells ({ frames := 0, cells := 0, slots := 0, locals := 0 } : Room).slots) (s₁.setTop (entryFrame m #[(.ref ad0), (.int p1)] 2))
  rw [← hG]
  refine own_to (fun _ kz => castTop (ef3 m ad0 p1) kz) ?_
  have q0 : (f3 p1 n xs k) = (f3 p1 n xs k) := rfl
  show own_Fin p e below G (s₁.setTop (mkF m 0 #[.val (.ref ad0), .val (.int p1)] []))
  refine own_to (fun _ kz => XS.aloadN X0.here hx rfl (hb hby d3_0) rfl (rfl)  kz) ?_
  show own_Fin p e below G (s₁.setTop (mkF m 1 #[.val (.ref ad0), .val (.int p1)] [(.ref ad0)]))
  obtain ⟨T1, X1, e1, st1⟩ := getF X0 hx hZ hown (host := "") (Or.inl (hw _ (List.mem_of_getElem? (i := 10) rfl))) Via.refl e0 F_start_ad0 (g := (mkF m 1 #[.val (.ref ad0), .val (.int p1)] [(.ref ad0)])) rfl rfl (hb hby d3_1)
  refine own_to st1 ?_
  show own_Fin p e below G (T1.setTop (mkF m 4 #[.val (.ref ad0), .val (.int p1)] [(.ref st)]))
  refine own_to (fun _ kz => XS.iloadN X1.here hx rfl (hb hby d3_4) rfl  kz) ?_
  show own_Fin p e below G (T1.setTop (mkF m 5 #[.val (.ref ad0), .val (.int p1)] [(.int p1), (.ref st)]))
  refine own_to (fun _ kz => XS.iconst X1.here hx rfl (hb hby d3_5) kz) ?_
  show own_Fin p e below G (T1.setTop (mkF m 6 #[.val (.ref ad0), .val (.int p1)] [(.int (1 : Int32)), (.int p1), (.ref st)]))
  refine own_to (fun _ kz => XS.iadd X1.here hx rfl (hb hby d3_6) rfl kz) ?_
  show own_Fin p e below G (T1.setTop (mkF m 7 #[.val (.ref ad0), .val (.int p1)] [(.int (p1 + (1 : Int32))), (.ref st)]))
  refine own_to (fun _ kz => own_iaload X1 hx hZ e1 V_st (j := (p1 + (1 : Int32))) h1 hk1 hlt (g := (mkF m 7 #[.val (.ref ad0), .val (.int p1)] [(.int (p1 + (1 : Int32))), (.ref st)])) rfl rfl (hb hby d3_7) kz) ?_
  show own_Fin p e below G (T1.setTop (mkF m 8 #[.val (.ref ad0), .val (.int p1)] [(.int (xs (k + 1)))]))
  refine own_to (fun _ kz => XS.aloadN X1.here hx rfl (hb hby d3_8) rfl (rfl)  kz) ?_
  show own_Fin p e below G (T1.setTop (mkF m 9 #[.val (.ref ad0), .val (.int p1)] [(.ref ad0), (.int (xs (k + 1)))]))
  obtain ⟨T9, X9, e9, st9⟩ := getF X1 hx hZ hown (host := "") (Or.inl (hw _ (List.mem_of_getElem? (i := 10) rfl))) Via.refl e1 F_start_ad0 (g := (mkF m 9 #[.val (.ref ad0), .val (.int p1)] [(.ref ad0), (.int (xs (k + 1)))])) rfl rfl (hb hby d3_9)
  refine own_to st9 ?_
  show own_Fin p e below G (T9.setTop (mkF m 12 #[.val (.ref ad0), .val (.int p1)] [(.ref st), (.int (xs (k + 1)))]))
  refine own_to (fun _ kz => XS.iloadN X9.here hx rfl (hb hby d3_12) rfl  kz) ?_
  show own_Fin p e below G (T9.setTop (mkF m 13 #[.val (.ref ad0), .val (.int p1)] [(.int p1), (.ref st), (.int (xs (k + 1)))]))
  refine own_to (fun _ kz => own_iaload X9 hx hZ e9 V_st (j := p1) hp0 hk (Nat.lt_of_succ_lt hlt) (g := (mkF m 13 #[.val (.ref ad0), .val (.int p1)] [(.int p1), (.ref st), (.int (xs (k + 1)))])) rfl rfl (hb hby d3_13) kz) ?_
  show own_Fin p e below G (T9.setTop (mkF m 14 #[.val (.ref ad0), .val (.int p1)] [(.int (xs k)), (.int (xs (k + 1)))]))
  refine own_to (fun _ kz => XS.isub X9.here hx rfl (hb hby d3_14) rfl kz) ?_
  show own_Fin p e below G (T9.setTop (mkF m 15 #[.val (.ref ad0), .val (.int p1)] [(.int ((xs (k + 1)) - (xs k)))]))
  exact own_retI X9 hx hlk hG Bd.returns (hb hby d3_15) (by decide) (by decide) ⟨(congrArg (fun z => some (Value.int z)) q0).symm, N0, e9⟩
theorem own_m7 (a : Int32) : 0 ≤ (a &&& (7 : Int32)).toInt ∧ (a &&& (7 : Int32)).toInt ≤ 7 := c_and a 7 (by decide)
theorem own_m15 (a : Int32) : 0 ≤ (a &&& (15 : Int32)).toInt ∧ (a &&& (15 : Int32)).toInt ≤ 15 := c_and a 15 (by decide)
theorem own_tot {a b c d : Int32} (ha : 0 ≤ a.toInt ∧ a.toInt ≤ 7) (hb : 0 ≤ b.toInt ∧ b.toInt ≤ 7) (hc : 0 ≤ c.toInt ∧ c.toInt ≤ 7) (hd : 0 ≤ d.toInt ∧ d.toInt ≤ 15) : ¬ (((d + a) + b) + c) < 0 ∧ (((d + a) + b) + c).toNatClampNeg ≤ 36 := by
  have e1 := c_iadd d a
  have e2 := c_iadd (d + a) b
  have e3 := c_iadd ((d + a) + b) c
  have r1 := rng32 (d + a); have r2 := rng32 ((d + a) + b); have r3 := rng32 (((d + a) + b) + c)
  have h0 : ¬ (((d + a) + b) + c) < 0 := by rw [Int32.lt_iff_toInt_lt]; have z : (0 : Int32).toInt = 0 := by decide
                                            omega
  exact ⟨h0, by have := nat_of h0; omega⟩
theorem own_pd0 : parseMethodDescriptor "([I[I[I)V" = some ⟨[(.array .int), (.array .int), (.array .int)], none⟩ := by decide +kernel
theorem own_pd1 : parseMethodDescriptor "(I)I" = some ⟨[.int], some .int⟩ := by decide +kernel
theorem own_pn1 : plainName "com/example/lanterns/lanterns/solvers/GraphDegreePinLaw" = true := by first | (simp [plainName, overriddenIn]; done) | decide +kernel
theorem ef0 (m : MethodId) (p0 : Int32) (p1 : Int32) (p2 : Int32) (p3 : Int32) : entryFrame m #[(.int p0), (.int p1), (.int p2), (.int p3)] maxLocals = mkF m 0 #[.val (.int p0), .val (.int p1), .val (.int p2), .val (.int p3), .unset, .unset, .unset, .unset, .unset, .unset, .unset, .unset, .unset] [] := by first | (simp [entryFrame, mkF, argsToLocals, Value.category, maxLocals]; done) | rfl
def f0_144 (p0 : Int32) (p1 : Int32) (p2 : Int32) (p3 : Int32) (v4_24 : Int32) (v5_24 : Int32) (v6_24 : Int32) (v7_24 : Int32) : Int32 := (0 : Int32)
def f0_24 (p0 : Int32) (p1 : Int32) (p2 : Int32) (p3 : Int32) (v4_24 : Int32) (v5_24 : Int32) (v6_24 : Int32) (v7_24 : Int32) : Int32 := if (f3 (0 : Int32) 4 (own_upd (own_upd (own_upd (own_upd (fun _ => (0 : Int32)) 0 v7_24) 1 (v7_24 + v4_24)) 2 ((v7_24 + v4_24) + v5_24)) 3 (((v7_24 + v4_24) + v5_24) + v6_24)) 0) = v4_24 then (if (f3 (1 : Int32) 4 (own_upd (own_upd (own_upd (own_upd (fun _ => (0 : Int32)) 0 v7_24) 1 (v7_24 + v4_24)) 2 ((v7_24 + v4_24) + v5_24)) 3 (((v7_24 + v4_24) + v5_24) + v6_24)) 1) = v5_24 then (if (f3 (2 : Int32) 4 (own_upd (own_upd (own_upd (own_upd (fun _ => (0 : Int32)) 0 v7_24) 1 (v7_24 + v4_24)) 2 ((v7_24 + v4_24) + v5_24)) 3 (((v7_24 + v4_24) + v5_24) + v6_24)) 2) = v6_24 then (1 : Int32) else (f0_144 p0 p1 p2 p3 v4_24 v5_24 v6_24 v7_24)) else (f0_144 p0 p1 p2 p3 v4_24 v5_24 v6_24 v7_24)) else (f0_144 p0 p1 p2 p3 v4_24 v5_24 v6_24 v7_24)
def f0 (p0 : Int32) (p1 : Int32) (p2 : Int32) (p3 : Int32) : Int32 := (f0_24 p0 p1 p2 p3 (p0 &&& (7 : Int32)) (p1 &&& (7 : Int32)) (p2 &&& (7 : Int32)) (p3 &&& (15 : Int32)))
def Q0 (Z : State) (p0 : Int32) (p1 : Int32) (p2 : Int32) (p3 : Int32) (h0 : Heap) (n0 : Nat) (v : Option Value) (h : Heap) (L : List Loc) : Prop := v = some (.int (f0 p0 p1 p2 p3)) ∧ Fr n0 L ∧ True
set_option maxRecDepth 65536 in
set_option maxHeartbeats 40000000 in
theorem rm0 (l : Launch) (Z : State) (a0 : Array Value) (hw : ∀ d ∈ tables_1, d.before a0 Z = true) (ws : List Jvm.Cond) (p0 : Int32) (p1 : Int32) (p2 : Int32) (p3 : Int32) (h0 : Heap) (n0 : Nat) (Z0 : n0 ≤ h0.size) :
    MetFree l x (head1 (Jvm.Cond.code x code maxLocals ret :: ws) room_1) (fun a U => a = #[(.int p0), (.int p1), (.int p2), (.int p3)] ∧ Z.Warmed39 U.vm ∧ U.heap = h0) (fun _ _ _ _ _ => True) (fun _ U o U' => ∃ v L, o = .returned v ∧ Q0 Z p0 p1 p2 p3 h0 n0 v U'.heap L ∧ FrameEnd U o U' L room_1.cells room_1.slots) := by
  refine MetFree.of_bodySF (plainFor_of_name own_pn1) hisR ?_
  intro p e s m args below meth c s₁ Bd hml0 hP hK
  obtain ⟨rfl, hZ, hh⟩ := hP
  have hx := Bd.exec
  have hby := Bd.bytes
  have hml : c.maxLocals = 13 := hml0
  have hown : s.vm.findClass "com/example/lanterns/lanterns/solvers/GraphDegreePinLaw" = some m.cls := findClass_of_methodNamed Bd.named
  have hnm := (name_of_methodNamed Bd.named Bd.method).1
  have hlk : meth.locks = false := BodyLoose.notSynchronized Bd
  have X0 : Stand p l e room_1 s m #[(.int p0), (.int p1), (.int p2), (.int p3)] below meth c s₁ [] 0 0 := Stand.of_body Bd
  have e0 : s₁.heap = h0 := by rw [← hh, Bd.state]; rfl
  have N0 := Fr.nil n0
  obtain ⟨G, hG⟩ : ∃ G, G = own_G s (Q0 Z p0 p1 p2 p3 h0 n0) room_1.cells room_1.slots := ⟨_, rfl⟩
  show own_Fin p e below (own_G s (Q0 Z p0 p1 p2 p3 h0 n0) room_1.cells room_1.slots) (s₁.setTop (entryFrame m #[(.int p0), (.int p1), (.int p2), (.int p3)] maxLocals))
  rw [← hG]
  refine own_to (fun _ kz => castTop (ef0 m p0 p1 p2 p3) kz) ?_
  have q0 : (f0 p0 p1 p2 p3) = (f0 p0 p1 p2 p3) := rfl
  show own_Fin p e below G (s₁.setTop (mkF m 0 #[.val (.int p0), .val (.int p1), .val (.int p2), .val (.int p3), .unset, .unset, .unset, .unset, .unset, .unset, .unset, .unset, .unset] []))
  refine own_to (fun _ kz => XS.iloadN X0.here hx rfl (hb hby at_0) rfl  kz) ?_
  show own_Fin p e below G (s₁.setTop (mkF m 1 #[.val (.int p0), .val (.int p1), .val (.int p2), .val (.int p3), .unset, .unset, .unset, .unset, .unset, .unset, .unset, .unset, .unset] [(.int p0)]))
  refine own_to (fun _ kz => XS.bipush X0.here hx rfl (hb hby at_1) kz) ?_
  show own_Fin p e below G (s₁.setTop (mkF m 3 #[.val (.int p0), .val (.int p1), .val (.int p2), .val (.int p3), .unset, .unset, .unset, .unset, .unset, .unset, .unset, .unset, .unset] [(.int (7 : Int32)), (.int p0)]))
  refine own_to (fun _ kz => XS.iand X0.here hx rfl (hb hby at_3) rfl kz) ?_
  show own_Fin p e below G (s₁.setTop (mkF m 4 #[.val (.int p0), .val (.int p1), .val (.int p2), .val (.int p3), .unset, .unset, .unset, .unset, .unset, .unset, .unset, .unset, .unset] [(.int (p0 &&& (7 : Int32)))]))
  refine own_to (fun _ kz => XS.istore X0.here hx rfl (hb hby at_4) rfl (l' := #[.val (.int p0), .val (.int p1), .val (.int p2), .val (.int p3), .val (.int (p0 &&& (7 : Int32))), .unset, .unset, .unset, .unset, .unset, .unset, .unset, .unset]) rfl kz) ?_
  show own_Fin p e below G (s₁.setTop (mkF m 6 #[.val (.int p0), .val (.int p1), .val (.int p2), .val (.int p3), .val (.int (p0 &&& (7 : Int32))), .unset, .unset, .unset, .unset, .unset, .unset, .unset, .unset] []))
  refine own_to (fun _ kz => XS.iloadN X0.here hx rfl (hb hby at_6) rfl  kz) ?_
  show own_Fin p e below G (s₁.setTop (mkF m 7 #[.val (.int p0), .val (.int p1), .val (.int p2), .val (.int p3), .val (.int (p0 &&& (7 : Int32))), .unset, .unset, .unset, .unset, .unset, .unset, .unset, .unset] [(.int p1)]))
  refine own_to (fun _ kz => XS.bipush X0.here hx rfl (hb hby at_7) kz) ?_
  show own_Fin p e below G (s₁.setTop (mkF m 9 #[.val (.int p0), .val (.int p1), .val (.int p2), .val (.int p3), .val (.int (p0 &&& (7 : Int32))), .unset, .unset, .unset, .unset, .unset, .unset, .unset, .unset] [(.int (7 : Int32)), (.int p1)]))
  refine own_to (fun _ kz => XS.iand X0.here hx rfl (hb hby at_9) rfl kz) ?_
  show own_Fin p e below G (s₁.setTop (mkF m 10 #[.val (.int p0), .val (.int p1), .val (.int p2), .val (.int p3), .val (.int (p0 &&& (7 : Int32))), .unset, .unset, .unset, .unset, .unset, .unset, .unset, .unset] [(.int (p1 &&& (7 : Int32)))]))
  refine own_to (fun _ kz => XS.istore X0.here hx rfl (hb hby at_10) rfl (l' := #[.val (.int p0), .val (.int p1), .val (.int p2), .val (.int p3), .val (.int (p0 &&& (7 : Int32))), .val (.int (p1 &&& (7 : Int32))), .unset, .unset, .unset, .unset, .unset, .unset, .unset]) rfl kz) ?_
  show own_Fin p e below G (s₁.setTop (mkF m 12 #[.val (.int p0), .val (.int p1), .val (.int p2), .val (.int p3), .val (.int (p0 &&& (7 : Int32))), .val (.int (p1 &&& (7 : Int32))), .unset, .unset, .unset, .unset, .unset, .unset, .unset] []))
  refine own_to (fun _ kz => XS.iloadN X0.here hx rfl (hb hby at_12) rfl  kz) ?_
  show own_Fin p e below G (s₁.setTop (mkF m 13 #[.val (.int p0), .val (.int p1), .val (.int p2), .val (.int p3), .val (.int (p0 &&& (7 : Int32))), .val (.int (p1 &&& (7 : Int32))), .unset, .unset, .unset, .unset, .unset, .unset, .unset] [(.int p2)]))
  refine own_to (fun _ kz => XS.bipush X0.here hx rfl (hb hby at_13) kz) ?_
  show own_Fin p e below G (s₁.setTop (mkF m 15 #[.val (.int p0), .val (.int p1), .val (.int p2), .val (.int p3), .val (.int (p0 &&& (7 : Int32))), .val (.int (p1 &&& (7 : Int32))), .unset, .unset, .unset, .unset, .unset, .unset, .unset] [(.int (7 : Int32)), (.int p2)]))
  refine own_to (fun _ kz => XS.iand X0.here hx rfl (hb hby at_15) rfl kz) ?_
  show own_Fin p e below G (s₁.setTop (mkF m 16 #[.val (.int p0), .val (.int p1), .val (.int p2), .val (.int p3), .val (.int (p0 &&& (7 : Int32))), .val (.int (p1 &&& (7 : Int32))), .unset, .unset, .unset, .unset, .unset, .unset, .unset] [(.int (p2 &&& (7 : Int32)))]))
  refine own_to (fun _ kz => XS.istore X0.here hx rfl (hb hby at_16) rfl (l' := #[.val (.int p0), .val (.int p1), .val (.int p2), .val (.int p3), .val (.int (p0 &&& (7 : Int32))), .val (.int (p1 &&& (7 : Int32))), .val (.int (p2 &&& (7 : Int32))), .unset, .unset, .unset, .unset, .unset, .unset]) rfl kz) ?_
  show own_Fin p e below G (s₁.setTop (mkF m 18 #[.val (.int p0), .val (.int p1), .val (.int p2), .val (.int p3), .val (.int (p0 &&& (7 : Int32))), .val (.int (p1 &&& (7 : Int32))), .val (.int (p2 &&& (7 : Int32))), .unset, .unset, .unset, .unset, .unset, .unset] []))
  refine own_to (fun _ kz => XS.iloadN X0.here hx rfl (hb hby at_18) rfl  kz) ?_
  show own_Fin p e below G (s₁.setTop (mkF m 19 #[.val (.int p0), .val (.int p1), .val (.int p2), .val (.int p3), .val (.int (p0 &&& (7 : Int32))), .val (.int (p1 &&& (7 : Int32))), .val (.int (p2 &&& (7 : Int32))), .unset, .unset, .unset, .unset, .unset, .unset] [(.int p3)]))
  refine own_to (fun _ kz => XS.bipush X0.here hx rfl (hb hby at_19) kz) ?_
  show own_Fin p e below G (s₁.setTop (mkF m 21 #[.val (.int p0), .val (.int p1), .val (.int p2), .val (.int p3), .val (.int (p0 &&& (7 : Int32))), .val (.int (p1 &&& (7 : Int32))), .val (.int (p2 &&& (7 : Int32))), .unset, .unset, .unset, .unset, .unset, .unset] [(.int (15 : Int32)), (.int p3)]))
  refine own_to (fun _ kz => XS.iand X0.here hx rfl (hb hby at_21) rfl kz) ?_
  show own_Fin p e below G (s₁.setTop (mkF m 22 #[.val (.int p0), .val (.int p1), .val (.int p2), .val (.int p3), .val (.int (p0 &&& (7 : Int32))), .val (.int (p1 &&& (7 : Int32))), .val (.int (p2 &&& (7 : Int32))), .unset, .unset, .unset, .unset, .unset, .unset] [(.int (p3 &&& (15 : Int32)))]))
  refine own_to (fun _ kz => XS.istore X0.here hx rfl (hb hby at_22) rfl (l' := #[.val (.int p0), .val (.int p1), .val (.int p2), .val (.int p3), .val (.int (p0 &&& (7 : Int32))), .val (.int (p1 &&& (7 : Int32))), .val (.int (p2 &&& (7 : Int32))), .val (.int (p3 &&& (15 : Int32))), .unset, .unset, .unset, .unset, .unset]) rfl kz) ?_
  show own_Fin p e below G (s₁.setTop (mkF m 24 #[.val (.int p0), .val (.int p1), .val (.int p2), .val (.int p3), .val (.int (p0 &&& (7 : Int32))), .val (.int (p1 &&& (7 : Int32))), .val (.int (p2 &&& (7 : Int32))), .val (.int (p3 &&& (15 : Int32))), .unset, .unset, .unset, .unset, .unset] []))
  have K24 : ∀ (v4_24 : Int32) (v5_24 : Int32) (v6_24 : Int32) (v7_24 : Int32) (jh0_24 : 0 ≤ v4_24.toInt ∧ v4_24.toInt ≤ 7) (jh1_24 : 0 ≤ v5_24.toInt ∧ v5_24.toInt ≤ 7) (jh2_24 : 0 ≤ v6_24.toInt ∧ v6_24.toInt ≤ 7) (jh3_24 : 0 ≤ v7_24.toInt ∧ v7_24.toInt ≤ 15) (q_j24 : (f0 p0 p1 p2 p3) = (f0_24 p0 p1 p2 p3 v4_24 v5_24 v6_24 v7_24)), own_Fin p e below G (s₁.setTop (mkF m 24 #[.val (.int p0), .val (.int p1), .val (.int p2), .val (.int p3), .val (.int v4_24), .val (.int v5_24), .val (.int v6_24), .val (.int v7_24), .unset, .unset, .unset, .unset, .unset] [])) := by
    intro v4_24 v5_24 v6_24 v7_24 jh0_24 jh1_24 jh2_24 jh3_24 q_j24
    refine own_to (fun _ kz => XS.iconst X0.here hx rfl (hb hby at_24) kz) ?_
    show own_Fin p e below G (s₁.setTop (mkF m 25 #[.val (.int p0), .val (.int p1), .val (.int p2), .val (.int p3), .val (.int v4_24), .val (.int v5_24), .val (.int v6_24), .val (.int v7_24), .unset, .unset, .unset, .unset, .unset] [(.int (4 : Int32))]))
    obtain ⟨T25, h25, k25, X25, e25, E25, A25, st25⟩ := newP X0 hx hZ (hw _ (List.mem_of_getElem? (i := 0) rfl)) e0 (g := (mkF m 25 #[.val (.int p0), .val (.int p1), .val (.int p2), .val (.int p3), .val (.int v4_24), .val (.int v5_24), .val (.int v6_24), .val (.int v7_24), .unset, .unset, .unset, .unset, .unset] [(.int (4 : Int32))])) rfl (hb hby at_25) rfl (by decide) (cap := 4) (by decide) (by decide) (by decide) (by decide)
    obtain ⟨b25, g25⟩ : ∃ z, z = h0.size := ⟨_, rfl⟩
    rw [← g25] at A25 st25
    refine own_to st25 ?_
    have g_b25 : n0 ≤ b25 := Nat.le_trans Z0 (Nat.le_of_eq g25.symm)
    have V25 : own_AV Value.int Z h25 b25 .int 4 (fun _ => (0 : Int32)) := own_AV.new A25 (by decide) (by decide) (fun _ => rfl)
    show own_Fin p e below G (T25.setTop (mkF m 27 #[.val (.int p0), .val (.int p1), .val (.int p2), .val (.int p3), .val (.int v4_24), .val (.int v5_24), .val (.int v6_24), .val (.int v7_24), .unset, .unset, .unset, .unset, .unset] [(.ref b25)]))
    refine own_to (fun _ kz => XS.dup X25.here hx rfl (hb hby at_27) rfl rfl kz) ?_
    show own_Fin p e below G (T25.setTop (mkF m 28 #[.val (.int p0), .val (.int p1), .val (.int p2), .val (.int p3), .val (.int v4_24), .val (.int v5_24), .val (.int v6_24), .val (.int v7_24), .unset, .unset, .unset, .unset, .unset] [(.ref b25), (.ref b25)]))
    refine own_to (fun _ kz => XS.iconst X25.here hx rfl (hb hby at_28) kz) ?_
    show own_Fin p e below G (T25.setTop (mkF m 29 #[.val (.int p0), .val (.int p1), .val (.int p2), .val (.int p3), .val (.int v4_24), .val (.int v5_24), .val (.int v6_24), .val (.int v7_24), .unset, .unset, .unset, .unset, .unset] [(.int (0 : Int32)), (.ref b25), (.ref b25)]))
    refine own_to (fun _ kz => XS.iload X25.here hx rfl (hb hby at_29) rfl  kz) ?_
    show own_Fin p e below G (T25.setTop (mkF m 31 #[.val (.int p0), .val (.int p1), .val (.int p2), .val (.int p3), .val (.int v4_24), .val (.int v5_24), .val (.int v6_24), .val (.int v7_24), .unset, .unset, .unset, .unset, .unset] [(.int v7_24), (.int (0 : Int32)), (.ref b25), (.ref b25)]))
    obtain ⟨nn31, cl31, Ar31, Sz31, Hs31⟩ := V25
    obtain ⟨T31, h31, X31, e31, W31, st31⟩ := stI X25 hx hZ e25 Ar31 (j := (0 : Int32)) (own_in Sz31 (by decide) rfl (by decide)) (g := (mkF m 31 #[.val (.int p0), .val (.int p1), .val (.int p2), .val (.int p3), .val (.int v4_24), .val (.int v5_24), .val (.int v6_24), .val (.int v7_24), .unset, .unset, .unset, .unset, .unset] [(.int v7_24), (.int (0 : Int32)), (.ref b25), (.ref b25)])) rfl rfl (hb hby at_31)
    refine own_to st31 ?_
    have V31 : own_AV Value.int Z h31 b25 .int 4 (own_upd (fun _ => (0 : Int32)) 0 v7_24) := own_AV.set nn31 Ar31 Sz31 Hs31 W31 rfl
    have N31 := Fr.snoc X31 N0 g_b25
    show own_Fin p e below G (T31.setTop (mkF m 32 #[.val (.int p0), .val (.int p1), .val (.int p2), .val (.int p3), .val (.int v4_24), .val (.int v5_24), .val (.int v6_24), .val (.int v7_24), .unset, .unset, .unset, .unset, .unset] [(.ref b25)]))
    refine own_to (fun _ kz => XS.dup X31.here hx rfl (hb hby at_32) rfl rfl kz) ?_
    show own_Fin p e below G (T31.setTop (mkF m 33 #[.val (.int p0), .val (.int p1), .val (.int p2), .val (.int p3), .val (.int v4_24), .val (.int v5_24), .val (.int v6_24), .val (.int v7_24), .unset, .unset, .unset, .unset, .unset] [(.ref b25), (.ref b25)]))
    refine own_to (fun _ kz => XS.iconst X31.here hx rfl (hb hby at_33) kz) ?_
    show own_Fin p e below G (T31.setTop (mkF m 34 #[.val (.int p0), .val (.int p1), .val (.int p2), .val (.int p3), .val (.int v4_24), .val (.int v5_24), .val (.int v6_24), .val (.int v7_24), .unset, .unset, .unset, .unset, .unset] [(.int (1 : Int32)), (.ref b25), (.ref b25)]))
    refine own_to (fun _ kz => XS.iload X31.here hx rfl (hb hby at_34) rfl  kz) ?_
    show own_Fin p e below G (T31.setTop (mkF m 36 #[.val (.int p0), .val (.int p1), .val (.int p2), .val (.int p3), .val (.int v4_24), .val (.int v5_24), .val (.int v6_24), .val (.int v7_24), .unset, .unset, .unset, .unset, .unset] [(.int v7_24), (.int (1 : Int32)), (.ref b25), (.ref b25)]))
    refine own_to (fun _ kz => XS.iload X31.here hx rfl (hb hby at_36) rfl  kz) ?_
    show own_Fin p e below G (T31.setTop (mkF m 38 #[.val (.int p0), .val (.int p1), .val (.int p2), .val (.int p3), .val (.int v4_24), .val (.int v5_24), .val (.int v6_24), .val (.int v7_24), .unset, .unset, .unset, .unset, .unset] [(.int v4_24), (.int v7_24), (.int (1 : Int32)), (.ref b25), (.ref b25)]))
    refine own_to (fun _ kz => XS.iadd X31.here hx rfl (hb hby at_38) rfl kz) ?_
    show own_Fin p e below G (T31.setTop (mkF m 39 #[.val (.int p0), .val (.int p1), .val (.int p2), .val (.int p3), .val (.int v4_24), .val (.int v5_24), .val (.int v6_24), .val (.int v7_24), .unset, .unset, .unset, .unset, .unset] [(.int (v7_24 + v4_24)), (.int (1 : Int32)), (.ref b25), (.ref b25)]))
    obtain ⟨nn39, cl39, Ar39, Sz39, Hs39⟩ := V31
    obtain ⟨T39, h39, X39, e39, W39, st39⟩ := stI X31 hx hZ e31 Ar39 (j := (1 : Int32)) (own_in Sz39 (by decide) rfl (by decide)) (g := (mkF m 39 #[.val (.int p0), .val (.int p1), .val (.int p2), .val (.int p3), .val (.int v4_24), .val (.int v5_24), .val (.int v6_24), .val (.int v7_24), .unset, .unset, .unset, .unset, .unset] [(.int (v7_24 + v4_24)), (.int (1 : Int32)), (.ref b25), (.ref b25)])) rfl rfl (hb hby at_39)
    refine own_to st39 ?_
    have V39 : own_AV Value.int Z h39 b25 .int 4 (own_upd (own_upd (fun _ => (0 : Int32)) 0 v7_24) 1 (v7_24 + v4_24)) := own_AV.set nn39 Ar39 Sz39 Hs39 W39 rfl
    have N39 := Fr.snoc X39 N31 g_b25
    show own_Fin p e below G (T39.setTop (mkF m 40 #[.val (.int p0), .val (.int p1), .val (.int p2), .val (.int p3), .val (.int v4_24), .val (.int v5_24), .val (.int v6_24), .val (.int v7_24), .unset, .unset, .unset, .unset, .unset] [(.ref b25)]))
    refine own_to (fun _ kz => XS.dup X39.here hx rfl (hb hby at_40) rfl rfl kz) ?_
    show own_Fin p e below G (T39.setTop (mkF m 41 #[.val (.int p0), .val (.int p1), .val (.int p2), .val (.int p3), .val (.int v4_24), .val (.int v5_24), .val (.int v6_24), .val (.int v7_24), .unset, .unset, .unset, .unset, .unset] [(.ref b25), (.ref b25)]))
    refine own_to (fun _ kz => XS.iconst X39.here hx rfl (hb hby at_41) kz) ?_
    show own_Fin p e below G (T39.setTop (mkF m 42 #[.val (.int p0), .val (.int p1), .val (.int p2), .val (.int p3), .val (.int v4_24), .val (.int v5_24), .val (.int v6_24), .val (.int v7_24), .unset, .unset, .unset, .unset, .unset] [(.int (2 : Int32)), (.ref b25), (.ref b25)]))
    refine own_to (fun _ kz => XS.iload X39.here hx rfl (hb hby at_42) rfl  kz) ?_
    show own_Fin p e below G (T39.setTop (mkF m 44 #[.val (.int p0), .val (.int p1), .val (.int p2), .val (.int p3), .val (.int v4_24), .val (.int v5_24), .val (.int v6_24), .val (.int v7_24), .unset, .unset, .unset, .unset, .unset] [(.int v7_24), (.int (2 : Int32)), (.ref b25), (.ref b25)]))
    refine own_to (fun _ kz => XS.iload X39.here hx rfl (hb hby at_44) rfl  kz) ?_
    show own_Fin p e below G (T39.setTop (mkF m 46 #[.val (.int p0), .val (.int p1), .val (.int p2), .val (.int p3), .val (.int v4_24), .val (.int v5_24), .val (.int v6_24), .val (.int v7_24), .unset, .unset, .unset, .unset, .unset] [(.int v4_24), (.int v7_24), (.int (2 : Int32)), (.ref b25), (.ref b25)]))
    refine own_to (fun _ kz => XS.iadd X39.here hx rfl (hb hby at_46) rfl kz) ?_
    show own_Fin p e below G (T39.setTop (mkF m 47 #[.val (.int p0), .val (.int p1), .val (.int p2), .val (.int p3), .val (.int v4_24), .val (.int v5_24), .val (.int v6_24), .val (.int v7_24), .unset, .unset, .unset, .unset, .unset] [(.int (v7_24 + v4_24)), (.int (2 : Int32)), (.ref b25), (.ref b25)]))
    refine own_to (fun _ kz => XS.iload X39.here hx rfl (hb hby at_47) rfl  kz) ?_
    show own_Fin p e below G (T39.setTop (mkF m 49 #[.val (.int p0), .val (.int p1), .val (.int p2), .val (.int p3), .val (.int v4_24), .val (.int v5_24), .val (.int v6_24), .val (.int v7_24), .unset, .unset, .unset, .unset, .unset] [(.int v5_24), (.int (v7_24 + v4_24)), (.int (2 : Int32)), (.ref b25), (.ref b25)]))
    refine own_to (fun _ kz => XS.iadd X39.here hx rfl (hb hby at_49) rfl kz) ?_
    show own_Fin p e below G (T39.setTop (mkF m 50 #[.val (.int p0), .val (.int p1), .val (.int p2), .val (.int p3), .val (.int v4_24), .val (.int v5_24), .val (.int v6_24), .val (.int v7_24), .unset, .unset, .unset, .unset, .unset] [(.int ((v7_24 + v4_24) + v5_24)), (.int (2 : Int32)), (.ref b25), (.ref b25)]))
    obtain ⟨nn50, cl50, Ar50, Sz50, Hs50⟩ := V39
    obtain ⟨T50, h50, X50, e50, W50, st50⟩ := stI X39 hx hZ e39 Ar50 (j := (2 : Int32)) (own_in Sz50 (by decide) rfl (by decide)) (g := (mkF m 50 #[.val (.int p0), .val (.int p1), .val (.int p2), .val (.int p3), .val (.int v4_24), .val (.int v5_24), .val (.int v6_24), .val (.int v7_24), .unset, .unset, .unset, .unset, .unset] [(.int ((v7_24 + v4_24) + v5_24)), (.int (2 : Int32)), (.ref b25), (.ref b25)])) rfl rfl (hb hby at_50)
    refine own_to st50 ?_
    have V50 : own_AV Value.int Z h50 b25 .int 4 (own_upd (own_upd (own_upd (fun _ => (0 : Int32)) 0 v7_24) 1 (v7_24 + v4_24)) 2 ((v7_24 + v4_24) + v5_24)) := own_AV.set nn50 Ar50 Sz50 Hs50 W50 rfl
    have N50 := Fr.snoc X50 N39 g_b25
    show own_Fin p e below G (T50.setTop (mkF m 51 #[.val (.int p0), .val (.int p1), .val (.int p2), .val (.int p3), .val (.int v4_24), .val (.int v5_24), .val (.int v6_24), .val (.int v7_24), .unset, .unset, .unset, .unset, .unset] [(.ref b25)]))
    refine own_to (fun _ kz => XS.dup X50.here hx rfl (hb hby at_51) rfl rfl kz) ?_
    show own_Fin p e below G (T50.setTop (mkF m 52 #[.val (.int p0), .val (.int p1), .val (.int p2), .val (.int p3), .val (.int v4_24), .val (.int v5_24), .val (.int v6_24), .val (.int v7_24), .unset, .unset, .unset, .unset, .unset] [(.ref b25), (.ref b25)]))
    refine own_to (fun _ kz => XS.iconst X50.here hx rfl (hb hby at_52) kz) ?_
    show own_Fin p e below G (T50.setTop (mkF m 53 #[.val (.int p0), .val (.int p1), .val (.int p2), .val (.int p3), .val (.int v4_24), .val (.int v5_24), .val (.int v6_24), .val (.int v7_24), .unset, .unset, .unset, .unset, .unset] [(.int (3 : Int32)), (.ref b25), (.ref b25)]))
    refine own_to (fun _ kz => XS.iload X50.here hx rfl (hb hby at_53) rfl  kz) ?_
    show own_Fin p e below G (T50.setTop (mkF m 55 #[.val (.int p0), .val (.int p1), .val (.int p2), .val (.int p3), .val (.int v4_24), .val (.int v5_24), .val (.int v6_24), .val (.int v7_24), .unset, .unset, .unset, .unset, .unset] [(.int v7_24), (.int (3 : Int32)), (.ref b25), (.ref b25)]))
    refine own_to (fun _ kz => XS.iload X50.here hx rfl (hb hby at_55) rfl  kz) ?_
    show own_Fin p e below G (T50.setTop (mkF m 57 #[.val (.int p0), .val (.int p1), .val (.int p2), .val (.int p3), .val (.int v4_24), .val (.int v5_24), .val (.int v6_24), .val (.int v7_24), .unset, .unset, .unset, .unset, .unset] [(.int v4_24), (.int v7_24), (.int (3 : Int32)), (.ref b25), (.ref b25)]))
    refine own_to (fun _ kz => XS.iadd X50.here hx rfl (hb hby at_57) rfl kz) ?_
    show own_Fin p e below G (T50.setTop (mkF m 58 #[.val (.int p0), .val (.int p1), .val (.int p2), .val (.int p3), .val (.int v4_24), .val (.int v5_24), .val (.int v6_24), .val (.int v7_24), .unset, .unset, .unset, .unset, .unset] [(.int (v7_24 + v4_24)), (.int (3 : Int32)), (.ref b25), (.ref b25)]))
    refine own_to (fun _ kz => XS.iload X50.here hx rfl (hb hby at_58) rfl  kz) ?_
    show own_Fin p e below G (T50.setTop (mkF m 60 #[.val (.int p0), .val (.int p1), .val (.int p2), .val (.int p3), .val (.int v4_24), .val (.int v5_24), .val (.int v6_24), .val (.int v7_24), .unset, .unset, .unset, .unset, .unset] [(.int v5_24), (.int (v7_24 + v4_24)), (.int (3 : Int32)), (.ref b25), (.ref b25)]))
    refine own_to (fun _ kz => XS.iadd X50.here hx rfl (hb hby at_60) rfl kz) ?_
    show own_Fin p e below G (T50.setTop (mkF m 61 #[.val (.int p0), .val (.int p1), .val (.int p2), .val (.int p3), .val (.int v4_24), .val (.int v5_24), .val (.int v6_24), .val (.int v7_24), .unset, .unset, .unset, .unset, .unset] [(.int ((v7_24 + v4_24) + v5_24)), (.int (3 : Int32)), (.ref b25), (.ref b25)]))
    refine own_to (fun _ kz => XS.iload X50.here hx rfl (hb hby at_61) rfl  kz) ?_
    show own_Fin p e below G (T50.setTop (mkF m 63 #[.val (.int p0), .val (.int p1), .val (.int p2), .val (.int p3), .val (.int v4_24), .val (.int v5_24), .val (.int v6_24), .val (.int v7_24), .unset, .unset, .unset, .unset, .unset] [(.int v6_24), (.int ((v7_24 + v4_24) + v5_24)), (.int (3 : Int32)), (.ref b25), (.ref b25)]))
    refine own_to (fun _ kz => XS.iadd X50.here hx rfl (hb hby at_63) rfl kz) ?_
    show own_Fin p e below G (T50.setTop (mkF m 64 #[.val (.int p0), .val (.int p1), .val (.int p2), .val (.int p3), .val (.int v4_24), .val (.int v5_24), .val (.int v6_24), .val (.int v7_24), .unset, .unset, .unset, .unset, .unset] [(.int (((v7_24 + v4_24) + v5_24) + v6_24)), (.int (3 : Int32)), (.ref b25), (.ref b25)]))
    obtain ⟨nn64, cl64, Ar64, Sz64, Hs64⟩ := V50
    obtain ⟨T64, h64, X64, e64, W64, st64⟩ := stI X50 hx hZ e50 Ar64 (j := (3 : Int32)) (own_in Sz64 (by decide) rfl (by decide)) (g := (mkF m 64 #[.val (.int p0), .val (.int p1), .val (.int p2), .val (.int p3), .val (.int v4_24), .val (.int v5_24), .val (.int v6_24), .val (.int v7_24), .unset, .unset, .unset, .unset, .unset] [(.int (((v7_24 + v4_24) + v5_24) + v6_24)), (.int (3 : Int32)), (.ref b25), (.ref b25)])) rfl rfl (hb hby at_64)
    refine own_to st64 ?_
    have V64 : own_AV Value.int Z h64 b25 .int 4 (own_upd (own_upd (own_upd (own_upd (fun _ => (0 : Int32)) 0 v7_24) 1 (v7_24 + v4_24)) 2 ((v7_24 + v4_24) + v5_24)) 3 (((v7_24 + v4_24) + v5_24) + v6_24)) := own_AV.set nn64 Ar64 Sz64 Hs64 W64 rfl
    have N64 := Fr.snoc X64 N50 g_b25
    show own_Fin p e below G (T64.setTop (mkF m 65 #[.val (.int p0), .val (.int p1), .val (.int p2), .val (.int p3), .val (.int v4_24), .val (.int v5_24), .val (.int v6_24), .val (.int v7_24), .unset, .unset, .unset, .unset, .unset] [(.ref b25)]))
    refine own_to (fun _ kz => XS.astore X64.here hx rfl (hb hby at_65) rfl (rfl) (l' := #[.val (.int p0), .val (.int p1), .val (.int p2), .val (.int p3), .val (.int v4_24), .val (.int v5_24), .val (.int v6_24), .val (.int v7_24), .val (.ref b25), .unset, .unset, .unset, .unset]) rfl kz) ?_
    show own_Fin p e below G (T64.setTop (mkF m 67 #[.val (.int p0), .val (.int p1), .val (.int p2), .val (.int p3), .val (.int v4_24), .val (.int v5_24), .val (.int v6_24), .val (.int v7_24), .val (.ref b25), .unset, .unset, .unset, .unset] []))
    refine own_to (fun _ kz => XS.iload X64.here hx rfl (hb hby at_67) rfl  kz) ?_
    show own_Fin p e below G (T64.setTop (mkF m 69 #[.val (.int p0), .val (.int p1), .val (.int p2), .val (.int p3), .val (.int v4_24), .val (.int v5_24), .val (.int v6_24), .val (.int v7_24), .val (.ref b25), .unset, .unset, .unset, .unset] [(.int v7_24)]))
    refine own_to (fun _ kz => XS.iload X64.here hx rfl (hb hby at_69) rfl  kz) ?_
    show own_Fin p e below G (T64.setTop (mkF m 71 #[.val (.int p0), .val (.int p1), .val (.int p2), .val (.int p3), .val (.int v4_24), .val (.int v5_24), .val (.int v6_24), .val (.int v7_24), .val (.ref b25), .unset, .unset, .unset, .unset] [(.int v4_24), (.int v7_24)]))
    refine own_to (fun _ kz => XS.iadd X64.here hx rfl (hb hby at_71) rfl kz) ?_
    show own_Fin p e below G (T64.setTop (mkF m 72 #[.val (.int p0), .val (.int p1), .val (.int p2), .val (.int p3), .val (.int v4_24), .val (.int v5_24), .val (.int v6_24), .val (.int v7_24), .val (.ref b25), .unset, .unset, .unset, .unset] [(.int (v7_24 + v4_24))]))
    refine own_to (fun _ kz => XS.iload X64.here hx rfl (hb hby at_72) rfl  kz) ?_
    show own_Fin p e below G (T64.setTop (mkF m 74 #[.val (.int p0), .val (.int p1), .val (.int p2), .val (.int p3), .val (.int v4_24), .val (.int v5_24), .val (.int v6_24), .val (.int v7_24), .val (.ref b25), .unset, .unset, .unset, .unset] [(.int v5_24), (.int (v7_24 + v4_24))]))
    refine own_to (fun _ kz => XS.iadd X64.here hx rfl (hb hby at_74) rfl kz) ?_
    show own_Fin p e below G (T64.setTop (mkF m 75 #[.val (.int p0), .val (.int p1), .val (.int p2), .val (.int p3), .val (.int v4_24), .val (.int v5_24), .val (.int v6_24), .val (.int v7_24), .val (.ref b25), .unset, .unset, .unset, .unset] [(.int ((v7_24 + v4_24) + v5_24))]))
    refine own_to (fun _ kz => XS.iload X64.here hx rfl (hb hby at_75) rfl  kz) ?_
    show own_Fin p e below G (T64.setTop (mkF m 77 #[.val (.int p0), .val (.int p1), .val (.int p2), .val (.int p3), .val (.int v4_24), .val (.int v5_24), .val (.int v6_24), .val (.int v7_24), .val (.ref b25), .unset, .unset, .unset, .unset] [(.int v6_24), (.int ((v7_24 + v4_24) + v5_24))]))
    refine own_to (fun _ kz => XS.iadd X64.here hx rfl (hb hby at_77) rfl kz) ?_
    show own_Fin p e below G (T64.setTop (mkF m 78 #[.val (.int p0), .val (.int p1), .val (.int p2), .val (.int p3), .val (.int v4_24), .val (.int v5_24), .val (.int v6_24), .val (.int v7_24), .val (.ref b25), .unset, .unset, .unset, .unset] [(.int (((v7_24 + v4_24) + v5_24) + v6_24))]))
    refine own_to (fun _ kz => XS.istore X64.here hx rfl (hb hby at_78) rfl (l' := #[.val (.int p0), .val (.int p1), .val (.int p2), .val (.int p3), .val (.int v4_24), .val (.int v5_24), .val (.int v6_24), .val (.int v7_24), .val (.ref b25), .val (.int (((v7_24 + v4_24) + v5_24) + v6_24)), .unset, .unset, .unset]) rfl kz) ?_
    show own_Fin p e below G (T64.setTop (mkF m 80 #[.val (.int p0), .val (.int p1), .val (.int p2), .val (.int p3), .val (.int v4_24), .val (.int v5_24), .val (.int v6_24), .val (.int v7_24), .val (.ref b25), .val (.int (((v7_24 + v4_24) + v5_24) + v6_24)), .unset, .unset, .unset] []))
    refine own_to (fun _ kz => XS.iload X64.here hx rfl (hb hby at_80) rfl  kz) ?_
    show own_Fin p e below G (T64.setTop (mkF m 82 #[.val (.int p0), .val (.int p1), .val (.int p2), .val (.int p3), .val (.int v4_24), .val (.int v5_24), .val (.int v6_24), .val (.int v7_24), .val (.ref b25), .val (.int (((v7_24 + v4_24) + v5_24) + v6_24)), .unset, .unset, .unset] [(.int (((v7_24 + v4_24) + v5_24) + v6_24))]))
    have Z_82 : n0 ≤ h64.size := (Nat.le_trans (Nat.le_trans (Nat.le_trans (Nat.le_trans (Nat.le_trans Z0 E25.1) (Keep.of_wr W31).1) (Keep.of_wr W39).1) (Keep.of_wr W50).1) (Keep.of_wr W64).1)
    obtain ⟨T82, h82, k82, X82, e82, E82, A82, st82⟩ := newP X64 hx hZ (hw _ (List.mem_of_getElem? (i := 0) rfl)) e64 (g := (mkF m 82 #[.val (.int p0), .val (.int p1), .val (.int p2), .val (.int p3), .val (.int v4_24), .val (.int v5_24), .val (.int v6_24), .val (.int v7_24), .val (.ref b25), .val (.int (((v7_24 + v4_24) + v5_24) + v6_24)), .unset, .unset, .unset] [(.int (((v7_24 + v4_24) + v5_24) + v6_24))])) rfl (hb hby at_82) rfl (own_tot jh0_24 jh1_24 jh2_24 jh3_24).1 (cap := 36) (own_tot jh0_24 jh1_24 jh2_24 jh3_24).2 (by decide) (by decide) (by decide)
    obtain ⟨b82, g82⟩ : ∃ z, z = h64.size := ⟨_, rfl⟩
    rw [← g82] at A82 st82
    refine own_to st82 ?_
    have ne_b25_b82 : b25 ≠ b82 := Nat.ne_of_lt (Nat.lt_of_lt_of_le V64.lt (Nat.le_of_eq g82.symm))
    have g_b82 : n0 ≤ b82 := Nat.le_trans Z_82 (Nat.le_of_eq g82.symm)
    have V82 : own_AV Value.int Z h82 b82 .int ((((v7_24 + v4_24) + v5_24) + v6_24).toNatClampNeg) (fun _ => (0 : Int32)) := own_AV.new A82 (own_tot jh0_24 jh1_24 jh2_24 jh3_24).1 rfl (fun _ => rfl)
    show own_Fin p e below G (T82.setTop (mkF m 84 #[.val (.int p0), .val (.int p1), .val (.int p2), .val (.int p3), .val (.int v4_24), .val (.int v5_24), .val (.int v6_24), .val (.int v7_24), .val (.ref b25), .val (.int (((v7_24 + v4_24) + v5_24) + v6_24)), .unset, .unset, .unset] [(.ref b82)]))
    refine own_to (fun _ kz => XS.astore X82.here hx rfl (hb hby at_84) rfl (rfl) (l' := #[.val (.int p0), .val (.int p1), .val (.int p2), .val (.int p3), .val (.int v4_24), .val (.int v5_24), .val (.int v6_24), .val (.int v7_24), .val (.ref b25), .val (.int (((v7_24 + v4_24) + v5_24) + v6_24)), .val (.ref b82), .unset, .unset]) rfl kz) ?_
    show own_Fin p e below G (T82.setTop (mkF m 86 #[.val (.int p0), .val (.int p1), .val (.int p2), .val (.int p3), .val (.int v4_24), .val (.int v5_24), .val (.int v6_24), .val (.int v7_24), .val (.ref b25), .val (.int (((v7_24 + v4_24) + v5_24) + v6_24)), .val (.ref b82), .unset, .unset] []))
    refine own_to (fun _ kz => XS.iload X82.here hx rfl (hb hby at_86) rfl  kz) ?_
    show own_Fin p e below G (T82.setTop (mkF m 88 #[.val (.int p0), .val (.int p1), .val (.int p2), .val (.int p3), .val (.int v4_24), .val (.int v5_24), .val (.int v6_24), .val (.int v7_24), .val (.ref b25), .val (.int (((v7_24 + v4_24) + v5_24) + v6_24)), .val (.ref b82), .unset, .unset] [(.int (((v7_24 + v4_24) + v5_24) + v6_24))]))
    have Z_88 : n0 ≤ h82.size := (Nat.le_trans Z_82 E82.1)
    obtain ⟨T88, h88, k88, X88, e88, E88, A88, st88⟩ := newP X82 hx hZ (hw _ (List.mem_of_getElem? (i := 0) rfl)) e82 (g := (mkF m 88 #[.val (.int p0), .val (.int p1), .val (.int p2), .val (.int p3), .val (.int v4_24), .val (.int v5_24), .val (.int v6_24), .val (.int v7_24), .val (.ref b25), .val (.int (((v7_24 + v4_24) + v5_24) + v6_24)), .val (.ref b82), .unset, .unset] [(.int (((v7_24 + v4_24) + v5_24) + v6_24))])) rfl (hb hby at_88) rfl (own_tot jh0_24 jh1_24 jh2_24 jh3_24).1 (cap := 36) (own_tot jh0_24 jh1_24 jh2_24 jh3_24).2 (by decide) (by decide) (by decide)
    obtain ⟨b88, g88⟩ : ∃ z, z = h82.size := ⟨_, rfl⟩
    rw [← g88] at A88 st88
    refine own_to st88 ?_
    have ne_b25_b88 : b25 ≠ b88 := Nat.ne_of_lt (Nat.lt_of_lt_of_le (V64.ext E82).lt (Nat.le_of_eq g88.symm))
    have ne_b82_b88 : b82 ≠ b88 := Nat.ne_of_lt (Nat.lt_of_lt_of_le V82.lt (Nat.le_of_eq g88.symm))
    have g_b88 : n0 ≤ b88 := Nat.le_trans Z_88 (Nat.le_of_eq g88.symm)
    have V88 : own_AV Value.int Z h88 b88 .int ((((v7_24 + v4_24) + v5_24) + v6_24).toNatClampNeg) (fun _ => (0 : Int32)) := own_AV.new A88 (own_tot jh0_24 jh1_24 jh2_24 jh3_24).1 rfl (fun _ => rfl)
    show own_Fin p e below G (T88.setTop (mkF m 90 #[.val (.int p0), .val (.int p1), .val (.int p2), .val (.int p3), .val (.int v4_24), .val (.int v5_24), .val (.int v6_24), .val (.int v7_24), .val (.ref b25), .val (.int (((v7_24 + v4_24) + v5_24) + v6_24)), .val (.ref b82), .unset, .unset] [(.ref b88)]))
    refine own_to (fun _ kz => XS.astore X88.here hx rfl (hb hby at_90) rfl (rfl) (l' := #[.val (.int p0), .val (.int p1), .val (.int p2), .val (.int p3), .val (.int v4_24), .val (.int v5_24), .val (.int v6_24), .val (.int v7_24), .val (.ref b25), .val (.int (((v7_24 + v4_24) + v5_24) + v6_24)), .val (.ref b82), .val (.ref b88), .unset]) rfl kz) ?_
    show own_Fin p e below G (T88.setTop (mkF m 92 #[.val (.int p0), .val (.int p1), .val (.int p2), .val (.int p3), .val (.int v4_24), .val (.int v5_24), .val (.int v6_24), .val (.int v7_24), .val (.ref b25), .val (.int (((v7_24 + v4_24) + v5_24) + v6_24)), .val (.ref b82), .val (.ref b88), .unset] []))
    have Z_92 : n0 ≤ h88.size := (Nat.le_trans Z_88 E88.1)
    obtain ⟨T92, h92, X92, e92, E92, A92, D92, -, st92⟩ := newO X88 hx hZ hown (hw _ (List.mem_of_getElem? (i := 1) rfl)) (hw _ (List.mem_of_getElem? (i := 2) rfl)) (hw _ (List.mem_of_getElem? (i := 3) rfl)) e88 (g := (mkF m 92 #[.val (.int p0), .val (.int p1), .val (.int p2), .val (.int p3), .val (.int v4_24), .val (.int v5_24), .val (.int v6_24), .val (.int v7_24), .val (.ref b25), .val (.int (((v7_24 + v4_24) + v5_24) + v6_24)), .val (.ref b82), .val (.ref b88), .unset] [])) rfl (hb hby at_92) (by decide) (by decide)
    obtain ⟨b92, g92⟩ : ∃ z, z = h88.size := ⟨_, rfl⟩
    rw [← g92] at A92 D92 st92
    refine own_to st92 ?_
    have ne_b25_b92 : b25 ≠ b92 := Nat.ne_of_lt (Nat.lt_of_lt_of_le ((V64.ext E82).ext E88).lt (Nat.le_of_eq g92.symm))
    have ne_b82_b92 : b82 ≠ b92 := Nat.ne_of_lt (Nat.lt_of_lt_of_le (V82.ext E88).lt (Nat.le_of_eq g92.symm))
    have ne_b88_b92 : b88 ≠ b92 := Nat.ne_of_lt (Nat.lt_of_lt_of_le V88.lt (Nat.le_of_eq g92.symm))
    have g_b92 : n0 ≤ b92 := Nat.le_trans Z_92 (Nat.le_of_eq g92.symm)
    have F_start_b92 : Fld Z h92 b92 "com/example/lanterns/lanterns/solvers/Graph" "start" "[I" .null := D92 (Or.inr (hw _ (List.mem_of_getElem? (i := 11) rfl))) (ty := (.array .int)) (by decide)
    have F_neighbours_b92 : Fld Z h92 b92 "com/example/lanterns/lanterns/solvers/Graph" "neighbours" "[I" .null := D92 (Or.inr (hw _ (List.mem_of_getElem? (i := 13) rfl))) (ty := (.array .int)) (by decide)
    have F_edges_b92 : Fld Z h92 b92 "com/example/lanterns/lanterns/solvers/Graph" "edges" "[I" .null := D92 (Or.inr (hw _ (List.mem_of_getElem? (i := 15) rfl))) (ty := (.array .int)) (by decide)
    show own_Fin p e below G (T92.setTop (mkF m 95 #[.val (.int p0), .val (.int p1), .val (.int p2), .val (.int p3), .val (.int v4_24), .val (.int v5_24), .val (.int v6_24), .val (.int v7_24), .val (.ref b25), .val (.int (((v7_24 + v4_24) + v5_24) + v6_24)), .val (.ref b82), .val (.ref b88), .unset] [(.ref b92)]))
    refine own_to (fun _ kz => XS.dup X92.here hx rfl (hb hby at_95) rfl rfl kz) ?_
    show own_Fin p e below G (T92.setTop (mkF m 96 #[.val (.int p0), .val (.int p1), .val (.int p2), .val (.int p3), .val (.int v4_24), .val (.int v5_24), .val (.int v6_24), .val (.int v7_24), .val (.ref b25), .val (.int (((v7_24 + v4_24) + v5_24) + v6_24)), .val (.ref b82), .val (.ref b88), .unset] [(.ref b92), (.ref b92)]))
    refine own_to (fun _ kz => XS.aload X92.here hx rfl (hb hby at_96) rfl (rfl)  kz) ?_
    show own_Fin p e below G (T92.setTop (mkF m 98 #[.val (.int p0), .val (.int p1), .val (.int p2), .val (.int p3), .val (.int v4_24), .val (.int v5_24), .val (.int v6_24), .val (.int v7_24), .val (.ref b25), .val (.int (((v7_24 + v4_24) + v5_24) + v6_24)), .val (.ref b82), .val (.ref b88), .unset] [(.ref b25), (.ref b92), (.ref b92)]))
    refine own_to (fun _ kz => XS.aload X92.here hx rfl (hb hby at_98) rfl (rfl)  kz) ?_
    show own_Fin p e below G (T92.setTop (mkF m 100 #[.val (.int p0), .val (.int p1), .val (.int p2), .val (.int p3), .val (.int v4_24), .val (.int v5_24), .val (.int v6_24), .val (.int v7_24), .val (.ref b25), .val (.int (((v7_24 + v4_24) + v5_24) + v6_24)), .val (.ref b82), .val (.ref b88), .unset] [(.ref b82), (.ref b25), (.ref b92), (.ref b92)]))
    refine own_to (fun _ kz => XS.aload X92.here hx rfl (hb hby at_100) rfl (rfl)  kz) ?_
    show own_Fin p e below G (T92.setTop (mkF m 102 #[.val (.int p0), .val (.int p1), .val (.int p2), .val (.int p3), .val (.int v4_24), .val (.int v5_24), .val (.int v6_24), .val (.int v7_24), .val (.ref b25), .val (.int (((v7_24 + v4_24) + v5_24) + v6_24)), .val (.ref b82), .val (.ref b88), .unset] [(.ref b88), (.ref b82), (.ref b25), (.ref b92), (.ref b92)]))
    have Z_102 : n0 ≤ h92.size := (Nat.le_trans Z_92 E92.1)
    obtain ⟨_, _, ⟨T102, L102, k102, n102⟩, -, X102, ⟨Lc102, hQ102, l102, y102, z102⟩, st102⟩ := X92.specialBack hx (y := (⟨"com/example/lanterns/lanterns/solvers/Graph", "<init>", "([I[I[I)V"⟩ : MethodName)) rfl hown (mvT hZ (hw _ (List.mem_of_getElem? (i := 4) rfl))) (mvT hZ (hw _ (List.mem_of_getElem? (i := 5) rfl))) (mvT hZ (hw _ (List.mem_of_getElem? (i := 6) rfl))) (by decide) (backOf (W := 1) (rm1 l Z a0 hw [] b92 b25 b82 b88 h92 n0 Z_102 A92 F_start_b92 F_neighbours_b92 F_edges_b92 g_b92) hZ (hw _ (List.mem_of_getElem? (i := 6) rfl)) (hw _ (List.mem_of_getElem? (i := 3) rfl)) (by decide) (by decide)) (g := (mkF m 102 #[.val (.int p0), .val (.int p1), .val (.int p2), .val (.int p3), .val (.int v4_24), .val (.int v5_24), .val (.int v6_24), .val (.int v7_24), .val (.ref b25), .val (.int (((v7_24 + v4_24) + v5_24) + v6_24)), .val (.ref b82), .val (.ref b88), .unset] [(.ref b88), (.ref b82), (.ref b25), (.ref b92), (.ref b92)])) rfl (by rw [hml]; rfl) (Steps.refl _) (a := b92) (argsL := [(.ref b25), (.ref b82), (.ref b88)]) (rest := [(.ref b92)]) (lenOf own_pd0 rfl) rfl (by show 2 * 0 + _ ≤ _; exact Nat.le_of_eq rfl) (hb hby at_102) (fun _ _ => ⟨rfl, e92, (by decide : 4 + 0 ≤ _), (by decide : 79 + 0 ≤ _)⟩)
    dsimp only [Pt.U, Pt.locs, Pt.cells, Pt.slots] at X102 l102 y102 z102 st102 hQ102
    subst l102 y102 z102
    obtain ⟨rfl, N102q, Kp102, P102_0, P102_1, P102_2, P102_3⟩ := hQ102
    have N102 := Fr.app N64 N102q
    refine own_via st102 ?_
    show own_Fin p e below G (T102.setTop (mkF m 105 #[.val (.int p0), .val (.int p1), .val (.int p2), .val (.int p3), .val (.int v4_24), .val (.int v5_24), .val (.int v6_24), .val (.int v7_24), .val (.ref b25), .val (.int (((v7_24 + v4_24) + v5_24) + v6_24)), .val (.ref b82), .val (.ref b88), .unset] [(.ref b92)]))
    refine own_to (fun _ kz => XS.astore X102.here hx rfl (hb hby at_105) rfl (rfl) (l' := #[.val (.int p0), .val (.int p1), .val (.int p2), .val (.int p3), .val (.int v4_24), .val (.int v5_24), .val (.int v6_24), .val (.int v7_24), .val (.ref b25), .val (.int (((v7_24 + v4_24) + v5_24) + v6_24)), .val (.ref b82), .val (.ref b88), .val (.ref b92)]) rfl kz) ?_
    show own_Fin p e below G (T102.setTop (mkF m 107 #[.val (.int p0), .val (.int p1), .val (.int p2), .val (.int p3), .val (.int v4_24), .val (.int v5_24), .val (.int v6_24), .val (.int v7_24), .val (.ref b25), .val (.int (((v7_24 + v4_24) + v5_24) + v6_24)), .val (.ref b82), .val (.ref b88), .val (.ref b92)] []))
    refine own_to (fun _ kz => XS.aload X102.here hx rfl (hb hby at_107) rfl (rfl)  kz) ?_
    show own_Fin p e below G (T102.setTop (mkF m 109 #[.val (.int p0), .val (.int p1), .val (.int p2), .val (.int p3), .val (.int v4_24), .val (.int v5_24), .val (.int v6_24), .val (.int v7_24), .val (.ref b25), .val (.int (((v7_24 + v4_24) + v5_24) + v6_24)), .val (.ref b82), .val (.ref b88), .val (.ref b92)] [(.ref b92)]))
    refine own_to (fun _ kz => XS.iconst X102.here hx rfl (hb hby at_109) kz) ?_
    show own_Fin p e below G (T102.setTop (mkF m 110 #[.val (.int p0), .val (.int p1), .val (.int p2), .val (.int p3), .val (.int v4_24), .val (.int v5_24), .val (.int v6_24), .val (.int v7_24), .val (.ref b25), .val (.int (((v7_24 + v4_24) + v5_24) + v6_24)), .val (.ref b82), .val (.ref b88), .val (.ref b92)] [(.int (0 : Int32)), (.ref b92)]))
    have V64_at_110 : own_AV Value.int Z T102.heap b25 .int 4 (own_upd (own_upd (own_upd (own_upd (fun _ => (0 : Int32)) 0 v7_24) 1 (v7_24 + v4_24)) 2 ((v7_24 + v4_24) + v5_24)) 3 (((v7_24 + v4_24) + v5_24) + v6_24)) := ((((V64.ext E82).ext E88).ext E92).keep Kp102 (ninS ne_b25_b92 nin0))
    have Z_110 : n0 ≤ T102.heap.size := (Nat.le_trans Z_102 Kp102.1)
    obtain ⟨cq110, kq110, qa110, qb110, qc110⟩ := isOf hZ rfl P102_0
    obtain ⟨_, _, ⟨T110, L110, k110, n110⟩, -, X110, ⟨Lc110, hQ110, l110, y110, z110⟩, st110⟩ := X102.virtualBack hx (y := (⟨"com/example/lanterns/lanterns/solvers/Graph", "degree", "(I)I"⟩ : MethodName)) (z := (⟨"com/example/lanterns/lanterns/solvers/Graph", "degree", "(I)I"⟩ : MethodName)) hown (mvT hZ (hw _ (List.mem_of_getElem? (i := 16) rfl))) (mvT hZ (hw _ (List.mem_of_getElem? (i := 17) rfl))) (notFace_of_selects (args := #[]) (mvT hZ (hw _ (List.mem_of_getElem? (i := 19) rfl)))) (mvT hZ (hw _ (List.mem_of_getElem? (i := 19) rfl))) (mvT hZ (hw _ (List.mem_of_getElem? (i := 18) rfl))) (by decide) (backOf (W := 0) (rm3 l Z a0 hw [] b92 (0 : Int32) 4 (own_upd (own_upd (own_upd (own_upd (fun _ => (0 : Int32)) 0 v7_24) 1 (v7_24 + v4_24)) 2 ((v7_24 + v4_24) + v5_24)) 3 (((v7_24 + v4_24) + v5_24) + v6_24)) 0 b25 T102.heap n0 Z_110 P102_1 V64_at_110 (by decide) rfl (by decide) rfl (by decide)) hZ (hw _ (List.mem_of_getElem? (i := 20) rfl)) (hw _ (List.mem_of_getElem? (i := 3) rfl)) (by decide) (by decide)) qa110 qc110 (g := (mkF m 110 #[.val (.int p0), .val (.int p1), .val (.int p2), .val (.int p3), .val (.int v4_24), .val (.int v5_24), .val (.int v6_24), .val (.int v7_24), .val (.ref b25), .val (.int (((v7_24 + v4_24) + v5_24) + v6_24)), .val (.ref b82), .val (.ref b88), .val (.ref b92)] [(.int (0 : Int32)), (.ref b92)])) rfl (by rw [hml]; rfl) (Steps.refl _) (argsL := [(.int (0 : Int32))]) (rest := []) (lenOf own_pd1 rfl) rfl (by show 2 * 0 + _ ≤ _; exact Nat.le_of_eq rfl) (hb hby at_110) (fun _ _ => ⟨rfl, rfl, (by decide : 4 + 0 ≤ _), (by decide : 79 + 0 ≤ _)⟩)
    dsimp only [Pt.U, Pt.locs, Pt.cells, Pt.slots] at X110 l110 y110 z110 st110 hQ110
    subst l110 y110 z110
    obtain ⟨rfl, N110q, e110⟩ := hQ110
    have N110 := Fr.app N102 N110q
    refine own_via st110 ?_
    show own_Fin p e below G (T110.setTop (mkF m 113 #[.val (.int p0), .val (.int p1), .val (.int p2), .val (.int p3), .val (.int v4_24), .val (.int v5_24), .val (.int v6_24), .val (.int v7_24), .val (.ref b25), .val (.int (((v7_24 + v4_24) + v5_24) + v6_24)), .val (.ref b82), .val (.ref b88), .val (.ref b92)] [(.int (f3 (0 : Int32) 4 (own_upd (own_upd (own_upd (own_upd (fun _ => (0 : Int32)) 0 v7_24) 1 (v7_24 + v4_24)) 2 ((v7_24 + v4_24) + v5_24)) 3 (((v7_24 + v4_24) + v5_24) + v6_24)) 0))]))
    refine own_to (fun _ kz => XS.iload X110.here hx rfl (hb hby at_113) rfl  kz) ?_
    show own_Fin p e below G (T110.setTop (mkF m 115 #[.val (.int p0), .val (.int p1), .val (.int p2), .val (.int p3), .val (.int v4_24), .val (.int v5_24), .val (.int v6_24), .val (.int v7_24), .val (.ref b25), .val (.int (((v7_24 + v4_24) + v5_24) + v6_24)), .val (.ref b82), .val (.ref b88), .val (.ref b92)] [(.int v4_24), (.int (f3 (0 : Int32) 4 (own_upd (own_upd (own_upd (own_upd (fun _ => (0 : Int32)) 0 v7_24) 1 (v7_24 + v4_24)) 2 ((v7_24 + v4_24) + v5_24)) 3 (((v7_24 + v4_24) + v5_24) + v6_24)) 0))]))
    have K144 : ∀ (T_j144 : State) (locs_j144 : List Loc) (N_j144 : Fr n0 locs_j144) (X_j144 : Stand p l e room_1 s m #[(.int p0), (.int p1), (.int p2), (.int p3)] below meth c T_j144 locs_j144 4 79) (e_j144 : T_j144.heap = T102.heap) (q_j144 : (f0 p0 p1 p2 p3) = (f0_144 p0 p1 p2 p3 v4_24 v5_24 v6_24 v7_24)), own_Fin p e below G (T_j144.setTop (mkF m 144 #[.val (.int p0), .val (.int p1), .val (.int p2), .val (.int p3), .val (.int v4_24), .val (.int v5_24), .val (.int v6_24), .val (.int v7_24), .val (.ref b25), .val (.int (((v7_24 + v4_24) + v5_24) + v6_24)), .val (.ref b82), .val (.ref b88), .val (.ref b92)] [])) := by
      intro T_j144 locs_j144 N_j144 X_j144 e_j144 q_j144
      refine own_to (fun _ kz => XS.iconst X_j144.here hx rfl (hb hby at_144) kz) ?_
      show own_Fin p e below G (T_j144.setTop (mkF m 145 #[.val (.int p0), .val (.int p1), .val (.int p2), .val (.int p3), .val (.int v4_24), .val (.int v5_24), .val (.int v6_24), .val (.int v7_24), .val (.ref b25), .val (.int (((v7_24 + v4_24) + v5_24) + v6_24)), .val (.ref b82), .val (.ref b88), .val (.ref b92)] [(.int (0 : Int32))]))
      exact own_retN X_j144 hx hlk hG (t := .boolean) Bd.returns (by simp) (hb hby at_145) (by decide) (by decide) (by rw [e_j144]; exact ⟨(congrArg (fun z => some (Value.int z)) q_j144).symm, N_j144, trivial⟩)
    by_cases hc115 : (f3 (0 : Int32) 4 (own_upd (own_upd (own_upd (own_upd (fun _ => (0 : Int32)) 0 v7_24) 1 (v7_24 + v4_24)) 2 ((v7_24 + v4_24) + v5_24)) 3 (((v7_24 + v4_24) + v5_24) + v6_24)) 0) = v4_24
    · refine own_to (fun _ kz => XS.icmpNo X110.here hx rfl (hb hby at_115) rfl (teq hc115).2 kz) ?_
      have q115t := q_j24.trans (if_pos hc115)
      show own_Fin p e below G (T110.setTop (mkF m 118 #[.val (.int p0), .val (.int p1), .val (.int p2), .val (.int p3), .val (.int v4_24), .val (.int v5_24), .val (.int v6_24), .val (.int v7_24), .val (.ref b25), .val (.int (((v7_24 + v4_24) + v5_24) + v6_24)), .val (.ref b82), .val (.ref b88), .val (.ref b92)] []))
      refine own_to (fun _ kz => XS.aload X110.here hx rfl (hb hby at_118) rfl (rfl)  kz) ?_
      show own_Fin p e below G (T110.setTop (mkF m 120 #[.val (.int p0), .val (.int p1), .val (.int p2), .val (.int p3), .val (.int v4_24), .val (.int v5_24), .val (.int v6_24), .val (.int v7_24), .val (.ref b25), .val (.int (((v7_24 + v4_24) + v5_24) + v6_24)), .val (.ref b82), .val (.ref b88), .val (.ref b92)] [(.ref b92)]))
      refine own_to (fun _ kz => XS.iconst X110.here hx rfl (hb hby at_120) kz) ?_
      show own_Fin p e below G (T110.setTop (mkF m 121 #[.val (.int p0), .val (.int p1), .val (.int p2), .val (.int p3), .val (.int v4_24), .val (.int v5_24), .val (.int v6_24), .val (.int v7_24), .val (.ref b25), .val (.int (((v7_24 + v4_24) + v5_24) + v6_24)), .val (.ref b82), .val (.ref b88), .val (.ref b92)] [(.int (1 : Int32)), (.ref b92)]))
      obtain ⟨cq121, kq121, qa121, qb121, qc121⟩ := isOf hZ e110 P102_0
      obtain ⟨_, _, ⟨T121, L121, k121, n121⟩, -, X121, ⟨Lc121, hQ121, l121, y121, z121⟩, st121⟩ := X110.virtualBack hx (y := (⟨"com/example/lanterns/lanterns/solvers/Graph", "degree", "(I)I"⟩ : MethodName)) (z := (⟨"com/example/lanterns/lanterns/solvers/Graph", "degree", "(I)I"⟩ : MethodName)) hown (mvT hZ (hw _ (List.mem_of_getElem? (i := 16) rfl))) (mvT hZ (hw _ (List.mem_of_getElem? (i := 17) rfl))) (notFace_of_selects (args := #[]) (mvT hZ (hw _ (List.mem_of_getElem? (i := 19) rfl)))) (mvT hZ (hw _ (List.mem_of_getElem? (i := 19) rfl))) (mvT hZ (hw _ (List.mem_of_getElem? (i := 18) rfl))) (by decide) (backOf (W := 0) (rm3 l Z a0 hw [] b92 (1 : Int32) 4 (own_upd (own_upd (own_upd (own_upd (fun _ => (0 : Int32)) 0 v7_24) 1 (v7_24 + v4_24)) 2 ((v7_24 + v4_24) + v5_24)) 3 (((v7_24 + v4_24) + v5_24) + v6_24)) 1 b25 T102.heap n0 Z_110 P102_1 V64_at_110 (by decide) rfl (by decide) rfl (by decide)) hZ (hw _ (List.mem_of_getElem? (i := 20) rfl)) (hw _ (List.mem_of_getElem? (i := 3) rfl)) (by decide) (by decide)) qa121 qc121 (g := (mkF m 121 #[.val (.int p0), .val (.int p1), .val (.int p2), .val (.int p3), .val (.int v4_24), .val (.int v5_24), .val (.int v6_24), .val (.int v7_24), .val (.ref b25), .val (.int (((v7_24 + v4_24) + v5_24) + v6_24)), .val (.ref b82), .val (.ref b88), .val (.ref b92)] [(.int (1 : Int32)), (.ref b92)])) rfl (by rw [hml]; rfl) (Steps.refl _) (argsL := [(.int (1 : Int32))]) (rest := []) (lenOf own_pd1 rfl) rfl (by show 2 * 0 + _ ≤ _; exact Nat.le_of_eq rfl) (hb hby at_121) (fun _ _ => ⟨rfl, e110, (by decide : 4 + 0 ≤ _), (by decide : 79 + 0 ≤ _)⟩)
      dsimp only [Pt.U, Pt.locs, Pt.cells, Pt.slots] at X121 l121 y121 z121 st121 hQ121
      subst l121 y121 z121
      obtain ⟨rfl, N121q, e121⟩ := hQ121
      have N121 := Fr.app N110 N121q
      refine own_via st121 ?_
      show own_Fin p e below G (T121.setTop (mkF m 124 #[.val (.int p0), .val (.int p1), .val (.int p2), .val (.int p3), .val (.int v4_24), .val (.int v5_24), .val (.int v6_24), .val (.int v7_24), .val (.ref b25), .val (.int (((v7_24 + v4_24) + v5_24) + v6_24)), .val (.ref b82), .val (.ref b88), .val (.ref b92)] [(.int (f3 (1 : Int32) 4 (own_upd (own_upd (own_upd (own_upd (fun _ => (0 : Int32)) 0 v7_24) 1 (v7_24 + v4_24)) 2 ((v7_24 + v4_24) + v5_24)) 3 (((v7_24 + v4_24) + v5_24) + v6_24)) 1))]))
      refine own_to (fun _ kz => XS.iload X121.here hx rfl (hb hby at_124) rfl  kz) ?_
      show own_Fin p e below G (T121.setTop (mkF m 126 #[.val (.int p0), .val (.int p1), .val (.int p2), .val (.int p3), .val (.int v4_24), .val (.int v5_24), .val (.int v6_24), .val (.int v7_24), .val (.ref b25), .val (.int (((v7_24 + v4_24) + v5_24) + v6_24)), .val (.ref b82), .val (.ref b88), .val (.ref b92)] [(.int v5_24), (.int (f3 (1 : Int32) 4 (own_upd (own_upd (own_upd (own_upd (fun _ => (0 : Int32)) 0 v7_24) 1 (v7_24 + v4_24)) 2 ((v7_24 + v4_24) + v5_24)) 3 (((v7_24 + v4_24) + v5_24) + v6_24)) 1))]))
      by_cases hc126 : (f3 (1 : Int32) 4 (own_upd (own_upd (own_upd (own_upd (fun _ => (0 : Int32)) 0 v7_24) 1 (v7_24 + v4_24)) 2 ((v7_24 + v4_24) + v5_24)) 3 (((v7_24 + v4_24) + v5_24) + v6_24)) 1) = v5_24
      · refine own_to (fun _ kz => XS.icmpNo X121.here hx rfl (hb hby at_126) rfl (teq hc126).2 kz) ?_
        have q126t := q115t.trans (if_pos hc126)
        show own_Fin p e below G (T121.setTop (mkF m 129 #[.val (.int p0), .val (.int p1), .val (.int p2), .val (.int p3), .val (.int v4_24), .val (.int v5_24), .val (.int v6_24), .val (.int v7_24), .val (.ref b25), .val (.int (((v7_24 + v4_24) + v5_24) + v6_24)), .val (.ref b82), .val (.ref b88), .val (.ref b92)] []))
        refine own_to (fun _ kz => XS.aload X121.here hx rfl (hb hby at_129) rfl (rfl)  kz) ?_
        show own_Fin p e below G (T121.setTop (mkF m 131 #[.val (.int p0), .val (.int p1), .val (.int p2), .val (.int p3), .val (.int v4_24), .val (.int v5_24), .val (.int v6_24), .val (.int v7_24), .val (.ref b25), .val (.int (((v7_24 + v4_24) + v5_24) + v6_24)), .val (.ref b82), .val (.ref b88), .val (.ref b92)] [(.ref b92)]))
        refine own_to (fun _ kz => XS.iconst X121.here hx rfl (hb hby at_131) kz) ?_
        show own_Fin p e below G (T121.setTop (mkF m 132 #[.val (.int p0), .val (.int p1), .val (.int p2), .val (.int p3), .val (.int v4_24), .val (.int v5_24), .val (.int v6_24), .val (.int v7_24), .val (.ref b25), .val (.int (((v7_24 + v4_24) + v5_24) + v6_24)), .val (.ref b82), .val (.ref b88), .val (.ref b92)] [(.int (2 : Int32)), (.ref b92)]))
        obtain ⟨cq132, kq132, qa132, qb132, qc132⟩ := isOf hZ e121 P102_0
        obtain ⟨_, _, ⟨T132, L132, k132, n132⟩, -, X132, ⟨Lc132, hQ132, l132, y132, z132⟩, st132⟩ := X121.virtualBack hx (y := (⟨"com/example/lanterns/lanterns/solvers/Graph", "degree", "(I)I"⟩ : MethodName)) (z := (⟨"com/example/lanterns/lanterns/solvers/Graph", "degree", "(I)I"⟩ : MethodName)) hown (mvT hZ (hw _ (List.mem_of_getElem? (i := 16) rfl))) (mvT hZ (hw _ (List.mem_of_getElem? (i := 17) rfl))) (notFace_of_selects (args := #[]) (mvT hZ (hw _ (List.mem_of_getElem? (i := 19) rfl)))) (mvT hZ (hw _ (List.mem_of_getElem? (i := 19) rfl))) (mvT hZ (hw _ (List.mem_of_getElem? (i := 18) rfl))) (by decide) (backOf (W := 0) (rm3 l Z a0 hw [] b92 (2 : Int32) 4 (own_upd (own_upd (own_upd (own_upd (fun _ => (0 : Int32)) 0 v7_24) 1 (v7_24 + v4_24)) 2 ((v7_24 + v4_24) + v5_24)) 3 (((v7_24 + v4_24) + v5_24) + v6_24)) 2 b25 T102.heap n0 Z_110 P102_1 V64_at_110 (by decide) rfl (by decide) rfl (by decide)) hZ (hw _ (List.mem_of_getElem? (i := 20) rfl)) (hw _ (List.mem_of_getElem? (i := 3) rfl)) (by decide) (by decide)) qa132 qc132 (g := (mkF m 132 #[.val (.int p0), .val (.int p1), .val (.int p2), .val (.int p3), .val (.int v4_24), .val (.int v5_24), .val (.int v6_24), .val (.int v7_24), .val (.ref b25), .val (.int (((v7_24 + v4_24) + v5_24) + v6_24)), .val (.ref b82), .val (.ref b88), .val (.ref b92)] [(.int (2 : Int32)), (.ref b92)])) rfl (by rw [hml]; rfl) (Steps.refl _) (argsL := [(.int (2 : Int32))]) (rest := []) (lenOf own_pd1 rfl) rfl (by show 2 * 0 + _ ≤ _; exact Nat.le_of_eq rfl) (hb hby at_132) (fun _ _ => ⟨rfl, e121, (by decide : 4 + 0 ≤ _), (by decide : 79 + 0 ≤ _)⟩)
        dsimp only [Pt.U, Pt.locs, Pt.cells, Pt.slots] at X132 l132 y132 z132 st132 hQ132
        subst l132 y132 z132
        obtain ⟨rfl, N132q, e132⟩ := hQ132
        have N132 := Fr.app N121 N132q
        refine own_via st132 ?_
        show own_Fin p e below G (T132.setTop (mkF m 135 #[.val (.int p0), .val (.int p1), .val (.int p2), .val (.int p3), .val (.int v4_24), .val (.int v5_24), .val (.int v6_24), .val (.int v7_24), .val (.ref b25), .val (.int (((v7_24 + v4_24) + v5_24) + v6_24)), .val (.ref b82), .val (.ref b88), .val (.ref b92)] [(.int (f3 (2 : Int32) 4 (own_upd (own_upd (own_upd (own_upd (fun _ => (0 : Int32)) 0 v7_24) 1 (v7_24 + v4_24)) 2 ((v7_24 + v4_24) + v5_24)) 3 (((v7_24 + v4_24) + v5_24) + v6_24)) 2))]))
        refine own_to (fun _ kz => XS.iload X132.here hx rfl (hb hby at_135) rfl  kz) ?_
        show own_Fin p e below G (T132.setTop (mkF m 137 #[.val (.int p0), .val (.int p1), .val (.int p2), .val (.int p3), .val (.int v4_24), .val (.int v5_24), .val (.int v6_24), .val (.int v7_24), .val (.ref b25), .val (.int (((v7_24 + v4_24) + v5_24) + v6_24)), .val (.ref b82), .val (.ref b88), .val (.ref b92)] [(.int v6_24), (.int (f3 (2 : Int32) 4 (own_upd (own_upd (own_upd (own_upd (fun _ => (0 : Int32)) 0 v7_24) 1 (v7_24 + v4_24)) 2 ((v7_24 + v4_24) + v5_24)) 3 (((v7_24 + v4_24) + v5_24) + v6_24)) 2))]))
        by_cases hc137 : (f3 (2 : Int32) 4 (own_upd (own_upd (own_upd (own_upd (fun _ => (0 : Int32)) 0 v7_24) 1 (v7_24 + v4_24)) 2 ((v7_24 + v4_24) + v5_24)) 3 (((v7_24 + v4_24) + v5_24) + v6_24)) 2) = v6_24
        · refine own_to (fun _ kz => XS.icmpNo X132.here hx rfl (hb hby at_137) rfl (teq hc137).2 kz) ?_
          have q137t := q126t.trans (if_pos hc137)
          show own_Fin p e below G (T132.setTop (mkF m 140 #[.val (.int p0), .val (.int p1), .val (.int p2), .val (.int p3), .val (.int v4_24), .val (.int v5_24), .val (.int v6_24), .val (.int v7_24), .val (.ref b25), .val (.int (((v7_24 + v4_24) + v5_24) + v6_24)), .val (.ref b82), .val (.ref b88), .val (.ref b92)] []))
          refine own_to (fun _ kz => XS.iconst X132.here hx rfl (hb hby at_140) kz) ?_
          show own_Fin p e below G (T132.setTop (mkF m 141 #[.val (.int p0), .val (.int p1), .val (.int p2), .val (.int p3), .val (.int v4_24), .val (.int v5_24), .val (.int v6_24), .val (.int v7_24), .val (.ref b25), .val (.int (((v7_24 + v4_24) + v5_24) + v6_24)), .val (.ref b82), .val (.ref b88), .val (.ref b92)] [(.int (1 : Int32))]))
          refine own_to (fun _ kz => XS.goto X132.here hx rfl (pc0 := 141) (pc' := 145) rfl (hb hby at_141) (by decide) (by decide) kz) ?_
          show own_Fin p e below G (T132.setTop (mkF m 145 #[.val (.int p0), .val (.int p1), .val (.int p2), .val (.int p3), .val (.int v4_24), .val (.int v5_24), .val (.int v6_24), .val (.int v7_24), .val (.ref b25), .val (.int (((v7_24 + v4_24) + v5_24) + v6_24)), .val (.ref b82), .val (.ref b88), .val (.ref b92)] [(.int (1 : Int32))]))
          exact own_retN X132 hx hlk hG (t := .boolean) Bd.returns (by simp) (hb hby at_145) (by decide) (by decide) (by rw [e132]; exact ⟨(congrArg (fun z => some (Value.int z)) q137t).symm, N132, trivial⟩)
        · refine own_to (fun _ kz => XS.icmpYes X132.here hx rfl (pc0 := 137) (pc' := 144) rfl (hb hby at_137) rfl (feq hc137).2 (by decide) (by decide) kz) ?_
          have q137f := q126t.trans (if_neg hc137)
          show own_Fin p e below G (T132.setTop (mkF m 144 #[.val (.int p0), .val (.int p1), .val (.int p2), .val (.int p3), .val (.int v4_24), .val (.int v5_24), .val (.int v6_24), .val (.int v7_24), .val (.ref b25), .val (.int (((v7_24 + v4_24) + v5_24) + v6_24)), .val (.ref b82), .val (.ref b88), .val (.ref b92)] []))
          exact K144 _ _ N132 X132 e132 q137f
      · refine own_to (fun _ kz => XS.icmpYes X121.here hx rfl (pc0 := 126) (pc' := 144) rfl (hb hby at_126) rfl (feq hc126).2 (by decide) (by decide) kz) ?_
        have q126f := q115t.trans (if_neg hc126)
        show own_Fin p e below G (T121.setTop (mkF m 144 #[.val (.int p0), .val (.int p1), .val (.int p2), .val (.int p3), .val (.int v4_24), .val (.int v5_24), .val (.int v6_24), .val (.int v7_24), .val (.ref b25), .val (.int (((v7_24 + v4_24) + v5_24) + v6_24)), .val (.ref b82), .val (.ref b88), .val (.ref b92)] []))
        exact K144 _ _ N121 X121 e121 q126f
    · refine own_to (fun _ kz => XS.icmpYes X110.here hx rfl (pc0 := 115) (pc' := 144) rfl (hb hby at_115) rfl (feq hc115).2 (by decide) (by decide) kz) ?_
      have q115f := q_j24.trans (if_neg hc115)
      show own_Fin p e below G (T110.setTop (mkF m 144 #[.val (.int p0), .val (.int p1), .val (.int p2), .val (.int p3), .val (.int v4_24), .val (.int v5_24), .val (.int v6_24), .val (.int v7_24), .val (.ref b25), .val (.int (((v7_24 + v4_24) + v5_24) + v6_24)), .val (.ref b82), .val (.ref b88), .val (.ref b92)] []))
      exact K144 _ _ N110 X110 e110 q115f
  exact K24 (p0 &&& (7 : Int32)) (p1 &&& (7 : Int32)) (p2 &&& (7 : Int32)) (p3 &&& (15 : Int32)) (own_m7 _) (own_m7 _) (own_m7 _) (own_m15 _) q0
theorem own_as (a b : Int32) : a + b - a = b := by
  rw [Int32.add_comm, Int32.add_sub_cancel]
theorem own_plain (a b c d : Int32) : f0 a b c d = 1 := by
  simp [f0_24, f0_144, f0, f3, own_upd, own_as]
set_option maxRecDepth 65536 in
set_option maxHeartbeats 40000000 in
theorem comes_1 {Post : Tables → Env → Array Value → State → Outcome → State → Prop} (hpost : ∀ tb e args s v u, (limb_1_1.after args s (.returned v) u = true ∧ limb_1_2.after args s (.returned v) u = true ∧ True) → FrameEnd s (.returned v) u (Jvm.fieldLocs frame_1_writes args s ++ Jvm.arrayLocs frame_1_arrays args s ++ Jvm.staticLocs frame_1_statics s) 16 256 → Post tb e args s (.returned v) u) :
    ArmFor flags0 classFile x code maxLocals ret World_1 tables_1 room_1 Calls_1 rest_1 Pre_1 Post := by
  intro l hfl _ _ p e ha hc hk s m args below hf hA hF happ hP
  obtain ⟨hcalls, hrest, hpre⟩ := hP
  obtain ⟨-, -, -, hnamed, -, -, -, hat⟩ := (Spec.applies_iff hf).mp happ
  obtain ⟨hg, hn⟩ := and_e (Cond.before_iff.mp (show (Jvm.Cond.and given_1 narrow_1).before args s = true from hpre))
  obtain ⟨gg1, gg2⟩ := and_e hg
  obtain ⟨gg3, gg4⟩ := and_e gg2
  obtain ⟨gg5, gg6⟩ := and_e gg4
  obtain ⟨gg7, gg8⟩ := and_e gg6
  obtain ⟨w0, w1, w2, w3, rfl⟩ : ∃ w0 w1 w2 w3 : Value, args = #[w0, w1, w2, w3] := by
    have hs : args.size = 4 := by simpa [Cond.value, given_1] using gg1
    obtain ⟨L⟩ := args
    match L, hs with
    | [w0, w1, w2, w3], _ => exact ⟨w0, w1, w2, w3, rfl⟩
  have hw := fun d (hd : d ∈ tables_1) => atoms_spec (ws := Jvm.Cond.code x code maxLocals ret :: tables_1) hat d (List.mem_cons_of_mem _ hd)
  obtain ⟨i0, ei0⟩ := is_v gg3
  obtain rfl : w0 = (.int i0) := Option.some.inj ei0
  obtain ⟨i1, ei1⟩ := is_v gg5
  obtain rfl : w1 = (.int i1) := Option.some.inj ei1
  obtain ⟨i2, ei2⟩ := is_v gg7
  obtain rfl : w2 = (.int i2) := Option.some.inj ei2
  obtain ⟨i3, ei3⟩ := is_v gg8
  obtain rfl : w3 = (.int i3) := Option.some.inj ei3
  obtain ⟨n, o, h1, h2, h3, v, L, rfl, ⟨hv, N, -⟩, hq⟩ := rm0 l s _ hw tables_1 i0 i1 i2 i3 s.heap s.heap.size (Nat.le_refl _) p e ha hc hk s m _ below hf ((Spec.applies_iff_loose hf).mp happ).1 ⟨rfl, State.Warmed39.refl s, rfl⟩ trivial
  obtain rfl : v = some (.int 1) := hv.trans (congrArg (fun z => some (Value.int z)) (own_plain i0 i1 i2 i3))
  refine ⟨n, _, h1, h2, h3, hpost _ _ _ _ _ _ ⟨Cond.after_iff.mpr rfl, Cond.after_iff.mpr (eq_i res_at (Term.int_eval (1)) rfl), trivial⟩ ⟨hq.1, hq.2.1, (hq.2.2.sift fun y hy => Or.inr (N y hy)).mono (by decide) (by decide)⟩⟩
theorem main_1_1 : Claimed_1_1 := comes_1 fun _ _ _ _ _ _ h hF => ⟨h.1, hF⟩
theorem main_1_2 : Claimed_1_2 := comes_1 fun _ _ _ _ _ _ h hF => ⟨h.2.1, hF⟩
end Jvm.Pilot.@@N@@
namespace Jvm.Pilot.@@N@@
open Jvm Jvm.ClassFile Sem Op Lib Jvm.Free Jvm.Stand Jvm.Pilot.@@N@@.Jvm.D
/-! MADE BY PROGRAM (witnessworld.py) out of the Statement's table words and the real class files: 9 classes; the members and pool entries that the words name. The judged class is class 1, her method 1. -/
namespace start1
open Jvm.ClassFile
def u (s : String) : CpInfo := .utf8 (stringToUtf16 s)
/-- a pool by its gaps: so many unusable entries, then the entry; so many at the end -/
def gap : Nat → List CpInfo → List CpInfo
  | 0, r => r
  | n + 1, r => .unusable :: gap n r
def poolList (es : List (Nat × CpInfo)) (last : Nat) : List CpInfo := es.foldr (fun e r => gap e.1 (e.2 :: r)) (gap last [])
def pool (es : List (Nat × CpInfo)) (last : Nat) : Array CpInfo := ⟨poolList es last⟩
def fileOf (pool : Array CpInfo) (this : Nat) (attrs : Array Attribute := #[]) (ms : Array MethodInfo := #[]) (fl : Nat := 33) (sup : Nat := 0) (ifs : Array Nat := #[]) (fds : Array FieldInfo := #[]) : ClassFile where
  minorVersion := 0
  majorVersion := 65
  constantPool := pool
  accessFlags := fl
  thisClass := this
  superClass := sup
  interfaces := ifs
  fields := fds
  methods := ms
  attributes := attrs
def plain (name : String) (sup : Option ClassId) : Class where
  name := name
  kind := .ordinary
  loader := none
  accessFlags := 33
  super := sup
  interfaces := #[]
  cf := none
  fields := #[]
  methods := #[]
  instanceTypes := #[]
  staticTypes := #[]
  resolved := #[]
  callSites := []
  init := .initialized
  statics := none
  mirror := none

def pool0 : Array CpInfo := pool [(5, u "<init>"), (0, u "()V"), (1, .class_ 10), (1, u "java/lang/Object")] 113

def k0c0 : Code := { maxStack := 0, maxLocals := 1, code := object_method_1_code, exceptionTable := #[], attributes := #[] }
def k0m0 : Method := { name := "<init>", desc := "()V", sig := { parameters := [], returnType := none }, accessFlags := 1, code := some k0c0 }
/-- java/lang/Object -/
def k0 : Class := { plain "java/lang/Object" none with
  accessFlags := 33
  interfaces := #[]
  cf := some (fileOf pool0 8 #[] #[{ accessFlags := 1, nameIndex := 5, descriptorIndex := 6, attributes := #[] }] 33 0 #[] #[])
  fields := #[]
  methods := #[k0m0]
  instanceTypes := #[]
  staticTypes := #[]
  resolved := Array.replicate 124 none
  statics := none }

def pool1 : Array CpInfo := pool [(2, .class_ 4), (1, u "java/lang/Object"), (0, u "<init>"), (0, u "()V"), (0, .class_ 8), (0, u "com/example/lanterns/lanterns/solvers/Graph"), (0, .methodref 7 10), (0, .nameAndType 5 11), (0, u "([I[I[I)V"), (0, .methodref 7 13), (0, .nameAndType 14 15), (0, u "degree"), (0, u "(I)I"), (0, .class_ 17), (0, u "com/example/lanterns/lanterns/solvers/GraphDegreePinLaw"), (2, u "law"), (0, u "(IIII)Z")] 5

def k1m0 : Method := { name := "<init>", desc := "()V", sig := { parameters := [], returnType := none }, accessFlags := 1, code := none }
def k1c1 : Code := { maxStack := 5, maxLocals := 13, code := code, exceptionTable := #[], attributes := #[] }
def k1m1 : Method := { name := "law", desc := "(IIII)Z", sig := { parameters := [.int, .int, .int, .int], returnType := some .boolean }, accessFlags := 9, code := some k1c1 }
/-- com/example/lanterns/lanterns/solvers/GraphDegreePinLaw -/
def k1 : Class := { plain "com/example/lanterns/lanterns/solvers/GraphDegreePinLaw" (some 0) with
  accessFlags := 49
  interfaces := #[]
  cf := some (fileOf pool1 16 #[] #[{ accessFlags := 1, nameIndex := 5, descriptorIndex := 6, attributes := #[] }, { accessFlags := 9, nameIndex := 20, descriptorIndex := 21, attributes := #[] }] 49 2 #[] #[])
  fields := #[]
  methods := #[k1m0, k1m1]
  instanceTypes := #[]
  staticTypes := #[]
  resolved := Array.replicate 27 none
  statics := none }

def pool2 : Array CpInfo := pool [(1, .methodref 2 3), (0, .class_ 4), (0, .nameAndType 5 6), (0, u "java/lang/Object"), (0, u "<init>"), (0, u "()V"), (0, .fieldref 8 9), (0, .class_ 10), (0, .nameAndType 11 12), (0, u "com/example/lanterns/lanterns/solvers/Graph"), (0, u "start"), (0, u "[I"), (0, .fieldref 8 14), (0, .nameAndType 15 12), (0, u "neighbours"), (0, .fieldref 8 17), (0, .nameAndType 18 12), (0, u "edges"), (14, u "([I[I[I)V"), (8, u "degree"), (0, u "(I)I"), (9, u "UNMATCHED"), (0, u "I")] 18

def k2c0 : Code := { maxStack := 2, maxLocals := 4, code := prog_24_method_1_code, exceptionTable := #[], attributes := #[] }
def k2m0 : Method := { name := "<init>", desc := "([I[I[I)V", sig := { parameters := [(.array .int), (.array .int), (.array .int)], returnType := none }, accessFlags := 0, code := some k2c0 }
def k2c1 : Code := { maxStack := 3, maxLocals := 2, code := prog_24_method_9_code, exceptionTable := #[], attributes := #[] }
def k2m1 : Method := { name := "degree", desc := "(I)I", sig := { parameters := [.int], returnType := some .int }, accessFlags := 0, code := some k2c1 }
/-- com/example/lanterns/lanterns/solvers/Graph -/
def k2 : Class := { plain "com/example/lanterns/lanterns/solvers/Graph" (some 0) with
  accessFlags := 48
  interfaces := #[]
  cf := some (fileOf pool2 8 #[] #[{ accessFlags := 0, nameIndex := 5, descriptorIndex := 33, attributes := #[] }, { accessFlags := 0, nameIndex := 42, descriptorIndex := 43, attributes := #[] }] 48 2 #[] #[{ accessFlags := 26, nameIndex := 53, descriptorIndex := 54, attributes := #[] }, { accessFlags := 18, nameIndex := 11, descriptorIndex := 12, attributes := #[] }, { accessFlags := 18, nameIndex := 15, descriptorIndex := 12, attributes := #[] }, { accessFlags := 18, nameIndex := 18, descriptorIndex := 12, attributes := #[] }])
  fields := #[{ name := "UNMATCHED", type := .int, accessFlags := 26, slot := 0, constantValue := 0 }, { name := "start", type := (.array .int), accessFlags := 18, slot := 0, constantValue := 0 }, { name := "neighbours", type := (.array .int), accessFlags := 18, slot := 1, constantValue := 0 }, { name := "edges", type := (.array .int), accessFlags := 18, slot := 2, constantValue := 0 }]
  methods := #[k2m0, k2m1]
  instanceTypes := #[(.array .int), (.array .int), (.array .int)]
  staticTypes := #[.int]
  resolved := Array.replicate 73 none
  statics := none }

def pool3 : Array CpInfo := pool [(1, u "java/lang/Cloneable"), (0, .class_ 1), (0, u "java/lang/Object"), (0, .class_ 3)] 3

/-- java/lang/Cloneable -/
def k3 : Class := { plain "java/lang/Cloneable" (some 0) with
  accessFlags := 1537
  interfaces := #[]
  cf := some (fileOf pool3 2 #[] #[] 1537 4 #[] #[])
  fields := #[]
  methods := #[]
  instanceTypes := #[]
  staticTypes := #[]
  resolved := Array.replicate 8 none
  statics := none }

def pool4 : Array CpInfo := pool [(1, u "java/io/Serializable"), (0, .class_ 1), (0, u "java/lang/Object"), (0, .class_ 3)] 3

/-- java/io/Serializable -/
def k4 : Class := { plain "java/io/Serializable" (some 0) with
  accessFlags := 1537
  interfaces := #[]
  cf := some (fileOf pool4 2 #[] #[] 1537 4 #[] #[])
  fields := #[]
  methods := #[]
  instanceTypes := #[]
  staticTypes := #[]
  resolved := Array.replicate 8 none
  statics := none }

/-- the primitive byte -/
def k5 : Class := { plain "byte" none with kind := .primitive 'B', accessFlags := 0x411 }
/-- [B -/
def k6 : Class := { plain "[B" (some 0) with kind := .array 5 .byte, interfaces := #[3, 4], accessFlags := 1041 }

/-- the primitive int -/
def k7 : Class := { plain "int" none with kind := .primitive 'I', accessFlags := 0x411 }
/-- [I -/
def k8 : Class := { plain "[I" (some 0) with kind := .array 7 .int, interfaces := #[3, 4], accessFlags := 1041 }

def heap : Heap := #[]
def classes : Array Class := #[k0, k1, k2, k3, k4, k5, k6, k7, k8]
def interned : List (Array UInt16 × Addr) := []
def slotsUsed : Nat := 0
def theMethod : MethodId := ⟨1, 1⟩
def args0 : Array Value := #[.int 5, .int 6, .int 7, .int 8]
def aboutOver (below : List Frame) : State where
  vm := { classes := classes, interned := interned.toArray }
  heap := heap
  slotsUsed := slotsUsed
  threads := #[{ frames := .invoking theMethod args0 :: below }]
def below0 : List Frame := [.native { method := ⟨0, 0⟩, args := #[] }]
def about1 : State := aboutOver below0
def p0 : Program := .bare "" "" ""
def e0 : Env := launch0.env 0 0 0
theorem w_frames : about1.frames = Frame.invoking theMethod args0 :: below0 := rfl
set_option maxRecDepth 65536 in
theorem w_args : argsFit about1.vm theMethod args0 = true := by decide +kernel
set_option maxRecDepth 65536 in
theorem w_heap : heapFits about1 = true := by decide +kernel
set_option maxRecDepth 65536 in
theorem w_runnable : about1.curStatus? = some .runnable := by decide +kernel
set_option maxRecDepth 65536 in
theorem w_alone : about1.alone = true := by decide +kernel
set_option maxRecDepth 65536 in
theorem w_named : about1.methodNamed? x = some theMethod := by decide +kernel
set_option maxRecDepth 65536 in
theorem w_hears : about1.hears theMethod below0 = true := by decide +kernel
set_option maxRecDepth 65536 in
theorem w_ripe : about1.ripe theMethod args0 below0 = true := by decide +kernel
theorem w_running : about1.status = .running := rfl
set_option maxRecDepth 65536 in
theorem w_room : about1.hasRoom e0.platform room_1 = true :=
  launch0.hasRoom_least _ room_1 (by decide +kernel) (by decide +kernel) (by decide +kernel) (by decide +kernel) (by decide +kernel) (by decide +kernel)
theorem allAtoms_all (ts : List Jvm.Cond) (a : Array Jvm.Value) (st : Jvm.State) : (allAtoms ts).before a st = ts.all (fun c => c.before a st) := by
  induction ts with
  | nil => rfl
  | cons c t ih =>
    show (Jvm.Cond.and c (allAtoms t)).before a st = _
    rw [Jvm.Cond.before_and, ih, List.all_cons]
def words1 : List Jvm.Cond := Jvm.Cond.code x code maxLocals ret :: tables_1
/-- a 'code' word, met by the world's own term for the bytes: nothing is compared byte by byte -/
theorem code_word {y : MethodName} {bytes : ByteArray} {mx : Nat} {rt : Option FieldType} {a : Array Value} {s : State} {m : MethodId} {meth : Method} {c : Code} (h1 : s.methodNamed? y = some m) (h2 : s.vm.method? m = some meth) (h3 : meth.code = some c) (h4 : c.code = bytes)
    (h5 : (c.maxLocals == mx && c.exceptionTable.isEmpty && decide (c.maxStack ≤ mostOperands) && decide (meth.sig.returnType = rt) && !meth.locks && decide (parseMethodDescriptor y.desc = some meth.sig)) = true) : (Jvm.Cond.code y bytes mx rt).before a s = true := by
  simp only [Bool.and_eq_true, beq_iff_eq, Bool.not_eq_true', decide_eq_true_eq] at h5
  obtain ⟨⟨⟨⟨⟨g1, g2⟩, g3⟩, g4⟩, g5⟩, g6⟩ := h5
  simp [Cond.before, Cond.holds, Cond.value, h1, h2, h3, h4, g1, g2, g3, g4, g5, g6]
def isCode : Jvm.Cond → Bool
  | .code _ _ _ _ => true
  | _ => false
theorem all_split {L : List Jvm.Cond} {P : Jvm.Cond → Bool} (h1 : L.all (fun c => isCode c || P c) = true) (h2 : ∀ c ∈ L.filter isCode, P c = true) : L.all P = true := by
  refine List.all_eq_true.mpr fun c hc => ?_
  have h := List.all_eq_true.mp h1 c hc
  rcases Bool.eq_false_or_eq_true (isCode c) with hi | hi
  · exact h2 c (List.mem_filter.mpr ⟨hc, hi⟩)
  · simpa [hi] using h
set_option maxRecDepth 65536 in
theorem w_c0 : (Jvm.Cond.code x code maxLocals ret).before args0 about1 = true := code_word (m := ⟨1, 1⟩) (meth := k1m1) (c := k1c1) (by decide +kernel) rfl rfl rfl (by decide +kernel)
set_option maxRecDepth 65536 in
theorem w_c1 : (Jvm.Cond.code ({ cls := "com/example/lanterns/lanterns/solvers/Graph", name := "<init>", desc := "([I[I[I)V" } : Jvm.MethodName) prog_24_method_1_code (4 : Nat) (Option.none : Option Jvm.ClassFile.FieldType)).before args0 about1 = true := code_word (m := ⟨2, 0⟩) (meth := k2m0) (c := k2c0) (by decide +kernel) rfl rfl rfl (by decide +kernel)
set_option maxRecDepth 65536 in
theorem w_c2 : (Jvm.Cond.code ({ cls := "java/lang/Object", name := "<init>", desc := "()V" } : Jvm.MethodName) object_method_1_code (1 : Nat) (Option.none : Option Jvm.ClassFile.FieldType)).before args0 about1 = true := code_word (m := ⟨0, 0⟩) (meth := k0m0) (c := k0c0) (by decide +kernel) rfl rfl rfl (by decide +kernel)
set_option maxRecDepth 65536 in
theorem w_c3 : (Jvm.Cond.code ({ cls := "com/example/lanterns/lanterns/solvers/Graph", name := "degree", desc := "(I)I" } : Jvm.MethodName) prog_24_method_9_code (2 : Nat) (Option.some Jvm.ClassFile.FieldType.int)).before args0 about1 = true := code_word (m := ⟨2, 1⟩) (meth := k2m1) (c := k2c1) (by decide +kernel) rfl rfl rfl (by decide +kernel)
def codes1 : List Jvm.Cond := [Jvm.Cond.code x code maxLocals ret, Jvm.Cond.code ({ cls := "com/example/lanterns/lanterns/solvers/Graph", name := "<init>", desc := "([I[I[I)V" } : Jvm.MethodName) prog_24_method_1_code (4 : Nat) (Option.none : Option Jvm.ClassFile.FieldType), Jvm.Cond.code ({ cls := "java/lang/Object", name := "<init>", desc := "()V" } : Jvm.MethodName) object_method_1_code (1 : Nat) (Option.none : Option Jvm.ClassFile.FieldType), Jvm.Cond.code ({ cls := "com/example/lanterns/lanterns/solvers/Graph", name := "degree", desc := "(I)I" } : Jvm.MethodName) prog_24_method_9_code (2 : Nat) (Option.some Jvm.ClassFile.FieldType.int)]
set_option maxRecDepth 65536 in
theorem codes_eq : words1.filter isCode = codes1 := rfl
theorem w_codes : ∀ c ∈ words1.filter isCode, c.before args0 about1 = true := by
  rw [codes_eq]
  intro c hc
  simp only [codes1, List.mem_cons, List.not_mem_nil, or_false] at hc
  rcases hc with rfl | rfl | rfl | rfl
  · exact w_c0
  · exact w_c1
  · exact w_c2
  · exact w_c3
set_option maxRecDepth 65536 in
theorem w_t1 : words1.all (fun c => isCode c || c.before args0 about1) = true := by decide +kernel
theorem w_tables : (allAtoms (Jvm.Cond.code x code maxLocals ret :: tables_1)).before args0 about1 = true := by
  rw [allAtoms_all]
  show words1.all (fun c => c.before args0 about1) = true
  refine all_split ?_ w_codes
  rw [w_t1]
set_option maxRecDepth 65536 in
theorem w_case : (Jvm.Cond.and given_1 narrow_1).before args0 about1 = true := by decide +kernel
theorem w_applies : (headSpec (Jvm.Cond.code x code maxLocals ret :: tables_1) room_1).applies x e0.platform about1 = true :=
  (Spec.applies_iff w_frames).mpr ⟨w_running, w_runnable, w_alone, w_named, w_hears, w_ripe, w_room, w_tables⟩
theorem atStart : AtStart classFile x code maxLocals ret World_1 tables_1 room_1 Calls_1 rest_1 Pre_1 launch0 p0 e0 about1 theMethod args0 below0 :=
  ⟨lists_1, trivial, launch0.admits_env _ _ _, launch0.least_env, fairChoices_fair.cas, fairChoices_fair.clock, w_frames, w_args, w_heap, w_applies, trivial, trivial, w_case⟩
end start1
theorem witness_1 : WitnessClaimed_1 := ⟨start1.p0, start1.e0, start1.about1, start1.theMethod, start1.args0, start1.below0, start1.atStart⟩
end Jvm.Pilot.@@N@@
