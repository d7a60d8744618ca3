import JvmDerived
import JvmDerived.Pilot.@@N@@Statement
import JvmDerived.Pilot.@@N@@Code
set_option linter.unusedVariables false
set_option linter.unusedSimpArgs false

namespace Jvm.Pilot.@@N@@
open Jvm Jvm.ClassFile Sem Op Lib Jvm.Free Jvm.Stand Jvm.LawKit Jvm.RoadKit Bundle Jvm.Pilot.@@N@@.Jvm.D

section OwnKit
variable {p : Program} {l : Launch} {e : Env} {R : Room} {s : State} {m : MethodId} {args : Array Value} {below : List Frame} {meth : Method} {c : Code} {T : State} {locs : List Loc} {cells slots : Nat} {G : Outcome → State → Prop} {Q : Option Value → Heap → List Loc → Prop} {C S : Nat} {Z : State} {h h' : Heap}
/-- from the state t the invocation comes to an end of which G holds -/
def own_Fin (p : Program) (e : Env) (below : List Frame) (G : Outcome → State → Prop) (t : State) : Prop := ∃ s₂ o, Steps p.tables e below t s₂ ∧ s₂.status = .running ∧ Ended s₂ below o ∧ G o s₂
def own_G (s : State) (Q : Option Value → Heap → List Loc → Prop) (C S : Nat) (o : Outcome) (U' : State) : Prop := ∃ v L, o = .returned v ∧ Q v U'.heap L ∧ FrameEnd s o U' L C S
theorem own_to {t u : State} (h : ∀ z, Steps p.tables e below u z → Steps p.tables e below t z) (k : own_Fin p e below G u) : own_Fin p e below G t := by
  obtain ⟨a, b, c, d⟩ := k; exact ⟨a, b, h _ c, d⟩
theorem own_via {t u : State} (h : Steps p.tables e below t u) (k : own_Fin p e below G u) : own_Fin p e below G t := own_to (fun _ kz => h.trans kz) k
theorem own_retW (X : Stand p l e R s m args below meth c T locs cells slots) (hx : p.tables.exec = Jvm.exec) (hlk : meth.locks = false) (hG : G = own_G s Q C S) {f : JFrame} {w : Option Value} (hv : meth.sig.returnType = none → w = none)
    (st : ∀ fs, (∀ (f : JFrame) (acts : List Action), f.method = m → f.locked = none → f.entered = [] → (doReturn e (T.setTop f) acts w).1 = T.setFrames fs) → Steps p.tables e below (T.setTop f) (T.setFrames fs))
    (hc : cells ≤ C) (hs : slots ≤ S) (hQ : Q w T.heap locs) : own_Fin p e below G (T.setTop f) := by
  subst hG
  obtain ⟨fs, hr, hrun, hended, hW, hsame⟩ := X.leave (v := w) hv hlk
  exact ⟨_, _, st fs hr, hrun, hended, _, _, rfl, hQ, ⟨_, rfl⟩, hW, hsame.mono hc hs⟩
theorem own_retI (X : Stand p l e R s m args below meth c T locs cells slots) (hx : p.tables.exec = Jvm.exec) (hlk : meth.locks = false) (hG : G = own_G s Q C S) {pc : Nat} {Ls : Array Slot} {z : Int32} {rest : List Value} (hret : meth.sig.returnType = some .int) (hd : decode c.code pc = .ok (.ireturn, 1))
    (hc : cells ≤ C) (hs : slots ≤ S) (hQ : Q (some (.int z)) T.heap locs) : own_Fin p e below G (T.setTop (mkF m pc Ls (.int z :: rest))) :=
  own_retW X hx hlk hG (w := some (.int z)) (fun h => by rw [hret] at h; cases h) (fun fs hr => retOut X hx hret rfl (Or.inl ⟨rfl, Or.inl rfl, z, rfl⟩) hd hr) hc hs hQ
theorem own_retJ (X : Stand p l e R s m args below meth c T locs cells slots) (hx : p.tables.exec = Jvm.exec) (hlk : meth.locks = false) (hG : G = own_G s Q C S) {pc : Nat} {Ls : Array Slot} {z : Int64} {rest : List Value} (hret : meth.sig.returnType = some .long) (hd : decode c.code pc = .ok (.lreturn, 1))
    (hc : cells ≤ C) (hs : slots ≤ S) (hQ : Q (some (.long z)) T.heap locs) : own_Fin p e below G (T.setTop (mkF m pc Ls (.long z :: rest))) :=
  own_retW X hx hlk hG (w := some (.long z)) (fun h => by rw [hret] at h; cases h) (fun fs hr => retOut X hx hret rfl (Or.inr (Or.inl ⟨rfl, rfl, z, rfl⟩)) hd hr) hc hs hQ
theorem own_retA (X : Stand p l e R s m args below meth c T locs cells slots) (hx : p.tables.exec = Jvm.exec) (hlk : meth.locks = false) (hG : G = own_G s Q C S) {pc : Nat} {Ls : Array Slot} {w : Value} {rest : List Value} {t : FieldType} (hret : meth.sig.returnType = some t) (ht : t.isReference = true) (hw : w.isRef = true) (hd : decode c.code pc = .ok (.areturn, 1))
    (hc : cells ≤ C) (hs : slots ≤ S) (hQ : Q (some w) T.heap locs) : own_Fin p e below G (T.setTop (mkF m pc Ls (w :: rest))) :=
  own_retW X hx hlk hG (w := some w) (fun h => by rw [hret] at h; cases h) (fun fs hr => retOut X hx hret (by rcases ref_cases hw with rfl | ⟨a, rfl⟩ <;> cases t <;> first | rfl | (simp [FieldType.isReference] at ht)) (Or.inr (Or.inr (Or.inr (Or.inr ⟨rfl, ht, hw⟩)))) hd hr) hc hs hQ
theorem own_retN (X : Stand p l e R s m args below meth c T locs cells slots) (hx : p.tables.exec = Jvm.exec) (hlk : meth.locks = false) (hG : G = own_G s Q C S) {pc : Nat} {Ls : Array Slot} {z : Int32} {rest : List Value} {t : FieldType} (hret : meth.sig.returnType = some t) (ht : t = .boolean ∨ t = .byte ∨ t = .char ∨ t = .short) (hd : decode c.code pc = .ok (.ireturn, 1))
    (hc : cells ≤ C) (hs : slots ≤ S) (hQ : Q (some (.int (nar t z))) T.heap locs) : own_Fin p e below G (T.setTop (mkF m pc Ls (.int z :: rest))) :=
  own_retW X hx hlk hG (w := some (.int (nar t z))) (fun h => by rw [hret] at h; cases h) (fun fs hr => retN X hx hret ht hd hr) hc hs hQ
theorem own_retV (X : Stand p l e R s m args below meth c T locs cells slots) (hx : p.tables.exec = Jvm.exec) (hlk : meth.locks = false) (hG : G = own_G s Q C S) {pc : Nat} {Ls : Array Slot} (hret : meth.sig.returnType = none) (hd : decode c.code pc = .ok (.return_, 1))
    (hc : cells ≤ C) (hs : slots ≤ S) (hQ : Q none T.heap locs) : own_Fin p e below G (T.setTop (mkF m pc Ls [])) :=
  own_retW X hx hlk hG (w := none) (fun _ => rfl) (fun fs hr => X.returnOut hx hret hd hr) hc hs hQ
theorem own_lrem {g : JFrame} {target : State} (X : Stand p l e R s m args below meth c T locs cells slots) (hx : p.tables.exec = Jvm.exec) (hg : g.method = m) {x y : Int64} {rest : List Value} (hd : decode c.code g.pc = .ok (.lrem, 1)) (hs : g.stack = .long y :: .long x :: rest) (hy : y ≠ 0)
    (hr : Steps p.tables e below (T.setTop { g with pc := g.pc + 1, stack := .long (x % y) :: rest }) target) : Steps p.tables e below (T.setTop g) target := by
  have q : x - x / y * y = x % y := lrem_mod x y
  exact XS.lrem X.here hx hg hd hs hy (by rw [q]; exact hr)
def own_Pair (a b : Slot) : Prop := (a = .unset ∧ b = .unset) ∨ ∃ x, a = .val (.long x) ∧ b = .second
/-- the array at a has n places; place i holds mk (f i) -/
def own_AV {α : Type} (mk : α → Value) (Z : State) (h : Heap) (a : Addr) (ty : FieldType) (n : Nat) (f : Nat → α) : Prop := n < 2 ^ 31 ∧ ∃ c : Cell, Arr Z h a c ty ∧ c.slots.size = n ∧ ∀ i, i < n → c.slots[i]? = some (mk (f i))
def own_upd {α : Type} (f : Nat → α) (k : Nat) (v : α) : Nat → α := fun i => if i = k then v else f i
section
variable {α : Type} {mk : α → Value} {a b : Addr} {ty : FieldType} {n : Nat} {f f' : Nat → α} {ws : List Addr} {sl : Nat} {v : Value}
theorem own_AV.lt (F : own_AV mk Z h a ty n f) : a < h.size := by obtain ⟨_, c, A, -⟩ := F; exact A.lt
theorem own_AV.ext (F : own_AV mk Z h a ty n f) (E : Ext h h') : own_AV mk Z h' a ty n f := by obtain ⟨q, c, A, r⟩ := F; exact ⟨q, c, A.ext E, r⟩
theorem own_AV.other (F : own_AV mk Z h b ty n f) (W : Wr h h' a sl v) (q : b ≠ a) : own_AV mk Z h' b ty n f := by obtain ⟨q', c, A, r⟩ := F; exact ⟨q', c, A.other W q, r⟩
theorem own_AV.keep (F : own_AV mk Z h a ty n f) (K : Keep h h' ws) (q : a ∉ ws) : own_AV mk Z h' a ty n f := by obtain ⟨q', c, A, r⟩ := F; exact ⟨q', c, ⟨K.2.1 a c A.1 q, A.2⟩, r⟩
theorem own_AV.congr (F : own_AV mk Z h a ty n f) (q : ∀ i, i < n → f i = f' i) : own_AV mk Z h a ty n f' := by obtain ⟨q', c, A, r, s⟩ := F; exact ⟨q', c, A, r, fun i hi => by rw [s i hi, q i hi]⟩
theorem own_AV.new {k : ClassId} {z : Int32} (A : Arr Z h a (newA k ty z) ty) (q : ¬ z < 0) (hn : z.toNatClampNeg = n) (hf : ∀ i : Nat, defaultValue ty = mk (f i)) : own_AV mk Z h a ty n f := by
  refine ⟨hn ▸ (back32 q).2, _, A, (sz_new _ _ _).trans hn, fun i hi => ?_⟩
  rw [← hf i]; simp [newA, hn, hi]
theorem own_updr {P : α → Prop} {k : Nat} {w : α} (hv : P w) (hf : ∀ i, P (f i)) : ∀ i, P (own_upd f k w i) := fun i => by
  unfold own_upd; split
  · exact hv
  · exact hf i
theorem own_in {c : Cell} {j : Int32} {k : Nat} (S : c.slots.size = n) (hj : ¬ j < 0) (hk : j.toNatClampNeg = k) (hlt : k < n) : ¬ (j < 0 ∨ c.slots.size ≤ j.toNatClampNeg) := fun q => q.elim hj fun r => by omega
theorem own_AV.set {c : Cell} {j : Int32} {k : Nat} {w : α} (nn : n < 2 ^ 31) (A : Arr Z h a c ty) (S : c.slots.size = n) (H : ∀ i, i < n → c.slots[i]? = some (mk (f i))) (W : Wr h h' a j.toNatClampNeg (mk w)) (hk : j.toNatClampNeg = k) : own_AV mk Z h' a ty n (own_upd f k w) := by
  subst hk
  refine ⟨nn, _, A.same W, by rw [sz_set]; exact S, fun i hi => ?_⟩
  show (c.setSlot j.toNatClampNeg (mk w)).slots[i]? = some (mk (if i = j.toNatClampNeg then w else f i))
  simp only [Cell.setSlot]
  by_cases q : i = j.toNatClampNeg
  · subst q; rw [if_pos rfl]; simp [S, hi]
  · rw [if_neg q, Array.getElem?_setIfInBounds_ne (fun r => q r.symm)]; exact H i hi
theorem own_iaload (X : Stand p l e R s m args below meth c T locs cells slots) (hx : p.tables.exec = Jvm.exec) (hZ : Z.Warmed39 s.vm) (eT : T.heap = h) {f : Nat → Int32} (F : own_AV Value.int Z h a .int n f) {j : Int32} {k : Nat} (hj : ¬ j < 0) (hk : j.toNatClampNeg = k) (hlt : k < n)
    {g : JFrame} (hg : g.method = m) {rest : List Value} (hs : g.stack = .int j :: .ref a :: rest) (hd : decode c.code g.pc = .ok (.iaload, 1)) {target : State} (hr : Steps p.tables e below (T.setTop { g with pc := g.pc + 1, stack := .int (f k) :: rest }) target) : Steps p.tables e below (T.setTop g) target := by
  obtain ⟨_, cl, A, S, H⟩ := F
  exact X.iaload hx (j := j) (v := .int (f k)) (by rw [eT]; exact A.1) (State.isArrayOf_alike hZ.alike A.2.1) A.2.2 (own_in S hj hk hlt) (by rw [hk]; exact H k hlt) hg hs hd _ hr
theorem own_laload (X : Stand p l e R s m args below meth c T locs cells slots) (hx : p.tables.exec = Jvm.exec) (hZ : Z.Warmed39 s.vm) (eT : T.heap = h) {f : Nat → Int64} (F : own_AV Value.long Z h a .long n f) {j : Int32} {k : Nat} (hj : ¬ j < 0) (hk : j.toNatClampNeg = k) (hlt : k < n)
    {g : JFrame} (hg : g.method = m) {rest : List Value} (hs : g.stack = .int j :: .ref a :: rest) (hd : decode c.code g.pc = .ok (.laload, 1)) {target : State} (hr : Steps p.tables e below (T.setTop { g with pc := g.pc + 1, stack := .long (f k) :: rest }) target) : Steps p.tables e below (T.setTop g) target := by
  obtain ⟨_, cl, A, S, H⟩ := F
  exact X.laload hx (j := j) (v := .long (f k)) (by rw [eT]; exact A.1) (State.isArrayOf_alike hZ.alike A.2.1) A.2.2 (own_in S hj hk hlt) (by rw [hk]; exact H k hlt) hg hs hd _ hr
theorem own_baload (X : Stand p l e R s m args below meth c T locs cells slots) (hx : p.tables.exec = Jvm.exec) (hZ : Z.Warmed39 s.vm) (eT : T.heap = h) {f : Nat → Int32} (F : own_AV Value.int Z h a .byte n f) {j : Int32} {k : Nat} (hj : ¬ j < 0) (hk : j.toNatClampNeg = k) (hlt : k < n)
    {g : JFrame} (hg : g.method = m) {rest : List Value} (hs : g.stack = .int j :: .ref a :: rest) (hd : decode c.code g.pc = .ok (.baload, 1)) {target : State} (hr : Steps p.tables e below (T.setTop { g with pc := g.pc + 1, stack := .int (f k) :: rest }) target) : Steps p.tables e below (T.setTop g) target := by
  obtain ⟨_, cl, A, S, H⟩ := F
  exact X.baloadBytes hx (j := j) (v := .int (f k)) (by rw [eT]; exact A.1) (State.isArrayOf_alike hZ.alike A.2.1) A.2.2 (own_in S hj hk hlt) (by rw [hk]; exact H k hlt) hg hs hd _ hr
theorem own_cloneI (X : Stand p l e R s m args below meth c T locs cells slots) (hx : p.tables.exec = Jvm.exec) (hZ : Z.Warmed39 s.vm) {a0 : Array Value} {own ad : String} {index : Nat} (hown : s.vm.findClass own = some m.cls)
    (w1 : (Cond.methodLink own index ⟨ad, "clone", "()Ljava/lang/Object;"⟩).before a0 Z = true) (w2 : (Cond.sameMethod ad "java/lang/Object" "clone" "()Ljava/lang/Object;").before a0 Z = true) (w3 : (Cond.native ⟨"java/lang/Object", "clone", "()Ljava/lang/Object;"⟩).before a0 Z = true)
    (w4 : (Cond.instanceMethod ⟨"java/lang/Object", "clone", "()Ljava/lang/Object;"⟩).before a0 Z = true) (w5 : (Cond.selects ad ⟨ad, "clone", "()Ljava/lang/Object;"⟩ ⟨"java/lang/Object", "clone", "()Ljava/lang/Object;"⟩).before a0 Z = true) (w6 : (Cond.castable ad "java/lang/Cloneable").before a0 Z = true)
    (eT : T.heap = h) {f : Nat → Int32} (F : own_AV Value.int Z h a .int n f) (E : Exa Z h a ad) {g : JFrame} (hg : g.method = m) (hsize : g.locals.size = c.maxLocals) {rest : List Value} (hs : g.stack = .ref a :: rest) (hd : decode c.code g.pc = .ok (.invokevirtual index, 3))
    (hf : 1 ≤ R.frames) {W cap : Nat} (hW : 2 * g.monitorRoom + (rest.map fun v => v.category).sum ≤ W) (hl : W + 14 ≤ R.locals) (hcap : n ≤ cap) (hc : cells + 1 ≤ R.cells) (hsl : slots + cap ≤ R.slots) :
    ∃ T' h', Stand p l e R s m args below meth c T' locs (cells + 1) (slots + cap) ∧ T'.heap = h' ∧ Ext h h' ∧ own_AV Value.int Z h' h.size .int n f ∧ Exa Z h' h.size ad ∧
      ∀ target, Steps p.tables e below (T'.setTop { g with pc := g.pc + 3, stack := .ref h.size :: rest }) target → Steps p.tables e below (T.setTop g) target := by
  obtain ⟨nn, cl, A, S, H⟩ := F
  have FC : FitC Z cl := fitC_of A fun i hi v hv => by rw [H i (S ▸ hi)] at hv; cases hv; rfl
  obtain ⟨T', h', X', e', ex, A', E', st⟩ := cloneA X hx hZ hown w1 w2 w3 w4 w5 w6 eT A E FC hg hsize hs hd hf hW hl (by rw [S]; exact hcap) hc hsl
  exact ⟨T', h', X', e', ex, ⟨nn, cloneOf cl, A', S, H⟩, E', st⟩
theorem own_alen (X : Stand p l e R s m args below meth c T locs cells slots) (hx : p.tables.exec = Jvm.exec) (hZ : Z.Warmed39 s.vm) (eT : T.heap = h) (F : own_AV mk Z h a ty n f) {z : Int32} (hz : n.toInt32 = z)
    {g : JFrame} (hg : g.method = m) {rest : List Value} (hs : g.stack = .ref a :: rest) (hd : decode c.code g.pc = .ok (.arraylength, 1)) {target : State} (hr : Steps p.tables e below (T.setTop { g with pc := g.pc + 1, stack := .int z :: rest }) target) : Steps p.tables e below (T.setTop g) target := by
  obtain ⟨_, cl, A, S, H⟩ := F
  exact X.arraylength hx (by rw [eT]; exact A.1) (State.isArrayOf_alike hZ.alike A.2.1) hg hs hd _ (by rw [S, hz]; exact hr)
end
end OwnKit
theorem own_pn0 : plainName "com/example/lanterns/lanterns/solvers/Graph" = true := by first | (simp [plainName, overriddenIn]; done) | decide +kernel
theorem d1_0 : decode prog_24_method_1_code 0 = .ok (.aload_n 0, 1) := by decide +kernel
theorem d1_1 : decode prog_24_method_1_code 1 = .ok (.invokespecial 1, 3) := by decide +kernel
theorem d1_4 : decode prog_24_method_1_code 4 = .ok (.aload_n 0, 1) := by decide +kernel
theorem d1_5 : decode prog_24_method_1_code 5 = .ok (.aload_n 1, 1) := by decide +kernel
theorem d1_6 : decode prog_24_method_1_code 6 = .ok (.putfield 7, 3) := by decide +kernel
theorem d1_9 : decode prog_24_method_1_code 9 = .ok (.aload_n 0, 1) := by decide +kernel
theorem d1_10 : decode prog_24_method_1_code 10 = .ok (.aload_n 2, 1) := by decide +kernel
theorem d1_11 : decode prog_24_method_1_code 11 = .ok (.putfield 13, 3) := by decide +kernel
theorem d1_14 : decode prog_24_method_1_code 14 = .ok (.aload_n 0, 1) := by decide +kernel
theorem d1_15 : decode prog_24_method_1_code 15 = .ok (.aload_n 3, 1) := by decide +kernel
theorem d1_16 : decode prog_24_method_1_code 16 = .ok (.putfield 16, 3) := by decide +kernel
theorem d1_19 : decode prog_24_method_1_code 19 = .ok (.return_, 1) := by decide +kernel
theorem ef1 (m : MethodId) (ad0 : Addr) (ad1 : Addr) (ad2 : Addr) (ad3 : Addr) : entryFrame m #[(.ref ad0), (.ref ad1), (.ref ad2), (.ref ad3)] 4 = mkF m 0 #[.val (.ref ad0), .val (.ref ad1), .val (.ref ad2), .val (.ref ad3)] [] := by first | (simp [entryFrame, mkF, argsToLocals, Value.category]; done) | rfl
def Q1 (Z : State) (ad0 : Addr) (ad1 : Addr) (ad2 : Addr) (ad3 : Addr) (h0 : Heap) (n0 : Nat) (v : Option Value) (h : Heap) (L : List Loc) : Prop := v = none ∧ Fr n0 L ∧ Keep h0 h [ad0] ∧ Exa Z h ad0 "com/example/lanterns/lanterns/solvers/Graph" ∧ Fld Z h ad0 "com/example/lanterns/lanterns/solvers/Graph" "start" "[I" (.ref ad1) ∧ Fld Z h ad0 "com/example/lanterns/lanterns/solvers/Graph" "neighbours" "[I" (.ref ad2) ∧ Fld Z h ad0 "com/example/lanterns/lanterns/solvers/Graph" "edges" "[I" (.ref ad3)
set_option maxRecDepth 65536 in
set_option maxHeartbeats 40000000 in
theorem rm1 (l : Launch) (Z : State) (a0 : Array Value) (hw : ∀ d ∈ tables_1, d.before a0 Z = true) (ws : List Jvm.Cond) (ad0 : Addr) (ad1 : Addr) (ad2 : Addr) (ad3 : Addr) (h0 : Heap) (n0 : Nat) (Z0 : n0 ≤ h0.size) (E_ad0 : Exa Z h0 ad0 "com/example/lanterns/lanterns/solvers/Graph") (F_start_ad0 : Fld Z h0 ad0 "com/example/lanterns/lanterns/solvers/Graph" "start" "[I" .null) (F_neighbours_ad0 : Fld Z h0 ad0 "com/example/lanterns/lanterns/solvers/Graph" "neighbours" "[I" .null) (F_edges_ad0 : Fld Z h0 ad0 "com/example/lanterns/lanterns/solvers/Graph" "edges" "[I" .null) (g_ad0 : n0 ≤ ad0) :
    MetFree l (⟨"com/example/lanterns/lanterns/solvers/Graph", "<init>", "([I[I[I)V"⟩ : MethodName) (head1 (Jvm.Cond.code (⟨"com/example/lanterns/lanterns/solvers/Graph", "<init>", "([I[I[I)V"⟩ : MethodName) prog_24_method_1_code 4 none :: ws) ({ frames := 1, cells := 0, slots := 0, locals := 12 } : Room)) (fun a U => a = #[(.ref ad0), (.ref ad1), (.ref ad2), (.ref ad3)] ∧ Z.Warmed39 U.vm ∧ U.heap = h0) (fun _ _ _ _ _ => True) (fun _ U o U' => ∃ v L, o = .returned v ∧ Q1 Z ad0 ad1 ad2 ad3 h0 n0 v U'.heap L ∧ FrameEnd U o U' L ({ frames := 1, cells := 0, slots := 0, locals := 12 } : Room).cells ({ frames := 1, cells := 0, slots := 0, locals := 12 } : Room).slots) := by
  refine MetFree.of_bodySF (plainFor_of_name own_pn0) hisR ?_
  intro p e s m args below meth c s₁ Bd hml0 hP hK
  obtain ⟨rfl, hZ, hh⟩ := hP
  have hx := Bd.exec
  have hby := Bd.bytes
  have hml : c.maxLocals = 4 := hml0
  have hown : s.vm.findClass "com/example/lanterns/lanterns/solvers/Graph" = some m.cls := findClass_of_methodNamed Bd.named
  have hnm := (name_of_methodNamed Bd.named Bd.method).1
  have hlk : meth.locks = false := BodyLoose.notSynchronized Bd
  have X0 : Stand p l e ({ frames := 1, cells := 0, slots := 0, locals := 12 } : Room) s m #[(.ref ad0), (.ref ad1), (.ref ad2), (.ref ad3)] below meth c s₁ [] 0 0 := Stand.of_body Bd
  have e0 : s₁.heap = h0 := by rw [← hh, Bd.state]; rfl
  have N0 := Fr.nil n0
  obtain ⟨G, hG⟩ : ∃ G, G = own_G s (Q1 Z ad0 ad1 ad2 ad3 h0 n0) ({ frames := 1, cells := 0, slots := 0, locals := 12 } : Room).cells ({ frames := 1, cells := 0, slots := 0, locals := 12 } : Room).slots := ⟨_, rfl⟩
  show own_Fin p e below (own_G s (Q1 Z ad0 ad1 ad2 ad3 h0 n0) ({ frames := 1, cells := 0, slots := 0, locals := 12 } : Room).cells ({ frames := 1, cells := 0, slots := 0, locals := 12 } : Room).slots) (s₁.setTop (entryFrame m #[(.ref ad0), (.ref ad1), (.ref ad2), (.ref ad3)] 4))
  rw [← hG]
  refine own_to (fun _ kz => castTop (ef1 m ad0 ad1 ad2 ad3) kz) ?_
  show own_Fin p e below G (s₁.setTop (mkF m 0 #[.val (.ref ad0), .val (.ref ad1), .val (.ref ad2), .val (.ref ad3)] []))
  refine own_to (fun _ kz => XS.aloadN X0.here hx rfl (hb hby d1_0) rfl (rfl)  kz) ?_
  show own_Fin p e below G (s₁.setTop (mkF m 1 #[.val (.ref ad0), .val (.ref ad1), .val (.ref ad2), .val (.ref ad3)] [(.ref ad0)]))
  obtain ⟨T1, X1, e1, st1⟩ := initO X0 hx hZ hown (hw _ (List.mem_of_getElem? (i := 7) rfl)) (hw _ (List.mem_of_getElem? (i := 8) rfl)) (hw _ (List.mem_of_getElem? (i := 9) rfl)) e0 (g := (mkF m 1 #[.val (.ref ad0), .val (.ref ad1), .val (.ref ad2), .val (.ref ad3)] [(.ref ad0)])) rfl (by rw [hml]; rfl) rfl (hb hby d1_1) (by decide) (W := 0) (by show 2 * 0 + _ ≤ _; exact Nat.le_of_eq rfl) (by decide)
  refine own_to st1 ?_
  show own_Fin p e below G (T1.setTop (mkF m 4 #[.val (.ref ad0), .val (.ref ad1), .val (.ref ad2), .val (.ref ad3)] []))
  refine own_to (fun _ kz => XS.aloadN X1.here hx rfl (hb hby d1_4) rfl (rfl)  kz) ?_
  show own_Fin p e below G (T1.setTop (mkF m 5 #[.val (.ref ad0), .val (.ref ad1), .val (.ref ad2), .val (.ref ad3)] [(.ref ad0)]))
  refine own_to (fun _ kz => XS.aloadN X1.here hx rfl (hb hby d1_5) rfl (rfl)  kz) ?_
  show own_Fin p e below G (T1.setTop (mkF m 6 #[.val (.ref ad0), .val (.ref ad1), .val (.ref ad2), .val (.ref ad3)] [(.ref ad1), (.ref ad0)]))
  obtain ⟨T6, h6, X6, e6, W6, st6⟩ := putF X1 hx hZ hown (host := "") (Or.inl (hw _ (List.mem_of_getElem? (i := 10) rfl))) Via.refl e1 F_start_ad0 E_ad0 (Or.inr ⟨(hw _ (List.mem_of_getElem? (i := 11) rfl)), rfl, hnm⟩) (hw _ (List.mem_of_getElem? (i := 2) rfl)) (ty := (.array .int)) (by decide) rfl rfl (g := (mkF m 6 #[.val (.ref ad0), .val (.ref ad1), .val (.ref ad2), .val (.ref ad3)] [(.ref ad1), (.ref ad0)])) rfl rfl (hb hby d1_6)
  refine own_to st6 ?_
  have Fw6 : Fld Z h6 ad0 "com/example/lanterns/lanterns/solvers/Graph" "start" "[I" (.ref ad1) := Fld.same W6 F_start_ad0
  obtain ⟨lo6, X6, N6⟩ : ∃ lo, Stand p l e _ s m _ below meth c T6 lo _ _ ∧ Fr n0 lo := ⟨_, X6, Fr.snoc X6 N0 g_ad0⟩
  show own_Fin p e below G (T6.setTop (mkF m 9 #[.val (.ref ad0), .val (.ref ad1), .val (.ref ad2), .val (.ref ad3)] []))
  refine own_to (fun _ kz => XS.aloadN X6.here hx rfl (hb hby d1_9) rfl (rfl)  kz) ?_
  show own_Fin p e below G (T6.setTop (mkF m 10 #[.val (.ref ad0), .val (.ref ad1), .val (.ref ad2), .val (.ref ad3)] [(.ref ad0)]))
  refine own_to (fun _ kz => XS.aloadN X6.here hx rfl (hb hby d1_10) rfl (rfl)  kz) ?_
  show own_Fin p e below G (T6.setTop (mkF m 11 #[.val (.ref ad0), .val (.ref ad1), .val (.ref ad2), .val (.ref ad3)] [(.ref ad2), (.ref ad0)]))
  have E_ad0_at_11 : Exa Z h6 ad0 "com/example/lanterns/lanterns/solvers/Graph" := (E_ad0.wr W6)
  have F_neighbours_ad0_at_11 : Fld Z h6 ad0 "com/example/lanterns/lanterns/solvers/Graph" "neighbours" "[I" .null := (F_neighbours_ad0.other W6 (Or.inr (slot_ne (Or.inr (hw _ (List.mem_of_getElem? (i := 13) rfl))) (Or.inr (hw _ (List.mem_of_getElem? (i := 11) rfl))) (by decide) (t := (.array .int)) (t' := (.array .int)) (by decide) (by decide))))
  obtain ⟨T11, h11, X11, e11, W11, st11⟩ := putF X6 hx hZ hown (host := "") (Or.inl (hw _ (List.mem_of_getElem? (i := 12) rfl))) Via.refl e6 F_neighbours_ad0_at_11 E_ad0_at_11 (Or.inr ⟨(hw _ (List.mem_of_getElem? (i := 13) rfl)), rfl, hnm⟩) (hw _ (List.mem_of_getElem? (i := 2) rfl)) (ty := (.array .int)) (by decide) rfl rfl (g := (mkF m 11 #[.val (.ref ad0), .val (.ref ad1), .val (.ref ad2), .val (.ref ad3)] [(.ref ad2), (.ref ad0)])) rfl rfl (hb hby d1_11)
  refine own_to st11 ?_
  have Fw11 : Fld Z h11 ad0 "com/example/lanterns/lanterns/solvers/Graph" "neighbours" "[I" (.ref ad2) := Fld.same W11 F_neighbours_ad0_at_11
  obtain ⟨lo11, X11, N11⟩ : ∃ lo, Stand p l e _ s m _ below meth c T11 lo _ _ ∧ Fr n0 lo := ⟨_, X11, Fr.snoc X11 N6 g_ad0⟩
  show own_Fin p e below G (T11.setTop (mkF m 14 #[.val (.ref ad0), .val (.ref ad1), .val (.ref ad2), .val (.ref ad3)] []))
  refine own_to (fun _ kz => XS.aloadN X11.here hx rfl (hb hby d1_14) rfl (rfl)  kz) ?_
  show own_Fin p e below G (T11.setTop (mkF m 15 #[.val (.ref ad0), .val (.ref ad1), .val (.ref ad2), .val (.ref ad3)] [(.ref ad0)]))
  refine own_to (fun _ kz => XS.aloadN X11.here hx rfl (hb hby d1_15) rfl (rfl)  kz) ?_
  show own_Fin p e below G (T11.setTop (mkF m 16 #[.val (.ref ad0), .val (.ref ad1), .val (.ref ad2), .val (.ref ad3)] [(.ref ad3), (.ref ad0)]))
  have E_ad0_at_16 : Exa Z h11 ad0 "com/example/lanterns/lanterns/solvers/Graph" := (E_ad0_at_11.wr W11)
  have F_edges_ad0_at_16 : Fld Z h11 ad0 "com/example/lanterns/lanterns/solvers/Graph" "edges" "[I" .null := ((F_edges_ad0.other W6 (Or.inr (slot_ne (Or.inr (hw _ (List.mem_of_getElem? (i := 15) rfl))) (Or.inr (hw _ (List.mem_of_getElem? (i := 11) rfl))) (by decide) (t := (.array .int)) (t' := (.array .int)) (by decide) (by decide)))).other W11 (Or.inr (slot_ne (Or.inr (hw _ (List.mem_of_getElem? (i := 15) rfl))) (Or.inr (hw _ (List.mem_of_getElem? (i := 13) rfl))) (by decide) (t := (.array .int)) (t' := (.array .int)) (by decide) (by decide))))
  obtain ⟨T16, h16, X16, e16, W16, st16⟩ := putF X11 hx hZ hown (host := "") (Or.inl (hw _ (List.mem_of_getElem? (i := 14) rfl))) Via.refl e11 F_edges_ad0_at_16 E_ad0_at_16 (Or.inr ⟨(hw _ (List.mem_of_getElem? (i := 15) rfl)), rfl, hnm⟩) (hw _ (List.mem_of_getElem? (i := 2) rfl)) (ty := (.array .int)) (by decide) rfl rfl (g := (mkF m 16 #[.val (.ref ad0), .val (.ref ad1), .val (.ref ad2), .val (.ref ad3)] [(.ref ad3), (.ref ad0)])) rfl rfl (hb hby d1_16)
  refine own_to st16 ?_
  have Fw16 : Fld Z h16 ad0 "com/example/lanterns/lanterns/solvers/Graph" "edges" "[I" (.ref ad3) := Fld.same W16 F_edges_ad0_at_16
  obtain ⟨lo16, X16, N16⟩ : ∃ lo, Stand p l e _ s m _ below meth c T16 lo _ _ ∧ Fr n0 lo := ⟨_, X16, Fr.snoc X16 N11 g_ad0⟩
  show own_Fin p e below G (T16.setTop (mkF m 19 #[.val (.ref ad0), .val (.ref ad1), .val (.ref ad2), .val (.ref ad3)] []))
  have KP_19 : Keep h0 h16 [ad0] := ((((Keep.refl h0 [ad0]).wr W6 (Or.inl (List.mem_of_getElem? (i := 0) rfl))).wr W11 (Or.inl (List.mem_of_getElem? (i := 0) rfl))).wr W16 (Or.inl (List.mem_of_getElem? (i := 0) rfl)))
  have E_ad0_at_19 : Exa Z h16 ad0 "com/example/lanterns/lanterns/solvers/Graph" := (E_ad0_at_16.wr W16)
  have Fw6_at_19 : Fld Z h16 ad0 "com/example/lanterns/lanterns/solvers/Graph" "start" "[I" (.ref ad1) := ((Fw6.other W11 (Or.inr (slot_ne (Or.inr (hw _ (List.mem_of_getElem? (i := 11) rfl))) (Or.inr (hw _ (List.mem_of_getElem? (i := 13) rfl))) (by decide) (t := (.array .int)) (t' := (.array .int)) (by decide) (by decide)))).other W16 (Or.inr (slot_ne (Or.inr (hw _ (List.mem_of_getElem? (i := 11) rfl))) (Or.inr (hw _ (List.mem_of_getElem? (i := 15) rfl))) (by decide) (t := (.array .int)) (t' := (.array .int)) (by decide) (by decide))))
  have Fw11_at_19 : Fld Z h16 ad0 "com/example/lanterns/lanterns/solvers/Graph" "neighbours" "[I" (.ref ad2) := (Fw11.other W16 (Or.inr (slot_ne (Or.inr (hw _ (List.mem_of_getElem? (i := 13) rfl))) (Or.inr (hw _ (List.mem_of_getElem? (i := 15) rfl))) (by decide) (t := (.array .int)) (t' := (.array .int)) (by decide) (by decide))))
  exact own_retV X16 hx hlk hG Bd.returns (hb hby d1_19) (by decide) (by decide) (by rw [e16]; exact ⟨rfl, N16, KP_19, E_ad0_at_19, Fw6_at_19, Fw11_at_19, Fw16⟩)
theorem own_pn1 : plainName "com/example/lanterns/lanterns/solvers/GraphEdgePinLaw" = true := by first | (simp [plainName, overriddenIn]; done) | decide +kernel
theorem d3_0 : decode method_3_code 0 = .ok (.iload_n 0, 1) := by decide +kernel
theorem d3_1 : decode method_3_code 1 = .ok (.ifCond .ne 5, 3) := by decide +kernel
theorem d3_4 : decode method_3_code 4 = .ok (.iload_n 2, 1) := by decide +kernel
theorem d3_5 : decode method_3_code 5 = .ok (.ireturn, 1) := by decide +kernel
theorem d3_6 : decode method_3_code 6 = .ok (.iload_n 0, 1) := by decide +kernel
theorem d3_7 : decode method_3_code 7 = .ok (.iconst 1, 1) := by decide +kernel
theorem d3_8 : decode method_3_code 8 = .ok (.if_icmp .ne 19, 3) := by decide +kernel
theorem d3_11 : decode method_3_code 11 = .ok (.iload_n 1, 1) := by decide +kernel
theorem d3_12 : decode method_3_code 12 = .ok (.ifCond .ne 5, 3) := by decide +kernel
theorem d3_15 : decode method_3_code 15 = .ok (.iload_n 2, 1) := by decide +kernel
theorem d3_16 : decode method_3_code 16 = .ok (.ireturn, 1) := by decide +kernel
theorem d3_17 : decode method_3_code 17 = .ok (.iload_n 1, 1) := by decide +kernel
theorem d3_18 : decode method_3_code 18 = .ok (.iconst 1, 1) := by decide +kernel
theorem d3_19 : decode method_3_code 19 = .ok (.if_icmp .ne 5, 3) := by decide +kernel
theorem d3_22 : decode method_3_code 22 = .ok (.iload_n 3, 1) := by decide +kernel
theorem d3_23 : decode method_3_code 23 = .ok (.ireturn, 1) := by decide +kernel
theorem d3_24 : decode method_3_code 24 = .ok (.iload 4, 2) := by decide +kernel
theorem d3_26 : decode method_3_code 26 = .ok (.ireturn, 1) := by decide +kernel
theorem d3_27 : decode method_3_code 27 = .ok (.iload_n 0, 1) := by decide +kernel
theorem d3_28 : decode method_3_code 28 = .ok (.iconst 2, 1) := by decide +kernel
theorem d3_29 : decode method_3_code 29 = .ok (.if_icmp .ne 12, 3) := by decide +kernel
theorem d3_32 : decode method_3_code 32 = .ok (.iload_n 1, 1) := by decide +kernel
theorem d3_33 : decode method_3_code 33 = .ok (.ifCond .ne 5, 3) := by decide +kernel
theorem d3_36 : decode method_3_code 36 = .ok (.iload_n 3, 1) := by decide +kernel
theorem d3_37 : decode method_3_code 37 = .ok (.ireturn, 1) := by decide +kernel
theorem d3_38 : decode method_3_code 38 = .ok (.iload 5, 2) := by decide +kernel
theorem d3_40 : decode method_3_code 40 = .ok (.ireturn, 1) := by decide +kernel
theorem d3_41 : decode method_3_code 41 = .ok (.iload_n 1, 1) := by decide +kernel
theorem d3_42 : decode method_3_code 42 = .ok (.ifCond .ne 6, 3) := by decide +kernel
theorem d3_45 : decode method_3_code 45 = .ok (.iload 5, 2) := by decide +kernel
theorem d3_47 : decode method_3_code 47 = .ok (.ireturn, 1) := by decide +kernel
theorem d3_48 : decode method_3_code 48 = .ok (.iload 4, 2) := by decide +kernel
theorem d3_50 : decode method_3_code 50 = .ok (.ireturn, 1) := by decide +kernel
theorem ef3 (m : MethodId) (p0 : Int32) (p1 : Int32) (p2 : Int32) (p3 : Int32) (p4 : Int32) (p5 : Int32) : entryFrame m #[(.int p0), (.int p1), (.int p2), (.int p3), (.int p4), (.int p5)] 6 = mkF m 0 #[.val (.int p0), .val (.int p1), .val (.int p2), .val (.int p3), .val (.int p4), .val (.int p5)] [] := by first | (simp [entryFrame, mkF, argsToLocals, Value.category]; done) | rfl
def f3 (p0 : Int32) (p1 : Int32) (p2 : Int32) (p3 : Int32) (p4 : Int32) (p5 : Int32) : Int32 := if p0 = (0 : Int32) then p2 else if p0 = (1 : Int32) then (if p1 = (0 : Int32) then p2 else if p1 = (1 : Int32) then p3 else p4) else if p0 = (2 : Int32) then (if p1 = (0 : Int32) then p3 else p5) else if p1 = (0 : Int32) then p5 else p4
def Q3 (Z : State) (p0 : Int32) (p1 : Int32) (p2 : Int32) (p3 : Int32) (p4 : Int32) (p5 : Int32) (h0 : Heap) (n0 : Nat) (v : Option Value) (h : Heap) (L : List Loc) : Prop := v = some (.int (f3 p0 p1 p2 p3 p4 p5)) ∧ Fr n0 L ∧ h = h0
set_option maxRecDepth 65536 in
set_option maxHeartbeats 40000000 in
theorem rm3 (l : Launch) (Z : State) (a0 : Array Value) (hw : ∀ d ∈ tables_1, d.before a0 Z = true) (ws : List Jvm.Cond) (p0 : Int32) (p1 : Int32) (p2 : Int32) (p3 : Int32) (p4 : Int32) (p5 : Int32) (h0 : Heap) (n0 : Nat) (Z0 : n0 ≤ h0.size) :
    MetFree l (⟨"com/example/lanterns/lanterns/solvers/GraphEdgePinLaw", "expectedEdge", "(IIIIII)I"⟩ : MethodName) (head1 (Jvm.Cond.code (⟨"com/example/lanterns/lanterns/solvers/GraphEdgePinLaw", "expectedEdge", "(IIIIII)I"⟩ : MethodName) method_3_code 6 (some .int) :: ws) ({ frames := 0, cells := 0, slots := 0, locals := 0 } : Room)) (fun a U => a = #[(.int p0), (.int p1), (.int p2), (.int p3), (.int p4), (.int p5)] ∧ Z.Warmed39 U.vm ∧ U.heap = h0) (fun _ _ _ _ _ => True) (fun _ U o U' => ∃ v L, o = .returned v ∧ Q3 Z p0 p1 p2 p3 p4 p5 h0 n0 v U'.heap L ∧ FrameEnd U o U' L ({ frames := 0, cells := 0, slots := 0, locals := 0 } : Room).cells ({ frames := 0, cells := 0, slots := 0, locals := 0 } : Room).slots) := by
  refine MetFree.of_bodySF (plainFor_of_name own_pn1) hisR ?_
  intro p e s m args below meth c s₁ Bd hml0 hP hK
  obtain ⟨rfl, hZ, hh⟩ := hP
  have hx := Bd.exec
  have hby := Bd.bytes
  have hml : c.maxLocals = 6 := hml0
  have hown : s.vm.findClass "com/example/lanterns/lanterns/solvers/GraphEdgePinLaw" = some m.cls := findClass_of_methodNamed Bd.named
  have hnm := (name_of_methodNamed Bd.named Bd.method).1
  have hlk : meth.locks = false := BodyLoose.notSynchronized Bd
  have X0 : Stand p l e ({ frames := 0, cells := 0, slots := 0, locals := 0 } : Room) s m #[(.int p0), (.int p1), (.int p2), (.int p3), (.int p4), (.int p5)] below meth c s₁ [] 0 0 := Stand.of_body Bd
  have e0 : s₁.heap = h0 := by rw [← hh, Bd.state]; rfl
  have N0 := Fr.nil n0
  obtain ⟨G, hG⟩ : ∃ G, G = own_G s (Q3 Z p0 p1 p2 p3 p4 p5 h0 n0) ({ frames := 0, cells := 0, slots := 0, locals := 0 } : Room).cells ({ frames := 0, cells := 0, slots := 0, locals := 0 } : Room).slots := ⟨_, rfl⟩
  show own_Fin p e below (own_G s (Q3 Z p0 p1 p2 p3 p4 p5 h0 n0) ({ frames := 0, cells := 0, slots := 0, locals := 0 } : Room).cells ({ frames := 0, cells := 0, slots := 0, locals := 0 } : Room).slots) (s₁.setTop (entryFrame m #[(.int p0), (.int p1), (.int p2), (.int p3), (.int p4), (.int p5)] 6))
  rw [← hG]
  refine own_to (fun _ kz => castTop (ef3 m p0 p1 p2 p3 p4 p5) kz) ?_
  have q0 : (f3 p0 p1 p2 p3 p4 p5) = (f3 p0 p1 p2 p3 p4 p5) := rfl
  show own_Fin p e below G (s₁.setTop (mkF m 0 #[.val (.int p0), .val (.int p1), .val (.int p2), .val (.int p3), .val (.int p4), .val (.int p5)] []))
  refine own_to (fun _ kz => XS.iloadN X0.here hx rfl (hb hby d3_0) rfl  kz) ?_
  show own_Fin p e below G (s₁.setTop (mkF m 1 #[.val (.int p0), .val (.int p1), .val (.int p2), .val (.int p3), .val (.int p4), .val (.int p5)] [(.int p0)]))
  by_cases hc1 : p0 = (0 : Int32)
  · refine own_to (fun _ kz => XS.ifNo X0.here hx rfl (hb hby d3_1) rfl ((if0 _ _).trans (teq hc1).2) kz) ?_
    have q1t := q0.trans (if_pos hc1)
    show own_Fin p e below G (s₁.setTop (mkF m 4 #[.val (.int p0), .val (.int p1), .val (.int p2), .val (.int p3), .val (.int p4), .val (.int p5)] []))
    refine own_to (fun _ kz => XS.iloadN X0.here hx rfl (hb hby d3_4) rfl  kz) ?_
    show own_Fin p e below G (s₁.setTop (mkF m 5 #[.val (.int p0), .val (.int p1), .val (.int p2), .val (.int p3), .val (.int p4), .val (.int p5)] [(.int p2)]))
    exact own_retI X0 hx hlk hG Bd.returns (hb hby d3_5) (by decide) (by decide) ⟨(congrArg (fun z => some (Value.int z)) q1t).symm, N0, e0⟩
  · refine own_to (fun _ kz => XS.ifYes X0.here hx rfl (pc0 := 1) (pc' := 6) rfl (hb hby d3_1) rfl ((if0 _ _).trans (feq hc1).2) (by decide) (by decide) kz) ?_
    have q1f := q0.trans (if_neg hc1)
    show own_Fin p e below G (s₁.setTop (mkF m 6 #[.val (.int p0), .val (.int p1), .val (.int p2), .val (.int p3), .val (.int p4), .val (.int p5)] []))
    refine own_to (fun _ kz => XS.iloadN X0.here hx rfl (hb hby d3_6) rfl  kz) ?_
    show own_Fin p e below G (s₁.setTop (mkF m 7 #[.val (.int p0), .val (.int p1), .val (.int p2), .val (.int p3), .val (.int p4), .val (.int p5)] [(.int p0)]))
    refine own_to (fun _ kz => XS.iconst X0.here hx rfl (hb hby d3_7) kz) ?_
    show own_Fin p e below G (s₁.setTop (mkF m 8 #[.val (.int p0), .val (.int p1), .val (.int p2), .val (.int p3), .val (.int p4), .val (.int p5)] [(.int (1 : Int32)), (.int p0)]))
    by_cases hc8 : p0 = (1 : Int32)
    · refine own_to (fun _ kz => XS.icmpNo X0.here hx rfl (hb hby d3_8) rfl (teq hc8).2 kz) ?_
      have q8t := q1f.trans (if_pos hc8)
      show own_Fin p e below G (s₁.setTop (mkF m 11 #[.val (.int p0), .val (.int p1), .val (.int p2), .val (.int p3), .val (.int p4), .val (.int p5)] []))
      refine own_to (fun _ kz => XS.iloadN X0.here hx rfl (hb hby d3_11) rfl  kz) ?_
      show own_Fin p e below G (s₁.setTop (mkF m 12 #[.val (.int p0), .val (.int p1), .val (.int p2), .val (.int p3), .val (.int p4), .val (.int p5)] [(.int p1)]))
      by_cases hc12 : p1 = (0 : Int32)
      · refine own_to (fun _ kz => XS.ifNo X0.here hx rfl (hb hby d3_12) rfl ((if0 _ _).trans (teq hc12).2) kz) ?_
        have q12t := q8t.trans (if_pos hc12)
        show own_Fin p e below G (s₁.setTop (mkF m 15 #[.val (.int p0), .val (.int p1), .val (.int p2), .val (.int p3), .val (.int p4), .val (.int p5)] []))
        refine own_to (fun _ kz => XS.iloadN X0.here hx rfl (hb hby d3_15) rfl  kz) ?_
        show own_Fin p e below G (s₁.setTop (mkF m 16 #[.val (.int p0), .val (.int p1), .val (.int p2), .val (.int p3), .val (.int p4), .val (.int p5)] [(.int p2)]))
        exact own_retI X0 hx hlk hG Bd.returns (hb hby d3_16) (by decide) (by decide) ⟨(congrArg (fun z => some (Value.int z)) q12t).symm, N0, e0⟩
      · refine own_to (fun _ kz => XS.ifYes X0.here hx rfl (pc0 := 12) (pc' := 17) rfl (hb hby d3_12) rfl ((if0 _ _).trans (feq hc12).2) (by decide) (by decide) kz) ?_
        have q12f := q8t.trans (if_neg hc12)
        show own_Fin p e below G (s₁.setTop (mkF m 17 #[.val (.int p0), .val (.int p1), .val (.int p2), .val (.int p3), .val (.int p4), .val (.int p5)] []))
        refine own_to (fun _ kz => XS.iloadN X0.here hx rfl (hb hby d3_17) rfl  kz) ?_
        show own_Fin p e below G (s₁.setTop (mkF m 18 #[.val (.int p0), .val (.int p1), .val (.int p2), .val (.int p3), .val (.int p4), .val (.int p5)] [(.int p1)]))
        refine own_to (fun _ kz => XS.iconst X0.here hx rfl (hb hby d3_18) kz) ?_
        show own_Fin p e below G (s₁.setTop (mkF m 19 #[.val (.int p0), .val (.int p1), .val (.int p2), .val (.int p3), .val (.int p4), .val (.int p5)] [(.int (1 : Int32)), (.int p1)]))
        by_cases hc19 : p1 = (1 : Int32)
        · refine own_to (fun _ kz => XS.icmpNo X0.here hx rfl (hb hby d3_19) rfl (teq hc19).2 kz) ?_
          have q19t := q12f.trans (if_pos hc19)
          show own_Fin p e below G (s₁.setTop (mkF m 22 #[.val (.int p0), .val (.int p1), .val (.int p2), .val (.int p3), .val (.int p4), .val (.int p5)] []))
          refine own_to (fun _ kz => XS.iloadN X0.here hx rfl (hb hby d3_22) rfl  kz) ?_
          show own_Fin p e below G (s₁.setTop (mkF m 23 #[.val (.int p0), .val (.int p1), .val (.int p2), .val (.int p3), .val (.int p4), .val (.int p5)] [(.int p3)]))
          exact own_retI X0 hx hlk hG Bd.returns (hb hby d3_23) (by decide) (by decide) ⟨(congrArg (fun z => some (Value.int z)) q19t).symm, N0, e0⟩
        · refine own_to (fun _ kz => XS.icmpYes X0.here hx rfl (pc0 := 19) (pc' := 24) rfl (hb hby d3_19) rfl (feq hc19).2 (by decide) (by decide) kz) ?_
          have q19f := q12f.trans (if_neg hc19)
          show own_Fin p e below G (s₁.setTop (mkF m 24 #[.val (.int p0), .val (.int p1), .val (.int p2), .val (.int p3), .val (.int p4), .val (.int p5)] []))
          refine own_to (fun _ kz => XS.iload X0.here hx rfl (hb hby d3_24) rfl  kz) ?_
          show own_Fin p e below G (s₁.setTop (mkF m 26 #[.val (.int p0), .val (.int p1), .val (.int p2), .val (.int p3), .val (.int p4), .val (.int p5)] [(.int p4)]))
          exact own_retI X0 hx hlk hG Bd.returns (hb hby d3_26) (by decide) (by decide) ⟨(congrArg (fun z => some (Value.int z)) q19f).symm, N0, e0⟩
    · refine own_to (fun _ kz => XS.icmpYes X0.here hx rfl (pc0 := 8) (pc' := 27) rfl (hb hby d3_8) rfl (feq hc8).2 (by decide) (by decide) kz) ?_
      have q8f := q1f.trans (if_neg hc8)
      show own_Fin p e below G (s₁.setTop (mkF m 27 #[.val (.int p0), .val (.int p1), .val (.int p2), .val (.int p3), .val (.int p4), .val (.int p5)] []))
      refine own_to (fun _ kz => XS.iloadN X0.here hx rfl (hb hby d3_27) rfl  kz) ?_
      show own_Fin p e below G (s₁.setTop (mkF m 28 #[.val (.int p0), .val (.int p1), .val (.int p2), .val (.int p3), .val (.int p4), .val (.int p5)] [(.int p0)]))
      refine own_to (fun _ kz => XS.iconst X0.here hx rfl (hb hby d3_28) kz) ?_
      show own_Fin p e below G (s₁.setTop (mkF m 29 #[.val (.int p0), .val (.int p1), .val (.int p2), .val (.int p3), .val (.int p4), .val (.int p5)] [(.int (2 : Int32)), (.int p0)]))
      by_cases hc29 : p0 = (2 : Int32)
      · refine own_to (fun _ kz => XS.icmpNo X0.here hx rfl (hb hby d3_29) rfl (teq hc29).2 kz) ?_
        have q29t := q8f.trans (if_pos hc29)
        show own_Fin p e below G (s₁.setTop (mkF m 32 #[.val (.int p0), .val (.int p1), .val (.int p2), .val (.int p3), .val (.int p4), .val (.int p5)] []))
        refine own_to (fun _ kz => XS.iloadN X0.here hx rfl (hb hby d3_32) rfl  kz) ?_
        show own_Fin p e below G (s₁.setTop (mkF m 33 #[.val (.int p0), .val (.int p1), .val (.int p2), .val (.int p3), .val (.int p4), .val (.int p5)] [(.int p1)]))
        by_cases hc33 : p1 = (0 : Int32)
        · refine own_to (fun _ kz => XS.ifNo X0.here hx rfl (hb hby d3_33) rfl ((if0 _ _).trans (teq hc33).2) kz) ?_
          have q33t := q29t.trans (if_pos hc33)
          show own_Fin p e below G (s₁.setTop (mkF m 36 #[.val (.int p0), .val (.int p1), .val (.int p2), .val (.int p3), .val (.int p4), .val (.int p5)] []))
          refine own_to (fun _ kz => XS.iloadN X0.here hx rfl (hb hby d3_36) rfl  kz) ?_
          show own_Fin p e below G (s₁.setTop (mkF m 37 #[.val (.int p0), .val (.int p1), .val (.int p2), .val (.int p3), .val (.int p4), .val (.int p5)] [(.int p3)]))
          exact own_retI X0 hx hlk hG Bd.returns (hb hby d3_37) (by decide) (by decide) ⟨(congrArg (fun z => some (Value.int z)) q33t).symm, N0, e0⟩
        · refine own_to (fun _ kz => XS.ifYes X0.here hx rfl (pc0 := 33) (pc' := 38) rfl (hb hby d3_33) rfl ((if0 _ _).trans (feq hc33).2) (by decide) (by decide) kz) ?_
          have q33f := q29t.trans (if_neg hc33)
          show own_Fin p e below G (s₁.setTop (mkF m 38 #[.val (.int p0), .val (.int p1), .val (.int p2), .val (.int p3), .val (.int p4), .val (.int p5)] []))
          refine own_to (fun _ kz => XS.iload X0.here hx rfl (hb hby d3_38) rfl  kz) ?_
          show own_Fin p e below G (s₁.setTop (mkF m 40 #[.val (.int p0), .val (.int p1), .val (.int p2), .val (.int p3), .val (.int p4), .val (.int p5)] [(.int p5)]))
          exact own_retI X0 hx hlk hG Bd.returns (hb hby d3_40) (by decide) (by decide) ⟨(congrArg (fun z => some (Value.int z)) q33f).symm, N0, e0⟩
      · refine own_to (fun _ kz => XS.icmpYes X0.here hx rfl (pc0 := 29) (pc' := 41) rfl (hb hby d3_29) rfl (feq hc29).2 (by decide) (by decide) kz) ?_
        have q29f := q8f.trans (if_neg hc29)
        show own_Fin p e below G (s₁.setTop (mkF m 41 #[.val (.int p0), .val (.int p1), .val (.int p2), .val (.int p3), .val (.int p4), .val (.int p5)] []))
        refine own_to (fun _ kz => XS.iloadN X0.here hx rfl (hb hby d3_41) rfl  kz) ?_
        show own_Fin p e below G (s₁.setTop (mkF m 42 #[.val (.int p0), .val (.int p1), .val (.int p2), .val (.int p3), .val (.int p4), .val (.int p5)] [(.int p1)]))
        by_cases hc42 : p1 = (0 : Int32)
        · refine own_to (fun _ kz => XS.ifNo X0.here hx rfl (hb hby d3_42) rfl ((if0 _ _).trans (teq hc42).2) kz) ?_
          have q42t := q29f.trans (if_pos hc42)
          show own_Fin p e below G (s₁.setTop (mkF m 45 #[.val (.int p0), .val (.int p1), .val (.int p2), .val (.int p3), .val (.int p4), .val (.int p5)] []))
          refine own_to (fun _ kz => XS.iload X0.here hx rfl (hb hby d3_45) rfl  kz) ?_
          show own_Fin p e below G (s₁.setTop (mkF m 47 #[.val (.int p0), .val (.int p1), .val (.int p2), .val (.int p3), .val (.int p4), .val (.int p5)] [(.int p5)]))
          exact own_retI X0 hx hlk hG Bd.returns (hb hby d3_47) (by decide) (by decide) ⟨(congrArg (fun z => some (Value.int z)) q42t).symm, N0, e0⟩
        · refine own_to (fun _ kz => XS.ifYes X0.here hx rfl (pc0 := 42) (pc' := 48) rfl (hb hby d3_42) rfl ((if0 _ _).trans (feq hc42).2) (by decide) (by decide) kz) ?_
          have q42f := q29f.trans (if_neg hc42)
          show own_Fin p e below G (s₁.setTop (mkF m 48 #[.val (.int p0), .val (.int p1), .val (.int p2), .val (.int p3), .val (.int p4), .val (.int p5)] []))
          refine own_to (fun _ kz => XS.iload X0.here hx rfl (hb hby d3_48) rfl  kz) ?_
          show own_Fin p e below G (s₁.setTop (mkF m 50 #[.val (.int p0), .val (.int p1), .val (.int p2), .val (.int p3), .val (.int p4), .val (.int p5)] [(.int p4)]))
          exact own_retI X0 hx hlk hG Bd.returns (hb hby d3_50) (by decide) (by decide) ⟨(congrArg (fun z => some (Value.int z)) q42f).symm, N0, e0⟩
theorem d4_0 : decode prog_24_method_11_code 0 = .ok (.aload_n 0, 1) := by decide +kernel
theorem d4_1 : decode prog_24_method_11_code 1 = .ok (.getfield 16, 3) := by decide +kernel
theorem d4_4 : decode prog_24_method_11_code 4 = .ok (.aload_n 0, 1) := by decide +kernel
theorem d4_5 : decode prog_24_method_11_code 5 = .ok (.getfield 7, 3) := by decide +kernel
theorem d4_8 : decode prog_24_method_11_code 8 = .ok (.iload_n 1, 1) := by decide +kernel
theorem d4_9 : decode prog_24_method_11_code 9 = .ok (.iaload, 1) := by decide +kernel
theorem d4_10 : decode prog_24_method_11_code 10 = .ok (.iload_n 2, 1) := by decide +kernel
theorem d4_11 : decode prog_24_method_11_code 11 = .ok (.iadd, 1) := by decide +kernel
theorem d4_12 : decode prog_24_method_11_code 12 = .ok (.iaload, 1) := by decide +kernel
theorem d4_13 : decode prog_24_method_11_code 13 = .ok (.ireturn, 1) := by decide +kernel
theorem ef4 (m : MethodId) (ad0 : Addr) (p1 : Int32) (p2 : Int32) : entryFrame m #[(.ref ad0), (.int p1), (.int p2)] 3 = mkF m 0 #[.val (.ref ad0), .val (.int p1), .val (.int p2)] [] := by first | (simp [entryFrame, mkF, argsToLocals, Value.category]; done) | rfl
def f4 (p1 : Int32) (p2 : Int32) (n : Nat) (xs : Nat → Int32) (n' : Nat) (ys : Nat → Int32) : Int32 := (ys ((xs p1.toNatClampNeg) + p2).toNatClampNeg)
def Q4 (Z : State) (ad0 : Addr) (p1 : Int32) (p2 : Int32) (n : Nat) (xs : Nat → Int32) (n' : Nat) (ys : Nat → Int32) (st : Addr) (ed : Addr) (h0 : Heap) (n0 : Nat) (v : Option Value) (h : Heap) (L : List Loc) : Prop := v = some (.int (f4 p1 p2 n xs n' ys)) ∧ Fr n0 L ∧ h = h0
set_option maxRecDepth 65536 in
set_option maxHeartbeats 40000000 in
theorem rm4 (l : Launch) (Z : State) (a0 : Array Value) (hw : ∀ d ∈ tables_1, d.before a0 Z = true) (ws : List Jvm.Cond) (ad0 : Addr) (p1 : Int32) (p2 : Int32) (n : Nat) (xs : Nat → Int32) (n' : Nat) (ys : Nat → Int32) (st : Addr) (ed : Addr) (h0 : Heap) (n0 : Nat) (Z0 : n0 ≤ h0.size) (F_start_ad0 : Fld Z h0 ad0 "com/example/lanterns/lanterns/solvers/Graph" "start" "[I" (.ref st)) (V_st : own_AV Value.int Z h0 st .int n xs) (F_edges_ad0 : Fld Z h0 ad0 "com/example/lanterns/lanterns/solvers/Graph" "edges" "[I" (.ref ed)) (V_ed : own_AV Value.int Z h0 ed .int n' ys) (hp0 : ¬ p1 < 0) (hlt : p1.toNatClampNeg < n) (h1 : ¬ (xs p1.toNatClampNeg) + p2 < 0) (hlt1 : ((xs p1.toNatClampNeg) + p2).toNatClampNeg < n') :
    MetFree l (⟨"com/example/lanterns/lanterns/solvers/Graph", "edge", "(II)I"⟩ : MethodName) (head1 (Jvm.Cond.code (⟨"com/example/lanterns/lanterns/solvers/Graph", "edge", "(II)I"⟩ : MethodName) prog_24_method_11_code 3 (some .int) :: ws) ({ frames := 0, cells := 0, slots := 0, locals := 0 } : Room)) (fun a U => a = #[(.ref ad0), (.int p1), (.int p2)] ∧ Z.Warmed39 U.vm ∧ U.heap = h0) (fun _ _ _ _ _ => True) (fun _ U o U' => ∃ v L, o = .returned v ∧ Q4 Z ad0 p1 p2 n xs n' ys st ed h0 n0 v U'.heap L ∧ FrameEnd U o U' L ({ frames := 0, cells := 0, slots := 0, locals := 0 } : Room).cells ({ frames := 0, cells := 0, slots := 0, locals := 0 } : Room).slots) := by
  refine MetFree.of_bodySF (plainFor_of_name own_pn0) hisR ?_
  intro p e s m args below meth c s₁ Bd hml0 hP hK
  obtain ⟨rfl, hZ, hh⟩ := hP
  have hx := Bd.exec
  have hby := Bd.bytes
  have hml : c.maxLocals = 3 := hml0
  have hown : s.vm.findClass "com/example/lanterns/lanterns/solvers/Graph" = some m.cls := findClass_of_methodNamed Bd.named
  have hnm := (name_of_methodNamed Bd.named Bd.method).1
  have hlk : meth.locks = false := BodyLoose.notSynchronized Bd
  have X0 : Stand p l e ({ frames := 0, cells := 0, slots := 0, locals := 0 } : Room) s m #[(.ref ad0), (.int p1), (.int p2)] below meth c s₁ [] 0 0 := Stand.of_body Bd
  have e0 : s₁.heap = h0 := by rw [← hh, Bd.state]; rfl
  have N0 := Fr.nil n0
  obtain ⟨G, hG⟩ : ∃ G, G = own_G s (Q4 Z ad0 p1 p2 n xs n' ys st ed h0 n0) ({ frames := 0, cells := 0, slots := 0, locals := 0 } : Room).cells ({ frames := 0, cells := 0, slots := 0, locals := 0 } : Room).slots := ⟨_, rfl⟩
  show own_Fin p e below (own_G s (Q4 Z ad0 p1 p2 n xs n' ys st ed h0 n0) ({ frames := 0, cells := 0, slots := 0, locals := 0 } : Room).cells ({ frames := 0, cells := 0, slots := 0, locals := 0 } : Room).slots) (s₁.setTop (entryFrame m #[(.ref ad0), (.int p1), (.int p2)] 3))
  rw [← hG]
  refine own_to (fun _ kz => castTop (ef4 m ad0 p1 p2) kz) ?_
  have q0 : (f4 p1 p2 n xs n' ys) = (f4 p1 p2 n xs n' ys) := rfl
  show own_Fin p e below G (s₁.setTop (mkF m 0 #[.val (.ref ad0), .val (.int p1), .val (.int p2)] []))
  refine own_to (fun _ kz => XS.aloadN X0.here hx rfl (hb hby d4_0) rfl (rfl)  kz) ?_
  show own_Fin p e below G (s₁.setTop (mkF m 1 #[.val (.ref ad0), .val (.int p1), .val (.int p2)] [(.ref ad0)]))
  obtain ⟨T1, X1, e1, st1⟩ := getF X0 hx hZ hown (host := "") (Or.inl (hw _ (List.mem_of_getElem? (i := 14) rfl))) Via.refl e0 F_edges_ad0 (g := (mkF m 1 #[.val (.ref ad0), .val (.int p1), .val (.int p2)] [(.ref ad0)])) rfl rfl (hb hby d4_1)
  refine own_to st1 ?_
  show own_Fin p e below G (T1.setTop (mkF m 4 #[.val (.ref ad0), .val (.int p1), .val (.int p2)] [(.ref ed)]))
  refine own_to (fun _ kz => XS.aloadN X1.here hx rfl (hb hby d4_4) rfl (rfl)  kz) ?_
  show own_Fin p e below G (T1.setTop (mkF m 5 #[.val (.ref ad0), .val (.int p1), .val (.int p2)] [(.ref ad0), (.ref ed)]))
  obtain ⟨T5, X5, e5, st5⟩ := getF X1 hx hZ hown (host := "") (Or.inl (hw _ (List.mem_of_getElem? (i := 10) rfl))) Via.refl e1 F_start_ad0 (g := (mkF m 5 #[.val (.ref ad0), .val (.int p1), .val (.int p2)] [(.ref ad0), (.ref ed)])) rfl rfl (hb hby d4_5)
  refine own_to st5 ?_
  show own_Fin p e below G (T5.setTop (mkF m 8 #[.val (.ref ad0), .val (.int p1), .val (.int p2)] [(.ref st), (.ref ed)]))
  refine own_to (fun _ kz => XS.iloadN X5.here hx rfl (hb hby d4_8) rfl  kz) ?_
  show own_Fin p e below G (T5.setTop (mkF m 9 #[.val (.ref ad0), .val (.int p1), .val (.int p2)] [(.int p1), (.ref st), (.ref ed)]))
  refine own_to (fun _ kz => own_iaload X5 hx hZ e5 V_st (j := p1) hp0 rfl hlt (g := (mkF m 9 #[.val (.ref ad0), .val (.int p1), .val (.int p2)] [(.int p1), (.ref st), (.ref ed)])) rfl rfl (hb hby d4_9) kz) ?_
  show own_Fin p e below G (T5.setTop (mkF m 10 #[.val (.ref ad0), .val (.int p1), .val (.int p2)] [(.int (xs p1.toNatClampNeg)), (.ref ed)]))
  refine own_to (fun _ kz => XS.iloadN X5.here hx rfl (hb hby d4_10) rfl  kz) ?_
  show own_Fin p e below G (T5.setTop (mkF m 11 #[.val (.ref ad0), .val (.int p1), .val (.int p2)] [(.int p2), (.int (xs p1.toNatClampNeg)), (.ref ed)]))
  refine own_to (fun _ kz => XS.iadd X5.here hx rfl (hb hby d4_11) rfl kz) ?_
  show own_Fin p e below G (T5.setTop (mkF m 12 #[.val (.ref ad0), .val (.int p1), .val (.int p2)] [(.int ((xs p1.toNatClampNeg) + p2)), (.ref ed)]))
  refine own_to (fun _ kz => own_iaload X5 hx hZ e5 V_ed (j := ((xs p1.toNatClampNeg) + p2)) h1 rfl hlt1 (g := (mkF m 12 #[.val (.ref ad0), .val (.int p1), .val (.int p2)] [(.int ((xs p1.toNatClampNeg) + p2)), (.ref ed)])) rfl rfl (hb hby d4_12) kz) ?_
  show own_Fin p e below G (T5.setTop (mkF m 13 #[.val (.ref ad0), .val (.int p1), .val (.int p2)] [(.int (ys ((xs p1.toNatClampNeg) + p2).toNatClampNeg))]))
  exact own_retI X5 hx hlk hG Bd.returns (hb hby d4_13) (by decide) (by decide) ⟨(congrArg (fun z => some (Value.int z)) q0).symm, N0, e5⟩
def own_vi (v i : Int32) : Prop := (v = 0 ∧ i = 0) ∨ (v = 1 ∧ (i = 0 ∨ i = 1 ∨ i = 2)) ∨ (v = 2 ∧ (i = 0 ∨ i = 1)) ∨ (v = 3 ∧ (i = 0 ∨ i = 1))
instance (v i : Int32) : Decidable (own_vi v i) := by unfold own_vi; infer_instance
theorem own_8 {s : Int32} (h0 : 0 ≤ s.toInt ∧ s.toInt ≤ 7) : ∃ k : Fin 8, s = Int32.ofNat k.1 := ⟨⟨s.toInt.toNat, by omega⟩, by
  apply Int32.toInt_inj.mp
  rw [Int32.toInt_ofNat_of_lt (by show s.toInt.toNat < _; omega)]
  show s.toInt = (s.toInt.toNat : Int); omega⟩
theorem own_rem8 (a : Int32) : 0 ≤ ((a &&& (2147483647 : Int32)) % (8 : Int32)).toInt ∧ ((a &&& (2147483647 : Int32)) % (8 : Int32)).toInt ≤ 7 := by
  have h := c_and a 2147483647 (by decide)
  have g := (c_irem (a &&& (2147483647 : Int32)) 8 8 (by decide)).1 h.1
  omega
theorem own_v1 {s : Int32} (h : 0 ≤ s.toInt ∧ s.toInt ≤ 7) (h1 : ¬ s = 0) (h2 : s < 4) : own_vi 1 (s - 1) := by
  obtain ⟨k, rfl⟩ := own_8 h; revert k; decide +kernel
theorem own_v2 {s : Int32} (h : 0 ≤ s.toInt ∧ s.toInt ≤ 7) (h1 : ¬ s < 4) (h2 : s < 6) : own_vi 2 (s - 4) := by
  obtain ⟨k, rfl⟩ := own_8 h; revert k; decide +kernel
theorem own_v3 {s : Int32} (h : 0 ≤ s.toInt ∧ s.toInt ≤ 7) (h1 : ¬ s < 6) : own_vi 3 (s - 6) := by
  obtain ⟨k, rfl⟩ := own_8 h; revert k; decide +kernel
theorem own_pd0 : parseMethodDescriptor "([I[I[I)V" = some ⟨[(.array .int), (.array .int), (.array .int)], none⟩ := by decide +kernel
theorem own_pd1 : parseMethodDescriptor "(IIIIII)I" = some ⟨[.int, .int, .int, .int, .int, .int], some .int⟩ := by decide +kernel
theorem own_pd2 : parseMethodDescriptor "(II)I" = some ⟨[.int, .int], some .int⟩ := by decide +kernel
theorem ef0 (m : MethodId) (p0 : Int32) (p1 : Int32) (p2 : Int32) (p3 : Int32) (p4 : Int32) : entryFrame m #[(.int p0), (.int p1), (.int p2), (.int p3), (.int p4)] maxLocals = mkF m 0 #[.val (.int p0), .val (.int p1), .val (.int p2), .val (.int p3), .val (.int p4), .unset, .unset, .unset, .unset, .unset, .unset, .unset, .unset] [] := by first | (simp [entryFrame, mkF, argsToLocals, Value.category, maxLocals]; done) | rfl
def f0_193 (p0 : Int32) (p1 : Int32) (p2 : Int32) (p3 : Int32) (p4 : Int32) (v9_132 : Int32) (v10_193 : Int32) (v11_193 : Int32) : Int32 := if (f4 v10_193 v11_193 5 (own_upd (own_upd (own_upd (own_upd (own_upd (fun _ => (0 : Int32)) 0 (0 : Int32)) 1 (1 : Int32)) 2 (4 : Int32)) 3 (6 : Int32)) 4 (8 : Int32)) 8 (own_upd (own_upd (own_upd (own_upd (own_upd (own_upd (own_upd (own_upd (fun _ => (0 : Int32)) 0 p0) 1 p0) 2 p1) 3 p2) 4 p1) 5 p3) 6 p3) 7 p2)) = (f3 v10_193 v11_193 p0 p1 p2 p3) then (1 : Int32) else (0 : Int32)
def f0_132 (p0 : Int32) (p1 : Int32) (p2 : Int32) (p3 : Int32) (p4 : Int32) (v9_132 : Int32) : Int32 := if v9_132 = (0 : Int32) then (f0_193 p0 p1 p2 p3 p4 v9_132 (0 : Int32) (0 : Int32)) else if v9_132 < (4 : Int32) then (f0_193 p0 p1 p2 p3 p4 v9_132 (1 : Int32) (v9_132 - (1 : Int32))) else if v9_132 < (6 : Int32) then (f0_193 p0 p1 p2 p3 p4 v9_132 (2 : Int32) (v9_132 - (4 : Int32))) else (f0_193 p0 p1 p2 p3 p4 v9_132 (3 : Int32) (v9_132 - (6 : Int32)))
def f0 (p0 : Int32) (p1 : Int32) (p2 : Int32) (p3 : Int32) (p4 : Int32) : Int32 := (f0_132 p0 p1 p2 p3 p4 ((p4 &&& (2147483647 : Int32)) % (8 : Int32)))
def Q0 (Z : State) (p0 : Int32) (p1 : Int32) (p2 : Int32) (p3 : Int32) (p4 : Int32) (h0 : Heap) (n0 : Nat) (v : Option Value) (h : Heap) (L : List Loc) : Prop := v = some (.int (f0 p0 p1 p2 p3 p4)) ∧ Fr n0 L ∧ True
set_option maxRecDepth 65536 in
set_option maxHeartbeats 40000000 in
theorem rm0 (l : Launch) (Z : State) (a0 : Array Value) (hw : ∀ d ∈ tables_1, d.before a0 Z = true) (ws : List Jvm.Cond) (p0 : Int32) (p1 : Int32) (p2 : Int32) (p3 : Int32) (p4 : Int32) (h0 : Heap) (n0 : Nat) (Z0 : n0 ≤ h0.size) :
    MetFree l x (head1 (Jvm.Cond.code x code maxLocals ret :: ws) room_1) (fun a U => a = #[(.int p0), (.int p1), (.int p2), (.int p3), (.int p4)] ∧ Z.Warmed39 U.vm ∧ U.heap = h0) (fun _ _ _ _ _ => True) (fun _ U o U' => ∃ v L, o = .returned v ∧ Q0 Z p0 p1 p2 p3 p4 h0 n0 v U'.heap L ∧ FrameEnd U o U' L room_1.cells room_1.slots) := by
  refine MetFree.of_bodySF (plainFor_of_name own_pn1) hisR ?_
  intro p e s m args below meth c s₁ Bd hml0 hP hK
  obtain ⟨rfl, hZ, hh⟩ := hP
  have hx := Bd.exec
  have hby := Bd.bytes
  have hml : c.maxLocals = 13 := hml0
  have hown : s.vm.findClass "com/example/lanterns/lanterns/solvers/GraphEdgePinLaw" = some m.cls := findClass_of_methodNamed Bd.named
  have hnm := (name_of_methodNamed Bd.named Bd.method).1
  have hlk : meth.locks = false := BodyLoose.notSynchronized Bd
  have X0 : Stand p l e room_1 s m #[(.int p0), (.int p1), (.int p2), (.int p3), (.int p4)] below meth c s₁ [] 0 0 := Stand.of_body Bd
  have e0 : s₁.heap = h0 := by rw [← hh, Bd.state]; rfl
  have N0 := Fr.nil n0
  obtain ⟨G, hG⟩ : ∃ G, G = own_G s (Q0 Z p0 p1 p2 p3 p4 h0 n0) room_1.cells room_1.slots := ⟨_, rfl⟩
  show own_Fin p e below (own_G s (Q0 Z p0 p1 p2 p3 p4 h0 n0) room_1.cells room_1.slots) (s₁.setTop (entryFrame m #[(.int p0), (.int p1), (.int p2), (.int p3), (.int p4)] maxLocals))
  rw [← hG]
  refine own_to (fun _ kz => castTop (ef0 m p0 p1 p2 p3 p4) kz) ?_
  have q0 : (f0 p0 p1 p2 p3 p4) = (f0 p0 p1 p2 p3 p4) := rfl
  show own_Fin p e below G (s₁.setTop (mkF m 0 #[.val (.int p0), .val (.int p1), .val (.int p2), .val (.int p3), .val (.int p4), .unset, .unset, .unset, .unset, .unset, .unset, .unset, .unset] []))
  refine own_to (fun _ kz => XS.iconst X0.here hx rfl (hb hby at_0) kz) ?_
  show own_Fin p e below G (s₁.setTop (mkF m 1 #[.val (.int p0), .val (.int p1), .val (.int p2), .val (.int p3), .val (.int p4), .unset, .unset, .unset, .unset, .unset, .unset, .unset, .unset] [(.int (5 : Int32))]))
  obtain ⟨T1, h1, k1, X1, e1, E1, A1, st1⟩ := newP X0 hx hZ (hw _ (List.mem_of_getElem? (i := 0) rfl)) e0 (g := (mkF m 1 #[.val (.int p0), .val (.int p1), .val (.int p2), .val (.int p3), .val (.int p4), .unset, .unset, .unset, .unset, .unset, .unset, .unset, .unset] [(.int (5 : Int32))])) rfl (hb hby at_1) rfl (by decide) (cap := 5) (by decide) (by decide) (by decide) (by decide)
  obtain ⟨b1, g1⟩ : ∃ z, z = h0.size := ⟨_, rfl⟩
  rw [← g1] at A1 st1
  refine own_to st1 ?_
  have g_b1 : n0 ≤ b1 := Nat.le_trans Z0 (Nat.le_of_eq g1.symm)
  have V1 : own_AV Value.int Z h1 b1 .int 5 (fun _ => (0 : Int32)) := own_AV.new A1 (by decide) (by decide) (fun _ => rfl)
  show own_Fin p e below G (T1.setTop (mkF m 3 #[.val (.int p0), .val (.int p1), .val (.int p2), .val (.int p3), .val (.int p4), .unset, .unset, .unset, .unset, .unset, .unset, .unset, .unset] [(.ref b1)]))
  refine own_to (fun _ kz => XS.dup X1.here hx rfl (hb hby at_3) rfl rfl kz) ?_
  show own_Fin p e below G (T1.setTop (mkF m 4 #[.val (.int p0), .val (.int p1), .val (.int p2), .val (.int p3), .val (.int p4), .unset, .unset, .unset, .unset, .unset, .unset, .unset, .unset] [(.ref b1), (.ref b1)]))
  refine own_to (fun _ kz => XS.iconst X1.here hx rfl (hb hby at_4) kz) ?_
  show own_Fin p e below G (T1.setTop (mkF m 5 #[.val (.int p0), .val (.int p1), .val (.int p2), .val (.int p3), .val (.int p4), .unset, .unset, .unset, .unset, .unset, .unset, .unset, .unset] [(.int (0 : Int32)), (.ref b1), (.ref b1)]))
  refine own_to (fun _ kz => XS.iconst X1.here hx rfl (hb hby at_5) kz) ?_
  show own_Fin p e below G (T1.setTop (mkF m 6 #[.val (.int p0), .val (.int p1), .val (.int p2), .val (.int p3), .val (.int p4), .unset, .unset, .unset, .unset, .unset, .unset, .unset, .unset] [(.int (0 : Int32)), (.int (0 : Int32)), (.ref b1), (.ref b1)]))
  obtain ⟨nn6, cl6, Ar6, Sz6, Hs6⟩ := V1
  obtain ⟨T6, h6, X6, e6, W6, st6⟩ := stI X1 hx hZ e1 Ar6 (j := (0 : Int32)) (own_in Sz6 (by decide) rfl (by decide)) (g := (mkF m 6 #[.val (.int p0), .val (.int p1), .val (.int p2), .val (.int p3), .val (.int p4), .unset, .unset, .unset, .unset, .unset, .unset, .unset, .unset] [(.int (0 : Int32)), (.int (0 : Int32)), (.ref b1), (.ref b1)])) rfl rfl (hb hby at_6)
  refine own_to st6 ?_
  have V6 : own_AV Value.int Z h6 b1 .int 5 (own_upd (fun _ => (0 : Int32)) 0 (0 : Int32)) := own_AV.set nn6 Ar6 Sz6 Hs6 W6 rfl
  obtain ⟨lo6, X6, N6⟩ : ∃ lo, Stand p l e _ s m _ below meth c T6 lo _ _ ∧ Fr n0 lo := ⟨_, X6, Fr.snoc X6 N0 g_b1⟩
  show own_Fin p e below G (T6.setTop (mkF m 7 #[.val (.int p0), .val (.int p1), .val (.int p2), .val (.int p3), .val (.int p4), .unset, .unset, .unset, .unset, .unset, .unset, .unset, .unset] [(.ref b1)]))
  refine own_to (fun _ kz => XS.dup X6.here hx rfl (hb hby at_7) rfl rfl kz) ?_
  show own_Fin p e below G (T6.setTop (mkF m 8 #[.val (.int p0), .val (.int p1), .val (.int p2), .val (.int p3), .val (.int p4), .unset, .unset, .unset, .unset, .unset, .unset, .unset, .unset] [(.ref b1), (.ref b1)]))
  refine own_to (fun _ kz => XS.iconst X6.here hx rfl (hb hby at_8) kz) ?_
  show own_Fin p e below G (T6.setTop (mkF m 9 #[.val (.int p0), .val (.int p1), .val (.int p2), .val (.int p3), .val (.int p4), .unset, .unset, .unset, .unset, .unset, .unset, .unset, .unset] [(.int (1 : Int32)), (.ref b1), (.ref b1)]))
  refine own_to (fun _ kz => XS.iconst X6.here hx rfl (hb hby at_9) kz) ?_
  show own_Fin p e below G (T6.setTop (mkF m 10 #[.val (.int p0), .val (.int p1), .val (.int p2), .val (.int p3), .val (.int p4), .unset, .unset, .unset, .unset, .unset, .unset, .unset, .unset] [(.int (1 : Int32)), (.int (1 : Int32)), (.ref b1), (.ref b1)]))
  obtain ⟨nn10, cl10, Ar10, Sz10, Hs10⟩ := V6
  obtain ⟨T10, h10, X10, e10, W10, st10⟩ := stI X6 hx hZ e6 Ar10 (j := (1 : Int32)) (own_in Sz10 (by decide) rfl (by decide)) (g := (mkF m 10 #[.val (.int p0), .val (.int p1), .val (.int p2), .val (.int p3), .val (.int p4), .unset, .unset, .unset, .unset, .unset, .unset, .unset, .unset] [(.int (1 : Int32)), (.int (1 : Int32)), (.ref b1), (.ref b1)])) rfl rfl (hb hby at_10)
  refine own_to st10 ?_
  have V10 : own_AV Value.int Z h10 b1 .int 5 (own_upd (own_upd (fun _ => (0 : Int32)) 0 (0 : Int32)) 1 (1 : Int32)) := own_AV.set nn10 Ar10 Sz10 Hs10 W10 rfl
  obtain ⟨lo10, X10, N10⟩ : ∃ lo, Stand p l e _ s m _ below meth c T10 lo _ _ ∧ Fr n0 lo := ⟨_, X10, Fr.snoc X10 N6 g_b1⟩
  show own_Fin p e below G (T10.setTop (mkF m 11 #[.val (.int p0), .val (.int p1), .val (.int p2), .val (.int p3), .val (.int p4), .unset, .unset, .unset, .unset, .unset, .unset, .unset, .unset] [(.ref b1)]))
  refine own_to (fun _ kz => XS.dup X10.here hx rfl (hb hby at_11) rfl rfl kz) ?_
  show own_Fin p e below G (T10.setTop (mkF m 12 #[.val (.int p0), .val (.int p1), .val (.int p2), .val (.int p3), .val (.int p4), .unset, .unset, .unset, .unset, .unset, .unset, .unset, .unset] [(.ref b1), (.ref b1)]))
  refine own_to (fun _ kz => XS.iconst X10.here hx rfl (hb hby at_12) kz) ?_
  show own_Fin p e below G (T10.setTop (mkF m 13 #[.val (.int p0), .val (.int p1), .val (.int p2), .val (.int p3), .val (.int p4), .unset, .unset, .unset, .unset, .unset, .unset, .unset, .unset] [(.int (2 : Int32)), (.ref b1), (.ref b1)]))
  refine own_to (fun _ kz => XS.iconst X10.here hx rfl (hb hby at_13) kz) ?_
  show own_Fin p e below G (T10.setTop (mkF m 14 #[.val (.int p0), .val (.int p1), .val (.int p2), .val (.int p3), .val (.int p4), .unset, .unset, .unset, .unset, .unset, .unset, .unset, .unset] [(.int (4 : Int32)), (.int (2 : Int32)), (.ref b1), (.ref b1)]))
  obtain ⟨nn14, cl14, Ar14, Sz14, Hs14⟩ := V10
  obtain ⟨T14, h14, X14, e14, W14, st14⟩ := stI X10 hx hZ e10 Ar14 (j := (2 : Int32)) (own_in Sz14 (by decide) rfl (by decide)) (g := (mkF m 14 #[.val (.int p0), .val (.int p1), .val (.int p2), .val (.int p3), .val (.int p4), .unset, .unset, .unset, .unset, .unset, .unset, .unset, .unset] [(.int (4 : Int32)), (.int (2 : Int32)), (.ref b1), (.ref b1)])) rfl rfl (hb hby at_14)
  refine own_to st14 ?_
  have V14 : own_AV Value.int Z h14 b1 .int 5 (own_upd (own_upd (own_upd (fun _ => (0 : Int32)) 0 (0 : Int32)) 1 (1 : Int32)) 2 (4 : Int32)) := own_AV.set nn14 Ar14 Sz14 Hs14 W14 rfl
  obtain ⟨lo14, X14, N14⟩ : ∃ lo, Stand p l e _ s m _ below meth c T14 lo _ _ ∧ Fr n0 lo := ⟨_, X14, Fr.snoc X14 N10 g_b1⟩
  show own_Fin p e below G (T14.setTop (mkF m 15 #[.val (.int p0), .val (.int p1), .val (.int p2), .val (.int p3), .val (.int p4), .unset, .unset, .unset, .unset, .unset, .unset, .unset, .unset] [(.ref b1)]))
  refine own_to (fun _ kz => XS.dup X14.here hx rfl (hb hby at_15) rfl rfl kz) ?_
  show own_Fin p e below G (T14.setTop (mkF m 16 #[.val (.int p0), .val (.int p1), .val (.int p2), .val (.int p3), .val (.int p4), .unset, .unset, .unset, .unset, .unset, .unset, .unset, .unset] [(.ref b1), (.ref b1)]))
  refine own_to (fun _ kz => XS.iconst X14.here hx rfl (hb hby at_16) kz) ?_
  show own_Fin p e below G (T14.setTop (mkF m 17 #[.val (.int p0), .val (.int p1), .val (.int p2), .val (.int p3), .val (.int p4), .unset, .unset, .unset, .unset, .unset, .unset, .unset, .unset] [(.int (3 : Int32)), (.ref b1), (.ref b1)]))
  refine own_to (fun _ kz => XS.bipush X14.here hx rfl (hb hby at_17) kz) ?_
  show own_Fin p e below G (T14.setTop (mkF m 19 #[.val (.int p0), .val (.int p1), .val (.int p2), .val (.int p3), .val (.int p4), .unset, .unset, .unset, .unset, .unset, .unset, .unset, .unset] [(.int (6 : Int32)), (.int (3 : Int32)), (.ref b1), (.ref b1)]))
  obtain ⟨nn19, cl19, Ar19, Sz19, Hs19⟩ := V14
  obtain ⟨T19, h19, X19, e19, W19, st19⟩ := stI X14 hx hZ e14 Ar19 (j := (3 : Int32)) (own_in Sz19 (by decide) rfl (by decide)) (g := (mkF m 19 #[.val (.int p0), .val (.int p1), .val (.int p2), .val (.int p3), .val (.int p4), .unset, .unset, .unset, .unset, .unset, .unset, .unset, .unset] [(.int (6 : Int32)), (.int (3 : Int32)), (.ref b1), (.ref b1)])) rfl rfl (hb hby at_19)
  refine own_to st19 ?_
  have V19 : own_AV Value.int Z h19 b1 .int 5 (own_upd (own_upd (own_upd (own_upd (fun _ => (0 : Int32)) 0 (0 : Int32)) 1 (1 : Int32)) 2 (4 : Int32)) 3 (6 : Int32)) := own_AV.set nn19 Ar19 Sz19 Hs19 W19 rfl
  obtain ⟨lo19, X19, N19⟩ : ∃ lo, Stand p l e _ s m _ below meth c T19 lo _ _ ∧ Fr n0 lo := ⟨_, X19, Fr.snoc X19 N14 g_b1⟩
  show own_Fin p e below G (T19.setTop (mkF m 20 #[.val (.int p0), .val (.int p1), .val (.int p2), .val (.int p3), .val (.int p4), .unset, .unset, .unset, .unset, .unset, .unset, .unset, .unset] [(.ref b1)]))
  refine own_to (fun _ kz => XS.dup X19.here hx rfl (hb hby at_20) rfl rfl kz) ?_
  show own_Fin p e below G (T19.setTop (mkF m 21 #[.val (.int p0), .val (.int p1), .val (.int p2), .val (.int p3), .val (.int p4), .unset, .unset, .unset, .unset, .unset, .unset, .unset, .unset] [(.ref b1), (.ref b1)]))
  refine own_to (fun _ kz => XS.iconst X19.here hx rfl (hb hby at_21) kz) ?_
  show own_Fin p e below G (T19.setTop (mkF m 22 #[.val (.int p0), .val (.int p1), .val (.int p2), .val (.int p3), .val (.int p4), .unset, .unset, .unset, .unset, .unset, .unset, .unset, .unset] [(.int (4 : Int32)), (.ref b1), (.ref b1)]))
  refine own_to (fun _ kz => XS.bipush X19.here hx rfl (hb hby at_22) kz) ?_
  show own_Fin p e below G (T19.setTop (mkF m 24 #[.val (.int p0), .val (.int p1), .val (.int p2), .val (.int p3), .val (.int p4), .unset, .unset, .unset, .unset, .unset, .unset, .unset, .unset] [(.int (8 : Int32)), (.int (4 : Int32)), (.ref b1), (.ref b1)]))
  obtain ⟨nn24, cl24, Ar24, Sz24, Hs24⟩ := V19
  obtain ⟨T24, h24, X24, e24, W24, st24⟩ := stI X19 hx hZ e19 Ar24 (j := (4 : Int32)) (own_in Sz24 (by decide) rfl (by decide)) (g := (mkF m 24 #[.val (.int p0), .val (.int p1), .val (.int p2), .val (.int p3), .val (.int p4), .unset, .unset, .unset, .unset, .unset, .unset, .unset, .unset] [(.int (8 : Int32)), (.int (4 : Int32)), (.ref b1), (.ref b1)])) rfl rfl (hb hby at_24)
  refine own_to st24 ?_
  have V24 : own_AV Value.int Z h24 b1 .int 5 (own_upd (own_upd (own_upd (own_upd (own_upd (fun _ => (0 : Int32)) 0 (0 : Int32)) 1 (1 : Int32)) 2 (4 : Int32)) 3 (6 : Int32)) 4 (8 : Int32)) := own_AV.set nn24 Ar24 Sz24 Hs24 W24 rfl
  obtain ⟨lo24, X24, N24⟩ : ∃ lo, Stand p l e _ s m _ below meth c T24 lo _ _ ∧ Fr n0 lo := ⟨_, X24, Fr.snoc X24 N19 g_b1⟩
  show own_Fin p e below G (T24.setTop (mkF m 25 #[.val (.int p0), .val (.int p1), .val (.int p2), .val (.int p3), .val (.int p4), .unset, .unset, .unset, .unset, .unset, .unset, .unset, .unset] [(.ref b1)]))
  refine own_to (fun _ kz => XS.astore X24.here hx rfl (hb hby at_25) rfl (rfl) (l' := #[.val (.int p0), .val (.int p1), .val (.int p2), .val (.int p3), .val (.int p4), .val (.ref b1), .unset, .unset, .unset, .unset, .unset, .unset, .unset]) rfl kz) ?_
  show own_Fin p e below G (T24.setTop (mkF m 27 #[.val (.int p0), .val (.int p1), .val (.int p2), .val (.int p3), .val (.int p4), .val (.ref b1), .unset, .unset, .unset, .unset, .unset, .unset, .unset] []))
  refine own_to (fun _ kz => XS.bipush X24.here hx rfl (hb hby at_27) kz) ?_
  show own_Fin p e below G (T24.setTop (mkF m 29 #[.val (.int p0), .val (.int p1), .val (.int p2), .val (.int p3), .val (.int p4), .val (.ref b1), .unset, .unset, .unset, .unset, .unset, .unset, .unset] [(.int (8 : Int32))]))
  have Zz_29_E1 := Nat.le_trans Z0 E1.1
  have Zz_29_W6 := Nat.le_trans Zz_29_E1 (Nat.le_of_eq (Wr.size W6).symm)
  have Zz_29_W10 := Nat.le_trans Zz_29_W6 (Nat.le_of_eq (Wr.size W10).symm)
  have Zz_29_W14 := Nat.le_trans Zz_29_W10 (Nat.le_of_eq (Wr.size W14).symm)
  have Zz_29_W19 := Nat.le_trans Zz_29_W14 (Nat.le_of_eq (Wr.size W19).symm)
  have Zz_29_W24 := Nat.le_trans Zz_29_W19 (Nat.le_of_eq (Wr.size W24).symm)
  have Z_29 : n0 ≤ h24.size := Zz_29_W24
  obtain ⟨T29, h29, k29, X29, e29, E29, A29, st29⟩ := newP X24 hx hZ (hw _ (List.mem_of_getElem? (i := 0) rfl)) e24 (g := (mkF m 29 #[.val (.int p0), .val (.int p1), .val (.int p2), .val (.int p3), .val (.int p4), .val (.ref b1), .unset, .unset, .unset, .unset, .unset, .unset, .unset] [(.int (8 : Int32))])) rfl (hb hby at_29) rfl (by decide) (cap := 8) (by decide) (by decide) (by decide) (by decide)
  obtain ⟨b29, g29⟩ : ∃ z, z = h24.size := ⟨_, rfl⟩
  rw [← g29] at A29 st29
  refine own_to st29 ?_
  have ne_b1_b29 : b1 ≠ b29 := Nat.ne_of_lt (Nat.lt_of_lt_of_le V24.lt (Nat.le_of_eq g29.symm))
  have g_b29 : n0 ≤ b29 := Nat.le_trans Z_29 (Nat.le_of_eq g29.symm)
  have V29 : own_AV Value.int Z h29 b29 .int 8 (fun _ => (0 : Int32)) := own_AV.new A29 (by decide) (by decide) (fun _ => rfl)
  show own_Fin p e below G (T29.setTop (mkF m 31 #[.val (.int p0), .val (.int p1), .val (.int p2), .val (.int p3), .val (.int p4), .val (.ref b1), .unset, .unset, .unset, .unset, .unset, .unset, .unset] [(.ref b29)]))
  refine own_to (fun _ kz => XS.dup X29.here hx rfl (hb hby at_31) rfl rfl kz) ?_
  show own_Fin p e below G (T29.setTop (mkF m 32 #[.val (.int p0), .val (.int p1), .val (.int p2), .val (.int p3), .val (.int p4), .val (.ref b1), .unset, .unset, .unset, .unset, .unset, .unset, .unset] [(.ref b29), (.ref b29)]))
  refine own_to (fun _ kz => XS.iconst X29.here hx rfl (hb hby at_32) kz) ?_
  show own_Fin p e below G (T29.setTop (mkF m 33 #[.val (.int p0), .val (.int p1), .val (.int p2), .val (.int p3), .val (.int p4), .val (.ref b1), .unset, .unset, .unset, .unset, .unset, .unset, .unset] [(.int (0 : Int32)), (.ref b29), (.ref b29)]))
  refine own_to (fun _ kz => XS.iconst X29.here hx rfl (hb hby at_33) kz) ?_
  show own_Fin p e below G (T29.setTop (mkF m 34 #[.val (.int p0), .val (.int p1), .val (.int p2), .val (.int p3), .val (.int p4), .val (.ref b1), .unset, .unset, .unset, .unset, .unset, .unset, .unset] [(.int (1 : Int32)), (.int (0 : Int32)), (.ref b29), (.ref b29)]))
  obtain ⟨nn34, cl34, Ar34, Sz34, Hs34⟩ := V29
  obtain ⟨T34, h34, X34, e34, W34, st34⟩ := stI X29 hx hZ e29 Ar34 (j := (0 : Int32)) (own_in Sz34 (by decide) rfl (by decide)) (g := (mkF m 34 #[.val (.int p0), .val (.int p1), .val (.int p2), .val (.int p3), .val (.int p4), .val (.ref b1), .unset, .unset, .unset, .unset, .unset, .unset, .unset] [(.int (1 : Int32)), (.int (0 : Int32)), (.ref b29), (.ref b29)])) rfl rfl (hb hby at_34)
  refine own_to st34 ?_
  have V34 : own_AV Value.int Z h34 b29 .int 8 (own_upd (fun _ => (0 : Int32)) 0 (1 : Int32)) := own_AV.set nn34 Ar34 Sz34 Hs34 W34 rfl
  obtain ⟨lo34, X34, N34⟩ : ∃ lo, Stand p l e _ s m _ below meth c T34 lo _ _ ∧ Fr n0 lo := ⟨_, X34, Fr.snoc X34 N24 g_b29⟩
  show own_Fin p e below G (T34.setTop (mkF m 35 #[.val (.int p0), .val (.int p1), .val (.int p2), .val (.int p3), .val (.int p4), .val (.ref b1), .unset, .unset, .unset, .unset, .unset, .unset, .unset] [(.ref b29)]))
  refine own_to (fun _ kz => XS.dup X34.here hx rfl (hb hby at_35) rfl rfl kz) ?_
  show own_Fin p e below G (T34.setTop (mkF m 36 #[.val (.int p0), .val (.int p1), .val (.int p2), .val (.int p3), .val (.int p4), .val (.ref b1), .unset, .unset, .unset, .unset, .unset, .unset, .unset] [(.ref b29), (.ref b29)]))
  refine own_to (fun _ kz => XS.iconst X34.here hx rfl (hb hby at_36) kz) ?_
  show own_Fin p e below G (T34.setTop (mkF m 37 #[.val (.int p0), .val (.int p1), .val (.int p2), .val (.int p3), .val (.int p4), .val (.ref b1), .unset, .unset, .unset, .unset, .unset, .unset, .unset] [(.int (1 : Int32)), (.ref b29), (.ref b29)]))
  refine own_to (fun _ kz => XS.iconst X34.here hx rfl (hb hby at_37) kz) ?_
  show own_Fin p e below G (T34.setTop (mkF m 38 #[.val (.int p0), .val (.int p1), .val (.int p2), .val (.int p3), .val (.int p4), .val (.ref b1), .unset, .unset, .unset, .unset, .unset, .unset, .unset] [(.int (0 : Int32)), (.int (1 : Int32)), (.ref b29), (.ref b29)]))
  obtain ⟨nn38, cl38, Ar38, Sz38, Hs38⟩ := V34
  obtain ⟨T38, h38, X38, e38, W38, st38⟩ := stI X34 hx hZ e34 Ar38 (j := (1 : Int32)) (own_in Sz38 (by decide) rfl (by decide)) (g := (mkF m 38 #[.val (.int p0), .val (.int p1), .val (.int p2), .val (.int p3), .val (.int p4), .val (.ref b1), .unset, .unset, .unset, .unset, .unset, .unset, .unset] [(.int (0 : Int32)), (.int (1 : Int32)), (.ref b29), (.ref b29)])) rfl rfl (hb hby at_38)
  refine own_to st38 ?_
  have V38 : own_AV Value.int Z h38 b29 .int 8 (own_upd (own_upd (fun _ => (0 : Int32)) 0 (1 : Int32)) 1 (0 : Int32)) := own_AV.set nn38 Ar38 Sz38 Hs38 W38 rfl
  obtain ⟨lo38, X38, N38⟩ : ∃ lo, Stand p l e _ s m _ below meth c T38 lo _ _ ∧ Fr n0 lo := ⟨_, X38, Fr.snoc X38 N34 g_b29⟩
  show own_Fin p e below G (T38.setTop (mkF m 39 #[.val (.int p0), .val (.int p1), .val (.int p2), .val (.int p3), .val (.int p4), .val (.ref b1), .unset, .unset, .unset, .unset, .unset, .unset, .unset] [(.ref b29)]))
  refine own_to (fun _ kz => XS.dup X38.here hx rfl (hb hby at_39) rfl rfl kz) ?_
  show own_Fin p e below G (T38.setTop (mkF m 40 #[.val (.int p0), .val (.int p1), .val (.int p2), .val (.int p3), .val (.int p4), .val (.ref b1), .unset, .unset, .unset, .unset, .unset, .unset, .unset] [(.ref b29), (.ref b29)]))
  refine own_to (fun _ kz => XS.iconst X38.here hx rfl (hb hby at_40) kz) ?_
  show own_Fin p e below G (T38.setTop (mkF m 41 #[.val (.int p0), .val (.int p1), .val (.int p2), .val (.int p3), .val (.int p4), .val (.ref b1), .unset, .unset, .unset, .unset, .unset, .unset, .unset] [(.int (2 : Int32)), (.ref b29), (.ref b29)]))
  refine own_to (fun _ kz => XS.iconst X38.here hx rfl (hb hby at_41) kz) ?_
  show own_Fin p e below G (T38.setTop (mkF m 42 #[.val (.int p0), .val (.int p1), .val (.int p2), .val (.int p3), .val (.int p4), .val (.ref b1), .unset, .unset, .unset, .unset, .unset, .unset, .unset] [(.int (2 : Int32)), (.int (2 : Int32)), (.ref b29), (.ref b29)]))
  obtain ⟨nn42, cl42, Ar42, Sz42, Hs42⟩ := V38
  obtain ⟨T42, h42, X42, e42, W42, st42⟩ := stI X38 hx hZ e38 Ar42 (j := (2 : Int32)) (own_in Sz42 (by decide) rfl (by decide)) (g := (mkF m 42 #[.val (.int p0), .val (.int p1), .val (.int p2), .val (.int p3), .val (.int p4), .val (.ref b1), .unset, .unset, .unset, .unset, .unset, .unset, .unset] [(.int (2 : Int32)), (.int (2 : Int32)), (.ref b29), (.ref b29)])) rfl rfl (hb hby at_42)
  refine own_to st42 ?_
  have V42 : own_AV Value.int Z h42 b29 .int 8 (own_upd (own_upd (own_upd (fun _ => (0 : Int32)) 0 (1 : Int32)) 1 (0 : Int32)) 2 (2 : Int32)) := own_AV.set nn42 Ar42 Sz42 Hs42 W42 rfl
  obtain ⟨lo42, X42, N42⟩ : ∃ lo, Stand p l e _ s m _ below meth c T42 lo _ _ ∧ Fr n0 lo := ⟨_, X42, Fr.snoc X42 N38 g_b29⟩
  show own_Fin p e below G (T42.setTop (mkF m 43 #[.val (.int p0), .val (.int p1), .val (.int p2), .val (.int p3), .val (.int p4), .val (.ref b1), .unset, .unset, .unset, .unset, .unset, .unset, .unset] [(.ref b29)]))
  refine own_to (fun _ kz => XS.dup X42.here hx rfl (hb hby at_43) rfl rfl kz) ?_
  show own_Fin p e below G (T42.setTop (mkF m 44 #[.val (.int p0), .val (.int p1), .val (.int p2), .val (.int p3), .val (.int p4), .val (.ref b1), .unset, .unset, .unset, .unset, .unset, .unset, .unset] [(.ref b29), (.ref b29)]))
  refine own_to (fun _ kz => XS.iconst X42.here hx rfl (hb hby at_44) kz) ?_
  show own_Fin p e below G (T42.setTop (mkF m 45 #[.val (.int p0), .val (.int p1), .val (.int p2), .val (.int p3), .val (.int p4), .val (.ref b1), .unset, .unset, .unset, .unset, .unset, .unset, .unset] [(.int (3 : Int32)), (.ref b29), (.ref b29)]))
  refine own_to (fun _ kz => XS.iconst X42.here hx rfl (hb hby at_45) kz) ?_
  show own_Fin p e below G (T42.setTop (mkF m 46 #[.val (.int p0), .val (.int p1), .val (.int p2), .val (.int p3), .val (.int p4), .val (.ref b1), .unset, .unset, .unset, .unset, .unset, .unset, .unset] [(.int (3 : Int32)), (.int (3 : Int32)), (.ref b29), (.ref b29)]))
  obtain ⟨nn46, cl46, Ar46, Sz46, Hs46⟩ := V42
  obtain ⟨T46, h46, X46, e46, W46, st46⟩ := stI X42 hx hZ e42 Ar46 (j := (3 : Int32)) (own_in Sz46 (by decide) rfl (by decide)) (g := (mkF m 46 #[.val (.int p0), .val (.int p1), .val (.int p2), .val (.int p3), .val (.int p4), .val (.ref b1), .unset, .unset, .unset, .unset, .unset, .unset, .unset] [(.int (3 : Int32)), (.int (3 : Int32)), (.ref b29), (.ref b29)])) rfl rfl (hb hby at_46)
  refine own_to st46 ?_
  have V46 : own_AV Value.int Z h46 b29 .int 8 (own_upd (own_upd (own_upd (own_upd (fun _ => (0 : Int32)) 0 (1 : Int32)) 1 (0 : Int32)) 2 (2 : Int32)) 3 (3 : Int32)) := own_AV.set nn46 Ar46 Sz46 Hs46 W46 rfl
  obtain ⟨lo46, X46, N46⟩ : ∃ lo, Stand p l e _ s m _ below meth c T46 lo _ _ ∧ Fr n0 lo := ⟨_, X46, Fr.snoc X46 N42 g_b29⟩
  show own_Fin p e below G (T46.setTop (mkF m 47 #[.val (.int p0), .val (.int p1), .val (.int p2), .val (.int p3), .val (.int p4), .val (.ref b1), .unset, .unset, .unset, .unset, .unset, .unset, .unset] [(.ref b29)]))
  refine own_to (fun _ kz => XS.dup X46.here hx rfl (hb hby at_47) rfl rfl kz) ?_
  show own_Fin p e below G (T46.setTop (mkF m 48 #[.val (.int p0), .val (.int p1), .val (.int p2), .val (.int p3), .val (.int p4), .val (.ref b1), .unset, .unset, .unset, .unset, .unset, .unset, .unset] [(.ref b29), (.ref b29)]))
  refine own_to (fun _ kz => XS.iconst X46.here hx rfl (hb hby at_48) kz) ?_
  show own_Fin p e below G (T46.setTop (mkF m 49 #[.val (.int p0), .val (.int p1), .val (.int p2), .val (.int p3), .val (.int p4), .val (.ref b1), .unset, .unset, .unset, .unset, .unset, .unset, .unset] [(.int (4 : Int32)), (.ref b29), (.ref b29)]))
  refine own_to (fun _ kz => XS.iconst X46.here hx rfl (hb hby at_49) kz) ?_
  show own_Fin p e below G (T46.setTop (mkF m 50 #[.val (.int p0), .val (.int p1), .val (.int p2), .val (.int p3), .val (.int p4), .val (.ref b1), .unset, .unset, .unset, .unset, .unset, .unset, .unset] [(.int (1 : Int32)), (.int (4 : Int32)), (.ref b29), (.ref b29)]))
  obtain ⟨nn50, cl50, Ar50, Sz50, Hs50⟩ := V46
  obtain ⟨T50, h50, X50, e50, W50, st50⟩ := stI X46 hx hZ e46 Ar50 (j := (4 : Int32)) (own_in Sz50 (by decide) rfl (by decide)) (g := (mkF m 50 #[.val (.int p0), .val (.int p1), .val (.int p2), .val (.int p3), .val (.int p4), .val (.ref b1), .unset, .unset, .unset, .unset, .unset, .unset, .unset] [(.int (1 : Int32)), (.int (4 : Int32)), (.ref b29), (.ref b29)])) rfl rfl (hb hby at_50)
  refine own_to st50 ?_
  have V50 : own_AV Value.int Z h50 b29 .int 8 (own_upd (own_upd (own_upd (own_upd (own_upd (fun _ => (0 : Int32)) 0 (1 : Int32)) 1 (0 : Int32)) 2 (2 : Int32)) 3 (3 : Int32)) 4 (1 : Int32)) := own_AV.set nn50 Ar50 Sz50 Hs50 W50 rfl
  obtain ⟨lo50, X50, N50⟩ : ∃ lo, Stand p l e _ s m _ below meth c T50 lo _ _ ∧ Fr n0 lo := ⟨_, X50, Fr.snoc X50 N46 g_b29⟩
  show own_Fin p e below G (T50.setTop (mkF m 51 #[.val (.int p0), .val (.int p1), .val (.int p2), .val (.int p3), .val (.int p4), .val (.ref b1), .unset, .unset, .unset, .unset, .unset, .unset, .unset] [(.ref b29)]))
  refine own_to (fun _ kz => XS.dup X50.here hx rfl (hb hby at_51) rfl rfl kz) ?_
  show own_Fin p e below G (T50.setTop (mkF m 52 #[.val (.int p0), .val (.int p1), .val (.int p2), .val (.int p3), .val (.int p4), .val (.ref b1), .unset, .unset, .unset, .unset, .unset, .unset, .unset] [(.ref b29), (.ref b29)]))
  refine own_to (fun _ kz => XS.iconst X50.here hx rfl (hb hby at_52) kz) ?_
  show own_Fin p e below G (T50.setTop (mkF m 53 #[.val (.int p0), .val (.int p1), .val (.int p2), .val (.int p3), .val (.int p4), .val (.ref b1), .unset, .unset, .unset, .unset, .unset, .unset, .unset] [(.int (5 : Int32)), (.ref b29), (.ref b29)]))
  refine own_to (fun _ kz => XS.iconst X50.here hx rfl (hb hby at_53) kz) ?_
  show own_Fin p e below G (T50.setTop (mkF m 54 #[.val (.int p0), .val (.int p1), .val (.int p2), .val (.int p3), .val (.int p4), .val (.ref b1), .unset, .unset, .unset, .unset, .unset, .unset, .unset] [(.int (3 : Int32)), (.int (5 : Int32)), (.ref b29), (.ref b29)]))
  obtain ⟨nn54, cl54, Ar54, Sz54, Hs54⟩ := V50
  obtain ⟨T54, h54, X54, e54, W54, st54⟩ := stI X50 hx hZ e50 Ar54 (j := (5 : Int32)) (own_in Sz54 (by decide) rfl (by decide)) (g := (mkF m 54 #[.val (.int p0), .val (.int p1), .val (.int p2), .val (.int p3), .val (.int p4), .val (.ref b1), .unset, .unset, .unset, .unset, .unset, .unset, .unset] [(.int (3 : Int32)), (.int (5 : Int32)), (.ref b29), (.ref b29)])) rfl rfl (hb hby at_54)
  refine own_to st54 ?_
  have V54 : own_AV Value.int Z h54 b29 .int 8 (own_upd (own_upd (own_upd (own_upd (own_upd (own_upd (fun _ => (0 : Int32)) 0 (1 : Int32)) 1 (0 : Int32)) 2 (2 : Int32)) 3 (3 : Int32)) 4 (1 : Int32)) 5 (3 : Int32)) := own_AV.set nn54 Ar54 Sz54 Hs54 W54 rfl
  obtain ⟨lo54, X54, N54⟩ : ∃ lo, Stand p l e _ s m _ below meth c T54 lo _ _ ∧ Fr n0 lo := ⟨_, X54, Fr.snoc X54 N50 g_b29⟩
  show own_Fin p e below G (T54.setTop (mkF m 55 #[.val (.int p0), .val (.int p1), .val (.int p2), .val (.int p3), .val (.int p4), .val (.ref b1), .unset, .unset, .unset, .unset, .unset, .unset, .unset] [(.ref b29)]))
  refine own_to (fun _ kz => XS.dup X54.here hx rfl (hb hby at_55) rfl rfl kz) ?_
  show own_Fin p e below G (T54.setTop (mkF m 56 #[.val (.int p0), .val (.int p1), .val (.int p2), .val (.int p3), .val (.int p4), .val (.ref b1), .unset, .unset, .unset, .unset, .unset, .unset, .unset] [(.ref b29), (.ref b29)]))
  refine own_to (fun _ kz => XS.bipush X54.here hx rfl (hb hby at_56) kz) ?_
  show own_Fin p e below G (T54.setTop (mkF m 58 #[.val (.int p0), .val (.int p1), .val (.int p2), .val (.int p3), .val (.int p4), .val (.ref b1), .unset, .unset, .unset, .unset, .unset, .unset, .unset] [(.int (6 : Int32)), (.ref b29), (.ref b29)]))
  refine own_to (fun _ kz => XS.iconst X54.here hx rfl (hb hby at_58) kz) ?_
  show own_Fin p e below G (T54.setTop (mkF m 59 #[.val (.int p0), .val (.int p1), .val (.int p2), .val (.int p3), .val (.int p4), .val (.ref b1), .unset, .unset, .unset, .unset, .unset, .unset, .unset] [(.int (2 : Int32)), (.int (6 : Int32)), (.ref b29), (.ref b29)]))
  obtain ⟨nn59, cl59, Ar59, Sz59, Hs59⟩ := V54
  obtain ⟨T59, h59, X59, e59, W59, st59⟩ := stI X54 hx hZ e54 Ar59 (j := (6 : Int32)) (own_in Sz59 (by decide) rfl (by decide)) (g := (mkF m 59 #[.val (.int p0), .val (.int p1), .val (.int p2), .val (.int p3), .val (.int p4), .val (.ref b1), .unset, .unset, .unset, .unset, .unset, .unset, .unset] [(.int (2 : Int32)), (.int (6 : Int32)), (.ref b29), (.ref b29)])) rfl rfl (hb hby at_59)
  refine own_to st59 ?_
  have V59 : own_AV Value.int Z h59 b29 .int 8 (own_upd (own_upd (own_upd (own_upd (own_upd (own_upd (own_upd (fun _ => (0 : Int32)) 0 (1 : Int32)) 1 (0 : Int32)) 2 (2 : Int32)) 3 (3 : Int32)) 4 (1 : Int32)) 5 (3 : Int32)) 6 (2 : Int32)) := own_AV.set nn59 Ar59 Sz59 Hs59 W59 rfl
  obtain ⟨lo59, X59, N59⟩ : ∃ lo, Stand p l e _ s m _ below meth c T59 lo _ _ ∧ Fr n0 lo := ⟨_, X59, Fr.snoc X59 N54 g_b29⟩
  show own_Fin p e below G (T59.setTop (mkF m 60 #[.val (.int p0), .val (.int p1), .val (.int p2), .val (.int p3), .val (.int p4), .val (.ref b1), .unset, .unset, .unset, .unset, .unset, .unset, .unset] [(.ref b29)]))
  refine own_to (fun _ kz => XS.dup X59.here hx rfl (hb hby at_60) rfl rfl kz) ?_
  show own_Fin p e below G (T59.setTop (mkF m 61 #[.val (.int p0), .val (.int p1), .val (.int p2), .val (.int p3), .val (.int p4), .val (.ref b1), .unset, .unset, .unset, .unset, .unset, .unset, .unset] [(.ref b29), (.ref b29)]))
  refine own_to (fun _ kz => XS.bipush X59.here hx rfl (hb hby at_61) kz) ?_
  show own_Fin p e below G (T59.setTop (mkF m 63 #[.val (.int p0), .val (.int p1), .val (.int p2), .val (.int p3), .val (.int p4), .val (.ref b1), .unset, .unset, .unset, .unset, .unset, .unset, .unset] [(.int (7 : Int32)), (.ref b29), (.ref b29)]))
  refine own_to (fun _ kz => XS.iconst X59.here hx rfl (hb hby at_63) kz) ?_
  show own_Fin p e below G (T59.setTop (mkF m 64 #[.val (.int p0), .val (.int p1), .val (.int p2), .val (.int p3), .val (.int p4), .val (.ref b1), .unset, .unset, .unset, .unset, .unset, .unset, .unset] [(.int (1 : Int32)), (.int (7 : Int32)), (.ref b29), (.ref b29)]))
  obtain ⟨nn64, cl64, Ar64, Sz64, Hs64⟩ := V59
  obtain ⟨T64, h64, X64, e64, W64, st64⟩ := stI X59 hx hZ e59 Ar64 (j := (7 : Int32)) (own_in Sz64 (by decide) rfl (by decide)) (g := (mkF m 64 #[.val (.int p0), .val (.int p1), .val (.int p2), .val (.int p3), .val (.int p4), .val (.ref b1), .unset, .unset, .unset, .unset, .unset, .unset, .unset] [(.int (1 : Int32)), (.int (7 : Int32)), (.ref b29), (.ref b29)])) rfl rfl (hb hby at_64)
  refine own_to st64 ?_
  have V64 : own_AV Value.int Z h64 b29 .int 8 (own_upd (own_upd (own_upd (own_upd (own_upd (own_upd (own_upd (own_upd (fun _ => (0 : Int32)) 0 (1 : Int32)) 1 (0 : Int32)) 2 (2 : Int32)) 3 (3 : Int32)) 4 (1 : Int32)) 5 (3 : Int32)) 6 (2 : Int32)) 7 (1 : Int32)) := own_AV.set nn64 Ar64 Sz64 Hs64 W64 rfl
  obtain ⟨lo64, X64, N64⟩ : ∃ lo, Stand p l e _ s m _ below meth c T64 lo _ _ ∧ Fr n0 lo := ⟨_, X64, Fr.snoc X64 N59 g_b29⟩
  show own_Fin p e below G (T64.setTop (mkF m 65 #[.val (.int p0), .val (.int p1), .val (.int p2), .val (.int p3), .val (.int p4), .val (.ref b1), .unset, .unset, .unset, .unset, .unset, .unset, .unset] [(.ref b29)]))
  refine own_to (fun _ kz => XS.astore X64.here hx rfl (hb hby at_65) rfl (rfl) (l' := #[.val (.int p0), .val (.int p1), .val (.int p2), .val (.int p3), .val (.int p4), .val (.ref b1), .val (.ref b29), .unset, .unset, .unset, .unset, .unset, .unset]) rfl kz) ?_
  show own_Fin p e below G (T64.setTop (mkF m 67 #[.val (.int p0), .val (.int p1), .val (.int p2), .val (.int p3), .val (.int p4), .val (.ref b1), .val (.ref b29), .unset, .unset, .unset, .unset, .unset, .unset] []))
  refine own_to (fun _ kz => XS.bipush X64.here hx rfl (hb hby at_67) kz) ?_
  show own_Fin p e below G (T64.setTop (mkF m 69 #[.val (.int p0), .val (.int p1), .val (.int p2), .val (.int p3), .val (.int p4), .val (.ref b1), .val (.ref b29), .unset, .unset, .unset, .unset, .unset, .unset] [(.int (8 : Int32))]))
  have Zz_69_E29 := Nat.le_trans Z_29 E29.1
  have Zz_69_W34 := Nat.le_trans Zz_69_E29 (Nat.le_of_eq (Wr.size W34).symm)
  have Zz_69_W38 := Nat.le_trans Zz_69_W34 (Nat.le_of_eq (Wr.size W38).symm)
  have Zz_69_W42 := Nat.le_trans Zz_69_W38 (Nat.le_of_eq (Wr.size W42).symm)
  have Zz_69_W46 := Nat.le_trans Zz_69_W42 (Nat.le_of_eq (Wr.size W46).symm)
  have Zz_69_W50 := Nat.le_trans Zz_69_W46 (Nat.le_of_eq (Wr.size W50).symm)
  have Zz_69_W54 := Nat.le_trans Zz_69_W50 (Nat.le_of_eq (Wr.size W54).symm)
  have Zz_69_W59 := Nat.le_trans Zz_69_W54 (Nat.le_of_eq (Wr.size W59).symm)
  have Zz_69_W64 := Nat.le_trans Zz_69_W59 (Nat.le_of_eq (Wr.size W64).symm)
  have Z_69 : n0 ≤ h64.size := Zz_69_W64
  obtain ⟨T69, h69, k69, X69, e69, E69, A69, st69⟩ := newP X64 hx hZ (hw _ (List.mem_of_getElem? (i := 0) rfl)) e64 (g := (mkF m 69 #[.val (.int p0), .val (.int p1), .val (.int p2), .val (.int p3), .val (.int p4), .val (.ref b1), .val (.ref b29), .unset, .unset, .unset, .unset, .unset, .unset] [(.int (8 : Int32))])) rfl (hb hby at_69) rfl (by decide) (cap := 8) (by decide) (by decide) (by decide) (by decide)
  obtain ⟨b69, g69⟩ : ∃ z, z = h64.size := ⟨_, rfl⟩
  rw [← g69] at A69 st69
  refine own_to st69 ?_
  have ne_b1_b69 : b1 ≠ b69 := Nat.ne_of_lt (Nat.lt_of_lt_of_le (((((((((V24.ext E29).other W34 ne_b1_b29).other W38 ne_b1_b29).other W42 ne_b1_b29).other W46 ne_b1_b29).other W50 ne_b1_b29).other W54 ne_b1_b29).other W59 ne_b1_b29).other W64 ne_b1_b29).lt (Nat.le_of_eq g69.symm))
  have ne_b29_b69 : b29 ≠ b69 := Nat.ne_of_lt (Nat.lt_of_lt_of_le V64.lt (Nat.le_of_eq g69.symm))
  have g_b69 : n0 ≤ b69 := Nat.le_trans Z_69 (Nat.le_of_eq g69.symm)
  have V69 : own_AV Value.int Z h69 b69 .int 8 (fun _ => (0 : Int32)) := own_AV.new A69 (by decide) (by decide) (fun _ => rfl)
  show own_Fin p e below G (T69.setTop (mkF m 71 #[.val (.int p0), .val (.int p1), .val (.int p2), .val (.int p3), .val (.int p4), .val (.ref b1), .val (.ref b29), .unset, .unset, .unset, .unset, .unset, .unset] [(.ref b69)]))
  refine own_to (fun _ kz => XS.dup X69.here hx rfl (hb hby at_71) rfl rfl kz) ?_
  show own_Fin p e below G (T69.setTop (mkF m 72 #[.val (.int p0), .val (.int p1), .val (.int p2), .val (.int p3), .val (.int p4), .val (.ref b1), .val (.ref b29), .unset, .unset, .unset, .unset, .unset, .unset] [(.ref b69), (.ref b69)]))
  refine own_to (fun _ kz => XS.iconst X69.here hx rfl (hb hby at_72) kz) ?_
  show own_Fin p e below G (T69.setTop (mkF m 73 #[.val (.int p0), .val (.int p1), .val (.int p2), .val (.int p3), .val (.int p4), .val (.ref b1), .val (.ref b29), .unset, .unset, .unset, .unset, .unset, .unset] [(.int (0 : Int32)), (.ref b69), (.ref b69)]))
  refine own_to (fun _ kz => XS.iloadN X69.here hx rfl (hb hby at_73) rfl  kz) ?_
  show own_Fin p e below G (T69.setTop (mkF m 74 #[.val (.int p0), .val (.int p1), .val (.int p2), .val (.int p3), .val (.int p4), .val (.ref b1), .val (.ref b29), .unset, .unset, .unset, .unset, .unset, .unset] [(.int p0), (.int (0 : Int32)), (.ref b69), (.ref b69)]))
  obtain ⟨nn74, cl74, Ar74, Sz74, Hs74⟩ := V69
  obtain ⟨T74, h74, X74, e74, W74, st74⟩ := stI X69 hx hZ e69 Ar74 (j := (0 : Int32)) (own_in Sz74 (by decide) rfl (by decide)) (g := (mkF m 74 #[.val (.int p0), .val (.int p1), .val (.int p2), .val (.int p3), .val (.int p4), .val (.ref b1), .val (.ref b29), .unset, .unset, .unset, .unset, .unset, .unset] [(.int p0), (.int (0 : Int32)), (.ref b69), (.ref b69)])) rfl rfl (hb hby at_74)
  refine own_to st74 ?_
  have V74 : own_AV Value.int Z h74 b69 .int 8 (own_upd (fun _ => (0 : Int32)) 0 p0) := own_AV.set nn74 Ar74 Sz74 Hs74 W74 rfl
  obtain ⟨lo74, X74, N74⟩ : ∃ lo, Stand p l e _ s m _ below meth c T74 lo _ _ ∧ Fr n0 lo := ⟨_, X74, Fr.snoc X74 N64 g_b69⟩
  show own_Fin p e below G (T74.setTop (mkF m 75 #[.val (.int p0), .val (.int p1), .val (.int p2), .val (.int p3), .val (.int p4), .val (.ref b1), .val (.ref b29), .unset, .unset, .unset, .unset, .unset, .unset] [(.ref b69)]))
  refine own_to (fun _ kz => XS.dup X74.here hx rfl (hb hby at_75) rfl rfl kz) ?_
  show own_Fin p e below G (T74.setTop (mkF m 76 #[.val (.int p0), .val (.int p1), .val (.int p2), .val (.int p3), .val (.int p4), .val (.ref b1), .val (.ref b29), .unset, .unset, .unset, .unset, .unset, .unset] [(.ref b69), (.ref b69)]))
  refine own_to (fun _ kz => XS.iconst X74.here hx rfl (hb hby at_76) kz) ?_
  show own_Fin p e below G (T74.setTop (mkF m 77 #[.val (.int p0), .val (.int p1), .val (.int p2), .val (.int p3), .val (.int p4), .val (.ref b1), .val (.ref b29), .unset, .unset, .unset, .unset, .unset, .unset] [(.int (1 : Int32)), (.ref b69), (.ref b69)]))
  refine own_to (fun _ kz => XS.iloadN X74.here hx rfl (hb hby at_77) rfl  kz) ?_
  show own_Fin p e below G (T74.setTop (mkF m 78 #[.val (.int p0), .val (.int p1), .val (.int p2), .val (.int p3), .val (.int p4), .val (.ref b1), .val (.ref b29), .unset, .unset, .unset, .unset, .unset, .unset] [(.int p0), (.int (1 : Int32)), (.ref b69), (.ref b69)]))
  obtain ⟨nn78, cl78, Ar78, Sz78, Hs78⟩ := V74
  obtain ⟨T78, h78, X78, e78, W78, st78⟩ := stI X74 hx hZ e74 Ar78 (j := (1 : Int32)) (own_in Sz78 (by decide) rfl (by decide)) (g := (mkF m 78 #[.val (.int p0), .val (.int p1), .val (.int p2), .val (.int p3), .val (.int p4), .val (.ref b1), .val (.ref b29), .unset, .unset, .unset, .unset, .unset, .unset] [(.int p0), (.int (1 : Int32)), (.ref b69), (.ref b69)])) rfl rfl (hb hby at_78)
  refine own_to st78 ?_
  have V78 : own_AV Value.int Z h78 b69 .int 8 (own_upd (own_upd (fun _ => (0 : Int32)) 0 p0) 1 p0) := own_AV.set nn78 Ar78 Sz78 Hs78 W78 rfl
  obtain ⟨lo78, X78, N78⟩ : ∃ lo, Stand p l e _ s m _ below meth c T78 lo _ _ ∧ Fr n0 lo := ⟨_, X78, Fr.snoc X78 N74 g_b69⟩
  show own_Fin p e below G (T78.setTop (mkF m 79 #[.val (.int p0), .val (.int p1), .val (.int p2), .val (.int p3), .val (.int p4), .val (.ref b1), .val (.ref b29), .unset, .unset, .unset, .unset, .unset, .unset] [(.ref b69)]))
  refine own_to (fun _ kz => XS.dup X78.here hx rfl (hb hby at_79) rfl rfl kz) ?_
  show own_Fin p e below G (T78.setTop (mkF m 80 #[.val (.int p0), .val (.int p1), .val (.int p2), .val (.int p3), .val (.int p4), .val (.ref b1), .val (.ref b29), .unset, .unset, .unset, .unset, .unset, .unset] [(.ref b69), (.ref b69)]))
  refine own_to (fun _ kz => XS.iconst X78.here hx rfl (hb hby at_80) kz) ?_
  show own_Fin p e below G (T78.setTop (mkF m 81 #[.val (.int p0), .val (.int p1), .val (.int p2), .val (.int p3), .val (.int p4), .val (.ref b1), .val (.ref b29), .unset, .unset, .unset, .unset, .unset, .unset] [(.int (2 : Int32)), (.ref b69), (.ref b69)]))
  refine own_to (fun _ kz => XS.iloadN X78.here hx rfl (hb hby at_81) rfl  kz) ?_
  show own_Fin p e below G (T78.setTop (mkF m 82 #[.val (.int p0), .val (.int p1), .val (.int p2), .val (.int p3), .val (.int p4), .val (.ref b1), .val (.ref b29), .unset, .unset, .unset, .unset, .unset, .unset] [(.int p1), (.int (2 : Int32)), (.ref b69), (.ref b69)]))
  obtain ⟨nn82, cl82, Ar82, Sz82, Hs82⟩ := V78
  obtain ⟨T82, h82, X82, e82, W82, st82⟩ := stI X78 hx hZ e78 Ar82 (j := (2 : Int32)) (own_in Sz82 (by decide) rfl (by decide)) (g := (mkF m 82 #[.val (.int p0), .val (.int p1), .val (.int p2), .val (.int p3), .val (.int p4), .val (.ref b1), .val (.ref b29), .unset, .unset, .unset, .unset, .unset, .unset] [(.int p1), (.int (2 : Int32)), (.ref b69), (.ref b69)])) rfl rfl (hb hby at_82)
  refine own_to st82 ?_
  have V82 : own_AV Value.int Z h82 b69 .int 8 (own_upd (own_upd (own_upd (fun _ => (0 : Int32)) 0 p0) 1 p0) 2 p1) := own_AV.set nn82 Ar82 Sz82 Hs82 W82 rfl
  obtain ⟨lo82, X82, N82⟩ : ∃ lo, Stand p l e _ s m _ below meth c T82 lo _ _ ∧ Fr n0 lo := ⟨_, X82, Fr.snoc X82 N78 g_b69⟩
  show own_Fin p e below G (T82.setTop (mkF m 83 #[.val (.int p0), .val (.int p1), .val (.int p2), .val (.int p3), .val (.int p4), .val (.ref b1), .val (.ref b29), .unset, .unset, .unset, .unset, .unset, .unset] [(.ref b69)]))
  refine own_to (fun _ kz => XS.dup X82.here hx rfl (hb hby at_83) rfl rfl kz) ?_
  show own_Fin p e below G (T82.setTop (mkF m 84 #[.val (.int p0), .val (.int p1), .val (.int p2), .val (.int p3), .val (.int p4), .val (.ref b1), .val (.ref b29), .unset, .unset, .unset, .unset, .unset, .unset] [(.ref b69), (.ref b69)]))
  refine own_to (fun _ kz => XS.iconst X82.here hx rfl (hb hby at_84) kz) ?_
  show own_Fin p e below G (T82.setTop (mkF m 85 #[.val (.int p0), .val (.int p1), .val (.int p2), .val (.int p3), .val (.int p4), .val (.ref b1), .val (.ref b29), .unset, .unset, .unset, .unset, .unset, .unset] [(.int (3 : Int32)), (.ref b69), (.ref b69)]))
  refine own_to (fun _ kz => XS.iloadN X82.here hx rfl (hb hby at_85) rfl  kz) ?_
  show own_Fin p e below G (T82.setTop (mkF m 86 #[.val (.int p0), .val (.int p1), .val (.int p2), .val (.int p3), .val (.int p4), .val (.ref b1), .val (.ref b29), .unset, .unset, .unset, .unset, .unset, .unset] [(.int p2), (.int (3 : Int32)), (.ref b69), (.ref b69)]))
  obtain ⟨nn86, cl86, Ar86, Sz86, Hs86⟩ := V82
  obtain ⟨T86, h86, X86, e86, W86, st86⟩ := stI X82 hx hZ e82 Ar86 (j := (3 : Int32)) (own_in Sz86 (by decide) rfl (by decide)) (g := (mkF m 86 #[.val (.int p0), .val (.int p1), .val (.int p2), .val (.int p3), .val (.int p4), .val (.ref b1), .val (.ref b29), .unset, .unset, .unset, .unset, .unset, .unset] [(.int p2), (.int (3 : Int32)), (.ref b69), (.ref b69)])) rfl rfl (hb hby at_86)
  refine own_to st86 ?_
  have V86 : own_AV Value.int Z h86 b69 .int 8 (own_upd (own_upd (own_upd (own_upd (fun _ => (0 : Int32)) 0 p0) 1 p0) 2 p1) 3 p2) := own_AV.set nn86 Ar86 Sz86 Hs86 W86 rfl
  obtain ⟨lo86, X86, N86⟩ : ∃ lo, Stand p l e _ s m _ below meth c T86 lo _ _ ∧ Fr n0 lo := ⟨_, X86, Fr.snoc X86 N82 g_b69⟩
  show own_Fin p e below G (T86.setTop (mkF m 87 #[.val (.int p0), .val (.int p1), .val (.int p2), .val (.int p3), .val (.int p4), .val (.ref b1), .val (.ref b29), .unset, .unset, .unset, .unset, .unset, .unset] [(.ref b69)]))
  refine own_to (fun _ kz => XS.dup X86.here hx rfl (hb hby at_87) rfl rfl kz) ?_
  show own_Fin p e below G (T86.setTop (mkF m 88 #[.val (.int p0), .val (.int p1), .val (.int p2), .val (.int p3), .val (.int p4), .val (.ref b1), .val (.ref b29), .unset, .unset, .unset, .unset, .unset, .unset] [(.ref b69), (.ref b69)]))
  refine own_to (fun _ kz => XS.iconst X86.here hx rfl (hb hby at_88) kz) ?_
  show own_Fin p e below G (T86.setTop (mkF m 89 #[.val (.int p0), .val (.int p1), .val (.int p2), .val (.int p3), .val (.int p4), .val (.ref b1), .val (.ref b29), .unset, .unset, .unset, .unset, .unset, .unset] [(.int (4 : Int32)), (.ref b69), (.ref b69)]))
  refine own_to (fun _ kz => XS.iloadN X86.here hx rfl (hb hby at_89) rfl  kz) ?_
  show own_Fin p e below G (T86.setTop (mkF m 90 #[.val (.int p0), .val (.int p1), .val (.int p2), .val (.int p3), .val (.int p4), .val (.ref b1), .val (.ref b29), .unset, .unset, .unset, .unset, .unset, .unset] [(.int p1), (.int (4 : Int32)), (.ref b69), (.ref b69)]))
  obtain ⟨nn90, cl90, Ar90, Sz90, Hs90⟩ := V86
  obtain ⟨T90, h90, X90, e90, W90, st90⟩ := stI X86 hx hZ e86 Ar90 (j := (4 : Int32)) (own_in Sz90 (by decide) rfl (by decide)) (g := (mkF m 90 #[.val (.int p0), .val (.int p1), .val (.int p2), .val (.int p3), .val (.int p4), .val (.ref b1), .val (.ref b29), .unset, .unset, .unset, .unset, .unset, .unset] [(.int p1), (.int (4 : Int32)), (.ref b69), (.ref b69)])) rfl rfl (hb hby at_90)
  refine own_to st90 ?_
  have V90 : own_AV Value.int Z h90 b69 .int 8 (own_upd (own_upd (own_upd (own_upd (own_upd (fun _ => (0 : Int32)) 0 p0) 1 p0) 2 p1) 3 p2) 4 p1) := own_AV.set nn90 Ar90 Sz90 Hs90 W90 rfl
  obtain ⟨lo90, X90, N90⟩ : ∃ lo, Stand p l e _ s m _ below meth c T90 lo _ _ ∧ Fr n0 lo := ⟨_, X90, Fr.snoc X90 N86 g_b69⟩
  show own_Fin p e below G (T90.setTop (mkF m 91 #[.val (.int p0), .val (.int p1), .val (.int p2), .val (.int p3), .val (.int p4), .val (.ref b1), .val (.ref b29), .unset, .unset, .unset, .unset, .unset, .unset] [(.ref b69)]))
  refine own_to (fun _ kz => XS.dup X90.here hx rfl (hb hby at_91) rfl rfl kz) ?_
  show own_Fin p e below G (T90.setTop (mkF m 92 #[.val (.int p0), .val (.int p1), .val (.int p2), .val (.int p3), .val (.int p4), .val (.ref b1), .val (.ref b29), .unset, .unset, .unset, .unset, .unset, .unset] [(.ref b69), (.ref b69)]))
  refine own_to (fun _ kz => XS.iconst X90.here hx rfl (hb hby at_92) kz) ?_
  show own_Fin p e below G (T90.setTop (mkF m 93 #[.val (.int p0), .val (.int p1), .val (.int p2), .val (.int p3), .val (.int p4), .val (.ref b1), .val (.ref b29), .unset, .unset, .unset, .unset, .unset, .unset] [(.int (5 : Int32)), (.ref b69), (.ref b69)]))
  refine own_to (fun _ kz => XS.iloadN X90.here hx rfl (hb hby at_93) rfl  kz) ?_
  show own_Fin p e below G (T90.setTop (mkF m 94 #[.val (.int p0), .val (.int p1), .val (.int p2), .val (.int p3), .val (.int p4), .val (.ref b1), .val (.ref b29), .unset, .unset, .unset, .unset, .unset, .unset] [(.int p3), (.int (5 : Int32)), (.ref b69), (.ref b69)]))
  obtain ⟨nn94, cl94, Ar94, Sz94, Hs94⟩ := V90
  obtain ⟨T94, h94, X94, e94, W94, st94⟩ := stI X90 hx hZ e90 Ar94 (j := (5 : Int32)) (own_in Sz94 (by decide) rfl (by decide)) (g := (mkF m 94 #[.val (.int p0), .val (.int p1), .val (.int p2), .val (.int p3), .val (.int p4), .val (.ref b1), .val (.ref b29), .unset, .unset, .unset, .unset, .unset, .unset] [(.int p3), (.int (5 : Int32)), (.ref b69), (.ref b69)])) rfl rfl (hb hby at_94)
  refine own_to st94 ?_
  have V94 : own_AV Value.int Z h94 b69 .int 8 (own_upd (own_upd (own_upd (own_upd (own_upd (own_upd (fun _ => (0 : Int32)) 0 p0) 1 p0) 2 p1) 3 p2) 4 p1) 5 p3) := own_AV.set nn94 Ar94 Sz94 Hs94 W94 rfl
  obtain ⟨lo94, X94, N94⟩ : ∃ lo, Stand p l e _ s m _ below meth c T94 lo _ _ ∧ Fr n0 lo := ⟨_, X94, Fr.snoc X94 N90 g_b69⟩
  show own_Fin p e below G (T94.setTop (mkF m 95 #[.val (.int p0), .val (.int p1), .val (.int p2), .val (.int p3), .val (.int p4), .val (.ref b1), .val (.ref b29), .unset, .unset, .unset, .unset, .unset, .unset] [(.ref b69)]))
  refine own_to (fun _ kz => XS.dup X94.here hx rfl (hb hby at_95) rfl rfl kz) ?_
  show own_Fin p e below G (T94.setTop (mkF m 96 #[.val (.int p0), .val (.int p1), .val (.int p2), .val (.int p3), .val (.int p4), .val (.ref b1), .val (.ref b29), .unset, .unset, .unset, .unset, .unset, .unset] [(.ref b69), (.ref b69)]))
  refine own_to (fun _ kz => XS.bipush X94.here hx rfl (hb hby at_96) kz) ?_
  show own_Fin p e below G (T94.setTop (mkF m 98 #[.val (.int p0), .val (.int p1), .val (.int p2), .val (.int p3), .val (.int p4), .val (.ref b1), .val (.ref b29), .unset, .unset, .unset, .unset, .unset, .unset] [(.int (6 : Int32)), (.ref b69), (.ref b69)]))
  refine own_to (fun _ kz => XS.iloadN X94.here hx rfl (hb hby at_98) rfl  kz) ?_
  show own_Fin p e below G (T94.setTop (mkF m 99 #[.val (.int p0), .val (.int p1), .val (.int p2), .val (.int p3), .val (.int p4), .val (.ref b1), .val (.ref b29), .unset, .unset, .unset, .unset, .unset, .unset] [(.int p3), (.int (6 : Int32)), (.ref b69), (.ref b69)]))
  obtain ⟨nn99, cl99, Ar99, Sz99, Hs99⟩ := V94
  obtain ⟨T99, h99, X99, e99, W99, st99⟩ := stI X94 hx hZ e94 Ar99 (j := (6 : Int32)) (own_in Sz99 (by decide) rfl (by decide)) (g := (mkF m 99 #[.val (.int p0), .val (.int p1), .val (.int p2), .val (.int p3), .val (.int p4), .val (.ref b1), .val (.ref b29), .unset, .unset, .unset, .unset, .unset, .unset] [(.int p3), (.int (6 : Int32)), (.ref b69), (.ref b69)])) rfl rfl (hb hby at_99)
  refine own_to st99 ?_
  have V99 : own_AV Value.int Z h99 b69 .int 8 (own_upd (own_upd (own_upd (own_upd (own_upd (own_upd (own_upd (fun _ => (0 : Int32)) 0 p0) 1 p0) 2 p1) 3 p2) 4 p1) 5 p3) 6 p3) := own_AV.set nn99 Ar99 Sz99 Hs99 W99 rfl
  obtain ⟨lo99, X99, N99⟩ : ∃ lo, Stand p l e _ s m _ below meth c T99 lo _ _ ∧ Fr n0 lo := ⟨_, X99, Fr.snoc X99 N94 g_b69⟩
  show own_Fin p e below G (T99.setTop (mkF m 100 #[.val (.int p0), .val (.int p1), .val (.int p2), .val (.int p3), .val (.int p4), .val (.ref b1), .val (.ref b29), .unset, .unset, .unset, .unset, .unset, .unset] [(.ref b69)]))
  refine own_to (fun _ kz => XS.dup X99.here hx rfl (hb hby at_100) rfl rfl kz) ?_
  show own_Fin p e below G (T99.setTop (mkF m 101 #[.val (.int p0), .val (.int p1), .val (.int p2), .val (.int p3), .val (.int p4), .val (.ref b1), .val (.ref b29), .unset, .unset, .unset, .unset, .unset, .unset] [(.ref b69), (.ref b69)]))
  refine own_to (fun _ kz => XS.bipush X99.here hx rfl (hb hby at_101) kz) ?_
  show own_Fin p e below G (T99.setTop (mkF m 103 #[.val (.int p0), .val (.int p1), .val (.int p2), .val (.int p3), .val (.int p4), .val (.ref b1), .val (.ref b29), .unset, .unset, .unset, .unset, .unset, .unset] [(.int (7 : Int32)), (.ref b69), (.ref b69)]))
  refine own_to (fun _ kz => XS.iloadN X99.here hx rfl (hb hby at_103) rfl  kz) ?_
  show own_Fin p e below G (T99.setTop (mkF m 104 #[.val (.int p0), .val (.int p1), .val (.int p2), .val (.int p3), .val (.int p4), .val (.ref b1), .val (.ref b29), .unset, .unset, .unset, .unset, .unset, .unset] [(.int p2), (.int (7 : Int32)), (.ref b69), (.ref b69)]))
  obtain ⟨nn104, cl104, Ar104, Sz104, Hs104⟩ := V99
  obtain ⟨T104, h104, X104, e104, W104, st104⟩ := stI X99 hx hZ e99 Ar104 (j := (7 : Int32)) (own_in Sz104 (by decide) rfl (by decide)) (g := (mkF m 104 #[.val (.int p0), .val (.int p1), .val (.int p2), .val (.int p3), .val (.int p4), .val (.ref b1), .val (.ref b29), .unset, .unset, .unset, .unset, .unset, .unset] [(.int p2), (.int (7 : Int32)), (.ref b69), (.ref b69)])) rfl rfl (hb hby at_104)
  refine own_to st104 ?_
  have V104 : own_AV Value.int Z h104 b69 .int 8 (own_upd (own_upd (own_upd (own_upd (own_upd (own_upd (own_upd (own_upd (fun _ => (0 : Int32)) 0 p0) 1 p0) 2 p1) 3 p2) 4 p1) 5 p3) 6 p3) 7 p2) := own_AV.set nn104 Ar104 Sz104 Hs104 W104 rfl
  obtain ⟨lo104, X104, N104⟩ : ∃ lo, Stand p l e _ s m _ below meth c T104 lo _ _ ∧ Fr n0 lo := ⟨_, X104, Fr.snoc X104 N99 g_b69⟩
  show own_Fin p e below G (T104.setTop (mkF m 105 #[.val (.int p0), .val (.int p1), .val (.int p2), .val (.int p3), .val (.int p4), .val (.ref b1), .val (.ref b29), .unset, .unset, .unset, .unset, .unset, .unset] [(.ref b69)]))
  refine own_to (fun _ kz => XS.astore X104.here hx rfl (hb hby at_105) rfl (rfl) (l' := #[.val (.int p0), .val (.int p1), .val (.int p2), .val (.int p3), .val (.int p4), .val (.ref b1), .val (.ref b29), .val (.ref b69), .unset, .unset, .unset, .unset, .unset]) rfl kz) ?_
  show own_Fin p e below G (T104.setTop (mkF m 107 #[.val (.int p0), .val (.int p1), .val (.int p2), .val (.int p3), .val (.int p4), .val (.ref b1), .val (.ref b29), .val (.ref b69), .unset, .unset, .unset, .unset, .unset] []))
  have Zz_107_E69 := Nat.le_trans Z_69 E69.1
  have Zz_107_W74 := Nat.le_trans Zz_107_E69 (Nat.le_of_eq (Wr.size W74).symm)
  have Zz_107_W78 := Nat.le_trans Zz_107_W74 (Nat.le_of_eq (Wr.size W78).symm)
  have Zz_107_W82 := Nat.le_trans Zz_107_W78 (Nat.le_of_eq (Wr.size W82).symm)
  have Zz_107_W86 := Nat.le_trans Zz_107_W82 (Nat.le_of_eq (Wr.size W86).symm)
  have Zz_107_W90 := Nat.le_trans Zz_107_W86 (Nat.le_of_eq (Wr.size W90).symm)
  have Zz_107_W94 := Nat.le_trans Zz_107_W90 (Nat.le_of_eq (Wr.size W94).symm)
  have Zz_107_W99 := Nat.le_trans Zz_107_W94 (Nat.le_of_eq (Wr.size W99).symm)
  have Zz_107_W104 := Nat.le_trans Zz_107_W99 (Nat.le_of_eq (Wr.size W104).symm)
  have Z_107 : n0 ≤ h104.size := Zz_107_W104
  obtain ⟨T107, h107, X107, e107, E107, A107, D107, -, st107⟩ := newO X104 hx hZ hown (hw _ (List.mem_of_getElem? (i := 1) rfl)) (hw _ (List.mem_of_getElem? (i := 2) rfl)) (hw _ (List.mem_of_getElem? (i := 3) rfl)) e104 (g := (mkF m 107 #[.val (.int p0), .val (.int p1), .val (.int p2), .val (.int p3), .val (.int p4), .val (.ref b1), .val (.ref b29), .val (.ref b69), .unset, .unset, .unset, .unset, .unset] [])) rfl (hb hby at_107) (by decide) (by decide)
  obtain ⟨b107, g107⟩ : ∃ z, z = h104.size := ⟨_, rfl⟩
  rw [← g107] at A107 D107 st107
  refine own_to st107 ?_
  have ne_b1_b107 : b1 ≠ b107 := Nat.ne_of_lt (Nat.lt_of_lt_of_le ((((((((((((((((((V24.ext E29).other W34 ne_b1_b29).other W38 ne_b1_b29).other W42 ne_b1_b29).other W46 ne_b1_b29).other W50 ne_b1_b29).other W54 ne_b1_b29).other W59 ne_b1_b29).other W64 ne_b1_b29).ext E69).other W74 ne_b1_b69).other W78 ne_b1_b69).other W82 ne_b1_b69).other W86 ne_b1_b69).other W90 ne_b1_b69).other W94 ne_b1_b69).other W99 ne_b1_b69).other W104 ne_b1_b69).lt (Nat.le_of_eq g107.symm))
  have ne_b29_b107 : b29 ≠ b107 := Nat.ne_of_lt (Nat.lt_of_lt_of_le (((((((((V64.ext E69).other W74 ne_b29_b69).other W78 ne_b29_b69).other W82 ne_b29_b69).other W86 ne_b29_b69).other W90 ne_b29_b69).other W94 ne_b29_b69).other W99 ne_b29_b69).other W104 ne_b29_b69).lt (Nat.le_of_eq g107.symm))
  have ne_b69_b107 : b69 ≠ b107 := Nat.ne_of_lt (Nat.lt_of_lt_of_le V104.lt (Nat.le_of_eq g107.symm))
  have g_b107 : n0 ≤ b107 := Nat.le_trans Z_107 (Nat.le_of_eq g107.symm)
  have F_start_b107 : Fld Z h107 b107 "com/example/lanterns/lanterns/solvers/Graph" "start" "[I" .null := D107 (Or.inr (hw _ (List.mem_of_getElem? (i := 11) rfl))) (ty := (.array .int)) (by decide)
  have F_neighbours_b107 : Fld Z h107 b107 "com/example/lanterns/lanterns/solvers/Graph" "neighbours" "[I" .null := D107 (Or.inr (hw _ (List.mem_of_getElem? (i := 13) rfl))) (ty := (.array .int)) (by decide)
  have F_edges_b107 : Fld Z h107 b107 "com/example/lanterns/lanterns/solvers/Graph" "edges" "[I" .null := D107 (Or.inr (hw _ (List.mem_of_getElem? (i := 15) rfl))) (ty := (.array .int)) (by decide)
  show own_Fin p e below G (T107.setTop (mkF m 110 #[.val (.int p0), .val (.int p1), .val (.int p2), .val (.int p3), .val (.int p4), .val (.ref b1), .val (.ref b29), .val (.ref b69), .unset, .unset, .unset, .unset, .unset] [(.ref b107)]))
  refine own_to (fun _ kz => XS.dup X107.here hx rfl (hb hby at_110) rfl rfl kz) ?_
  show own_Fin p e below G (T107.setTop (mkF m 111 #[.val (.int p0), .val (.int p1), .val (.int p2), .val (.int p3), .val (.int p4), .val (.ref b1), .val (.ref b29), .val (.ref b69), .unset, .unset, .unset, .unset, .unset] [(.ref b107), (.ref b107)]))
  refine own_to (fun _ kz => XS.aload X107.here hx rfl (hb hby at_111) rfl (rfl)  kz) ?_
  show own_Fin p e below G (T107.setTop (mkF m 113 #[.val (.int p0), .val (.int p1), .val (.int p2), .val (.int p3), .val (.int p4), .val (.ref b1), .val (.ref b29), .val (.ref b69), .unset, .unset, .unset, .unset, .unset] [(.ref b1), (.ref b107), (.ref b107)]))
  refine own_to (fun _ kz => XS.aload X107.here hx rfl (hb hby at_113) rfl (rfl)  kz) ?_
  show own_Fin p e below G (T107.setTop (mkF m 115 #[.val (.int p0), .val (.int p1), .val (.int p2), .val (.int p3), .val (.int p4), .val (.ref b1), .val (.ref b29), .val (.ref b69), .unset, .unset, .unset, .unset, .unset] [(.ref b29), (.ref b1), (.ref b107), (.ref b107)]))
  refine own_to (fun _ kz => XS.aload X107.here hx rfl (hb hby at_115) rfl (rfl)  kz) ?_
  show own_Fin p e below G (T107.setTop (mkF m 117 #[.val (.int p0), .val (.int p1), .val (.int p2), .val (.int p3), .val (.int p4), .val (.ref b1), .val (.ref b29), .val (.ref b69), .unset, .unset, .unset, .unset, .unset] [(.ref b69), (.ref b29), (.ref b1), (.ref b107), (.ref b107)]))
  have Zz_117_E107 := Nat.le_trans Z_107 E107.1
  have Z_117 : n0 ≤ h107.size := Zz_117_E107
  obtain ⟨_, _, ⟨T117, L117, k117, n117⟩, -, X117, ⟨Lc117, hQ117, l117, y117, z117⟩, st117⟩ := X107.specialBack hx (y := (⟨"com/example/lanterns/lanterns/solvers/Graph", "<init>", "([I[I[I)V"⟩ : MethodName)) rfl hown (mvT hZ (hw _ (List.mem_of_getElem? (i := 4) rfl))) (mvT hZ (hw _ (List.mem_of_getElem? (i := 5) rfl))) (mvT hZ (hw _ (List.mem_of_getElem? (i := 6) rfl))) (by decide) (backOf (W := 1) (rm1 l Z a0 hw [] b107 b1 b29 b69 h107 n0 Z_117 A107 F_start_b107 F_neighbours_b107 F_edges_b107 g_b107) hZ (hw _ (List.mem_of_getElem? (i := 6) rfl)) (hw _ (List.mem_of_getElem? (i := 3) rfl)) (by decide) (by decide)) (g := (mkF m 117 #[.val (.int p0), .val (.int p1), .val (.int p2), .val (.int p3), .val (.int p4), .val (.ref b1), .val (.ref b29), .val (.ref b69), .unset, .unset, .unset, .unset, .unset] [(.ref b69), (.ref b29), (.ref b1), (.ref b107), (.ref b107)])) rfl (by rw [hml]; rfl) (Steps.refl _) (a := b107) (argsL := [(.ref b1), (.ref b29), (.ref b69)]) (rest := [(.ref b107)]) (lenOf own_pd0 rfl) rfl (by show 2 * 0 + _ ≤ _; exact Nat.le_of_eq rfl) (hb hby at_117) (fun _ _ => ⟨rfl, e107, (by decide : 4 + 0 ≤ _), (by decide : 24 + 0 ≤ _)⟩)
  dsimp only [Pt.U, Pt.locs, Pt.cells, Pt.slots] at X117 l117 y117 z117 st117 hQ117
  subst l117 y117 z117
  obtain ⟨rfl, N117q, Kp117, P117_0, P117_1, P117_2, P117_3⟩ := hQ117
  obtain ⟨lo117, X117, N117⟩ : ∃ lo, Stand p l e _ s m _ below meth c T117 lo _ _ ∧ Fr n0 lo := ⟨_, X117, Fr.app N104 N117q⟩
  refine own_via st117 ?_
  show own_Fin p e below G (T117.setTop (mkF m 120 #[.val (.int p0), .val (.int p1), .val (.int p2), .val (.int p3), .val (.int p4), .val (.ref b1), .val (.ref b29), .val (.ref b69), .unset, .unset, .unset, .unset, .unset] [(.ref b107)]))
  refine own_to (fun _ kz => XS.astore X117.here hx rfl (hb hby at_120) rfl (rfl) (l' := #[.val (.int p0), .val (.int p1), .val (.int p2), .val (.int p3), .val (.int p4), .val (.ref b1), .val (.ref b29), .val (.ref b69), .val (.ref b107), .unset, .unset, .unset, .unset]) rfl kz) ?_
  show own_Fin p e below G (T117.setTop (mkF m 122 #[.val (.int p0), .val (.int p1), .val (.int p2), .val (.int p3), .val (.int p4), .val (.ref b1), .val (.ref b29), .val (.ref b69), .val (.ref b107), .unset, .unset, .unset, .unset] []))
  refine own_to (fun _ kz => XS.iload X117.here hx rfl (hb hby at_122) rfl  kz) ?_
  show own_Fin p e below G (T117.setTop (mkF m 124 #[.val (.int p0), .val (.int p1), .val (.int p2), .val (.int p3), .val (.int p4), .val (.ref b1), .val (.ref b29), .val (.ref b69), .val (.ref b107), .unset, .unset, .unset, .unset] [(.int p4)]))
  refine own_to (fun _ kz => X117.ldcInt hx hown (mvT hZ (hw _ (List.mem_of_getElem? (i := 16) rfl))) (g := (mkF m 124 #[.val (.int p0), .val (.int p1), .val (.int p2), .val (.int p3), .val (.int p4), .val (.ref b1), .val (.ref b29), .val (.ref b69), .val (.ref b107), .unset, .unset, .unset, .unset] [(.int p4)])) rfl (hb hby at_124) _ kz) ?_
  show own_Fin p e below G (T117.setTop (mkF m 126 #[.val (.int p0), .val (.int p1), .val (.int p2), .val (.int p3), .val (.int p4), .val (.ref b1), .val (.ref b29), .val (.ref b69), .val (.ref b107), .unset, .unset, .unset, .unset] [(.int (2147483647 : Int32)), (.int p4)]))
  refine own_to (fun _ kz => XS.iand X117.here hx rfl (hb hby at_126) rfl kz) ?_
  show own_Fin p e below G (T117.setTop (mkF m 127 #[.val (.int p0), .val (.int p1), .val (.int p2), .val (.int p3), .val (.int p4), .val (.ref b1), .val (.ref b29), .val (.ref b69), .val (.ref b107), .unset, .unset, .unset, .unset] [(.int (p4 &&& (2147483647 : Int32)))]))
  refine own_to (fun _ kz => XS.bipush X117.here hx rfl (hb hby at_127) kz) ?_
  show own_Fin p e below G (T117.setTop (mkF m 129 #[.val (.int p0), .val (.int p1), .val (.int p2), .val (.int p3), .val (.int p4), .val (.ref b1), .val (.ref b29), .val (.ref b69), .val (.ref b107), .unset, .unset, .unset, .unset] [(.int (8 : Int32)), (.int (p4 &&& (2147483647 : Int32)))]))
  refine own_to (fun _ kz => iremM X117 hx rfl (hb hby at_129) rfl (by decide) kz) ?_
  show own_Fin p e below G (T117.setTop (mkF m 130 #[.val (.int p0), .val (.int p1), .val (.int p2), .val (.int p3), .val (.int p4), .val (.ref b1), .val (.ref b29), .val (.ref b69), .val (.ref b107), .unset, .unset, .unset, .unset] [(.int ((p4 &&& (2147483647 : Int32)) % (8 : Int32)))]))
  refine own_to (fun _ kz => XS.istore X117.here hx rfl (hb hby at_130) rfl (l' := #[.val (.int p0), .val (.int p1), .val (.int p2), .val (.int p3), .val (.int p4), .val (.ref b1), .val (.ref b29), .val (.ref b69), .val (.ref b107), .val (.int ((p4 &&& (2147483647 : Int32)) % (8 : Int32))), .unset, .unset, .unset]) rfl kz) ?_
  show own_Fin p e below G (T117.setTop (mkF m 132 #[.val (.int p0), .val (.int p1), .val (.int p2), .val (.int p3), .val (.int p4), .val (.ref b1), .val (.ref b29), .val (.ref b69), .val (.ref b107), .val (.int ((p4 &&& (2147483647 : Int32)) % (8 : Int32))), .unset, .unset, .unset] []))
  have K132 : ∀ (v9_132 : Int32) (jh0_132 : 0 ≤ v9_132.toInt ∧ v9_132.toInt ≤ 7) (q_j132 : (f0 p0 p1 p2 p3 p4) = (f0_132 p0 p1 p2 p3 p4 v9_132)), own_Fin p e below G (T117.setTop (mkF m 132 #[.val (.int p0), .val (.int p1), .val (.int p2), .val (.int p3), .val (.int p4), .val (.ref b1), .val (.ref b29), .val (.ref b69), .val (.ref b107), .val (.int v9_132), .unset, .unset, .unset] [])) := by
    intro v9_132 jh0_132 q_j132
    refine own_to (fun _ kz => XS.iload X117.here hx rfl (hb hby at_132) rfl  kz) ?_
    show own_Fin p e below G (T117.setTop (mkF m 134 #[.val (.int p0), .val (.int p1), .val (.int p2), .val (.int p3), .val (.int p4), .val (.ref b1), .val (.ref b29), .val (.ref b69), .val (.ref b107), .val (.int v9_132), .unset, .unset, .unset] [(.int v9_132)]))
    have K193 : ∀ (v10_193 : Int32) (v11_193 : Int32) (jh0_193 : own_vi v10_193 v11_193) (q_j193 : (f0 p0 p1 p2 p3 p4) = (f0_193 p0 p1 p2 p3 p4 v9_132 v10_193 v11_193)), own_Fin p e below G (T117.setTop (mkF m 193 #[.val (.int p0), .val (.int p1), .val (.int p2), .val (.int p3), .val (.int p4), .val (.ref b1), .val (.ref b29), .val (.ref b69), .val (.ref b107), .val (.int v9_132), .val (.int v10_193), .val (.int v11_193), .unset] [])) := by
      intro v10_193 v11_193 jh0_193 q_j193
      refine own_to (fun _ kz => XS.iload X117.here hx rfl (hb hby at_193) rfl  kz) ?_
      show own_Fin p e below G (T117.setTop (mkF m 195 #[.val (.int p0), .val (.int p1), .val (.int p2), .val (.int p3), .val (.int p4), .val (.ref b1), .val (.ref b29), .val (.ref b69), .val (.ref b107), .val (.int v9_132), .val (.int v10_193), .val (.int v11_193), .unset] [(.int v10_193)]))
      refine own_to (fun _ kz => XS.iload X117.here hx rfl (hb hby at_195) rfl  kz) ?_
      show own_Fin p e below G (T117.setTop (mkF m 197 #[.val (.int p0), .val (.int p1), .val (.int p2), .val (.int p3), .val (.int p4), .val (.ref b1), .val (.ref b29), .val (.ref b69), .val (.ref b107), .val (.int v9_132), .val (.int v10_193), .val (.int v11_193), .unset] [(.int v11_193), (.int v10_193)]))
      refine own_to (fun _ kz => XS.iloadN X117.here hx rfl (hb hby at_197) rfl  kz) ?_
      show own_Fin p e below G (T117.setTop (mkF m 198 #[.val (.int p0), .val (.int p1), .val (.int p2), .val (.int p3), .val (.int p4), .val (.ref b1), .val (.ref b29), .val (.ref b69), .val (.ref b107), .val (.int v9_132), .val (.int v10_193), .val (.int v11_193), .unset] [(.int p0), (.int v11_193), (.int v10_193)]))
      refine own_to (fun _ kz => XS.iloadN X117.here hx rfl (hb hby at_198) rfl  kz) ?_
      show own_Fin p e below G (T117.setTop (mkF m 199 #[.val (.int p0), .val (.int p1), .val (.int p2), .val (.int p3), .val (.int p4), .val (.ref b1), .val (.ref b29), .val (.ref b69), .val (.ref b107), .val (.int v9_132), .val (.int v10_193), .val (.int v11_193), .unset] [(.int p1), (.int p0), (.int v11_193), (.int v10_193)]))
      refine own_to (fun _ kz => XS.iloadN X117.here hx rfl (hb hby at_199) rfl  kz) ?_
      show own_Fin p e below G (T117.setTop (mkF m 200 #[.val (.int p0), .val (.int p1), .val (.int p2), .val (.int p3), .val (.int p4), .val (.ref b1), .val (.ref b29), .val (.ref b69), .val (.ref b107), .val (.int v9_132), .val (.int v10_193), .val (.int v11_193), .unset] [(.int p2), (.int p1), (.int p0), (.int v11_193), (.int v10_193)]))
      refine own_to (fun _ kz => XS.iloadN X117.here hx rfl (hb hby at_200) rfl  kz) ?_
      show own_Fin p e below G (T117.setTop (mkF m 201 #[.val (.int p0), .val (.int p1), .val (.int p2), .val (.int p3), .val (.int p4), .val (.ref b1), .val (.ref b29), .val (.ref b69), .val (.ref b107), .val (.int v9_132), .val (.int v10_193), .val (.int v11_193), .unset] [(.int p3), (.int p2), (.int p1), (.int p0), (.int v11_193), (.int v10_193)]))
      have Zz_201_Kp117 := Nat.le_trans Z_117 Kp117.1
      have Z_201 : n0 ≤ T117.heap.size := Zz_201_Kp117
      obtain ⟨_, _, ⟨T201, L201, k201, n201⟩, -, X201, ⟨Lc201, hQ201, l201, y201, z201⟩, st201⟩ := Jvm.LawKit.callS X117 hx (y := (⟨"com/example/lanterns/lanterns/solvers/GraphEdgePinLaw", "expectedEdge", "(IIIIII)I"⟩ : MethodName)) hown (mvT hZ (hw _ (List.mem_of_getElem? (i := 17) rfl))) (mvT hZ (hw _ (List.mem_of_getElem? (i := 18) rfl))) (mvT hZ (hw _ (List.mem_of_getElem? (i := 19) rfl))) (mvT hZ (hw _ (List.mem_of_getElem? (i := 20) rfl))) (by decide) (backOf (W := 0) (rm3 l Z a0 hw [] v10_193 v11_193 p0 p1 p2 p3 T117.heap n0 Z_201) hZ (hw _ (List.mem_of_getElem? (i := 20) rfl)) (hw _ (List.mem_of_getElem? (i := 19) rfl)) (by decide) (by decide)) (g := (mkF m 201 #[.val (.int p0), .val (.int p1), .val (.int p2), .val (.int p3), .val (.int p4), .val (.ref b1), .val (.ref b29), .val (.ref b69), .val (.ref b107), .val (.int v9_132), .val (.int v10_193), .val (.int v11_193), .unset] [(.int p3), (.int p2), (.int p1), (.int p0), (.int v11_193), (.int v10_193)])) rfl (by rw [hml]; rfl) (argsL := [(.int v10_193), (.int v11_193), (.int p0), (.int p1), (.int p2), (.int p3)]) (rest := []) (lenOf own_pd1 rfl) rfl (by show 2 * 0 + _ ≤ _; exact Nat.le_of_eq rfl) (hb hby at_201) (fun _ _ => ⟨rfl, rfl, (by decide : 4 + 0 ≤ _), (by decide : 24 + 0 ≤ _)⟩)
      dsimp only [Pt.U, Pt.locs, Pt.cells, Pt.slots] at X201 l201 y201 z201 st201 hQ201
      subst l201 y201 z201
      obtain ⟨rfl, N201q, e201⟩ := hQ201
      obtain ⟨lo201, X201, N201⟩ : ∃ lo, Stand p l e _ s m _ below meth c T201 lo _ _ ∧ Fr n0 lo := ⟨_, X201, Fr.app N117 N201q⟩
      refine own_to st201 ?_
      show own_Fin p e below G (T201.setTop (mkF m 204 #[.val (.int p0), .val (.int p1), .val (.int p2), .val (.int p3), .val (.int p4), .val (.ref b1), .val (.ref b29), .val (.ref b69), .val (.ref b107), .val (.int v9_132), .val (.int v10_193), .val (.int v11_193), .unset] [(.int (f3 v10_193 v11_193 p0 p1 p2 p3))]))
      refine own_to (fun _ kz => XS.istore X201.here hx rfl (hb hby at_204) rfl (l' := #[.val (.int p0), .val (.int p1), .val (.int p2), .val (.int p3), .val (.int p4), .val (.ref b1), .val (.ref b29), .val (.ref b69), .val (.ref b107), .val (.int v9_132), .val (.int v10_193), .val (.int v11_193), .val (.int (f3 v10_193 v11_193 p0 p1 p2 p3))]) rfl kz) ?_
      show own_Fin p e below G (T201.setTop (mkF m 206 #[.val (.int p0), .val (.int p1), .val (.int p2), .val (.int p3), .val (.int p4), .val (.ref b1), .val (.ref b29), .val (.ref b69), .val (.ref b107), .val (.int v9_132), .val (.int v10_193), .val (.int v11_193), .val (.int (f3 v10_193 v11_193 p0 p1 p2 p3))] []))
      refine own_to (fun _ kz => XS.aload X201.here hx rfl (hb hby at_206) rfl (rfl)  kz) ?_
      show own_Fin p e below G (T201.setTop (mkF m 208 #[.val (.int p0), .val (.int p1), .val (.int p2), .val (.int p3), .val (.int p4), .val (.ref b1), .val (.ref b29), .val (.ref b69), .val (.ref b107), .val (.int v9_132), .val (.int v10_193), .val (.int v11_193), .val (.int (f3 v10_193 v11_193 p0 p1 p2 p3))] [(.ref b107)]))
      refine own_to (fun _ kz => XS.iload X201.here hx rfl (hb hby at_208) rfl  kz) ?_
      show own_Fin p e below G (T201.setTop (mkF m 210 #[.val (.int p0), .val (.int p1), .val (.int p2), .val (.int p3), .val (.int p4), .val (.ref b1), .val (.ref b29), .val (.ref b69), .val (.ref b107), .val (.int v9_132), .val (.int v10_193), .val (.int v11_193), .val (.int (f3 v10_193 v11_193 p0 p1 p2 p3))] [(.int v10_193), (.ref b107)]))
      refine own_to (fun _ kz => XS.iload X201.here hx rfl (hb hby at_210) rfl  kz) ?_
      show own_Fin p e below G (T201.setTop (mkF m 212 #[.val (.int p0), .val (.int p1), .val (.int p2), .val (.int p3), .val (.int p4), .val (.ref b1), .val (.ref b29), .val (.ref b69), .val (.ref b107), .val (.int v9_132), .val (.int v10_193), .val (.int v11_193), .val (.int (f3 v10_193 v11_193 p0 p1 p2 p3))] [(.int v11_193), (.int v10_193), (.ref b107)]))
      have V24_at_212 : own_AV Value.int Z T117.heap b1 .int 5 (own_upd (own_upd (own_upd (own_upd (own_upd (fun _ => (0 : Int32)) 0 (0 : Int32)) 1 (1 : Int32)) 2 (4 : Int32)) 3 (6 : Int32)) 4 (8 : Int32)) := ((((((((((((((((((((V24.ext E29).other W34 ne_b1_b29).other W38 ne_b1_b29).other W42 ne_b1_b29).other W46 ne_b1_b29).other W50 ne_b1_b29).other W54 ne_b1_b29).other W59 ne_b1_b29).other W64 ne_b1_b29).ext E69).other W74 ne_b1_b69).other W78 ne_b1_b69).other W82 ne_b1_b69).other W86 ne_b1_b69).other W90 ne_b1_b69).other W94 ne_b1_b69).other W99 ne_b1_b69).other W104 ne_b1_b69).ext E107).keep Kp117 (ninS ne_b1_b107 nin0))
      have V104_at_212 : own_AV Value.int Z T117.heap b69 .int 8 (own_upd (own_upd (own_upd (own_upd (own_upd (own_upd (own_upd (own_upd (fun _ => (0 : Int32)) 0 p0) 1 p0) 2 p1) 3 p2) 4 p1) 5 p3) 6 p3) 7 p2) := ((V104.ext E107).keep Kp117 (ninS ne_b69_b107 nin0))
      obtain ⟨cq212, kq212, qa212, qb212, qc212⟩ := isOf hZ e201 P117_0
      obtain ⟨_, _, ⟨T212, L212, k212, n212⟩, -, X212, ⟨Lc212, hQ212, l212, y212, z212⟩, st212⟩ := X201.virtualBack hx (y := (⟨"com/example/lanterns/lanterns/solvers/Graph", "edge", "(II)I"⟩ : MethodName)) (z := (⟨"com/example/lanterns/lanterns/solvers/Graph", "edge", "(II)I"⟩ : MethodName)) hown (mvT hZ (hw _ (List.mem_of_getElem? (i := 21) rfl))) (mvT hZ (hw _ (List.mem_of_getElem? (i := 22) rfl))) (notFace_of_selects (args := #[]) (mvT hZ (hw _ (List.mem_of_getElem? (i := 24) rfl)))) (mvT hZ (hw _ (List.mem_of_getElem? (i := 24) rfl))) (mvT hZ (hw _ (List.mem_of_getElem? (i := 23) rfl))) (by decide) (backOf (W := 0) (rm4 l Z a0 hw [] b107 v10_193 v11_193 5 (own_upd (own_upd (own_upd (own_upd (own_upd (fun _ => (0 : Int32)) 0 (0 : Int32)) 1 (1 : Int32)) 2 (4 : Int32)) 3 (6 : Int32)) 4 (8 : Int32)) 8 (own_upd (own_upd (own_upd (own_upd (own_upd (own_upd (own_upd (own_upd (fun _ => (0 : Int32)) 0 p0) 1 p0) 2 p1) 3 p2) 4 p1) 5 p3) 6 p3) 7 p2) b1 b69 T117.heap n0 Z_201 P117_1 V24_at_212 P117_3 V104_at_212 (by rcases jh0_193 with ⟨rfl, rfl⟩ | ⟨rfl, rfl | rfl | rfl⟩ | ⟨rfl, rfl | rfl⟩ | ⟨rfl, rfl | rfl⟩ <;> decide +kernel) (by rcases jh0_193 with ⟨rfl, rfl⟩ | ⟨rfl, rfl | rfl | rfl⟩ | ⟨rfl, rfl | rfl⟩ | ⟨rfl, rfl | rfl⟩ <;> decide +kernel) (by rcases jh0_193 with ⟨rfl, rfl⟩ | ⟨rfl, rfl | rfl | rfl⟩ | ⟨rfl, rfl | rfl⟩ | ⟨rfl, rfl | rfl⟩ <;> decide +kernel) (by rcases jh0_193 with ⟨rfl, rfl⟩ | ⟨rfl, rfl | rfl | rfl⟩ | ⟨rfl, rfl | rfl⟩ | ⟨rfl, rfl | rfl⟩ <;> decide +kernel)) hZ (hw _ (List.mem_of_getElem? (i := 25) rfl)) (hw _ (List.mem_of_getElem? (i := 3) rfl)) (by decide) (by decide)) qa212 qc212 (g := (mkF m 212 #[.val (.int p0), .val (.int p1), .val (.int p2), .val (.int p3), .val (.int p4), .val (.ref b1), .val (.ref b29), .val (.ref b69), .val (.ref b107), .val (.int v9_132), .val (.int v10_193), .val (.int v11_193), .val (.int (f3 v10_193 v11_193 p0 p1 p2 p3))] [(.int v11_193), (.int v10_193), (.ref b107)])) rfl (by rw [hml]; rfl) (Steps.refl _) (argsL := [(.int v10_193), (.int v11_193)]) (rest := []) (lenOf own_pd2 rfl) rfl (by show 2 * 0 + _ ≤ _; exact Nat.le_of_eq rfl) (hb hby at_212) (fun _ _ => ⟨rfl, e201, (by decide : 4 + 0 ≤ _), (by decide : 24 + 0 ≤ _)⟩)
      dsimp only [Pt.U, Pt.locs, Pt.cells, Pt.slots] at X212 l212 y212 z212 st212 hQ212
      subst l212 y212 z212
      obtain ⟨rfl, N212q, e212⟩ := hQ212
      obtain ⟨lo212, X212, N212⟩ : ∃ lo, Stand p l e _ s m _ below meth c T212 lo _ _ ∧ Fr n0 lo := ⟨_, X212, Fr.app N201 N212q⟩
      refine own_via st212 ?_
      show own_Fin p e below G (T212.setTop (mkF m 215 #[.val (.int p0), .val (.int p1), .val (.int p2), .val (.int p3), .val (.int p4), .val (.ref b1), .val (.ref b29), .val (.ref b69), .val (.ref b107), .val (.int v9_132), .val (.int v10_193), .val (.int v11_193), .val (.int (f3 v10_193 v11_193 p0 p1 p2 p3))] [(.int (f4 v10_193 v11_193 5 (own_upd (own_upd (own_upd (own_upd (own_upd (fun _ => (0 : Int32)) 0 (0 : Int32)) 1 (1 : Int32)) 2 (4 : Int32)) 3 (6 : Int32)) 4 (8 : Int32)) 8 (own_upd (own_upd (own_upd (own_upd (own_upd (own_upd (own_upd (own_upd (fun _ => (0 : Int32)) 0 p0) 1 p0) 2 p1) 3 p2) 4 p1) 5 p3) 6 p3) 7 p2)))]))
      refine own_to (fun _ kz => XS.iload X212.here hx rfl (hb hby at_215) rfl  kz) ?_
      show own_Fin p e below G (T212.setTop (mkF m 217 #[.val (.int p0), .val (.int p1), .val (.int p2), .val (.int p3), .val (.int p4), .val (.ref b1), .val (.ref b29), .val (.ref b69), .val (.ref b107), .val (.int v9_132), .val (.int v10_193), .val (.int v11_193), .val (.int (f3 v10_193 v11_193 p0 p1 p2 p3))] [(.int (f3 v10_193 v11_193 p0 p1 p2 p3)), (.int (f4 v10_193 v11_193 5 (own_upd (own_upd (own_upd (own_upd (own_upd (fun _ => (0 : Int32)) 0 (0 : Int32)) 1 (1 : Int32)) 2 (4 : Int32)) 3 (6 : Int32)) 4 (8 : Int32)) 8 (own_upd (own_upd (own_upd (own_upd (own_upd (own_upd (own_upd (own_upd (fun _ => (0 : Int32)) 0 p0) 1 p0) 2 p1) 3 p2) 4 p1) 5 p3) 6 p3) 7 p2)))]))
      by_cases hc217 : (f4 v10_193 v11_193 5 (own_upd (own_upd (own_upd (own_upd (own_upd (fun _ => (0 : Int32)) 0 (0 : Int32)) 1 (1 : Int32)) 2 (4 : Int32)) 3 (6 : Int32)) 4 (8 : Int32)) 8 (own_upd (own_upd (own_upd (own_upd (own_upd (own_upd (own_upd (own_upd (fun _ => (0 : Int32)) 0 p0) 1 p0) 2 p1) 3 p2) 4 p1) 5 p3) 6 p3) 7 p2)) = (f3 v10_193 v11_193 p0 p1 p2 p3)
      · refine own_to (fun _ kz => XS.icmpNo X212.here hx rfl (hb hby at_217) rfl (teq hc217).2 kz) ?_
        have q217t := q_j193.trans (if_pos hc217)
        show own_Fin p e below G (T212.setTop (mkF m 220 #[.val (.int p0), .val (.int p1), .val (.int p2), .val (.int p3), .val (.int p4), .val (.ref b1), .val (.ref b29), .val (.ref b69), .val (.ref b107), .val (.int v9_132), .val (.int v10_193), .val (.int v11_193), .val (.int (f3 v10_193 v11_193 p0 p1 p2 p3))] []))
        refine own_to (fun _ kz => XS.iconst X212.here hx rfl (hb hby at_220) kz) ?_
        show own_Fin p e below G (T212.setTop (mkF m 221 #[.val (.int p0), .val (.int p1), .val (.int p2), .val (.int p3), .val (.int p4), .val (.ref b1), .val (.ref b29), .val (.ref b69), .val (.ref b107), .val (.int v9_132), .val (.int v10_193), .val (.int v11_193), .val (.int (f3 v10_193 v11_193 p0 p1 p2 p3))] [(.int (1 : Int32))]))
        refine own_to (fun _ kz => XS.goto X212.here hx rfl (pc0 := 221) (pc' := 225) rfl (hb hby at_221) (by decide) (by decide) kz) ?_
        show own_Fin p e below G (T212.setTop (mkF m 225 #[.val (.int p0), .val (.int p1), .val (.int p2), .val (.int p3), .val (.int p4), .val (.ref b1), .val (.ref b29), .val (.ref b69), .val (.ref b107), .val (.int v9_132), .val (.int v10_193), .val (.int v11_193), .val (.int (f3 v10_193 v11_193 p0 p1 p2 p3))] [(.int (1 : Int32))]))
        exact own_retN X212 hx hlk hG (t := .boolean) Bd.returns (by simp) (hb hby at_225) (by decide) (by decide) (by rw [e212]; exact ⟨(congrArg (fun z => some (Value.int z)) q217t).symm, N212, trivial⟩)
      · refine own_to (fun _ kz => XS.icmpYes X212.here hx rfl (pc0 := 217) (pc' := 224) rfl (hb hby at_217) rfl (feq hc217).2 (by decide) (by decide) kz) ?_
        have q217f := q_j193.trans (if_neg hc217)
        show own_Fin p e below G (T212.setTop (mkF m 224 #[.val (.int p0), .val (.int p1), .val (.int p2), .val (.int p3), .val (.int p4), .val (.ref b1), .val (.ref b29), .val (.ref b69), .val (.ref b107), .val (.int v9_132), .val (.int v10_193), .val (.int v11_193), .val (.int (f3 v10_193 v11_193 p0 p1 p2 p3))] []))
        refine own_to (fun _ kz => XS.iconst X212.here hx rfl (hb hby at_224) kz) ?_
        show own_Fin p e below G (T212.setTop (mkF m 225 #[.val (.int p0), .val (.int p1), .val (.int p2), .val (.int p3), .val (.int p4), .val (.ref b1), .val (.ref b29), .val (.ref b69), .val (.ref b107), .val (.int v9_132), .val (.int v10_193), .val (.int v11_193), .val (.int (f3 v10_193 v11_193 p0 p1 p2 p3))] [(.int (0 : Int32))]))
        exact own_retN X212 hx hlk hG (t := .boolean) Bd.returns (by simp) (hb hby at_225) (by decide) (by decide) (by rw [e212]; exact ⟨(congrArg (fun z => some (Value.int z)) q217f).symm, N212, trivial⟩)
    by_cases hc134 : v9_132 = (0 : Int32)
    · refine own_to (fun _ kz => XS.ifNo X117.here hx rfl (hb hby at_134) rfl ((if0 _ _).trans (teq hc134).2) kz) ?_
      have q134t := q_j132.trans (if_pos hc134)
      show own_Fin p e below G (T117.setTop (mkF m 137 #[.val (.int p0), .val (.int p1), .val (.int p2), .val (.int p3), .val (.int p4), .val (.ref b1), .val (.ref b29), .val (.ref b69), .val (.ref b107), .val (.int v9_132), .unset, .unset, .unset] []))
      refine own_to (fun _ kz => XS.iconst X117.here hx rfl (hb hby at_137) kz) ?_
      show own_Fin p e below G (T117.setTop (mkF m 138 #[.val (.int p0), .val (.int p1), .val (.int p2), .val (.int p3), .val (.int p4), .val (.ref b1), .val (.ref b29), .val (.ref b69), .val (.ref b107), .val (.int v9_132), .unset, .unset, .unset] [(.int (0 : Int32))]))
      refine own_to (fun _ kz => XS.istore X117.here hx rfl (hb hby at_138) rfl (l' := #[.val (.int p0), .val (.int p1), .val (.int p2), .val (.int p3), .val (.int p4), .val (.ref b1), .val (.ref b29), .val (.ref b69), .val (.ref b107), .val (.int v9_132), .val (.int (0 : Int32)), .unset, .unset]) rfl kz) ?_
      show own_Fin p e below G (T117.setTop (mkF m 140 #[.val (.int p0), .val (.int p1), .val (.int p2), .val (.int p3), .val (.int p4), .val (.ref b1), .val (.ref b29), .val (.ref b69), .val (.ref b107), .val (.int v9_132), .val (.int (0 : Int32)), .unset, .unset] []))
      refine own_to (fun _ kz => XS.iconst X117.here hx rfl (hb hby at_140) kz) ?_
      show own_Fin p e below G (T117.setTop (mkF m 141 #[.val (.int p0), .val (.int p1), .val (.int p2), .val (.int p3), .val (.int p4), .val (.ref b1), .val (.ref b29), .val (.ref b69), .val (.ref b107), .val (.int v9_132), .val (.int (0 : Int32)), .unset, .unset] [(.int (0 : Int32))]))
      refine own_to (fun _ kz => XS.istore X117.here hx rfl (hb hby at_141) rfl (l' := #[.val (.int p0), .val (.int p1), .val (.int p2), .val (.int p3), .val (.int p4), .val (.ref b1), .val (.ref b29), .val (.ref b69), .val (.ref b107), .val (.int v9_132), .val (.int (0 : Int32)), .val (.int (0 : Int32)), .unset]) rfl kz) ?_
      show own_Fin p e below G (T117.setTop (mkF m 143 #[.val (.int p0), .val (.int p1), .val (.int p2), .val (.int p3), .val (.int p4), .val (.ref b1), .val (.ref b29), .val (.ref b69), .val (.ref b107), .val (.int v9_132), .val (.int (0 : Int32)), .val (.int (0 : Int32)), .unset] []))
      refine own_to (fun _ kz => XS.goto X117.here hx rfl (pc0 := 143) (pc' := 193) rfl (hb hby at_143) (by decide) (by decide) kz) ?_
      show own_Fin p e below G (T117.setTop (mkF m 193 #[.val (.int p0), .val (.int p1), .val (.int p2), .val (.int p3), .val (.int p4), .val (.ref b1), .val (.ref b29), .val (.ref b69), .val (.ref b107), .val (.int v9_132), .val (.int (0 : Int32)), .val (.int (0 : Int32)), .unset] []))
      exact K193 (0 : Int32) (0 : Int32) (Or.inl ⟨rfl, rfl⟩) q134t
    · refine own_to (fun _ kz => XS.ifYes X117.here hx rfl (pc0 := 134) (pc' := 146) rfl (hb hby at_134) rfl ((if0 _ _).trans (feq hc134).2) (by decide) (by decide) kz) ?_
      have q134f := q_j132.trans (if_neg hc134)
      show own_Fin p e below G (T117.setTop (mkF m 146 #[.val (.int p0), .val (.int p1), .val (.int p2), .val (.int p3), .val (.int p4), .val (.ref b1), .val (.ref b29), .val (.ref b69), .val (.ref b107), .val (.int v9_132), .unset, .unset, .unset] []))
      refine own_to (fun _ kz => XS.iload X117.here hx rfl (hb hby at_146) rfl  kz) ?_
      show own_Fin p e below G (T117.setTop (mkF m 148 #[.val (.int p0), .val (.int p1), .val (.int p2), .val (.int p3), .val (.int p4), .val (.ref b1), .val (.ref b29), .val (.ref b69), .val (.ref b107), .val (.int v9_132), .unset, .unset, .unset] [(.int v9_132)]))
      refine own_to (fun _ kz => XS.iconst X117.here hx rfl (hb hby at_148) kz) ?_
      show own_Fin p e below G (T117.setTop (mkF m 149 #[.val (.int p0), .val (.int p1), .val (.int p2), .val (.int p3), .val (.int p4), .val (.ref b1), .val (.ref b29), .val (.ref b69), .val (.ref b107), .val (.int v9_132), .unset, .unset, .unset] [(.int (4 : Int32)), (.int v9_132)]))
      by_cases hc149 : v9_132 < (4 : Int32)
      · refine own_to (fun _ kz => XS.icmpNo X117.here hx rfl (hb hby at_149) rfl (tlt hc149).2.1 kz) ?_
        have q149t := q134f.trans (if_pos hc149)
        show own_Fin p e below G (T117.setTop (mkF m 152 #[.val (.int p0), .val (.int p1), .val (.int p2), .val (.int p3), .val (.int p4), .val (.ref b1), .val (.ref b29), .val (.ref b69), .val (.ref b107), .val (.int v9_132), .unset, .unset, .unset] []))
        refine own_to (fun _ kz => XS.iconst X117.here hx rfl (hb hby at_152) kz) ?_
        show own_Fin p e below G (T117.setTop (mkF m 153 #[.val (.int p0), .val (.int p1), .val (.int p2), .val (.int p3), .val (.int p4), .val (.ref b1), .val (.ref b29), .val (.ref b69), .val (.ref b107), .val (.int v9_132), .unset, .unset, .unset] [(.int (1 : Int32))]))
        refine own_to (fun _ kz => XS.istore X117.here hx rfl (hb hby at_153) rfl (l' := #[.val (.int p0), .val (.int p1), .val (.int p2), .val (.int p3), .val (.int p4), .val (.ref b1), .val (.ref b29), .val (.ref b69), .val (.ref b107), .val (.int v9_132), .val (.int (1 : Int32)), .unset, .unset]) rfl kz) ?_
        show own_Fin p e below G (T117.setTop (mkF m 155 #[.val (.int p0), .val (.int p1), .val (.int p2), .val (.int p3), .val (.int p4), .val (.ref b1), .val (.ref b29), .val (.ref b69), .val (.ref b107), .val (.int v9_132), .val (.int (1 : Int32)), .unset, .unset] []))
        refine own_to (fun _ kz => XS.iload X117.here hx rfl (hb hby at_155) rfl  kz) ?_
        show own_Fin p e below G (T117.setTop (mkF m 157 #[.val (.int p0), .val (.int p1), .val (.int p2), .val (.int p3), .val (.int p4), .val (.ref b1), .val (.ref b29), .val (.ref b69), .val (.ref b107), .val (.int v9_132), .val (.int (1 : Int32)), .unset, .unset] [(.int v9_132)]))
        refine own_to (fun _ kz => XS.iconst X117.here hx rfl (hb hby at_157) kz) ?_
        show own_Fin p e below G (T117.setTop (mkF m 158 #[.val (.int p0), .val (.int p1), .val (.int p2), .val (.int p3), .val (.int p4), .val (.ref b1), .val (.ref b29), .val (.ref b69), .val (.ref b107), .val (.int v9_132), .val (.int (1 : Int32)), .unset, .unset] [(.int (1 : Int32)), (.int v9_132)]))
        refine own_to (fun _ kz => XS.isub X117.here hx rfl (hb hby at_158) rfl kz) ?_
        show own_Fin p e below G (T117.setTop (mkF m 159 #[.val (.int p0), .val (.int p1), .val (.int p2), .val (.int p3), .val (.int p4), .val (.ref b1), .val (.ref b29), .val (.ref b69), .val (.ref b107), .val (.int v9_132), .val (.int (1 : Int32)), .unset, .unset] [(.int (v9_132 - (1 : Int32)))]))
        refine own_to (fun _ kz => XS.istore X117.here hx rfl (hb hby at_159) rfl (l' := #[.val (.int p0), .val (.int p1), .val (.int p2), .val (.int p3), .val (.int p4), .val (.ref b1), .val (.ref b29), .val (.ref b69), .val (.ref b107), .val (.int v9_132), .val (.int (1 : Int32)), .val (.int (v9_132 - (1 : Int32))), .unset]) rfl kz) ?_
        show own_Fin p e below G (T117.setTop (mkF m 161 #[.val (.int p0), .val (.int p1), .val (.int p2), .val (.int p3), .val (.int p4), .val (.ref b1), .val (.ref b29), .val (.ref b69), .val (.ref b107), .val (.int v9_132), .val (.int (1 : Int32)), .val (.int (v9_132 - (1 : Int32))), .unset] []))
        refine own_to (fun _ kz => XS.goto X117.here hx rfl (pc0 := 161) (pc' := 193) rfl (hb hby at_161) (by decide) (by decide) kz) ?_
        show own_Fin p e below G (T117.setTop (mkF m 193 #[.val (.int p0), .val (.int p1), .val (.int p2), .val (.int p3), .val (.int p4), .val (.ref b1), .val (.ref b29), .val (.ref b69), .val (.ref b107), .val (.int v9_132), .val (.int (1 : Int32)), .val (.int (v9_132 - (1 : Int32))), .unset] []))
        exact K193 (1 : Int32) (v9_132 - (1 : Int32)) (own_v1 jh0_132 hc134 hc149) q149t
      · refine own_to (fun _ kz => XS.icmpYes X117.here hx rfl (pc0 := 149) (pc' := 164) rfl (hb hby at_149) rfl (flt hc149).2.1 (by decide) (by decide) kz) ?_
        have q149f := q134f.trans (if_neg hc149)
        show own_Fin p e below G (T117.setTop (mkF m 164 #[.val (.int p0), .val (.int p1), .val (.int p2), .val (.int p3), .val (.int p4), .val (.ref b1), .val (.ref b29), .val (.ref b69), .val (.ref b107), .val (.int v9_132), .unset, .unset, .unset] []))
        refine own_to (fun _ kz => XS.iload X117.here hx rfl (hb hby at_164) rfl  kz) ?_
        show own_Fin p e below G (T117.setTop (mkF m 166 #[.val (.int p0), .val (.int p1), .val (.int p2), .val (.int p3), .val (.int p4), .val (.ref b1), .val (.ref b29), .val (.ref b69), .val (.ref b107), .val (.int v9_132), .unset, .unset, .unset] [(.int v9_132)]))
        refine own_to (fun _ kz => XS.bipush X117.here hx rfl (hb hby at_166) kz) ?_
        show own_Fin p e below G (T117.setTop (mkF m 168 #[.val (.int p0), .val (.int p1), .val (.int p2), .val (.int p3), .val (.int p4), .val (.ref b1), .val (.ref b29), .val (.ref b69), .val (.ref b107), .val (.int v9_132), .unset, .unset, .unset] [(.int (6 : Int32)), (.int v9_132)]))
        by_cases hc168 : v9_132 < (6 : Int32)
        · refine own_to (fun _ kz => XS.icmpNo X117.here hx rfl (hb hby at_168) rfl (tlt hc168).2.1 kz) ?_
          have q168t := q149f.trans (if_pos hc168)
          show own_Fin p e below G (T117.setTop (mkF m 171 #[.val (.int p0), .val (.int p1), .val (.int p2), .val (.int p3), .val (.int p4), .val (.ref b1), .val (.ref b29), .val (.ref b69), .val (.ref b107), .val (.int v9_132), .unset, .unset, .unset] []))
          refine own_to (fun _ kz => XS.iconst X117.here hx rfl (hb hby at_171) kz) ?_
          show own_Fin p e below G (T117.setTop (mkF m 172 #[.val (.int p0), .val (.int p1), .val (.int p2), .val (.int p3), .val (.int p4), .val (.ref b1), .val (.ref b29), .val (.ref b69), .val (.ref b107), .val (.int v9_132), .unset, .unset, .unset] [(.int (2 : Int32))]))
          refine own_to (fun _ kz => XS.istore X117.here hx rfl (hb hby at_172) rfl (l' := #[.val (.int p0), .val (.int p1), .val (.int p2), .val (.int p3), .val (.int p4), .val (.ref b1), .val (.ref b29), .val (.ref b69), .val (.ref b107), .val (.int v9_132), .val (.int (2 : Int32)), .unset, .unset]) rfl kz) ?_
          show own_Fin p e below G (T117.setTop (mkF m 174 #[.val (.int p0), .val (.int p1), .val (.int p2), .val (.int p3), .val (.int p4), .val (.ref b1), .val (.ref b29), .val (.ref b69), .val (.ref b107), .val (.int v9_132), .val (.int (2 : Int32)), .unset, .unset] []))
          refine own_to (fun _ kz => XS.iload X117.here hx rfl (hb hby at_174) rfl  kz) ?_
          show own_Fin p e below G (T117.setTop (mkF m 176 #[.val (.int p0), .val (.int p1), .val (.int p2), .val (.int p3), .val (.int p4), .val (.ref b1), .val (.ref b29), .val (.ref b69), .val (.ref b107), .val (.int v9_132), .val (.int (2 : Int32)), .unset, .unset] [(.int v9_132)]))
          refine own_to (fun _ kz => XS.iconst X117.here hx rfl (hb hby at_176) kz) ?_
          show own_Fin p e below G (T117.setTop (mkF m 177 #[.val (.int p0), .val (.int p1), .val (.int p2), .val (.int p3), .val (.int p4), .val (.ref b1), .val (.ref b29), .val (.ref b69), .val (.ref b107), .val (.int v9_132), .val (.int (2 : Int32)), .unset, .unset] [(.int (4 : Int32)), (.int v9_132)]))
          refine own_to (fun _ kz => XS.isub X117.here hx rfl (hb hby at_177) rfl kz) ?_
          show own_Fin p e below G (T117.setTop (mkF m 178 #[.val (.int p0), .val (.int p1), .val (.int p2), .val (.int p3), .val (.int p4), .val (.ref b1), .val (.ref b29), .val (.ref b69), .val (.ref b107), .val (.int v9_132), .val (.int (2 : Int32)), .unset, .unset] [(.int (v9_132 - (4 : Int32)))]))
          refine own_to (fun _ kz => XS.istore X117.here hx rfl (hb hby at_178) rfl (l' := #[.val (.int p0), .val (.int p1), .val (.int p2), .val (.int p3), .val (.int p4), .val (.ref b1), .val (.ref b29), .val (.ref b69), .val (.ref b107), .val (.int v9_132), .val (.int (2 : Int32)), .val (.int (v9_132 - (4 : Int32))), .unset]) rfl kz) ?_
          show own_Fin p e below G (T117.setTop (mkF m 180 #[.val (.int p0), .val (.int p1), .val (.int p2), .val (.int p3), .val (.int p4), .val (.ref b1), .val (.ref b29), .val (.ref b69), .val (.ref b107), .val (.int v9_132), .val (.int (2 : Int32)), .val (.int (v9_132 - (4 : Int32))), .unset] []))
          refine own_to (fun _ kz => XS.goto X117.here hx rfl (pc0 := 180) (pc' := 193) rfl (hb hby at_180) (by decide) (by decide) kz) ?_
          show own_Fin p e below G (T117.setTop (mkF m 193 #[.val (.int p0), .val (.int p1), .val (.int p2), .val (.int p3), .val (.int p4), .val (.ref b1), .val (.ref b29), .val (.ref b69), .val (.ref b107), .val (.int v9_132), .val (.int (2 : Int32)), .val (.int (v9_132 - (4 : Int32))), .unset] []))
          exact K193 (2 : Int32) (v9_132 - (4 : Int32)) (own_v2 jh0_132 hc149 hc168) q168t
        · refine own_to (fun _ kz => XS.icmpYes X117.here hx rfl (pc0 := 168) (pc' := 183) rfl (hb hby at_168) rfl (flt hc168).2.1 (by decide) (by decide) kz) ?_
          have q168f := q149f.trans (if_neg hc168)
          show own_Fin p e below G (T117.setTop (mkF m 183 #[.val (.int p0), .val (.int p1), .val (.int p2), .val (.int p3), .val (.int p4), .val (.ref b1), .val (.ref b29), .val (.ref b69), .val (.ref b107), .val (.int v9_132), .unset, .unset, .unset] []))
          refine own_to (fun _ kz => XS.iconst X117.here hx rfl (hb hby at_183) kz) ?_
          show own_Fin p e below G (T117.setTop (mkF m 184 #[.val (.int p0), .val (.int p1), .val (.int p2), .val (.int p3), .val (.int p4), .val (.ref b1), .val (.ref b29), .val (.ref b69), .val (.ref b107), .val (.int v9_132), .unset, .unset, .unset] [(.int (3 : Int32))]))
          refine own_to (fun _ kz => XS.istore X117.here hx rfl (hb hby at_184) rfl (l' := #[.val (.int p0), .val (.int p1), .val (.int p2), .val (.int p3), .val (.int p4), .val (.ref b1), .val (.ref b29), .val (.ref b69), .val (.ref b107), .val (.int v9_132), .val (.int (3 : Int32)), .unset, .unset]) rfl kz) ?_
          show own_Fin p e below G (T117.setTop (mkF m 186 #[.val (.int p0), .val (.int p1), .val (.int p2), .val (.int p3), .val (.int p4), .val (.ref b1), .val (.ref b29), .val (.ref b69), .val (.ref b107), .val (.int v9_132), .val (.int (3 : Int32)), .unset, .unset] []))
          refine own_to (fun _ kz => XS.iload X117.here hx rfl (hb hby at_186) rfl  kz) ?_
          show own_Fin p e below G (T117.setTop (mkF m 188 #[.val (.int p0), .val (.int p1), .val (.int p2), .val (.int p3), .val (.int p4), .val (.ref b1), .val (.ref b29), .val (.ref b69), .val (.ref b107), .val (.int v9_132), .val (.int (3 : Int32)), .unset, .unset] [(.int v9_132)]))
          refine own_to (fun _ kz => XS.bipush X117.here hx rfl (hb hby at_188) kz) ?_
          show own_Fin p e below G (T117.setTop (mkF m 190 #[.val (.int p0), .val (.int p1), .val (.int p2), .val (.int p3), .val (.int p4), .val (.ref b1), .val (.ref b29), .val (.ref b69), .val (.ref b107), .val (.int v9_132), .val (.int (3 : Int32)), .unset, .unset] [(.int (6 : Int32)), (.int v9_132)]))
          refine own_to (fun _ kz => XS.isub X117.here hx rfl (hb hby at_190) rfl kz) ?_
          show own_Fin p e below G (T117.setTop (mkF m 191 #[.val (.int p0), .val (.int p1), .val (.int p2), .val (.int p3), .val (.int p4), .val (.ref b1), .val (.ref b29), .val (.ref b69), .val (.ref b107), .val (.int v9_132), .val (.int (3 : Int32)), .unset, .unset] [(.int (v9_132 - (6 : Int32)))]))
          refine own_to (fun _ kz => XS.istore X117.here hx rfl (hb hby at_191) rfl (l' := #[.val (.int p0), .val (.int p1), .val (.int p2), .val (.int p3), .val (.int p4), .val (.ref b1), .val (.ref b29), .val (.ref b69), .val (.ref b107), .val (.int v9_132), .val (.int (3 : Int32)), .val (.int (v9_132 - (6 : Int32))), .unset]) rfl kz) ?_
          show own_Fin p e below G (T117.setTop (mkF m 193 #[.val (.int p0), .val (.int p1), .val (.int p2), .val (.int p3), .val (.int p4), .val (.ref b1), .val (.ref b29), .val (.ref b69), .val (.ref b107), .val (.int v9_132), .val (.int (3 : Int32)), .val (.int (v9_132 - (6 : Int32))), .unset] []))
          exact K193 (3 : Int32) (v9_132 - (6 : Int32)) (own_v3 jh0_132 hc168) q168f
  exact K132 ((p4 &&& (2147483647 : Int32)) % (8 : Int32)) (own_rem8 _) q0
theorem own_end (a b c d e v9 v i : Int32) (h : own_vi v i) : f0_193 a b c d e v9 v i = 1 := by
  rcases h with ⟨rfl, rfl⟩ | ⟨rfl, rfl | rfl | rfl⟩ | ⟨rfl, rfl | rfl⟩ | ⟨rfl, rfl | rfl⟩ <;> simp [f0_132, f0_193, f0, f4, f3, own_upd]
theorem own_plain (a b c d e : Int32) : f0 a b c d e = 1 := by
  have h := own_rem8 e
  unfold f0 f0_132
  split
  · exact own_end _ _ _ _ _ _ _ _ (Or.inl ⟨rfl, rfl⟩)
  · split
    · exact own_end _ _ _ _ _ _ _ _ (own_v1 h (by assumption) (by assumption))
    · split
      · exact own_end _ _ _ _ _ _ _ _ (own_v2 h (by assumption) (by assumption))
      · exact own_end _ _ _ _ _ _ _ _ (own_v3 h (by assumption))
set_option maxRecDepth 65536 in
set_option maxHeartbeats 40000000 in
theorem comes_1 {Post : Tables → Env → Array Value → State → Outcome → State → Prop} (hpost : ∀ tb e args s v u, (limb_1_1.after args s (.returned v) u = true ∧ limb_1_2.after args s (.returned v) u = true ∧ True) → FrameEnd s (.returned v) u (Jvm.fieldLocs frame_1_writes args s ++ Jvm.arrayLocs frame_1_arrays args s ++ Jvm.staticLocs frame_1_statics s) 16 128 → Post tb e args s (.returned v) u) :
    ArmFor flags0 classFile x code maxLocals ret World_1 tables_1 room_1 Calls_1 rest_1 Pre_1 Post := by
  intro l hfl _ _ p e ha hc hk s m args below hf hA hF happ hP
  obtain ⟨hcalls, hrest, hpre⟩ := hP
  obtain ⟨-, -, -, hnamed, -, -, -, hat⟩ := (Spec.applies_iff hf).mp happ
  obtain ⟨hg, hn⟩ := and_e (Cond.before_iff.mp (show (Jvm.Cond.and given_1 narrow_1).before args s = true from hpre))
  obtain ⟨gg1, gg2⟩ := and_e hg
  obtain ⟨gg3, gg4⟩ := and_e gg2
  obtain ⟨gg5, gg6⟩ := and_e gg4
  obtain ⟨gg7, gg8⟩ := and_e gg6
  obtain ⟨gg9, gg10⟩ := and_e gg8
  obtain ⟨w0, w1, w2, w3, w4, rfl⟩ : ∃ w0 w1 w2 w3 w4 : Value, args = #[w0, w1, w2, w3, w4] := by
    have hs : args.size = 5 := by simpa [Cond.value, given_1] using gg1
    obtain ⟨L⟩ := args
    match L, hs with
    | [w0, w1, w2, w3, w4], _ => exact ⟨w0, w1, w2, w3, w4, rfl⟩
  have hw := fun d (hd : d ∈ tables_1) => atoms_spec (ws := Jvm.Cond.code x code maxLocals ret :: tables_1) hat d (List.mem_cons_of_mem _ hd)
  obtain ⟨i0, ei0⟩ := is_v gg3
  obtain rfl : w0 = (.int i0) := Option.some.inj ei0
  obtain ⟨i1, ei1⟩ := is_v gg5
  obtain rfl : w1 = (.int i1) := Option.some.inj ei1
  obtain ⟨i2, ei2⟩ := is_v gg7
  obtain rfl : w2 = (.int i2) := Option.some.inj ei2
  obtain ⟨i3, ei3⟩ := is_v gg9
  obtain rfl : w3 = (.int i3) := Option.some.inj ei3
  obtain ⟨i4, ei4⟩ := is_v gg10
  obtain rfl : w4 = (.int i4) := Option.some.inj ei4
  obtain ⟨n, o, h1, h2, h3, v, L, rfl, ⟨hv, N, -⟩, hq⟩ := rm0 l s _ hw tables_1 i0 i1 i2 i3 i4 s.heap s.heap.size (Nat.le_refl _) p e ha hc hk s m _ below hf ((Spec.applies_iff_loose hf).mp happ).1 ⟨rfl, State.Warmed39.refl s, rfl⟩ trivial
  obtain rfl : v = some (.int 1) := hv.trans (congrArg (fun z => some (Value.int z)) (own_plain i0 i1 i2 i3 i4))
  refine ⟨n, _, h1, h2, h3, hpost _ _ _ _ _ _ ⟨Cond.after_iff.mpr rfl, Cond.after_iff.mpr (eq_i res_at (Term.int_eval (1)) rfl), trivial⟩ ⟨hq.1, hq.2.1, (hq.2.2.sift fun y hy => Or.inr (N y hy)).mono (by decide) (by decide)⟩⟩
theorem main_1_1 : Claimed_1_1 := comes_1 fun _ _ _ _ _ _ h hF => ⟨h.1, hF⟩
theorem main_1_2 : Claimed_1_2 := comes_1 fun _ _ _ _ _ _ h hF => ⟨h.2.1, hF⟩
end Jvm.Pilot.@@N@@
namespace Jvm.Pilot.@@N@@
open Jvm Jvm.ClassFile Sem Op Lib Jvm.Free Jvm.Stand Jvm.Pilot.@@N@@.Jvm.D
/-! MADE BY PROGRAM (witnessworld.py) out of the Statement's table words and the real class files: 9 classes; the members and pool entries that the words name. The judged class is class 1, her method 1. -/
namespace start1
open Jvm.ClassFile
def u (s : String) : CpInfo := .utf8 (stringToUtf16 s)
/-- a pool by its gaps: so many unusable entries, then the entry; so many at the end -/
def gap : Nat → List CpInfo → List CpInfo
  | 0, r => r
  | n + 1, r => .unusable :: gap n r
def poolList (es : List (Nat × CpInfo)) (last : Nat) : List CpInfo := es.foldr (fun e r => gap e.1 (e.2 :: r)) (gap last [])
def pool (es : List (Nat × CpInfo)) (last : Nat) : Array CpInfo := ⟨poolList es last⟩
def fileOf (pool : Array CpInfo) (this : Nat) (attrs : Array Attribute := #[]) (ms : Array MethodInfo := #[]) (fl : Nat := 33) (sup : Nat := 0) (ifs : Array Nat := #[]) (fds : Array FieldInfo := #[]) : ClassFile where
  minorVersion := 0
  majorVersion := 65
  constantPool := pool
  accessFlags := fl
  thisClass := this
  superClass := sup
  interfaces := ifs
  fields := fds
  methods := ms
  attributes := attrs
def plain (name : String) (sup : Option ClassId) : Class where
  name := name
  kind := .ordinary
  loader := none
  accessFlags := 33
  super := sup
  interfaces := #[]
  cf := none
  fields := #[]
  methods := #[]
  instanceTypes := #[]
  staticTypes := #[]
  resolved := #[]
  callSites := []
  init := .initialized
  statics := none
  mirror := none

def pool0 : Array CpInfo := pool [(5, u "<init>"), (0, u "()V"), (1, .class_ 10), (1, u "java/lang/Object")] 113

def k0c0 : Code := { maxStack := 0, maxLocals := 1, code := object_method_1_code, exceptionTable := #[], attributes := #[] }
def k0m0 : Method := { name := "<init>", desc := "()V", sig := { parameters := [], returnType := none }, accessFlags := 1, code := some k0c0 }
/-- java/lang/Object -/
def k0 : Class := { plain "java/lang/Object" none with
  accessFlags := 33
  interfaces := #[]
  cf := some (fileOf pool0 8 #[] #[{ accessFlags := 1, nameIndex := 5, descriptorIndex := 6, attributes := #[] }] 33 0 #[] #[])
  fields := #[]
  methods := #[k0m0]
  instanceTypes := #[]
  staticTypes := #[]
  resolved := Array.replicate 124 none
  statics := none }

def pool1 : Array CpInfo := pool [(2, .class_ 4), (1, u "java/lang/Object"), (0, u "<init>"), (0, u "()V"), (0, .class_ 8), (0, u "com/example/lanterns/lanterns/solvers/Graph"), (0, .methodref 7 10), (0, .nameAndType 5 11), (0, u "([I[I[I)V"), (0, .integer 2147483647), (0, .methodref 14 15), (0, .class_ 16), (0, .nameAndType 17 18), (0, u "com/example/lanterns/lanterns/solvers/GraphEdgePinLaw"), (0, u "expectedEdge"), (0, u "(IIIIII)I"), (0, .methodref 7 20), (0, .nameAndType 21 22), (0, u "edge"), (0, u "(II)I"), (2, u "law"), (0, u "(IIIII)Z")] 5

def k1m0 : Method := { name := "<init>", desc := "()V", sig := { parameters := [], returnType := none }, accessFlags := 1, code := none }
def k1c1 : Code := { maxStack := 6, maxLocals := 13, code := code, exceptionTable := #[], attributes := #[] }
def k1m1 : Method := { name := "law", desc := "(IIIII)Z", sig := { parameters := [.int, .int, .int, .int, .int], returnType := some .boolean }, accessFlags := 9, code := some k1c1 }
def k1c2 : Code := { maxStack := 2, maxLocals := 6, code := method_3_code, exceptionTable := #[], attributes := #[] }
def k1m2 : Method := { name := "expectedEdge", desc := "(IIIIII)I", sig := { parameters := [.int, .int, .int, .int, .int, .int], returnType := some .int }, accessFlags := 10, code := some k1c2 }
/-- com/example/lanterns/lanterns/solvers/GraphEdgePinLaw -/
def k1 : Class := { plain "com/example/lanterns/lanterns/solvers/GraphEdgePinLaw" (some 0) with
  accessFlags := 49
  interfaces := #[]
  cf := some (fileOf pool1 14 #[] #[{ accessFlags := 1, nameIndex := 5, descriptorIndex := 6, attributes := #[] }, { accessFlags := 9, nameIndex := 25, descriptorIndex := 26, attributes := #[] }, { accessFlags := 10, nameIndex := 17, descriptorIndex := 18, attributes := #[] }] 49 2 #[] #[])
  fields := #[]
  methods := #[k1m0, k1m1, k1m2]
  instanceTypes := #[]
  staticTypes := #[]
  resolved := Array.replicate 32 none
  statics := none }

def pool2 : Array CpInfo := pool [(1, .methodref 2 3), (0, .class_ 4), (0, .nameAndType 5 6), (0, u "java/lang/Object"), (0, u "<init>"), (0, u "()V"), (0, .fieldref 8 9), (0, .class_ 10), (0, .nameAndType 11 12), (0, u "com/example/lanterns/lanterns/solvers/Graph"), (0, u "start"), (0, u "[I"), (0, .fieldref 8 14), (0, .nameAndType 15 12), (0, u "neighbours"), (0, .fieldref 8 17), (0, .nameAndType 18 12), (0, u "edges"), (14, u "([I[I[I)V"), (15, u "(II)I"), (3, u "UNMATCHED"), (0, u "I"), (14, u "edge")] 3

def k2c0 : Code := { maxStack := 2, maxLocals := 4, code := prog_24_method_1_code, exceptionTable := #[], attributes := #[] }
def k2m0 : Method := { name := "<init>", desc := "([I[I[I)V", sig := { parameters := [(.array .int), (.array .int), (.array .int)], returnType := none }, accessFlags := 0, code := some k2c0 }
def k2c1 : Code := { maxStack := 3, maxLocals := 3, code := prog_24_method_11_code, exceptionTable := #[], attributes := #[] }
def k2m1 : Method := { name := "edge", desc := "(II)I", sig := { parameters := [.int, .int], returnType := some .int }, accessFlags := 0, code := some k2c1 }
/-- com/example/lanterns/lanterns/solvers/Graph -/
def k2 : Class := { plain "com/example/lanterns/lanterns/solvers/Graph" (some 0) with
  accessFlags := 48
  interfaces := #[]
  cf := some (fileOf pool2 8 #[] #[{ accessFlags := 0, nameIndex := 5, descriptorIndex := 33, attributes := #[] }, { accessFlags := 0, nameIndex := 69, descriptorIndex := 49, attributes := #[] }] 48 2 #[] #[{ accessFlags := 26, nameIndex := 53, descriptorIndex := 54, attributes := #[] }, { accessFlags := 18, nameIndex := 11, descriptorIndex := 12, attributes := #[] }, { accessFlags := 18, nameIndex := 15, descriptorIndex := 12, attributes := #[] }, { accessFlags := 18, nameIndex := 18, descriptorIndex := 12, attributes := #[] }])
  fields := #[{ name := "UNMATCHED", type := .int, accessFlags := 26, slot := 0, constantValue := 0 }, { name := "start", type := (.array .int), accessFlags := 18, slot := 0, constantValue := 0 }, { name := "neighbours", type := (.array .int), accessFlags := 18, slot := 1, constantValue := 0 }, { name := "edges", type := (.array .int), accessFlags := 18, slot := 2, constantValue := 0 }]
  methods := #[k2m0, k2m1]
  instanceTypes := #[(.array .int), (.array .int), (.array .int)]
  staticTypes := #[.int]
  resolved := Array.replicate 73 none
  statics := none }

def pool3 : Array CpInfo := pool [(1, u "java/lang/Cloneable"), (0, .class_ 1), (0, u "java/lang/Object"), (0, .class_ 3)] 3

/-- java/lang/Cloneable -/
def k3 : Class := { plain "java/lang/Cloneable" (some 0) with
  accessFlags := 1537
  interfaces := #[]
  cf := some (fileOf pool3 2 #[] #[] 1537 4 #[] #[])
  fields := #[]
  methods := #[]
  instanceTypes := #[]
  staticTypes := #[]
  resolved := Array.replicate 8 none
  statics := none }

def pool4 : Array CpInfo := pool [(1, u "java/io/Serializable"), (0, .class_ 1), (0, u "java/lang/Object"), (0, .class_ 3)] 3

/-- java/io/Serializable -/
def k4 : Class := { plain "java/io/Serializable" (some 0) with
  accessFlags := 1537
  interfaces := #[]
  cf := some (fileOf pool4 2 #[] #[] 1537 4 #[] #[])
  fields := #[]
  methods := #[]
  instanceTypes := #[]
  staticTypes := #[]
  resolved := Array.replicate 8 none
  statics := none }

/-- the primitive byte -/
def k5 : Class := { plain "byte" none with kind := .primitive 'B', accessFlags := 0x411 }
/-- [B -/
def k6 : Class := { plain "[B" (some 0) with kind := .array 5 .byte, interfaces := #[3, 4], accessFlags := 1041 }

/-- the primitive int -/
def k7 : Class := { plain "int" none with kind := .primitive 'I', accessFlags := 0x411 }
/-- [I -/
def k8 : Class := { plain "[I" (some 0) with kind := .array 7 .int, interfaces := #[3, 4], accessFlags := 1041 }

def heap : Heap := #[]
def classes : Array Class := #[k0, k1, k2, k3, k4, k5, k6, k7, k8]
def interned : List (Array UInt16 × Addr) := []
def slotsUsed : Nat := 0
def theMethod : MethodId := ⟨1, 1⟩
def args0 : Array Value := #[.int 5, .int 6, .int 7, .int 8, .int 9]
def aboutOver (below : List Frame) : State where
  vm := { classes := classes, interned := interned.toArray }
  heap := heap
  slotsUsed := slotsUsed
  threads := #[{ frames := .invoking theMethod args0 :: below }]
def below0 : List Frame := [.native { method := ⟨0, 0⟩, args := #[] }]
def about1 : State := aboutOver below0
def p0 : Program := .bare "" "" ""
def e0 : Env := launch0.env 0 0 0
theorem w_frames : about1.frames = Frame.invoking theMethod args0 :: below0 := rfl
set_option maxRecDepth 65536 in
theorem w_args : argsFit about1.vm theMethod args0 = true := by decide +kernel
set_option maxRecDepth 65536 in
theorem w_heap : heapFits about1 = true := by decide +kernel
set_option maxRecDepth 65536 in
theorem w_runnable : about1.curStatus? = some .runnable := by decide +kernel
set_option maxRecDepth 65536 in
theorem w_alone : about1.alone = true := by decide +kernel
set_option maxRecDepth 65536 in
theorem w_named : about1.methodNamed? x = some theMethod := by decide +kernel
set_option maxRecDepth 65536 in
theorem w_hears : about1.hears theMethod below0 = true := by decide +kernel
set_option maxRecDepth 65536 in
theorem w_ripe : about1.ripe theMethod args0 below0 = true := by decide +kernel
theorem w_running : about1.status = .running := rfl
set_option maxRecDepth 65536 in
theorem w_room : about1.hasRoom e0.platform room_1 = true :=
  launch0.hasRoom_least _ room_1 (by decide +kernel) (by decide +kernel) (by decide +kernel) (by decide +kernel) (by decide +kernel) (by decide +kernel)
theorem allAtoms_all (ts : List Jvm.Cond) (a : Array Jvm.Value) (st : Jvm.State) : (allAtoms ts).before a st = ts.all (fun c => c.before a st) := by
  induction ts with
  | nil => rfl
  | cons c t ih =>
    show (Jvm.Cond.and c (allAtoms t)).before a st = _
    rw [Jvm.Cond.before_and, ih, List.all_cons]
def words1 : List Jvm.Cond := Jvm.Cond.code x code maxLocals ret :: tables_1
/-- a 'code' word, met by the world's own term for the bytes: nothing is compared byte by byte -/
theorem code_word {y : MethodName} {bytes : ByteArray} {mx : Nat} {rt : Option FieldType} {a : Array Value} {s : State} {m : MethodId} {meth : Method} {c : Code} (h1 : s.methodNamed? y = some m) (h2 : s.vm.method? m = some meth) (h3 : meth.code = some c) (h4 : c.code = bytes)
    (h5 : (c.maxLocals == mx && c.exceptionTable.isEmpty && decide (c.maxStack ≤ mostOperands) && decide (meth.sig.returnType = rt) && !meth.locks && decide (parseMethodDescriptor y.desc = some meth.sig)) = true) : (Jvm.Cond.code y bytes mx rt).before a s = true := by
  simp only [Bool.and_eq_true, beq_iff_eq, Bool.not_eq_true', decide_eq_true_eq] at h5
  obtain ⟨⟨⟨⟨⟨g1, g2⟩, g3⟩, g4⟩, g5⟩, g6⟩ := h5
  simp [Cond.before, Cond.holds, Cond.value, h1, h2, h3, h4, g1, g2, g3, g4, g5, g6]
def isCode : Jvm.Cond → Bool
  | .code _ _ _ _ => true
  | _ => false
theorem all_split {L : List Jvm.Cond} {P : Jvm.Cond → Bool} (h1 : L.all (fun c => isCode c || P c) = true) (h2 : ∀ c ∈ L.filter isCode, P c = true) : L.all P = true := by
  refine List.all_eq_true.mpr fun c hc => ?_
  have h := List.all_eq_true.mp h1 c hc
  rcases Bool.eq_false_or_eq_true (isCode c) with hi | hi
  · exact h2 c (List.mem_filter.mpr ⟨hc, hi⟩)
  · simpa [hi] using h
set_option maxRecDepth 65536 in
theorem w_c0 : (Jvm.Cond.code x code maxLocals ret).before args0 about1 = true := code_word (m := ⟨1, 1⟩) (meth := k1m1) (c := k1c1) (by decide +kernel) rfl rfl rfl (by decide +kernel)
set_option maxRecDepth 65536 in
theorem w_c1 : (Jvm.Cond.code ({ cls := "com/example/lanterns/lanterns/solvers/Graph", name := "<init>", desc := "([I[I[I)V" } : Jvm.MethodName) prog_24_method_1_code (4 : Nat) (Option.none : Option Jvm.ClassFile.FieldType)).before args0 about1 = true := code_word (m := ⟨2, 0⟩) (meth := k2m0) (c := k2c0) (by decide +kernel) rfl rfl rfl (by decide +kernel)
set_option maxRecDepth 65536 in
theorem w_c2 : (Jvm.Cond.code ({ cls := "java/lang/Object", name := "<init>", desc := "()V" } : Jvm.MethodName) object_method_1_code (1 : Nat) (Option.none : Option Jvm.ClassFile.FieldType)).before args0 about1 = true := code_word (m := ⟨0, 0⟩) (meth := k0m0) (c := k0c0) (by decide +kernel) rfl rfl rfl (by decide +kernel)
set_option maxRecDepth 65536 in
theorem w_c3 : (Jvm.Cond.code ({ cls := "com/example/lanterns/lanterns/solvers/GraphEdgePinLaw", name := "expectedEdge", desc := "(IIIIII)I" } : Jvm.MethodName) method_3_code (6 : Nat) (Option.some Jvm.ClassFile.FieldType.int)).before args0 about1 = true := code_word (m := ⟨1, 2⟩) (meth := k1m2) (c := k1c2) (by decide +kernel) rfl rfl rfl (by decide +kernel)
set_option maxRecDepth 65536 in
theorem w_c4 : (Jvm.Cond.code ({ cls := "com/example/lanterns/lanterns/solvers/Graph", name := "edge", desc := "(II)I" } : Jvm.MethodName) prog_24_method_11_code (3 : Nat) (Option.some Jvm.ClassFile.FieldType.int)).before args0 about1 = true := code_word (m := ⟨2, 1⟩) (meth := k2m1) (c := k2c1) (by decide +kernel) rfl rfl rfl (by decide +kernel)
def codes1 : List Jvm.Cond := [Jvm.Cond.code x code maxLocals ret, Jvm.Cond.code ({ cls := "com/example/lanterns/lanterns/solvers/Graph", name := "<init>", desc := "([I[I[I)V" } : Jvm.MethodName) prog_24_method_1_code (4 : Nat) (Option.none : Option Jvm.ClassFile.FieldType), Jvm.Cond.code ({ cls := "java/lang/Object", name := "<init>", desc := "()V" } : Jvm.MethodName) object_method_1_code (1 : Nat) (Option.none : Option Jvm.ClassFile.FieldType), Jvm.Cond.code ({ cls := "com/example/lanterns/lanterns/solvers/GraphEdgePinLaw", name := "expectedEdge", desc := "(IIIIII)I" } : Jvm.MethodName) method_3_code (6 : Nat) (Option.some Jvm.ClassFile.FieldType.int), Jvm.Cond.code ({ cls := "com/example/lanterns/lanterns/solvers/Graph", name := "edge", desc := "(II)I" } : Jvm.MethodName) prog_24_method_11_code (3 : Nat) (Option.some Jvm.ClassFile.FieldType.int)]
set_option maxRecDepth 65536 in
theorem codes_eq : words1.filter isCode = codes1 := rfl
theorem w_codes : ∀ c ∈ words1.filter isCode, c.before args0 about1 = true := by
  rw [codes_eq]
  intro c hc
  simp only [codes1, List.mem_cons, List.not_mem_nil, or_false] at hc
  rcases hc with rfl | rfl | rfl | rfl | rfl
  · exact w_c0
  · exact w_c1
  · exact w_c2
  · exact w_c3
  · exact w_c4
set_option maxRecDepth 65536 in
theorem w_t1 : (words1.take 24).all (fun c => isCode c || c.before args0 about1) = true := by decide +kernel
set_option maxRecDepth 65536 in
theorem w_t2 : (words1.drop 24).all (fun c => isCode c || c.before args0 about1) = true := by decide +kernel
theorem w_tables : (allAtoms (Jvm.Cond.code x code maxLocals ret :: tables_1)).before args0 about1 = true := by
  rw [allAtoms_all]
  show words1.all (fun c => c.before args0 about1) = true
  refine all_split ?_ w_codes
  rw [← List.take_append_drop 24 words1, List.all_append, w_t1, w_t2]
  rfl
set_option maxRecDepth 65536 in
theorem w_case : (Jvm.Cond.and given_1 narrow_1).before args0 about1 = true := by decide +kernel
theorem w_applies : (headSpec (Jvm.Cond.code x code maxLocals ret :: tables_1) room_1).applies x e0.platform about1 = true :=
  (Spec.applies_iff w_frames).mpr ⟨w_running, w_runnable, w_alone, w_named, w_hears, w_ripe, w_room, w_tables⟩
theorem atStart : AtStart classFile x code maxLocals ret World_1 tables_1 room_1 Calls_1 rest_1 Pre_1 launch0 p0 e0 about1 theMethod args0 below0 :=
  ⟨lists_1, trivial, launch0.admits_env _ _ _, launch0.least_env, fairChoices_fair.cas, fairChoices_fair.clock, w_frames, w_args, w_heap, w_applies, trivial, trivial, w_case⟩
end start1
theorem witness_1 : WitnessClaimed_1 := ⟨start1.p0, start1.e0, start1.about1, start1.theMethod, start1.args0, start1.below0, start1.atStart⟩
end Jvm.Pilot.@@N@@
