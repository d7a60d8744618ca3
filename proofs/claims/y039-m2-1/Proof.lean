import JvmDerived
import JvmDerived.Pilot.@@N@@Statement
import JvmDerived.Pilot.@@N@@Code
set_option linter.unusedVariables false
set_option linter.unusedSimpArgs false

namespace Jvm.Pilot.@@N@@
open Jvm Jvm.ClassFile Sem Op Lib Jvm.Free Jvm.Stand Jvm.LawKit Jvm.RoadKit Bundle Jvm.Pilot.@@N@@.Jvm.D

section OwnKit
variable {p : Program} {l : Launch} {e : Env} {R : Room} {s : State} {m : MethodId} {args : Array Value} {below : List Frame} {meth : Method} {c : Code} {T : State} {locs : List Loc} {cells slots : Nat} {G : Outcome → State → Prop} {Q : Option Value → Heap → List Loc → Prop} {C S : Nat} {Z : State} {h h' : Heap}
/-- from the state t the invocation comes to an end of which G holds -/
def own_Fin (p : Program) (e : Env) (below : List Frame) (G : Outcome → State → Prop) (t : State) : Prop := ∃ s₂ o, Steps p.tables e below t s₂ ∧ s₂.status = .running ∧ Ended s₂ below o ∧ G o s₂
def own_G (s : State) (Q : Option Value → Heap → List Loc → Prop) (C S : Nat) (o : Outcome) (U' : State) : Prop := ∃ v L, o = .returned v ∧ Q v U'.heap L ∧ FrameEnd s o U' L C S
theorem own_to {t u : State} (h : ∀ z, Steps p.tables e below u z → Steps p.tables e below t z) (k : own_Fin p e below G u) : own_Fin p e below G t := by
  obtain ⟨a, b, c, d⟩ := k; exact ⟨a, b, h _ c, d⟩
theorem own_via {t u : State} (h : Steps p.tables e below t u) (k : own_Fin p e below G u) : own_Fin p e below G t := own_to (fun _ kz => h.trans kz) k
theorem own_retW (X : Stand p l e R s m args below meth c T locs cells slots) (hx : p.tables.exec = Jvm.exec) (hlk : meth.locks = false) (hG : G = own_G s Q C S) {f : JFrame} {w : Option Value} (hv : meth.sig.returnType = none → w = none)
    (st : ∀ fs, (∀ (f : JFrame) (acts : List Action), f.method = m → f.locked = none → f.entered = [] → (doReturn e (T.setTop f) acts w).1 = T.setFrames fs) → Steps p.tables e below (T.setTop f) (T.setFrames fs))
    (hc : cells ≤ C) (hs : slots ≤ S) (hQ : Q w T.heap locs) : own_Fin p e below G (T.setTop f) := by
  subst hG
  obtain ⟨fs, hr, hrun, hended, hW, hsame⟩ := X.leave (v := w) hv hlk
  exact ⟨_, _, st fs hr, hrun, hended, _, _, rfl, hQ, ⟨_, rfl⟩, hW, hsame.mono hc hs⟩
theorem own_retI (X : Stand p l e R s m args below meth c T locs cells slots) (hx : p.tables.exec = Jvm.exec) (hlk : meth.locks = false) (hG : G = own_G s Q C S) {pc : Nat} {Ls : Array Slot} {z : Int32} {rest : List Value} (hret : meth.sig.returnType = some .int) (hd : decode c.code pc = .ok (.ireturn, 1))
    (hc : cells ≤ C) (hs : slots ≤ S) (hQ : Q (some (.int z)) T.heap locs) : own_Fin p e below G (T.setTop (mkF m pc Ls (.int z :: rest))) :=
  own_retW X hx hlk hG (w := some (.int z)) (fun h => by rw [hret] at h; cases h) (fun fs hr => retOut X hx hret rfl (Or.inl ⟨rfl, Or.inl rfl, z, rfl⟩) hd hr) hc hs hQ
theorem own_retJ (X : Stand p l e R s m args below meth c T locs cells slots) (hx : p.tables.exec = Jvm.exec) (hlk : meth.locks = false) (hG : G = own_G s Q C S) {pc : Nat} {Ls : Array Slot} {z : Int64} {rest : List Value} (hret : meth.sig.returnType = some .long) (hd : decode c.code pc = .ok (.lreturn, 1))
    (hc : cells ≤ C) (hs : slots ≤ S) (hQ : Q (some (.long z)) T.heap locs) : own_Fin p e below G (T.setTop (mkF m pc Ls (.long z :: rest))) :=
  own_retW X hx hlk hG (w := some (.long z)) (fun h => by rw [hret] at h; cases h) (fun fs hr => retOut X hx hret rfl (Or.inr (Or.inl ⟨rfl, rfl, z, rfl⟩)) hd hr) hc hs hQ
theorem own_retA (X : Stand p l e R s m args below meth c T locs cells slots) (hx : p.tables.exec = Jvm.exec) (hlk : meth.locks = false) (hG : G = own_G s Q C S) {pc : Nat} {Ls : Array Slot} {w : Value} {rest : List Value} {t : FieldType} (hret : meth.sig.returnType = some t) (ht : t.isReference = true) (hw : w.isRef = true) (hd : decode c.code pc = .ok (.areturn, 1))
    (hc : cells ≤ C) (hs : slots ≤ S) (hQ : Q (some w) T.heap locs) : own_Fin p e below G (T.setTop (mkF m pc Ls (w :: rest))) :=
  own_retW X hx hlk hG (w := some w) (fun h => by rw [hret] at h; cases h) (fun fs hr => retOut X hx hret (by rcases ref_cases hw with rfl | ⟨a, rfl⟩ <;> cases t <;> first | rfl | (simp [FieldType.isReference] at ht)) (Or.inr (Or.inr (Or.inr (Or.inr ⟨rfl, ht, hw⟩)))) hd hr) hc hs hQ
theorem own_retN (X : Stand p l e R s m args below meth c T locs cells slots) (hx : p.tables.exec = Jvm.exec) (hlk : meth.locks = false) (hG : G = own_G s Q C S) {pc : Nat} {Ls : Array Slot} {z : Int32} {rest : List Value} {t : FieldType} (hret : meth.sig.returnType = some t) (ht : t = .boolean ∨ t = .byte ∨ t = .char ∨ t = .short) (hd : decode c.code pc = .ok (.ireturn, 1))
    (hc : cells ≤ C) (hs : slots ≤ S) (hQ : Q (some (.int (nar t z))) T.heap locs) : own_Fin p e below G (T.setTop (mkF m pc Ls (.int z :: rest))) :=
  own_retW X hx hlk hG (w := some (.int (nar t z))) (fun h => by rw [hret] at h; cases h) (fun fs hr => retN X hx hret ht hd hr) hc hs hQ
theorem own_retV (X : Stand p l e R s m args below meth c T locs cells slots) (hx : p.tables.exec = Jvm.exec) (hlk : meth.locks = false) (hG : G = own_G s Q C S) {pc : Nat} {Ls : Array Slot} (hret : meth.sig.returnType = none) (hd : decode c.code pc = .ok (.return_, 1))
    (hc : cells ≤ C) (hs : slots ≤ S) (hQ : Q none T.heap locs) : own_Fin p e below G (T.setTop (mkF m pc Ls [])) :=
  own_retW X hx hlk hG (w := none) (fun _ => rfl) (fun fs hr => X.returnOut hx hret hd hr) hc hs hQ
theorem own_lrem {g : JFrame} {target : State} (X : Stand p l e R s m args below meth c T locs cells slots) (hx : p.tables.exec = Jvm.exec) (hg : g.method = m) {x y : Int64} {rest : List Value} (hd : decode c.code g.pc = .ok (.lrem, 1)) (hs : g.stack = .long y :: .long x :: rest) (hy : y ≠ 0)
    (hr : Steps p.tables e below (T.setTop { g with pc := g.pc + 1, stack := .long (x % y) :: rest }) target) : Steps p.tables e below (T.setTop g) target := by
  have q : x - x / y * y = x % y := lrem_mod x y
  exact XS.lrem X.here hx hg hd hs hy (by rw [q]; exact hr)
def own_Pair (a b : Slot) : Prop := (a = .unset ∧ b = .unset) ∨ ∃ x, a = .val (.long x) ∧ b = .second
/-- the array at a has n places; place i holds mk (f i) -/
def own_AV {α : Type} (mk : α → Value) (Z : State) (h : Heap) (a : Addr) (ty : FieldType) (n : Nat) (f : Nat → α) : Prop := n < 2 ^ 31 ∧ ∃ c : Cell, Arr Z h a c ty ∧ c.slots.size = n ∧ ∀ i, i < n → c.slots[i]? = some (mk (f i))
def own_upd {α : Type} (f : Nat → α) (k : Nat) (v : α) : Nat → α := fun i => if i = k then v else f i
section
variable {α : Type} {mk : α → Value} {a b : Addr} {ty : FieldType} {n : Nat} {f f' : Nat → α} {ws : List Addr} {sl : Nat} {v : Value}
theorem own_AV.lt (F : own_AV mk Z h a ty n f) : a < h.size := by obtain ⟨_, c, A, -⟩ := F; exact A.lt
theorem own_AV.ext (F : own_AV mk Z h a ty n f) (E : Ext h h') : own_AV mk Z h' a ty n f := by obtain ⟨q, c, A, r⟩ := F; exact ⟨q, c, A.ext E, r⟩
theorem own_AV.other (F : own_AV mk Z h b ty n f) (W : Wr h h' a sl v) (q : b ≠ a) : own_AV mk Z h' b ty n f := by obtain ⟨q', c, A, r⟩ := F; exact ⟨q', c, A.other W q, r⟩
theorem own_AV.keep (F : own_AV mk Z h a ty n f) (K : Keep h h' ws) (q : a ∉ ws) : own_AV mk Z h' a ty n f := by obtain ⟨q', c, A, r⟩ := F; exact ⟨q', c, ⟨K.2.1 a c A.1 q, A.2⟩, r⟩
theorem own_AV.congr (F : own_AV mk Z h a ty n f) (q : ∀ i, i < n → f i = f' i) : own_AV mk Z h a ty n f' := by obtain ⟨q', c, A, r, s⟩ := F; exact ⟨q', c, A, r, fun i hi => by rw [s i hi, q i hi]⟩
theorem own_AV.new {k : ClassId} {z : Int32} (A : Arr Z h a (newA k ty z) ty) (q : ¬ z < 0) (hn : z.toNatClampNeg = n) (hf : ∀ i : Nat, defaultValue ty = mk (f i)) : own_AV mk Z h a ty n f := by
  refine ⟨hn ▸ (back32 q).2, _, A, (sz_new _ _ _).trans hn, fun i hi => ?_⟩
  rw [← hf i]; simp [newA, hn, hi]
theorem own_updr {P : α → Prop} {k : Nat} {w : α} (hv : P w) (hf : ∀ i, P (f i)) : ∀ i, P (own_upd f k w i) := fun i => by
  unfold own_upd; split
  · exact hv
  · exact hf i
theorem own_in {c : Cell} {j : Int32} {k : Nat} (S : c.slots.size = n) (hj : ¬ j < 0) (hk : j.toNatClampNeg = k) (hlt : k < n) : ¬ (j < 0 ∨ c.slots.size ≤ j.toNatClampNeg) := fun q => q.elim hj fun r => by omega
theorem own_AV.set {c : Cell} {j : Int32} {k : Nat} {w : α} (nn : n < 2 ^ 31) (A : Arr Z h a c ty) (S : c.slots.size = n) (H : ∀ i, i < n → c.slots[i]? = some (mk (f i))) (W : Wr h h' a j.toNatClampNeg (mk w)) (hk : j.toNatClampNeg = k) : own_AV mk Z h' a ty n (own_upd f k w) := by
  subst hk
  refine ⟨nn, _, A.same W, by rw [sz_set]; exact S, fun i hi => ?_⟩
  show (c.setSlot j.toNatClampNeg (mk w)).slots[i]? = some (mk (if i = j.toNatClampNeg then w else f i))
  simp only [Cell.setSlot]
  by_cases q : i = j.toNatClampNeg
  · subst q; rw [if_pos rfl]; simp [S, hi]
  · rw [if_neg q, Array.getElem?_setIfInBounds_ne (fun r => q r.symm)]; exact H i hi
theorem own_iaload (X : Stand p l e R s m args below meth c T locs cells slots) (hx : p.tables.exec = Jvm.exec) (hZ : Z.Warmed39 s.vm) (eT : T.heap = h) {f : Nat → Int32} (F : own_AV Value.int Z h a .int n f) {j : Int32} {k : Nat} (hj : ¬ j < 0) (hk : j.toNatClampNeg = k) (hlt : k < n)
    {g : JFrame} (hg : g.method = m) {rest : List Value} (hs : g.stack = .int j :: .ref a :: rest) (hd : decode c.code g.pc = .ok (.iaload, 1)) {target : State} (hr : Steps p.tables e below (T.setTop { g with pc := g.pc + 1, stack := .int (f k) :: rest }) target) : Steps p.tables e below (T.setTop g) target := by
  obtain ⟨_, cl, A, S, H⟩ := F
  exact X.iaload hx (j := j) (v := .int (f k)) (by rw [eT]; exact A.1) (State.isArrayOf_alike hZ.alike A.2.1) A.2.2 (own_in S hj hk hlt) (by rw [hk]; exact H k hlt) hg hs hd _ hr
theorem own_laload (X : Stand p l e R s m args below meth c T locs cells slots) (hx : p.tables.exec = Jvm.exec) (hZ : Z.Warmed39 s.vm) (eT : T.heap = h) {f : Nat → Int64} (F : own_AV Value.long Z h a .long n f) {j : Int32} {k : Nat} (hj : ¬ j < 0) (hk : j.toNatClampNeg = k) (hlt : k < n)
    {g : JFrame} (hg : g.method = m) {rest : List Value} (hs : g.stack = .int j :: .ref a :: rest) (hd : decode c.code g.pc = .ok (.laload, 1)) {target : State} (hr : Steps p.tables e below (T.setTop { g with pc := g.pc + 1, stack := .long (f k) :: rest }) target) : Steps p.tables e below (T.setTop g) target := by
  obtain ⟨_, cl, A, S, H⟩ := F
  exact X.laload hx (j := j) (v := .long (f k)) (by rw [eT]; exact A.1) (State.isArrayOf_alike hZ.alike A.2.1) A.2.2 (own_in S hj hk hlt) (by rw [hk]; exact H k hlt) hg hs hd _ hr
theorem own_baload (X : Stand p l e R s m args below meth c T locs cells slots) (hx : p.tables.exec = Jvm.exec) (hZ : Z.Warmed39 s.vm) (eT : T.heap = h) {f : Nat → Int32} (F : own_AV Value.int Z h a .byte n f) {j : Int32} {k : Nat} (hj : ¬ j < 0) (hk : j.toNatClampNeg = k) (hlt : k < n)
    {g : JFrame} (hg : g.method = m) {rest : List Value} (hs : g.stack = .int j :: .ref a :: rest) (hd : decode c.code g.pc = .ok (.baload, 1)) {target : State} (hr : Steps p.tables e below (T.setTop { g with pc := g.pc + 1, stack := .int (f k) :: rest }) target) : Steps p.tables e below (T.setTop g) target := by
  obtain ⟨_, cl, A, S, H⟩ := F
  exact X.baloadBytes hx (j := j) (v := .int (f k)) (by rw [eT]; exact A.1) (State.isArrayOf_alike hZ.alike A.2.1) A.2.2 (own_in S hj hk hlt) (by rw [hk]; exact H k hlt) hg hs hd _ hr
theorem own_cloneI (X : Stand p l e R s m args below meth c T locs cells slots) (hx : p.tables.exec = Jvm.exec) (hZ : Z.Warmed39 s.vm) {a0 : Array Value} {own ad : String} {index : Nat} (hown : s.vm.findClass own = some m.cls)
    (w1 : (Cond.methodLink own index ⟨ad, "clone", "()Ljava/lang/Object;"⟩).before a0 Z = true) (w2 : (Cond.sameMethod ad "java/lang/Object" "clone" "()Ljava/lang/Object;").before a0 Z = true) (w3 : (Cond.native ⟨"java/lang/Object", "clone", "()Ljava/lang/Object;"⟩).before a0 Z = true)
    (w4 : (Cond.instanceMethod ⟨"java/lang/Object", "clone", "()Ljava/lang/Object;"⟩).before a0 Z = true) (w5 : (Cond.selects ad ⟨ad, "clone", "()Ljava/lang/Object;"⟩ ⟨"java/lang/Object", "clone", "()Ljava/lang/Object;"⟩).before a0 Z = true) (w6 : (Cond.castable ad "java/lang/Cloneable").before a0 Z = true)
    (eT : T.heap = h) {f : Nat → Int32} (F : own_AV Value.int Z h a .int n f) (E : Exa Z h a ad) {g : JFrame} (hg : g.method = m) (hsize : g.locals.size = c.maxLocals) {rest : List Value} (hs : g.stack = .ref a :: rest) (hd : decode c.code g.pc = .ok (.invokevirtual index, 3))
    (hf : 1 ≤ R.frames) {W cap : Nat} (hW : 2 * g.monitorRoom + (rest.map fun v => v.category).sum ≤ W) (hl : W + 14 ≤ R.locals) (hcap : n ≤ cap) (hc : cells + 1 ≤ R.cells) (hsl : slots + cap ≤ R.slots) :
    ∃ T' h', Stand p l e R s m args below meth c T' locs (cells + 1) (slots + cap) ∧ T'.heap = h' ∧ Ext h h' ∧ own_AV Value.int Z h' h.size .int n f ∧ Exa Z h' h.size ad ∧
      ∀ target, Steps p.tables e below (T'.setTop { g with pc := g.pc + 3, stack := .ref h.size :: rest }) target → Steps p.tables e below (T.setTop g) target := by
  obtain ⟨nn, cl, A, S, H⟩ := F
  have FC : FitC Z cl := fitC_of A fun i hi v hv => by rw [H i (S ▸ hi)] at hv; cases hv; rfl
  obtain ⟨T', h', X', e', ex, A', E', st⟩ := cloneA X hx hZ hown w1 w2 w3 w4 w5 w6 eT A E FC hg hsize hs hd hf hW hl (by rw [S]; exact hcap) hc hsl
  exact ⟨T', h', X', e', ex, ⟨nn, cloneOf cl, A', S, H⟩, E', st⟩
theorem own_alen (X : Stand p l e R s m args below meth c T locs cells slots) (hx : p.tables.exec = Jvm.exec) (hZ : Z.Warmed39 s.vm) (eT : T.heap = h) (F : own_AV mk Z h a ty n f) {z : Int32} (hz : n.toInt32 = z)
    {g : JFrame} (hg : g.method = m) {rest : List Value} (hs : g.stack = .ref a :: rest) (hd : decode c.code g.pc = .ok (.arraylength, 1)) {target : State} (hr : Steps p.tables e below (T.setTop { g with pc := g.pc + 1, stack := .int z :: rest }) target) : Steps p.tables e below (T.setTop g) target := by
  obtain ⟨_, cl, A, S, H⟩ := F
  exact X.arraylength hx (by rw [eT]; exact A.1) (State.isArrayOf_alike hZ.alike A.2.1) hg hs hd _ (by rw [S, hz]; exact hr)
end
end OwnKit
theorem own_pn0 : plainName "com/example/tabularium/tabularium/io/XmlDocuments" = true := by first | (simp [plainName, overriddenIn]; done) | decide +kernel
theorem d1_0 : decode prog_48_method_7_code 0 = .ok (.lload_n 0, 1) := by decide +kernel
theorem d1_1 : decode prog_48_method_7_code 1 = .ok (.ldc2_w 131, 3) := by decide +kernel
theorem d1_4 : decode prog_48_method_7_code 4 = .ok (.lcmp, 1) := by decide +kernel
theorem d1_5 : decode prog_48_method_7_code 5 = .ok (.ifCond .eq 67, 3) := by decide +kernel
theorem d1_8 : decode prog_48_method_7_code 8 = .ok (.lload_n 0, 1) := by decide +kernel
theorem d1_9 : decode prog_48_method_7_code 9 = .ok (.ldc2_w 133, 3) := by decide +kernel
theorem d1_12 : decode prog_48_method_7_code 12 = .ok (.lcmp, 1) := by decide +kernel
theorem d1_13 : decode prog_48_method_7_code 13 = .ok (.ifCond .eq 59, 3) := by decide +kernel
theorem d1_16 : decode prog_48_method_7_code 16 = .ok (.lload_n 0, 1) := by decide +kernel
theorem d1_17 : decode prog_48_method_7_code 17 = .ok (.ldc2_w 135, 3) := by decide +kernel
theorem d1_20 : decode prog_48_method_7_code 20 = .ok (.lcmp, 1) := by decide +kernel
theorem d1_21 : decode prog_48_method_7_code 21 = .ok (.ifCond .eq 51, 3) := by decide +kernel
theorem d1_24 : decode prog_48_method_7_code 24 = .ok (.lload_n 0, 1) := by decide +kernel
theorem d1_25 : decode prog_48_method_7_code 25 = .ok (.ldc2_w 137, 3) := by decide +kernel
theorem d1_28 : decode prog_48_method_7_code 28 = .ok (.lcmp, 1) := by decide +kernel
theorem d1_29 : decode prog_48_method_7_code 29 = .ok (.ifCond .lt 11, 3) := by decide +kernel
theorem d1_32 : decode prog_48_method_7_code 32 = .ok (.lload_n 0, 1) := by decide +kernel
theorem d1_33 : decode prog_48_method_7_code 33 = .ok (.ldc2_w 139, 3) := by decide +kernel
theorem d1_36 : decode prog_48_method_7_code 36 = .ok (.lcmp, 1) := by decide +kernel
theorem d1_37 : decode prog_48_method_7_code 37 = .ok (.ifCond .le 35, 3) := by decide +kernel
theorem d1_40 : decode prog_48_method_7_code 40 = .ok (.lload_n 0, 1) := by decide +kernel
theorem d1_41 : decode prog_48_method_7_code 41 = .ok (.ldc2_w 141, 3) := by decide +kernel
theorem d1_44 : decode prog_48_method_7_code 44 = .ok (.lcmp, 1) := by decide +kernel
theorem d1_45 : decode prog_48_method_7_code 45 = .ok (.ifCond .lt 11, 3) := by decide +kernel
theorem d1_48 : decode prog_48_method_7_code 48 = .ok (.lload_n 0, 1) := by decide +kernel
theorem d1_49 : decode prog_48_method_7_code 49 = .ok (.ldc2_w 143, 3) := by decide +kernel
theorem d1_52 : decode prog_48_method_7_code 52 = .ok (.lcmp, 1) := by decide +kernel
theorem d1_53 : decode prog_48_method_7_code 53 = .ok (.ifCond .le 19, 3) := by decide +kernel
theorem d1_56 : decode prog_48_method_7_code 56 = .ok (.lload_n 0, 1) := by decide +kernel
theorem d1_57 : decode prog_48_method_7_code 57 = .ok (.ldc2_w 145, 3) := by decide +kernel
theorem d1_60 : decode prog_48_method_7_code 60 = .ok (.lcmp, 1) := by decide +kernel
theorem d1_61 : decode prog_48_method_7_code 61 = .ok (.ifCond .lt 15, 3) := by decide +kernel
theorem d1_64 : decode prog_48_method_7_code 64 = .ok (.lload_n 0, 1) := by decide +kernel
theorem d1_65 : decode prog_48_method_7_code 65 = .ok (.ldc2_w 147, 3) := by decide +kernel
theorem d1_68 : decode prog_48_method_7_code 68 = .ok (.lcmp, 1) := by decide +kernel
theorem d1_69 : decode prog_48_method_7_code 69 = .ok (.ifCond .gt 7, 3) := by decide +kernel
theorem d1_72 : decode prog_48_method_7_code 72 = .ok (.iconst 1, 1) := by decide +kernel
theorem d1_73 : decode prog_48_method_7_code 73 = .ok (.goto 4, 3) := by decide +kernel
theorem d1_76 : decode prog_48_method_7_code 76 = .ok (.iconst 0, 1) := by decide +kernel
theorem d1_77 : decode prog_48_method_7_code 77 = .ok (.ireturn, 1) := by decide +kernel
theorem ef1 (m : MethodId) (x0 : Int64) : entryFrame m #[(.long x0)] 2 = mkF m 0 #[.val (.long x0), .second] [] := by first | (simp [entryFrame, mkF, argsToLocals, Value.category]; done) | rfl
def f1_76 (x0 : Int64) : Int32 := (0 : Int32)
def f1_72 (x0 : Int64) : Int32 := (1 : Int32)
def f1_56 (x0 : Int64) : Int32 := if x0 < (65536 : Int64) then (f1_76 x0) else if (1114111 : Int64) < x0 then (f1_76 x0) else (f1_72 x0)
def f1_40 (x0 : Int64) : Int32 := if x0 < (57344 : Int64) then (f1_56 x0) else if (65533 : Int64) < x0 then (f1_56 x0) else (f1_72 x0)
def f1 (x0 : Int64) : Int32 := if x0 = (9 : Int64) then (f1_72 x0) else if x0 = (10 : Int64) then (f1_72 x0) else if x0 = (13 : Int64) then (f1_72 x0) else if x0 < (32 : Int64) then (f1_40 x0) else if (55295 : Int64) < x0 then (f1_40 x0) else (f1_72 x0)
def Q1 (Z : State) (x0 : Int64) (h0 : Heap) (n0 : Nat) (v : Option Value) (h : Heap) (L : List Loc) : Prop := v = some (.int (f1 x0)) ∧ Fr n0 L ∧ h = h0
set_option maxRecDepth 65536 in
set_option maxHeartbeats 40000000 in
theorem rm1 (l : Launch) (Z : State) (a0 : Array Value) (hw : ∀ d ∈ tables_1, d.before a0 Z = true) (ws : List Jvm.Cond) (x0 : Int64) (h0 : Heap) (n0 : Nat) (Z0 : n0 ≤ h0.size) :
    MetFree l (⟨"com/example/tabularium/tabularium/io/XmlDocuments", "isCharacter", "(J)Z"⟩ : MethodName) (head1 (Jvm.Cond.code (⟨"com/example/tabularium/tabularium/io/XmlDocuments", "isCharacter", "(J)Z"⟩ : MethodName) prog_48_method_7_code 2 (some .boolean) :: ws) ({ frames := 0, cells := 0, slots := 0, locals := 0 } : Room)) (fun a U => a = #[(.long x0)] ∧ Z.Warmed39 U.vm ∧ U.heap = h0) (fun _ _ _ _ _ => True) (fun _ U o U' => ∃ v L, o = .returned v ∧ Q1 Z x0 h0 n0 v U'.heap L ∧ FrameEnd U o U' L ({ frames := 0, cells := 0, slots := 0, locals := 0 } : Room).cells ({ frames := 0, cells := 0, slots := 0, locals := 0 } : Room).slots) := by
  refine MetFree.of_bodySF (plainFor_of_name own_pn0) hisR ?_
  intro p e s m args below meth c s₁ Bd hml0 hP hK
  obtain ⟨rfl, hZ, hh⟩ := hP
  have hx := Bd.exec
  have hby := Bd.bytes
  have hml : c.maxLocals = 2 := hml0
  have hown : s.vm.findClass "com/example/tabularium/tabularium/io/XmlDocuments" = some m.cls := findClass_of_methodNamed Bd.named
  have hnm := (name_of_methodNamed Bd.named Bd.method).1
  have hlk : meth.locks = false := BodyLoose.notSynchronized Bd
  have X0 : Stand p l e ({ frames := 0, cells := 0, slots := 0, locals := 0 } : Room) s m #[(.long x0)] below meth c s₁ [] 0 0 := Stand.of_body Bd
  have e0 : s₁.heap = h0 := by rw [← hh, Bd.state]; rfl
  have N0 := Fr.nil n0
  obtain ⟨G, hG⟩ : ∃ G, G = own_G s (Q1 Z x0 h0 n0) ({ frames := 0, cells := 0, slots := 0, locals := 0 } : Room).cells ({ frames := 0, cells := 0, slots := 0, locals := 0 } : Room).slots := ⟨_, rfl⟩
  show own_Fin p e below (own_G s (Q1 Z x0 h0 n0) ({ frames := 0, cells := 0, slots := 0, locals := 0 } : Room).cells ({ frames := 0, cells := 0, slots := 0, locals := 0 } : Room).slots) (s₁.setTop (entryFrame m #[(.long x0)] 2))
  rw [← hG]
  refine own_to (fun _ kz => castTop (ef1 m x0) kz) ?_
  have q0 : (f1 x0) = (f1 x0) := rfl
  show own_Fin p e below G (s₁.setTop (mkF m 0 #[.val (.long x0), .second] []))
  refine own_to (fun _ kz => XS.lloadN X0.here hx rfl (hb hby d1_0) rfl  kz) ?_
  show own_Fin p e below G (s₁.setTop (mkF m 1 #[.val (.long x0), .second] [(.long x0)]))
  refine own_to (fun _ kz => X0.ldc2Long hx hown (mvT hZ (hw _ (List.mem_of_getElem? (i := 28) rfl))) (g := (mkF m 1 #[.val (.long x0), .second] [(.long x0)])) rfl (hb hby d1_1) _ kz) ?_
  show own_Fin p e below G (s₁.setTop (mkF m 4 #[.val (.long x0), .second] [(.long (9 : Int64)), (.long x0)]))
  refine own_to (fun _ kz => XS.lcmp X0.here hx rfl (hb hby d1_4) rfl kz) ?_
  show own_Fin p e below G (s₁.setTop (mkF m 5 #[.val (.long x0), .second] [(.int (lcmpW x0 (9 : Int64)))]))
  have K72 : ∀ (q_j72 : (f1 x0) = (f1_72 x0)), own_Fin p e below G (s₁.setTop (mkF m 72 #[.val (.long x0), .second] [])) := by
    intro q_j72
    refine own_to (fun _ kz => XS.iconst X0.here hx rfl (hb hby d1_72) kz) ?_
    show own_Fin p e below G (s₁.setTop (mkF m 73 #[.val (.long x0), .second] [(.int (1 : Int32))]))
    refine own_to (fun _ kz => XS.goto X0.here hx rfl (pc0 := 73) (pc' := 77) rfl (hb hby d1_73) (by decide) (by decide) kz) ?_
    show own_Fin p e below G (s₁.setTop (mkF m 77 #[.val (.long x0), .second] [(.int (1 : Int32))]))
    exact own_retN X0 hx hlk hG (t := .boolean) Bd.returns (by simp) (hb hby d1_77) (by decide) (by decide) ⟨(congrArg (fun z => some (Value.int z)) q_j72).symm, N0, e0⟩
  by_cases hc5 : x0 = (9 : Int64)
  · refine own_to (fun _ kz => XS.ifYes X0.here hx rfl (pc0 := 5) (pc' := 72) rfl (hb hby d1_5) rfl ((if0 _ _).trans (teq ((lw_eq _ _).mpr hc5)).1) (by decide) (by decide) kz) ?_
    have q5t := q0.trans (if_pos hc5)
    show own_Fin p e below G (s₁.setTop (mkF m 72 #[.val (.long x0), .second] []))
    exact K72 q5t
  · refine own_to (fun _ kz => XS.ifNo X0.here hx rfl (hb hby d1_5) rfl ((if0 _ _).trans (feq (fun q => hc5 ((lw_eq _ _).mp q))).1) kz) ?_
    have q5f := q0.trans (if_neg hc5)
    show own_Fin p e below G (s₁.setTop (mkF m 8 #[.val (.long x0), .second] []))
    refine own_to (fun _ kz => XS.lloadN X0.here hx rfl (hb hby d1_8) rfl  kz) ?_
    show own_Fin p e below G (s₁.setTop (mkF m 9 #[.val (.long x0), .second] [(.long x0)]))
    refine own_to (fun _ kz => X0.ldc2Long hx hown (mvT hZ (hw _ (List.mem_of_getElem? (i := 29) rfl))) (g := (mkF m 9 #[.val (.long x0), .second] [(.long x0)])) rfl (hb hby d1_9) _ kz) ?_
    show own_Fin p e below G (s₁.setTop (mkF m 12 #[.val (.long x0), .second] [(.long (10 : Int64)), (.long x0)]))
    refine own_to (fun _ kz => XS.lcmp X0.here hx rfl (hb hby d1_12) rfl kz) ?_
    show own_Fin p e below G (s₁.setTop (mkF m 13 #[.val (.long x0), .second] [(.int (lcmpW x0 (10 : Int64)))]))
    by_cases hc13 : x0 = (10 : Int64)
    · refine own_to (fun _ kz => XS.ifYes X0.here hx rfl (pc0 := 13) (pc' := 72) rfl (hb hby d1_13) rfl ((if0 _ _).trans (teq ((lw_eq _ _).mpr hc13)).1) (by decide) (by decide) kz) ?_
      have q13t := q5f.trans (if_pos hc13)
      show own_Fin p e below G (s₁.setTop (mkF m 72 #[.val (.long x0), .second] []))
      exact K72 q13t
    · refine own_to (fun _ kz => XS.ifNo X0.here hx rfl (hb hby d1_13) rfl ((if0 _ _).trans (feq (fun q => hc13 ((lw_eq _ _).mp q))).1) kz) ?_
      have q13f := q5f.trans (if_neg hc13)
      show own_Fin p e below G (s₁.setTop (mkF m 16 #[.val (.long x0), .second] []))
      refine own_to (fun _ kz => XS.lloadN X0.here hx rfl (hb hby d1_16) rfl  kz) ?_
      show own_Fin p e below G (s₁.setTop (mkF m 17 #[.val (.long x0), .second] [(.long x0)]))
      refine own_to (fun _ kz => X0.ldc2Long hx hown (mvT hZ (hw _ (List.mem_of_getElem? (i := 30) rfl))) (g := (mkF m 17 #[.val (.long x0), .second] [(.long x0)])) rfl (hb hby d1_17) _ kz) ?_
      show own_Fin p e below G (s₁.setTop (mkF m 20 #[.val (.long x0), .second] [(.long (13 : Int64)), (.long x0)]))
      refine own_to (fun _ kz => XS.lcmp X0.here hx rfl (hb hby d1_20) rfl kz) ?_
      show own_Fin p e below G (s₁.setTop (mkF m 21 #[.val (.long x0), .second] [(.int (lcmpW x0 (13 : Int64)))]))
      by_cases hc21 : x0 = (13 : Int64)
      · refine own_to (fun _ kz => XS.ifYes X0.here hx rfl (pc0 := 21) (pc' := 72) rfl (hb hby d1_21) rfl ((if0 _ _).trans (teq ((lw_eq _ _).mpr hc21)).1) (by decide) (by decide) kz) ?_
        have q21t := q13f.trans (if_pos hc21)
        show own_Fin p e below G (s₁.setTop (mkF m 72 #[.val (.long x0), .second] []))
        exact K72 q21t
      · refine own_to (fun _ kz => XS.ifNo X0.here hx rfl (hb hby d1_21) rfl ((if0 _ _).trans (feq (fun q => hc21 ((lw_eq _ _).mp q))).1) kz) ?_
        have q21f := q13f.trans (if_neg hc21)
        show own_Fin p e below G (s₁.setTop (mkF m 24 #[.val (.long x0), .second] []))
        refine own_to (fun _ kz => XS.lloadN X0.here hx rfl (hb hby d1_24) rfl  kz) ?_
        show own_Fin p e below G (s₁.setTop (mkF m 25 #[.val (.long x0), .second] [(.long x0)]))
        refine own_to (fun _ kz => X0.ldc2Long hx hown (mvT hZ (hw _ (List.mem_of_getElem? (i := 31) rfl))) (g := (mkF m 25 #[.val (.long x0), .second] [(.long x0)])) rfl (hb hby d1_25) _ kz) ?_
        show own_Fin p e below G (s₁.setTop (mkF m 28 #[.val (.long x0), .second] [(.long (32 : Int64)), (.long x0)]))
        refine own_to (fun _ kz => XS.lcmp X0.here hx rfl (hb hby d1_28) rfl kz) ?_
        show own_Fin p e below G (s₁.setTop (mkF m 29 #[.val (.long x0), .second] [(.int (lcmpW x0 (32 : Int64)))]))
        have K40 : ∀ (q_j40 : (f1 x0) = (f1_40 x0)), own_Fin p e below G (s₁.setTop (mkF m 40 #[.val (.long x0), .second] [])) := by
          intro q_j40
          refine own_to (fun _ kz => XS.lloadN X0.here hx rfl (hb hby d1_40) rfl  kz) ?_
          show own_Fin p e below G (s₁.setTop (mkF m 41 #[.val (.long x0), .second] [(.long x0)]))
          refine own_to (fun _ kz => X0.ldc2Long hx hown (mvT hZ (hw _ (List.mem_of_getElem? (i := 32) rfl))) (g := (mkF m 41 #[.val (.long x0), .second] [(.long x0)])) rfl (hb hby d1_41) _ kz) ?_
          show own_Fin p e below G (s₁.setTop (mkF m 44 #[.val (.long x0), .second] [(.long (57344 : Int64)), (.long x0)]))
          refine own_to (fun _ kz => XS.lcmp X0.here hx rfl (hb hby d1_44) rfl kz) ?_
          show own_Fin p e below G (s₁.setTop (mkF m 45 #[.val (.long x0), .second] [(.int (lcmpW x0 (57344 : Int64)))]))
          have K56 : ∀ (q_j56 : (f1 x0) = (f1_56 x0)), own_Fin p e below G (s₁.setTop (mkF m 56 #[.val (.long x0), .second] [])) := by
            intro q_j56
            refine own_to (fun _ kz => XS.lloadN X0.here hx rfl (hb hby d1_56) rfl  kz) ?_
            show own_Fin p e below G (s₁.setTop (mkF m 57 #[.val (.long x0), .second] [(.long x0)]))
            refine own_to (fun _ kz => X0.ldc2Long hx hown (mvT hZ (hw _ (List.mem_of_getElem? (i := 33) rfl))) (g := (mkF m 57 #[.val (.long x0), .second] [(.long x0)])) rfl (hb hby d1_57) _ kz) ?_
            show own_Fin p e below G (s₁.setTop (mkF m 60 #[.val (.long x0), .second] [(.long (65536 : Int64)), (.long x0)]))
            refine own_to (fun _ kz => XS.lcmp X0.here hx rfl (hb hby d1_60) rfl kz) ?_
            show own_Fin p e below G (s₁.setTop (mkF m 61 #[.val (.long x0), .second] [(.int (lcmpW x0 (65536 : Int64)))]))
            have K76 : ∀ (q_j76 : (f1 x0) = (f1_76 x0)), own_Fin p e below G (s₁.setTop (mkF m 76 #[.val (.long x0), .second] [])) := by
              intro q_j76
              refine own_to (fun _ kz => XS.iconst X0.here hx rfl (hb hby d1_76) kz) ?_
              show own_Fin p e below G (s₁.setTop (mkF m 77 #[.val (.long x0), .second] [(.int (0 : Int32))]))
              exact own_retN X0 hx hlk hG (t := .boolean) Bd.returns (by simp) (hb hby d1_77) (by decide) (by decide) ⟨(congrArg (fun z => some (Value.int z)) q_j76).symm, N0, e0⟩
            by_cases hc61 : x0 < (65536 : Int64)
            · refine own_to (fun _ kz => XS.ifYes X0.here hx rfl (pc0 := 61) (pc' := 76) rfl (hb hby d1_61) rfl ((if0 _ _).trans (tlt ((lw_lt _ _).mpr hc61)).1) (by decide) (by decide) kz) ?_
              have q61t := q_j56.trans (if_pos hc61)
              show own_Fin p e below G (s₁.setTop (mkF m 76 #[.val (.long x0), .second] []))
              exact K76 q61t
            · refine own_to (fun _ kz => XS.ifNo X0.here hx rfl (hb hby d1_61) rfl ((if0 _ _).trans (flt (fun q => hc61 ((lw_lt _ _).mp q))).1) kz) ?_
              have q61f := q_j56.trans (if_neg hc61)
              show own_Fin p e below G (s₁.setTop (mkF m 64 #[.val (.long x0), .second] []))
              refine own_to (fun _ kz => XS.lloadN X0.here hx rfl (hb hby d1_64) rfl  kz) ?_
              show own_Fin p e below G (s₁.setTop (mkF m 65 #[.val (.long x0), .second] [(.long x0)]))
              refine own_to (fun _ kz => X0.ldc2Long hx hown (mvT hZ (hw _ (List.mem_of_getElem? (i := 36) rfl))) (g := (mkF m 65 #[.val (.long x0), .second] [(.long x0)])) rfl (hb hby d1_65) _ kz) ?_
              show own_Fin p e below G (s₁.setTop (mkF m 68 #[.val (.long x0), .second] [(.long (1114111 : Int64)), (.long x0)]))
              refine own_to (fun _ kz => XS.lcmp X0.here hx rfl (hb hby d1_68) rfl kz) ?_
              show own_Fin p e below G (s₁.setTop (mkF m 69 #[.val (.long x0), .second] [(.int (lcmpW x0 (1114111 : Int64)))]))
              by_cases hc69 : (1114111 : Int64) < x0
              · refine own_to (fun _ kz => XS.ifYes X0.here hx rfl (pc0 := 69) (pc' := 76) rfl (hb hby d1_69) rfl ((if0 _ _).trans (tlt ((lw_gt _ _).mpr hc69)).2.2.1) (by decide) (by decide) kz) ?_
                have q69t := q61f.trans (if_pos hc69)
                show own_Fin p e below G (s₁.setTop (mkF m 76 #[.val (.long x0), .second] []))
                exact K76 q69t
              · refine own_to (fun _ kz => XS.ifNo X0.here hx rfl (hb hby d1_69) rfl ((if0 _ _).trans (flt (fun q => hc69 ((lw_gt _ _).mp q))).2.2.1) kz) ?_
                have q69f := q61f.trans (if_neg hc69)
                show own_Fin p e below G (s₁.setTop (mkF m 72 #[.val (.long x0), .second] []))
                exact K72 q69f
          by_cases hc45 : x0 < (57344 : Int64)
          · refine own_to (fun _ kz => XS.ifYes X0.here hx rfl (pc0 := 45) (pc' := 56) rfl (hb hby d1_45) rfl ((if0 _ _).trans (tlt ((lw_lt _ _).mpr hc45)).1) (by decide) (by decide) kz) ?_
            have q45t := q_j40.trans (if_pos hc45)
            show own_Fin p e below G (s₁.setTop (mkF m 56 #[.val (.long x0), .second] []))
            exact K56 q45t
          · refine own_to (fun _ kz => XS.ifNo X0.here hx rfl (hb hby d1_45) rfl ((if0 _ _).trans (flt (fun q => hc45 ((lw_lt _ _).mp q))).1) kz) ?_
            have q45f := q_j40.trans (if_neg hc45)
            show own_Fin p e below G (s₁.setTop (mkF m 48 #[.val (.long x0), .second] []))
            refine own_to (fun _ kz => XS.lloadN X0.here hx rfl (hb hby d1_48) rfl  kz) ?_
            show own_Fin p e below G (s₁.setTop (mkF m 49 #[.val (.long x0), .second] [(.long x0)]))
            refine own_to (fun _ kz => X0.ldc2Long hx hown (mvT hZ (hw _ (List.mem_of_getElem? (i := 35) rfl))) (g := (mkF m 49 #[.val (.long x0), .second] [(.long x0)])) rfl (hb hby d1_49) _ kz) ?_
            show own_Fin p e below G (s₁.setTop (mkF m 52 #[.val (.long x0), .second] [(.long (65533 : Int64)), (.long x0)]))
            refine own_to (fun _ kz => XS.lcmp X0.here hx rfl (hb hby d1_52) rfl kz) ?_
            show own_Fin p e below G (s₁.setTop (mkF m 53 #[.val (.long x0), .second] [(.int (lcmpW x0 (65533 : Int64)))]))
            by_cases hc53 : (65533 : Int64) < x0
            · refine own_to (fun _ kz => XS.ifNo X0.here hx rfl (hb hby d1_53) rfl ((if0 _ _).trans (tlt ((lw_gt _ _).mpr hc53)).2.2.2) kz) ?_
              have q53t := q45f.trans (if_pos hc53)
              show own_Fin p e below G (s₁.setTop (mkF m 56 #[.val (.long x0), .second] []))
              exact K56 q53t
            · refine own_to (fun _ kz => XS.ifYes X0.here hx rfl (pc0 := 53) (pc' := 72) rfl (hb hby d1_53) rfl ((if0 _ _).trans (flt (fun q => hc53 ((lw_gt _ _).mp q))).2.2.2) (by decide) (by decide) kz) ?_
              have q53f := q45f.trans (if_neg hc53)
              show own_Fin p e below G (s₁.setTop (mkF m 72 #[.val (.long x0), .second] []))
              exact K72 q53f
        by_cases hc29 : x0 < (32 : Int64)
        · refine own_to (fun _ kz => XS.ifYes X0.here hx rfl (pc0 := 29) (pc' := 40) rfl (hb hby d1_29) rfl ((if0 _ _).trans (tlt ((lw_lt _ _).mpr hc29)).1) (by decide) (by decide) kz) ?_
          have q29t := q21f.trans (if_pos hc29)
          show own_Fin p e below G (s₁.setTop (mkF m 40 #[.val (.long x0), .second] []))
          exact K40 q29t
        · refine own_to (fun _ kz => XS.ifNo X0.here hx rfl (hb hby d1_29) rfl ((if0 _ _).trans (flt (fun q => hc29 ((lw_lt _ _).mp q))).1) kz) ?_
          have q29f := q21f.trans (if_neg hc29)
          show own_Fin p e below G (s₁.setTop (mkF m 32 #[.val (.long x0), .second] []))
          refine own_to (fun _ kz => XS.lloadN X0.here hx rfl (hb hby d1_32) rfl  kz) ?_
          show own_Fin p e below G (s₁.setTop (mkF m 33 #[.val (.long x0), .second] [(.long x0)]))
          refine own_to (fun _ kz => X0.ldc2Long hx hown (mvT hZ (hw _ (List.mem_of_getElem? (i := 34) rfl))) (g := (mkF m 33 #[.val (.long x0), .second] [(.long x0)])) rfl (hb hby d1_33) _ kz) ?_
          show own_Fin p e below G (s₁.setTop (mkF m 36 #[.val (.long x0), .second] [(.long (55295 : Int64)), (.long x0)]))
          refine own_to (fun _ kz => XS.lcmp X0.here hx rfl (hb hby d1_36) rfl kz) ?_
          show own_Fin p e below G (s₁.setTop (mkF m 37 #[.val (.long x0), .second] [(.int (lcmpW x0 (55295 : Int64)))]))
          by_cases hc37 : (55295 : Int64) < x0
          · refine own_to (fun _ kz => XS.ifNo X0.here hx rfl (hb hby d1_37) rfl ((if0 _ _).trans (tlt ((lw_gt _ _).mpr hc37)).2.2.2) kz) ?_
            have q37t := q29f.trans (if_pos hc37)
            show own_Fin p e below G (s₁.setTop (mkF m 40 #[.val (.long x0), .second] []))
            exact K40 q37t
          · refine own_to (fun _ kz => XS.ifYes X0.here hx rfl (pc0 := 37) (pc' := 72) rfl (hb hby d1_37) rfl ((if0 _ _).trans (flt (fun q => hc37 ((lw_gt _ _).mp q))).2.2.2) (by decide) (by decide) kz) ?_
            have q37f := q29f.trans (if_neg hc37)
            show own_Fin p e below G (s₁.setTop (mkF m 72 #[.val (.long x0), .second] []))
            exact K72 q37f
theorem own_rem23 (p : Int32) : 0 ≤ (((p.toUInt32 >>> ((2 : Int32) &&& 31).toUInt32).toInt32) % (23 : Int32)).toInt ∧ (((p.toUInt32 >>> ((2 : Int32) &&& 31).toUInt32).toInt32) % (23 : Int32)).toInt ≤ 22 := by
  have h := c_iushr p 2 2 (by decide) (by decide)
  have e : ((2 ^ 2 : Nat) : Int) = 4 := by decide
  rw [e] at h
  have g := (c_irem ((p.toUInt32 >>> ((2 : Int32) &&& 31).toUInt32).toInt32) 23 23 (by decide)).1 (by rw [h]; omega)
  omega
theorem own_nn {j : Int32} (h : 0 ≤ j.toInt ∧ j.toInt ≤ 22) : ¬ j < 0 := by
  have q : (0 : Int32).toInt = 0 := by decide
  rw [Int32.lt_iff_toInt_lt]; omega
theorem own_lt23 {j : Int32} (h : 0 ≤ j.toInt ∧ j.toInt ≤ 22) : j.toNatClampNeg < 23 := by
  have := nat_of (own_nn h); omega
theorem own_pd0 : parseMethodDescriptor "(J)Z" = some ⟨[.long], some .boolean⟩ := by decide +kernel
theorem own_pn1 : plainName "com/example/tabularium/tabularium/io/XmlDocumentsIsCharacterPinLaw" = true := by first | (simp [plainName, overriddenIn]; done) | decide +kernel
theorem ef0 (m : MethodId) (x0 : Int64) (p1 : Int32) (p2 : Int32) : entryFrame m #[(.long x0), (.int p1), (.int p2)] maxLocals = mkF m 0 #[.val (.long x0), .second, .val (.int p1), .val (.int p2), .unset, .unset, .unset, .unset, .unset, .unset] [] := by first | (simp [entryFrame, mkF, argsToLocals, Value.category, maxLocals]; done) | rfl
def f0_331 (x0 : Int64) (p1 : Int32) (p2 : Int32) (w5_221 : Int64) (t0_314 : Int32) (t0_331 : Int32) : Int32 := if (f1 w5_221) = t0_331 then (1 : Int32) else (0 : Int32)
def f0_314 (x0 : Int64) (p1 : Int32) (p2 : Int32) (w5_221 : Int64) (t0_314 : Int32) : Int32 := if t0_314 = (0 : Int32) then (f0_331 x0 p1 p2 w5_221 t0_314 (1 : Int32)) else (f0_331 x0 p1 p2 w5_221 t0_314 (0 : Int32))
def f0_309 (x0 : Int64) (p1 : Int32) (p2 : Int32) (w5_221 : Int64) : Int32 := (f0_314 x0 p1 p2 w5_221 (1 : Int32))
def f0_291 (x0 : Int64) (p1 : Int32) (p2 : Int32) (w5_221 : Int64) : Int32 := if w5_221 = (65534 : Int64) then (f0_309 x0 p1 p2 w5_221) else if w5_221 = (65535 : Int64) then (f0_309 x0 p1 p2 w5_221) else (f0_314 x0 p1 p2 w5_221 (0 : Int32))
def f0_273 (x0 : Int64) (p1 : Int32) (p2 : Int32) (w5_221 : Int64) : Int32 := if w5_221 < (55296 : Int64) then (f0_291 x0 p1 p2 w5_221) else if (57343 : Int64) < w5_221 then (f0_291 x0 p1 p2 w5_221) else (f0_309 x0 p1 p2 w5_221)
def f0_221 (x0 : Int64) (p1 : Int32) (p2 : Int32) (w5_221 : Int64) : Int32 := if w5_221 < (0 : Int64) then (f0_309 x0 p1 p2 w5_221) else if (1114111 : Int64) < w5_221 then (f0_309 x0 p1 p2 w5_221) else if w5_221 < (32 : Int64) then (if w5_221 = (9 : Int64) then (f0_273 x0 p1 p2 w5_221) else if w5_221 = (10 : Int64) then (f0_273 x0 p1 p2 w5_221) else if w5_221 = (13 : Int64) then (f0_273 x0 p1 p2 w5_221) else (f0_309 x0 p1 p2 w5_221)) else (f0_273 x0 p1 p2 w5_221)
def f0_200 (x0 : Int64) (p1 : Int32) (p2 : Int32) (v8_200 : Int32) : Int32 := (f0_221 x0 p1 p2 (((own_upd (own_upd (own_upd (own_upd (own_upd (own_upd (own_upd (own_upd (own_upd (own_upd (own_upd (own_upd (own_upd (own_upd (own_upd (own_upd (own_upd (own_upd (own_upd (own_upd (own_upd (own_upd (own_upd (fun _ => (0 : Int64)) 0 (0 : Int64)) 1 (9 : Int64)) 2 (10 : Int64)) 3 (13 : Int64)) 4 (31 : Int64)) 5 (32 : Int64)) 6 (55295 : Int64)) 7 (55296 : Int64)) 8 (57343 : Int64)) 9 (57344 : Int64)) 10 (65533 : Int64)) 11 (65534 : Int64)) 12 (65535 : Int64)) 13 (65536 : Int64)) 14 (1114111 : Int64)) 15 (1114112 : Int64)) 16 (-1 : Int64)) 17 (-9223372036854775808 : Int64)) 18 (9223372036854775807 : Int64)) 19 (2147483647 : Int64)) 20 (-2147483648 : Int64)) 21 (127 : Int64)) 22 (128 : Int64)) v8_200.toNatClampNeg) + ((((p2 &&& (2147483647 : Int32)) % (5 : Int32)) - (2 : Int32)).toInt64)))
def f0 (x0 : Int64) (p1 : Int32) (p2 : Int32) : Int32 := if (p1 &&& (3 : Int32)) = (0 : Int32) then (f0_221 x0 p1 p2 x0) else if (p1 &&& (3 : Int32)) = (1 : Int32) then (f0_221 x0 p1 p2 (x0 &&& (2097151 : Int64))) else (f0_200 x0 p1 p2 (((p1.toUInt32 >>> ((2 : Int32) &&& 31).toUInt32).toInt32) % (23 : Int32)))
def Q0 (Z : State) (x0 : Int64) (p1 : Int32) (p2 : Int32) (h0 : Heap) (n0 : Nat) (v : Option Value) (h : Heap) (L : List Loc) : Prop := v = some (.int (f0 x0 p1 p2)) ∧ Fr n0 L ∧ True
set_option maxRecDepth 65536 in
set_option maxHeartbeats 40000000 in
theorem rm0 (l : Launch) (Z : State) (a0 : Array Value) (hw : ∀ d ∈ tables_1, d.before a0 Z = true) (ws : List Jvm.Cond) (x0 : Int64) (p1 : Int32) (p2 : Int32) (h0 : Heap) (n0 : Nat) (Z0 : n0 ≤ h0.size) :
    MetFree l x (head1 (Jvm.Cond.code x code maxLocals ret :: ws) room_1) (fun a U => a = #[(.long x0), (.int p1), (.int p2)] ∧ Z.Warmed39 U.vm ∧ U.heap = h0) (fun _ _ _ _ _ => True) (fun _ U o U' => ∃ v L, o = .returned v ∧ Q0 Z x0 p1 p2 h0 n0 v U'.heap L ∧ FrameEnd U o U' L room_1.cells room_1.slots) := by
  refine MetFree.of_bodySF (plainFor_of_name own_pn1) hisR ?_
  intro p e s m args below meth c s₁ Bd hml0 hP hK
  obtain ⟨rfl, hZ, hh⟩ := hP
  have hx := Bd.exec
  have hby := Bd.bytes
  have hml : c.maxLocals = 10 := hml0
  have hown : s.vm.findClass "com/example/tabularium/tabularium/io/XmlDocumentsIsCharacterPinLaw" = some m.cls := findClass_of_methodNamed Bd.named
  have hnm := (name_of_methodNamed Bd.named Bd.method).1
  have hlk : meth.locks = false := BodyLoose.notSynchronized Bd
  have X0 : Stand p l e room_1 s m #[(.long x0), (.int p1), (.int p2)] below meth c s₁ [] 0 0 := Stand.of_body Bd
  have e0 : s₁.heap = h0 := by rw [← hh, Bd.state]; rfl
  have N0 := Fr.nil n0
  obtain ⟨G, hG⟩ : ∃ G, G = own_G s (Q0 Z x0 p1 p2 h0 n0) room_1.cells room_1.slots := ⟨_, rfl⟩
  show own_Fin p e below (own_G s (Q0 Z x0 p1 p2 h0 n0) room_1.cells room_1.slots) (s₁.setTop (entryFrame m #[(.long x0), (.int p1), (.int p2)] maxLocals))
  rw [← hG]
  refine own_to (fun _ kz => castTop (ef0 m x0 p1 p2) kz) ?_
  have q0 : (f0 x0 p1 p2) = (f0 x0 p1 p2) := rfl
  show own_Fin p e below G (s₁.setTop (mkF m 0 #[.val (.long x0), .second, .val (.int p1), .val (.int p2), .unset, .unset, .unset, .unset, .unset, .unset] []))
  refine own_to (fun _ kz => XS.bipush X0.here hx rfl (hb hby at_0) kz) ?_
  show own_Fin p e below G (s₁.setTop (mkF m 2 #[.val (.long x0), .second, .val (.int p1), .val (.int p2), .unset, .unset, .unset, .unset, .unset, .unset] [(.int (23 : Int32))]))
  obtain ⟨T2, h2, k2, X2, e2, E2, A2, st2⟩ := newP X0 hx hZ (hw _ (List.mem_of_getElem? (i := 0) rfl)) e0 (g := (mkF m 2 #[.val (.long x0), .second, .val (.int p1), .val (.int p2), .unset, .unset, .unset, .unset, .unset, .unset] [(.int (23 : Int32))])) rfl (hb hby at_2) rfl (by decide) (cap := 23) (by decide) (by decide) (by decide) (by decide)
  obtain ⟨b2, g2⟩ : ∃ z, z = h0.size := ⟨_, rfl⟩
  rw [← g2] at A2 st2
  refine own_to st2 ?_
  have g_b2 : n0 ≤ b2 := Nat.le_trans Z0 (Nat.le_of_eq g2.symm)
  have V2 : own_AV Value.long Z h2 b2 .long 23 (fun _ => (0 : Int64)) := own_AV.new A2 (by decide) (by decide) (fun _ => rfl)
  show own_Fin p e below G (T2.setTop (mkF m 4 #[.val (.long x0), .second, .val (.int p1), .val (.int p2), .unset, .unset, .unset, .unset, .unset, .unset] [(.ref b2)]))
  refine own_to (fun _ kz => XS.dup X2.here hx rfl (hb hby at_4) rfl rfl kz) ?_
  show own_Fin p e below G (T2.setTop (mkF m 5 #[.val (.long x0), .second, .val (.int p1), .val (.int p2), .unset, .unset, .unset, .unset, .unset, .unset] [(.ref b2), (.ref b2)]))
  refine own_to (fun _ kz => XS.iconst X2.here hx rfl (hb hby at_5) kz) ?_
  show own_Fin p e below G (T2.setTop (mkF m 6 #[.val (.long x0), .second, .val (.int p1), .val (.int p2), .unset, .unset, .unset, .unset, .unset, .unset] [(.int (0 : Int32)), (.ref b2), (.ref b2)]))
  refine own_to (fun _ kz => XS.lconst X2.here hx rfl (hb hby at_6) kz) ?_
  show own_Fin p e below G (T2.setTop (mkF m 7 #[.val (.long x0), .second, .val (.int p1), .val (.int p2), .unset, .unset, .unset, .unset, .unset, .unset] [(.long (0 : Int64)), (.int (0 : Int32)), (.ref b2), (.ref b2)]))
  obtain ⟨nn7, cl7, Ar7, Sz7, Hs7⟩ := V2
  obtain ⟨T7, h7, X7, e7, W7, st7⟩ := stJ X2 hx hZ e2 Ar7 (j := (0 : Int32)) (own_in Sz7 (by decide) rfl (by decide)) (g := (mkF m 7 #[.val (.long x0), .second, .val (.int p1), .val (.int p2), .unset, .unset, .unset, .unset, .unset, .unset] [(.long (0 : Int64)), (.int (0 : Int32)), (.ref b2), (.ref b2)])) rfl rfl (hb hby at_7)
  refine own_to st7 ?_
  have V7 : own_AV Value.long Z h7 b2 .long 23 (own_upd (fun _ => (0 : Int64)) 0 (0 : Int64)) := own_AV.set nn7 Ar7 Sz7 Hs7 W7 rfl
  obtain ⟨lo7, X7, N7⟩ : ∃ lo, Stand p l e _ s m _ below meth c T7 lo _ _ ∧ Fr n0 lo := ⟨_, X7, Fr.snoc X7 N0 g_b2⟩
  show own_Fin p e below G (T7.setTop (mkF m 8 #[.val (.long x0), .second, .val (.int p1), .val (.int p2), .unset, .unset, .unset, .unset, .unset, .unset] [(.ref b2)]))
  refine own_to (fun _ kz => XS.dup X7.here hx rfl (hb hby at_8) rfl rfl kz) ?_
  show own_Fin p e below G (T7.setTop (mkF m 9 #[.val (.long x0), .second, .val (.int p1), .val (.int p2), .unset, .unset, .unset, .unset, .unset, .unset] [(.ref b2), (.ref b2)]))
  refine own_to (fun _ kz => XS.iconst X7.here hx rfl (hb hby at_9) kz) ?_
  show own_Fin p e below G (T7.setTop (mkF m 10 #[.val (.long x0), .second, .val (.int p1), .val (.int p2), .unset, .unset, .unset, .unset, .unset, .unset] [(.int (1 : Int32)), (.ref b2), (.ref b2)]))
  refine own_to (fun _ kz => X7.ldc2Long hx hown (mvT hZ (hw _ (List.mem_of_getElem? (i := 1) rfl))) (g := (mkF m 10 #[.val (.long x0), .second, .val (.int p1), .val (.int p2), .unset, .unset, .unset, .unset, .unset, .unset] [(.int (1 : Int32)), (.ref b2), (.ref b2)])) rfl (hb hby at_10) _ kz) ?_
  show own_Fin p e below G (T7.setTop (mkF m 13 #[.val (.long x0), .second, .val (.int p1), .val (.int p2), .unset, .unset, .unset, .unset, .unset, .unset] [(.long (9 : Int64)), (.int (1 : Int32)), (.ref b2), (.ref b2)]))
  obtain ⟨nn13, cl13, Ar13, Sz13, Hs13⟩ := V7
  obtain ⟨T13, h13, X13, e13, W13, st13⟩ := stJ X7 hx hZ e7 Ar13 (j := (1 : Int32)) (own_in Sz13 (by decide) rfl (by decide)) (g := (mkF m 13 #[.val (.long x0), .second, .val (.int p1), .val (.int p2), .unset, .unset, .unset, .unset, .unset, .unset] [(.long (9 : Int64)), (.int (1 : Int32)), (.ref b2), (.ref b2)])) rfl rfl (hb hby at_13)
  refine own_to st13 ?_
  have V13 : own_AV Value.long Z h13 b2 .long 23 (own_upd (own_upd (fun _ => (0 : Int64)) 0 (0 : Int64)) 1 (9 : Int64)) := own_AV.set nn13 Ar13 Sz13 Hs13 W13 rfl
  obtain ⟨lo13, X13, N13⟩ : ∃ lo, Stand p l e _ s m _ below meth c T13 lo _ _ ∧ Fr n0 lo := ⟨_, X13, Fr.snoc X13 N7 g_b2⟩
  show own_Fin p e below G (T13.setTop (mkF m 14 #[.val (.long x0), .second, .val (.int p1), .val (.int p2), .unset, .unset, .unset, .unset, .unset, .unset] [(.ref b2)]))
  refine own_to (fun _ kz => XS.dup X13.here hx rfl (hb hby at_14) rfl rfl kz) ?_
  show own_Fin p e below G (T13.setTop (mkF m 15 #[.val (.long x0), .second, .val (.int p1), .val (.int p2), .unset, .unset, .unset, .unset, .unset, .unset] [(.ref b2), (.ref b2)]))
  refine own_to (fun _ kz => XS.iconst X13.here hx rfl (hb hby at_15) kz) ?_
  show own_Fin p e below G (T13.setTop (mkF m 16 #[.val (.long x0), .second, .val (.int p1), .val (.int p2), .unset, .unset, .unset, .unset, .unset, .unset] [(.int (2 : Int32)), (.ref b2), (.ref b2)]))
  refine own_to (fun _ kz => X13.ldc2Long hx hown (mvT hZ (hw _ (List.mem_of_getElem? (i := 2) rfl))) (g := (mkF m 16 #[.val (.long x0), .second, .val (.int p1), .val (.int p2), .unset, .unset, .unset, .unset, .unset, .unset] [(.int (2 : Int32)), (.ref b2), (.ref b2)])) rfl (hb hby at_16) _ kz) ?_
  show own_Fin p e below G (T13.setTop (mkF m 19 #[.val (.long x0), .second, .val (.int p1), .val (.int p2), .unset, .unset, .unset, .unset, .unset, .unset] [(.long (10 : Int64)), (.int (2 : Int32)), (.ref b2), (.ref b2)]))
  obtain ⟨nn19, cl19, Ar19, Sz19, Hs19⟩ := V13
  obtain ⟨T19, h19, X19, e19, W19, st19⟩ := stJ X13 hx hZ e13 Ar19 (j := (2 : Int32)) (own_in Sz19 (by decide) rfl (by decide)) (g := (mkF m 19 #[.val (.long x0), .second, .val (.int p1), .val (.int p2), .unset, .unset, .unset, .unset, .unset, .unset] [(.long (10 : Int64)), (.int (2 : Int32)), (.ref b2), (.ref b2)])) rfl rfl (hb hby at_19)
  refine own_to st19 ?_
  have V19 : own_AV Value.long Z h19 b2 .long 23 (own_upd (own_upd (own_upd (fun _ => (0 : Int64)) 0 (0 : Int64)) 1 (9 : Int64)) 2 (10 : Int64)) := own_AV.set nn19 Ar19 Sz19 Hs19 W19 rfl
  obtain ⟨lo19, X19, N19⟩ : ∃ lo, Stand p l e _ s m _ below meth c T19 lo _ _ ∧ Fr n0 lo := ⟨_, X19, Fr.snoc X19 N13 g_b2⟩
  show own_Fin p e below G (T19.setTop (mkF m 20 #[.val (.long x0), .second, .val (.int p1), .val (.int p2), .unset, .unset, .unset, .unset, .unset, .unset] [(.ref b2)]))
  refine own_to (fun _ kz => XS.dup X19.here hx rfl (hb hby at_20) rfl rfl kz) ?_
  show own_Fin p e below G (T19.setTop (mkF m 21 #[.val (.long x0), .second, .val (.int p1), .val (.int p2), .unset, .unset, .unset, .unset, .unset, .unset] [(.ref b2), (.ref b2)]))
  refine own_to (fun _ kz => XS.iconst X19.here hx rfl (hb hby at_21) kz) ?_
  show own_Fin p e below G (T19.setTop (mkF m 22 #[.val (.long x0), .second, .val (.int p1), .val (.int p2), .unset, .unset, .unset, .unset, .unset, .unset] [(.int (3 : Int32)), (.ref b2), (.ref b2)]))
  refine own_to (fun _ kz => X19.ldc2Long hx hown (mvT hZ (hw _ (List.mem_of_getElem? (i := 3) rfl))) (g := (mkF m 22 #[.val (.long x0), .second, .val (.int p1), .val (.int p2), .unset, .unset, .unset, .unset, .unset, .unset] [(.int (3 : Int32)), (.ref b2), (.ref b2)])) rfl (hb hby at_22) _ kz) ?_
  show own_Fin p e below G (T19.setTop (mkF m 25 #[.val (.long x0), .second, .val (.int p1), .val (.int p2), .unset, .unset, .unset, .unset, .unset, .unset] [(.long (13 : Int64)), (.int (3 : Int32)), (.ref b2), (.ref b2)]))
  obtain ⟨nn25, cl25, Ar25, Sz25, Hs25⟩ := V19
  obtain ⟨T25, h25, X25, e25, W25, st25⟩ := stJ X19 hx hZ e19 Ar25 (j := (3 : Int32)) (own_in Sz25 (by decide) rfl (by decide)) (g := (mkF m 25 #[.val (.long x0), .second, .val (.int p1), .val (.int p2), .unset, .unset, .unset, .unset, .unset, .unset] [(.long (13 : Int64)), (.int (3 : Int32)), (.ref b2), (.ref b2)])) rfl rfl (hb hby at_25)
  refine own_to st25 ?_
  have V25 : own_AV Value.long Z h25 b2 .long 23 (own_upd (own_upd (own_upd (own_upd (fun _ => (0 : Int64)) 0 (0 : Int64)) 1 (9 : Int64)) 2 (10 : Int64)) 3 (13 : Int64)) := own_AV.set nn25 Ar25 Sz25 Hs25 W25 rfl
  obtain ⟨lo25, X25, N25⟩ : ∃ lo, Stand p l e _ s m _ below meth c T25 lo _ _ ∧ Fr n0 lo := ⟨_, X25, Fr.snoc X25 N19 g_b2⟩
  show own_Fin p e below G (T25.setTop (mkF m 26 #[.val (.long x0), .second, .val (.int p1), .val (.int p2), .unset, .unset, .unset, .unset, .unset, .unset] [(.ref b2)]))
  refine own_to (fun _ kz => XS.dup X25.here hx rfl (hb hby at_26) rfl rfl kz) ?_
  show own_Fin p e below G (T25.setTop (mkF m 27 #[.val (.long x0), .second, .val (.int p1), .val (.int p2), .unset, .unset, .unset, .unset, .unset, .unset] [(.ref b2), (.ref b2)]))
  refine own_to (fun _ kz => XS.iconst X25.here hx rfl (hb hby at_27) kz) ?_
  show own_Fin p e below G (T25.setTop (mkF m 28 #[.val (.long x0), .second, .val (.int p1), .val (.int p2), .unset, .unset, .unset, .unset, .unset, .unset] [(.int (4 : Int32)), (.ref b2), (.ref b2)]))
  refine own_to (fun _ kz => X25.ldc2Long hx hown (mvT hZ (hw _ (List.mem_of_getElem? (i := 4) rfl))) (g := (mkF m 28 #[.val (.long x0), .second, .val (.int p1), .val (.int p2), .unset, .unset, .unset, .unset, .unset, .unset] [(.int (4 : Int32)), (.ref b2), (.ref b2)])) rfl (hb hby at_28) _ kz) ?_
  show own_Fin p e below G (T25.setTop (mkF m 31 #[.val (.long x0), .second, .val (.int p1), .val (.int p2), .unset, .unset, .unset, .unset, .unset, .unset] [(.long (31 : Int64)), (.int (4 : Int32)), (.ref b2), (.ref b2)]))
  obtain ⟨nn31, cl31, Ar31, Sz31, Hs31⟩ := V25
  obtain ⟨T31, h31, X31, e31, W31, st31⟩ := stJ X25 hx hZ e25 Ar31 (j := (4 : Int32)) (own_in Sz31 (by decide) rfl (by decide)) (g := (mkF m 31 #[.val (.long x0), .second, .val (.int p1), .val (.int p2), .unset, .unset, .unset, .unset, .unset, .unset] [(.long (31 : Int64)), (.int (4 : Int32)), (.ref b2), (.ref b2)])) rfl rfl (hb hby at_31)
  refine own_to st31 ?_
  have V31 : own_AV Value.long Z h31 b2 .long 23 (own_upd (own_upd (own_upd (own_upd (own_upd (fun _ => (0 : Int64)) 0 (0 : Int64)) 1 (9 : Int64)) 2 (10 : Int64)) 3 (13 : Int64)) 4 (31 : Int64)) := own_AV.set nn31 Ar31 Sz31 Hs31 W31 rfl
  obtain ⟨lo31, X31, N31⟩ : ∃ lo, Stand p l e _ s m _ below meth c T31 lo _ _ ∧ Fr n0 lo := ⟨_, X31, Fr.snoc X31 N25 g_b2⟩
  show own_Fin p e below G (T31.setTop (mkF m 32 #[.val (.long x0), .second, .val (.int p1), .val (.int p2), .unset, .unset, .unset, .unset, .unset, .unset] [(.ref b2)]))
  refine own_to (fun _ kz => XS.dup X31.here hx rfl (hb hby at_32) rfl rfl kz) ?_
  show own_Fin p e below G (T31.setTop (mkF m 33 #[.val (.long x0), .second, .val (.int p1), .val (.int p2), .unset, .unset, .unset, .unset, .unset, .unset] [(.ref b2), (.ref b2)]))
  refine own_to (fun _ kz => XS.iconst X31.here hx rfl (hb hby at_33) kz) ?_
  show own_Fin p e below G (T31.setTop (mkF m 34 #[.val (.long x0), .second, .val (.int p1), .val (.int p2), .unset, .unset, .unset, .unset, .unset, .unset] [(.int (5 : Int32)), (.ref b2), (.ref b2)]))
  refine own_to (fun _ kz => X31.ldc2Long hx hown (mvT hZ (hw _ (List.mem_of_getElem? (i := 5) rfl))) (g := (mkF m 34 #[.val (.long x0), .second, .val (.int p1), .val (.int p2), .unset, .unset, .unset, .unset, .unset, .unset] [(.int (5 : Int32)), (.ref b2), (.ref b2)])) rfl (hb hby at_34) _ kz) ?_
  show own_Fin p e below G (T31.setTop (mkF m 37 #[.val (.long x0), .second, .val (.int p1), .val (.int p2), .unset, .unset, .unset, .unset, .unset, .unset] [(.long (32 : Int64)), (.int (5 : Int32)), (.ref b2), (.ref b2)]))
  obtain ⟨nn37, cl37, Ar37, Sz37, Hs37⟩ := V31
  obtain ⟨T37, h37, X37, e37, W37, st37⟩ := stJ X31 hx hZ e31 Ar37 (j := (5 : Int32)) (own_in Sz37 (by decide) rfl (by decide)) (g := (mkF m 37 #[.val (.long x0), .second, .val (.int p1), .val (.int p2), .unset, .unset, .unset, .unset, .unset, .unset] [(.long (32 : Int64)), (.int (5 : Int32)), (.ref b2), (.ref b2)])) rfl rfl (hb hby at_37)
  refine own_to st37 ?_
  have V37 : own_AV Value.long Z h37 b2 .long 23 (own_upd (own_upd (own_upd (own_upd (own_upd (own_upd (fun _ => (0 : Int64)) 0 (0 : Int64)) 1 (9 : Int64)) 2 (10 : Int64)) 3 (13 : Int64)) 4 (31 : Int64)) 5 (32 : Int64)) := own_AV.set nn37 Ar37 Sz37 Hs37 W37 rfl
  obtain ⟨lo37, X37, N37⟩ : ∃ lo, Stand p l e _ s m _ below meth c T37 lo _ _ ∧ Fr n0 lo := ⟨_, X37, Fr.snoc X37 N31 g_b2⟩
  show own_Fin p e below G (T37.setTop (mkF m 38 #[.val (.long x0), .second, .val (.int p1), .val (.int p2), .unset, .unset, .unset, .unset, .unset, .unset] [(.ref b2)]))
  refine own_to (fun _ kz => XS.dup X37.here hx rfl (hb hby at_38) rfl rfl kz) ?_
  show own_Fin p e below G (T37.setTop (mkF m 39 #[.val (.long x0), .second, .val (.int p1), .val (.int p2), .unset, .unset, .unset, .unset, .unset, .unset] [(.ref b2), (.ref b2)]))
  refine own_to (fun _ kz => XS.bipush X37.here hx rfl (hb hby at_39) kz) ?_
  show own_Fin p e below G (T37.setTop (mkF m 41 #[.val (.long x0), .second, .val (.int p1), .val (.int p2), .unset, .unset, .unset, .unset, .unset, .unset] [(.int (6 : Int32)), (.ref b2), (.ref b2)]))
  refine own_to (fun _ kz => X37.ldc2Long hx hown (mvT hZ (hw _ (List.mem_of_getElem? (i := 6) rfl))) (g := (mkF m 41 #[.val (.long x0), .second, .val (.int p1), .val (.int p2), .unset, .unset, .unset, .unset, .unset, .unset] [(.int (6 : Int32)), (.ref b2), (.ref b2)])) rfl (hb hby at_41) _ kz) ?_
  show own_Fin p e below G (T37.setTop (mkF m 44 #[.val (.long x0), .second, .val (.int p1), .val (.int p2), .unset, .unset, .unset, .unset, .unset, .unset] [(.long (55295 : Int64)), (.int (6 : Int32)), (.ref b2), (.ref b2)]))
  obtain ⟨nn44, cl44, Ar44, Sz44, Hs44⟩ := V37
  obtain ⟨T44, h44, X44, e44, W44, st44⟩ := stJ X37 hx hZ e37 Ar44 (j := (6 : Int32)) (own_in Sz44 (by decide) rfl (by decide)) (g := (mkF m 44 #[.val (.long x0), .second, .val (.int p1), .val (.int p2), .unset, .unset, .unset, .unset, .unset, .unset] [(.long (55295 : Int64)), (.int (6 : Int32)), (.ref b2), (.ref b2)])) rfl rfl (hb hby at_44)
  refine own_to st44 ?_
  have V44 : own_AV Value.long Z h44 b2 .long 23 (own_upd (own_upd (own_upd (own_upd (own_upd (own_upd (own_upd (fun _ => (0 : Int64)) 0 (0 : Int64)) 1 (9 : Int64)) 2 (10 : Int64)) 3 (13 : Int64)) 4 (31 : Int64)) 5 (32 : Int64)) 6 (55295 : Int64)) := own_AV.set nn44 Ar44 Sz44 Hs44 W44 rfl
  obtain ⟨lo44, X44, N44⟩ : ∃ lo, Stand p l e _ s m _ below meth c T44 lo _ _ ∧ Fr n0 lo := ⟨_, X44, Fr.snoc X44 N37 g_b2⟩
  show own_Fin p e below G (T44.setTop (mkF m 45 #[.val (.long x0), .second, .val (.int p1), .val (.int p2), .unset, .unset, .unset, .unset, .unset, .unset] [(.ref b2)]))
  refine own_to (fun _ kz => XS.dup X44.here hx rfl (hb hby at_45) rfl rfl kz) ?_
  show own_Fin p e below G (T44.setTop (mkF m 46 #[.val (.long x0), .second, .val (.int p1), .val (.int p2), .unset, .unset, .unset, .unset, .unset, .unset] [(.ref b2), (.ref b2)]))
  refine own_to (fun _ kz => XS.bipush X44.here hx rfl (hb hby at_46) kz) ?_
  show own_Fin p e below G (T44.setTop (mkF m 48 #[.val (.long x0), .second, .val (.int p1), .val (.int p2), .unset, .unset, .unset, .unset, .unset, .unset] [(.int (7 : Int32)), (.ref b2), (.ref b2)]))
  refine own_to (fun _ kz => X44.ldc2Long hx hown (mvT hZ (hw _ (List.mem_of_getElem? (i := 7) rfl))) (g := (mkF m 48 #[.val (.long x0), .second, .val (.int p1), .val (.int p2), .unset, .unset, .unset, .unset, .unset, .unset] [(.int (7 : Int32)), (.ref b2), (.ref b2)])) rfl (hb hby at_48) _ kz) ?_
  show own_Fin p e below G (T44.setTop (mkF m 51 #[.val (.long x0), .second, .val (.int p1), .val (.int p2), .unset, .unset, .unset, .unset, .unset, .unset] [(.long (55296 : Int64)), (.int (7 : Int32)), (.ref b2), (.ref b2)]))
  obtain ⟨nn51, cl51, Ar51, Sz51, Hs51⟩ := V44
  obtain ⟨T51, h51, X51, e51, W51, st51⟩ := stJ X44 hx hZ e44 Ar51 (j := (7 : Int32)) (own_in Sz51 (by decide) rfl (by decide)) (g := (mkF m 51 #[.val (.long x0), .second, .val (.int p1), .val (.int p2), .unset, .unset, .unset, .unset, .unset, .unset] [(.long (55296 : Int64)), (.int (7 : Int32)), (.ref b2), (.ref b2)])) rfl rfl (hb hby at_51)
  refine own_to st51 ?_
  have V51 : own_AV Value.long Z h51 b2 .long 23 (own_upd (own_upd (own_upd (own_upd (own_upd (own_upd (own_upd (own_upd (fun _ => (0 : Int64)) 0 (0 : Int64)) 1 (9 : Int64)) 2 (10 : Int64)) 3 (13 : Int64)) 4 (31 : Int64)) 5 (32 : Int64)) 6 (55295 : Int64)) 7 (55296 : Int64)) := own_AV.set nn51 Ar51 Sz51 Hs51 W51 rfl
  obtain ⟨lo51, X51, N51⟩ : ∃ lo, Stand p l e _ s m _ below meth c T51 lo _ _ ∧ Fr n0 lo := ⟨_, X51, Fr.snoc X51 N44 g_b2⟩
  show own_Fin p e below G (T51.setTop (mkF m 52 #[.val (.long x0), .second, .val (.int p1), .val (.int p2), .unset, .unset, .unset, .unset, .unset, .unset] [(.ref b2)]))
  refine own_to (fun _ kz => XS.dup X51.here hx rfl (hb hby at_52) rfl rfl kz) ?_
  show own_Fin p e below G (T51.setTop (mkF m 53 #[.val (.long x0), .second, .val (.int p1), .val (.int p2), .unset, .unset, .unset, .unset, .unset, .unset] [(.ref b2), (.ref b2)]))
  refine own_to (fun _ kz => XS.bipush X51.here hx rfl (hb hby at_53) kz) ?_
  show own_Fin p e below G (T51.setTop (mkF m 55 #[.val (.long x0), .second, .val (.int p1), .val (.int p2), .unset, .unset, .unset, .unset, .unset, .unset] [(.int (8 : Int32)), (.ref b2), (.ref b2)]))
  refine own_to (fun _ kz => X51.ldc2Long hx hown (mvT hZ (hw _ (List.mem_of_getElem? (i := 8) rfl))) (g := (mkF m 55 #[.val (.long x0), .second, .val (.int p1), .val (.int p2), .unset, .unset, .unset, .unset, .unset, .unset] [(.int (8 : Int32)), (.ref b2), (.ref b2)])) rfl (hb hby at_55) _ kz) ?_
  show own_Fin p e below G (T51.setTop (mkF m 58 #[.val (.long x0), .second, .val (.int p1), .val (.int p2), .unset, .unset, .unset, .unset, .unset, .unset] [(.long (57343 : Int64)), (.int (8 : Int32)), (.ref b2), (.ref b2)]))
  obtain ⟨nn58, cl58, Ar58, Sz58, Hs58⟩ := V51
  obtain ⟨T58, h58, X58, e58, W58, st58⟩ := stJ X51 hx hZ e51 Ar58 (j := (8 : Int32)) (own_in Sz58 (by decide) rfl (by decide)) (g := (mkF m 58 #[.val (.long x0), .second, .val (.int p1), .val (.int p2), .unset, .unset, .unset, .unset, .unset, .unset] [(.long (57343 : Int64)), (.int (8 : Int32)), (.ref b2), (.ref b2)])) rfl rfl (hb hby at_58)
  refine own_to st58 ?_
  have V58 : own_AV Value.long Z h58 b2 .long 23 (own_upd (own_upd (own_upd (own_upd (own_upd (own_upd (own_upd (own_upd (own_upd (fun _ => (0 : Int64)) 0 (0 : Int64)) 1 (9 : Int64)) 2 (10 : Int64)) 3 (13 : Int64)) 4 (31 : Int64)) 5 (32 : Int64)) 6 (55295 : Int64)) 7 (55296 : Int64)) 8 (57343 : Int64)) := own_AV.set nn58 Ar58 Sz58 Hs58 W58 rfl
  obtain ⟨lo58, X58, N58⟩ : ∃ lo, Stand p l e _ s m _ below meth c T58 lo _ _ ∧ Fr n0 lo := ⟨_, X58, Fr.snoc X58 N51 g_b2⟩
  show own_Fin p e below G (T58.setTop (mkF m 59 #[.val (.long x0), .second, .val (.int p1), .val (.int p2), .unset, .unset, .unset, .unset, .unset, .unset] [(.ref b2)]))
  refine own_to (fun _ kz => XS.dup X58.here hx rfl (hb hby at_59) rfl rfl kz) ?_
  show own_Fin p e below G (T58.setTop (mkF m 60 #[.val (.long x0), .second, .val (.int p1), .val (.int p2), .unset, .unset, .unset, .unset, .unset, .unset] [(.ref b2), (.ref b2)]))
  refine own_to (fun _ kz => XS.bipush X58.here hx rfl (hb hby at_60) kz) ?_
  show own_Fin p e below G (T58.setTop (mkF m 62 #[.val (.long x0), .second, .val (.int p1), .val (.int p2), .unset, .unset, .unset, .unset, .unset, .unset] [(.int (9 : Int32)), (.ref b2), (.ref b2)]))
  refine own_to (fun _ kz => X58.ldc2Long hx hown (mvT hZ (hw _ (List.mem_of_getElem? (i := 9) rfl))) (g := (mkF m 62 #[.val (.long x0), .second, .val (.int p1), .val (.int p2), .unset, .unset, .unset, .unset, .unset, .unset] [(.int (9 : Int32)), (.ref b2), (.ref b2)])) rfl (hb hby at_62) _ kz) ?_
  show own_Fin p e below G (T58.setTop (mkF m 65 #[.val (.long x0), .second, .val (.int p1), .val (.int p2), .unset, .unset, .unset, .unset, .unset, .unset] [(.long (57344 : Int64)), (.int (9 : Int32)), (.ref b2), (.ref b2)]))
  obtain ⟨nn65, cl65, Ar65, Sz65, Hs65⟩ := V58
  obtain ⟨T65, h65, X65, e65, W65, st65⟩ := stJ X58 hx hZ e58 Ar65 (j := (9 : Int32)) (own_in Sz65 (by decide) rfl (by decide)) (g := (mkF m 65 #[.val (.long x0), .second, .val (.int p1), .val (.int p2), .unset, .unset, .unset, .unset, .unset, .unset] [(.long (57344 : Int64)), (.int (9 : Int32)), (.ref b2), (.ref b2)])) rfl rfl (hb hby at_65)
  refine own_to st65 ?_
  have V65 : own_AV Value.long Z h65 b2 .long 23 (own_upd (own_upd (own_upd (own_upd (own_upd (own_upd (own_upd (own_upd (own_upd (own_upd (fun _ => (0 : Int64)) 0 (0 : Int64)) 1 (9 : Int64)) 2 (10 : Int64)) 3 (13 : Int64)) 4 (31 : Int64)) 5 (32 : Int64)) 6 (55295 : Int64)) 7 (55296 : Int64)) 8 (57343 : Int64)) 9 (57344 : Int64)) := own_AV.set nn65 Ar65 Sz65 Hs65 W65 rfl
  obtain ⟨lo65, X65, N65⟩ : ∃ lo, Stand p l e _ s m _ below meth c T65 lo _ _ ∧ Fr n0 lo := ⟨_, X65, Fr.snoc X65 N58 g_b2⟩
  show own_Fin p e below G (T65.setTop (mkF m 66 #[.val (.long x0), .second, .val (.int p1), .val (.int p2), .unset, .unset, .unset, .unset, .unset, .unset] [(.ref b2)]))
  refine own_to (fun _ kz => XS.dup X65.here hx rfl (hb hby at_66) rfl rfl kz) ?_
  show own_Fin p e below G (T65.setTop (mkF m 67 #[.val (.long x0), .second, .val (.int p1), .val (.int p2), .unset, .unset, .unset, .unset, .unset, .unset] [(.ref b2), (.ref b2)]))
  refine own_to (fun _ kz => XS.bipush X65.here hx rfl (hb hby at_67) kz) ?_
  show own_Fin p e below G (T65.setTop (mkF m 69 #[.val (.long x0), .second, .val (.int p1), .val (.int p2), .unset, .unset, .unset, .unset, .unset, .unset] [(.int (10 : Int32)), (.ref b2), (.ref b2)]))
  refine own_to (fun _ kz => X65.ldc2Long hx hown (mvT hZ (hw _ (List.mem_of_getElem? (i := 10) rfl))) (g := (mkF m 69 #[.val (.long x0), .second, .val (.int p1), .val (.int p2), .unset, .unset, .unset, .unset, .unset, .unset] [(.int (10 : Int32)), (.ref b2), (.ref b2)])) rfl (hb hby at_69) _ kz) ?_
  show own_Fin p e below G (T65.setTop (mkF m 72 #[.val (.long x0), .second, .val (.int p1), .val (.int p2), .unset, .unset, .unset, .unset, .unset, .unset] [(.long (65533 : Int64)), (.int (10 : Int32)), (.ref b2), (.ref b2)]))
  obtain ⟨nn72, cl72, Ar72, Sz72, Hs72⟩ := V65
  obtain ⟨T72, h72, X72, e72, W72, st72⟩ := stJ X65 hx hZ e65 Ar72 (j := (10 : Int32)) (own_in Sz72 (by decide) rfl (by decide)) (g := (mkF m 72 #[.val (.long x0), .second, .val (.int p1), .val (.int p2), .unset, .unset, .unset, .unset, .unset, .unset] [(.long (65533 : Int64)), (.int (10 : Int32)), (.ref b2), (.ref b2)])) rfl rfl (hb hby at_72)
  refine own_to st72 ?_
  have V72 : own_AV Value.long Z h72 b2 .long 23 (own_upd (own_upd (own_upd (own_upd (own_upd (own_upd (own_upd (own_upd (own_upd (own_upd (own_upd (fun _ => (0 : Int64)) 0 (0 : Int64)) 1 (9 : Int64)) 2 (10 : Int64)) 3 (13 : Int64)) 4 (31 : Int64)) 5 (32 : Int64)) 6 (55295 : Int64)) 7 (55296 : Int64)) 8 (57343 : Int64)) 9 (57344 : Int64)) 10 (65533 : Int64)) := own_AV.set nn72 Ar72 Sz72 Hs72 W72 rfl
  obtain ⟨lo72, X72, N72⟩ : ∃ lo, Stand p l e _ s m _ below meth c T72 lo _ _ ∧ Fr n0 lo := ⟨_, X72, Fr.snoc X72 N65 g_b2⟩
  show own_Fin p e below G (T72.setTop (mkF m 73 #[.val (.long x0), .second, .val (.int p1), .val (.int p2), .unset, .unset, .unset, .unset, .unset, .unset] [(.ref b2)]))
  refine own_to (fun _ kz => XS.dup X72.here hx rfl (hb hby at_73) rfl rfl kz) ?_
  show own_Fin p e below G (T72.setTop (mkF m 74 #[.val (.long x0), .second, .val (.int p1), .val (.int p2), .unset, .unset, .unset, .unset, .unset, .unset] [(.ref b2), (.ref b2)]))
  refine own_to (fun _ kz => XS.bipush X72.here hx rfl (hb hby at_74) kz) ?_
  show own_Fin p e below G (T72.setTop (mkF m 76 #[.val (.long x0), .second, .val (.int p1), .val (.int p2), .unset, .unset, .unset, .unset, .unset, .unset] [(.int (11 : Int32)), (.ref b2), (.ref b2)]))
  refine own_to (fun _ kz => X72.ldc2Long hx hown (mvT hZ (hw _ (List.mem_of_getElem? (i := 11) rfl))) (g := (mkF m 76 #[.val (.long x0), .second, .val (.int p1), .val (.int p2), .unset, .unset, .unset, .unset, .unset, .unset] [(.int (11 : Int32)), (.ref b2), (.ref b2)])) rfl (hb hby at_76) _ kz) ?_
  show own_Fin p e below G (T72.setTop (mkF m 79 #[.val (.long x0), .second, .val (.int p1), .val (.int p2), .unset, .unset, .unset, .unset, .unset, .unset] [(.long (65534 : Int64)), (.int (11 : Int32)), (.ref b2), (.ref b2)]))
  obtain ⟨nn79, cl79, Ar79, Sz79, Hs79⟩ := V72
  obtain ⟨T79, h79, X79, e79, W79, st79⟩ := stJ X72 hx hZ e72 Ar79 (j := (11 : Int32)) (own_in Sz79 (by decide) rfl (by decide)) (g := (mkF m 79 #[.val (.long x0), .second, .val (.int p1), .val (.int p2), .unset, .unset, .unset, .unset, .unset, .unset] [(.long (65534 : Int64)), (.int (11 : Int32)), (.ref b2), (.ref b2)])) rfl rfl (hb hby at_79)
  refine own_to st79 ?_
  have V79 : own_AV Value.long Z h79 b2 .long 23 (own_upd (own_upd (own_upd (own_upd (own_upd (own_upd (own_upd (own_upd (own_upd (own_upd (own_upd (own_upd (fun _ => (0 : Int64)) 0 (0 : Int64)) 1 (9 : Int64)) 2 (10 : Int64)) 3 (13 : Int64)) 4 (31 : Int64)) 5 (32 : Int64)) 6 (55295 : Int64)) 7 (55296 : Int64)) 8 (57343 : Int64)) 9 (57344 : Int64)) 10 (65533 : Int64)) 11 (65534 : Int64)) := own_AV.set nn79 Ar79 Sz79 Hs79 W79 rfl
  obtain ⟨lo79, X79, N79⟩ : ∃ lo, Stand p l e _ s m _ below meth c T79 lo _ _ ∧ Fr n0 lo := ⟨_, X79, Fr.snoc X79 N72 g_b2⟩
  show own_Fin p e below G (T79.setTop (mkF m 80 #[.val (.long x0), .second, .val (.int p1), .val (.int p2), .unset, .unset, .unset, .unset, .unset, .unset] [(.ref b2)]))
  refine own_to (fun _ kz => XS.dup X79.here hx rfl (hb hby at_80) rfl rfl kz) ?_
  show own_Fin p e below G (T79.setTop (mkF m 81 #[.val (.long x0), .second, .val (.int p1), .val (.int p2), .unset, .unset, .unset, .unset, .unset, .unset] [(.ref b2), (.ref b2)]))
  refine own_to (fun _ kz => XS.bipush X79.here hx rfl (hb hby at_81) kz) ?_
  show own_Fin p e below G (T79.setTop (mkF m 83 #[.val (.long x0), .second, .val (.int p1), .val (.int p2), .unset, .unset, .unset, .unset, .unset, .unset] [(.int (12 : Int32)), (.ref b2), (.ref b2)]))
  refine own_to (fun _ kz => X79.ldc2Long hx hown (mvT hZ (hw _ (List.mem_of_getElem? (i := 12) rfl))) (g := (mkF m 83 #[.val (.long x0), .second, .val (.int p1), .val (.int p2), .unset, .unset, .unset, .unset, .unset, .unset] [(.int (12 : Int32)), (.ref b2), (.ref b2)])) rfl (hb hby at_83) _ kz) ?_
  show own_Fin p e below G (T79.setTop (mkF m 86 #[.val (.long x0), .second, .val (.int p1), .val (.int p2), .unset, .unset, .unset, .unset, .unset, .unset] [(.long (65535 : Int64)), (.int (12 : Int32)), (.ref b2), (.ref b2)]))
  obtain ⟨nn86, cl86, Ar86, Sz86, Hs86⟩ := V79
  obtain ⟨T86, h86, X86, e86, W86, st86⟩ := stJ X79 hx hZ e79 Ar86 (j := (12 : Int32)) (own_in Sz86 (by decide) rfl (by decide)) (g := (mkF m 86 #[.val (.long x0), .second, .val (.int p1), .val (.int p2), .unset, .unset, .unset, .unset, .unset, .unset] [(.long (65535 : Int64)), (.int (12 : Int32)), (.ref b2), (.ref b2)])) rfl rfl (hb hby at_86)
  refine own_to st86 ?_
  have V86 : own_AV Value.long Z h86 b2 .long 23 (own_upd (own_upd (own_upd (own_upd (own_upd (own_upd (own_upd (own_upd (own_upd (own_upd (own_upd (own_upd (own_upd (fun _ => (0 : Int64)) 0 (0 : Int64)) 1 (9 : Int64)) 2 (10 : Int64)) 3 (13 : Int64)) 4 (31 : Int64)) 5 (32 : Int64)) 6 (55295 : Int64)) 7 (55296 : Int64)) 8 (57343 : Int64)) 9 (57344 : Int64)) 10 (65533 : Int64)) 11 (65534 : Int64)) 12 (65535 : Int64)) := own_AV.set nn86 Ar86 Sz86 Hs86 W86 rfl
  obtain ⟨lo86, X86, N86⟩ : ∃ lo, Stand p l e _ s m _ below meth c T86 lo _ _ ∧ Fr n0 lo := ⟨_, X86, Fr.snoc X86 N79 g_b2⟩
  show own_Fin p e below G (T86.setTop (mkF m 87 #[.val (.long x0), .second, .val (.int p1), .val (.int p2), .unset, .unset, .unset, .unset, .unset, .unset] [(.ref b2)]))
  refine own_to (fun _ kz => XS.dup X86.here hx rfl (hb hby at_87) rfl rfl kz) ?_
  show own_Fin p e below G (T86.setTop (mkF m 88 #[.val (.long x0), .second, .val (.int p1), .val (.int p2), .unset, .unset, .unset, .unset, .unset, .unset] [(.ref b2), (.ref b2)]))
  refine own_to (fun _ kz => XS.bipush X86.here hx rfl (hb hby at_88) kz) ?_
  show own_Fin p e below G (T86.setTop (mkF m 90 #[.val (.long x0), .second, .val (.int p1), .val (.int p2), .unset, .unset, .unset, .unset, .unset, .unset] [(.int (13 : Int32)), (.ref b2), (.ref b2)]))
  refine own_to (fun _ kz => X86.ldc2Long hx hown (mvT hZ (hw _ (List.mem_of_getElem? (i := 13) rfl))) (g := (mkF m 90 #[.val (.long x0), .second, .val (.int p1), .val (.int p2), .unset, .unset, .unset, .unset, .unset, .unset] [(.int (13 : Int32)), (.ref b2), (.ref b2)])) rfl (hb hby at_90) _ kz) ?_
  show own_Fin p e below G (T86.setTop (mkF m 93 #[.val (.long x0), .second, .val (.int p1), .val (.int p2), .unset, .unset, .unset, .unset, .unset, .unset] [(.long (65536 : Int64)), (.int (13 : Int32)), (.ref b2), (.ref b2)]))
  obtain ⟨nn93, cl93, Ar93, Sz93, Hs93⟩ := V86
  obtain ⟨T93, h93, X93, e93, W93, st93⟩ := stJ X86 hx hZ e86 Ar93 (j := (13 : Int32)) (own_in Sz93 (by decide) rfl (by decide)) (g := (mkF m 93 #[.val (.long x0), .second, .val (.int p1), .val (.int p2), .unset, .unset, .unset, .unset, .unset, .unset] [(.long (65536 : Int64)), (.int (13 : Int32)), (.ref b2), (.ref b2)])) rfl rfl (hb hby at_93)
  refine own_to st93 ?_
  have V93 : own_AV Value.long Z h93 b2 .long 23 (own_upd (own_upd (own_upd (own_upd (own_upd (own_upd (own_upd (own_upd (own_upd (own_upd (own_upd (own_upd (own_upd (own_upd (fun _ => (0 : Int64)) 0 (0 : Int64)) 1 (9 : Int64)) 2 (10 : Int64)) 3 (13 : Int64)) 4 (31 : Int64)) 5 (32 : Int64)) 6 (55295 : Int64)) 7 (55296 : Int64)) 8 (57343 : Int64)) 9 (57344 : Int64)) 10 (65533 : Int64)) 11 (65534 : Int64)) 12 (65535 : Int64)) 13 (65536 : Int64)) := own_AV.set nn93 Ar93 Sz93 Hs93 W93 rfl
  obtain ⟨lo93, X93, N93⟩ : ∃ lo, Stand p l e _ s m _ below meth c T93 lo _ _ ∧ Fr n0 lo := ⟨_, X93, Fr.snoc X93 N86 g_b2⟩
  show own_Fin p e below G (T93.setTop (mkF m 94 #[.val (.long x0), .second, .val (.int p1), .val (.int p2), .unset, .unset, .unset, .unset, .unset, .unset] [(.ref b2)]))
  refine own_to (fun _ kz => XS.dup X93.here hx rfl (hb hby at_94) rfl rfl kz) ?_
  show own_Fin p e below G (T93.setTop (mkF m 95 #[.val (.long x0), .second, .val (.int p1), .val (.int p2), .unset, .unset, .unset, .unset, .unset, .unset] [(.ref b2), (.ref b2)]))
  refine own_to (fun _ kz => XS.bipush X93.here hx rfl (hb hby at_95) kz) ?_
  show own_Fin p e below G (T93.setTop (mkF m 97 #[.val (.long x0), .second, .val (.int p1), .val (.int p2), .unset, .unset, .unset, .unset, .unset, .unset] [(.int (14 : Int32)), (.ref b2), (.ref b2)]))
  refine own_to (fun _ kz => X93.ldc2Long hx hown (mvT hZ (hw _ (List.mem_of_getElem? (i := 14) rfl))) (g := (mkF m 97 #[.val (.long x0), .second, .val (.int p1), .val (.int p2), .unset, .unset, .unset, .unset, .unset, .unset] [(.int (14 : Int32)), (.ref b2), (.ref b2)])) rfl (hb hby at_97) _ kz) ?_
  show own_Fin p e below G (T93.setTop (mkF m 100 #[.val (.long x0), .second, .val (.int p1), .val (.int p2), .unset, .unset, .unset, .unset, .unset, .unset] [(.long (1114111 : Int64)), (.int (14 : Int32)), (.ref b2), (.ref b2)]))
  obtain ⟨nn100, cl100, Ar100, Sz100, Hs100⟩ := V93
  obtain ⟨T100, h100, X100, e100, W100, st100⟩ := stJ X93 hx hZ e93 Ar100 (j := (14 : Int32)) (own_in Sz100 (by decide) rfl (by decide)) (g := (mkF m 100 #[.val (.long x0), .second, .val (.int p1), .val (.int p2), .unset, .unset, .unset, .unset, .unset, .unset] [(.long (1114111 : Int64)), (.int (14 : Int32)), (.ref b2), (.ref b2)])) rfl rfl (hb hby at_100)
  refine own_to st100 ?_
  have V100 : own_AV Value.long Z h100 b2 .long 23 (own_upd (own_upd (own_upd (own_upd (own_upd (own_upd (own_upd (own_upd (own_upd (own_upd (own_upd (own_upd (own_upd (own_upd (own_upd (fun _ => (0 : Int64)) 0 (0 : Int64)) 1 (9 : Int64)) 2 (10 : Int64)) 3 (13 : Int64)) 4 (31 : Int64)) 5 (32 : Int64)) 6 (55295 : Int64)) 7 (55296 : Int64)) 8 (57343 : Int64)) 9 (57344 : Int64)) 10 (65533 : Int64)) 11 (65534 : Int64)) 12 (65535 : Int64)) 13 (65536 : Int64)) 14 (1114111 : Int64)) := own_AV.set nn100 Ar100 Sz100 Hs100 W100 rfl
  obtain ⟨lo100, X100, N100⟩ : ∃ lo, Stand p l e _ s m _ below meth c T100 lo _ _ ∧ Fr n0 lo := ⟨_, X100, Fr.snoc X100 N93 g_b2⟩
  show own_Fin p e below G (T100.setTop (mkF m 101 #[.val (.long x0), .second, .val (.int p1), .val (.int p2), .unset, .unset, .unset, .unset, .unset, .unset] [(.ref b2)]))
  refine own_to (fun _ kz => XS.dup X100.here hx rfl (hb hby at_101) rfl rfl kz) ?_
  show own_Fin p e below G (T100.setTop (mkF m 102 #[.val (.long x0), .second, .val (.int p1), .val (.int p2), .unset, .unset, .unset, .unset, .unset, .unset] [(.ref b2), (.ref b2)]))
  refine own_to (fun _ kz => XS.bipush X100.here hx rfl (hb hby at_102) kz) ?_
  show own_Fin p e below G (T100.setTop (mkF m 104 #[.val (.long x0), .second, .val (.int p1), .val (.int p2), .unset, .unset, .unset, .unset, .unset, .unset] [(.int (15 : Int32)), (.ref b2), (.ref b2)]))
  refine own_to (fun _ kz => X100.ldc2Long hx hown (mvT hZ (hw _ (List.mem_of_getElem? (i := 15) rfl))) (g := (mkF m 104 #[.val (.long x0), .second, .val (.int p1), .val (.int p2), .unset, .unset, .unset, .unset, .unset, .unset] [(.int (15 : Int32)), (.ref b2), (.ref b2)])) rfl (hb hby at_104) _ kz) ?_
  show own_Fin p e below G (T100.setTop (mkF m 107 #[.val (.long x0), .second, .val (.int p1), .val (.int p2), .unset, .unset, .unset, .unset, .unset, .unset] [(.long (1114112 : Int64)), (.int (15 : Int32)), (.ref b2), (.ref b2)]))
  obtain ⟨nn107, cl107, Ar107, Sz107, Hs107⟩ := V100
  obtain ⟨T107, h107, X107, e107, W107, st107⟩ := stJ X100 hx hZ e100 Ar107 (j := (15 : Int32)) (own_in Sz107 (by decide) rfl (by decide)) (g := (mkF m 107 #[.val (.long x0), .second, .val (.int p1), .val (.int p2), .unset, .unset, .unset, .unset, .unset, .unset] [(.long (1114112 : Int64)), (.int (15 : Int32)), (.ref b2), (.ref b2)])) rfl rfl (hb hby at_107)
  refine own_to st107 ?_
  have V107 : own_AV Value.long Z h107 b2 .long 23 (own_upd (own_upd (own_upd (own_upd (own_upd (own_upd (own_upd (own_upd (own_upd (own_upd (own_upd (own_upd (own_upd (own_upd (own_upd (own_upd (fun _ => (0 : Int64)) 0 (0 : Int64)) 1 (9 : Int64)) 2 (10 : Int64)) 3 (13 : Int64)) 4 (31 : Int64)) 5 (32 : Int64)) 6 (55295 : Int64)) 7 (55296 : Int64)) 8 (57343 : Int64)) 9 (57344 : Int64)) 10 (65533 : Int64)) 11 (65534 : Int64)) 12 (65535 : Int64)) 13 (65536 : Int64)) 14 (1114111 : Int64)) 15 (1114112 : Int64)) := own_AV.set nn107 Ar107 Sz107 Hs107 W107 rfl
  obtain ⟨lo107, X107, N107⟩ : ∃ lo, Stand p l e _ s m _ below meth c T107 lo _ _ ∧ Fr n0 lo := ⟨_, X107, Fr.snoc X107 N100 g_b2⟩
  show own_Fin p e below G (T107.setTop (mkF m 108 #[.val (.long x0), .second, .val (.int p1), .val (.int p2), .unset, .unset, .unset, .unset, .unset, .unset] [(.ref b2)]))
  refine own_to (fun _ kz => XS.dup X107.here hx rfl (hb hby at_108) rfl rfl kz) ?_
  show own_Fin p e below G (T107.setTop (mkF m 109 #[.val (.long x0), .second, .val (.int p1), .val (.int p2), .unset, .unset, .unset, .unset, .unset, .unset] [(.ref b2), (.ref b2)]))
  refine own_to (fun _ kz => XS.bipush X107.here hx rfl (hb hby at_109) kz) ?_
  show own_Fin p e below G (T107.setTop (mkF m 111 #[.val (.long x0), .second, .val (.int p1), .val (.int p2), .unset, .unset, .unset, .unset, .unset, .unset] [(.int (16 : Int32)), (.ref b2), (.ref b2)]))
  refine own_to (fun _ kz => X107.ldc2Long hx hown (mvT hZ (hw _ (List.mem_of_getElem? (i := 16) rfl))) (g := (mkF m 111 #[.val (.long x0), .second, .val (.int p1), .val (.int p2), .unset, .unset, .unset, .unset, .unset, .unset] [(.int (16 : Int32)), (.ref b2), (.ref b2)])) rfl (hb hby at_111) _ kz) ?_
  show own_Fin p e below G (T107.setTop (mkF m 114 #[.val (.long x0), .second, .val (.int p1), .val (.int p2), .unset, .unset, .unset, .unset, .unset, .unset] [(.long (-1 : Int64)), (.int (16 : Int32)), (.ref b2), (.ref b2)]))
  obtain ⟨nn114, cl114, Ar114, Sz114, Hs114⟩ := V107
  obtain ⟨T114, h114, X114, e114, W114, st114⟩ := stJ X107 hx hZ e107 Ar114 (j := (16 : Int32)) (own_in Sz114 (by decide) rfl (by decide)) (g := (mkF m 114 #[.val (.long x0), .second, .val (.int p1), .val (.int p2), .unset, .unset, .unset, .unset, .unset, .unset] [(.long (-1 : Int64)), (.int (16 : Int32)), (.ref b2), (.ref b2)])) rfl rfl (hb hby at_114)
  refine own_to st114 ?_
  have V114 : own_AV Value.long Z h114 b2 .long 23 (own_upd (own_upd (own_upd (own_upd (own_upd (own_upd (own_upd (own_upd (own_upd (own_upd (own_upd (own_upd (own_upd (own_upd (own_upd (own_upd (own_upd (fun _ => (0 : Int64)) 0 (0 : Int64)) 1 (9 : Int64)) 2 (10 : Int64)) 3 (13 : Int64)) 4 (31 : Int64)) 5 (32 : Int64)) 6 (55295 : Int64)) 7 (55296 : Int64)) 8 (57343 : Int64)) 9 (57344 : Int64)) 10 (65533 : Int64)) 11 (65534 : Int64)) 12 (65535 : Int64)) 13 (65536 : Int64)) 14 (1114111 : Int64)) 15 (1114112 : Int64)) 16 (-1 : Int64)) := own_AV.set nn114 Ar114 Sz114 Hs114 W114 rfl
  obtain ⟨lo114, X114, N114⟩ : ∃ lo, Stand p l e _ s m _ below meth c T114 lo _ _ ∧ Fr n0 lo := ⟨_, X114, Fr.snoc X114 N107 g_b2⟩
  show own_Fin p e below G (T114.setTop (mkF m 115 #[.val (.long x0), .second, .val (.int p1), .val (.int p2), .unset, .unset, .unset, .unset, .unset, .unset] [(.ref b2)]))
  refine own_to (fun _ kz => XS.dup X114.here hx rfl (hb hby at_115) rfl rfl kz) ?_
  show own_Fin p e below G (T114.setTop (mkF m 116 #[.val (.long x0), .second, .val (.int p1), .val (.int p2), .unset, .unset, .unset, .unset, .unset, .unset] [(.ref b2), (.ref b2)]))
  refine own_to (fun _ kz => XS.bipush X114.here hx rfl (hb hby at_116) kz) ?_
  show own_Fin p e below G (T114.setTop (mkF m 118 #[.val (.long x0), .second, .val (.int p1), .val (.int p2), .unset, .unset, .unset, .unset, .unset, .unset] [(.int (17 : Int32)), (.ref b2), (.ref b2)]))
  refine own_to (fun _ kz => X114.ldc2Long hx hown (mvT hZ (hw _ (List.mem_of_getElem? (i := 17) rfl))) (g := (mkF m 118 #[.val (.long x0), .second, .val (.int p1), .val (.int p2), .unset, .unset, .unset, .unset, .unset, .unset] [(.int (17 : Int32)), (.ref b2), (.ref b2)])) rfl (hb hby at_118) _ kz) ?_
  show own_Fin p e below G (T114.setTop (mkF m 121 #[.val (.long x0), .second, .val (.int p1), .val (.int p2), .unset, .unset, .unset, .unset, .unset, .unset] [(.long (-9223372036854775808 : Int64)), (.int (17 : Int32)), (.ref b2), (.ref b2)]))
  obtain ⟨nn121, cl121, Ar121, Sz121, Hs121⟩ := V114
  obtain ⟨T121, h121, X121, e121, W121, st121⟩ := stJ X114 hx hZ e114 Ar121 (j := (17 : Int32)) (own_in Sz121 (by decide) rfl (by decide)) (g := (mkF m 121 #[.val (.long x0), .second, .val (.int p1), .val (.int p2), .unset, .unset, .unset, .unset, .unset, .unset] [(.long (-9223372036854775808 : Int64)), (.int (17 : Int32)), (.ref b2), (.ref b2)])) rfl rfl (hb hby at_121)
  refine own_to st121 ?_
  have V121 : own_AV Value.long Z h121 b2 .long 23 (own_upd (own_upd (own_upd (own_upd (own_upd (own_upd (own_upd (own_upd (own_upd (own_upd (own_upd (own_upd (own_upd (own_upd (own_upd (own_upd (own_upd (own_upd (fun _ => (0 : Int64)) 0 (0 : Int64)) 1 (9 : Int64)) 2 (10 : Int64)) 3 (13 : Int64)) 4 (31 : Int64)) 5 (32 : Int64)) 6 (55295 : Int64)) 7 (55296 : Int64)) 8 (57343 : Int64)) 9 (57344 : Int64)) 10 (65533 : Int64)) 11 (65534 : Int64)) 12 (65535 : Int64)) 13 (65536 : Int64)) 14 (1114111 : Int64)) 15 (1114112 : Int64)) 16 (-1 : Int64)) 17 (-9223372036854775808 : Int64)) := own_AV.set nn121 Ar121 Sz121 Hs121 W121 rfl
  obtain ⟨lo121, X121, N121⟩ : ∃ lo, Stand p l e _ s m _ below meth c T121 lo _ _ ∧ Fr n0 lo := ⟨_, X121, Fr.snoc X121 N114 g_b2⟩
  show own_Fin p e below G (T121.setTop (mkF m 122 #[.val (.long x0), .second, .val (.int p1), .val (.int p2), .unset, .unset, .unset, .unset, .unset, .unset] [(.ref b2)]))
  refine own_to (fun _ kz => XS.dup X121.here hx rfl (hb hby at_122) rfl rfl kz) ?_
  show own_Fin p e below G (T121.setTop (mkF m 123 #[.val (.long x0), .second, .val (.int p1), .val (.int p2), .unset, .unset, .unset, .unset, .unset, .unset] [(.ref b2), (.ref b2)]))
  refine own_to (fun _ kz => XS.bipush X121.here hx rfl (hb hby at_123) kz) ?_
  show own_Fin p e below G (T121.setTop (mkF m 125 #[.val (.long x0), .second, .val (.int p1), .val (.int p2), .unset, .unset, .unset, .unset, .unset, .unset] [(.int (18 : Int32)), (.ref b2), (.ref b2)]))
  refine own_to (fun _ kz => X121.ldc2Long hx hown (mvT hZ (hw _ (List.mem_of_getElem? (i := 18) rfl))) (g := (mkF m 125 #[.val (.long x0), .second, .val (.int p1), .val (.int p2), .unset, .unset, .unset, .unset, .unset, .unset] [(.int (18 : Int32)), (.ref b2), (.ref b2)])) rfl (hb hby at_125) _ kz) ?_
  show own_Fin p e below G (T121.setTop (mkF m 128 #[.val (.long x0), .second, .val (.int p1), .val (.int p2), .unset, .unset, .unset, .unset, .unset, .unset] [(.long (9223372036854775807 : Int64)), (.int (18 : Int32)), (.ref b2), (.ref b2)]))
  obtain ⟨nn128, cl128, Ar128, Sz128, Hs128⟩ := V121
  obtain ⟨T128, h128, X128, e128, W128, st128⟩ := stJ X121 hx hZ e121 Ar128 (j := (18 : Int32)) (own_in Sz128 (by decide) rfl (by decide)) (g := (mkF m 128 #[.val (.long x0), .second, .val (.int p1), .val (.int p2), .unset, .unset, .unset, .unset, .unset, .unset] [(.long (9223372036854775807 : Int64)), (.int (18 : Int32)), (.ref b2), (.ref b2)])) rfl rfl (hb hby at_128)
  refine own_to st128 ?_
  have V128 : own_AV Value.long Z h128 b2 .long 23 (own_upd (own_upd (own_upd (own_upd (own_upd (own_upd (own_upd (own_upd (own_upd (own_upd (own_upd (own_upd (own_upd (own_upd (own_upd (own_upd (own_upd (own_upd (own_upd (fun _ => (0 : Int64)) 0 (0 : Int64)) 1 (9 : Int64)) 2 (10 : Int64)) 3 (13 : Int64)) 4 (31 : Int64)) 5 (32 : Int64)) 6 (55295 : Int64)) 7 (55296 : Int64)) 8 (57343 : Int64)) 9 (57344 : Int64)) 10 (65533 : Int64)) 11 (65534 : Int64)) 12 (65535 : Int64)) 13 (65536 : Int64)) 14 (1114111 : Int64)) 15 (1114112 : Int64)) 16 (-1 : Int64)) 17 (-9223372036854775808 : Int64)) 18 (9223372036854775807 : Int64)) := own_AV.set nn128 Ar128 Sz128 Hs128 W128 rfl
  obtain ⟨lo128, X128, N128⟩ : ∃ lo, Stand p l e _ s m _ below meth c T128 lo _ _ ∧ Fr n0 lo := ⟨_, X128, Fr.snoc X128 N121 g_b2⟩
  show own_Fin p e below G (T128.setTop (mkF m 129 #[.val (.long x0), .second, .val (.int p1), .val (.int p2), .unset, .unset, .unset, .unset, .unset, .unset] [(.ref b2)]))
  refine own_to (fun _ kz => XS.dup X128.here hx rfl (hb hby at_129) rfl rfl kz) ?_
  show own_Fin p e below G (T128.setTop (mkF m 130 #[.val (.long x0), .second, .val (.int p1), .val (.int p2), .unset, .unset, .unset, .unset, .unset, .unset] [(.ref b2), (.ref b2)]))
  refine own_to (fun _ kz => XS.bipush X128.here hx rfl (hb hby at_130) kz) ?_
  show own_Fin p e below G (T128.setTop (mkF m 132 #[.val (.long x0), .second, .val (.int p1), .val (.int p2), .unset, .unset, .unset, .unset, .unset, .unset] [(.int (19 : Int32)), (.ref b2), (.ref b2)]))
  refine own_to (fun _ kz => X128.ldc2Long hx hown (mvT hZ (hw _ (List.mem_of_getElem? (i := 19) rfl))) (g := (mkF m 132 #[.val (.long x0), .second, .val (.int p1), .val (.int p2), .unset, .unset, .unset, .unset, .unset, .unset] [(.int (19 : Int32)), (.ref b2), (.ref b2)])) rfl (hb hby at_132) _ kz) ?_
  show own_Fin p e below G (T128.setTop (mkF m 135 #[.val (.long x0), .second, .val (.int p1), .val (.int p2), .unset, .unset, .unset, .unset, .unset, .unset] [(.long (2147483647 : Int64)), (.int (19 : Int32)), (.ref b2), (.ref b2)]))
  obtain ⟨nn135, cl135, Ar135, Sz135, Hs135⟩ := V128
  obtain ⟨T135, h135, X135, e135, W135, st135⟩ := stJ X128 hx hZ e128 Ar135 (j := (19 : Int32)) (own_in Sz135 (by decide) rfl (by decide)) (g := (mkF m 135 #[.val (.long x0), .second, .val (.int p1), .val (.int p2), .unset, .unset, .unset, .unset, .unset, .unset] [(.long (2147483647 : Int64)), (.int (19 : Int32)), (.ref b2), (.ref b2)])) rfl rfl (hb hby at_135)
  refine own_to st135 ?_
  have V135 : own_AV Value.long Z h135 b2 .long 23 (own_upd (own_upd (own_upd (own_upd (own_upd (own_upd (own_upd (own_upd (own_upd (own_upd (own_upd (own_upd (own_upd (own_upd (own_upd (own_upd (own_upd (own_upd (own_upd (own_upd (fun _ => (0 : Int64)) 0 (0 : Int64)) 1 (9 : Int64)) 2 (10 : Int64)) 3 (13 : Int64)) 4 (31 : Int64)) 5 (32 : Int64)) 6 (55295 : Int64)) 7 (55296 : Int64)) 8 (57343 : Int64)) 9 (57344 : Int64)) 10 (65533 : Int64)) 11 (65534 : Int64)) 12 (65535 : Int64)) 13 (65536 : Int64)) 14 (1114111 : Int64)) 15 (1114112 : Int64)) 16 (-1 : Int64)) 17 (-9223372036854775808 : Int64)) 18 (9223372036854775807 : Int64)) 19 (2147483647 : Int64)) := own_AV.set nn135 Ar135 Sz135 Hs135 W135 rfl
  obtain ⟨lo135, X135, N135⟩ : ∃ lo, Stand p l e _ s m _ below meth c T135 lo _ _ ∧ Fr n0 lo := ⟨_, X135, Fr.snoc X135 N128 g_b2⟩
  show own_Fin p e below G (T135.setTop (mkF m 136 #[.val (.long x0), .second, .val (.int p1), .val (.int p2), .unset, .unset, .unset, .unset, .unset, .unset] [(.ref b2)]))
  refine own_to (fun _ kz => XS.dup X135.here hx rfl (hb hby at_136) rfl rfl kz) ?_
  show own_Fin p e below G (T135.setTop (mkF m 137 #[.val (.long x0), .second, .val (.int p1), .val (.int p2), .unset, .unset, .unset, .unset, .unset, .unset] [(.ref b2), (.ref b2)]))
  refine own_to (fun _ kz => XS.bipush X135.here hx rfl (hb hby at_137) kz) ?_
  show own_Fin p e below G (T135.setTop (mkF m 139 #[.val (.long x0), .second, .val (.int p1), .val (.int p2), .unset, .unset, .unset, .unset, .unset, .unset] [(.int (20 : Int32)), (.ref b2), (.ref b2)]))
  refine own_to (fun _ kz => X135.ldc2Long hx hown (mvT hZ (hw _ (List.mem_of_getElem? (i := 20) rfl))) (g := (mkF m 139 #[.val (.long x0), .second, .val (.int p1), .val (.int p2), .unset, .unset, .unset, .unset, .unset, .unset] [(.int (20 : Int32)), (.ref b2), (.ref b2)])) rfl (hb hby at_139) _ kz) ?_
  show own_Fin p e below G (T135.setTop (mkF m 142 #[.val (.long x0), .second, .val (.int p1), .val (.int p2), .unset, .unset, .unset, .unset, .unset, .unset] [(.long (-2147483648 : Int64)), (.int (20 : Int32)), (.ref b2), (.ref b2)]))
  obtain ⟨nn142, cl142, Ar142, Sz142, Hs142⟩ := V135
  obtain ⟨T142, h142, X142, e142, W142, st142⟩ := stJ X135 hx hZ e135 Ar142 (j := (20 : Int32)) (own_in Sz142 (by decide) rfl (by decide)) (g := (mkF m 142 #[.val (.long x0), .second, .val (.int p1), .val (.int p2), .unset, .unset, .unset, .unset, .unset, .unset] [(.long (-2147483648 : Int64)), (.int (20 : Int32)), (.ref b2), (.ref b2)])) rfl rfl (hb hby at_142)
  refine own_to st142 ?_
  have V142 : own_AV Value.long Z h142 b2 .long 23 (own_upd (own_upd (own_upd (own_upd (own_upd (own_upd (own_upd (own_upd (own_upd (own_upd (own_upd (own_upd (own_upd (own_upd (own_upd (own_upd (own_upd (own_upd (own_upd (own_upd (own_upd (fun _ => (0 : Int64)) 0 (0 : Int64)) 1 (9 : Int64)) 2 (10 : Int64)) 3 (13 : Int64)) 4 (31 : Int64)) 5 (32 : Int64)) 6 (55295 : Int64)) 7 (55296 : Int64)) 8 (57343 : Int64)) 9 (57344 : Int64)) 10 (65533 : Int64)) 11 (65534 : Int64)) 12 (65535 : Int64)) 13 (65536 : Int64)) 14 (1114111 : Int64)) 15 (1114112 : Int64)) 16 (-1 : Int64)) 17 (-9223372036854775808 : Int64)) 18 (9223372036854775807 : Int64)) 19 (2147483647 : Int64)) 20 (-2147483648 : Int64)) := own_AV.set nn142 Ar142 Sz142 Hs142 W142 rfl
  obtain ⟨lo142, X142, N142⟩ : ∃ lo, Stand p l e _ s m _ below meth c T142 lo _ _ ∧ Fr n0 lo := ⟨_, X142, Fr.snoc X142 N135 g_b2⟩
  show own_Fin p e below G (T142.setTop (mkF m 143 #[.val (.long x0), .second, .val (.int p1), .val (.int p2), .unset, .unset, .unset, .unset, .unset, .unset] [(.ref b2)]))
  refine own_to (fun _ kz => XS.dup X142.here hx rfl (hb hby at_143) rfl rfl kz) ?_
  show own_Fin p e below G (T142.setTop (mkF m 144 #[.val (.long x0), .second, .val (.int p1), .val (.int p2), .unset, .unset, .unset, .unset, .unset, .unset] [(.ref b2), (.ref b2)]))
  refine own_to (fun _ kz => XS.bipush X142.here hx rfl (hb hby at_144) kz) ?_
  show own_Fin p e below G (T142.setTop (mkF m 146 #[.val (.long x0), .second, .val (.int p1), .val (.int p2), .unset, .unset, .unset, .unset, .unset, .unset] [(.int (21 : Int32)), (.ref b2), (.ref b2)]))
  refine own_to (fun _ kz => X142.ldc2Long hx hown (mvT hZ (hw _ (List.mem_of_getElem? (i := 21) rfl))) (g := (mkF m 146 #[.val (.long x0), .second, .val (.int p1), .val (.int p2), .unset, .unset, .unset, .unset, .unset, .unset] [(.int (21 : Int32)), (.ref b2), (.ref b2)])) rfl (hb hby at_146) _ kz) ?_
  show own_Fin p e below G (T142.setTop (mkF m 149 #[.val (.long x0), .second, .val (.int p1), .val (.int p2), .unset, .unset, .unset, .unset, .unset, .unset] [(.long (127 : Int64)), (.int (21 : Int32)), (.ref b2), (.ref b2)]))
  obtain ⟨nn149, cl149, Ar149, Sz149, Hs149⟩ := V142
  obtain ⟨T149, h149, X149, e149, W149, st149⟩ := stJ X142 hx hZ e142 Ar149 (j := (21 : Int32)) (own_in Sz149 (by decide) rfl (by decide)) (g := (mkF m 149 #[.val (.long x0), .second, .val (.int p1), .val (.int p2), .unset, .unset, .unset, .unset, .unset, .unset] [(.long (127 : Int64)), (.int (21 : Int32)), (.ref b2), (.ref b2)])) rfl rfl (hb hby at_149)
  refine own_to st149 ?_
  have V149 : own_AV Value.long Z h149 b2 .long 23 (own_upd (own_upd (own_upd (own_upd (own_upd (own_upd (own_upd (own_upd (own_upd (own_upd (own_upd (own_upd (own_upd (own_upd (own_upd (own_upd (own_upd (own_upd (own_upd (own_upd (own_upd (own_upd (fun _ => (0 : Int64)) 0 (0 : Int64)) 1 (9 : Int64)) 2 (10 : Int64)) 3 (13 : Int64)) 4 (31 : Int64)) 5 (32 : Int64)) 6 (55295 : Int64)) 7 (55296 : Int64)) 8 (57343 : Int64)) 9 (57344 : Int64)) 10 (65533 : Int64)) 11 (65534 : Int64)) 12 (65535 : Int64)) 13 (65536 : Int64)) 14 (1114111 : Int64)) 15 (1114112 : Int64)) 16 (-1 : Int64)) 17 (-9223372036854775808 : Int64)) 18 (9223372036854775807 : Int64)) 19 (2147483647 : Int64)) 20 (-2147483648 : Int64)) 21 (127 : Int64)) := own_AV.set nn149 Ar149 Sz149 Hs149 W149 rfl
  obtain ⟨lo149, X149, N149⟩ : ∃ lo, Stand p l e _ s m _ below meth c T149 lo _ _ ∧ Fr n0 lo := ⟨_, X149, Fr.snoc X149 N142 g_b2⟩
  show own_Fin p e below G (T149.setTop (mkF m 150 #[.val (.long x0), .second, .val (.int p1), .val (.int p2), .unset, .unset, .unset, .unset, .unset, .unset] [(.ref b2)]))
  refine own_to (fun _ kz => XS.dup X149.here hx rfl (hb hby at_150) rfl rfl kz) ?_
  show own_Fin p e below G (T149.setTop (mkF m 151 #[.val (.long x0), .second, .val (.int p1), .val (.int p2), .unset, .unset, .unset, .unset, .unset, .unset] [(.ref b2), (.ref b2)]))
  refine own_to (fun _ kz => XS.bipush X149.here hx rfl (hb hby at_151) kz) ?_
  show own_Fin p e below G (T149.setTop (mkF m 153 #[.val (.long x0), .second, .val (.int p1), .val (.int p2), .unset, .unset, .unset, .unset, .unset, .unset] [(.int (22 : Int32)), (.ref b2), (.ref b2)]))
  refine own_to (fun _ kz => X149.ldc2Long hx hown (mvT hZ (hw _ (List.mem_of_getElem? (i := 22) rfl))) (g := (mkF m 153 #[.val (.long x0), .second, .val (.int p1), .val (.int p2), .unset, .unset, .unset, .unset, .unset, .unset] [(.int (22 : Int32)), (.ref b2), (.ref b2)])) rfl (hb hby at_153) _ kz) ?_
  show own_Fin p e below G (T149.setTop (mkF m 156 #[.val (.long x0), .second, .val (.int p1), .val (.int p2), .unset, .unset, .unset, .unset, .unset, .unset] [(.long (128 : Int64)), (.int (22 : Int32)), (.ref b2), (.ref b2)]))
  obtain ⟨nn156, cl156, Ar156, Sz156, Hs156⟩ := V149
  obtain ⟨T156, h156, X156, e156, W156, st156⟩ := stJ X149 hx hZ e149 Ar156 (j := (22 : Int32)) (own_in Sz156 (by decide) rfl (by decide)) (g := (mkF m 156 #[.val (.long x0), .second, .val (.int p1), .val (.int p2), .unset, .unset, .unset, .unset, .unset, .unset] [(.long (128 : Int64)), (.int (22 : Int32)), (.ref b2), (.ref b2)])) rfl rfl (hb hby at_156)
  refine own_to st156 ?_
  have V156 : own_AV Value.long Z h156 b2 .long 23 (own_upd (own_upd (own_upd (own_upd (own_upd (own_upd (own_upd (own_upd (own_upd (own_upd (own_upd (own_upd (own_upd (own_upd (own_upd (own_upd (own_upd (own_upd (own_upd (own_upd (own_upd (own_upd (own_upd (fun _ => (0 : Int64)) 0 (0 : Int64)) 1 (9 : Int64)) 2 (10 : Int64)) 3 (13 : Int64)) 4 (31 : Int64)) 5 (32 : Int64)) 6 (55295 : Int64)) 7 (55296 : Int64)) 8 (57343 : Int64)) 9 (57344 : Int64)) 10 (65533 : Int64)) 11 (65534 : Int64)) 12 (65535 : Int64)) 13 (65536 : Int64)) 14 (1114111 : Int64)) 15 (1114112 : Int64)) 16 (-1 : Int64)) 17 (-9223372036854775808 : Int64)) 18 (9223372036854775807 : Int64)) 19 (2147483647 : Int64)) 20 (-2147483648 : Int64)) 21 (127 : Int64)) 22 (128 : Int64)) := own_AV.set nn156 Ar156 Sz156 Hs156 W156 rfl
  obtain ⟨lo156, X156, N156⟩ : ∃ lo, Stand p l e _ s m _ below meth c T156 lo _ _ ∧ Fr n0 lo := ⟨_, X156, Fr.snoc X156 N149 g_b2⟩
  show own_Fin p e below G (T156.setTop (mkF m 157 #[.val (.long x0), .second, .val (.int p1), .val (.int p2), .unset, .unset, .unset, .unset, .unset, .unset] [(.ref b2)]))
  refine own_to (fun _ kz => XS.astore X156.here hx rfl (hb hby at_157) rfl (rfl) (l' := #[.val (.long x0), .second, .val (.int p1), .val (.int p2), .val (.ref b2), .unset, .unset, .unset, .unset, .unset]) rfl kz) ?_
  show own_Fin p e below G (T156.setTop (mkF m 159 #[.val (.long x0), .second, .val (.int p1), .val (.int p2), .val (.ref b2), .unset, .unset, .unset, .unset, .unset] []))
  refine own_to (fun _ kz => XS.iloadN X156.here hx rfl (hb hby at_159) rfl  kz) ?_
  show own_Fin p e below G (T156.setTop (mkF m 160 #[.val (.long x0), .second, .val (.int p1), .val (.int p2), .val (.ref b2), .unset, .unset, .unset, .unset, .unset] [(.int p1)]))
  refine own_to (fun _ kz => XS.iconst X156.here hx rfl (hb hby at_160) kz) ?_
  show own_Fin p e below G (T156.setTop (mkF m 161 #[.val (.long x0), .second, .val (.int p1), .val (.int p2), .val (.ref b2), .unset, .unset, .unset, .unset, .unset] [(.int (3 : Int32)), (.int p1)]))
  refine own_to (fun _ kz => XS.iand X156.here hx rfl (hb hby at_161) rfl kz) ?_
  show own_Fin p e below G (T156.setTop (mkF m 162 #[.val (.long x0), .second, .val (.int p1), .val (.int p2), .val (.ref b2), .unset, .unset, .unset, .unset, .unset] [(.int (p1 &&& (3 : Int32)))]))
  refine own_to (fun _ kz => XS.istore X156.here hx rfl (hb hby at_162) rfl (l' := #[.val (.long x0), .second, .val (.int p1), .val (.int p2), .val (.ref b2), .unset, .unset, .val (.int (p1 &&& (3 : Int32))), .unset, .unset]) rfl kz) ?_
  show own_Fin p e below G (T156.setTop (mkF m 164 #[.val (.long x0), .second, .val (.int p1), .val (.int p2), .val (.ref b2), .unset, .unset, .val (.int (p1 &&& (3 : Int32))), .unset, .unset] []))
  refine own_to (fun _ kz => XS.iload X156.here hx rfl (hb hby at_164) rfl  kz) ?_
  show own_Fin p e below G (T156.setTop (mkF m 166 #[.val (.long x0), .second, .val (.int p1), .val (.int p2), .val (.ref b2), .unset, .unset, .val (.int (p1 &&& (3 : Int32))), .unset, .unset] [(.int (p1 &&& (3 : Int32)))]))
  have K221 : ∀ (w5_221 : Int64) (s8_221 : Slot) (s9_221 : Slot) (hs8_221 : One s8_221) (hs9_221 : One s9_221) (q_j221 : (f0 x0 p1 p2) = (f0_221 x0 p1 p2 w5_221)), own_Fin p e below G (T156.setTop (mkF m 221 #[.val (.long x0), .second, .val (.int p1), .val (.int p2), .val (.ref b2), .val (.long w5_221), .second, .val (.int (p1 &&& (3 : Int32))), s8_221, s9_221] [])) := by
    intro w5_221 s8_221 s9_221 hs8_221 hs9_221 q_j221
    refine own_to (fun _ kz => XS.lload X156.here hx rfl (hb hby at_221) rfl  kz) ?_
    show own_Fin p e below G (T156.setTop (mkF m 223 #[.val (.long x0), .second, .val (.int p1), .val (.int p2), .val (.ref b2), .val (.long w5_221), .second, .val (.int (p1 &&& (3 : Int32))), s8_221, s9_221] [(.long w5_221)]))
    refine own_to (fun _ kz => XS.lconst X156.here hx rfl (hb hby at_223) kz) ?_
    show own_Fin p e below G (T156.setTop (mkF m 224 #[.val (.long x0), .second, .val (.int p1), .val (.int p2), .val (.ref b2), .val (.long w5_221), .second, .val (.int (p1 &&& (3 : Int32))), s8_221, s9_221] [(.long (0 : Int64)), (.long w5_221)]))
    refine own_to (fun _ kz => XS.lcmp X156.here hx rfl (hb hby at_224) rfl kz) ?_
    show own_Fin p e below G (T156.setTop (mkF m 225 #[.val (.long x0), .second, .val (.int p1), .val (.int p2), .val (.ref b2), .val (.long w5_221), .second, .val (.int (p1 &&& (3 : Int32))), s8_221, s9_221] [(.int (lcmpW w5_221 (0 : Int64)))]))
    have K314 : ∀ (t0_314 : Int32) (q_j314 : (f0 x0 p1 p2) = (f0_314 x0 p1 p2 w5_221 t0_314)), own_Fin p e below G (T156.setTop (mkF m 314 #[.val (.long x0), .second, .val (.int p1), .val (.int p2), .val (.ref b2), .val (.long w5_221), .second, .val (.int (p1 &&& (3 : Int32))), s8_221, s9_221] [(.int t0_314)])) := by
      intro t0_314 q_j314
      refine own_to (fun _ kz => XS.istore X156.here hx rfl (hb hby at_314) rfl (l' := #[.val (.long x0), .second, .val (.int p1), .val (.int p2), .val (.ref b2), .val (.long w5_221), .second, .val (.int (p1 &&& (3 : Int32))), .val (.int t0_314), s9_221]) (XS.store1 rfl hs8_221 rfl) kz) ?_
      show own_Fin p e below G (T156.setTop (mkF m 316 #[.val (.long x0), .second, .val (.int p1), .val (.int p2), .val (.ref b2), .val (.long w5_221), .second, .val (.int (p1 &&& (3 : Int32))), .val (.int t0_314), s9_221] []))
      refine own_to (fun _ kz => XS.lload X156.here hx rfl (hb hby at_316) rfl  kz) ?_
      show own_Fin p e below G (T156.setTop (mkF m 318 #[.val (.long x0), .second, .val (.int p1), .val (.int p2), .val (.ref b2), .val (.long w5_221), .second, .val (.int (p1 &&& (3 : Int32))), .val (.int t0_314), s9_221] [(.long w5_221)]))
      have Zz_318_E2 := Nat.le_trans Z0 E2.1
      have Zz_318_W7 := Nat.le_trans Zz_318_E2 (Nat.le_of_eq (Wr.size W7).symm)
      have Zz_318_W13 := Nat.le_trans Zz_318_W7 (Nat.le_of_eq (Wr.size W13).symm)
      have Zz_318_W19 := Nat.le_trans Zz_318_W13 (Nat.le_of_eq (Wr.size W19).symm)
      have Zz_318_W25 := Nat.le_trans Zz_318_W19 (Nat.le_of_eq (Wr.size W25).symm)
      have Zz_318_W31 := Nat.le_trans Zz_318_W25 (Nat.le_of_eq (Wr.size W31).symm)
      have Zz_318_W37 := Nat.le_trans Zz_318_W31 (Nat.le_of_eq (Wr.size W37).symm)
      have Zz_318_W44 := Nat.le_trans Zz_318_W37 (Nat.le_of_eq (Wr.size W44).symm)
      have Zz_318_W51 := Nat.le_trans Zz_318_W44 (Nat.le_of_eq (Wr.size W51).symm)
      have Zz_318_W58 := Nat.le_trans Zz_318_W51 (Nat.le_of_eq (Wr.size W58).symm)
      have Zz_318_W65 := Nat.le_trans Zz_318_W58 (Nat.le_of_eq (Wr.size W65).symm)
      have Zz_318_W72 := Nat.le_trans Zz_318_W65 (Nat.le_of_eq (Wr.size W72).symm)
      have Zz_318_W79 := Nat.le_trans Zz_318_W72 (Nat.le_of_eq (Wr.size W79).symm)
      have Zz_318_W86 := Nat.le_trans Zz_318_W79 (Nat.le_of_eq (Wr.size W86).symm)
      have Zz_318_W93 := Nat.le_trans Zz_318_W86 (Nat.le_of_eq (Wr.size W93).symm)
      have Zz_318_W100 := Nat.le_trans Zz_318_W93 (Nat.le_of_eq (Wr.size W100).symm)
      have Zz_318_W107 := Nat.le_trans Zz_318_W100 (Nat.le_of_eq (Wr.size W107).symm)
      have Zz_318_W114 := Nat.le_trans Zz_318_W107 (Nat.le_of_eq (Wr.size W114).symm)
      have Zz_318_W121 := Nat.le_trans Zz_318_W114 (Nat.le_of_eq (Wr.size W121).symm)
      have Zz_318_W128 := Nat.le_trans Zz_318_W121 (Nat.le_of_eq (Wr.size W128).symm)
      have Zz_318_W135 := Nat.le_trans Zz_318_W128 (Nat.le_of_eq (Wr.size W135).symm)
      have Zz_318_W142 := Nat.le_trans Zz_318_W135 (Nat.le_of_eq (Wr.size W142).symm)
      have Zz_318_W149 := Nat.le_trans Zz_318_W142 (Nat.le_of_eq (Wr.size W149).symm)
      have Zz_318_W156 := Nat.le_trans Zz_318_W149 (Nat.le_of_eq (Wr.size W156).symm)
      have Z_318 : n0 ≤ h156.size := Zz_318_W156
      obtain ⟨_, _, ⟨T318, L318, k318, n318⟩, -, X318, ⟨Lc318, hQ318, l318, y318, z318⟩, st318⟩ := Jvm.LawKit.callS X156 hx (y := (⟨"com/example/tabularium/tabularium/io/XmlDocuments", "isCharacter", "(J)Z"⟩ : MethodName)) hown (mvT hZ (hw _ (List.mem_of_getElem? (i := 24) rfl))) (mvT hZ (hw _ (List.mem_of_getElem? (i := 25) rfl))) (mvT hZ (hw _ (List.mem_of_getElem? (i := 26) rfl))) (mvT hZ (hw _ (List.mem_of_getElem? (i := 27) rfl))) (by decide) (backOf (W := 0) (rm1 l Z a0 hw [] w5_221 h156 n0 Z_318) hZ (hw _ (List.mem_of_getElem? (i := 27) rfl)) (hw _ (List.mem_of_getElem? (i := 26) rfl)) (by decide) (by decide)) (g := (mkF m 318 #[.val (.long x0), .second, .val (.int p1), .val (.int p2), .val (.ref b2), .val (.long w5_221), .second, .val (.int (p1 &&& (3 : Int32))), .val (.int t0_314), s9_221] [(.long w5_221)])) rfl (by rw [hml]; rfl) (argsL := [(.long w5_221)]) (rest := []) (lenOf own_pd0 rfl) rfl (by show 2 * 0 + _ ≤ _; exact Nat.le_of_eq rfl) (hb hby at_318) (fun _ _ => ⟨rfl, e156, (by decide : 1 + 0 ≤ _), (by decide : 23 + 0 ≤ _)⟩)
      dsimp only [Pt.U, Pt.locs, Pt.cells, Pt.slots] at X318 l318 y318 z318 st318 hQ318
      subst l318 y318 z318
      obtain ⟨rfl, N318q, e318⟩ := hQ318
      obtain ⟨lo318, X318, N318⟩ : ∃ lo, Stand p l e _ s m _ below meth c T318 lo _ _ ∧ Fr n0 lo := ⟨_, X318, Fr.app N156 N318q⟩
      refine own_to st318 ?_
      show own_Fin p e below G (T318.setTop (mkF m 321 #[.val (.long x0), .second, .val (.int p1), .val (.int p2), .val (.ref b2), .val (.long w5_221), .second, .val (.int (p1 &&& (3 : Int32))), .val (.int t0_314), s9_221] [(.int (f1 w5_221))]))
      refine own_to (fun _ kz => XS.iload X318.here hx rfl (hb hby at_321) rfl  kz) ?_
      show own_Fin p e below G (T318.setTop (mkF m 323 #[.val (.long x0), .second, .val (.int p1), .val (.int p2), .val (.ref b2), .val (.long w5_221), .second, .val (.int (p1 &&& (3 : Int32))), .val (.int t0_314), s9_221] [(.int t0_314), (.int (f1 w5_221))]))
      have K331 : ∀ (t0_331 : Int32) (q_j331 : (f0 x0 p1 p2) = (f0_331 x0 p1 p2 w5_221 t0_314 t0_331)), own_Fin p e below G (T318.setTop (mkF m 331 #[.val (.long x0), .second, .val (.int p1), .val (.int p2), .val (.ref b2), .val (.long w5_221), .second, .val (.int (p1 &&& (3 : Int32))), .val (.int t0_314), s9_221] [(.int t0_331), (.int (f1 w5_221))])) := by
        intro t0_331 q_j331
        by_cases hc331 : (f1 w5_221) = t0_331
        · refine own_to (fun _ kz => XS.icmpNo X318.here hx rfl (hb hby at_331) rfl (teq hc331).2 kz) ?_
          have q331t := q_j331.trans (if_pos hc331)
          show own_Fin p e below G (T318.setTop (mkF m 334 #[.val (.long x0), .second, .val (.int p1), .val (.int p2), .val (.ref b2), .val (.long w5_221), .second, .val (.int (p1 &&& (3 : Int32))), .val (.int t0_314), s9_221] []))
          refine own_to (fun _ kz => XS.iconst X318.here hx rfl (hb hby at_334) kz) ?_
          show own_Fin p e below G (T318.setTop (mkF m 335 #[.val (.long x0), .second, .val (.int p1), .val (.int p2), .val (.ref b2), .val (.long w5_221), .second, .val (.int (p1 &&& (3 : Int32))), .val (.int t0_314), s9_221] [(.int (1 : Int32))]))
          refine own_to (fun _ kz => XS.goto X318.here hx rfl (pc0 := 335) (pc' := 339) rfl (hb hby at_335) (by decide) (by decide) kz) ?_
          show own_Fin p e below G (T318.setTop (mkF m 339 #[.val (.long x0), .second, .val (.int p1), .val (.int p2), .val (.ref b2), .val (.long w5_221), .second, .val (.int (p1 &&& (3 : Int32))), .val (.int t0_314), s9_221] [(.int (1 : Int32))]))
          exact own_retN X318 hx hlk hG (t := .boolean) Bd.returns (by simp) (hb hby at_339) (by decide) (by decide) (by rw [e318]; exact ⟨(congrArg (fun z => some (Value.int z)) q331t).symm, N318, trivial⟩)
        · refine own_to (fun _ kz => XS.icmpYes X318.here hx rfl (pc0 := 331) (pc' := 338) rfl (hb hby at_331) rfl (feq hc331).2 (by decide) (by decide) kz) ?_
          have q331f := q_j331.trans (if_neg hc331)
          show own_Fin p e below G (T318.setTop (mkF m 338 #[.val (.long x0), .second, .val (.int p1), .val (.int p2), .val (.ref b2), .val (.long w5_221), .second, .val (.int (p1 &&& (3 : Int32))), .val (.int t0_314), s9_221] []))
          refine own_to (fun _ kz => XS.iconst X318.here hx rfl (hb hby at_338) kz) ?_
          show own_Fin p e below G (T318.setTop (mkF m 339 #[.val (.long x0), .second, .val (.int p1), .val (.int p2), .val (.ref b2), .val (.long w5_221), .second, .val (.int (p1 &&& (3 : Int32))), .val (.int t0_314), s9_221] [(.int (0 : Int32))]))
          exact own_retN X318 hx hlk hG (t := .boolean) Bd.returns (by simp) (hb hby at_339) (by decide) (by decide) (by rw [e318]; exact ⟨(congrArg (fun z => some (Value.int z)) q331f).symm, N318, trivial⟩)
      by_cases hc323 : t0_314 = (0 : Int32)
      · refine own_to (fun _ kz => XS.ifNo X318.here hx rfl (hb hby at_323) rfl ((if0 _ _).trans (teq hc323).2) kz) ?_
        have q323t := q_j314.trans (if_pos hc323)
        show own_Fin p e below G (T318.setTop (mkF m 326 #[.val (.long x0), .second, .val (.int p1), .val (.int p2), .val (.ref b2), .val (.long w5_221), .second, .val (.int (p1 &&& (3 : Int32))), .val (.int t0_314), s9_221] [(.int (f1 w5_221))]))
        refine own_to (fun _ kz => XS.iconst X318.here hx rfl (hb hby at_326) kz) ?_
        show own_Fin p e below G (T318.setTop (mkF m 327 #[.val (.long x0), .second, .val (.int p1), .val (.int p2), .val (.ref b2), .val (.long w5_221), .second, .val (.int (p1 &&& (3 : Int32))), .val (.int t0_314), s9_221] [(.int (1 : Int32)), (.int (f1 w5_221))]))
        refine own_to (fun _ kz => XS.goto X318.here hx rfl (pc0 := 327) (pc' := 331) rfl (hb hby at_327) (by decide) (by decide) kz) ?_
        show own_Fin p e below G (T318.setTop (mkF m 331 #[.val (.long x0), .second, .val (.int p1), .val (.int p2), .val (.ref b2), .val (.long w5_221), .second, .val (.int (p1 &&& (3 : Int32))), .val (.int t0_314), s9_221] [(.int (1 : Int32)), (.int (f1 w5_221))]))
        exact K331 (1 : Int32) q323t
      · refine own_to (fun _ kz => XS.ifYes X318.here hx rfl (pc0 := 323) (pc' := 330) rfl (hb hby at_323) rfl ((if0 _ _).trans (feq hc323).2) (by decide) (by decide) kz) ?_
        have q323f := q_j314.trans (if_neg hc323)
        show own_Fin p e below G (T318.setTop (mkF m 330 #[.val (.long x0), .second, .val (.int p1), .val (.int p2), .val (.ref b2), .val (.long w5_221), .second, .val (.int (p1 &&& (3 : Int32))), .val (.int t0_314), s9_221] [(.int (f1 w5_221))]))
        refine own_to (fun _ kz => XS.iconst X318.here hx rfl (hb hby at_330) kz) ?_
        show own_Fin p e below G (T318.setTop (mkF m 331 #[.val (.long x0), .second, .val (.int p1), .val (.int p2), .val (.ref b2), .val (.long w5_221), .second, .val (.int (p1 &&& (3 : Int32))), .val (.int t0_314), s9_221] [(.int (0 : Int32)), (.int (f1 w5_221))]))
        exact K331 (0 : Int32) q323f
    have K309 : ∀ (q_j309 : (f0 x0 p1 p2) = (f0_309 x0 p1 p2 w5_221)), own_Fin p e below G (T156.setTop (mkF m 309 #[.val (.long x0), .second, .val (.int p1), .val (.int p2), .val (.ref b2), .val (.long w5_221), .second, .val (.int (p1 &&& (3 : Int32))), s8_221, s9_221] [])) := by
      intro q_j309
      refine own_to (fun _ kz => XS.iconst X156.here hx rfl (hb hby at_309) kz) ?_
      show own_Fin p e below G (T156.setTop (mkF m 310 #[.val (.long x0), .second, .val (.int p1), .val (.int p2), .val (.ref b2), .val (.long w5_221), .second, .val (.int (p1 &&& (3 : Int32))), s8_221, s9_221] [(.int (1 : Int32))]))
      refine own_to (fun _ kz => XS.goto X156.here hx rfl (pc0 := 310) (pc' := 314) rfl (hb hby at_310) (by decide) (by decide) kz) ?_
      show own_Fin p e below G (T156.setTop (mkF m 314 #[.val (.long x0), .second, .val (.int p1), .val (.int p2), .val (.ref b2), .val (.long w5_221), .second, .val (.int (p1 &&& (3 : Int32))), s8_221, s9_221] [(.int (1 : Int32))]))
      exact K314 (1 : Int32) q_j309
    by_cases hc225 : w5_221 < (0 : Int64)
    · refine own_to (fun _ kz => XS.ifYes X156.here hx rfl (pc0 := 225) (pc' := 309) rfl (hb hby at_225) rfl ((if0 _ _).trans (tlt ((lw_lt _ _).mpr hc225)).1) (by decide) (by decide) kz) ?_
      have q225t := q_j221.trans (if_pos hc225)
      show own_Fin p e below G (T156.setTop (mkF m 309 #[.val (.long x0), .second, .val (.int p1), .val (.int p2), .val (.ref b2), .val (.long w5_221), .second, .val (.int (p1 &&& (3 : Int32))), s8_221, s9_221] []))
      exact K309 q225t
    · refine own_to (fun _ kz => XS.ifNo X156.here hx rfl (hb hby at_225) rfl ((if0 _ _).trans (flt (fun q => hc225 ((lw_lt _ _).mp q))).1) kz) ?_
      have q225f := q_j221.trans (if_neg hc225)
      show own_Fin p e below G (T156.setTop (mkF m 228 #[.val (.long x0), .second, .val (.int p1), .val (.int p2), .val (.ref b2), .val (.long w5_221), .second, .val (.int (p1 &&& (3 : Int32))), s8_221, s9_221] []))
      refine own_to (fun _ kz => XS.lload X156.here hx rfl (hb hby at_228) rfl  kz) ?_
      show own_Fin p e below G (T156.setTop (mkF m 230 #[.val (.long x0), .second, .val (.int p1), .val (.int p2), .val (.ref b2), .val (.long w5_221), .second, .val (.int (p1 &&& (3 : Int32))), s8_221, s9_221] [(.long w5_221)]))
      refine own_to (fun _ kz => X156.ldc2Long hx hown (mvT hZ (hw _ (List.mem_of_getElem? (i := 14) rfl))) (g := (mkF m 230 #[.val (.long x0), .second, .val (.int p1), .val (.int p2), .val (.ref b2), .val (.long w5_221), .second, .val (.int (p1 &&& (3 : Int32))), s8_221, s9_221] [(.long w5_221)])) rfl (hb hby at_230) _ kz) ?_
      show own_Fin p e below G (T156.setTop (mkF m 233 #[.val (.long x0), .second, .val (.int p1), .val (.int p2), .val (.ref b2), .val (.long w5_221), .second, .val (.int (p1 &&& (3 : Int32))), s8_221, s9_221] [(.long (1114111 : Int64)), (.long w5_221)]))
      refine own_to (fun _ kz => XS.lcmp X156.here hx rfl (hb hby at_233) rfl kz) ?_
      show own_Fin p e below G (T156.setTop (mkF m 234 #[.val (.long x0), .second, .val (.int p1), .val (.int p2), .val (.ref b2), .val (.long w5_221), .second, .val (.int (p1 &&& (3 : Int32))), s8_221, s9_221] [(.int (lcmpW w5_221 (1114111 : Int64)))]))
      by_cases hc234 : (1114111 : Int64) < w5_221
      · refine own_to (fun _ kz => XS.ifYes X156.here hx rfl (pc0 := 234) (pc' := 309) rfl (hb hby at_234) rfl ((if0 _ _).trans (tlt ((lw_gt _ _).mpr hc234)).2.2.1) (by decide) (by decide) kz) ?_
        have q234t := q225f.trans (if_pos hc234)
        show own_Fin p e below G (T156.setTop (mkF m 309 #[.val (.long x0), .second, .val (.int p1), .val (.int p2), .val (.ref b2), .val (.long w5_221), .second, .val (.int (p1 &&& (3 : Int32))), s8_221, s9_221] []))
        exact K309 q234t
      · refine own_to (fun _ kz => XS.ifNo X156.here hx rfl (hb hby at_234) rfl ((if0 _ _).trans (flt (fun q => hc234 ((lw_gt _ _).mp q))).2.2.1) kz) ?_
        have q234f := q225f.trans (if_neg hc234)
        show own_Fin p e below G (T156.setTop (mkF m 237 #[.val (.long x0), .second, .val (.int p1), .val (.int p2), .val (.ref b2), .val (.long w5_221), .second, .val (.int (p1 &&& (3 : Int32))), s8_221, s9_221] []))
        refine own_to (fun _ kz => XS.lload X156.here hx rfl (hb hby at_237) rfl  kz) ?_
        show own_Fin p e below G (T156.setTop (mkF m 239 #[.val (.long x0), .second, .val (.int p1), .val (.int p2), .val (.ref b2), .val (.long w5_221), .second, .val (.int (p1 &&& (3 : Int32))), s8_221, s9_221] [(.long w5_221)]))
        refine own_to (fun _ kz => X156.ldc2Long hx hown (mvT hZ (hw _ (List.mem_of_getElem? (i := 5) rfl))) (g := (mkF m 239 #[.val (.long x0), .second, .val (.int p1), .val (.int p2), .val (.ref b2), .val (.long w5_221), .second, .val (.int (p1 &&& (3 : Int32))), s8_221, s9_221] [(.long w5_221)])) rfl (hb hby at_239) _ kz) ?_
        show own_Fin p e below G (T156.setTop (mkF m 242 #[.val (.long x0), .second, .val (.int p1), .val (.int p2), .val (.ref b2), .val (.long w5_221), .second, .val (.int (p1 &&& (3 : Int32))), s8_221, s9_221] [(.long (32 : Int64)), (.long w5_221)]))
        refine own_to (fun _ kz => XS.lcmp X156.here hx rfl (hb hby at_242) rfl kz) ?_
        show own_Fin p e below G (T156.setTop (mkF m 243 #[.val (.long x0), .second, .val (.int p1), .val (.int p2), .val (.ref b2), .val (.long w5_221), .second, .val (.int (p1 &&& (3 : Int32))), s8_221, s9_221] [(.int (lcmpW w5_221 (32 : Int64)))]))
        have K273 : ∀ (q_j273 : (f0 x0 p1 p2) = (f0_273 x0 p1 p2 w5_221)), own_Fin p e below G (T156.setTop (mkF m 273 #[.val (.long x0), .second, .val (.int p1), .val (.int p2), .val (.ref b2), .val (.long w5_221), .second, .val (.int (p1 &&& (3 : Int32))), s8_221, s9_221] [])) := by
          intro q_j273
          refine own_to (fun _ kz => XS.lload X156.here hx rfl (hb hby at_273) rfl  kz) ?_
          show own_Fin p e below G (T156.setTop (mkF m 275 #[.val (.long x0), .second, .val (.int p1), .val (.int p2), .val (.ref b2), .val (.long w5_221), .second, .val (.int (p1 &&& (3 : Int32))), s8_221, s9_221] [(.long w5_221)]))
          refine own_to (fun _ kz => X156.ldc2Long hx hown (mvT hZ (hw _ (List.mem_of_getElem? (i := 7) rfl))) (g := (mkF m 275 #[.val (.long x0), .second, .val (.int p1), .val (.int p2), .val (.ref b2), .val (.long w5_221), .second, .val (.int (p1 &&& (3 : Int32))), s8_221, s9_221] [(.long w5_221)])) rfl (hb hby at_275) _ kz) ?_
          show own_Fin p e below G (T156.setTop (mkF m 278 #[.val (.long x0), .second, .val (.int p1), .val (.int p2), .val (.ref b2), .val (.long w5_221), .second, .val (.int (p1 &&& (3 : Int32))), s8_221, s9_221] [(.long (55296 : Int64)), (.long w5_221)]))
          refine own_to (fun _ kz => XS.lcmp X156.here hx rfl (hb hby at_278) rfl kz) ?_
          show own_Fin p e below G (T156.setTop (mkF m 279 #[.val (.long x0), .second, .val (.int p1), .val (.int p2), .val (.ref b2), .val (.long w5_221), .second, .val (.int (p1 &&& (3 : Int32))), s8_221, s9_221] [(.int (lcmpW w5_221 (55296 : Int64)))]))
          have K291 : ∀ (q_j291 : (f0 x0 p1 p2) = (f0_291 x0 p1 p2 w5_221)), own_Fin p e below G (T156.setTop (mkF m 291 #[.val (.long x0), .second, .val (.int p1), .val (.int p2), .val (.ref b2), .val (.long w5_221), .second, .val (.int (p1 &&& (3 : Int32))), s8_221, s9_221] [])) := by
            intro q_j291
            refine own_to (fun _ kz => XS.lload X156.here hx rfl (hb hby at_291) rfl  kz) ?_
            show own_Fin p e below G (T156.setTop (mkF m 293 #[.val (.long x0), .second, .val (.int p1), .val (.int p2), .val (.ref b2), .val (.long w5_221), .second, .val (.int (p1 &&& (3 : Int32))), s8_221, s9_221] [(.long w5_221)]))
            refine own_to (fun _ kz => X156.ldc2Long hx hown (mvT hZ (hw _ (List.mem_of_getElem? (i := 11) rfl))) (g := (mkF m 293 #[.val (.long x0), .second, .val (.int p1), .val (.int p2), .val (.ref b2), .val (.long w5_221), .second, .val (.int (p1 &&& (3 : Int32))), s8_221, s9_221] [(.long w5_221)])) rfl (hb hby at_293) _ kz) ?_
            show own_Fin p e below G (T156.setTop (mkF m 296 #[.val (.long x0), .second, .val (.int p1), .val (.int p2), .val (.ref b2), .val (.long w5_221), .second, .val (.int (p1 &&& (3 : Int32))), s8_221, s9_221] [(.long (65534 : Int64)), (.long w5_221)]))
            refine own_to (fun _ kz => XS.lcmp X156.here hx rfl (hb hby at_296) rfl kz) ?_
            show own_Fin p e below G (T156.setTop (mkF m 297 #[.val (.long x0), .second, .val (.int p1), .val (.int p2), .val (.ref b2), .val (.long w5_221), .second, .val (.int (p1 &&& (3 : Int32))), s8_221, s9_221] [(.int (lcmpW w5_221 (65534 : Int64)))]))
            by_cases hc297 : w5_221 = (65534 : Int64)
            · refine own_to (fun _ kz => XS.ifYes X156.here hx rfl (pc0 := 297) (pc' := 309) rfl (hb hby at_297) rfl ((if0 _ _).trans (teq ((lw_eq _ _).mpr hc297)).1) (by decide) (by decide) kz) ?_
              have q297t := q_j291.trans (if_pos hc297)
              show own_Fin p e below G (T156.setTop (mkF m 309 #[.val (.long x0), .second, .val (.int p1), .val (.int p2), .val (.ref b2), .val (.long w5_221), .second, .val (.int (p1 &&& (3 : Int32))), s8_221, s9_221] []))
              exact K309 q297t
            · refine own_to (fun _ kz => XS.ifNo X156.here hx rfl (hb hby at_297) rfl ((if0 _ _).trans (feq (fun q => hc297 ((lw_eq _ _).mp q))).1) kz) ?_
              have q297f := q_j291.trans (if_neg hc297)
              show own_Fin p e below G (T156.setTop (mkF m 300 #[.val (.long x0), .second, .val (.int p1), .val (.int p2), .val (.ref b2), .val (.long w5_221), .second, .val (.int (p1 &&& (3 : Int32))), s8_221, s9_221] []))
              refine own_to (fun _ kz => XS.lload X156.here hx rfl (hb hby at_300) rfl  kz) ?_
              show own_Fin p e below G (T156.setTop (mkF m 302 #[.val (.long x0), .second, .val (.int p1), .val (.int p2), .val (.ref b2), .val (.long w5_221), .second, .val (.int (p1 &&& (3 : Int32))), s8_221, s9_221] [(.long w5_221)]))
              refine own_to (fun _ kz => X156.ldc2Long hx hown (mvT hZ (hw _ (List.mem_of_getElem? (i := 12) rfl))) (g := (mkF m 302 #[.val (.long x0), .second, .val (.int p1), .val (.int p2), .val (.ref b2), .val (.long w5_221), .second, .val (.int (p1 &&& (3 : Int32))), s8_221, s9_221] [(.long w5_221)])) rfl (hb hby at_302) _ kz) ?_
              show own_Fin p e below G (T156.setTop (mkF m 305 #[.val (.long x0), .second, .val (.int p1), .val (.int p2), .val (.ref b2), .val (.long w5_221), .second, .val (.int (p1 &&& (3 : Int32))), s8_221, s9_221] [(.long (65535 : Int64)), (.long w5_221)]))
              refine own_to (fun _ kz => XS.lcmp X156.here hx rfl (hb hby at_305) rfl kz) ?_
              show own_Fin p e below G (T156.setTop (mkF m 306 #[.val (.long x0), .second, .val (.int p1), .val (.int p2), .val (.ref b2), .val (.long w5_221), .second, .val (.int (p1 &&& (3 : Int32))), s8_221, s9_221] [(.int (lcmpW w5_221 (65535 : Int64)))]))
              by_cases hc306 : w5_221 = (65535 : Int64)
              · refine own_to (fun _ kz => XS.ifNo X156.here hx rfl (hb hby at_306) rfl ((if0 _ _).trans (teq ((lw_eq _ _).mpr hc306)).2) kz) ?_
                have q306t := q297f.trans (if_pos hc306)
                show own_Fin p e below G (T156.setTop (mkF m 309 #[.val (.long x0), .second, .val (.int p1), .val (.int p2), .val (.ref b2), .val (.long w5_221), .second, .val (.int (p1 &&& (3 : Int32))), s8_221, s9_221] []))
                exact K309 q306t
              · refine own_to (fun _ kz => XS.ifYes X156.here hx rfl (pc0 := 306) (pc' := 313) rfl (hb hby at_306) rfl ((if0 _ _).trans (feq (fun q => hc306 ((lw_eq _ _).mp q))).2) (by decide) (by decide) kz) ?_
                have q306f := q297f.trans (if_neg hc306)
                show own_Fin p e below G (T156.setTop (mkF m 313 #[.val (.long x0), .second, .val (.int p1), .val (.int p2), .val (.ref b2), .val (.long w5_221), .second, .val (.int (p1 &&& (3 : Int32))), s8_221, s9_221] []))
                refine own_to (fun _ kz => XS.iconst X156.here hx rfl (hb hby at_313) kz) ?_
                show own_Fin p e below G (T156.setTop (mkF m 314 #[.val (.long x0), .second, .val (.int p1), .val (.int p2), .val (.ref b2), .val (.long w5_221), .second, .val (.int (p1 &&& (3 : Int32))), s8_221, s9_221] [(.int (0 : Int32))]))
                exact K314 (0 : Int32) q306f
          by_cases hc279 : w5_221 < (55296 : Int64)
          · refine own_to (fun _ kz => XS.ifYes X156.here hx rfl (pc0 := 279) (pc' := 291) rfl (hb hby at_279) rfl ((if0 _ _).trans (tlt ((lw_lt _ _).mpr hc279)).1) (by decide) (by decide) kz) ?_
            have q279t := q_j273.trans (if_pos hc279)
            show own_Fin p e below G (T156.setTop (mkF m 291 #[.val (.long x0), .second, .val (.int p1), .val (.int p2), .val (.ref b2), .val (.long w5_221), .second, .val (.int (p1 &&& (3 : Int32))), s8_221, s9_221] []))
            exact K291 q279t
          · refine own_to (fun _ kz => XS.ifNo X156.here hx rfl (hb hby at_279) rfl ((if0 _ _).trans (flt (fun q => hc279 ((lw_lt _ _).mp q))).1) kz) ?_
            have q279f := q_j273.trans (if_neg hc279)
            show own_Fin p e below G (T156.setTop (mkF m 282 #[.val (.long x0), .second, .val (.int p1), .val (.int p2), .val (.ref b2), .val (.long w5_221), .second, .val (.int (p1 &&& (3 : Int32))), s8_221, s9_221] []))
            refine own_to (fun _ kz => XS.lload X156.here hx rfl (hb hby at_282) rfl  kz) ?_
            show own_Fin p e below G (T156.setTop (mkF m 284 #[.val (.long x0), .second, .val (.int p1), .val (.int p2), .val (.ref b2), .val (.long w5_221), .second, .val (.int (p1 &&& (3 : Int32))), s8_221, s9_221] [(.long w5_221)]))
            refine own_to (fun _ kz => X156.ldc2Long hx hown (mvT hZ (hw _ (List.mem_of_getElem? (i := 8) rfl))) (g := (mkF m 284 #[.val (.long x0), .second, .val (.int p1), .val (.int p2), .val (.ref b2), .val (.long w5_221), .second, .val (.int (p1 &&& (3 : Int32))), s8_221, s9_221] [(.long w5_221)])) rfl (hb hby at_284) _ kz) ?_
            show own_Fin p e below G (T156.setTop (mkF m 287 #[.val (.long x0), .second, .val (.int p1), .val (.int p2), .val (.ref b2), .val (.long w5_221), .second, .val (.int (p1 &&& (3 : Int32))), s8_221, s9_221] [(.long (57343 : Int64)), (.long w5_221)]))
            refine own_to (fun _ kz => XS.lcmp X156.here hx rfl (hb hby at_287) rfl kz) ?_
            show own_Fin p e below G (T156.setTop (mkF m 288 #[.val (.long x0), .second, .val (.int p1), .val (.int p2), .val (.ref b2), .val (.long w5_221), .second, .val (.int (p1 &&& (3 : Int32))), s8_221, s9_221] [(.int (lcmpW w5_221 (57343 : Int64)))]))
            by_cases hc288 : (57343 : Int64) < w5_221
            · refine own_to (fun _ kz => XS.ifNo X156.here hx rfl (hb hby at_288) rfl ((if0 _ _).trans (tlt ((lw_gt _ _).mpr hc288)).2.2.2) kz) ?_
              have q288t := q279f.trans (if_pos hc288)
              show own_Fin p e below G (T156.setTop (mkF m 291 #[.val (.long x0), .second, .val (.int p1), .val (.int p2), .val (.ref b2), .val (.long w5_221), .second, .val (.int (p1 &&& (3 : Int32))), s8_221, s9_221] []))
              exact K291 q288t
            · refine own_to (fun _ kz => XS.ifYes X156.here hx rfl (pc0 := 288) (pc' := 309) rfl (hb hby at_288) rfl ((if0 _ _).trans (flt (fun q => hc288 ((lw_gt _ _).mp q))).2.2.2) (by decide) (by decide) kz) ?_
              have q288f := q279f.trans (if_neg hc288)
              show own_Fin p e below G (T156.setTop (mkF m 309 #[.val (.long x0), .second, .val (.int p1), .val (.int p2), .val (.ref b2), .val (.long w5_221), .second, .val (.int (p1 &&& (3 : Int32))), s8_221, s9_221] []))
              exact K309 q288f
        by_cases hc243 : w5_221 < (32 : Int64)
        · refine own_to (fun _ kz => XS.ifNo X156.here hx rfl (hb hby at_243) rfl ((if0 _ _).trans (tlt ((lw_lt _ _).mpr hc243)).2.1) kz) ?_
          have q243t := q234f.trans (if_pos hc243)
          show own_Fin p e below G (T156.setTop (mkF m 246 #[.val (.long x0), .second, .val (.int p1), .val (.int p2), .val (.ref b2), .val (.long w5_221), .second, .val (.int (p1 &&& (3 : Int32))), s8_221, s9_221] []))
          refine own_to (fun _ kz => XS.lload X156.here hx rfl (hb hby at_246) rfl  kz) ?_
          show own_Fin p e below G (T156.setTop (mkF m 248 #[.val (.long x0), .second, .val (.int p1), .val (.int p2), .val (.ref b2), .val (.long w5_221), .second, .val (.int (p1 &&& (3 : Int32))), s8_221, s9_221] [(.long w5_221)]))
          refine own_to (fun _ kz => X156.ldc2Long hx hown (mvT hZ (hw _ (List.mem_of_getElem? (i := 1) rfl))) (g := (mkF m 248 #[.val (.long x0), .second, .val (.int p1), .val (.int p2), .val (.ref b2), .val (.long w5_221), .second, .val (.int (p1 &&& (3 : Int32))), s8_221, s9_221] [(.long w5_221)])) rfl (hb hby at_248) _ kz) ?_
          show own_Fin p e below G (T156.setTop (mkF m 251 #[.val (.long x0), .second, .val (.int p1), .val (.int p2), .val (.ref b2), .val (.long w5_221), .second, .val (.int (p1 &&& (3 : Int32))), s8_221, s9_221] [(.long (9 : Int64)), (.long w5_221)]))
          refine own_to (fun _ kz => XS.lcmp X156.here hx rfl (hb hby at_251) rfl kz) ?_
          show own_Fin p e below G (T156.setTop (mkF m 252 #[.val (.long x0), .second, .val (.int p1), .val (.int p2), .val (.ref b2), .val (.long w5_221), .second, .val (.int (p1 &&& (3 : Int32))), s8_221, s9_221] [(.int (lcmpW w5_221 (9 : Int64)))]))
          by_cases hc252 : w5_221 = (9 : Int64)
          · refine own_to (fun _ kz => XS.ifYes X156.here hx rfl (pc0 := 252) (pc' := 273) rfl (hb hby at_252) rfl ((if0 _ _).trans (teq ((lw_eq _ _).mpr hc252)).1) (by decide) (by decide) kz) ?_
            have q252t := q243t.trans (if_pos hc252)
            show own_Fin p e below G (T156.setTop (mkF m 273 #[.val (.long x0), .second, .val (.int p1), .val (.int p2), .val (.ref b2), .val (.long w5_221), .second, .val (.int (p1 &&& (3 : Int32))), s8_221, s9_221] []))
            exact K273 q252t
          · refine own_to (fun _ kz => XS.ifNo X156.here hx rfl (hb hby at_252) rfl ((if0 _ _).trans (feq (fun q => hc252 ((lw_eq _ _).mp q))).1) kz) ?_
            have q252f := q243t.trans (if_neg hc252)
            show own_Fin p e below G (T156.setTop (mkF m 255 #[.val (.long x0), .second, .val (.int p1), .val (.int p2), .val (.ref b2), .val (.long w5_221), .second, .val (.int (p1 &&& (3 : Int32))), s8_221, s9_221] []))
            refine own_to (fun _ kz => XS.lload X156.here hx rfl (hb hby at_255) rfl  kz) ?_
            show own_Fin p e below G (T156.setTop (mkF m 257 #[.val (.long x0), .second, .val (.int p1), .val (.int p2), .val (.ref b2), .val (.long w5_221), .second, .val (.int (p1 &&& (3 : Int32))), s8_221, s9_221] [(.long w5_221)]))
            refine own_to (fun _ kz => X156.ldc2Long hx hown (mvT hZ (hw _ (List.mem_of_getElem? (i := 2) rfl))) (g := (mkF m 257 #[.val (.long x0), .second, .val (.int p1), .val (.int p2), .val (.ref b2), .val (.long w5_221), .second, .val (.int (p1 &&& (3 : Int32))), s8_221, s9_221] [(.long w5_221)])) rfl (hb hby at_257) _ kz) ?_
            show own_Fin p e below G (T156.setTop (mkF m 260 #[.val (.long x0), .second, .val (.int p1), .val (.int p2), .val (.ref b2), .val (.long w5_221), .second, .val (.int (p1 &&& (3 : Int32))), s8_221, s9_221] [(.long (10 : Int64)), (.long w5_221)]))
            refine own_to (fun _ kz => XS.lcmp X156.here hx rfl (hb hby at_260) rfl kz) ?_
            show own_Fin p e below G (T156.setTop (mkF m 261 #[.val (.long x0), .second, .val (.int p1), .val (.int p2), .val (.ref b2), .val (.long w5_221), .second, .val (.int (p1 &&& (3 : Int32))), s8_221, s9_221] [(.int (lcmpW w5_221 (10 : Int64)))]))
            by_cases hc261 : w5_221 = (10 : Int64)
            · refine own_to (fun _ kz => XS.ifYes X156.here hx rfl (pc0 := 261) (pc' := 273) rfl (hb hby at_261) rfl ((if0 _ _).trans (teq ((lw_eq _ _).mpr hc261)).1) (by decide) (by decide) kz) ?_
              have q261t := q252f.trans (if_pos hc261)
              show own_Fin p e below G (T156.setTop (mkF m 273 #[.val (.long x0), .second, .val (.int p1), .val (.int p2), .val (.ref b2), .val (.long w5_221), .second, .val (.int (p1 &&& (3 : Int32))), s8_221, s9_221] []))
              exact K273 q261t
            · refine own_to (fun _ kz => XS.ifNo X156.here hx rfl (hb hby at_261) rfl ((if0 _ _).trans (feq (fun q => hc261 ((lw_eq _ _).mp q))).1) kz) ?_
              have q261f := q252f.trans (if_neg hc261)
              show own_Fin p e below G (T156.setTop (mkF m 264 #[.val (.long x0), .second, .val (.int p1), .val (.int p2), .val (.ref b2), .val (.long w5_221), .second, .val (.int (p1 &&& (3 : Int32))), s8_221, s9_221] []))
              refine own_to (fun _ kz => XS.lload X156.here hx rfl (hb hby at_264) rfl  kz) ?_
              show own_Fin p e below G (T156.setTop (mkF m 266 #[.val (.long x0), .second, .val (.int p1), .val (.int p2), .val (.ref b2), .val (.long w5_221), .second, .val (.int (p1 &&& (3 : Int32))), s8_221, s9_221] [(.long w5_221)]))
              refine own_to (fun _ kz => X156.ldc2Long hx hown (mvT hZ (hw _ (List.mem_of_getElem? (i := 3) rfl))) (g := (mkF m 266 #[.val (.long x0), .second, .val (.int p1), .val (.int p2), .val (.ref b2), .val (.long w5_221), .second, .val (.int (p1 &&& (3 : Int32))), s8_221, s9_221] [(.long w5_221)])) rfl (hb hby at_266) _ kz) ?_
              show own_Fin p e below G (T156.setTop (mkF m 269 #[.val (.long x0), .second, .val (.int p1), .val (.int p2), .val (.ref b2), .val (.long w5_221), .second, .val (.int (p1 &&& (3 : Int32))), s8_221, s9_221] [(.long (13 : Int64)), (.long w5_221)]))
              refine own_to (fun _ kz => XS.lcmp X156.here hx rfl (hb hby at_269) rfl kz) ?_
              show own_Fin p e below G (T156.setTop (mkF m 270 #[.val (.long x0), .second, .val (.int p1), .val (.int p2), .val (.ref b2), .val (.long w5_221), .second, .val (.int (p1 &&& (3 : Int32))), s8_221, s9_221] [(.int (lcmpW w5_221 (13 : Int64)))]))
              by_cases hc270 : w5_221 = (13 : Int64)
              · refine own_to (fun _ kz => XS.ifNo X156.here hx rfl (hb hby at_270) rfl ((if0 _ _).trans (teq ((lw_eq _ _).mpr hc270)).2) kz) ?_
                have q270t := q261f.trans (if_pos hc270)
                show own_Fin p e below G (T156.setTop (mkF m 273 #[.val (.long x0), .second, .val (.int p1), .val (.int p2), .val (.ref b2), .val (.long w5_221), .second, .val (.int (p1 &&& (3 : Int32))), s8_221, s9_221] []))
                exact K273 q270t
              · refine own_to (fun _ kz => XS.ifYes X156.here hx rfl (pc0 := 270) (pc' := 309) rfl (hb hby at_270) rfl ((if0 _ _).trans (feq (fun q => hc270 ((lw_eq _ _).mp q))).2) (by decide) (by decide) kz) ?_
                have q270f := q261f.trans (if_neg hc270)
                show own_Fin p e below G (T156.setTop (mkF m 309 #[.val (.long x0), .second, .val (.int p1), .val (.int p2), .val (.ref b2), .val (.long w5_221), .second, .val (.int (p1 &&& (3 : Int32))), s8_221, s9_221] []))
                exact K309 q270f
        · refine own_to (fun _ kz => XS.ifYes X156.here hx rfl (pc0 := 243) (pc' := 273) rfl (hb hby at_243) rfl ((if0 _ _).trans (flt (fun q => hc243 ((lw_lt _ _).mp q))).2.1) (by decide) (by decide) kz) ?_
          have q243f := q234f.trans (if_neg hc243)
          show own_Fin p e below G (T156.setTop (mkF m 273 #[.val (.long x0), .second, .val (.int p1), .val (.int p2), .val (.ref b2), .val (.long w5_221), .second, .val (.int (p1 &&& (3 : Int32))), s8_221, s9_221] []))
          exact K273 q243f
  by_cases hc166 : (p1 &&& (3 : Int32)) = (0 : Int32)
  · refine own_to (fun _ kz => XS.ifNo X156.here hx rfl (hb hby at_166) rfl ((if0 _ _).trans (teq hc166).2) kz) ?_
    have q166t := q0.trans (if_pos hc166)
    show own_Fin p e below G (T156.setTop (mkF m 169 #[.val (.long x0), .second, .val (.int p1), .val (.int p2), .val (.ref b2), .unset, .unset, .val (.int (p1 &&& (3 : Int32))), .unset, .unset] []))
    refine own_to (fun _ kz => XS.lloadN X156.here hx rfl (hb hby at_169) rfl  kz) ?_
    show own_Fin p e below G (T156.setTop (mkF m 170 #[.val (.long x0), .second, .val (.int p1), .val (.int p2), .val (.ref b2), .unset, .unset, .val (.int (p1 &&& (3 : Int32))), .unset, .unset] [(.long x0)]))
    refine own_to (fun _ kz => XS.lstore X156.here hx rfl (hb hby at_170) rfl (l' := #[.val (.long x0), .second, .val (.int p1), .val (.int p2), .val (.ref b2), .val (.long x0), .second, .val (.int (p1 &&& (3 : Int32))), .unset, .unset]) rfl kz) ?_
    show own_Fin p e below G (T156.setTop (mkF m 172 #[.val (.long x0), .second, .val (.int p1), .val (.int p2), .val (.ref b2), .val (.long x0), .second, .val (.int (p1 &&& (3 : Int32))), .unset, .unset] []))
    refine own_to (fun _ kz => XS.goto X156.here hx rfl (pc0 := 172) (pc' := 221) rfl (hb hby at_172) (by decide) (by decide) kz) ?_
    show own_Fin p e below G (T156.setTop (mkF m 221 #[.val (.long x0), .second, .val (.int p1), .val (.int p2), .val (.ref b2), .val (.long x0), .second, .val (.int (p1 &&& (3 : Int32))), .unset, .unset] []))
    exact K221 x0 (.unset) (.unset) One.u One.u q166t
  · refine own_to (fun _ kz => XS.ifYes X156.here hx rfl (pc0 := 166) (pc' := 175) rfl (hb hby at_166) rfl ((if0 _ _).trans (feq hc166).2) (by decide) (by decide) kz) ?_
    have q166f := q0.trans (if_neg hc166)
    show own_Fin p e below G (T156.setTop (mkF m 175 #[.val (.long x0), .second, .val (.int p1), .val (.int p2), .val (.ref b2), .unset, .unset, .val (.int (p1 &&& (3 : Int32))), .unset, .unset] []))
    refine own_to (fun _ kz => XS.iload X156.here hx rfl (hb hby at_175) rfl  kz) ?_
    show own_Fin p e below G (T156.setTop (mkF m 177 #[.val (.long x0), .second, .val (.int p1), .val (.int p2), .val (.ref b2), .unset, .unset, .val (.int (p1 &&& (3 : Int32))), .unset, .unset] [(.int (p1 &&& (3 : Int32)))]))
    refine own_to (fun _ kz => XS.iconst X156.here hx rfl (hb hby at_177) kz) ?_
    show own_Fin p e below G (T156.setTop (mkF m 178 #[.val (.long x0), .second, .val (.int p1), .val (.int p2), .val (.ref b2), .unset, .unset, .val (.int (p1 &&& (3 : Int32))), .unset, .unset] [(.int (1 : Int32)), (.int (p1 &&& (3 : Int32)))]))
    by_cases hc178 : (p1 &&& (3 : Int32)) = (1 : Int32)
    · refine own_to (fun _ kz => XS.icmpNo X156.here hx rfl (hb hby at_178) rfl (teq hc178).2 kz) ?_
      have q178t := q166f.trans (if_pos hc178)
      show own_Fin p e below G (T156.setTop (mkF m 181 #[.val (.long x0), .second, .val (.int p1), .val (.int p2), .val (.ref b2), .unset, .unset, .val (.int (p1 &&& (3 : Int32))), .unset, .unset] []))
      refine own_to (fun _ kz => XS.lloadN X156.here hx rfl (hb hby at_181) rfl  kz) ?_
      show own_Fin p e below G (T156.setTop (mkF m 182 #[.val (.long x0), .second, .val (.int p1), .val (.int p2), .val (.ref b2), .unset, .unset, .val (.int (p1 &&& (3 : Int32))), .unset, .unset] [(.long x0)]))
      refine own_to (fun _ kz => X156.ldc2Long hx hown (mvT hZ (hw _ (List.mem_of_getElem? (i := 37) rfl))) (g := (mkF m 182 #[.val (.long x0), .second, .val (.int p1), .val (.int p2), .val (.ref b2), .unset, .unset, .val (.int (p1 &&& (3 : Int32))), .unset, .unset] [(.long x0)])) rfl (hb hby at_182) _ kz) ?_
      show own_Fin p e below G (T156.setTop (mkF m 185 #[.val (.long x0), .second, .val (.int p1), .val (.int p2), .val (.ref b2), .unset, .unset, .val (.int (p1 &&& (3 : Int32))), .unset, .unset] [(.long (2097151 : Int64)), (.long x0)]))
      refine own_to (fun _ kz => XS.land X156.here hx rfl (hb hby at_185) rfl kz) ?_
      show own_Fin p e below G (T156.setTop (mkF m 186 #[.val (.long x0), .second, .val (.int p1), .val (.int p2), .val (.ref b2), .unset, .unset, .val (.int (p1 &&& (3 : Int32))), .unset, .unset] [(.long (x0 &&& (2097151 : Int64)))]))
      refine own_to (fun _ kz => XS.lstore X156.here hx rfl (hb hby at_186) rfl (l' := #[.val (.long x0), .second, .val (.int p1), .val (.int p2), .val (.ref b2), .val (.long (x0 &&& (2097151 : Int64))), .second, .val (.int (p1 &&& (3 : Int32))), .unset, .unset]) rfl kz) ?_
      show own_Fin p e below G (T156.setTop (mkF m 188 #[.val (.long x0), .second, .val (.int p1), .val (.int p2), .val (.ref b2), .val (.long (x0 &&& (2097151 : Int64))), .second, .val (.int (p1 &&& (3 : Int32))), .unset, .unset] []))
      refine own_to (fun _ kz => XS.goto X156.here hx rfl (pc0 := 188) (pc' := 221) rfl (hb hby at_188) (by decide) (by decide) kz) ?_
      show own_Fin p e below G (T156.setTop (mkF m 221 #[.val (.long x0), .second, .val (.int p1), .val (.int p2), .val (.ref b2), .val (.long (x0 &&& (2097151 : Int64))), .second, .val (.int (p1 &&& (3 : Int32))), .unset, .unset] []))
      exact K221 (x0 &&& (2097151 : Int64)) (.unset) (.unset) One.u One.u q178t
    · refine own_to (fun _ kz => XS.icmpYes X156.here hx rfl (pc0 := 178) (pc' := 191) rfl (hb hby at_178) rfl (feq hc178).2 (by decide) (by decide) kz) ?_
      have q178f := q166f.trans (if_neg hc178)
      show own_Fin p e below G (T156.setTop (mkF m 191 #[.val (.long x0), .second, .val (.int p1), .val (.int p2), .val (.ref b2), .unset, .unset, .val (.int (p1 &&& (3 : Int32))), .unset, .unset] []))
      refine own_to (fun _ kz => XS.iloadN X156.here hx rfl (hb hby at_191) rfl  kz) ?_
      show own_Fin p e below G (T156.setTop (mkF m 192 #[.val (.long x0), .second, .val (.int p1), .val (.int p2), .val (.ref b2), .unset, .unset, .val (.int (p1 &&& (3 : Int32))), .unset, .unset] [(.int p1)]))
      refine own_to (fun _ kz => XS.iconst X156.here hx rfl (hb hby at_192) kz) ?_
      show own_Fin p e below G (T156.setTop (mkF m 193 #[.val (.long x0), .second, .val (.int p1), .val (.int p2), .val (.ref b2), .unset, .unset, .val (.int (p1 &&& (3 : Int32))), .unset, .unset] [(.int (2 : Int32)), (.int p1)]))
      refine own_to (fun _ kz => XS.iushr X156.here hx rfl (hb hby at_193) rfl kz) ?_
      show own_Fin p e below G (T156.setTop (mkF m 194 #[.val (.long x0), .second, .val (.int p1), .val (.int p2), .val (.ref b2), .unset, .unset, .val (.int (p1 &&& (3 : Int32))), .unset, .unset] [(.int ((p1.toUInt32 >>> ((2 : Int32) &&& 31).toUInt32).toInt32))]))
      refine own_to (fun _ kz => XS.aload X156.here hx rfl (hb hby at_194) rfl (rfl)  kz) ?_
      show own_Fin p e below G (T156.setTop (mkF m 196 #[.val (.long x0), .second, .val (.int p1), .val (.int p2), .val (.ref b2), .unset, .unset, .val (.int (p1 &&& (3 : Int32))), .unset, .unset] [(.ref b2), (.int ((p1.toUInt32 >>> ((2 : Int32) &&& 31).toUInt32).toInt32))]))
      refine own_to (fun _ kz => own_alen X156 hx hZ e156 V156 (z := (23 : Int32)) rfl (g := (mkF m 196 #[.val (.long x0), .second, .val (.int p1), .val (.int p2), .val (.ref b2), .unset, .unset, .val (.int (p1 &&& (3 : Int32))), .unset, .unset] [(.ref b2), (.int ((p1.toUInt32 >>> ((2 : Int32) &&& 31).toUInt32).toInt32))])) rfl rfl (hb hby at_196) kz) ?_
      show own_Fin p e below G (T156.setTop (mkF m 197 #[.val (.long x0), .second, .val (.int p1), .val (.int p2), .val (.ref b2), .unset, .unset, .val (.int (p1 &&& (3 : Int32))), .unset, .unset] [(.int (23 : Int32)), (.int ((p1.toUInt32 >>> ((2 : Int32) &&& 31).toUInt32).toInt32))]))
      refine own_to (fun _ kz => iremM X156 hx rfl (hb hby at_197) rfl (by decide) kz) ?_
      show own_Fin p e below G (T156.setTop (mkF m 198 #[.val (.long x0), .second, .val (.int p1), .val (.int p2), .val (.ref b2), .unset, .unset, .val (.int (p1 &&& (3 : Int32))), .unset, .unset] [(.int (((p1.toUInt32 >>> ((2 : Int32) &&& 31).toUInt32).toInt32) % (23 : Int32)))]))
      refine own_to (fun _ kz => XS.istore X156.here hx rfl (hb hby at_198) rfl (l' := #[.val (.long x0), .second, .val (.int p1), .val (.int p2), .val (.ref b2), .unset, .unset, .val (.int (p1 &&& (3 : Int32))), .val (.int (((p1.toUInt32 >>> ((2 : Int32) &&& 31).toUInt32).toInt32) % (23 : Int32))), .unset]) rfl kz) ?_
      show own_Fin p e below G (T156.setTop (mkF m 200 #[.val (.long x0), .second, .val (.int p1), .val (.int p2), .val (.ref b2), .unset, .unset, .val (.int (p1 &&& (3 : Int32))), .val (.int (((p1.toUInt32 >>> ((2 : Int32) &&& 31).toUInt32).toInt32) % (23 : Int32))), .unset] []))
      have K200 : ∀ (v8_200 : Int32) (jh0_200 : 0 ≤ v8_200.toInt ∧ v8_200.toInt ≤ 22) (q_j200 : (f0 x0 p1 p2) = (f0_200 x0 p1 p2 v8_200)), own_Fin p e below G (T156.setTop (mkF m 200 #[.val (.long x0), .second, .val (.int p1), .val (.int p2), .val (.ref b2), .unset, .unset, .val (.int (p1 &&& (3 : Int32))), .val (.int v8_200), .unset] [])) := by
        intro v8_200 jh0_200 q_j200
        refine own_to (fun _ kz => XS.iloadN X156.here hx rfl (hb hby at_200) rfl  kz) ?_
        show own_Fin p e below G (T156.setTop (mkF m 201 #[.val (.long x0), .second, .val (.int p1), .val (.int p2), .val (.ref b2), .unset, .unset, .val (.int (p1 &&& (3 : Int32))), .val (.int v8_200), .unset] [(.int p2)]))
        refine own_to (fun _ kz => X156.ldcInt hx hown (mvT hZ (hw _ (List.mem_of_getElem? (i := 23) rfl))) (g := (mkF m 201 #[.val (.long x0), .second, .val (.int p1), .val (.int p2), .val (.ref b2), .unset, .unset, .val (.int (p1 &&& (3 : Int32))), .val (.int v8_200), .unset] [(.int p2)])) rfl (hb hby at_201) _ kz) ?_
        show own_Fin p e below G (T156.setTop (mkF m 203 #[.val (.long x0), .second, .val (.int p1), .val (.int p2), .val (.ref b2), .unset, .unset, .val (.int (p1 &&& (3 : Int32))), .val (.int v8_200), .unset] [(.int (2147483647 : Int32)), (.int p2)]))
        refine own_to (fun _ kz => XS.iand X156.here hx rfl (hb hby at_203) rfl kz) ?_
        show own_Fin p e below G (T156.setTop (mkF m 204 #[.val (.long x0), .second, .val (.int p1), .val (.int p2), .val (.ref b2), .unset, .unset, .val (.int (p1 &&& (3 : Int32))), .val (.int v8_200), .unset] [(.int (p2 &&& (2147483647 : Int32)))]))
        refine own_to (fun _ kz => XS.iconst X156.here hx rfl (hb hby at_204) kz) ?_
        show own_Fin p e below G (T156.setTop (mkF m 205 #[.val (.long x0), .second, .val (.int p1), .val (.int p2), .val (.ref b2), .unset, .unset, .val (.int (p1 &&& (3 : Int32))), .val (.int v8_200), .unset] [(.int (5 : Int32)), (.int (p2 &&& (2147483647 : Int32)))]))
        refine own_to (fun _ kz => iremM X156 hx rfl (hb hby at_205) rfl (by decide) kz) ?_
        show own_Fin p e below G (T156.setTop (mkF m 206 #[.val (.long x0), .second, .val (.int p1), .val (.int p2), .val (.ref b2), .unset, .unset, .val (.int (p1 &&& (3 : Int32))), .val (.int v8_200), .unset] [(.int ((p2 &&& (2147483647 : Int32)) % (5 : Int32)))]))
        refine own_to (fun _ kz => XS.iconst X156.here hx rfl (hb hby at_206) kz) ?_
        show own_Fin p e below G (T156.setTop (mkF m 207 #[.val (.long x0), .second, .val (.int p1), .val (.int p2), .val (.ref b2), .unset, .unset, .val (.int (p1 &&& (3 : Int32))), .val (.int v8_200), .unset] [(.int (2 : Int32)), (.int ((p2 &&& (2147483647 : Int32)) % (5 : Int32)))]))
        refine own_to (fun _ kz => XS.isub X156.here hx rfl (hb hby at_207) rfl kz) ?_
        show own_Fin p e below G (T156.setTop (mkF m 208 #[.val (.long x0), .second, .val (.int p1), .val (.int p2), .val (.ref b2), .unset, .unset, .val (.int (p1 &&& (3 : Int32))), .val (.int v8_200), .unset] [(.int (((p2 &&& (2147483647 : Int32)) % (5 : Int32)) - (2 : Int32)))]))
        refine own_to (fun _ kz => XS.istore X156.here hx rfl (hb hby at_208) rfl (l' := #[.val (.long x0), .second, .val (.int p1), .val (.int p2), .val (.ref b2), .unset, .unset, .val (.int (p1 &&& (3 : Int32))), .val (.int v8_200), .val (.int (((p2 &&& (2147483647 : Int32)) % (5 : Int32)) - (2 : Int32)))]) rfl kz) ?_
        show own_Fin p e below G (T156.setTop (mkF m 210 #[.val (.long x0), .second, .val (.int p1), .val (.int p2), .val (.ref b2), .unset, .unset, .val (.int (p1 &&& (3 : Int32))), .val (.int v8_200), .val (.int (((p2 &&& (2147483647 : Int32)) % (5 : Int32)) - (2 : Int32)))] []))
        refine own_to (fun _ kz => XS.aload X156.here hx rfl (hb hby at_210) rfl (rfl)  kz) ?_
        show own_Fin p e below G (T156.setTop (mkF m 212 #[.val (.long x0), .second, .val (.int p1), .val (.int p2), .val (.ref b2), .unset, .unset, .val (.int (p1 &&& (3 : Int32))), .val (.int v8_200), .val (.int (((p2 &&& (2147483647 : Int32)) % (5 : Int32)) - (2 : Int32)))] [(.ref b2)]))
        refine own_to (fun _ kz => XS.iload X156.here hx rfl (hb hby at_212) rfl  kz) ?_
        show own_Fin p e below G (T156.setTop (mkF m 214 #[.val (.long x0), .second, .val (.int p1), .val (.int p2), .val (.ref b2), .unset, .unset, .val (.int (p1 &&& (3 : Int32))), .val (.int v8_200), .val (.int (((p2 &&& (2147483647 : Int32)) % (5 : Int32)) - (2 : Int32)))] [(.int v8_200), (.ref b2)]))
        refine own_to (fun _ kz => own_laload X156 hx hZ e156 V156 (j := v8_200) (own_nn jh0_200) rfl (own_lt23 jh0_200) (g := (mkF m 214 #[.val (.long x0), .second, .val (.int p1), .val (.int p2), .val (.ref b2), .unset, .unset, .val (.int (p1 &&& (3 : Int32))), .val (.int v8_200), .val (.int (((p2 &&& (2147483647 : Int32)) % (5 : Int32)) - (2 : Int32)))] [(.int v8_200), (.ref b2)])) rfl rfl (hb hby at_214) kz) ?_
        show own_Fin p e below G (T156.setTop (mkF m 215 #[.val (.long x0), .second, .val (.int p1), .val (.int p2), .val (.ref b2), .unset, .unset, .val (.int (p1 &&& (3 : Int32))), .val (.int v8_200), .val (.int (((p2 &&& (2147483647 : Int32)) % (5 : Int32)) - (2 : Int32)))] [(.long ((own_upd (own_upd (own_upd (own_upd (own_upd (own_upd (own_upd (own_upd (own_upd (own_upd (own_upd (own_upd (own_upd (own_upd (own_upd (own_upd (own_upd (own_upd (own_upd (own_upd (own_upd (own_upd (own_upd (fun _ => (0 : Int64)) 0 (0 : Int64)) 1 (9 : Int64)) 2 (10 : Int64)) 3 (13 : Int64)) 4 (31 : Int64)) 5 (32 : Int64)) 6 (55295 : Int64)) 7 (55296 : Int64)) 8 (57343 : Int64)) 9 (57344 : Int64)) 10 (65533 : Int64)) 11 (65534 : Int64)) 12 (65535 : Int64)) 13 (65536 : Int64)) 14 (1114111 : Int64)) 15 (1114112 : Int64)) 16 (-1 : Int64)) 17 (-9223372036854775808 : Int64)) 18 (9223372036854775807 : Int64)) 19 (2147483647 : Int64)) 20 (-2147483648 : Int64)) 21 (127 : Int64)) 22 (128 : Int64)) v8_200.toNatClampNeg))]))
        refine own_to (fun _ kz => XS.iload X156.here hx rfl (hb hby at_215) rfl  kz) ?_
        show own_Fin p e below G (T156.setTop (mkF m 217 #[.val (.long x0), .second, .val (.int p1), .val (.int p2), .val (.ref b2), .unset, .unset, .val (.int (p1 &&& (3 : Int32))), .val (.int v8_200), .val (.int (((p2 &&& (2147483647 : Int32)) % (5 : Int32)) - (2 : Int32)))] [(.int (((p2 &&& (2147483647 : Int32)) % (5 : Int32)) - (2 : Int32))), (.long ((own_upd (own_upd (own_upd (own_upd (own_upd (own_upd (own_upd (own_upd (own_upd (own_upd (own_upd (own_upd (own_upd (own_upd (own_upd (own_upd (own_upd (own_upd (own_upd (own_upd (own_upd (own_upd (own_upd (fun _ => (0 : Int64)) 0 (0 : Int64)) 1 (9 : Int64)) 2 (10 : Int64)) 3 (13 : Int64)) 4 (31 : Int64)) 5 (32 : Int64)) 6 (55295 : Int64)) 7 (55296 : Int64)) 8 (57343 : Int64)) 9 (57344 : Int64)) 10 (65533 : Int64)) 11 (65534 : Int64)) 12 (65535 : Int64)) 13 (65536 : Int64)) 14 (1114111 : Int64)) 15 (1114112 : Int64)) 16 (-1 : Int64)) 17 (-9223372036854775808 : Int64)) 18 (9223372036854775807 : Int64)) 19 (2147483647 : Int64)) 20 (-2147483648 : Int64)) 21 (127 : Int64)) 22 (128 : Int64)) v8_200.toNatClampNeg))]))
        refine own_to (fun _ kz => XS.i2l X156.here hx rfl (hb hby at_217) rfl kz) ?_
        show own_Fin p e below G (T156.setTop (mkF m 218 #[.val (.long x0), .second, .val (.int p1), .val (.int p2), .val (.ref b2), .unset, .unset, .val (.int (p1 &&& (3 : Int32))), .val (.int v8_200), .val (.int (((p2 &&& (2147483647 : Int32)) % (5 : Int32)) - (2 : Int32)))] [(.long ((((p2 &&& (2147483647 : Int32)) % (5 : Int32)) - (2 : Int32)).toInt64)), (.long ((own_upd (own_upd (own_upd (own_upd (own_upd (own_upd (own_upd (own_upd (own_upd (own_upd (own_upd (own_upd (own_upd (own_upd (own_upd (own_upd (own_upd (own_upd (own_upd (own_upd (own_upd (own_upd (own_upd (fun _ => (0 : Int64)) 0 (0 : Int64)) 1 (9 : Int64)) 2 (10 : Int64)) 3 (13 : Int64)) 4 (31 : Int64)) 5 (32 : Int64)) 6 (55295 : Int64)) 7 (55296 : Int64)) 8 (57343 : Int64)) 9 (57344 : Int64)) 10 (65533 : Int64)) 11 (65534 : Int64)) 12 (65535 : Int64)) 13 (65536 : Int64)) 14 (1114111 : Int64)) 15 (1114112 : Int64)) 16 (-1 : Int64)) 17 (-9223372036854775808 : Int64)) 18 (9223372036854775807 : Int64)) 19 (2147483647 : Int64)) 20 (-2147483648 : Int64)) 21 (127 : Int64)) 22 (128 : Int64)) v8_200.toNatClampNeg))]))
        refine own_to (fun _ kz => XS.ladd X156.here hx rfl (hb hby at_218) rfl kz) ?_
        show own_Fin p e below G (T156.setTop (mkF m 219 #[.val (.long x0), .second, .val (.int p1), .val (.int p2), .val (.ref b2), .unset, .unset, .val (.int (p1 &&& (3 : Int32))), .val (.int v8_200), .val (.int (((p2 &&& (2147483647 : Int32)) % (5 : Int32)) - (2 : Int32)))] [(.long (((own_upd (own_upd (own_upd (own_upd (own_upd (own_upd (own_upd (own_upd (own_upd (own_upd (own_upd (own_upd (own_upd (own_upd (own_upd (own_upd (own_upd (own_upd (own_upd (own_upd (own_upd (own_upd (own_upd (fun _ => (0 : Int64)) 0 (0 : Int64)) 1 (9 : Int64)) 2 (10 : Int64)) 3 (13 : Int64)) 4 (31 : Int64)) 5 (32 : Int64)) 6 (55295 : Int64)) 7 (55296 : Int64)) 8 (57343 : Int64)) 9 (57344 : Int64)) 10 (65533 : Int64)) 11 (65534 : Int64)) 12 (65535 : Int64)) 13 (65536 : Int64)) 14 (1114111 : Int64)) 15 (1114112 : Int64)) 16 (-1 : Int64)) 17 (-9223372036854775808 : Int64)) 18 (9223372036854775807 : Int64)) 19 (2147483647 : Int64)) 20 (-2147483648 : Int64)) 21 (127 : Int64)) 22 (128 : Int64)) v8_200.toNatClampNeg) + ((((p2 &&& (2147483647 : Int32)) % (5 : Int32)) - (2 : Int32)).toInt64)))]))
        refine own_to (fun _ kz => XS.lstore X156.here hx rfl (hb hby at_219) rfl (l' := #[.val (.long x0), .second, .val (.int p1), .val (.int p2), .val (.ref b2), .val (.long (((own_upd (own_upd (own_upd (own_upd (own_upd (own_upd (own_upd (own_upd (own_upd (own_upd (own_upd (own_upd (own_upd (own_upd (own_upd (own_upd (own_upd (own_upd (own_upd (own_upd (own_upd (own_upd (own_upd (fun _ => (0 : Int64)) 0 (0 : Int64)) 1 (9 : Int64)) 2 (10 : Int64)) 3 (13 : Int64)) 4 (31 : Int64)) 5 (32 : Int64)) 6 (55295 : Int64)) 7 (55296 : Int64)) 8 (57343 : Int64)) 9 (57344 : Int64)) 10 (65533 : Int64)) 11 (65534 : Int64)) 12 (65535 : Int64)) 13 (65536 : Int64)) 14 (1114111 : Int64)) 15 (1114112 : Int64)) 16 (-1 : Int64)) 17 (-9223372036854775808 : Int64)) 18 (9223372036854775807 : Int64)) 19 (2147483647 : Int64)) 20 (-2147483648 : Int64)) 21 (127 : Int64)) 22 (128 : Int64)) v8_200.toNatClampNeg) + ((((p2 &&& (2147483647 : Int32)) % (5 : Int32)) - (2 : Int32)).toInt64))), .second, .val (.int (p1 &&& (3 : Int32))), .val (.int v8_200), .val (.int (((p2 &&& (2147483647 : Int32)) % (5 : Int32)) - (2 : Int32)))]) rfl kz) ?_
        show own_Fin p e below G (T156.setTop (mkF m 221 #[.val (.long x0), .second, .val (.int p1), .val (.int p2), .val (.ref b2), .val (.long (((own_upd (own_upd (own_upd (own_upd (own_upd (own_upd (own_upd (own_upd (own_upd (own_upd (own_upd (own_upd (own_upd (own_upd (own_upd (own_upd (own_upd (own_upd (own_upd (own_upd (own_upd (own_upd (own_upd (fun _ => (0 : Int64)) 0 (0 : Int64)) 1 (9 : Int64)) 2 (10 : Int64)) 3 (13 : Int64)) 4 (31 : Int64)) 5 (32 : Int64)) 6 (55295 : Int64)) 7 (55296 : Int64)) 8 (57343 : Int64)) 9 (57344 : Int64)) 10 (65533 : Int64)) 11 (65534 : Int64)) 12 (65535 : Int64)) 13 (65536 : Int64)) 14 (1114111 : Int64)) 15 (1114112 : Int64)) 16 (-1 : Int64)) 17 (-9223372036854775808 : Int64)) 18 (9223372036854775807 : Int64)) 19 (2147483647 : Int64)) 20 (-2147483648 : Int64)) 21 (127 : Int64)) 22 (128 : Int64)) v8_200.toNatClampNeg) + ((((p2 &&& (2147483647 : Int32)) % (5 : Int32)) - (2 : Int32)).toInt64))), .second, .val (.int (p1 &&& (3 : Int32))), .val (.int v8_200), .val (.int (((p2 &&& (2147483647 : Int32)) % (5 : Int32)) - (2 : Int32)))] []))
        exact K221 (((own_upd (own_upd (own_upd (own_upd (own_upd (own_upd (own_upd (own_upd (own_upd (own_upd (own_upd (own_upd (own_upd (own_upd (own_upd (own_upd (own_upd (own_upd (own_upd (own_upd (own_upd (own_upd (own_upd (fun _ => (0 : Int64)) 0 (0 : Int64)) 1 (9 : Int64)) 2 (10 : Int64)) 3 (13 : Int64)) 4 (31 : Int64)) 5 (32 : Int64)) 6 (55295 : Int64)) 7 (55296 : Int64)) 8 (57343 : Int64)) 9 (57344 : Int64)) 10 (65533 : Int64)) 11 (65534 : Int64)) 12 (65535 : Int64)) 13 (65536 : Int64)) 14 (1114111 : Int64)) 15 (1114112 : Int64)) 16 (-1 : Int64)) 17 (-9223372036854775808 : Int64)) 18 (9223372036854775807 : Int64)) 19 (2147483647 : Int64)) 20 (-2147483648 : Int64)) 21 (127 : Int64)) 22 (128 : Int64)) v8_200.toNatClampNeg) + ((((p2 &&& (2147483647 : Int32)) % (5 : Int32)) - (2 : Int32)).toInt64)) (.val (.int v8_200)) (.val (.int (((p2 &&& (2147483647 : Int32)) % (5 : Int32)) - (2 : Int32)))) (One.val rfl) (One.val rfl) q_j200
      exact K200 (((p1.toUInt32 >>> ((2 : Int32) &&& 31).toUInt32).toInt32) % (23 : Int32)) (own_rem23 _) q178f
def own_ex (z : Int) : Prop := z < 0 ∨ 1114111 < z ∨ (z < 32 ∧ z ≠ 9 ∧ z ≠ 10 ∧ z ≠ 13) ∨ (55296 ≤ z ∧ z ≤ 57343) ∨ z = 65534 ∨ z = 65535
instance (z : Int) : Decidable (own_ex z) := by unfold own_ex; infer_instance
set_option maxHeartbeats 8000000 in
theorem own_mid (x c : Int64) (p q : Int32) : f0_221 x p q c = 1 := by
  have e1 : (0 : Int64).toInt = 0 := by decide
  have e2 : (9 : Int64).toInt = 9 := by decide
  have e3 : (10 : Int64).toInt = 10 := by decide
  have e4 : (13 : Int64).toInt = 13 := by decide
  have e5 : (32 : Int64).toInt = 32 := by decide
  have e6 : (55295 : Int64).toInt = 55295 := by decide
  have e7 : (55296 : Int64).toInt = 55296 := by decide
  have e8 : (57343 : Int64).toInt = 57343 := by decide
  have e9 : (57344 : Int64).toInt = 57344 := by decide
  have e10 : (65533 : Int64).toInt = 65533 := by decide
  have e11 : (65534 : Int64).toInt = 65534 := by decide
  have e12 : (65535 : Int64).toInt = 65535 := by decide
  have e13 : (65536 : Int64).toInt = 65536 := by decide
  have e14 : (1114111 : Int64).toInt = 1114111 := by decide
  have key : f1 c = if own_ex c.toInt then 0 else 1 := by
    unfold f1 f1_40 f1_56 f1_76 f1_72
    simp only [Int64.lt_iff_toInt_lt, ← Int64.toInt_inj, e1, e2, e3, e4, e5, e6, e7, e8, e9, e10, e11, e12, e13, e14]
    generalize c.toInt = z
    by_cases h : own_ex z
    · rw [if_pos h]; unfold own_ex at h
      repeat' split
      all_goals first | rfl | (exfalso; omega)
    · rw [if_neg h]; unfold own_ex at h
      repeat' split
      all_goals first | rfl | (exfalso; omega)
  have key2 : f0_221 x p q c = if own_ex c.toInt then f0_309 x p q c else f0_314 x p q c 0 := by
    unfold f0_221 f0_273 f0_291
    simp only [Int64.lt_iff_toInt_lt, ← Int64.toInt_inj, e1, e2, e3, e4, e5, e6, e7, e8, e9, e10, e11, e12, e13, e14]
    generalize c.toInt = z
    by_cases h : own_ex z
    · rw [if_pos h]; unfold own_ex at h
      repeat' split
      all_goals first | rfl | (exfalso; omega)
    · rw [if_neg h]; unfold own_ex at h
      repeat' split
      all_goals first | rfl | (exfalso; omega)
  rw [key2]
  by_cases h : own_ex c.toInt
  · simp [f0_309, f0_314, f0_331, key, h]
  · simp [f0_314, f0_331, key, h]
theorem own_plain (x : Int64) (p q : Int32) : f0 x p q = 1 := by
  unfold f0 f0_200
  split
  · exact own_mid _ _ _ _
  · split
    · exact own_mid _ _ _ _
    · exact own_mid _ _ _ _
set_option maxRecDepth 65536 in
set_option maxHeartbeats 40000000 in
theorem comes_1 {Post : Tables → Env → Array Value → State → Outcome → State → Prop} (hpost : ∀ tb e args s v u, (limb_1_1.after args s (.returned v) u = true ∧ limb_1_2.after args s (.returned v) u = true ∧ True) → FrameEnd s (.returned v) u (Jvm.fieldLocs frame_1_writes args s ++ Jvm.arrayLocs frame_1_arrays args s ++ Jvm.staticLocs frame_1_statics s) 16 128 → Post tb e args s (.returned v) u) :
    ArmFor flags0 classFile x code maxLocals ret World_1 tables_1 room_1 Calls_1 rest_1 Pre_1 Post := by
  intro l hfl _ _ p e ha hc hk s m args below hf hA hF happ hP
  obtain ⟨hcalls, hrest, hpre⟩ := hP
  obtain ⟨-, -, -, hnamed, -, -, -, hat⟩ := (Spec.applies_iff hf).mp happ
  obtain ⟨hg, hn⟩ := and_e (Cond.before_iff.mp (show (Jvm.Cond.and given_1 narrow_1).before args s = true from hpre))
  obtain ⟨gg1, gg2⟩ := and_e hg
  obtain ⟨gg3, gg4⟩ := and_e gg2
  obtain ⟨gg5, gg6⟩ := and_e gg4
  obtain ⟨w0, w1, w2, rfl⟩ : ∃ w0 w1 w2 : Value, args = #[w0, w1, w2] := by
    have hs : args.size = 3 := by simpa [Cond.value, given_1] using gg1
    obtain ⟨L⟩ := args
    match L, hs with
    | [w0, w1, w2], _ => exact ⟨w0, w1, w2, rfl⟩
  have hw := fun d (hd : d ∈ tables_1) => atoms_spec (ws := Jvm.Cond.code x code maxLocals ret :: tables_1) hat d (List.mem_cons_of_mem _ hd)
  obtain ⟨i0, ei0⟩ := isL_v gg3
  obtain rfl : w0 = (.long i0) := Option.some.inj ei0
  obtain ⟨i1, ei1⟩ := is_v gg5
  obtain rfl : w1 = (.int i1) := Option.some.inj ei1
  obtain ⟨i2, ei2⟩ := is_v gg6
  obtain rfl : w2 = (.int i2) := Option.some.inj ei2
  obtain ⟨n, o, h1, h2, h3, v, L, rfl, ⟨hv, N, -⟩, hq⟩ := rm0 l s _ hw tables_1 i0 i1 i2 s.heap s.heap.size (Nat.le_refl _) p e ha hc hk s m _ below hf ((Spec.applies_iff_loose hf).mp happ).1 ⟨rfl, State.Warmed39.refl s, rfl⟩ trivial
  obtain rfl : v = some (.int 1) := hv.trans (congrArg (fun z => some (Value.int z)) (own_plain i0 i1 i2))
  refine ⟨n, _, h1, h2, h3, hpost _ _ _ _ _ _ ⟨Cond.after_iff.mpr rfl, Cond.after_iff.mpr (eq_i res_at (Term.int_eval (1)) rfl), trivial⟩ ⟨hq.1, hq.2.1, (hq.2.2.sift fun y hy => Or.inr (N y hy)).mono (by decide) (by decide)⟩⟩
theorem main_1_1 : Claimed_1_1 := comes_1 fun _ _ _ _ _ _ h hF => ⟨h.1, hF⟩
theorem main_1_2 : Claimed_1_2 := comes_1 fun _ _ _ _ _ _ h hF => ⟨h.2.1, hF⟩
end Jvm.Pilot.@@N@@
namespace Jvm.Pilot.@@N@@
open Jvm Jvm.ClassFile Sem Op Lib Jvm.Free Jvm.Stand Jvm.Pilot.@@N@@.Jvm.D
/-! MADE BY PROGRAM (witnessworld.py) out of the Statement's table words and the real class files: 11 classes; the members and pool entries that the words name. The judged class is class 1, her method 1. -/
namespace start1
open Jvm.ClassFile
def u (s : String) : CpInfo := .utf8 (stringToUtf16 s)
/-- a pool by its gaps: so many unusable entries, then the entry; so many at the end -/
def gap : Nat → List CpInfo → List CpInfo
  | 0, r => r
  | n + 1, r => .unusable :: gap n r
def poolList (es : List (Nat × CpInfo)) (last : Nat) : List CpInfo := es.foldr (fun e r => gap e.1 (e.2 :: r)) (gap last [])
def pool (es : List (Nat × CpInfo)) (last : Nat) : Array CpInfo := ⟨poolList es last⟩
def fileOf (pool : Array CpInfo) (this : Nat) (attrs : Array Attribute := #[]) (ms : Array MethodInfo := #[]) (fl : Nat := 33) (sup : Nat := 0) (ifs : Array Nat := #[]) (fds : Array FieldInfo := #[]) : ClassFile where
  minorVersion := 0
  majorVersion := 65
  constantPool := pool
  accessFlags := fl
  thisClass := this
  superClass := sup
  interfaces := ifs
  fields := fds
  methods := ms
  attributes := attrs
def plain (name : String) (sup : Option ClassId) : Class where
  name := name
  kind := .ordinary
  loader := none
  accessFlags := 33
  super := sup
  interfaces := #[]
  cf := none
  fields := #[]
  methods := #[]
  instanceTypes := #[]
  staticTypes := #[]
  resolved := #[]
  callSites := []
  init := .initialized
  statics := none
  mirror := none

def pool0 : Array CpInfo := pool [(5, u "<init>"), (0, u "()V"), (1, .class_ 10), (1, u "java/lang/Object")] 113

def k0m0 : Method := { name := "<init>", desc := "()V", sig := { parameters := [], returnType := none }, accessFlags := 1, code := none }
/-- java/lang/Object -/
def k0 : Class := { plain "java/lang/Object" none with
  accessFlags := 33
  interfaces := #[]
  cf := some (fileOf pool0 8 #[] #[{ accessFlags := 1, nameIndex := 5, descriptorIndex := 6, attributes := #[] }] 33 0 #[] #[])
  fields := #[]
  methods := #[k0m0]
  instanceTypes := #[]
  staticTypes := #[]
  resolved := Array.replicate 124 none
  statics := none }

def pool1 : Array CpInfo := pool [(2, .class_ 4), (1, u "java/lang/Object"), (0, u "<init>"), (0, u "()V"), (0, .long 9), (1, .long 10), (1, .long 13), (1, .long 31), (1, .long 32), (1, .long 55295), (1, .long 55296), (1, .long 57343), (1, .long 57344), (1, .long 65533), (1, .long 65534), (1, .long 65535), (1, .long 65536), (1, .long 1114111), (1, .long 1114112), (1, .long 18446744073709551615), (3, .long 9223372036854775808), (1, .long 9223372036854775807), (3, .long 2147483647), (1, .long 18446744071562067968), (1, .long 127), (1, .long 128), (1, .long 2097151), (1, .integer 2147483647), (0, .methodref 59 60), (0, .class_ 61), (0, .nameAndType 62 63), (0, u "com/example/tabularium/tabularium/io/XmlDocuments"), (0, u "isCharacter"), (0, u "(J)Z"), (0, .class_ 65), (0, u "com/example/tabularium/tabularium/io/XmlDocumentsIsCharacterPinLaw"), (2, u "law"), (0, u "(JII)Z")] 5

def k1m0 : Method := { name := "<init>", desc := "()V", sig := { parameters := [], returnType := none }, accessFlags := 2, code := none }
def k1c1 : Code := { maxStack := 5, maxLocals := 10, code := code, exceptionTable := #[], attributes := #[] }
def k1m1 : Method := { name := "law", desc := "(JII)Z", sig := { parameters := [.long, .int, .int], returnType := some .boolean }, accessFlags := 9, code := some k1c1 }
/-- com/example/tabularium/tabularium/io/XmlDocumentsIsCharacterPinLaw -/
def k1 : Class := { plain "com/example/tabularium/tabularium/io/XmlDocumentsIsCharacterPinLaw" (some 0) with
  accessFlags := 49
  interfaces := #[]
  cf := some (fileOf pool1 64 #[] #[{ accessFlags := 2, nameIndex := 5, descriptorIndex := 6, attributes := #[] }, { accessFlags := 9, nameIndex := 68, descriptorIndex := 69, attributes := #[] }] 49 2 #[] #[])
  fields := #[]
  methods := #[k1m0, k1m1]
  instanceTypes := #[]
  staticTypes := #[]
  resolved := Array.replicate 75 none
  statics := none }

def pool2 : Array CpInfo := pool [(2, .class_ 4), (1, u "java/lang/Object"), (0, u "<init>"), (0, u "()V"), (0, .class_ 8), (0, u "com/example/tabularium/tabularium/io/XmlDocuments"), (115, u "isCharacter"), (0, u "(J)Z"), (5, .long 9), (1, .long 10), (1, .long 13), (1, .long 32), (1, .long 55295), (1, .long 57344), (1, .long 65533), (1, .long 65536), (1, .long 1114111), (87, u "PROPERTIES"), (0, u "Ljava/util/Map;"), (25, .class_ 263), (0, u "com/example/tabularium/tabularium/io/XmlDocuments$Strict"), (63, u "MAX_ELEMENT_DEPTH"), (0, u "I"), (2, u "LOAD_EXTERNAL_DTD"), (0, u "Ljava/lang/String;"), (0, u "EXTERNAL_GENERAL_ENTITIES"), (0, u "EXTERNAL_PARAMETER_ENTITIES"), (0, u "DECLARATION_HANDLER"), (0, u "CARRIED_DTD"), (27, .class_ 365), (0, u "com/example/tabularium/tabularium/io/XmlDocuments$StandaloneHandler")] 34

def k2m0 : Method := { name := "<init>", desc := "()V", sig := { parameters := [], returnType := none }, accessFlags := 2, code := none }
def k2c1 : Code := { maxStack := 4, maxLocals := 2, code := prog_48_method_7_code, exceptionTable := #[], attributes := #[] }
def k2m1 : Method := { name := "isCharacter", desc := "(J)Z", sig := { parameters := [.long], returnType := some .boolean }, accessFlags := 8, code := some k2c1 }
/-- com/example/tabularium/tabularium/io/XmlDocuments -/
def k2 : Class := { plain "com/example/tabularium/tabularium/io/XmlDocuments" (some 0) with
  accessFlags := 49
  interfaces := #[]
  cf := some (fileOf pool2 7 #[.nestMembers #[262, 364]] #[{ accessFlags := 2, nameIndex := 5, descriptorIndex := 6, attributes := #[] }, { accessFlags := 8, nameIndex := 124, descriptorIndex := 125, attributes := #[] }] 49 2 #[] #[{ accessFlags := 26, nameIndex := 327, descriptorIndex := 328, attributes := #[] }, { accessFlags := 26, nameIndex := 331, descriptorIndex := 332, attributes := #[] }, { accessFlags := 26, nameIndex := 333, descriptorIndex := 332, attributes := #[] }, { accessFlags := 26, nameIndex := 334, descriptorIndex := 332, attributes := #[] }, { accessFlags := 26, nameIndex := 335, descriptorIndex := 332, attributes := #[] }, { accessFlags := 26, nameIndex := 336, descriptorIndex := 332, attributes := #[] }, { accessFlags := 26, nameIndex := 235, descriptorIndex := 236, attributes := #[] }])
  fields := #[{ name := "MAX_ELEMENT_DEPTH", type := .int, accessFlags := 26, slot := 0, constantValue := 0 }, { name := "LOAD_EXTERNAL_DTD", type := (.object "java/lang/String"), accessFlags := 26, slot := 1, constantValue := 0 }, { name := "EXTERNAL_GENERAL_ENTITIES", type := (.object "java/lang/String"), accessFlags := 26, slot := 2, constantValue := 0 }, { name := "EXTERNAL_PARAMETER_ENTITIES", type := (.object "java/lang/String"), accessFlags := 26, slot := 3, constantValue := 0 }, { name := "DECLARATION_HANDLER", type := (.object "java/lang/String"), accessFlags := 26, slot := 4, constantValue := 0 }, { name := "CARRIED_DTD", type := (.object "java/lang/String"), accessFlags := 26, slot := 5, constantValue := 0 }, { name := "PROPERTIES", type := (.object "java/util/Map"), accessFlags := 26, slot := 6, constantValue := 0 }]
  methods := #[k2m0, k2m1]
  instanceTypes := #[]
  staticTypes := #[.int, (.object "java/lang/String"), (.object "java/lang/String"), (.object "java/lang/String"), (.object "java/lang/String"), (.object "java/lang/String"), (.object "java/util/Map")]
  resolved := Array.replicate 400 none
  statics := none }

def pool3 : Array CpInfo := pool [(1, u "java/lang/Cloneable"), (0, .class_ 1), (0, u "java/lang/Object"), (0, .class_ 3)] 3

/-- java/lang/Cloneable -/
def k3 : Class := { plain "java/lang/Cloneable" (some 0) with
  accessFlags := 1537
  interfaces := #[]
  cf := some (fileOf pool3 2 #[] #[] 1537 4 #[] #[])
  fields := #[]
  methods := #[]
  instanceTypes := #[]
  staticTypes := #[]
  resolved := Array.replicate 8 none
  statics := none }

def pool4 : Array CpInfo := pool [(1, u "java/io/Serializable"), (0, .class_ 1), (0, u "java/lang/Object"), (0, .class_ 3)] 3

/-- java/io/Serializable -/
def k4 : Class := { plain "java/io/Serializable" (some 0) with
  accessFlags := 1537
  interfaces := #[]
  cf := some (fileOf pool4 2 #[] #[] 1537 4 #[] #[])
  fields := #[]
  methods := #[]
  instanceTypes := #[]
  staticTypes := #[]
  resolved := Array.replicate 8 none
  statics := none }

/-- the primitive byte -/
def k5 : Class := { plain "byte" none with kind := .primitive 'B', accessFlags := 0x411 }
/-- [B -/
def k6 : Class := { plain "[B" (some 0) with kind := .array 5 .byte, interfaces := #[3, 4], accessFlags := 1041 }

/-- the primitive int -/
def k7 : Class := { plain "int" none with kind := .primitive 'I', accessFlags := 0x411 }
/-- [I -/
def k8 : Class := { plain "[I" (some 0) with kind := .array 7 .int, interfaces := #[3, 4], accessFlags := 1041 }

/-- the primitive long -/
def k9 : Class := { plain "long" none with kind := .primitive 'J', accessFlags := 0x411 }
/-- [J -/
def k10 : Class := { plain "[J" (some 0) with kind := .array 9 .long, interfaces := #[3, 4], accessFlags := 1041 }

def heap : Heap := #[]
def classes : Array Class := #[k0, k1, k2, k3, k4, k5, k6, k7, k8, k9, k10]
def interned : List (Array UInt16 × Addr) := []
def slotsUsed : Nat := 0
def theMethod : MethodId := ⟨1, 1⟩
def args0 : Array Value := #[.long 5, .int 6, .int 7]
def aboutOver (below : List Frame) : State where
  vm := { classes := classes, interned := interned.toArray }
  heap := heap
  slotsUsed := slotsUsed
  threads := #[{ frames := .invoking theMethod args0 :: below }]
def below0 : List Frame := [.native { method := ⟨0, 0⟩, args := #[] }]
def about1 : State := aboutOver below0
def p0 : Program := .bare "" "" ""
def e0 : Env := launch0.env 0 0 0
theorem w_frames : about1.frames = Frame.invoking theMethod args0 :: below0 := rfl
set_option maxRecDepth 65536 in
theorem w_args : argsFit about1.vm theMethod args0 = true := by decide +kernel
set_option maxRecDepth 65536 in
theorem w_heap : heapFits about1 = true := by decide +kernel
set_option maxRecDepth 65536 in
theorem w_runnable : about1.curStatus? = some .runnable := by decide +kernel
set_option maxRecDepth 65536 in
theorem w_alone : about1.alone = true := by decide +kernel
set_option maxRecDepth 65536 in
theorem w_named : about1.methodNamed? x = some theMethod := by decide +kernel
set_option maxRecDepth 65536 in
theorem w_hears : about1.hears theMethod below0 = true := by decide +kernel
set_option maxRecDepth 65536 in
theorem w_ripe : about1.ripe theMethod args0 below0 = true := by decide +kernel
theorem w_running : about1.status = .running := rfl
set_option maxRecDepth 65536 in
theorem w_room : about1.hasRoom e0.platform room_1 = true :=
  launch0.hasRoom_least _ room_1 (by decide +kernel) (by decide +kernel) (by decide +kernel) (by decide +kernel) (by decide +kernel) (by decide +kernel)
theorem allAtoms_all (ts : List Jvm.Cond) (a : Array Jvm.Value) (st : Jvm.State) : (allAtoms ts).before a st = ts.all (fun c => c.before a st) := by
  induction ts with
  | nil => rfl
  | cons c t ih =>
    show (Jvm.Cond.and c (allAtoms t)).before a st = _
    rw [Jvm.Cond.before_and, ih, List.all_cons]
def words1 : List Jvm.Cond := Jvm.Cond.code x code maxLocals ret :: tables_1
/-- a 'code' word, met by the world's own term for the bytes: nothing is compared byte by byte -/
theorem code_word {y : MethodName} {bytes : ByteArray} {mx : Nat} {rt : Option FieldType} {a : Array Value} {s : State} {m : MethodId} {meth : Method} {c : Code} (h1 : s.methodNamed? y = some m) (h2 : s.vm.method? m = some meth) (h3 : meth.code = some c) (h4 : c.code = bytes)
    (h5 : (c.maxLocals == mx && c.exceptionTable.isEmpty && decide (c.maxStack ≤ mostOperands) && decide (meth.sig.returnType = rt) && !meth.locks && decide (parseMethodDescriptor y.desc = some meth.sig)) = true) : (Jvm.Cond.code y bytes mx rt).before a s = true := by
  simp only [Bool.and_eq_true, beq_iff_eq, Bool.not_eq_true', decide_eq_true_eq] at h5
  obtain ⟨⟨⟨⟨⟨g1, g2⟩, g3⟩, g4⟩, g5⟩, g6⟩ := h5
  simp [Cond.before, Cond.holds, Cond.value, h1, h2, h3, h4, g1, g2, g3, g4, g5, g6]
def isCode : Jvm.Cond → Bool
  | .code _ _ _ _ => true
  | _ => false
theorem all_split {L : List Jvm.Cond} {P : Jvm.Cond → Bool} (h1 : L.all (fun c => isCode c || P c) = true) (h2 : ∀ c ∈ L.filter isCode, P c = true) : L.all P = true := by
  refine List.all_eq_true.mpr fun c hc => ?_
  have h := List.all_eq_true.mp h1 c hc
  rcases Bool.eq_false_or_eq_true (isCode c) with hi | hi
  · exact h2 c (List.mem_filter.mpr ⟨hc, hi⟩)
  · simpa [hi] using h
set_option maxRecDepth 65536 in
theorem w_c0 : (Jvm.Cond.code x code maxLocals ret).before args0 about1 = true := code_word (m := ⟨1, 1⟩) (meth := k1m1) (c := k1c1) (by decide +kernel) rfl rfl rfl (by decide +kernel)
set_option maxRecDepth 65536 in
theorem w_c1 : (Jvm.Cond.code ({ cls := "com/example/tabularium/tabularium/io/XmlDocuments", name := "isCharacter", desc := "(J)Z" } : Jvm.MethodName) prog_48_method_7_code (2 : Nat) (Option.some Jvm.ClassFile.FieldType.boolean)).before args0 about1 = true := code_word (m := ⟨2, 1⟩) (meth := k2m1) (c := k2c1) (by decide +kernel) rfl rfl rfl (by decide +kernel)
def codes1 : List Jvm.Cond := [Jvm.Cond.code x code maxLocals ret, Jvm.Cond.code ({ cls := "com/example/tabularium/tabularium/io/XmlDocuments", name := "isCharacter", desc := "(J)Z" } : Jvm.MethodName) prog_48_method_7_code (2 : Nat) (Option.some Jvm.ClassFile.FieldType.boolean)]
set_option maxRecDepth 65536 in
theorem codes_eq : words1.filter isCode = codes1 := rfl
theorem w_codes : ∀ c ∈ words1.filter isCode, c.before args0 about1 = true := by
  rw [codes_eq]
  intro c hc
  simp only [codes1, List.mem_cons, List.not_mem_nil, or_false] at hc
  rcases hc with rfl | rfl
  · exact w_c0
  · exact w_c1
set_option maxRecDepth 65536 in
theorem w_t1 : (words1.take 24).all (fun c => isCode c || c.before args0 about1) = true := by decide +kernel
set_option maxRecDepth 65536 in
theorem w_t2 : (words1.drop 24).all (fun c => isCode c || c.before args0 about1) = true := by decide +kernel
theorem w_tables : (allAtoms (Jvm.Cond.code x code maxLocals ret :: tables_1)).before args0 about1 = true := by
  rw [allAtoms_all]
  show words1.all (fun c => c.before args0 about1) = true
  refine all_split ?_ w_codes
  rw [← List.take_append_drop 24 words1, List.all_append, w_t1, w_t2]
  rfl
set_option maxRecDepth 65536 in
theorem w_case : (Jvm.Cond.and given_1 narrow_1).before args0 about1 = true := by decide +kernel
theorem w_applies : (headSpec (Jvm.Cond.code x code maxLocals ret :: tables_1) room_1).applies x e0.platform about1 = true :=
  (Spec.applies_iff w_frames).mpr ⟨w_running, w_runnable, w_alone, w_named, w_hears, w_ripe, w_room, w_tables⟩
theorem atStart : AtStart classFile x code maxLocals ret World_1 tables_1 room_1 Calls_1 rest_1 Pre_1 launch0 p0 e0 about1 theMethod args0 below0 :=
  ⟨lists_1, trivial, launch0.admits_env _ _ _, launch0.least_env, fairChoices_fair.cas, fairChoices_fair.clock, w_frames, w_args, w_heap, w_applies, trivial, trivial, w_case⟩
end start1
theorem witness_1 : WitnessClaimed_1 := ⟨start1.p0, start1.e0, start1.about1, start1.theMethod, start1.args0, start1.below0, start1.atStart⟩
end Jvm.Pilot.@@N@@
