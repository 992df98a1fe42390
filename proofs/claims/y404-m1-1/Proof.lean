import JvmDerived
import JvmDerived.Pilot.@@N@@Statement
import JvmDerived.Pilot.@@N@@Code
set_option linter.unusedVariables false
set_option linter.unusedSimpArgs false
namespace Jvm.Pilot.@@N@@
open Jvm Jvm.ClassFile Sem Op Lib Jvm.Free Jvm.Stand Jvm.LawKit Jvm.RoadKit Bundle Jvm.Pilot.@@N@@.Jvm.D
/-! own kit: the rest of a walk as one predicate of the state where it stands -/
section OwnKit
variable {p : Program} {l : Launch} {e : Env} {R : Room} {s : State} {m : MethodId} {args : Array Value} {below : List Frame} {meth : Method} {c : Code} {T : State} {locs : List Loc} {cells slots : Nat}
def Wp (p : Program) (e : Env) (below : List Frame) (G : Outcome → State → Prop) (U : State) : Prop := ∃ s₂ o, Steps p.tables e below U s₂ ∧ s₂.status = .running ∧ Ended s₂ below o ∧ G o s₂
theorem Wp.via {G : Outcome → State → Prop} {A B : State} (k : ∀ t, Steps p.tables e below A t → Steps p.tables e below B t) (h : Wp p e below G A) : Wp p e below G B := by
  obtain ⟨s₂, o, h1, h2⟩ := h; exact ⟨s₂, o, k _ h1, h2⟩
theorem Wp.step {G : Outcome → State → Prop} {A B : State} (k : Steps p.tables e below B A) (h : Wp p e below G A) : Wp p e below G B := by
  obtain ⟨s₂, o, h1, h2⟩ := h; exact ⟨s₂, o, k.trans h1, h2⟩
def Gd (s : State) (Q : Option Value → Heap → List Loc → Prop) (C S : Nat) (o : Outcome) (t : State) : Prop := ∃ v L, o = .returned v ∧ Q v t.heap L ∧ FrameEnd s o t L C S
theorem Wp.ret (X : Stand p l e R s m args below meth c T locs cells slots) (hlk : meth.locks = false) (hx : p.tables.exec = Jvm.exec) {pc : Nat} {Ls : Array Slot} {w : Value} {t : FieldType} {i : Instr} {rest : List Value} {Q : Option Value → Heap → List Loc → Prop} {C S : Nat} (hret : meth.sig.returnType = some t) (hn : narrow t w = w)
    (hi : (i = .ireturn ∧ (t = .int ∨ t = .boolean ∨ t = .byte ∨ t = .char ∨ t = .short) ∧ ∃ z, w = .int z) ∨ (i = .lreturn ∧ t = .long ∧ ∃ z, w = .long z) ∨ (i = .dreturn ∧ t = .double ∧ ∃ z, w = .double z) ∨ (i = .freturn ∧ t = .float ∧ ∃ z, w = .float z) ∨ (i = .areturn ∧ t.isReference = true ∧ w.isRef = true))
    (hd : decode c.code pc = .ok (i, 1)) (hq : Q (some w) T.heap locs) (hC : cells ≤ C) (hS : slots ≤ S) : Wp p e below (Gd s Q C S) (T.setTop (mkF m pc Ls (w :: rest))) := by
  obtain ⟨fs, hr, hrun, hended, hW, hsame⟩ := X.leave (v := some w) (fun h => by rw [hret] at h; cases h) hlk
  exact ⟨_, _, retOut X hx hret hn hi hd hr, hrun, hended, _, _, rfl, hq, ⟨_, rfl⟩, hW, hsame.mono hC hS⟩
theorem Wp.retI (X : Stand p l e R s m args below meth c T locs cells slots) (hlk : meth.locks = false) (hx : p.tables.exec = Jvm.exec) {pc : Nat} {Ls : Array Slot} {z : Int32} {t : FieldType} {rest : List Value} {Q : Option Value → Heap → List Loc → Prop} {C S : Nat} (hret : meth.sig.returnType = some t) (ht : t = .int ∨ t = .boolean ∨ t = .byte ∨ t = .char ∨ t = .short) (hn : narrow t (.int z) = .int z)
    (hd : decode c.code pc = .ok (.ireturn, 1)) (hq : Q (some (.int z)) T.heap locs) (hC : cells ≤ C) (hS : slots ≤ S) : Wp p e below (Gd s Q C S) (T.setTop (mkF m pc Ls (.int z :: rest))) :=
  Wp.ret X hlk hx hret hn (Or.inl ⟨rfl, ht, z, rfl⟩) hd hq hC hS
theorem Wp.retJ (X : Stand p l e R s m args below meth c T locs cells slots) (hlk : meth.locks = false) (hx : p.tables.exec = Jvm.exec) {pc : Nat} {Ls : Array Slot} {z : Int64} {rest : List Value} {Q : Option Value → Heap → List Loc → Prop} {C S : Nat} (hret : meth.sig.returnType = some .long)
    (hd : decode c.code pc = .ok (.lreturn, 1)) (hq : Q (some (.long z)) T.heap locs) (hC : cells ≤ C) (hS : slots ≤ S) : Wp p e below (Gd s Q C S) (T.setTop (mkF m pc Ls (.long z :: rest))) :=
  Wp.ret X hlk hx hret rfl (Or.inr (Or.inl ⟨rfl, rfl, z, rfl⟩)) hd hq hC hS
theorem Wp.retA (X : Stand p l e R s m args below meth c T locs cells slots) (hlk : meth.locks = false) (hx : p.tables.exec = Jvm.exec) {pc : Nat} {Ls : Array Slot} {w : Value} {t : FieldType} {rest : List Value} {Q : Option Value → Heap → List Loc → Prop} {C S : Nat} (hret : meth.sig.returnType = some t) (ht : t.isReference = true) (hw : w.isRef = true)
    (hd : decode c.code pc = .ok (.areturn, 1)) (hq : Q (some w) T.heap locs) (hC : cells ≤ C) (hS : slots ≤ S) : Wp p e below (Gd s Q C S) (T.setTop (mkF m pc Ls (w :: rest))) :=
  Wp.ret X hlk hx hret (by cases t <;> simp [FieldType.isReference] at ht <;> cases w <;> simp [Value.isRef] at hw <;> rfl) (Or.inr (Or.inr (Or.inr (Or.inr ⟨rfl, ht, hw⟩)))) hd hq hC hS
theorem Wp.retV (X : Stand p l e R s m args below meth c T locs cells slots) (hlk : meth.locks = false) (hx : p.tables.exec = Jvm.exec) {pc : Nat} {Ls : Array Slot} {Q : Option Value → Heap → List Loc → Prop} {C S : Nat} (hret : meth.sig.returnType = none)
    (hd : decode c.code pc = .ok (.return_, 1)) (hq : Q none T.heap locs) (hC : cells ≤ C) (hS : slots ≤ S) : Wp p e below (Gd s Q C S) (T.setTop (mkF m pc Ls [])) := by
  obtain ⟨fs, hr, hrun, hended, hW, hsame⟩ := X.leave (v := none) (fun _ => rfl) hlk
  exact ⟨_, _, X.returnOut hx hret hd hr, hrun, hended, _, _, rfl, hq, ⟨_, rfl⟩, hW, hsame.mono hC hS⟩
/-- a body's contract out of its Wp at pc 0 -/
theorem ofWp {y : MethodName} {bytes : ByteArray} {maxL : Nat} {ret : Option FieldType} {ws : List Jvm.Cond} {rm : Room} {as' : Array Value} {Z : State} {h0 : Heap} {Q : Option Value → Heap → List Loc → Prop} {C S : Nat} {Ls : Array Slot} (hpl : plainFor y = true) (ef : ∀ m, entryFrame m as' maxL = mkF m 0 Ls [])
    (H : ∀ (p : Program) (e : Env) (s : State) (m : MethodId) (below : List Frame) (meth : Method) (c : Code) (T : State), p.tables.exec = Jvm.exec → c.code = bytes → c.maxLocals = maxL → s.vm.findClass y.cls = some m.cls → meth.name = y.name → meth.locks = false → meth.sig.returnType = ret → Z.Warmed39 s.vm → Stand p l e rm s m as' below meth c T [] 0 0 → T.heap = h0 → Wp p e below (Gd s Q C S) (T.setTop (mkF m 0 Ls []))) :
    MetFree l y (head1 (Jvm.Cond.code y bytes maxL ret :: ws) rm) (fun a U => a = as' ∧ Z.Warmed39 U.vm ∧ U.heap = h0) (fun _ _ _ _ _ => True) (fun _ U o U' => ∃ v L, o = .returned v ∧ Q v U'.heap L ∧ FrameEnd U o U' L C S) := by
  refine MetFree.of_bodySF hpl hisR ?_
  intro p e s m args below meth c s₁ Bd hml0 hP hK
  obtain ⟨rfl, hZ, hh⟩ := hP
  have e0 : s₁.heap = h0 := by rw [← hh, Bd.state]; rfl
  have X0 : Stand p l e rm s m args below meth c s₁ [] 0 0 := Stand.of_body Bd
  have W := H p e s m below meth c s₁ Bd.exec Bd.bytes hml0 (findClass_of_methodNamed Bd.named) (name_of_methodNamed Bd.named Bd.method).1 Bd.notSynchronized Bd.returns hZ X0 e0
  rw [← ef m] at W
  obtain ⟨s₂, o, g1, g2, g3, g4⟩ := W
  exact ⟨s₂, o, g1, g2, g3, g4⟩
end OwnKit

section AvKit
variable {p : Program} {l : Launch} {e : Env} {R : Room} {s : State} {m : MethodId} {args : Array Value} {below : List Frame} {meth : Method} {c : Code} {T : State} {locs : List Loc} {cells slots : Nat} {Z : State} {h h' : Heap} {a b : Addr} {ty : FieldType} {n : Nat} {f : Nat → Value} {sl : Nat} {v : Value}
/-- an array of n places; place k holds f k -/
def Av (Z : State) (h : Heap) (a : Addr) (ty : FieldType) (n : Nat) (f : Nat → Value) : Prop := ∃ c : Cell, Arr Z h a c ty ∧ c.slots.size = n ∧ ∀ k, k < n → c.slots[k]? = some (f k)
theorem Av.lt (F : Av Z h a ty n f) : a < h.size := by obtain ⟨c, A, -⟩ := F; exact A.lt
theorem Av.ext (F : Av Z h a ty n f) (E : Ext h h') : Av Z h' a ty n f := by obtain ⟨c, A, r⟩ := F; exact ⟨c, A.ext E, r⟩
theorem Av.other (F : Av Z h b ty n f) (W : Wr h h' a sl v) (q : b ≠ a) : Av Z h' b ty n f := by obtain ⟨c, A, r⟩ := F; exact ⟨c, A.other W q, r⟩
theorem Av.keep {ws : List Addr} (F : Av Z h a ty n f) (K : Keep h h' ws) (q : a ∉ ws) : Av Z h' a ty n f := by obtain ⟨c, A, r⟩ := F; exact ⟨c, ⟨K.2.1 a c A.1 q, A.2⟩, r⟩
theorem Av.cong {g : Nat → Value} (F : Av Z h a ty n f) (q : ∀ k, k < n → f k = g k) : Av Z h a ty n g := by obtain ⟨c, A, r, H⟩ := F; exact ⟨c, A, r, fun k hk => by rw [← q k hk]; exact H k hk⟩
theorem Av.new {k : ClassId} {z : Int32} (A : Arr Z h a (newA k ty z) ty) (hn : z.toNatClampNeg = n) : Av Z h a ty n (fun _ => defaultValue ty) := ⟨_, A, by rw [sz_new, hn], fun k hk => by simp [newA, hn, hk]⟩
theorem Av.set (F : Av Z h a ty n f) (W : Wr h h' a sl v) : Av Z h' a ty n (fun k => if k = sl then v else f k) := by
  obtain ⟨c, A, r, H⟩ := F
  refine ⟨_, A.same W, by rw [sz_set]; exact r, fun k hk => ?_⟩
  by_cases q : k = sl
  · subst q; simp [Cell.setSlot, r, hk]
  · show _ = some (if k = sl then v else f k)
    rw [if_neg q]; simp only [Cell.setSlot]; rw [Array.getElem?_setIfInBounds_ne (fun z => q z.symm)]; exact H k hk
theorem av_in {cl : Cell} {j : Int32} {i : Nat} (r : cl.slots.size = n) (hj0 : ¬ j < 0) (hji : j.toNatClampNeg = i) (hin : i < n) : ¬ (j < 0 ∨ cl.slots.size ≤ j.toNatClampNeg) := by
  rw [r, hji]; rintro (q | q)
  · exact hj0 q
  · omega
theorem avStI (X : Stand p l e R s m args below meth c T locs cells slots) (hx : p.tables.exec = Jvm.exec) (hZ : Z.Warmed39 s.vm) (eT : T.heap = h) (F : Av Z h a .int n f) {j x : Int32} {i : Nat} (hj0 : ¬ j < 0) (hji : j.toNatClampNeg = i) (hin : i < n) {g : JFrame} (hg : g.method = m) {rest : List Value} (hs : g.stack = .int x :: .int j :: .ref a :: rest) (hd : decode c.code g.pc = .ok (.iastore, 1)) :
    ∃ T' h', Stand p l e R s m args below meth c T' (locs ++ [⟨a, i⟩]) cells slots ∧ T'.heap = h' ∧ Wr h h' a i (.int x) ∧ Av Z h' a .int n (fun k => if k = i then .int x else f k) ∧ ∀ target, Steps p.tables e below (T'.setTop { g with pc := g.pc + 1, stack := rest }) target → Steps p.tables e below (T.setTop g) target := by
  obtain ⟨cl, A, r, H⟩ := F
  obtain ⟨T', h', X', e', W, st⟩ := stI X hx hZ eT A (av_in r hj0 hji hin) hg hs hd
  rw [hji] at X' W
  exact ⟨T', h', X', e', W, Av.set ⟨cl, A, r, H⟩ W, st⟩
theorem avStJ (X : Stand p l e R s m args below meth c T locs cells slots) (hx : p.tables.exec = Jvm.exec) (hZ : Z.Warmed39 s.vm) (eT : T.heap = h) (F : Av Z h a .long n f) {j : Int32} {x : Int64} {i : Nat} (hj0 : ¬ j < 0) (hji : j.toNatClampNeg = i) (hin : i < n) {g : JFrame} (hg : g.method = m) {rest : List Value} (hs : g.stack = .long x :: .int j :: .ref a :: rest) (hd : decode c.code g.pc = .ok (.lastore, 1)) :
    ∃ T' h', Stand p l e R s m args below meth c T' (locs ++ [⟨a, i⟩]) cells slots ∧ T'.heap = h' ∧ Wr h h' a i (.long x) ∧ Av Z h' a .long n (fun k => if k = i then .long x else f k) ∧ ∀ target, Steps p.tables e below (T'.setTop { g with pc := g.pc + 1, stack := rest }) target → Steps p.tables e below (T.setTop g) target := by
  obtain ⟨cl, A, r, H⟩ := F
  obtain ⟨T', h', X', e', W, st⟩ := stJ X hx hZ eT A (av_in r hj0 hji hin) hg hs hd
  rw [hji] at X' W
  exact ⟨T', h', X', e', W, Av.set ⟨cl, A, r, H⟩ W, st⟩
theorem avStB (X : Stand p l e R s m args below meth c T locs cells slots) (hx : p.tables.exec = Jvm.exec) (hZ : Z.Warmed39 s.vm) (eT : T.heap = h) (F : Av Z h a .byte n f) {j x : Int32} {i : Nat} (hj0 : ¬ j < 0) (hji : j.toNatClampNeg = i) (hin : i < n) {g : JFrame} (hg : g.method = m) {rest : List Value} (hs : g.stack = .int x :: .int j :: .ref a :: rest) (hd : decode c.code g.pc = .ok (.bastore, 1)) :
    ∃ T' h', Stand p l e R s m args below meth c T' (locs ++ [⟨a, i⟩]) cells slots ∧ T'.heap = h' ∧ Wr h h' a i (.int (nar .byte x)) ∧ Av Z h' a .byte n (fun k => if k = i then .int (nar .byte x) else f k) ∧ ∀ target, Steps p.tables e below (T'.setTop { g with pc := g.pc + 1, stack := rest }) target → Steps p.tables e below (T.setTop g) target := by
  obtain ⟨cl, A, r, H⟩ := F
  obtain ⟨T', h', X', e', W, st⟩ := stB X hx hZ eT A (av_in r hj0 hji hin) hg hs hd
  rw [hji] at X' W
  exact ⟨T', h', X', e', W, Av.set ⟨cl, A, r, H⟩ W, st⟩
theorem avLdI (X : Stand p l e R s m args below meth c T locs cells slots) (hx : p.tables.exec = Jvm.exec) (hZ : Z.Warmed39 s.vm) (eT : T.heap = h) (F : Av Z h a .int n f) {j : Int32} {i : Nat} (hj0 : ¬ j < 0) (hji : j.toNatClampNeg = i) (hin : i < n) {w : Value} (hw : f i = w) {g : JFrame} (hg : g.method = m) {rest : List Value} (hs : g.stack = .int j :: .ref a :: rest) (hd : decode c.code g.pc = .ok (.iaload, 1)) (target : State) (k : Steps p.tables e below (T.setTop { g with pc := g.pc + 1, stack := w :: rest }) target) : Steps p.tables e below (T.setTop g) target := by
  obtain ⟨cl, A, r, H⟩ := F
  exact X.iaload hx (by rw [eT]; exact A.1) (State.isArrayOf_alike hZ.alike A.2.1) A.2.2 (av_in r hj0 hji hin) (by rw [hji, H i hin, hw]) hg hs hd target k
theorem avLdJ (X : Stand p l e R s m args below meth c T locs cells slots) (hx : p.tables.exec = Jvm.exec) (hZ : Z.Warmed39 s.vm) (eT : T.heap = h) (F : Av Z h a .long n f) {j : Int32} {i : Nat} (hj0 : ¬ j < 0) (hji : j.toNatClampNeg = i) (hin : i < n) {w : Value} (hw : f i = w) {g : JFrame} (hg : g.method = m) {rest : List Value} (hs : g.stack = .int j :: .ref a :: rest) (hd : decode c.code g.pc = .ok (.laload, 1)) (target : State) (k : Steps p.tables e below (T.setTop { g with pc := g.pc + 1, stack := w :: rest }) target) : Steps p.tables e below (T.setTop g) target := by
  obtain ⟨cl, A, r, H⟩ := F
  exact X.laload hx (by rw [eT]; exact A.1) (State.isArrayOf_alike hZ.alike A.2.1) A.2.2 (av_in r hj0 hji hin) (by rw [hji, H i hin, hw]) hg hs hd target k
theorem avLdB (X : Stand p l e R s m args below meth c T locs cells slots) (hx : p.tables.exec = Jvm.exec) (hZ : Z.Warmed39 s.vm) (eT : T.heap = h) (F : Av Z h a .byte n f) {j : Int32} {i : Nat} (hj0 : ¬ j < 0) (hji : j.toNatClampNeg = i) (hin : i < n) {w : Value} (hw : f i = w) {g : JFrame} (hg : g.method = m) {rest : List Value} (hs : g.stack = .int j :: .ref a :: rest) (hd : decode c.code g.pc = .ok (.baload, 1)) (target : State) (k : Steps p.tables e below (T.setTop { g with pc := g.pc + 1, stack := w :: rest }) target) : Steps p.tables e below (T.setTop g) target := by
  obtain ⟨cl, A, r, H⟩ := F
  exact X.baloadBytes hx (by rw [eT]; exact A.1) (State.isArrayOf_alike hZ.alike A.2.1) A.2.2 (av_in r hj0 hji hin) (by rw [hji, H i hin, hw]) hg hs hd target k
theorem avLdA (X : Stand p l e R s m args below meth c T locs cells slots) (hx : p.tables.exec = Jvm.exec) (hZ : Z.Warmed39 s.vm) (eT : T.heap = h) (F : Av Z h a ty n f) (hty : ty.isReference = true) {j : Int32} {i : Nat} (hj0 : ¬ j < 0) (hji : j.toNatClampNeg = i) (hin : i < n) {w : Value} (hw : f i = w) {g : JFrame} (hg : g.method = m) {rest : List Value} (hs : g.stack = .int j :: .ref a :: rest) (hd : decode c.code g.pc = .ok (.aaload, 1)) (target : State) (k : Steps p.tables e below (T.setTop { g with pc := g.pc + 1, stack := w :: rest }) target) : Steps p.tables e below (T.setTop g) target := by
  obtain ⟨cl, A, r, H⟩ := F
  exact X.aaload hx (by rw [eT]; exact A.1) (State.isArrayOf_alike hZ.alike A.2.1) hty A.2.2 (av_in r hj0 hji hin) (by rw [hji, H i hin, hw]) hg hs hd target k
theorem avLen (X : Stand p l e R s m args below meth c T locs cells slots) (hx : p.tables.exec = Jvm.exec) (hZ : Z.Warmed39 s.vm) (eT : T.heap = h) (F : Av Z h a ty n f) {z : Int32} (hz : n.toInt32 = z) {g : JFrame} (hg : g.method = m) {rest : List Value} (hs : g.stack = .ref a :: rest) (hd : decode c.code g.pc = .ok (.arraylength, 1)) (target : State) (k : Steps p.tables e below (T.setTop { g with pc := g.pc + 1, stack := .int z :: rest }) target) : Steps p.tables e below (T.setTop g) target := by
  obtain ⟨cl, A, r, H⟩ := F
  exact X.arraylength hx (by rw [eT]; exact A.1) (State.isArrayOf_alike hZ.alike A.2.1) hg hs hd target (by rw [r, hz]; exact k)
theorem own_up {f : Nat → Value} {i : Nat} {x : Int32} (h : ∀ k, ∃ z, f k = Value.int z) : ∀ k, ∃ z, (fun k => if k = i then Value.int x else f k) k = Value.int z := fun k => by
  by_cases q : k = i
  · exact ⟨x, if_pos q⟩
  · obtain ⟨z, hz⟩ := h k; exact ⟨z, (if_neg q).trans hz⟩
end AvKit
def f1_0 (p0 : Int32) (p1 : Int32) : Int32 := (((p0.toUInt32 >>> ((p1 - (1 : Int32)) &&& 31).toUInt32).toInt32) &&& (1 : Int32))
theorem own_d1_0 : decode method_2_code 0 = .ok (.iload_n 0, 1) := by decide +kernel
theorem own_d1_1 : decode method_2_code 1 = .ok (.iload_n 1, 1) := by decide +kernel
theorem own_d1_2 : decode method_2_code 2 = .ok (.iconst 1, 1) := by decide +kernel
theorem own_d1_3 : decode method_2_code 3 = .ok (.isub, 1) := by decide +kernel
theorem own_d1_4 : decode method_2_code 4 = .ok (.iushr, 1) := by decide +kernel
theorem own_d1_5 : decode method_2_code 5 = .ok (.iconst 1, 1) := by decide +kernel
theorem own_d1_6 : decode method_2_code 6 = .ok (.iand, 1) := by decide +kernel
theorem own_d1_7 : decode method_2_code 7 = .ok (.ireturn, 1) := by decide +kernel
theorem own_pl1 : plainFor (⟨"com/example/inverso/inverso/search/DocumentSetsComplementPinLaw", "bit", "(II)I"⟩ : MethodName) = true := plainFor_of_name (by first | (simp [plainName, overriddenIn]; done) | decide +kernel)
theorem own_ef1 (m : MethodId) (p0 : Int32) (p1 : Int32) : entryFrame m #[(.int p0), (.int p1)] 2 = mkF m 0 #[.val (.int p0), .val (.int p1)] [] := by first | (simp [entryFrame, mkF, argsToLocals, Value.category]; done) | rfl
def Qo1 (Z : State) (p0 : Int32) (p1 : Int32)  (h0 : Heap) (n0 : Nat) (v : Option Value) (h : Heap) (L : List Loc) : Prop := v = some (.int (f1_0 p0 p1)) ∧ Fr n0 L ∧ h = h0
set_option maxRecDepth 65536 in
set_option maxHeartbeats 40000000 in
theorem rm1 (l : Launch) (Z : State) (aw : Array Value) (hw : ∀ d ∈ tables_1, d.before aw Z = true) (ws : List Jvm.Cond) (p0 : Int32) (p1 : Int32)  (h0 : Heap) (n0 : Nat) (Z0 : n0 ≤ h0.size)  :
    MetFree l (⟨"com/example/inverso/inverso/search/DocumentSetsComplementPinLaw", "bit", "(II)I"⟩ : MethodName) (head1 (Jvm.Cond.code (⟨"com/example/inverso/inverso/search/DocumentSetsComplementPinLaw", "bit", "(II)I"⟩ : MethodName) method_2_code 2 (some .int) :: ws) ({ frames := 0, cells := 0, slots := 0, locals := 0 } : Room)) (fun a U => a = #[(.int p0), (.int p1)] ∧ Z.Warmed39 U.vm ∧ U.heap = h0) (fun _ _ _ _ _ => True) (fun _ U o U' => ∃ v L, o = .returned v ∧ (Qo1 Z p0 p1 h0 n0) v U'.heap L ∧ FrameEnd U o U' L ({ frames := 0, cells := 0, slots := 0, locals := 0 } : Room).cells ({ frames := 0, cells := 0, slots := 0, locals := 0 } : Room).slots) := by
  refine ofWp (Q := Qo1 Z p0 p1 h0 n0) own_pl1 (fun m => own_ef1 m p0 p1) ?_
  intro p e s m below meth c T0 hx hby hml hown hnm hlk hret hZ X0 e0
  change s.vm.findClass "com/example/inverso/inverso/search/DocumentSetsComplementPinLaw" = some m.cls at hown
  have NF0 := Fr.nil n0
  have hv : (f1_0 p0 p1) = (((p0.toUInt32 >>> ((p1 - (1 : Int32)) &&& 31).toUInt32).toInt32) &&& (1 : Int32)) := rfl
  refine Wp.via (fun _ k => XS.iloadN X0.here hx rfl (hb hby own_d1_0) rfl k) ?_
  show Wp p e below _ (T0.setTop (mkF m 1 #[.val (.int p0), .val (.int p1)] [(.int p0)]))
  refine Wp.via (fun _ k => XS.iloadN X0.here hx rfl (hb hby own_d1_1) rfl k) ?_
  show Wp p e below _ (T0.setTop (mkF m 2 #[.val (.int p0), .val (.int p1)] [(.int p1), (.int p0)]))
  refine Wp.via (fun _ k => XS.iconst X0.here hx rfl (hb hby own_d1_2) k) ?_
  show Wp p e below _ (T0.setTop (mkF m 3 #[.val (.int p0), .val (.int p1)] [(.int (1 : Int32)), (.int p1), (.int p0)]))
  refine Wp.via (fun _ k => XS.isub X0.here hx rfl (hb hby own_d1_3) rfl k) ?_
  show Wp p e below _ (T0.setTop (mkF m 4 #[.val (.int p0), .val (.int p1)] [(.int (p1 - (1 : Int32))), (.int p0)]))
  refine Wp.via (fun _ k => XS.iushr X0.here hx rfl (hb hby own_d1_4) rfl k) ?_
  show Wp p e below _ (T0.setTop (mkF m 5 #[.val (.int p0), .val (.int p1)] [(.int ((p0.toUInt32 >>> ((p1 - (1 : Int32)) &&& 31).toUInt32).toInt32))]))
  refine Wp.via (fun _ k => XS.iconst X0.here hx rfl (hb hby own_d1_5) k) ?_
  show Wp p e below _ (T0.setTop (mkF m 6 #[.val (.int p0), .val (.int p1)] [(.int (1 : Int32)), (.int ((p0.toUInt32 >>> ((p1 - (1 : Int32)) &&& 31).toUInt32).toInt32))]))
  refine Wp.via (fun _ k => XS.iand X0.here hx rfl (hb hby own_d1_6) rfl k) ?_
  show Wp p e below _ (T0.setTop (mkF m 7 #[.val (.int p0), .val (.int p1)] [(.int (((p0.toUInt32 >>> ((p1 - (1 : Int32)) &&& 31).toUInt32).toInt32) &&& (1 : Int32)))]))
  exact Wp.retI X0 hlk hx hret (by simp) rfl (hb hby own_d1_7) ⟨by rw [hv], NF0, e0⟩ (by decide) (by decide)
def own_cnt (M : Nat) : Nat → Nat
  | 0 => 0
  | i + 1 => own_cnt M i + (if M.testBit i = true then 1 else 0)
def own_en (M C : Nat) : Nat → Nat
  | 0 => 0
  | i + 1 => own_en M C i + (if i < C ∧ M.testBit i = false then 1 else 0)
def own_A (M t : Nat) : Int32 := if M.testBit 0 = true ∧ own_cnt M 0 = t then 1 else if M.testBit 1 = true ∧ own_cnt M 1 = t then 2 else if M.testBit 2 = true ∧ own_cnt M 2 = t then 3 else if M.testBit 3 = true ∧ own_cnt M 3 = t then 4 else if M.testBit 4 = true ∧ own_cnt M 4 = t then 5 else if M.testBit 5 = true ∧ own_cnt M 5 = t then 6 else if M.testBit 6 = true ∧ own_cnt M 6 = t then 7 else if M.testBit 7 = true ∧ own_cnt M 7 = t then 8 else 0
def own_E (M C t : Nat) : Int32 := if 0 < C ∧ M.testBit 0 = false ∧ own_en M C 0 = t then 1 else if 1 < C ∧ M.testBit 1 = false ∧ own_en M C 1 = t then 2 else if 2 < C ∧ M.testBit 2 = false ∧ own_en M C 2 = t then 3 else if 3 < C ∧ M.testBit 3 = false ∧ own_en M C 3 = t then 4 else if 4 < C ∧ M.testBit 4 = false ∧ own_en M C 4 = t then 5 else if 5 < C ∧ M.testBit 5 = false ∧ own_en M C 5 = t then 6 else if 6 < C ∧ M.testBit 6 = false ∧ own_en M C 6 = t then 7 else if 7 < C ∧ M.testBit 7 = false ∧ own_en M C 7 = t then 8 else 0
set_option maxRecDepth 65536 in
theorem own_F1 : ∀ M : Fin 256, ∀ d : Fin 8, M.val.testBit d.val = true → own_A M.val (own_cnt M.val d.val) = Int32.ofNat (d.val + 1) ∧ own_cnt M.val d.val < own_cnt M.val 8 := by decide +kernel
set_option maxRecDepth 65536 in
theorem own_F3 : ∀ M : Fin 256, ∀ d : Fin 8, M.val.testBit d.val = false → own_cnt M.val d.val < own_cnt M.val 8 → ¬ own_A M.val (own_cnt M.val d.val) = Int32.ofNat (d.val + 1) := by decide +kernel
set_option maxRecDepth 65536 in
theorem own_F2 : ∀ C : Fin 9, ∀ M : Fin 256, M.val < 2 ^ C.val → ∀ d : Fin 8, d.val < C.val → M.val.testBit d.val = false → own_E M.val C.val (own_en M.val C.val d.val) = Int32.ofNat (d.val + 1) ∧ own_en M.val C.val d.val < C.val - own_cnt M.val 8 := by decide +kernel
set_option maxRecDepth 65536 in
theorem own_F5 : ∀ C : Fin 9, ∀ M : Fin 256, M.val < 2 ^ C.val → own_cnt M.val 8 ≤ C.val ∧ own_en M.val C.val 8 = C.val - own_cnt M.val 8 ∧ own_en M.val C.val C.val = C.val - own_cnt M.val 8 := by decide +kernel
set_option maxRecDepth 65536 in
theorem own_bv : ∀ M : Fin 256, ∀ d : Fin 8, f1_0 (Int32.ofNat M.val) (Int32.ofNat (d.val + 1)) = (if M.val.testBit d.val = true then 1 else 0) := by decide +kernel
set_option maxRecDepth 65536 in
theorem own_K : ∀ M : Fin 256, (((((((f1_0 (Int32.ofNat M.val) 1 + f1_0 (Int32.ofNat M.val) 2) + f1_0 (Int32.ofNat M.val) 3) + f1_0 (Int32.ofNat M.val) 4) + f1_0 (Int32.ofNat M.val) 5) + f1_0 (Int32.ofNat M.val) 6) + f1_0 (Int32.ofNat M.val) 7) + f1_0 (Int32.ofNat M.val) 8) = Int32.ofNat (own_cnt M.val 8) := by decide +kernel
theorem own_cle (M : Nat) : ∀ i, own_cnt M i ≤ i
  | 0 => Nat.le_refl 0
  | i + 1 => by have := own_cle M i; simp only [own_cnt]; split <;> omega
theorem own_ele (M C : Nat) : ∀ i, own_en M C i ≤ i
  | 0 => Nat.le_refl 0
  | i + 1 => by have := own_ele M C i; simp only [own_en]; split <;> omega
theorem own_of {n : Nat} (h : n ≤ 16) : (Int32.ofNat n).toInt = n := Int32.toInt_ofNat_of_lt (by omega)
theorem own_pos {n : Nat} (h : n ≤ 16) : ¬ Int32.ofNat n < 0 := by
  rw [Int32.lt_iff_toInt_lt, own_of h]; show ¬ ((n : Int) < 0); omega
theorem own_nat {n : Nat} (h : n ≤ 16) : (Int32.ofNat n).toNatClampNeg = n := by
  simp only [Int32.toNatClampNeg, own_of h]; omega
theorem own_lt {a b : Nat} (ha : a ≤ 16) (hbt : b ≤ 16) : Int32.ofNat a < Int32.ofNat b ↔ a < b := by
  rw [Int32.lt_iff_toInt_lt, own_of ha, own_of hbt]; omega
theorem own_succ (n : Nat) : Int32.ofNat n + (1 : Int32) = Int32.ofNat (n + 1) := by rw [Int32.ofNat_add]; rfl
theorem own_sub {a b : Nat} (ha : a ≤ 16) (hbt : b ≤ a) : Int32.ofNat a - Int32.ofNat b = Int32.ofNat (a - b) := by
  have q := c_isub (Int32.ofNat a) (Int32.ofNat b)
  have r := rng32 (Int32.ofNat a - Int32.ofNat b)
  rw [own_of ha, own_of (by omega)] at q
  refine Int32.toInt_inj.mp ?_
  rw [own_of (by omega)]; omega
theorem own_len (n : Nat) : n.toInt32 = Int32.ofNat n := rfl
theorem own_stA (M i t : Nat) (d : Int32) (hbt : M.testBit i = true) (hA : own_A M (own_cnt M i) = d) : (if t = own_cnt M i then Value.int d else if t < own_cnt M i then Value.int (own_A M t) else Value.int (0 : Int32)) = (if t < own_cnt M (i + 1) then Value.int (own_A M t) else Value.int (0 : Int32)) := by
  have q : own_cnt M (i + 1) = own_cnt M i + 1 := by simp [own_cnt, hbt]
  rw [q]
  by_cases h : t = own_cnt M i
  · subst h; rw [if_pos rfl, if_pos (by omega), hA]
  · rw [if_neg h]; by_cases h2 : t < own_cnt M i
    · rw [if_pos h2, if_pos (by omega)]
    · rw [if_neg h2, if_neg (by omega)]
theorem own_stE (M C i t : Nat) (d : Int32) (hi : i < C) (hbt : M.testBit i = false) (hA : own_E M C (own_en M C i) = d) : (if t = own_en M C i then Value.int d else if t < own_en M C i then Value.int (own_E M C t) else Value.int (0 : Int32)) = (if t < own_en M C (i + 1) then Value.int (own_E M C t) else Value.int (0 : Int32)) := by
  have q : own_en M C (i + 1) = own_en M C i + 1 := by simp [own_en, hbt, hi]
  rw [q]
  by_cases h : t = own_en M C i
  · subst h; rw [if_pos rfl, if_pos (by omega), hA]
  · rw [if_neg h]; by_cases h2 : t < own_en M C i
    · rw [if_pos h2, if_pos (by omega)]
    · rw [if_neg h2, if_neg (by omega)]
theorem own_m (x : Int32) (C : Nat) (h : C ≤ 8) : ∃ M, M < 2 ^ C ∧ (x &&& (((1 : Int32) <<< (Int32.ofNat C &&& 31)) - (1 : Int32))) = Int32.ofNat M := by
  have key : ∀ (k : Nat) (mk : Int32), k ≤ 8 → mk.toBitVec.toNat = 2 ^ k - 1 → ∃ M, M < 2 ^ k ∧ (x &&& mk) = Int32.ofNat M := fun k mk hk hm => by
    have q := c_mask x mk k (by omega) hm
    have hp : (2 : Nat) ^ k ≤ 256 := Nat.le_trans (Nat.pow_le_pow_right (by omega) hk) (by decide)
    have hp0 : 0 < (2 : Nat) ^ k := Nat.pow_pos (by omega)
    generalize (2 : Nat) ^ k = P at *
    have b1 := Int.emod_nonneg x.toInt (b := (P : Int)) (by omega)
    have b2 := Int.emod_lt_of_pos x.toInt (b := (P : Int)) (by omega)
    refine ⟨(x &&& mk).toInt.toNat, by omega, Int32.toInt_inj.mp ?_⟩
    rw [Int32.toInt_ofNat_of_lt (by omega)]; omega
  rcases (by omega : C = 0 ∨ C = 1 ∨ C = 2 ∨ C = 3 ∨ C = 4 ∨ C = 5 ∨ C = 6 ∨ C = 7 ∨ C = 8) with rfl | rfl | rfl | rfl | rfl | rfl | rfl | rfl | rfl
  all_goals exact key _ _ (by decide) (by decide)
theorem own_d2_0 : decode method_3_code 0 = .ok (.iload_n 3, 1) := by decide +kernel
theorem own_d2_1 : decode method_3_code 1 = .ok (.ifCond .eq 11, 3) := by decide +kernel
theorem own_d2_4 : decode method_3_code 4 = .ok (.aload_n 0, 1) := by decide +kernel
theorem own_d2_5 : decode method_3_code 5 = .ok (.iload_n 1, 1) := by decide +kernel
theorem own_d2_6 : decode method_3_code 6 = .ok (.iload_n 2, 1) := by decide +kernel
theorem own_d2_7 : decode method_3_code 7 = .ok (.iastore, 1) := by decide +kernel
theorem own_d2_8 : decode method_3_code 8 = .ok (.iload_n 1, 1) := by decide +kernel
theorem own_d2_9 : decode method_3_code 9 = .ok (.iconst 1, 1) := by decide +kernel
theorem own_d2_10 : decode method_3_code 10 = .ok (.iadd, 1) := by decide +kernel
theorem own_d2_11 : decode method_3_code 11 = .ok (.ireturn, 1) := by decide +kernel
theorem own_d2_12 : decode method_3_code 12 = .ok (.iload_n 1, 1) := by decide +kernel
theorem own_d2_13 : decode method_3_code 13 = .ok (.ireturn, 1) := by decide +kernel
theorem own_pl2 : plainFor (⟨"com/example/inverso/inverso/search/DocumentSetsComplementPinLaw", "put", "([IIIZ)I"⟩ : MethodName) = true := plainFor_of_name (by first | (simp [plainName, overriddenIn]; done) | decide +kernel)
theorem own_ef2_1 (m : MethodId) (a0 : Addr) (p1 : Int32) (p2 : Int32) : entryFrame m #[(.ref a0), (.int p1), (.int p2), (.int (1 : Int32))] 4 = mkF m 0 #[.val (.ref a0), .val (.int p1), .val (.int p2), .val (.int (1 : Int32))] [] := by first | (simp [entryFrame, mkF, argsToLocals, Value.category]; done) | rfl
def Qo2_1 (Z : State) (a0 : Addr) (p1 : Int32) (p2 : Int32) (n i : Nat) (f : Nat → Value) (h0 : Heap) (n0 : Nat) (v : Option Value) (h : Heap) (L : List Loc) : Prop := v = some (.int (p1 + (1 : Int32))) ∧ Fr n0 L ∧ Keep h0 h [a0] ∧ Av Z h a0 .int n (fun k => if k = i then .int p2 else f k)
set_option maxRecDepth 65536 in
set_option maxHeartbeats 40000000 in
theorem rm2_1 (l : Launch) (Z : State) (aw : Array Value) (hw : ∀ d ∈ tables_1, d.before aw Z = true) (ws : List Jvm.Cond) (a0 : Addr) (p1 : Int32) (p2 : Int32) (n i : Nat) (f : Nat → Value) (h0 : Heap) (n0 : Nat) (Z0 : n0 ≤ h0.size) (V0 : Av Z h0 a0 .int n f) (gn : n0 ≤ a0) (hj0 : ¬ p1 < 0) (hji : p1.toNatClampNeg = i) (hin : i < n) :
    MetFree l (⟨"com/example/inverso/inverso/search/DocumentSetsComplementPinLaw", "put", "([IIIZ)I"⟩ : MethodName) (head1 (Jvm.Cond.code (⟨"com/example/inverso/inverso/search/DocumentSetsComplementPinLaw", "put", "([IIIZ)I"⟩ : MethodName) method_3_code 4 (some .int) :: ws) ({ frames := 0, cells := 0, slots := 0, locals := 0 } : Room)) (fun a U => a = #[(.ref a0), (.int p1), (.int p2), (.int (1 : Int32))] ∧ Z.Warmed39 U.vm ∧ U.heap = h0) (fun _ _ _ _ _ => True) (fun _ U o U' => ∃ v L, o = .returned v ∧ (Qo2_1 Z a0 p1 p2 n i f h0 n0) v U'.heap L ∧ FrameEnd U o U' L ({ frames := 0, cells := 0, slots := 0, locals := 0 } : Room).cells ({ frames := 0, cells := 0, slots := 0, locals := 0 } : Room).slots) := by
  refine ofWp (Q := Qo2_1 Z a0 p1 p2 n i f h0 n0) own_pl2 (fun m => own_ef2_1 m a0 p1 p2) ?_
  intro p e s m below meth c T0 hx hby hml hown hnm hlk hret hZ X0 e0
  change s.vm.findClass "com/example/inverso/inverso/search/DocumentSetsComplementPinLaw" = some m.cls at hown
  have NF0 := Fr.nil n0
  refine Wp.via (fun _ k => XS.iloadN X0.here hx rfl (hb hby own_d2_0) rfl k) ?_
  show Wp p e below _ (T0.setTop (mkF m 1 #[.val (.ref a0), .val (.int p1), .val (.int p2), .val (.int (1 : Int32))] [(.int (1 : Int32))]))
  refine Wp.via (fun _ k => XS.ifNo X0.here hx rfl (hb hby own_d2_1) rfl ((if0 _ _).trans (feq (by decide)).1) k) ?_
  show Wp p e below _ (T0.setTop (mkF m 4 #[.val (.ref a0), .val (.int p1), .val (.int p2), .val (.int (1 : Int32))] []))
  refine Wp.via (fun _ k => XS.aloadN X0.here hx rfl (hb hby own_d2_4) rfl rfl k) ?_
  show Wp p e below _ (T0.setTop (mkF m 5 #[.val (.ref a0), .val (.int p1), .val (.int p2), .val (.int (1 : Int32))] [(.ref a0)]))
  refine Wp.via (fun _ k => XS.iloadN X0.here hx rfl (hb hby own_d2_5) rfl k) ?_
  show Wp p e below _ (T0.setTop (mkF m 6 #[.val (.ref a0), .val (.int p1), .val (.int p2), .val (.int (1 : Int32))] [(.int p1), (.ref a0)]))
  refine Wp.via (fun _ k => XS.iloadN X0.here hx rfl (hb hby own_d2_6) rfl k) ?_
  show Wp p e below _ (T0.setTop (mkF m 7 #[.val (.ref a0), .val (.int p1), .val (.int p2), .val (.int (1 : Int32))] [(.int p2), (.int p1), (.ref a0)]))
  obtain ⟨T1, h1, X1, e1, W1, V1, st1⟩ := avStI X0 hx hZ e0 V0 (i := i) hj0 hji hin (g := (mkF m 7 #[.val (.ref a0), .val (.int p1), .val (.int p2), .val (.int (1 : Int32))] [(.int p2), (.int p1), (.ref a0)])) rfl rfl (hb hby own_d2_7)
  have NF1 := Fr.snoc X1 NF0 gn
  refine Wp.via st1 ?_
  have K1 := (Keep.refl h0 [a0]).wr W1 (Or.inl (by simp))
  have zz2 : n0 ≤ h1.size := by rw [W1.size]; exact Z0
  show Wp p e below _ (T1.setTop (mkF m 8 #[.val (.ref a0), .val (.int p1), .val (.int p2), .val (.int (1 : Int32))] []))
  refine Wp.via (fun _ k => XS.iloadN X1.here hx rfl (hb hby own_d2_8) rfl k) ?_
  show Wp p e below _ (T1.setTop (mkF m 9 #[.val (.ref a0), .val (.int p1), .val (.int p2), .val (.int (1 : Int32))] [(.int p1)]))
  refine Wp.via (fun _ k => XS.iconst X1.here hx rfl (hb hby own_d2_9) k) ?_
  show Wp p e below _ (T1.setTop (mkF m 10 #[.val (.ref a0), .val (.int p1), .val (.int p2), .val (.int (1 : Int32))] [(.int (1 : Int32)), (.int p1)]))
  refine Wp.via (fun _ k => XS.iadd X1.here hx rfl (hb hby own_d2_10) rfl k) ?_
  show Wp p e below _ (T1.setTop (mkF m 11 #[.val (.ref a0), .val (.int p1), .val (.int p2), .val (.int (1 : Int32))] [(.int (p1 + (1 : Int32)))]))
  exact Wp.retI X1 hlk hx hret (by simp) rfl (hb hby own_d2_11) (by rw [e1]; exact ⟨rfl, NF1, K1, V1⟩) (by decide) (by decide)
theorem own_ef2_0 (m : MethodId) (a0 : Addr) (p1 : Int32) (p2 : Int32) : entryFrame m #[(.ref a0), (.int p1), (.int p2), (.int (0 : Int32))] 4 = mkF m 0 #[.val (.ref a0), .val (.int p1), .val (.int p2), .val (.int (0 : Int32))] [] := by first | (simp [entryFrame, mkF, argsToLocals, Value.category]; done) | rfl
def Qo2_0 (Z : State) (a0 : Addr) (p1 : Int32) (p2 : Int32)  (h0 : Heap) (n0 : Nat) (v : Option Value) (h : Heap) (L : List Loc) : Prop := v = some (.int p1) ∧ Fr n0 L ∧ h = h0
set_option maxRecDepth 65536 in
set_option maxHeartbeats 40000000 in
theorem rm2_0 (l : Launch) (Z : State) (aw : Array Value) (hw : ∀ d ∈ tables_1, d.before aw Z = true) (ws : List Jvm.Cond) (a0 : Addr) (p1 : Int32) (p2 : Int32)  (h0 : Heap) (n0 : Nat) (Z0 : n0 ≤ h0.size)  :
    MetFree l (⟨"com/example/inverso/inverso/search/DocumentSetsComplementPinLaw", "put", "([IIIZ)I"⟩ : MethodName) (head1 (Jvm.Cond.code (⟨"com/example/inverso/inverso/search/DocumentSetsComplementPinLaw", "put", "([IIIZ)I"⟩ : MethodName) method_3_code 4 (some .int) :: ws) ({ frames := 0, cells := 0, slots := 0, locals := 0 } : Room)) (fun a U => a = #[(.ref a0), (.int p1), (.int p2), (.int (0 : Int32))] ∧ Z.Warmed39 U.vm ∧ U.heap = h0) (fun _ _ _ _ _ => True) (fun _ U o U' => ∃ v L, o = .returned v ∧ (Qo2_0 Z a0 p1 p2 h0 n0) v U'.heap L ∧ FrameEnd U o U' L ({ frames := 0, cells := 0, slots := 0, locals := 0 } : Room).cells ({ frames := 0, cells := 0, slots := 0, locals := 0 } : Room).slots) := by
  refine ofWp (Q := Qo2_0 Z a0 p1 p2 h0 n0) own_pl2 (fun m => own_ef2_0 m a0 p1 p2) ?_
  intro p e s m below meth c T0 hx hby hml hown hnm hlk hret hZ X0 e0
  change s.vm.findClass "com/example/inverso/inverso/search/DocumentSetsComplementPinLaw" = some m.cls at hown
  have NF0 := Fr.nil n0
  refine Wp.via (fun _ k => XS.iloadN X0.here hx rfl (hb hby own_d2_0) rfl k) ?_
  show Wp p e below _ (T0.setTop (mkF m 1 #[.val (.ref a0), .val (.int p1), .val (.int p2), .val (.int (0 : Int32))] [(.int (0 : Int32))]))
  refine Wp.via (fun _ k => XS.ifYes X0.here hx rfl (pc0 := 1) (pc' := 12) rfl (hb hby own_d2_1) rfl ((if0 _ _).trans (teq (by decide)).1) (by decide) (by decide) k) ?_
  show Wp p e below _ (T0.setTop (mkF m 12 #[.val (.ref a0), .val (.int p1), .val (.int p2), .val (.int (0 : Int32))] []))
  refine Wp.via (fun _ k => XS.iloadN X0.here hx rfl (hb hby own_d2_12) rfl k) ?_
  show Wp p e below _ (T0.setTop (mkF m 13 #[.val (.ref a0), .val (.int p1), .val (.int p2), .val (.int (0 : Int32))] [(.int p1)]))
  exact Wp.retI X0 hlk hx hret (by simp) rfl (hb hby own_d2_13) ⟨rfl, NF0, e0⟩ (by decide) (by decide)
theorem own_d4_0 : decode method_4_code 0 = .ok (.aload_n 0, 1) := by decide +kernel
theorem own_d4_1 : decode method_4_code 1 = .ok (.arraylength, 1) := by decide +kernel
theorem own_d4_2 : decode method_4_code 2 = .ok (.aload_n 1, 1) := by decide +kernel
theorem own_d4_3 : decode method_4_code 3 = .ok (.arraylength, 1) := by decide +kernel
theorem own_d4_4 : decode method_4_code 4 = .ok (.if_icmp .eq 5, 3) := by decide +kernel
theorem own_d4_7 : decode method_4_code 7 = .ok (.iconst 0, 1) := by decide +kernel
theorem own_d4_8 : decode method_4_code 8 = .ok (.ireturn, 1) := by decide +kernel
theorem own_d4_9 : decode method_4_code 9 = .ok (.aload_n 0, 1) := by decide +kernel
theorem own_d4_10 : decode method_4_code 10 = .ok (.arraylength, 1) := by decide +kernel
theorem own_d4_11 : decode method_4_code 11 = .ok (.ifCond .le 14, 3) := by decide +kernel
theorem own_d4_14 : decode method_4_code 14 = .ok (.aload_n 0, 1) := by decide +kernel
theorem own_d4_15 : decode method_4_code 15 = .ok (.iconst 0, 1) := by decide +kernel
theorem own_d4_16 : decode method_4_code 16 = .ok (.iaload, 1) := by decide +kernel
theorem own_d4_17 : decode method_4_code 17 = .ok (.aload_n 1, 1) := by decide +kernel
theorem own_d4_18 : decode method_4_code 18 = .ok (.iconst 0, 1) := by decide +kernel
theorem own_d4_19 : decode method_4_code 19 = .ok (.iaload, 1) := by decide +kernel
theorem own_d4_20 : decode method_4_code 20 = .ok (.if_icmp .eq 5, 3) := by decide +kernel
theorem own_d4_23 : decode method_4_code 23 = .ok (.iconst 0, 1) := by decide +kernel
theorem own_d4_24 : decode method_4_code 24 = .ok (.ireturn, 1) := by decide +kernel
theorem own_d4_25 : decode method_4_code 25 = .ok (.aload_n 0, 1) := by decide +kernel
theorem own_d4_26 : decode method_4_code 26 = .ok (.arraylength, 1) := by decide +kernel
theorem own_d4_27 : decode method_4_code 27 = .ok (.iconst 1, 1) := by decide +kernel
theorem own_d4_28 : decode method_4_code 28 = .ok (.if_icmp .le 14, 3) := by decide +kernel
theorem own_d4_31 : decode method_4_code 31 = .ok (.aload_n 0, 1) := by decide +kernel
theorem own_d4_32 : decode method_4_code 32 = .ok (.iconst 1, 1) := by decide +kernel
theorem own_d4_33 : decode method_4_code 33 = .ok (.iaload, 1) := by decide +kernel
theorem own_d4_34 : decode method_4_code 34 = .ok (.aload_n 1, 1) := by decide +kernel
theorem own_d4_35 : decode method_4_code 35 = .ok (.iconst 1, 1) := by decide +kernel
theorem own_d4_36 : decode method_4_code 36 = .ok (.iaload, 1) := by decide +kernel
theorem own_d4_37 : decode method_4_code 37 = .ok (.if_icmp .eq 5, 3) := by decide +kernel
theorem own_d4_40 : decode method_4_code 40 = .ok (.iconst 0, 1) := by decide +kernel
theorem own_d4_41 : decode method_4_code 41 = .ok (.ireturn, 1) := by decide +kernel
theorem own_d4_42 : decode method_4_code 42 = .ok (.aload_n 0, 1) := by decide +kernel
theorem own_d4_43 : decode method_4_code 43 = .ok (.arraylength, 1) := by decide +kernel
theorem own_d4_44 : decode method_4_code 44 = .ok (.iconst 2, 1) := by decide +kernel
theorem own_d4_45 : decode method_4_code 45 = .ok (.if_icmp .le 14, 3) := by decide +kernel
theorem own_d4_48 : decode method_4_code 48 = .ok (.aload_n 0, 1) := by decide +kernel
theorem own_d4_49 : decode method_4_code 49 = .ok (.iconst 2, 1) := by decide +kernel
theorem own_d4_50 : decode method_4_code 50 = .ok (.iaload, 1) := by decide +kernel
theorem own_d4_51 : decode method_4_code 51 = .ok (.aload_n 1, 1) := by decide +kernel
theorem own_d4_52 : decode method_4_code 52 = .ok (.iconst 2, 1) := by decide +kernel
theorem own_d4_53 : decode method_4_code 53 = .ok (.iaload, 1) := by decide +kernel
theorem own_d4_54 : decode method_4_code 54 = .ok (.if_icmp .eq 5, 3) := by decide +kernel
theorem own_d4_57 : decode method_4_code 57 = .ok (.iconst 0, 1) := by decide +kernel
theorem own_d4_58 : decode method_4_code 58 = .ok (.ireturn, 1) := by decide +kernel
theorem own_d4_59 : decode method_4_code 59 = .ok (.aload_n 0, 1) := by decide +kernel
theorem own_d4_60 : decode method_4_code 60 = .ok (.arraylength, 1) := by decide +kernel
theorem own_d4_61 : decode method_4_code 61 = .ok (.iconst 3, 1) := by decide +kernel
theorem own_d4_62 : decode method_4_code 62 = .ok (.if_icmp .le 14, 3) := by decide +kernel
theorem own_d4_65 : decode method_4_code 65 = .ok (.aload_n 0, 1) := by decide +kernel
theorem own_d4_66 : decode method_4_code 66 = .ok (.iconst 3, 1) := by decide +kernel
theorem own_d4_67 : decode method_4_code 67 = .ok (.iaload, 1) := by decide +kernel
theorem own_d4_68 : decode method_4_code 68 = .ok (.aload_n 1, 1) := by decide +kernel
theorem own_d4_69 : decode method_4_code 69 = .ok (.iconst 3, 1) := by decide +kernel
theorem own_d4_70 : decode method_4_code 70 = .ok (.iaload, 1) := by decide +kernel
theorem own_d4_71 : decode method_4_code 71 = .ok (.if_icmp .eq 5, 3) := by decide +kernel
theorem own_d4_74 : decode method_4_code 74 = .ok (.iconst 0, 1) := by decide +kernel
theorem own_d4_75 : decode method_4_code 75 = .ok (.ireturn, 1) := by decide +kernel
theorem own_d4_76 : decode method_4_code 76 = .ok (.aload_n 0, 1) := by decide +kernel
theorem own_d4_77 : decode method_4_code 77 = .ok (.arraylength, 1) := by decide +kernel
theorem own_d4_78 : decode method_4_code 78 = .ok (.iconst 4, 1) := by decide +kernel
theorem own_d4_79 : decode method_4_code 79 = .ok (.if_icmp .le 14, 3) := by decide +kernel
theorem own_d4_82 : decode method_4_code 82 = .ok (.aload_n 0, 1) := by decide +kernel
theorem own_d4_83 : decode method_4_code 83 = .ok (.iconst 4, 1) := by decide +kernel
theorem own_d4_84 : decode method_4_code 84 = .ok (.iaload, 1) := by decide +kernel
theorem own_d4_85 : decode method_4_code 85 = .ok (.aload_n 1, 1) := by decide +kernel
theorem own_d4_86 : decode method_4_code 86 = .ok (.iconst 4, 1) := by decide +kernel
theorem own_d4_87 : decode method_4_code 87 = .ok (.iaload, 1) := by decide +kernel
theorem own_d4_88 : decode method_4_code 88 = .ok (.if_icmp .eq 5, 3) := by decide +kernel
theorem own_d4_91 : decode method_4_code 91 = .ok (.iconst 0, 1) := by decide +kernel
theorem own_d4_92 : decode method_4_code 92 = .ok (.ireturn, 1) := by decide +kernel
theorem own_d4_93 : decode method_4_code 93 = .ok (.aload_n 0, 1) := by decide +kernel
theorem own_d4_94 : decode method_4_code 94 = .ok (.arraylength, 1) := by decide +kernel
theorem own_d4_95 : decode method_4_code 95 = .ok (.iconst 5, 1) := by decide +kernel
theorem own_d4_96 : decode method_4_code 96 = .ok (.if_icmp .le 14, 3) := by decide +kernel
theorem own_d4_99 : decode method_4_code 99 = .ok (.aload_n 0, 1) := by decide +kernel
theorem own_d4_100 : decode method_4_code 100 = .ok (.iconst 5, 1) := by decide +kernel
theorem own_d4_101 : decode method_4_code 101 = .ok (.iaload, 1) := by decide +kernel
theorem own_d4_102 : decode method_4_code 102 = .ok (.aload_n 1, 1) := by decide +kernel
theorem own_d4_103 : decode method_4_code 103 = .ok (.iconst 5, 1) := by decide +kernel
theorem own_d4_104 : decode method_4_code 104 = .ok (.iaload, 1) := by decide +kernel
theorem own_d4_105 : decode method_4_code 105 = .ok (.if_icmp .eq 5, 3) := by decide +kernel
theorem own_d4_108 : decode method_4_code 108 = .ok (.iconst 0, 1) := by decide +kernel
theorem own_d4_109 : decode method_4_code 109 = .ok (.ireturn, 1) := by decide +kernel
theorem own_d4_110 : decode method_4_code 110 = .ok (.aload_n 0, 1) := by decide +kernel
theorem own_d4_111 : decode method_4_code 111 = .ok (.arraylength, 1) := by decide +kernel
theorem own_d4_112 : decode method_4_code 112 = .ok (.bipush 6, 2) := by decide +kernel
theorem own_d4_114 : decode method_4_code 114 = .ok (.if_icmp .le 16, 3) := by decide +kernel
theorem own_d4_117 : decode method_4_code 117 = .ok (.aload_n 0, 1) := by decide +kernel
theorem own_d4_118 : decode method_4_code 118 = .ok (.bipush 6, 2) := by decide +kernel
theorem own_d4_120 : decode method_4_code 120 = .ok (.iaload, 1) := by decide +kernel
theorem own_d4_121 : decode method_4_code 121 = .ok (.aload_n 1, 1) := by decide +kernel
theorem own_d4_122 : decode method_4_code 122 = .ok (.bipush 6, 2) := by decide +kernel
theorem own_d4_124 : decode method_4_code 124 = .ok (.iaload, 1) := by decide +kernel
theorem own_d4_125 : decode method_4_code 125 = .ok (.if_icmp .eq 5, 3) := by decide +kernel
theorem own_d4_128 : decode method_4_code 128 = .ok (.iconst 0, 1) := by decide +kernel
theorem own_d4_129 : decode method_4_code 129 = .ok (.ireturn, 1) := by decide +kernel
theorem own_d4_130 : decode method_4_code 130 = .ok (.aload_n 0, 1) := by decide +kernel
theorem own_d4_131 : decode method_4_code 131 = .ok (.arraylength, 1) := by decide +kernel
theorem own_d4_132 : decode method_4_code 132 = .ok (.bipush 7, 2) := by decide +kernel
theorem own_d4_134 : decode method_4_code 134 = .ok (.if_icmp .le 16, 3) := by decide +kernel
theorem own_d4_137 : decode method_4_code 137 = .ok (.aload_n 0, 1) := by decide +kernel
theorem own_d4_138 : decode method_4_code 138 = .ok (.bipush 7, 2) := by decide +kernel
theorem own_d4_140 : decode method_4_code 140 = .ok (.iaload, 1) := by decide +kernel
theorem own_d4_141 : decode method_4_code 141 = .ok (.aload_n 1, 1) := by decide +kernel
theorem own_d4_142 : decode method_4_code 142 = .ok (.bipush 7, 2) := by decide +kernel
theorem own_d4_144 : decode method_4_code 144 = .ok (.iaload, 1) := by decide +kernel
theorem own_d4_145 : decode method_4_code 145 = .ok (.if_icmp .eq 5, 3) := by decide +kernel
theorem own_d4_148 : decode method_4_code 148 = .ok (.iconst 0, 1) := by decide +kernel
theorem own_d4_149 : decode method_4_code 149 = .ok (.ireturn, 1) := by decide +kernel
theorem own_d4_150 : decode method_4_code 150 = .ok (.iconst 1, 1) := by decide +kernel
theorem own_d4_151 : decode method_4_code 151 = .ok (.ireturn, 1) := by decide +kernel
theorem own_pl4 : plainFor (⟨"com/example/inverso/inverso/search/DocumentSetsComplementPinLaw", "same", "([I[I)Z"⟩ : MethodName) = true := plainFor_of_name (by first | (simp [plainName, overriddenIn]; done) | decide +kernel)
theorem own_ef4 (m : MethodId) (a0 : Addr) (a1 : Addr) : entryFrame m #[(.ref a0), (.ref a1)] 2 = mkF m 0 #[.val (.ref a0), .val (.ref a1)] [] := by first | (simp [entryFrame, mkF, argsToLocals, Value.category]; done) | rfl
def Qo4 (Z : State) (a0 : Addr) (a1 : Addr) (n : Nat) (g : Nat → Int32) (h0 : Heap) (n0 : Nat) (v : Option Value) (h : Heap) (L : List Loc) : Prop := v = some (.int 1) ∧ Fr n0 L ∧ h = h0
set_option maxRecDepth 65536 in
set_option maxHeartbeats 40000000 in
theorem rm4 (l : Launch) (Z : State) (aw : Array Value) (hw : ∀ d ∈ tables_1, d.before aw Z = true) (ws : List Jvm.Cond) (a0 : Addr) (a1 : Addr) (n : Nat) (g : Nat → Int32) (h0 : Heap) (n0 : Nat) (Z0 : n0 ≤ h0.size) (V0 : Av Z h0 a0 .int n (fun t => .int (g t))) (V1 : Av Z h0 a1 .int n (fun t => .int (g t))) (hn : n ≤ 8) :
    MetFree l (⟨"com/example/inverso/inverso/search/DocumentSetsComplementPinLaw", "same", "([I[I)Z"⟩ : MethodName) (head1 (Jvm.Cond.code (⟨"com/example/inverso/inverso/search/DocumentSetsComplementPinLaw", "same", "([I[I)Z"⟩ : MethodName) method_4_code 2 (some .boolean) :: ws) ({ frames := 0, cells := 0, slots := 0, locals := 0 } : Room)) (fun a U => a = #[(.ref a0), (.ref a1)] ∧ Z.Warmed39 U.vm ∧ U.heap = h0) (fun _ _ _ _ _ => True) (fun _ U o U' => ∃ v L, o = .returned v ∧ (Qo4 Z a0 a1 n g h0 n0) v U'.heap L ∧ FrameEnd U o U' L ({ frames := 0, cells := 0, slots := 0, locals := 0 } : Room).cells ({ frames := 0, cells := 0, slots := 0, locals := 0 } : Room).slots) := by
  refine ofWp (Q := Qo4 Z a0 a1 n g h0 n0) own_pl4 (fun m => own_ef4 m a0 a1) ?_
  intro p e s m below meth c T0 hx hby hml hown hnm hlk hret hZ X0 e0
  change s.vm.findClass "com/example/inverso/inverso/search/DocumentSetsComplementPinLaw" = some m.cls at hown
  have NF0 := Fr.nil n0
  have J150 : Wp p e below (Gd s (Qo4 Z a0 a1 n g h0 n0) ({ frames := 0, cells := 0, slots := 0, locals := 0 } : Room).cells ({ frames := 0, cells := 0, slots := 0, locals := 0 } : Room).slots) (T0.setTop (mkF m 150 #[.val (.ref a0), .val (.ref a1)] [])) := by
    refine Wp.via (fun _ k => XS.iconst X0.here hx rfl (hb hby own_d4_150) k) ?_
    show Wp p e below _ (T0.setTop (mkF m 151 #[.val (.ref a0), .val (.ref a1)] [(.int (1 : Int32))]))
    exact Wp.retI X0 hlk hx hret (by simp) (by first | rfl | decide) (hb hby own_d4_151) ⟨rfl, NF0, e0⟩ (by decide) (by decide)
  have J130 : Wp p e below (Gd s (Qo4 Z a0 a1 n g h0 n0) ({ frames := 0, cells := 0, slots := 0, locals := 0 } : Room).cells ({ frames := 0, cells := 0, slots := 0, locals := 0 } : Room).slots) (T0.setTop (mkF m 130 #[.val (.ref a0), .val (.ref a1)] [])) := by
    refine Wp.via (fun _ k => XS.aloadN X0.here hx rfl (hb hby own_d4_130) rfl rfl k) ?_
    show Wp p e below _ (T0.setTop (mkF m 131 #[.val (.ref a0), .val (.ref a1)] [(.ref a0)]))
    refine Wp.via (fun _ k => avLen X0 hx hZ e0 V0 (z := (Int32.ofNat n)) (own_len n) (g := (mkF m 131 #[.val (.ref a0), .val (.ref a1)] [(.ref a0)])) rfl rfl (hb hby own_d4_131) _ k) ?_
    show Wp p e below _ (T0.setTop (mkF m 132 #[.val (.ref a0), .val (.ref a1)] [(.int (Int32.ofNat n))]))
    refine Wp.via (fun _ k => XS.bipush X0.here hx rfl (hb hby own_d4_132) k) ?_
    show Wp p e below _ (T0.setTop (mkF m 134 #[.val (.ref a0), .val (.ref a1)] [(.int (7 : Int32)), (.int (Int32.ofNat n))]))
    by_cases h7 : 7 < n
    ·
      refine Wp.via (fun _ k => XS.icmpNo X0.here hx rfl (hb hby own_d4_134) rfl (tlt (show (7 : Int32) < Int32.ofNat n from (own_lt (a := 7) (by omega) (by omega)).mpr h7)).2.2.2 k) ?_
      show Wp p e below _ (T0.setTop (mkF m 137 #[.val (.ref a0), .val (.ref a1)] []))
      refine Wp.via (fun _ k => XS.aloadN X0.here hx rfl (hb hby own_d4_137) rfl rfl k) ?_
      show Wp p e below _ (T0.setTop (mkF m 138 #[.val (.ref a0), .val (.ref a1)] [(.ref a0)]))
      refine Wp.via (fun _ k => XS.bipush X0.here hx rfl (hb hby own_d4_138) k) ?_
      show Wp p e below _ (T0.setTop (mkF m 140 #[.val (.ref a0), .val (.ref a1)] [(.int (7 : Int32)), (.ref a0)]))
      refine Wp.via (fun _ k => avLdI X0 hx hZ e0 V0 (i := 7) (by decide) rfl h7 (w := (.int (g 7))) rfl (g := (mkF m 140 #[.val (.ref a0), .val (.ref a1)] [(.int (7 : Int32)), (.ref a0)])) rfl rfl (hb hby own_d4_140) _ k) ?_
      show Wp p e below _ (T0.setTop (mkF m 141 #[.val (.ref a0), .val (.ref a1)] [(.int (g 7))]))
      refine Wp.via (fun _ k => XS.aloadN X0.here hx rfl (hb hby own_d4_141) rfl rfl k) ?_
      show Wp p e below _ (T0.setTop (mkF m 142 #[.val (.ref a0), .val (.ref a1)] [(.ref a1), (.int (g 7))]))
      refine Wp.via (fun _ k => XS.bipush X0.here hx rfl (hb hby own_d4_142) k) ?_
      show Wp p e below _ (T0.setTop (mkF m 144 #[.val (.ref a0), .val (.ref a1)] [(.int (7 : Int32)), (.ref a1), (.int (g 7))]))
      refine Wp.via (fun _ k => avLdI X0 hx hZ e0 V1 (i := 7) (by decide) rfl h7 (w := (.int (g 7))) rfl (g := (mkF m 144 #[.val (.ref a0), .val (.ref a1)] [(.int (7 : Int32)), (.ref a1), (.int (g 7))])) rfl rfl (hb hby own_d4_144) _ k) ?_
      show Wp p e below _ (T0.setTop (mkF m 145 #[.val (.ref a0), .val (.ref a1)] [(.int (g 7)), (.int (g 7))]))
      refine Wp.via (fun _ k => XS.icmpYes X0.here hx rfl (pc0 := 145) (pc' := 150) rfl (hb hby own_d4_145) rfl (teq rfl).1 (by decide) (by decide) k) ?_
      show Wp p e below _ (T0.setTop (mkF m 150 #[.val (.ref a0), .val (.ref a1)] []))
      exact J150
    ·
      refine Wp.via (fun _ k => XS.icmpYes X0.here hx rfl (pc0 := 134) (pc' := 150) rfl (hb hby own_d4_134) rfl (flt (show ¬ ((7 : Int32) < Int32.ofNat n) from fun q => h7 ((own_lt (a := 7) (by omega) (by omega)).mp q))).2.2.2 (by decide) (by decide) k) ?_
      show Wp p e below _ (T0.setTop (mkF m 150 #[.val (.ref a0), .val (.ref a1)] []))
      exact J150
  have J110 : Wp p e below (Gd s (Qo4 Z a0 a1 n g h0 n0) ({ frames := 0, cells := 0, slots := 0, locals := 0 } : Room).cells ({ frames := 0, cells := 0, slots := 0, locals := 0 } : Room).slots) (T0.setTop (mkF m 110 #[.val (.ref a0), .val (.ref a1)] [])) := by
    refine Wp.via (fun _ k => XS.aloadN X0.here hx rfl (hb hby own_d4_110) rfl rfl k) ?_
    show Wp p e below _ (T0.setTop (mkF m 111 #[.val (.ref a0), .val (.ref a1)] [(.ref a0)]))
    refine Wp.via (fun _ k => avLen X0 hx hZ e0 V0 (z := (Int32.ofNat n)) (own_len n) (g := (mkF m 111 #[.val (.ref a0), .val (.ref a1)] [(.ref a0)])) rfl rfl (hb hby own_d4_111) _ k) ?_
    show Wp p e below _ (T0.setTop (mkF m 112 #[.val (.ref a0), .val (.ref a1)] [(.int (Int32.ofNat n))]))
    refine Wp.via (fun _ k => XS.bipush X0.here hx rfl (hb hby own_d4_112) k) ?_
    show Wp p e below _ (T0.setTop (mkF m 114 #[.val (.ref a0), .val (.ref a1)] [(.int (6 : Int32)), (.int (Int32.ofNat n))]))
    by_cases h6 : 6 < n
    ·
      refine Wp.via (fun _ k => XS.icmpNo X0.here hx rfl (hb hby own_d4_114) rfl (tlt (show (6 : Int32) < Int32.ofNat n from (own_lt (a := 6) (by omega) (by omega)).mpr h6)).2.2.2 k) ?_
      show Wp p e below _ (T0.setTop (mkF m 117 #[.val (.ref a0), .val (.ref a1)] []))
      refine Wp.via (fun _ k => XS.aloadN X0.here hx rfl (hb hby own_d4_117) rfl rfl k) ?_
      show Wp p e below _ (T0.setTop (mkF m 118 #[.val (.ref a0), .val (.ref a1)] [(.ref a0)]))
      refine Wp.via (fun _ k => XS.bipush X0.here hx rfl (hb hby own_d4_118) k) ?_
      show Wp p e below _ (T0.setTop (mkF m 120 #[.val (.ref a0), .val (.ref a1)] [(.int (6 : Int32)), (.ref a0)]))
      refine Wp.via (fun _ k => avLdI X0 hx hZ e0 V0 (i := 6) (by decide) rfl h6 (w := (.int (g 6))) rfl (g := (mkF m 120 #[.val (.ref a0), .val (.ref a1)] [(.int (6 : Int32)), (.ref a0)])) rfl rfl (hb hby own_d4_120) _ k) ?_
      show Wp p e below _ (T0.setTop (mkF m 121 #[.val (.ref a0), .val (.ref a1)] [(.int (g 6))]))
      refine Wp.via (fun _ k => XS.aloadN X0.here hx rfl (hb hby own_d4_121) rfl rfl k) ?_
      show Wp p e below _ (T0.setTop (mkF m 122 #[.val (.ref a0), .val (.ref a1)] [(.ref a1), (.int (g 6))]))
      refine Wp.via (fun _ k => XS.bipush X0.here hx rfl (hb hby own_d4_122) k) ?_
      show Wp p e below _ (T0.setTop (mkF m 124 #[.val (.ref a0), .val (.ref a1)] [(.int (6 : Int32)), (.ref a1), (.int (g 6))]))
      refine Wp.via (fun _ k => avLdI X0 hx hZ e0 V1 (i := 6) (by decide) rfl h6 (w := (.int (g 6))) rfl (g := (mkF m 124 #[.val (.ref a0), .val (.ref a1)] [(.int (6 : Int32)), (.ref a1), (.int (g 6))])) rfl rfl (hb hby own_d4_124) _ k) ?_
      show Wp p e below _ (T0.setTop (mkF m 125 #[.val (.ref a0), .val (.ref a1)] [(.int (g 6)), (.int (g 6))]))
      refine Wp.via (fun _ k => XS.icmpYes X0.here hx rfl (pc0 := 125) (pc' := 130) rfl (hb hby own_d4_125) rfl (teq rfl).1 (by decide) (by decide) k) ?_
      show Wp p e below _ (T0.setTop (mkF m 130 #[.val (.ref a0), .val (.ref a1)] []))
      exact J130
    ·
      refine Wp.via (fun _ k => XS.icmpYes X0.here hx rfl (pc0 := 114) (pc' := 130) rfl (hb hby own_d4_114) rfl (flt (show ¬ ((6 : Int32) < Int32.ofNat n) from fun q => h6 ((own_lt (a := 6) (by omega) (by omega)).mp q))).2.2.2 (by decide) (by decide) k) ?_
      show Wp p e below _ (T0.setTop (mkF m 130 #[.val (.ref a0), .val (.ref a1)] []))
      exact J130
  have J93 : Wp p e below (Gd s (Qo4 Z a0 a1 n g h0 n0) ({ frames := 0, cells := 0, slots := 0, locals := 0 } : Room).cells ({ frames := 0, cells := 0, slots := 0, locals := 0 } : Room).slots) (T0.setTop (mkF m 93 #[.val (.ref a0), .val (.ref a1)] [])) := by
    refine Wp.via (fun _ k => XS.aloadN X0.here hx rfl (hb hby own_d4_93) rfl rfl k) ?_
    show Wp p e below _ (T0.setTop (mkF m 94 #[.val (.ref a0), .val (.ref a1)] [(.ref a0)]))
    refine Wp.via (fun _ k => avLen X0 hx hZ e0 V0 (z := (Int32.ofNat n)) (own_len n) (g := (mkF m 94 #[.val (.ref a0), .val (.ref a1)] [(.ref a0)])) rfl rfl (hb hby own_d4_94) _ k) ?_
    show Wp p e below _ (T0.setTop (mkF m 95 #[.val (.ref a0), .val (.ref a1)] [(.int (Int32.ofNat n))]))
    refine Wp.via (fun _ k => XS.iconst X0.here hx rfl (hb hby own_d4_95) k) ?_
    show Wp p e below _ (T0.setTop (mkF m 96 #[.val (.ref a0), .val (.ref a1)] [(.int (5 : Int32)), (.int (Int32.ofNat n))]))
    by_cases h5 : 5 < n
    ·
      refine Wp.via (fun _ k => XS.icmpNo X0.here hx rfl (hb hby own_d4_96) rfl (tlt (show (5 : Int32) < Int32.ofNat n from (own_lt (a := 5) (by omega) (by omega)).mpr h5)).2.2.2 k) ?_
      show Wp p e below _ (T0.setTop (mkF m 99 #[.val (.ref a0), .val (.ref a1)] []))
      refine Wp.via (fun _ k => XS.aloadN X0.here hx rfl (hb hby own_d4_99) rfl rfl k) ?_
      show Wp p e below _ (T0.setTop (mkF m 100 #[.val (.ref a0), .val (.ref a1)] [(.ref a0)]))
      refine Wp.via (fun _ k => XS.iconst X0.here hx rfl (hb hby own_d4_100) k) ?_
      show Wp p e below _ (T0.setTop (mkF m 101 #[.val (.ref a0), .val (.ref a1)] [(.int (5 : Int32)), (.ref a0)]))
      refine Wp.via (fun _ k => avLdI X0 hx hZ e0 V0 (i := 5) (by decide) rfl h5 (w := (.int (g 5))) rfl (g := (mkF m 101 #[.val (.ref a0), .val (.ref a1)] [(.int (5 : Int32)), (.ref a0)])) rfl rfl (hb hby own_d4_101) _ k) ?_
      show Wp p e below _ (T0.setTop (mkF m 102 #[.val (.ref a0), .val (.ref a1)] [(.int (g 5))]))
      refine Wp.via (fun _ k => XS.aloadN X0.here hx rfl (hb hby own_d4_102) rfl rfl k) ?_
      show Wp p e below _ (T0.setTop (mkF m 103 #[.val (.ref a0), .val (.ref a1)] [(.ref a1), (.int (g 5))]))
      refine Wp.via (fun _ k => XS.iconst X0.here hx rfl (hb hby own_d4_103) k) ?_
      show Wp p e below _ (T0.setTop (mkF m 104 #[.val (.ref a0), .val (.ref a1)] [(.int (5 : Int32)), (.ref a1), (.int (g 5))]))
      refine Wp.via (fun _ k => avLdI X0 hx hZ e0 V1 (i := 5) (by decide) rfl h5 (w := (.int (g 5))) rfl (g := (mkF m 104 #[.val (.ref a0), .val (.ref a1)] [(.int (5 : Int32)), (.ref a1), (.int (g 5))])) rfl rfl (hb hby own_d4_104) _ k) ?_
      show Wp p e below _ (T0.setTop (mkF m 105 #[.val (.ref a0), .val (.ref a1)] [(.int (g 5)), (.int (g 5))]))
      refine Wp.via (fun _ k => XS.icmpYes X0.here hx rfl (pc0 := 105) (pc' := 110) rfl (hb hby own_d4_105) rfl (teq rfl).1 (by decide) (by decide) k) ?_
      show Wp p e below _ (T0.setTop (mkF m 110 #[.val (.ref a0), .val (.ref a1)] []))
      exact J110
    ·
      refine Wp.via (fun _ k => XS.icmpYes X0.here hx rfl (pc0 := 96) (pc' := 110) rfl (hb hby own_d4_96) rfl (flt (show ¬ ((5 : Int32) < Int32.ofNat n) from fun q => h5 ((own_lt (a := 5) (by omega) (by omega)).mp q))).2.2.2 (by decide) (by decide) k) ?_
      show Wp p e below _ (T0.setTop (mkF m 110 #[.val (.ref a0), .val (.ref a1)] []))
      exact J110
  have J76 : Wp p e below (Gd s (Qo4 Z a0 a1 n g h0 n0) ({ frames := 0, cells := 0, slots := 0, locals := 0 } : Room).cells ({ frames := 0, cells := 0, slots := 0, locals := 0 } : Room).slots) (T0.setTop (mkF m 76 #[.val (.ref a0), .val (.ref a1)] [])) := by
    refine Wp.via (fun _ k => XS.aloadN X0.here hx rfl (hb hby own_d4_76) rfl rfl k) ?_
    show Wp p e below _ (T0.setTop (mkF m 77 #[.val (.ref a0), .val (.ref a1)] [(.ref a0)]))
    refine Wp.via (fun _ k => avLen X0 hx hZ e0 V0 (z := (Int32.ofNat n)) (own_len n) (g := (mkF m 77 #[.val (.ref a0), .val (.ref a1)] [(.ref a0)])) rfl rfl (hb hby own_d4_77) _ k) ?_
    show Wp p e below _ (T0.setTop (mkF m 78 #[.val (.ref a0), .val (.ref a1)] [(.int (Int32.ofNat n))]))
    refine Wp.via (fun _ k => XS.iconst X0.here hx rfl (hb hby own_d4_78) k) ?_
    show Wp p e below _ (T0.setTop (mkF m 79 #[.val (.ref a0), .val (.ref a1)] [(.int (4 : Int32)), (.int (Int32.ofNat n))]))
    by_cases h4 : 4 < n
    ·
      refine Wp.via (fun _ k => XS.icmpNo X0.here hx rfl (hb hby own_d4_79) rfl (tlt (show (4 : Int32) < Int32.ofNat n from (own_lt (a := 4) (by omega) (by omega)).mpr h4)).2.2.2 k) ?_
      show Wp p e below _ (T0.setTop (mkF m 82 #[.val (.ref a0), .val (.ref a1)] []))
      refine Wp.via (fun _ k => XS.aloadN X0.here hx rfl (hb hby own_d4_82) rfl rfl k) ?_
      show Wp p e below _ (T0.setTop (mkF m 83 #[.val (.ref a0), .val (.ref a1)] [(.ref a0)]))
      refine Wp.via (fun _ k => XS.iconst X0.here hx rfl (hb hby own_d4_83) k) ?_
      show Wp p e below _ (T0.setTop (mkF m 84 #[.val (.ref a0), .val (.ref a1)] [(.int (4 : Int32)), (.ref a0)]))
      refine Wp.via (fun _ k => avLdI X0 hx hZ e0 V0 (i := 4) (by decide) rfl h4 (w := (.int (g 4))) rfl (g := (mkF m 84 #[.val (.ref a0), .val (.ref a1)] [(.int (4 : Int32)), (.ref a0)])) rfl rfl (hb hby own_d4_84) _ k) ?_
      show Wp p e below _ (T0.setTop (mkF m 85 #[.val (.ref a0), .val (.ref a1)] [(.int (g 4))]))
      refine Wp.via (fun _ k => XS.aloadN X0.here hx rfl (hb hby own_d4_85) rfl rfl k) ?_
      show Wp p e below _ (T0.setTop (mkF m 86 #[.val (.ref a0), .val (.ref a1)] [(.ref a1), (.int (g 4))]))
      refine Wp.via (fun _ k => XS.iconst X0.here hx rfl (hb hby own_d4_86) k) ?_
      show Wp p e below _ (T0.setTop (mkF m 87 #[.val (.ref a0), .val (.ref a1)] [(.int (4 : Int32)), (.ref a1), (.int (g 4))]))
      refine Wp.via (fun _ k => avLdI X0 hx hZ e0 V1 (i := 4) (by decide) rfl h4 (w := (.int (g 4))) rfl (g := (mkF m 87 #[.val (.ref a0), .val (.ref a1)] [(.int (4 : Int32)), (.ref a1), (.int (g 4))])) rfl rfl (hb hby own_d4_87) _ k) ?_
      show Wp p e below _ (T0.setTop (mkF m 88 #[.val (.ref a0), .val (.ref a1)] [(.int (g 4)), (.int (g 4))]))
      refine Wp.via (fun _ k => XS.icmpYes X0.here hx rfl (pc0 := 88) (pc' := 93) rfl (hb hby own_d4_88) rfl (teq rfl).1 (by decide) (by decide) k) ?_
      show Wp p e below _ (T0.setTop (mkF m 93 #[.val (.ref a0), .val (.ref a1)] []))
      exact J93
    ·
      refine Wp.via (fun _ k => XS.icmpYes X0.here hx rfl (pc0 := 79) (pc' := 93) rfl (hb hby own_d4_79) rfl (flt (show ¬ ((4 : Int32) < Int32.ofNat n) from fun q => h4 ((own_lt (a := 4) (by omega) (by omega)).mp q))).2.2.2 (by decide) (by decide) k) ?_
      show Wp p e below _ (T0.setTop (mkF m 93 #[.val (.ref a0), .val (.ref a1)] []))
      exact J93
  have J59 : Wp p e below (Gd s (Qo4 Z a0 a1 n g h0 n0) ({ frames := 0, cells := 0, slots := 0, locals := 0 } : Room).cells ({ frames := 0, cells := 0, slots := 0, locals := 0 } : Room).slots) (T0.setTop (mkF m 59 #[.val (.ref a0), .val (.ref a1)] [])) := by
    refine Wp.via (fun _ k => XS.aloadN X0.here hx rfl (hb hby own_d4_59) rfl rfl k) ?_
    show Wp p e below _ (T0.setTop (mkF m 60 #[.val (.ref a0), .val (.ref a1)] [(.ref a0)]))
    refine Wp.via (fun _ k => avLen X0 hx hZ e0 V0 (z := (Int32.ofNat n)) (own_len n) (g := (mkF m 60 #[.val (.ref a0), .val (.ref a1)] [(.ref a0)])) rfl rfl (hb hby own_d4_60) _ k) ?_
    show Wp p e below _ (T0.setTop (mkF m 61 #[.val (.ref a0), .val (.ref a1)] [(.int (Int32.ofNat n))]))
    refine Wp.via (fun _ k => XS.iconst X0.here hx rfl (hb hby own_d4_61) k) ?_
    show Wp p e below _ (T0.setTop (mkF m 62 #[.val (.ref a0), .val (.ref a1)] [(.int (3 : Int32)), (.int (Int32.ofNat n))]))
    by_cases h3 : 3 < n
    ·
      refine Wp.via (fun _ k => XS.icmpNo X0.here hx rfl (hb hby own_d4_62) rfl (tlt (show (3 : Int32) < Int32.ofNat n from (own_lt (a := 3) (by omega) (by omega)).mpr h3)).2.2.2 k) ?_
      show Wp p e below _ (T0.setTop (mkF m 65 #[.val (.ref a0), .val (.ref a1)] []))
      refine Wp.via (fun _ k => XS.aloadN X0.here hx rfl (hb hby own_d4_65) rfl rfl k) ?_
      show Wp p e below _ (T0.setTop (mkF m 66 #[.val (.ref a0), .val (.ref a1)] [(.ref a0)]))
      refine Wp.via (fun _ k => XS.iconst X0.here hx rfl (hb hby own_d4_66) k) ?_
      show Wp p e below _ (T0.setTop (mkF m 67 #[.val (.ref a0), .val (.ref a1)] [(.int (3 : Int32)), (.ref a0)]))
      refine Wp.via (fun _ k => avLdI X0 hx hZ e0 V0 (i := 3) (by decide) rfl h3 (w := (.int (g 3))) rfl (g := (mkF m 67 #[.val (.ref a0), .val (.ref a1)] [(.int (3 : Int32)), (.ref a0)])) rfl rfl (hb hby own_d4_67) _ k) ?_
      show Wp p e below _ (T0.setTop (mkF m 68 #[.val (.ref a0), .val (.ref a1)] [(.int (g 3))]))
      refine Wp.via (fun _ k => XS.aloadN X0.here hx rfl (hb hby own_d4_68) rfl rfl k) ?_
      show Wp p e below _ (T0.setTop (mkF m 69 #[.val (.ref a0), .val (.ref a1)] [(.ref a1), (.int (g 3))]))
      refine Wp.via (fun _ k => XS.iconst X0.here hx rfl (hb hby own_d4_69) k) ?_
      show Wp p e below _ (T0.setTop (mkF m 70 #[.val (.ref a0), .val (.ref a1)] [(.int (3 : Int32)), (.ref a1), (.int (g 3))]))
      refine Wp.via (fun _ k => avLdI X0 hx hZ e0 V1 (i := 3) (by decide) rfl h3 (w := (.int (g 3))) rfl (g := (mkF m 70 #[.val (.ref a0), .val (.ref a1)] [(.int (3 : Int32)), (.ref a1), (.int (g 3))])) rfl rfl (hb hby own_d4_70) _ k) ?_
      show Wp p e below _ (T0.setTop (mkF m 71 #[.val (.ref a0), .val (.ref a1)] [(.int (g 3)), (.int (g 3))]))
      refine Wp.via (fun _ k => XS.icmpYes X0.here hx rfl (pc0 := 71) (pc' := 76) rfl (hb hby own_d4_71) rfl (teq rfl).1 (by decide) (by decide) k) ?_
      show Wp p e below _ (T0.setTop (mkF m 76 #[.val (.ref a0), .val (.ref a1)] []))
      exact J76
    ·
      refine Wp.via (fun _ k => XS.icmpYes X0.here hx rfl (pc0 := 62) (pc' := 76) rfl (hb hby own_d4_62) rfl (flt (show ¬ ((3 : Int32) < Int32.ofNat n) from fun q => h3 ((own_lt (a := 3) (by omega) (by omega)).mp q))).2.2.2 (by decide) (by decide) k) ?_
      show Wp p e below _ (T0.setTop (mkF m 76 #[.val (.ref a0), .val (.ref a1)] []))
      exact J76
  have J42 : Wp p e below (Gd s (Qo4 Z a0 a1 n g h0 n0) ({ frames := 0, cells := 0, slots := 0, locals := 0 } : Room).cells ({ frames := 0, cells := 0, slots := 0, locals := 0 } : Room).slots) (T0.setTop (mkF m 42 #[.val (.ref a0), .val (.ref a1)] [])) := by
    refine Wp.via (fun _ k => XS.aloadN X0.here hx rfl (hb hby own_d4_42) rfl rfl k) ?_
    show Wp p e below _ (T0.setTop (mkF m 43 #[.val (.ref a0), .val (.ref a1)] [(.ref a0)]))
    refine Wp.via (fun _ k => avLen X0 hx hZ e0 V0 (z := (Int32.ofNat n)) (own_len n) (g := (mkF m 43 #[.val (.ref a0), .val (.ref a1)] [(.ref a0)])) rfl rfl (hb hby own_d4_43) _ k) ?_
    show Wp p e below _ (T0.setTop (mkF m 44 #[.val (.ref a0), .val (.ref a1)] [(.int (Int32.ofNat n))]))
    refine Wp.via (fun _ k => XS.iconst X0.here hx rfl (hb hby own_d4_44) k) ?_
    show Wp p e below _ (T0.setTop (mkF m 45 #[.val (.ref a0), .val (.ref a1)] [(.int (2 : Int32)), (.int (Int32.ofNat n))]))
    by_cases h2 : 2 < n
    ·
      refine Wp.via (fun _ k => XS.icmpNo X0.here hx rfl (hb hby own_d4_45) rfl (tlt (show (2 : Int32) < Int32.ofNat n from (own_lt (a := 2) (by omega) (by omega)).mpr h2)).2.2.2 k) ?_
      show Wp p e below _ (T0.setTop (mkF m 48 #[.val (.ref a0), .val (.ref a1)] []))
      refine Wp.via (fun _ k => XS.aloadN X0.here hx rfl (hb hby own_d4_48) rfl rfl k) ?_
      show Wp p e below _ (T0.setTop (mkF m 49 #[.val (.ref a0), .val (.ref a1)] [(.ref a0)]))
      refine Wp.via (fun _ k => XS.iconst X0.here hx rfl (hb hby own_d4_49) k) ?_
      show Wp p e below _ (T0.setTop (mkF m 50 #[.val (.ref a0), .val (.ref a1)] [(.int (2 : Int32)), (.ref a0)]))
      refine Wp.via (fun _ k => avLdI X0 hx hZ e0 V0 (i := 2) (by decide) rfl h2 (w := (.int (g 2))) rfl (g := (mkF m 50 #[.val (.ref a0), .val (.ref a1)] [(.int (2 : Int32)), (.ref a0)])) rfl rfl (hb hby own_d4_50) _ k) ?_
      show Wp p e below _ (T0.setTop (mkF m 51 #[.val (.ref a0), .val (.ref a1)] [(.int (g 2))]))
      refine Wp.via (fun _ k => XS.aloadN X0.here hx rfl (hb hby own_d4_51) rfl rfl k) ?_
      show Wp p e below _ (T0.setTop (mkF m 52 #[.val (.ref a0), .val (.ref a1)] [(.ref a1), (.int (g 2))]))
      refine Wp.via (fun _ k => XS.iconst X0.here hx rfl (hb hby own_d4_52) k) ?_
      show Wp p e below _ (T0.setTop (mkF m 53 #[.val (.ref a0), .val (.ref a1)] [(.int (2 : Int32)), (.ref a1), (.int (g 2))]))
      refine Wp.via (fun _ k => avLdI X0 hx hZ e0 V1 (i := 2) (by decide) rfl h2 (w := (.int (g 2))) rfl (g := (mkF m 53 #[.val (.ref a0), .val (.ref a1)] [(.int (2 : Int32)), (.ref a1), (.int (g 2))])) rfl rfl (hb hby own_d4_53) _ k) ?_
      show Wp p e below _ (T0.setTop (mkF m 54 #[.val (.ref a0), .val (.ref a1)] [(.int (g 2)), (.int (g 2))]))
      refine Wp.via (fun _ k => XS.icmpYes X0.here hx rfl (pc0 := 54) (pc' := 59) rfl (hb hby own_d4_54) rfl (teq rfl).1 (by decide) (by decide) k) ?_
      show Wp p e below _ (T0.setTop (mkF m 59 #[.val (.ref a0), .val (.ref a1)] []))
      exact J59
    ·
      refine Wp.via (fun _ k => XS.icmpYes X0.here hx rfl (pc0 := 45) (pc' := 59) rfl (hb hby own_d4_45) rfl (flt (show ¬ ((2 : Int32) < Int32.ofNat n) from fun q => h2 ((own_lt (a := 2) (by omega) (by omega)).mp q))).2.2.2 (by decide) (by decide) k) ?_
      show Wp p e below _ (T0.setTop (mkF m 59 #[.val (.ref a0), .val (.ref a1)] []))
      exact J59
  have J25 : Wp p e below (Gd s (Qo4 Z a0 a1 n g h0 n0) ({ frames := 0, cells := 0, slots := 0, locals := 0 } : Room).cells ({ frames := 0, cells := 0, slots := 0, locals := 0 } : Room).slots) (T0.setTop (mkF m 25 #[.val (.ref a0), .val (.ref a1)] [])) := by
    refine Wp.via (fun _ k => XS.aloadN X0.here hx rfl (hb hby own_d4_25) rfl rfl k) ?_
    show Wp p e below _ (T0.setTop (mkF m 26 #[.val (.ref a0), .val (.ref a1)] [(.ref a0)]))
    refine Wp.via (fun _ k => avLen X0 hx hZ e0 V0 (z := (Int32.ofNat n)) (own_len n) (g := (mkF m 26 #[.val (.ref a0), .val (.ref a1)] [(.ref a0)])) rfl rfl (hb hby own_d4_26) _ k) ?_
    show Wp p e below _ (T0.setTop (mkF m 27 #[.val (.ref a0), .val (.ref a1)] [(.int (Int32.ofNat n))]))
    refine Wp.via (fun _ k => XS.iconst X0.here hx rfl (hb hby own_d4_27) k) ?_
    show Wp p e below _ (T0.setTop (mkF m 28 #[.val (.ref a0), .val (.ref a1)] [(.int (1 : Int32)), (.int (Int32.ofNat n))]))
    by_cases h1 : 1 < n
    ·
      refine Wp.via (fun _ k => XS.icmpNo X0.here hx rfl (hb hby own_d4_28) rfl (tlt (show (1 : Int32) < Int32.ofNat n from (own_lt (a := 1) (by omega) (by omega)).mpr h1)).2.2.2 k) ?_
      show Wp p e below _ (T0.setTop (mkF m 31 #[.val (.ref a0), .val (.ref a1)] []))
      refine Wp.via (fun _ k => XS.aloadN X0.here hx rfl (hb hby own_d4_31) rfl rfl k) ?_
      show Wp p e below _ (T0.setTop (mkF m 32 #[.val (.ref a0), .val (.ref a1)] [(.ref a0)]))
      refine Wp.via (fun _ k => XS.iconst X0.here hx rfl (hb hby own_d4_32) k) ?_
      show Wp p e below _ (T0.setTop (mkF m 33 #[.val (.ref a0), .val (.ref a1)] [(.int (1 : Int32)), (.ref a0)]))
      refine Wp.via (fun _ k => avLdI X0 hx hZ e0 V0 (i := 1) (by decide) rfl h1 (w := (.int (g 1))) rfl (g := (mkF m 33 #[.val (.ref a0), .val (.ref a1)] [(.int (1 : Int32)), (.ref a0)])) rfl rfl (hb hby own_d4_33) _ k) ?_
      show Wp p e below _ (T0.setTop (mkF m 34 #[.val (.ref a0), .val (.ref a1)] [(.int (g 1))]))
      refine Wp.via (fun _ k => XS.aloadN X0.here hx rfl (hb hby own_d4_34) rfl rfl k) ?_
      show Wp p e below _ (T0.setTop (mkF m 35 #[.val (.ref a0), .val (.ref a1)] [(.ref a1), (.int (g 1))]))
      refine Wp.via (fun _ k => XS.iconst X0.here hx rfl (hb hby own_d4_35) k) ?_
      show Wp p e below _ (T0.setTop (mkF m 36 #[.val (.ref a0), .val (.ref a1)] [(.int (1 : Int32)), (.ref a1), (.int (g 1))]))
      refine Wp.via (fun _ k => avLdI X0 hx hZ e0 V1 (i := 1) (by decide) rfl h1 (w := (.int (g 1))) rfl (g := (mkF m 36 #[.val (.ref a0), .val (.ref a1)] [(.int (1 : Int32)), (.ref a1), (.int (g 1))])) rfl rfl (hb hby own_d4_36) _ k) ?_
      show Wp p e below _ (T0.setTop (mkF m 37 #[.val (.ref a0), .val (.ref a1)] [(.int (g 1)), (.int (g 1))]))
      refine Wp.via (fun _ k => XS.icmpYes X0.here hx rfl (pc0 := 37) (pc' := 42) rfl (hb hby own_d4_37) rfl (teq rfl).1 (by decide) (by decide) k) ?_
      show Wp p e below _ (T0.setTop (mkF m 42 #[.val (.ref a0), .val (.ref a1)] []))
      exact J42
    ·
      refine Wp.via (fun _ k => XS.icmpYes X0.here hx rfl (pc0 := 28) (pc' := 42) rfl (hb hby own_d4_28) rfl (flt (show ¬ ((1 : Int32) < Int32.ofNat n) from fun q => h1 ((own_lt (a := 1) (by omega) (by omega)).mp q))).2.2.2 (by decide) (by decide) k) ?_
      show Wp p e below _ (T0.setTop (mkF m 42 #[.val (.ref a0), .val (.ref a1)] []))
      exact J42
  have J9 : Wp p e below (Gd s (Qo4 Z a0 a1 n g h0 n0) ({ frames := 0, cells := 0, slots := 0, locals := 0 } : Room).cells ({ frames := 0, cells := 0, slots := 0, locals := 0 } : Room).slots) (T0.setTop (mkF m 9 #[.val (.ref a0), .val (.ref a1)] [])) := by
    refine Wp.via (fun _ k => XS.aloadN X0.here hx rfl (hb hby own_d4_9) rfl rfl k) ?_
    show Wp p e below _ (T0.setTop (mkF m 10 #[.val (.ref a0), .val (.ref a1)] [(.ref a0)]))
    refine Wp.via (fun _ k => avLen X0 hx hZ e0 V0 (z := (Int32.ofNat n)) (own_len n) (g := (mkF m 10 #[.val (.ref a0), .val (.ref a1)] [(.ref a0)])) rfl rfl (hb hby own_d4_10) _ k) ?_
    show Wp p e below _ (T0.setTop (mkF m 11 #[.val (.ref a0), .val (.ref a1)] [(.int (Int32.ofNat n))]))
    by_cases h0 : 0 < n
    ·
      refine Wp.via (fun _ k => XS.ifNo X0.here hx rfl (hb hby own_d4_11) rfl ((if0 _ _).trans (tlt (show (0 : Int32) < Int32.ofNat n from (own_lt (a := 0) (by omega) (by omega)).mpr h0)).2.2.2) k) ?_
      show Wp p e below _ (T0.setTop (mkF m 14 #[.val (.ref a0), .val (.ref a1)] []))
      refine Wp.via (fun _ k => XS.aloadN X0.here hx rfl (hb hby own_d4_14) rfl rfl k) ?_
      show Wp p e below _ (T0.setTop (mkF m 15 #[.val (.ref a0), .val (.ref a1)] [(.ref a0)]))
      refine Wp.via (fun _ k => XS.iconst X0.here hx rfl (hb hby own_d4_15) k) ?_
      show Wp p e below _ (T0.setTop (mkF m 16 #[.val (.ref a0), .val (.ref a1)] [(.int (0 : Int32)), (.ref a0)]))
      refine Wp.via (fun _ k => avLdI X0 hx hZ e0 V0 (i := 0) (by decide) rfl h0 (w := (.int (g 0))) rfl (g := (mkF m 16 #[.val (.ref a0), .val (.ref a1)] [(.int (0 : Int32)), (.ref a0)])) rfl rfl (hb hby own_d4_16) _ k) ?_
      show Wp p e below _ (T0.setTop (mkF m 17 #[.val (.ref a0), .val (.ref a1)] [(.int (g 0))]))
      refine Wp.via (fun _ k => XS.aloadN X0.here hx rfl (hb hby own_d4_17) rfl rfl k) ?_
      show Wp p e below _ (T0.setTop (mkF m 18 #[.val (.ref a0), .val (.ref a1)] [(.ref a1), (.int (g 0))]))
      refine Wp.via (fun _ k => XS.iconst X0.here hx rfl (hb hby own_d4_18) k) ?_
      show Wp p e below _ (T0.setTop (mkF m 19 #[.val (.ref a0), .val (.ref a1)] [(.int (0 : Int32)), (.ref a1), (.int (g 0))]))
      refine Wp.via (fun _ k => avLdI X0 hx hZ e0 V1 (i := 0) (by decide) rfl h0 (w := (.int (g 0))) rfl (g := (mkF m 19 #[.val (.ref a0), .val (.ref a1)] [(.int (0 : Int32)), (.ref a1), (.int (g 0))])) rfl rfl (hb hby own_d4_19) _ k) ?_
      show Wp p e below _ (T0.setTop (mkF m 20 #[.val (.ref a0), .val (.ref a1)] [(.int (g 0)), (.int (g 0))]))
      refine Wp.via (fun _ k => XS.icmpYes X0.here hx rfl (pc0 := 20) (pc' := 25) rfl (hb hby own_d4_20) rfl (teq rfl).1 (by decide) (by decide) k) ?_
      show Wp p e below _ (T0.setTop (mkF m 25 #[.val (.ref a0), .val (.ref a1)] []))
      exact J25
    ·
      refine Wp.via (fun _ k => XS.ifYes X0.here hx rfl (pc0 := 11) (pc' := 25) rfl (hb hby own_d4_11) rfl ((if0 _ _).trans (flt (show ¬ ((0 : Int32) < Int32.ofNat n) from fun q => h0 ((own_lt (a := 0) (by omega) (by omega)).mp q))).2.2.2) (by decide) (by decide) k) ?_
      show Wp p e below _ (T0.setTop (mkF m 25 #[.val (.ref a0), .val (.ref a1)] []))
      exact J25
  refine Wp.via (fun _ k => XS.aloadN X0.here hx rfl (hb hby own_d4_0) rfl rfl k) ?_
  show Wp p e below _ (T0.setTop (mkF m 1 #[.val (.ref a0), .val (.ref a1)] [(.ref a0)]))
  refine Wp.via (fun _ k => avLen X0 hx hZ e0 V0 (z := (Int32.ofNat n)) (own_len n) (g := (mkF m 1 #[.val (.ref a0), .val (.ref a1)] [(.ref a0)])) rfl rfl (hb hby own_d4_1) _ k) ?_
  show Wp p e below _ (T0.setTop (mkF m 2 #[.val (.ref a0), .val (.ref a1)] [(.int (Int32.ofNat n))]))
  refine Wp.via (fun _ k => XS.aloadN X0.here hx rfl (hb hby own_d4_2) rfl rfl k) ?_
  show Wp p e below _ (T0.setTop (mkF m 3 #[.val (.ref a0), .val (.ref a1)] [(.ref a1), (.int (Int32.ofNat n))]))
  refine Wp.via (fun _ k => avLen X0 hx hZ e0 V1 (z := (Int32.ofNat n)) (own_len n) (g := (mkF m 3 #[.val (.ref a0), .val (.ref a1)] [(.ref a1), (.int (Int32.ofNat n))])) rfl rfl (hb hby own_d4_3) _ k) ?_
  show Wp p e below _ (T0.setTop (mkF m 4 #[.val (.ref a0), .val (.ref a1)] [(.int (Int32.ofNat n)), (.int (Int32.ofNat n))]))
  refine Wp.via (fun _ k => XS.icmpYes X0.here hx rfl (pc0 := 4) (pc' := 9) rfl (hb hby own_d4_4) rfl (teq rfl).1 (by decide) (by decide) k) ?_
  show Wp p e below _ (T0.setTop (mkF m 9 #[.val (.ref a0), .val (.ref a1)] []))
  exact J9
theorem own_d3_0 : decode prog_223_method_5_code 0 = .ok (.iload_n 1, 1) := by decide +kernel
theorem own_d3_1 : decode prog_223_method_5_code 1 = .ok (.aload_n 0, 1) := by decide +kernel
theorem own_d3_2 : decode prog_223_method_5_code 2 = .ok (.arraylength, 1) := by decide +kernel
theorem own_d3_3 : decode prog_223_method_5_code 3 = .ok (.isub, 1) := by decide +kernel
theorem own_d3_4 : decode prog_223_method_5_code 4 = .ok (.newarray .int, 2) := by decide +kernel
theorem own_d3_6 : decode prog_223_method_5_code 6 = .ok (.astore_n 2, 1) := by decide +kernel
theorem own_d3_7 : decode prog_223_method_5_code 7 = .ok (.iconst 0, 1) := by decide +kernel
theorem own_d3_8 : decode prog_223_method_5_code 8 = .ok (.istore_n 3, 1) := by decide +kernel
theorem own_d3_9 : decode prog_223_method_5_code 9 = .ok (.iconst 0, 1) := by decide +kernel
theorem own_d3_10 : decode prog_223_method_5_code 10 = .ok (.istore 4, 2) := by decide +kernel
theorem own_d3_12 : decode prog_223_method_5_code 12 = .ok (.iconst 1, 1) := by decide +kernel
theorem own_d3_13 : decode prog_223_method_5_code 13 = .ok (.istore 5, 2) := by decide +kernel
theorem own_d3_15 : decode prog_223_method_5_code 15 = .ok (.iload_n 3, 1) := by decide +kernel
theorem own_d3_16 : decode prog_223_method_5_code 16 = .ok (.aload_n 2, 1) := by decide +kernel
theorem own_d3_17 : decode prog_223_method_5_code 17 = .ok (.arraylength, 1) := by decide +kernel
theorem own_d3_18 : decode prog_223_method_5_code 18 = .ok (.if_icmp .ge 39, 3) := by decide +kernel
theorem own_d3_21 : decode prog_223_method_5_code 21 = .ok (.iload 4, 2) := by decide +kernel
theorem own_d3_23 : decode prog_223_method_5_code 23 = .ok (.aload_n 0, 1) := by decide +kernel
theorem own_d3_24 : decode prog_223_method_5_code 24 = .ok (.arraylength, 1) := by decide +kernel
theorem own_d3_25 : decode prog_223_method_5_code 25 = .ok (.if_icmp .ge 18, 3) := by decide +kernel
theorem own_d3_28 : decode prog_223_method_5_code 28 = .ok (.aload_n 0, 1) := by decide +kernel
theorem own_d3_29 : decode prog_223_method_5_code 29 = .ok (.iload 4, 2) := by decide +kernel
theorem own_d3_31 : decode prog_223_method_5_code 31 = .ok (.iaload, 1) := by decide +kernel
theorem own_d3_32 : decode prog_223_method_5_code 32 = .ok (.iload 5, 2) := by decide +kernel
theorem own_d3_34 : decode prog_223_method_5_code 34 = .ok (.if_icmp .ne 9, 3) := by decide +kernel
theorem own_d3_37 : decode prog_223_method_5_code 37 = .ok (.iinc 4 1, 3) := by decide +kernel
theorem own_d3_40 : decode prog_223_method_5_code 40 = .ok (.goto 11, 3) := by decide +kernel
theorem own_d3_43 : decode prog_223_method_5_code 43 = .ok (.aload_n 2, 1) := by decide +kernel
theorem own_d3_44 : decode prog_223_method_5_code 44 = .ok (.iload_n 3, 1) := by decide +kernel
theorem own_d3_45 : decode prog_223_method_5_code 45 = .ok (.iinc 3 1, 3) := by decide +kernel
theorem own_d3_48 : decode prog_223_method_5_code 48 = .ok (.iload 5, 2) := by decide +kernel
theorem own_d3_50 : decode prog_223_method_5_code 50 = .ok (.iastore, 1) := by decide +kernel
theorem own_d3_51 : decode prog_223_method_5_code 51 = .ok (.iinc 5 1, 3) := by decide +kernel
theorem own_d3_54 : decode prog_223_method_5_code 54 = .ok (.goto (-39), 3) := by decide +kernel
theorem own_d3_57 : decode prog_223_method_5_code 57 = .ok (.aload_n 2, 1) := by decide +kernel
theorem own_d3_58 : decode prog_223_method_5_code 58 = .ok (.areturn, 1) := by decide +kernel
theorem own_pl3 : plainFor (⟨"com/example/inverso/inverso/search/DocumentSets", "complement", "([II)[I"⟩ : MethodName) = true := plainFor_of_name (by first | (simp [plainName, overriddenIn]; done) | decide +kernel)
theorem own_ef3 (m : MethodId) (a0 : Addr) : entryFrame m #[(.ref a0), (.int (Int32.ofNat C))] 6 = mkF m 0 #[.val (.ref a0), .val (.int (Int32.ofNat C)), .unset, .unset, .unset, .unset] [] := by first | (simp [entryFrame, mkF, argsToLocals, Value.category]; done) | rfl
def Qo3 (Z : State) (a0 : Addr) (C M : Nat) (h0 : Heap) (n0 : Nat) (v : Option Value) (h : Heap) (L : List Loc) : Prop := ∃ r, v = some (.ref r) ∧ Fr n0 L ∧ Keep h0 h [] ∧ n0 ≤ r ∧ h0.size ≤ r ∧ Av Z h r .int (C - own_cnt M 8) (fun t => .int (own_E M C t))
set_option maxRecDepth 65536 in
set_option maxHeartbeats 40000000 in
theorem rm3 (l : Launch) (Z : State) (aw : Array Value) (hw : ∀ d ∈ tables_1, d.before aw Z = true) (ws : List Jvm.Cond) (a0 : Addr) (C M : Nat) (h0 : Heap) (n0 : Nat) (Z0 : n0 ≤ h0.size) (hC : C ≤ 8) (hM : M < 2 ^ C) (V0 : Av Z h0 a0 .int (own_cnt M 8) (fun t => .int (own_A M t))) :
    MetFree l (⟨"com/example/inverso/inverso/search/DocumentSets", "complement", "([II)[I"⟩ : MethodName) (head1 (Jvm.Cond.code (⟨"com/example/inverso/inverso/search/DocumentSets", "complement", "([II)[I"⟩ : MethodName) prog_223_method_5_code 6 (some (.array .int)) :: ws) ({ frames := 0, cells := 1, slots := 8, locals := 0 } : Room)) (fun a U => a = #[(.ref a0), (.int (Int32.ofNat C))] ∧ Z.Warmed39 U.vm ∧ U.heap = h0) (fun _ _ _ _ _ => True) (fun _ U o U' => ∃ v L, o = .returned v ∧ (Qo3 Z a0 C M h0 n0) v U'.heap L ∧ FrameEnd U o U' L ({ frames := 0, cells := 1, slots := 8, locals := 0 } : Room).cells ({ frames := 0, cells := 1, slots := 8, locals := 0 } : Room).slots) := by
  refine ofWp (Q := Qo3 Z a0 C M h0 n0) own_pl3 (fun m => own_ef3 m a0) ?_
  intro p e s m below meth c T0 hx hby hml hown hnm hlk hret hZ X0 e0
  change s.vm.findClass "com/example/inverso/inverso/search/DocumentSets" = some m.cls at hown
  have NF0 := Fr.nil n0
  have hM8 : M < 256 := Nat.lt_of_lt_of_le hM (Nat.le_trans (Nat.pow_le_pow_right (by omega) hC) (by decide))
  have F5 := own_F5 ⟨C, by omega⟩ ⟨M, hM8⟩ hM
  dsimp only at F5
  refine Wp.via (fun _ k => XS.iloadN X0.here hx rfl (hb hby own_d3_0) rfl k) ?_
  show Wp p e below _ (T0.setTop (mkF m 1 #[.val (.ref a0), .val (.int (Int32.ofNat C)), .unset, .unset, .unset, .unset] [(.int (Int32.ofNat C))]))
  refine Wp.via (fun _ k => XS.aloadN X0.here hx rfl (hb hby own_d3_1) rfl rfl k) ?_
  show Wp p e below _ (T0.setTop (mkF m 2 #[.val (.ref a0), .val (.int (Int32.ofNat C)), .unset, .unset, .unset, .unset] [(.ref a0), (.int (Int32.ofNat C))]))
  refine Wp.via (fun _ k => avLen X0 hx hZ e0 V0 (z := (Int32.ofNat (own_cnt M 8))) (own_len _) (g := (mkF m 2 #[.val (.ref a0), .val (.int (Int32.ofNat C)), .unset, .unset, .unset, .unset] [(.ref a0), (.int (Int32.ofNat C))])) rfl rfl (hb hby own_d3_2) _ k) ?_
  show Wp p e below _ (T0.setTop (mkF m 3 #[.val (.ref a0), .val (.int (Int32.ofNat C)), .unset, .unset, .unset, .unset] [(.int (Int32.ofNat (own_cnt M 8))), (.int (Int32.ofNat C))]))
  refine Wp.via (fun _ k => XS.isub X0.here hx rfl (hb hby own_d3_3) rfl k) ?_
  show Wp p e below _ (T0.setTop (mkF m 4 #[.val (.ref a0), .val (.int (Int32.ofNat C)), .unset, .unset, .unset, .unset] [(.int ((Int32.ofNat C) - (Int32.ofNat (own_cnt M 8))))]))
  have rw1 : ((Int32.ofNat C) - (Int32.ofNat (own_cnt M 8))) = (Int32.ofNat (C - own_cnt M 8)) := own_sub (by omega) F5.1
  rw [rw1]
  show Wp p e below _ (T0.setTop (mkF m 4 #[.val (.ref a0), .val (.int (Int32.ofNat C)), .unset, .unset, .unset, .unset] [(.int (Int32.ofNat (C - own_cnt M 8)))]))
  obtain ⟨T2, h2, kl2, X2, e2, E2, A2, st2⟩ := newP X0 hx hZ (hw _ (List.mem_of_getElem? (i := 5) rfl)) e0 (g := (mkF m 4 #[.val (.ref a0), .val (.int (Int32.ofNat C)), .unset, .unset, .unset, .unset] [(.int (Int32.ofNat (C - own_cnt M 8)))])) rfl (hb hby own_d3_4) rfl (own_pos (by omega)) (cap := 8) (by rw [own_nat (by omega)]; omega) (by decide) (by decide) (by decide)
  obtain ⟨b2, g2⟩ : ∃ z, z = h0.size := ⟨_, rfl⟩
  rw [← g2] at A2 st2
  have gn_b2 : n0 ≤ b2 := Nat.le_trans Z0 (Nat.le_of_eq g2.symm)
  have sz_b2 : h0.size ≤ b2 := Nat.le_trans (Keep.refl h0 []).1 (Nat.le_of_eq g2.symm)
  have lt_a0_b2 : @LT.lt Nat _ a0 b2 := Nat.lt_of_lt_of_le V0.lt (Nat.le_of_eq g2.symm)
  have ne3 : a0 ≠ b2 := Nat.ne_of_lt lt_a0_b2
  have c4 := V0.ext E2
  have V2 : Av Z h2 b2 .int (C - own_cnt M 8) (fun _ => (.int (0 : Int32))) := Av.new A2 (own_nat (by omega))
  refine Wp.via st2 ?_
  have K2 := (Keep.refl h0 []).ext E2
  have zz5 : n0 ≤ h2.size := Nat.le_trans Z0 E2.1
  show Wp p e below _ (T2.setTop (mkF m 6 #[.val (.ref a0), .val (.int (Int32.ofNat C)), .unset, .unset, .unset, .unset] [(.ref b2)]))
  refine Wp.via (fun _ k => XS.astoreN X2.here hx rfl (hb hby own_d3_6) rfl rfl (l' := #[.val (.ref a0), .val (.int (Int32.ofNat C)), .val (.ref b2), .unset, .unset, .unset]) rfl k) ?_
  show Wp p e below _ (T2.setTop (mkF m 7 #[.val (.ref a0), .val (.int (Int32.ofNat C)), .val (.ref b2), .unset, .unset, .unset] []))
  refine Wp.via (fun _ k => XS.iconst X2.here hx rfl (hb hby own_d3_7) k) ?_
  show Wp p e below _ (T2.setTop (mkF m 8 #[.val (.ref a0), .val (.int (Int32.ofNat C)), .val (.ref b2), .unset, .unset, .unset] [(.int (0 : Int32))]))
  refine Wp.via (fun _ k => XS.istoreN X2.here hx rfl (hb hby own_d3_8) rfl (l' := #[.val (.ref a0), .val (.int (Int32.ofNat C)), .val (.ref b2), .val (.int (0 : Int32)), .unset, .unset]) rfl k) ?_
  show Wp p e below _ (T2.setTop (mkF m 9 #[.val (.ref a0), .val (.int (Int32.ofNat C)), .val (.ref b2), .val (.int (0 : Int32)), .unset, .unset] []))
  refine Wp.via (fun _ k => XS.iconst X2.here hx rfl (hb hby own_d3_9) k) ?_
  show Wp p e below _ (T2.setTop (mkF m 10 #[.val (.ref a0), .val (.int (Int32.ofNat C)), .val (.ref b2), .val (.int (0 : Int32)), .unset, .unset] [(.int (0 : Int32))]))
  refine Wp.via (fun _ k => XS.istore X2.here hx rfl (hb hby own_d3_10) rfl (l' := #[.val (.ref a0), .val (.int (Int32.ofNat C)), .val (.ref b2), .val (.int (0 : Int32)), .val (.int (0 : Int32)), .unset]) rfl k) ?_
  show Wp p e below _ (T2.setTop (mkF m 12 #[.val (.ref a0), .val (.int (Int32.ofNat C)), .val (.ref b2), .val (.int (0 : Int32)), .val (.int (0 : Int32)), .unset] []))
  refine Wp.via (fun _ k => XS.iconst X2.here hx rfl (hb hby own_d3_12) k) ?_
  show Wp p e below _ (T2.setTop (mkF m 13 #[.val (.ref a0), .val (.int (Int32.ofNat C)), .val (.ref b2), .val (.int (0 : Int32)), .val (.int (0 : Int32)), .unset] [(.int (1 : Int32))]))
  refine Wp.via (fun _ k => XS.istore X2.here hx rfl (hb hby own_d3_13) rfl (l' := #[.val (.ref a0), .val (.int (Int32.ofNat C)), .val (.ref b2), .val (.int (0 : Int32)), .val (.int (0 : Int32)), .val (.int (1 : Int32))]) rfl k) ?_
  show Wp p e below _ (T2.setTop (mkF m 15 #[.val (.ref a0), .val (.int (Int32.ofNat C)), .val (.ref b2), .val (.int (0 : Int32)), .val (.int (0 : Int32)), .val (.int (1 : Int32))] []))
  have loop : ∀ (k d : Nat) (T : State) (hh : Heap) (locs : List Loc) (X : Stand p l e ({ frames := 0, cells := 1, slots := 8, locals := 0 } : Room) s m #[(.ref a0), (.int (Int32.ofNat C))] below meth c T locs 1 8) (eT : T.heap = hh) (zh : n0 ≤ hh.size) (NF : Fr n0 locs) (hk : d + k = C) (Kh : Keep h0 hh []) (Va : Av Z hh a0 .int (own_cnt M 8) (fun t => .int (own_A M t))) (Vr : Av Z hh b2 .int (C - own_cnt M 8) (fun t => if t < own_en M C d then .int (own_E M C t) else .int (0 : Int32))), Wp p e below (Gd s (Qo3 Z a0 C M h0 n0) ({ frames := 0, cells := 1, slots := 8, locals := 0 } : Room).cells ({ frames := 0, cells := 1, slots := 8, locals := 0 } : Room).slots) (T.setTop (mkF m 15 #[.val (.ref a0), .val (.int (Int32.ofNat C)), .val (.ref b2), .val (.int (Int32.ofNat (own_en M C d))), .val (.int (Int32.ofNat (own_cnt M d))), .val (.int (Int32.ofNat (d + 1)))] [])) := by
    intro k
    induction k with
    | zero =>
      intro d T hh locs X eT zh NF hk Kh Va Vr
      have bd1 := own_cle M d
      have bd2 := own_ele M C d
      have bd3 := own_cle M 8
      have hd : d = C := by omega
      have hn : ¬ own_en M C d < C - own_cnt M 8 := by rw [hd, F5.2.2]; omega
      refine Wp.via (fun _ k => XS.iloadN X.here hx rfl (hb hby own_d3_15) rfl k) ?_
      show Wp p e below _ (T.setTop (mkF m 16 #[.val (.ref a0), .val (.int (Int32.ofNat C)), .val (.ref b2), .val (.int (Int32.ofNat (own_en M C d))), .val (.int (Int32.ofNat (own_cnt M d))), .val (.int (Int32.ofNat (d + 1)))] [(.int (Int32.ofNat (own_en M C d)))]))
      refine Wp.via (fun _ k => XS.aloadN X.here hx rfl (hb hby own_d3_16) rfl rfl k) ?_
      show Wp p e below _ (T.setTop (mkF m 17 #[.val (.ref a0), .val (.int (Int32.ofNat C)), .val (.ref b2), .val (.int (Int32.ofNat (own_en M C d))), .val (.int (Int32.ofNat (own_cnt M d))), .val (.int (Int32.ofNat (d + 1)))] [(.ref b2), (.int (Int32.ofNat (own_en M C d)))]))
      refine Wp.via (fun _ k => avLen X hx hZ eT Vr (z := (Int32.ofNat (C - own_cnt M 8))) (own_len _) (g := (mkF m 17 #[.val (.ref a0), .val (.int (Int32.ofNat C)), .val (.ref b2), .val (.int (Int32.ofNat (own_en M C d))), .val (.int (Int32.ofNat (own_cnt M d))), .val (.int (Int32.ofNat (d + 1)))] [(.ref b2), (.int (Int32.ofNat (own_en M C d)))])) rfl rfl (hb hby own_d3_17) _ k) ?_
      show Wp p e below _ (T.setTop (mkF m 18 #[.val (.ref a0), .val (.int (Int32.ofNat C)), .val (.ref b2), .val (.int (Int32.ofNat (own_en M C d))), .val (.int (Int32.ofNat (own_cnt M d))), .val (.int (Int32.ofNat (d + 1)))] [(.int (Int32.ofNat (C - own_cnt M 8))), (.int (Int32.ofNat (own_en M C d)))]))
      refine Wp.via (fun _ k => XS.icmpYes X.here hx rfl (pc0 := 18) (pc' := 57) rfl (hb hby own_d3_18) rfl (flt (fun q => hn ((own_lt (by omega) (by omega)).mp q))).2.1 (by decide) (by decide) k) ?_
      show Wp p e below _ (T.setTop (mkF m 57 #[.val (.ref a0), .val (.int (Int32.ofNat C)), .val (.ref b2), .val (.int (Int32.ofNat (own_en M C d))), .val (.int (Int32.ofNat (own_cnt M d))), .val (.int (Int32.ofNat (d + 1)))] []))
      refine Wp.via (fun _ k => XS.aloadN X.here hx rfl (hb hby own_d3_57) rfl rfl k) ?_
      show Wp p e below _ (T.setTop (mkF m 58 #[.val (.ref a0), .val (.int (Int32.ofNat C)), .val (.ref b2), .val (.int (Int32.ofNat (own_en M C d))), .val (.int (Int32.ofNat (own_cnt M d))), .val (.int (Int32.ofNat (d + 1)))] [(.ref b2)]))
      exact Wp.retA X hlk hx hret rfl rfl (hb hby own_d3_58) (by rw [eT]; exact ⟨b2, rfl, NF, Kh, gn_b2, sz_b2, Vr.cong (fun t ht => if_pos (by omega))⟩) (by decide) (by decide)
    | succ k ih =>
      intro d T hh locs X eT zh NF hk Kh Va Vr
      have bd1 := own_cle M d
      have bd2 := own_ele M C d
      have bd3 := own_cle M 8
      by_cases hn : own_en M C d < C - own_cnt M 8
      ·
        refine Wp.via (fun _ k => XS.iloadN X.here hx rfl (hb hby own_d3_15) rfl k) ?_
        show Wp p e below _ (T.setTop (mkF m 16 #[.val (.ref a0), .val (.int (Int32.ofNat C)), .val (.ref b2), .val (.int (Int32.ofNat (own_en M C d))), .val (.int (Int32.ofNat (own_cnt M d))), .val (.int (Int32.ofNat (d + 1)))] [(.int (Int32.ofNat (own_en M C d)))]))
        refine Wp.via (fun _ k => XS.aloadN X.here hx rfl (hb hby own_d3_16) rfl rfl k) ?_
        show Wp p e below _ (T.setTop (mkF m 17 #[.val (.ref a0), .val (.int (Int32.ofNat C)), .val (.ref b2), .val (.int (Int32.ofNat (own_en M C d))), .val (.int (Int32.ofNat (own_cnt M d))), .val (.int (Int32.ofNat (d + 1)))] [(.ref b2), (.int (Int32.ofNat (own_en M C d)))]))
        refine Wp.via (fun _ k => avLen X hx hZ eT Vr (z := (Int32.ofNat (C - own_cnt M 8))) (own_len _) (g := (mkF m 17 #[.val (.ref a0), .val (.int (Int32.ofNat C)), .val (.ref b2), .val (.int (Int32.ofNat (own_en M C d))), .val (.int (Int32.ofNat (own_cnt M d))), .val (.int (Int32.ofNat (d + 1)))] [(.ref b2), (.int (Int32.ofNat (own_en M C d)))])) rfl rfl (hb hby own_d3_17) _ k) ?_
        show Wp p e below _ (T.setTop (mkF m 18 #[.val (.ref a0), .val (.int (Int32.ofNat C)), .val (.ref b2), .val (.int (Int32.ofNat (own_en M C d))), .val (.int (Int32.ofNat (own_cnt M d))), .val (.int (Int32.ofNat (d + 1)))] [(.int (Int32.ofNat (C - own_cnt M 8))), (.int (Int32.ofNat (own_en M C d)))]))
        refine Wp.via (fun _ k => XS.icmpNo X.here hx rfl (hb hby own_d3_18) rfl (tlt ((own_lt (by omega) (by omega)).mpr hn)).2.1 k) ?_
        show Wp p e below _ (T.setTop (mkF m 21 #[.val (.ref a0), .val (.int (Int32.ofNat C)), .val (.ref b2), .val (.int (Int32.ofNat (own_en M C d))), .val (.int (Int32.ofNat (own_cnt M d))), .val (.int (Int32.ofNat (d + 1)))] []))
        refine Wp.via (fun _ k => XS.iload X.here hx rfl (hb hby own_d3_21) rfl k) ?_
        show Wp p e below _ (T.setTop (mkF m 23 #[.val (.ref a0), .val (.int (Int32.ofNat C)), .val (.ref b2), .val (.int (Int32.ofNat (own_en M C d))), .val (.int (Int32.ofNat (own_cnt M d))), .val (.int (Int32.ofNat (d + 1)))] [(.int (Int32.ofNat (own_cnt M d)))]))
        refine Wp.via (fun _ k => XS.aloadN X.here hx rfl (hb hby own_d3_23) rfl rfl k) ?_
        show Wp p e below _ (T.setTop (mkF m 24 #[.val (.ref a0), .val (.int (Int32.ofNat C)), .val (.ref b2), .val (.int (Int32.ofNat (own_en M C d))), .val (.int (Int32.ofNat (own_cnt M d))), .val (.int (Int32.ofNat (d + 1)))] [(.ref a0), (.int (Int32.ofNat (own_cnt M d)))]))
        refine Wp.via (fun _ k => avLen X hx hZ eT Va (z := (Int32.ofNat (own_cnt M 8))) (own_len _) (g := (mkF m 24 #[.val (.ref a0), .val (.int (Int32.ofNat C)), .val (.ref b2), .val (.int (Int32.ofNat (own_en M C d))), .val (.int (Int32.ofNat (own_cnt M d))), .val (.int (Int32.ofNat (d + 1)))] [(.ref a0), (.int (Int32.ofNat (own_cnt M d)))])) rfl rfl (hb hby own_d3_24) _ k) ?_
        show Wp p e below _ (T.setTop (mkF m 25 #[.val (.ref a0), .val (.int (Int32.ofNat C)), .val (.ref b2), .val (.int (Int32.ofNat (own_en M C d))), .val (.int (Int32.ofNat (own_cnt M d))), .val (.int (Int32.ofNat (d + 1)))] [(.int (Int32.ofNat (own_cnt M 8))), (.int (Int32.ofNat (own_cnt M d)))]))
        by_cases hbt : M.testBit d = true
        ·
          obtain ⟨A1, A2⟩ := own_F1 ⟨M, hM8⟩ ⟨d, by omega⟩ hbt
          dsimp only at A1 A2
          refine Wp.via (fun _ k => XS.icmpNo X.here hx rfl (hb hby own_d3_25) rfl (tlt ((own_lt (by omega) (by omega)).mpr A2)).2.1 k) ?_
          show Wp p e below _ (T.setTop (mkF m 28 #[.val (.ref a0), .val (.int (Int32.ofNat C)), .val (.ref b2), .val (.int (Int32.ofNat (own_en M C d))), .val (.int (Int32.ofNat (own_cnt M d))), .val (.int (Int32.ofNat (d + 1)))] []))
          refine Wp.via (fun _ k => XS.aloadN X.here hx rfl (hb hby own_d3_28) rfl rfl k) ?_
          show Wp p e below _ (T.setTop (mkF m 29 #[.val (.ref a0), .val (.int (Int32.ofNat C)), .val (.ref b2), .val (.int (Int32.ofNat (own_en M C d))), .val (.int (Int32.ofNat (own_cnt M d))), .val (.int (Int32.ofNat (d + 1)))] [(.ref a0)]))
          refine Wp.via (fun _ k => XS.iload X.here hx rfl (hb hby own_d3_29) rfl k) ?_
          show Wp p e below _ (T.setTop (mkF m 31 #[.val (.ref a0), .val (.int (Int32.ofNat C)), .val (.ref b2), .val (.int (Int32.ofNat (own_en M C d))), .val (.int (Int32.ofNat (own_cnt M d))), .val (.int (Int32.ofNat (d + 1)))] [(.int (Int32.ofNat (own_cnt M d))), (.ref a0)]))
          refine Wp.via (fun _ k => avLdI X hx hZ eT Va (i := (own_cnt M d)) (own_pos (by omega)) (own_nat (by omega)) A2 (w := (.int (own_A M (own_cnt M d)))) rfl (g := (mkF m 31 #[.val (.ref a0), .val (.int (Int32.ofNat C)), .val (.ref b2), .val (.int (Int32.ofNat (own_en M C d))), .val (.int (Int32.ofNat (own_cnt M d))), .val (.int (Int32.ofNat (d + 1)))] [(.int (Int32.ofNat (own_cnt M d))), (.ref a0)])) rfl rfl (hb hby own_d3_31) _ k) ?_
          show Wp p e below _ (T.setTop (mkF m 32 #[.val (.ref a0), .val (.int (Int32.ofNat C)), .val (.ref b2), .val (.int (Int32.ofNat (own_en M C d))), .val (.int (Int32.ofNat (own_cnt M d))), .val (.int (Int32.ofNat (d + 1)))] [(.int (own_A M (own_cnt M d)))]))
          refine Wp.via (fun _ k => XS.iload X.here hx rfl (hb hby own_d3_32) rfl k) ?_
          show Wp p e below _ (T.setTop (mkF m 34 #[.val (.ref a0), .val (.int (Int32.ofNat C)), .val (.ref b2), .val (.int (Int32.ofNat (own_en M C d))), .val (.int (Int32.ofNat (own_cnt M d))), .val (.int (Int32.ofNat (d + 1)))] [(.int (Int32.ofNat (d + 1))), (.int (own_A M (own_cnt M d)))]))
          refine Wp.via (fun _ k => XS.icmpNo X.here hx rfl (hb hby own_d3_34) rfl (teq A1).2 k) ?_
          show Wp p e below _ (T.setTop (mkF m 37 #[.val (.ref a0), .val (.int (Int32.ofNat C)), .val (.ref b2), .val (.int (Int32.ofNat (own_en M C d))), .val (.int (Int32.ofNat (own_cnt M d))), .val (.int (Int32.ofNat (d + 1)))] []))
          refine Wp.via (fun _ k => XS.iinc X.here hx rfl (hb hby own_d3_37) rfl (l' := #[.val (.ref a0), .val (.int (Int32.ofNat C)), .val (.ref b2), .val (.int (Int32.ofNat (own_en M C d))), .val (.int ((Int32.ofNat (own_cnt M d)) + (1 : Int32))), .val (.int (Int32.ofNat (d + 1)))]) rfl k) ?_
          show Wp p e below _ (T.setTop (mkF m 40 #[.val (.ref a0), .val (.int (Int32.ofNat C)), .val (.ref b2), .val (.int (Int32.ofNat (own_en M C d))), .val (.int ((Int32.ofNat (own_cnt M d)) + (1 : Int32))), .val (.int (Int32.ofNat (d + 1)))] []))
          refine Wp.via (fun _ k => XS.goto X.here hx rfl (pc0 := 40) (pc' := 51) rfl (hb hby own_d3_40) (by decide) (by decide) k) ?_
          show Wp p e below _ (T.setTop (mkF m 51 #[.val (.ref a0), .val (.int (Int32.ofNat C)), .val (.ref b2), .val (.int (Int32.ofNat (own_en M C d))), .val (.int ((Int32.ofNat (own_cnt M d)) + (1 : Int32))), .val (.int (Int32.ofNat (d + 1)))] []))
          refine Wp.via (fun _ k => XS.iinc X.here hx rfl (hb hby own_d3_51) rfl (l' := #[.val (.ref a0), .val (.int (Int32.ofNat C)), .val (.ref b2), .val (.int (Int32.ofNat (own_en M C d))), .val (.int ((Int32.ofNat (own_cnt M d)) + (1 : Int32))), .val (.int ((Int32.ofNat (d + 1)) + (1 : Int32)))]) rfl k) ?_
          show Wp p e below _ (T.setTop (mkF m 54 #[.val (.ref a0), .val (.int (Int32.ofNat C)), .val (.ref b2), .val (.int (Int32.ofNat (own_en M C d))), .val (.int ((Int32.ofNat (own_cnt M d)) + (1 : Int32))), .val (.int ((Int32.ofNat (d + 1)) + (1 : Int32)))] []))
          refine Wp.via (fun _ k => XS.goto X.here hx rfl (pc0 := 54) (pc' := 15) rfl (hb hby own_d3_54) (by decide) (by decide) k) ?_
          show Wp p e below _ (T.setTop (mkF m 15 #[.val (.ref a0), .val (.int (Int32.ofNat C)), .val (.ref b2), .val (.int (Int32.ofNat (own_en M C d))), .val (.int ((Int32.ofNat (own_cnt M d)) + (1 : Int32))), .val (.int ((Int32.ofNat (d + 1)) + (1 : Int32)))] []))
          have rw6 : ((Int32.ofNat (own_cnt M d)) + (1 : Int32)) = (Int32.ofNat (own_cnt M (d + 1))) := by rw [own_succ]; simp [own_cnt, hbt]
          rw [rw6]
          show Wp p e below _ (T.setTop (mkF m 15 #[.val (.ref a0), .val (.int (Int32.ofNat C)), .val (.ref b2), .val (.int (Int32.ofNat (own_en M C d))), .val (.int (Int32.ofNat (own_cnt M (d + 1)))), .val (.int ((Int32.ofNat (d + 1)) + (1 : Int32)))] []))
          have rw7 : ((Int32.ofNat (d + 1)) + (1 : Int32)) = (Int32.ofNat (d + 1 + 1)) := own_succ _
          rw [rw7]
          show Wp p e below _ (T.setTop (mkF m 15 #[.val (.ref a0), .val (.int (Int32.ofNat C)), .val (.ref b2), .val (.int (Int32.ofNat (own_en M C d))), .val (.int (Int32.ofNat (own_cnt M (d + 1)))), .val (.int (Int32.ofNat (d + 1 + 1)))] []))
          have eq3 : own_en M C (d + 1) = own_en M C d := by simp [own_en, hbt]
          rw [← eq3]
          exact ih (d + 1) T hh locs X eT zh NF (by omega) Kh Va (by rw [eq3]; exact Vr)
        ·
          have hbf : M.testBit d = false := by simpa using hbt
          obtain ⟨E1, E2⟩ := own_F2 ⟨C, by omega⟩ ⟨M, hM8⟩ hM ⟨d, by omega⟩ (by show d < C; omega) hbf
          dsimp only at E1 E2
          by_cases hj : own_cnt M d < own_cnt M 8
          ·
            refine Wp.via (fun _ k => XS.icmpNo X.here hx rfl (hb hby own_d3_25) rfl (tlt ((own_lt (by omega) (by omega)).mpr hj)).2.1 k) ?_
            show Wp p e below _ (T.setTop (mkF m 28 #[.val (.ref a0), .val (.int (Int32.ofNat C)), .val (.ref b2), .val (.int (Int32.ofNat (own_en M C d))), .val (.int (Int32.ofNat (own_cnt M d))), .val (.int (Int32.ofNat (d + 1)))] []))
            refine Wp.via (fun _ k => XS.aloadN X.here hx rfl (hb hby own_d3_28) rfl rfl k) ?_
            show Wp p e below _ (T.setTop (mkF m 29 #[.val (.ref a0), .val (.int (Int32.ofNat C)), .val (.ref b2), .val (.int (Int32.ofNat (own_en M C d))), .val (.int (Int32.ofNat (own_cnt M d))), .val (.int (Int32.ofNat (d + 1)))] [(.ref a0)]))
            refine Wp.via (fun _ k => XS.iload X.here hx rfl (hb hby own_d3_29) rfl k) ?_
            show Wp p e below _ (T.setTop (mkF m 31 #[.val (.ref a0), .val (.int (Int32.ofNat C)), .val (.ref b2), .val (.int (Int32.ofNat (own_en M C d))), .val (.int (Int32.ofNat (own_cnt M d))), .val (.int (Int32.ofNat (d + 1)))] [(.int (Int32.ofNat (own_cnt M d))), (.ref a0)]))
            refine Wp.via (fun _ k => avLdI X hx hZ eT Va (i := (own_cnt M d)) (own_pos (by omega)) (own_nat (by omega)) hj (w := (.int (own_A M (own_cnt M d)))) rfl (g := (mkF m 31 #[.val (.ref a0), .val (.int (Int32.ofNat C)), .val (.ref b2), .val (.int (Int32.ofNat (own_en M C d))), .val (.int (Int32.ofNat (own_cnt M d))), .val (.int (Int32.ofNat (d + 1)))] [(.int (Int32.ofNat (own_cnt M d))), (.ref a0)])) rfl rfl (hb hby own_d3_31) _ k) ?_
            show Wp p e below _ (T.setTop (mkF m 32 #[.val (.ref a0), .val (.int (Int32.ofNat C)), .val (.ref b2), .val (.int (Int32.ofNat (own_en M C d))), .val (.int (Int32.ofNat (own_cnt M d))), .val (.int (Int32.ofNat (d + 1)))] [(.int (own_A M (own_cnt M d)))]))
            refine Wp.via (fun _ k => XS.iload X.here hx rfl (hb hby own_d3_32) rfl k) ?_
            show Wp p e below _ (T.setTop (mkF m 34 #[.val (.ref a0), .val (.int (Int32.ofNat C)), .val (.ref b2), .val (.int (Int32.ofNat (own_en M C d))), .val (.int (Int32.ofNat (own_cnt M d))), .val (.int (Int32.ofNat (d + 1)))] [(.int (Int32.ofNat (d + 1))), (.int (own_A M (own_cnt M d)))]))
            refine Wp.via (fun _ k => XS.icmpYes X.here hx rfl (pc0 := 34) (pc' := 43) rfl (hb hby own_d3_34) rfl (feq (own_F3 ⟨M, hM8⟩ ⟨d, by omega⟩ hbf hj)).2 (by decide) (by decide) k) ?_
            show Wp p e below _ (T.setTop (mkF m 43 #[.val (.ref a0), .val (.int (Int32.ofNat C)), .val (.ref b2), .val (.int (Int32.ofNat (own_en M C d))), .val (.int (Int32.ofNat (own_cnt M d))), .val (.int (Int32.ofNat (d + 1)))] []))
            refine Wp.via (fun _ k => XS.aloadN X.here hx rfl (hb hby own_d3_43) rfl rfl k) ?_
            show Wp p e below _ (T.setTop (mkF m 44 #[.val (.ref a0), .val (.int (Int32.ofNat C)), .val (.ref b2), .val (.int (Int32.ofNat (own_en M C d))), .val (.int (Int32.ofNat (own_cnt M d))), .val (.int (Int32.ofNat (d + 1)))] [(.ref b2)]))
            refine Wp.via (fun _ k => XS.iloadN X.here hx rfl (hb hby own_d3_44) rfl k) ?_
            show Wp p e below _ (T.setTop (mkF m 45 #[.val (.ref a0), .val (.int (Int32.ofNat C)), .val (.ref b2), .val (.int (Int32.ofNat (own_en M C d))), .val (.int (Int32.ofNat (own_cnt M d))), .val (.int (Int32.ofNat (d + 1)))] [(.int (Int32.ofNat (own_en M C d))), (.ref b2)]))
            refine Wp.via (fun _ k => XS.iinc X.here hx rfl (hb hby own_d3_45) rfl (l' := #[.val (.ref a0), .val (.int (Int32.ofNat C)), .val (.ref b2), .val (.int ((Int32.ofNat (own_en M C d)) + (1 : Int32))), .val (.int (Int32.ofNat (own_cnt M d))), .val (.int (Int32.ofNat (d + 1)))]) rfl k) ?_
            show Wp p e below _ (T.setTop (mkF m 48 #[.val (.ref a0), .val (.int (Int32.ofNat C)), .val (.ref b2), .val (.int ((Int32.ofNat (own_en M C d)) + (1 : Int32))), .val (.int (Int32.ofNat (own_cnt M d))), .val (.int (Int32.ofNat (d + 1)))] [(.int (Int32.ofNat (own_en M C d))), (.ref b2)]))
            refine Wp.via (fun _ k => XS.iload X.here hx rfl (hb hby own_d3_48) rfl k) ?_
            show Wp p e below _ (T.setTop (mkF m 50 #[.val (.ref a0), .val (.int (Int32.ofNat C)), .val (.ref b2), .val (.int ((Int32.ofNat (own_en M C d)) + (1 : Int32))), .val (.int (Int32.ofNat (own_cnt M d))), .val (.int (Int32.ofNat (d + 1)))] [(.int (Int32.ofNat (d + 1))), (.int (Int32.ofNat (own_en M C d))), (.ref b2)]))
            obtain ⟨T8, h8, X8, e8, W8, V8, st8⟩ := avStI X hx hZ eT Vr (i := (own_en M C d)) (own_pos (by omega)) (own_nat (by omega)) E2 (g := (mkF m 50 #[.val (.ref a0), .val (.int (Int32.ofNat C)), .val (.ref b2), .val (.int ((Int32.ofNat (own_en M C d)) + (1 : Int32))), .val (.int (Int32.ofNat (own_cnt M d))), .val (.int (Int32.ofNat (d + 1)))] [(.int (Int32.ofNat (d + 1))), (.int (Int32.ofNat (own_en M C d))), (.ref b2)])) rfl rfl (hb hby own_d3_50)
            have NF8 := Fr.snoc X8 NF gn_b2
            refine Wp.via st8 ?_
            have K8 := Kh.wr W8 (Or.inr sz_b2)
            have zz9 : n0 ≤ h8.size := by rw [W8.size]; exact zh
            have c10 := Va.other W8 ne3
            show Wp p e below _ (T8.setTop (mkF m 51 #[.val (.ref a0), .val (.int (Int32.ofNat C)), .val (.ref b2), .val (.int ((Int32.ofNat (own_en M C d)) + (1 : Int32))), .val (.int (Int32.ofNat (own_cnt M d))), .val (.int (Int32.ofNat (d + 1)))] []))
            refine Wp.via (fun _ k => XS.iinc X8.here hx rfl (hb hby own_d3_51) rfl (l' := #[.val (.ref a0), .val (.int (Int32.ofNat C)), .val (.ref b2), .val (.int ((Int32.ofNat (own_en M C d)) + (1 : Int32))), .val (.int (Int32.ofNat (own_cnt M d))), .val (.int ((Int32.ofNat (d + 1)) + (1 : Int32)))]) rfl k) ?_
            show Wp p e below _ (T8.setTop (mkF m 54 #[.val (.ref a0), .val (.int (Int32.ofNat C)), .val (.ref b2), .val (.int ((Int32.ofNat (own_en M C d)) + (1 : Int32))), .val (.int (Int32.ofNat (own_cnt M d))), .val (.int ((Int32.ofNat (d + 1)) + (1 : Int32)))] []))
            refine Wp.via (fun _ k => XS.goto X8.here hx rfl (pc0 := 54) (pc' := 15) rfl (hb hby own_d3_54) (by decide) (by decide) k) ?_
            show Wp p e below _ (T8.setTop (mkF m 15 #[.val (.ref a0), .val (.int (Int32.ofNat C)), .val (.ref b2), .val (.int ((Int32.ofNat (own_en M C d)) + (1 : Int32))), .val (.int (Int32.ofNat (own_cnt M d))), .val (.int ((Int32.ofNat (d + 1)) + (1 : Int32)))] []))
            have rw11 : ((Int32.ofNat (own_en M C d)) + (1 : Int32)) = (Int32.ofNat (own_en M C (d + 1))) := by rw [own_succ]; simp [own_en, hbf, (by omega : d < C)]
            rw [rw11]
            show Wp p e below _ (T8.setTop (mkF m 15 #[.val (.ref a0), .val (.int (Int32.ofNat C)), .val (.ref b2), .val (.int (Int32.ofNat (own_en M C (d + 1)))), .val (.int (Int32.ofNat (own_cnt M d))), .val (.int ((Int32.ofNat (d + 1)) + (1 : Int32)))] []))
            have rw12 : ((Int32.ofNat (d + 1)) + (1 : Int32)) = (Int32.ofNat (d + 1 + 1)) := own_succ _
            rw [rw12]
            show Wp p e below _ (T8.setTop (mkF m 15 #[.val (.ref a0), .val (.int (Int32.ofNat C)), .val (.ref b2), .val (.int (Int32.ofNat (own_en M C (d + 1)))), .val (.int (Int32.ofNat (own_cnt M d))), .val (.int (Int32.ofNat (d + 1 + 1)))] []))
            have eq3 : own_cnt M (d + 1) = own_cnt M d := by simp [own_cnt, hbf]
            rw [← eq3]
            exact ih (d + 1) T8 _ _ X8 e8 zz9 NF8 (by omega) K8 c10 (V8.cong (fun t ht => own_stE M C d t _ (by omega) hbf E1))
          ·
            refine Wp.via (fun _ k => XS.icmpYes X.here hx rfl (pc0 := 25) (pc' := 43) rfl (hb hby own_d3_25) rfl (flt (fun q => hj ((own_lt (by omega) (by omega)).mp q))).2.1 (by decide) (by decide) k) ?_
            show Wp p e below _ (T.setTop (mkF m 43 #[.val (.ref a0), .val (.int (Int32.ofNat C)), .val (.ref b2), .val (.int (Int32.ofNat (own_en M C d))), .val (.int (Int32.ofNat (own_cnt M d))), .val (.int (Int32.ofNat (d + 1)))] []))
            refine Wp.via (fun _ k => XS.aloadN X.here hx rfl (hb hby own_d3_43) rfl rfl k) ?_
            show Wp p e below _ (T.setTop (mkF m 44 #[.val (.ref a0), .val (.int (Int32.ofNat C)), .val (.ref b2), .val (.int (Int32.ofNat (own_en M C d))), .val (.int (Int32.ofNat (own_cnt M d))), .val (.int (Int32.ofNat (d + 1)))] [(.ref b2)]))
            refine Wp.via (fun _ k => XS.iloadN X.here hx rfl (hb hby own_d3_44) rfl k) ?_
            show Wp p e below _ (T.setTop (mkF m 45 #[.val (.ref a0), .val (.int (Int32.ofNat C)), .val (.ref b2), .val (.int (Int32.ofNat (own_en M C d))), .val (.int (Int32.ofNat (own_cnt M d))), .val (.int (Int32.ofNat (d + 1)))] [(.int (Int32.ofNat (own_en M C d))), (.ref b2)]))
            refine Wp.via (fun _ k => XS.iinc X.here hx rfl (hb hby own_d3_45) rfl (l' := #[.val (.ref a0), .val (.int (Int32.ofNat C)), .val (.ref b2), .val (.int ((Int32.ofNat (own_en M C d)) + (1 : Int32))), .val (.int (Int32.ofNat (own_cnt M d))), .val (.int (Int32.ofNat (d + 1)))]) rfl k) ?_
            show Wp p e below _ (T.setTop (mkF m 48 #[.val (.ref a0), .val (.int (Int32.ofNat C)), .val (.ref b2), .val (.int ((Int32.ofNat (own_en M C d)) + (1 : Int32))), .val (.int (Int32.ofNat (own_cnt M d))), .val (.int (Int32.ofNat (d + 1)))] [(.int (Int32.ofNat (own_en M C d))), (.ref b2)]))
            refine Wp.via (fun _ k => XS.iload X.here hx rfl (hb hby own_d3_48) rfl k) ?_
            show Wp p e below _ (T.setTop (mkF m 50 #[.val (.ref a0), .val (.int (Int32.ofNat C)), .val (.ref b2), .val (.int ((Int32.ofNat (own_en M C d)) + (1 : Int32))), .val (.int (Int32.ofNat (own_cnt M d))), .val (.int (Int32.ofNat (d + 1)))] [(.int (Int32.ofNat (d + 1))), (.int (Int32.ofNat (own_en M C d))), (.ref b2)]))
            obtain ⟨T13, h13, X13, e13, W13, V13, st13⟩ := avStI X hx hZ eT Vr (i := (own_en M C d)) (own_pos (by omega)) (own_nat (by omega)) E2 (g := (mkF m 50 #[.val (.ref a0), .val (.int (Int32.ofNat C)), .val (.ref b2), .val (.int ((Int32.ofNat (own_en M C d)) + (1 : Int32))), .val (.int (Int32.ofNat (own_cnt M d))), .val (.int (Int32.ofNat (d + 1)))] [(.int (Int32.ofNat (d + 1))), (.int (Int32.ofNat (own_en M C d))), (.ref b2)])) rfl rfl (hb hby own_d3_50)
            have NF13 := Fr.snoc X13 NF gn_b2
            refine Wp.via st13 ?_
            have K13 := Kh.wr W13 (Or.inr sz_b2)
            have zz14 : n0 ≤ h13.size := by rw [W13.size]; exact zh
            have c15 := Va.other W13 ne3
            show Wp p e below _ (T13.setTop (mkF m 51 #[.val (.ref a0), .val (.int (Int32.ofNat C)), .val (.ref b2), .val (.int ((Int32.ofNat (own_en M C d)) + (1 : Int32))), .val (.int (Int32.ofNat (own_cnt M d))), .val (.int (Int32.ofNat (d + 1)))] []))
            refine Wp.via (fun _ k => XS.iinc X13.here hx rfl (hb hby own_d3_51) rfl (l' := #[.val (.ref a0), .val (.int (Int32.ofNat C)), .val (.ref b2), .val (.int ((Int32.ofNat (own_en M C d)) + (1 : Int32))), .val (.int (Int32.ofNat (own_cnt M d))), .val (.int ((Int32.ofNat (d + 1)) + (1 : Int32)))]) rfl k) ?_
            show Wp p e below _ (T13.setTop (mkF m 54 #[.val (.ref a0), .val (.int (Int32.ofNat C)), .val (.ref b2), .val (.int ((Int32.ofNat (own_en M C d)) + (1 : Int32))), .val (.int (Int32.ofNat (own_cnt M d))), .val (.int ((Int32.ofNat (d + 1)) + (1 : Int32)))] []))
            refine Wp.via (fun _ k => XS.goto X13.here hx rfl (pc0 := 54) (pc' := 15) rfl (hb hby own_d3_54) (by decide) (by decide) k) ?_
            show Wp p e below _ (T13.setTop (mkF m 15 #[.val (.ref a0), .val (.int (Int32.ofNat C)), .val (.ref b2), .val (.int ((Int32.ofNat (own_en M C d)) + (1 : Int32))), .val (.int (Int32.ofNat (own_cnt M d))), .val (.int ((Int32.ofNat (d + 1)) + (1 : Int32)))] []))
            have rw16 : ((Int32.ofNat (own_en M C d)) + (1 : Int32)) = (Int32.ofNat (own_en M C (d + 1))) := by rw [own_succ]; simp [own_en, hbf, (by omega : d < C)]
            rw [rw16]
            show Wp p e below _ (T13.setTop (mkF m 15 #[.val (.ref a0), .val (.int (Int32.ofNat C)), .val (.ref b2), .val (.int (Int32.ofNat (own_en M C (d + 1)))), .val (.int (Int32.ofNat (own_cnt M d))), .val (.int ((Int32.ofNat (d + 1)) + (1 : Int32)))] []))
            have rw17 : ((Int32.ofNat (d + 1)) + (1 : Int32)) = (Int32.ofNat (d + 1 + 1)) := own_succ _
            rw [rw17]
            show Wp p e below _ (T13.setTop (mkF m 15 #[.val (.ref a0), .val (.int (Int32.ofNat C)), .val (.ref b2), .val (.int (Int32.ofNat (own_en M C (d + 1)))), .val (.int (Int32.ofNat (own_cnt M d))), .val (.int (Int32.ofNat (d + 1 + 1)))] []))
            have eq3 : own_cnt M (d + 1) = own_cnt M d := by simp [own_cnt, hbf]
            rw [← eq3]
            exact ih (d + 1) T13 _ _ X13 e13 zz14 NF13 (by omega) K13 c15 (V13.cong (fun t ht => own_stE M C d t _ (by omega) hbf E1))
      ·
        refine Wp.via (fun _ k => XS.iloadN X.here hx rfl (hb hby own_d3_15) rfl k) ?_
        show Wp p e below _ (T.setTop (mkF m 16 #[.val (.ref a0), .val (.int (Int32.ofNat C)), .val (.ref b2), .val (.int (Int32.ofNat (own_en M C d))), .val (.int (Int32.ofNat (own_cnt M d))), .val (.int (Int32.ofNat (d + 1)))] [(.int (Int32.ofNat (own_en M C d)))]))
        refine Wp.via (fun _ k => XS.aloadN X.here hx rfl (hb hby own_d3_16) rfl rfl k) ?_
        show Wp p e below _ (T.setTop (mkF m 17 #[.val (.ref a0), .val (.int (Int32.ofNat C)), .val (.ref b2), .val (.int (Int32.ofNat (own_en M C d))), .val (.int (Int32.ofNat (own_cnt M d))), .val (.int (Int32.ofNat (d + 1)))] [(.ref b2), (.int (Int32.ofNat (own_en M C d)))]))
        refine Wp.via (fun _ k => avLen X hx hZ eT Vr (z := (Int32.ofNat (C - own_cnt M 8))) (own_len _) (g := (mkF m 17 #[.val (.ref a0), .val (.int (Int32.ofNat C)), .val (.ref b2), .val (.int (Int32.ofNat (own_en M C d))), .val (.int (Int32.ofNat (own_cnt M d))), .val (.int (Int32.ofNat (d + 1)))] [(.ref b2), (.int (Int32.ofNat (own_en M C d)))])) rfl rfl (hb hby own_d3_17) _ k) ?_
        show Wp p e below _ (T.setTop (mkF m 18 #[.val (.ref a0), .val (.int (Int32.ofNat C)), .val (.ref b2), .val (.int (Int32.ofNat (own_en M C d))), .val (.int (Int32.ofNat (own_cnt M d))), .val (.int (Int32.ofNat (d + 1)))] [(.int (Int32.ofNat (C - own_cnt M 8))), (.int (Int32.ofNat (own_en M C d)))]))
        refine Wp.via (fun _ k => XS.icmpYes X.here hx rfl (pc0 := 18) (pc' := 57) rfl (hb hby own_d3_18) rfl (flt (fun q => hn ((own_lt (by omega) (by omega)).mp q))).2.1 (by decide) (by decide) k) ?_
        show Wp p e below _ (T.setTop (mkF m 57 #[.val (.ref a0), .val (.int (Int32.ofNat C)), .val (.ref b2), .val (.int (Int32.ofNat (own_en M C d))), .val (.int (Int32.ofNat (own_cnt M d))), .val (.int (Int32.ofNat (d + 1)))] []))
        refine Wp.via (fun _ k => XS.aloadN X.here hx rfl (hb hby own_d3_57) rfl rfl k) ?_
        show Wp p e below _ (T.setTop (mkF m 58 #[.val (.ref a0), .val (.int (Int32.ofNat C)), .val (.ref b2), .val (.int (Int32.ofNat (own_en M C d))), .val (.int (Int32.ofNat (own_cnt M d))), .val (.int (Int32.ofNat (d + 1)))] [(.ref b2)]))
        exact Wp.retA X hlk hx hret rfl rfl (hb hby own_d3_58) (by rw [eT]; exact ⟨b2, rfl, NF, Kh, gn_b2, sz_b2, Vr.cong (fun t ht => if_pos (by omega))⟩) (by decide) (by decide)
  exact loop C 0 T2 _ _ X2 e2 zz5 NF0 (by omega) K2 c4 (V2.cong (fun t ht => (if_neg (by show ¬ t < 0; omega)).symm))
theorem own_pd0 : parseMethodDescriptor "(II)I" = some ⟨[.int, .int], some .int⟩ := by decide +kernel
theorem own_pd1 : parseMethodDescriptor "([IIIZ)I" = some ⟨[(.array .int), .int, .int, .boolean], some .int⟩ := by decide +kernel
theorem own_pd2 : parseMethodDescriptor "([II)[I" = some ⟨[(.array .int), .int], some (.array .int)⟩ := by decide +kernel
theorem own_pd3 : parseMethodDescriptor "([I[I)Z" = some ⟨[(.array .int), (.array .int)], some .boolean⟩ := by decide +kernel
theorem own_pl0 : plainFor (⟨"com/example/inverso/inverso/search/DocumentSetsComplementPinLaw", "law", "(II)Z"⟩ : MethodName) = true := plainFor_of_name (by first | (simp [plainName, overriddenIn]; done) | decide +kernel)
theorem own_ef0 (m : MethodId) (p0 : Int32) (p1 : Int32) : entryFrame m #[(.int p0), (.int p1)] maxLocals = mkF m 0 #[.val (.int p0), .val (.int p1), .unset, .unset, .unset, .unset, .unset, .unset, .unset, .unset] [] := by first | (simp [entryFrame, mkF, argsToLocals, Value.category, maxLocals]; done) | rfl
def Qo0 (Z : State) (p0 : Int32) (p1 : Int32)  (h0 : Heap) (n0 : Nat) (v : Option Value) (h : Heap) (L : List Loc) : Prop := v = some (.int 1) ∧ Fr n0 L
set_option maxRecDepth 65536 in
set_option maxHeartbeats 40000000 in
theorem rm0 (l : Launch) (Z : State) (aw : Array Value) (hw : ∀ d ∈ tables_1, d.before aw Z = true) (ws : List Jvm.Cond) (p0 : Int32) (p1 : Int32)  (h0 : Heap) (n0 : Nat) (Z0 : n0 ≤ h0.size)  :
    MetFree l x (head1 (Jvm.Cond.code x code maxLocals ret :: ws) room_1) (fun a U => a = #[(.int p0), (.int p1)] ∧ Z.Warmed39 U.vm ∧ U.heap = h0) (fun _ _ _ _ _ => True) (fun _ U o U' => ∃ v L, o = .returned v ∧ (Qo0 Z p0 p1 h0 n0) v U'.heap L ∧ FrameEnd U o U' L 16 128) := by
  refine ofWp (Q := Qo0 Z p0 p1 h0 n0) own_pl0 (fun m => own_ef0 m p0 p1) ?_
  intro p e s m below meth c T0 hx hby hml hown hnm hlk hret hZ X0 e0
  change s.vm.findClass "com/example/inverso/inverso/search/DocumentSetsComplementPinLaw" = some m.cls at hown
  have NF0 := Fr.nil n0
  have J16 : ∀ (T : State) (hh : Heap) (locs : List Loc) (X : Stand p l e room_1 s m #[(.int p0), (.int p1)] below meth c T locs 0 0) (eT : T.heap = hh) (zh : n0 ≤ hh.size) (NF : Fr n0 locs) (C M : Nat) (hC : C ≤ 8) (hM : M < 2 ^ C), Wp p e below (Gd s (Qo0 Z p0 p1 h0 n0) 16 128) (T.setTop (mkF m 16 #[.val (.int p0), .val (.int p1), .val (.int (Int32.ofNat C)), .val (.int (Int32.ofNat M)), .unset, .unset, .unset, .unset, .unset, .unset] [])) := by
    intro T hh locs X eT zh NF C M hC hM
    have hM8 : M < 256 := Nat.lt_of_lt_of_le hM (Nat.le_trans (Nat.pow_le_pow_right (by omega) hC) (by decide))
    have F5 := own_F5 ⟨C, by omega⟩ ⟨M, hM8⟩ hM
    dsimp only at F5
    have bd3 := own_cle M 8
    have J2_8 : ∀ (T : State) (hh : Heap) (locs : List Loc) (X : Stand p l e room_1 s m #[(.int p0), (.int p1)] below meth c T locs 2 16) (eT : T.heap = hh) (zh : n0 ≤ hh.size) (NF : Fr n0 locs) (ar er : Addr) (gna : n0 ≤ ar) (gne : n0 ≤ er) (nae : ar ≠ er) (Va : Av Z hh ar .int (own_cnt M 8) (fun t => if t < own_cnt M 8 then .int (own_A M t) else .int (0 : Int32))) (Ve : Av Z hh er .int (C - own_cnt M 8) (fun t => if t < own_en M C 8 then .int (own_E M C t) else .int (0 : Int32))), Wp p e below (Gd s (Qo0 Z p0 p1 h0 n0) 16 128) (T.setTop (mkF m 519 #[.val (.int p0), .val (.int p1), .val (.int (Int32.ofNat C)), .val (.int (Int32.ofNat M)), .val (.int (Int32.ofNat (own_cnt M 8))), .val (.ref ar), .val (.int (Int32.ofNat (own_cnt M 8))), .val (.ref er), .val (.int (Int32.ofNat (own_en M C 8))), .unset] [])) := by
      intro T hh locs X eT zh NF ar er gna gne nae Va Ve
      refine Wp.via (fun _ k => XS.aload X.here hx rfl (hb hby at_519) rfl rfl k) ?_
      show Wp p e below _ (T.setTop (mkF m 521 #[.val (.int p0), .val (.int p1), .val (.int (Int32.ofNat C)), .val (.int (Int32.ofNat M)), .val (.int (Int32.ofNat (own_cnt M 8))), .val (.ref ar), .val (.int (Int32.ofNat (own_cnt M 8))), .val (.ref er), .val (.int (Int32.ofNat (own_en M C 8))), .unset] [(.ref ar)]))
      refine Wp.via (fun _ k => XS.iloadN X.here hx rfl (hb hby at_521) rfl k) ?_
      show Wp p e below _ (T.setTop (mkF m 522 #[.val (.int p0), .val (.int p1), .val (.int (Int32.ofNat C)), .val (.int (Int32.ofNat M)), .val (.int (Int32.ofNat (own_cnt M 8))), .val (.ref ar), .val (.int (Int32.ofNat (own_cnt M 8))), .val (.ref er), .val (.int (Int32.ofNat (own_en M C 8))), .unset] [(.int (Int32.ofNat C)), (.ref ar)]))
      have Vc : Av Z hh ar .int (own_cnt M 8) (fun t => .int (own_A M t)) := Va.cong (fun t ht => if_pos ht)
      obtain ⟨_, _, ⟨T1, L1, k1, n1⟩, -, X1, ⟨Lc1, hQ1, l1, y1, z1⟩, st1⟩ := Jvm.LawKit.callS X hx (y := (⟨"com/example/inverso/inverso/search/DocumentSets", "complement", "([II)[I"⟩ : MethodName)) hown (mvT hZ (hw _ (List.mem_of_getElem? (i := 9) rfl))) (mvT hZ (hw _ (List.mem_of_getElem? (i := 10) rfl))) (mvT hZ (hw _ (List.mem_of_getElem? (i := 11) rfl))) (mvT hZ (hw _ (List.mem_of_getElem? (i := 12) rfl))) (by decide) (backOf (W := 0) (rm3 l Z aw hw [] ar C M hh n0 zh hC hM Vc) hZ (hw _ (List.mem_of_getElem? (i := 12) rfl)) (hw _ (List.mem_of_getElem? (i := 11) rfl)) (by decide) (by decide)) (g := (mkF m 522 #[.val (.int p0), .val (.int p1), .val (.int (Int32.ofNat C)), .val (.int (Int32.ofNat M)), .val (.int (Int32.ofNat (own_cnt M 8))), .val (.ref ar), .val (.int (Int32.ofNat (own_cnt M 8))), .val (.ref er), .val (.int (Int32.ofNat (own_en M C 8))), .unset] [(.int (Int32.ofNat C)), (.ref ar)])) rfl (by rw [hml]; rfl) (argsL := [(.ref ar), (.int (Int32.ofNat C))]) (rest := []) (lenOf own_pd2 rfl) rfl (by show 2 * 0 + _ ≤ _; exact Nat.le_of_eq rfl) (hb hby at_522) (fun _ _ => ⟨rfl, eT, (by decide : 2 + 1 ≤ _), (by decide : 16 + 8 ≤ _)⟩)
      dsimp only [Pt.U, Pt.locs, Pt.cells, Pt.slots] at X1 l1 y1 z1 st1 hQ1
      subst l1 y1 z1
      obtain ⟨r, rfl, N1, Kc1, gr, sr, Vr⟩ := hQ1
      have NF1 := Fr.app NF N1
      refine Wp.via st1 ?_
      show Wp p e below _ (T1.setTop (mkF m 525 #[.val (.int p0), .val (.int p1), .val (.int (Int32.ofNat C)), .val (.int (Int32.ofNat M)), .val (.int (Int32.ofNat (own_cnt M 8))), .val (.ref ar), .val (.int (Int32.ofNat (own_cnt M 8))), .val (.ref er), .val (.int (Int32.ofNat (own_en M C 8))), .unset] [(.ref r)]))
      have Vd := Ve.keep Kc1 nin0
      have Vf : Av Z T1.heap er .int (C - own_cnt M 8) (fun t => .int (own_E M C t)) := Vd.cong (fun t ht => if_pos (by rw [F5.2.1]; exact ht))
      have zr : n0 ≤ T1.heap.size := Nat.le_trans zh Kc1.1
      refine Wp.via (fun _ k => XS.astore X1.here hx rfl (hb hby at_525) rfl rfl (l' := #[.val (.int p0), .val (.int p1), .val (.int (Int32.ofNat C)), .val (.int (Int32.ofNat M)), .val (.int (Int32.ofNat (own_cnt M 8))), .val (.ref ar), .val (.int (Int32.ofNat (own_cnt M 8))), .val (.ref er), .val (.int (Int32.ofNat (own_en M C 8))), .val (.ref r)]) rfl k) ?_
      show Wp p e below _ (T1.setTop (mkF m 527 #[.val (.int p0), .val (.int p1), .val (.int (Int32.ofNat C)), .val (.int (Int32.ofNat M)), .val (.int (Int32.ofNat (own_cnt M 8))), .val (.ref ar), .val (.int (Int32.ofNat (own_cnt M 8))), .val (.ref er), .val (.int (Int32.ofNat (own_en M C 8))), .val (.ref r)] []))
      refine Wp.via (fun _ k => XS.aload X1.here hx rfl (hb hby at_527) rfl rfl k) ?_
      show Wp p e below _ (T1.setTop (mkF m 529 #[.val (.int p0), .val (.int p1), .val (.int (Int32.ofNat C)), .val (.int (Int32.ofNat M)), .val (.int (Int32.ofNat (own_cnt M 8))), .val (.ref ar), .val (.int (Int32.ofNat (own_cnt M 8))), .val (.ref er), .val (.int (Int32.ofNat (own_en M C 8))), .val (.ref r)] [(.ref r)]))
      refine Wp.via (fun _ k => XS.aload X1.here hx rfl (hb hby at_529) rfl rfl k) ?_
      show Wp p e below _ (T1.setTop (mkF m 531 #[.val (.int p0), .val (.int p1), .val (.int (Int32.ofNat C)), .val (.int (Int32.ofNat M)), .val (.int (Int32.ofNat (own_cnt M 8))), .val (.ref ar), .val (.int (Int32.ofNat (own_cnt M 8))), .val (.ref er), .val (.int (Int32.ofNat (own_en M C 8))), .val (.ref r)] [(.ref er), (.ref r)]))
      obtain ⟨_, _, ⟨T2, L2, k2, n2⟩, -, X2, ⟨Lc2, hQ2, l2, y2, z2⟩, st2⟩ := Jvm.LawKit.callS X1 hx (y := (⟨"com/example/inverso/inverso/search/DocumentSetsComplementPinLaw", "same", "([I[I)Z"⟩ : MethodName)) hown (mvT hZ (hw _ (List.mem_of_getElem? (i := 13) rfl))) (mvT hZ (hw _ (List.mem_of_getElem? (i := 14) rfl))) (mvT hZ (hw _ (List.mem_of_getElem? (i := 3) rfl))) (mvT hZ (hw _ (List.mem_of_getElem? (i := 15) rfl))) (by decide) (backOf (W := 0) (rm4 l Z aw hw [] r er (C - own_cnt M 8) (fun t => own_E M C t) T1.heap n0 zr Vr Vf (by omega)) hZ (hw _ (List.mem_of_getElem? (i := 15) rfl)) (hw _ (List.mem_of_getElem? (i := 3) rfl)) (by decide) (by decide)) (g := (mkF m 531 #[.val (.int p0), .val (.int p1), .val (.int (Int32.ofNat C)), .val (.int (Int32.ofNat M)), .val (.int (Int32.ofNat (own_cnt M 8))), .val (.ref ar), .val (.int (Int32.ofNat (own_cnt M 8))), .val (.ref er), .val (.int (Int32.ofNat (own_en M C 8))), .val (.ref r)] [(.ref er), (.ref r)])) rfl (by rw [hml]; rfl) (argsL := [(.ref r), (.ref er)]) (rest := []) (lenOf own_pd3 rfl) rfl (by show 2 * 0 + _ ≤ _; exact Nat.le_of_eq rfl) (hb hby at_531) (fun _ _ => ⟨rfl, rfl, (by decide : 3 + 0 ≤ _), (by decide : 24 + 0 ≤ _)⟩)
      dsimp only [Pt.U, Pt.locs, Pt.cells, Pt.slots] at X2 l2 y2 z2 st2 hQ2
      subst l2 y2 z2
      obtain ⟨rfl, N2, e2⟩ := hQ2
      have NF2 := Fr.app NF1 N2
      refine Wp.via st2 ?_
      show Wp p e below _ (T2.setTop (mkF m 534 #[.val (.int p0), .val (.int p1), .val (.int (Int32.ofNat C)), .val (.int (Int32.ofNat M)), .val (.int (Int32.ofNat (own_cnt M 8))), .val (.ref ar), .val (.int (Int32.ofNat (own_cnt M 8))), .val (.ref er), .val (.int (Int32.ofNat (own_en M C 8))), .val (.ref r)] [(.int (1 : Int32))]))
      exact Wp.retI X2 hlk hx hret (by simp) (by first | rfl | decide) (hb hby at_534) ⟨rfl, NF2⟩ (by decide) (by decide)
    have J2_7 : ∀ (T : State) (hh : Heap) (locs : List Loc) (X : Stand p l e room_1 s m #[(.int p0), (.int p1)] below meth c T locs 2 16) (eT : T.heap = hh) (zh : n0 ≤ hh.size) (NF : Fr n0 locs) (ar er : Addr) (gna : n0 ≤ ar) (gne : n0 ≤ er) (nae : ar ≠ er) (Va : Av Z hh ar .int (own_cnt M 8) (fun t => if t < own_cnt M 8 then .int (own_A M t) else .int (0 : Int32))) (Ve : Av Z hh er .int (C - own_cnt M 8) (fun t => if t < own_en M C 7 then .int (own_E M C t) else .int (0 : Int32))), Wp p e below (Gd s (Qo0 Z p0 p1 h0 n0) 16 128) (T.setTop (mkF m 488 #[.val (.int p0), .val (.int p1), .val (.int (Int32.ofNat C)), .val (.int (Int32.ofNat M)), .val (.int (Int32.ofNat (own_cnt M 8))), .val (.ref ar), .val (.int (Int32.ofNat (own_cnt M 8))), .val (.ref er), .val (.int (Int32.ofNat (own_en M C 7))), .unset] [])) := by
      intro T hh locs X eT zh NF ar er gna gne nae Va Ve
      have bd2 := own_ele M C 7
      have bv : f1_0 (Int32.ofNat M) (8 : Int32) = (if M.testBit 7 = true then 1 else 0) := own_bv ⟨M, hM8⟩ ⟨7, by decide⟩
      refine Wp.via (fun _ k => XS.aload X.here hx rfl (hb hby at_488) rfl rfl k) ?_
      show Wp p e below _ (T.setTop (mkF m 490 #[.val (.int p0), .val (.int p1), .val (.int (Int32.ofNat C)), .val (.int (Int32.ofNat M)), .val (.int (Int32.ofNat (own_cnt M 8))), .val (.ref ar), .val (.int (Int32.ofNat (own_cnt M 8))), .val (.ref er), .val (.int (Int32.ofNat (own_en M C 7))), .unset] [(.ref er)]))
      refine Wp.via (fun _ k => XS.iload X.here hx rfl (hb hby at_490) rfl k) ?_
      show Wp p e below _ (T.setTop (mkF m 492 #[.val (.int p0), .val (.int p1), .val (.int (Int32.ofNat C)), .val (.int (Int32.ofNat M)), .val (.int (Int32.ofNat (own_cnt M 8))), .val (.ref ar), .val (.int (Int32.ofNat (own_cnt M 8))), .val (.ref er), .val (.int (Int32.ofNat (own_en M C 7))), .unset] [(.int (Int32.ofNat (own_en M C 7))), (.ref er)]))
      refine Wp.via (fun _ k => XS.bipush X.here hx rfl (hb hby at_492) k) ?_
      show Wp p e below _ (T.setTop (mkF m 494 #[.val (.int p0), .val (.int p1), .val (.int (Int32.ofNat C)), .val (.int (Int32.ofNat M)), .val (.int (Int32.ofNat (own_cnt M 8))), .val (.ref ar), .val (.int (Int32.ofNat (own_cnt M 8))), .val (.ref er), .val (.int (Int32.ofNat (own_en M C 7))), .unset] [(.int (8 : Int32)), (.int (Int32.ofNat (own_en M C 7))), (.ref er)]))
      refine Wp.via (fun _ k => XS.bipush X.here hx rfl (hb hby at_494) k) ?_
      show Wp p e below _ (T.setTop (mkF m 496 #[.val (.int p0), .val (.int p1), .val (.int (Int32.ofNat C)), .val (.int (Int32.ofNat M)), .val (.int (Int32.ofNat (own_cnt M 8))), .val (.ref ar), .val (.int (Int32.ofNat (own_cnt M 8))), .val (.ref er), .val (.int (Int32.ofNat (own_en M C 7))), .unset] [(.int (8 : Int32)), (.int (8 : Int32)), (.int (Int32.ofNat (own_en M C 7))), (.ref er)]))
      refine Wp.via (fun _ k => XS.iloadN X.here hx rfl (hb hby at_496) rfl k) ?_
      show Wp p e below _ (T.setTop (mkF m 497 #[.val (.int p0), .val (.int p1), .val (.int (Int32.ofNat C)), .val (.int (Int32.ofNat M)), .val (.int (Int32.ofNat (own_cnt M 8))), .val (.ref ar), .val (.int (Int32.ofNat (own_cnt M 8))), .val (.ref er), .val (.int (Int32.ofNat (own_en M C 7))), .unset] [(.int (Int32.ofNat C)), (.int (8 : Int32)), (.int (8 : Int32)), (.int (Int32.ofNat (own_en M C 7))), (.ref er)]))
      by_cases hd : 7 < C
      ·
        refine Wp.via (fun _ k => XS.icmpNo X.here hx rfl (hb hby at_497) rfl (flt (show ¬ (Int32.ofNat C < (8 : Int32)) from fun q => by have := (own_lt (a := C) (b := 8) (by omega) (by omega)).mp q; omega)).2.2.1 k) ?_
        show Wp p e below _ (T.setTop (mkF m 500 #[.val (.int p0), .val (.int p1), .val (.int (Int32.ofNat C)), .val (.int (Int32.ofNat M)), .val (.int (Int32.ofNat (own_cnt M 8))), .val (.ref ar), .val (.int (Int32.ofNat (own_cnt M 8))), .val (.ref er), .val (.int (Int32.ofNat (own_en M C 7))), .unset] [(.int (8 : Int32)), (.int (Int32.ofNat (own_en M C 7))), (.ref er)]))
        refine Wp.via (fun _ k => XS.iloadN X.here hx rfl (hb hby at_500) rfl k) ?_
        show Wp p e below _ (T.setTop (mkF m 501 #[.val (.int p0), .val (.int p1), .val (.int (Int32.ofNat C)), .val (.int (Int32.ofNat M)), .val (.int (Int32.ofNat (own_cnt M 8))), .val (.ref ar), .val (.int (Int32.ofNat (own_cnt M 8))), .val (.ref er), .val (.int (Int32.ofNat (own_en M C 7))), .unset] [(.int (Int32.ofNat M)), (.int (8 : Int32)), (.int (Int32.ofNat (own_en M C 7))), (.ref er)]))
        refine Wp.via (fun _ k => XS.bipush X.here hx rfl (hb hby at_501) k) ?_
        show Wp p e below _ (T.setTop (mkF m 503 #[.val (.int p0), .val (.int p1), .val (.int (Int32.ofNat C)), .val (.int (Int32.ofNat M)), .val (.int (Int32.ofNat (own_cnt M 8))), .val (.ref ar), .val (.int (Int32.ofNat (own_cnt M 8))), .val (.ref er), .val (.int (Int32.ofNat (own_en M C 7))), .unset] [(.int (8 : Int32)), (.int (Int32.ofNat M)), (.int (8 : Int32)), (.int (Int32.ofNat (own_en M C 7))), (.ref er)]))
        obtain ⟨_, _, ⟨T3, L3, k3, n3⟩, -, X3, ⟨Lc3, hQ3, l3, y3, z3⟩, st3⟩ := Jvm.LawKit.callS X hx (y := (⟨"com/example/inverso/inverso/search/DocumentSetsComplementPinLaw", "bit", "(II)I"⟩ : MethodName)) hown (mvT hZ (hw _ (List.mem_of_getElem? (i := 1) rfl))) (mvT hZ (hw _ (List.mem_of_getElem? (i := 2) rfl))) (mvT hZ (hw _ (List.mem_of_getElem? (i := 3) rfl))) (mvT hZ (hw _ (List.mem_of_getElem? (i := 4) rfl))) (by decide) (backOf (W := 3) (rm1 l Z aw hw [] (Int32.ofNat M) (8 : Int32)  hh n0 zh ) hZ (hw _ (List.mem_of_getElem? (i := 4) rfl)) (hw _ (List.mem_of_getElem? (i := 3) rfl)) (by decide) (by decide)) (g := (mkF m 503 #[.val (.int p0), .val (.int p1), .val (.int (Int32.ofNat C)), .val (.int (Int32.ofNat M)), .val (.int (Int32.ofNat (own_cnt M 8))), .val (.ref ar), .val (.int (Int32.ofNat (own_cnt M 8))), .val (.ref er), .val (.int (Int32.ofNat (own_en M C 7))), .unset] [(.int (8 : Int32)), (.int (Int32.ofNat M)), (.int (8 : Int32)), (.int (Int32.ofNat (own_en M C 7))), (.ref er)])) rfl (by rw [hml]; rfl) (argsL := [(.int (Int32.ofNat M)), (.int (8 : Int32))]) (rest := [(.int (8 : Int32)), (.int (Int32.ofNat (own_en M C 7))), (.ref er)]) (lenOf own_pd0 rfl) rfl (by show 2 * 0 + _ ≤ _; exact Nat.le_of_eq rfl) (hb hby at_503) (fun _ _ => ⟨rfl, eT, (by decide : 2 + 0 ≤ _), (by decide : 16 + 0 ≤ _)⟩)
        dsimp only [Pt.U, Pt.locs, Pt.cells, Pt.slots] at X3 l3 y3 z3 st3 hQ3
        subst l3 y3 z3
        obtain ⟨rfl, N3, e3⟩ := hQ3
        have NF3 := Fr.app NF N3
        refine Wp.via st3 ?_
        show Wp p e below _ (T3.setTop (mkF m 506 #[.val (.int p0), .val (.int p1), .val (.int (Int32.ofNat C)), .val (.int (Int32.ofNat M)), .val (.int (Int32.ofNat (own_cnt M 8))), .val (.ref ar), .val (.int (Int32.ofNat (own_cnt M 8))), .val (.ref er), .val (.int (Int32.ofNat (own_en M C 7))), .unset] [(.int (f1_0 (Int32.ofNat M) (8 : Int32))), (.int (8 : Int32)), (.int (Int32.ofNat (own_en M C 7))), (.ref er)]))
        by_cases hbt : M.testBit 7 = true
        ·
          have eq3 : own_en M C 8 = own_en M C 7 := by simp [own_en, hbt]
          refine Wp.via (fun _ k => XS.ifYes X3.here hx rfl (pc0 := 506) (pc' := 513) rfl (hb hby at_506) rfl ((if0 _ _).trans (feq (by rw [bv, if_pos hbt]; decide)).2) (by decide) (by decide) k) ?_
          show Wp p e below _ (T3.setTop (mkF m 513 #[.val (.int p0), .val (.int p1), .val (.int (Int32.ofNat C)), .val (.int (Int32.ofNat M)), .val (.int (Int32.ofNat (own_cnt M 8))), .val (.ref ar), .val (.int (Int32.ofNat (own_cnt M 8))), .val (.ref er), .val (.int (Int32.ofNat (own_en M C 7))), .unset] [(.int (8 : Int32)), (.int (Int32.ofNat (own_en M C 7))), (.ref er)]))
          refine Wp.via (fun _ k => XS.iconst X3.here hx rfl (hb hby at_513) k) ?_
          show Wp p e below _ (T3.setTop (mkF m 514 #[.val (.int p0), .val (.int p1), .val (.int (Int32.ofNat C)), .val (.int (Int32.ofNat M)), .val (.int (Int32.ofNat (own_cnt M 8))), .val (.ref ar), .val (.int (Int32.ofNat (own_cnt M 8))), .val (.ref er), .val (.int (Int32.ofNat (own_en M C 7))), .unset] [(.int (0 : Int32)), (.int (8 : Int32)), (.int (Int32.ofNat (own_en M C 7))), (.ref er)]))
          obtain ⟨_, _, ⟨T4, L4, k4, n4⟩, -, X4, ⟨Lc4, hQ4, l4, y4, z4⟩, st4⟩ := Jvm.LawKit.callS X3 hx (y := (⟨"com/example/inverso/inverso/search/DocumentSetsComplementPinLaw", "put", "([IIIZ)I"⟩ : MethodName)) hown (mvT hZ (hw _ (List.mem_of_getElem? (i := 6) rfl))) (mvT hZ (hw _ (List.mem_of_getElem? (i := 7) rfl))) (mvT hZ (hw _ (List.mem_of_getElem? (i := 3) rfl))) (mvT hZ (hw _ (List.mem_of_getElem? (i := 8) rfl))) (by decide) (backOf (W := 0) (rm2_0 l Z aw hw [] er (Int32.ofNat (own_en M C 7)) (8 : Int32)  hh n0 zh ) hZ (hw _ (List.mem_of_getElem? (i := 8) rfl)) (hw _ (List.mem_of_getElem? (i := 3) rfl)) (by decide) (by decide)) (g := (mkF m 514 #[.val (.int p0), .val (.int p1), .val (.int (Int32.ofNat C)), .val (.int (Int32.ofNat M)), .val (.int (Int32.ofNat (own_cnt M 8))), .val (.ref ar), .val (.int (Int32.ofNat (own_cnt M 8))), .val (.ref er), .val (.int (Int32.ofNat (own_en M C 7))), .unset] [(.int (0 : Int32)), (.int (8 : Int32)), (.int (Int32.ofNat (own_en M C 7))), (.ref er)])) rfl (by rw [hml]; rfl) (argsL := [(.ref er), (.int (Int32.ofNat (own_en M C 7))), (.int (8 : Int32)), (.int (0 : Int32))]) (rest := []) (lenOf own_pd1 rfl) rfl (by show 2 * 0 + _ ≤ _; exact Nat.le_of_eq rfl) (hb hby at_514) (fun _ _ => ⟨rfl, e3, (by decide : 2 + 0 ≤ _), (by decide : 16 + 0 ≤ _)⟩)
          dsimp only [Pt.U, Pt.locs, Pt.cells, Pt.slots] at X4 l4 y4 z4 st4 hQ4
          subst l4 y4 z4
          obtain ⟨rfl, N4, e4⟩ := hQ4
          have NF4 := Fr.app NF3 N4
          refine Wp.via st4 ?_
          show Wp p e below _ (T4.setTop (mkF m 517 #[.val (.int p0), .val (.int p1), .val (.int (Int32.ofNat C)), .val (.int (Int32.ofNat M)), .val (.int (Int32.ofNat (own_cnt M 8))), .val (.ref ar), .val (.int (Int32.ofNat (own_cnt M 8))), .val (.ref er), .val (.int (Int32.ofNat (own_en M C 7))), .unset] [(.int (Int32.ofNat (own_en M C 7)))]))
          refine Wp.via (fun _ k => XS.istore X4.here hx rfl (hb hby at_517) rfl (l' := #[.val (.int p0), .val (.int p1), .val (.int (Int32.ofNat C)), .val (.int (Int32.ofNat M)), .val (.int (Int32.ofNat (own_cnt M 8))), .val (.ref ar), .val (.int (Int32.ofNat (own_cnt M 8))), .val (.ref er), .val (.int (Int32.ofNat (own_en M C 7))), .unset]) rfl k) ?_
          show Wp p e below _ (T4.setTop (mkF m 519 #[.val (.int p0), .val (.int p1), .val (.int (Int32.ofNat C)), .val (.int (Int32.ofNat M)), .val (.int (Int32.ofNat (own_cnt M 8))), .val (.ref ar), .val (.int (Int32.ofNat (own_cnt M 8))), .val (.ref er), .val (.int (Int32.ofNat (own_en M C 7))), .unset] []))
          have rw5 : (Int32.ofNat (own_en M C 7)) = (Int32.ofNat (own_en M C 8)) := by rw [eq3]
          rw [rw5]
          show Wp p e below _ (T4.setTop (mkF m 519 #[.val (.int p0), .val (.int p1), .val (.int (Int32.ofNat C)), .val (.int (Int32.ofNat M)), .val (.int (Int32.ofNat (own_cnt M 8))), .val (.ref ar), .val (.int (Int32.ofNat (own_cnt M 8))), .val (.ref er), .val (.int (Int32.ofNat (own_en M C 8))), .unset] []))
          exact J2_8 T4 _ _ X4 e4 zh NF4 ar er gna gne nae Va (Ve.cong (fun t ht => by rw [eq3]))
        ·
          have hbf : M.testBit 7 = false := by simpa using hbt
          obtain ⟨E1, E2⟩ := own_F2 ⟨C, by omega⟩ ⟨M, hM8⟩ hM ⟨7, by decide⟩ hd hbf
          dsimp only at E1 E2
          refine Wp.via (fun _ k => XS.ifNo X3.here hx rfl (hb hby at_506) rfl ((if0 _ _).trans (teq (by rw [bv, if_neg hbt])).2) k) ?_
          show Wp p e below _ (T3.setTop (mkF m 509 #[.val (.int p0), .val (.int p1), .val (.int (Int32.ofNat C)), .val (.int (Int32.ofNat M)), .val (.int (Int32.ofNat (own_cnt M 8))), .val (.ref ar), .val (.int (Int32.ofNat (own_cnt M 8))), .val (.ref er), .val (.int (Int32.ofNat (own_en M C 7))), .unset] [(.int (8 : Int32)), (.int (Int32.ofNat (own_en M C 7))), (.ref er)]))
          refine Wp.via (fun _ k => XS.iconst X3.here hx rfl (hb hby at_509) k) ?_
          show Wp p e below _ (T3.setTop (mkF m 510 #[.val (.int p0), .val (.int p1), .val (.int (Int32.ofNat C)), .val (.int (Int32.ofNat M)), .val (.int (Int32.ofNat (own_cnt M 8))), .val (.ref ar), .val (.int (Int32.ofNat (own_cnt M 8))), .val (.ref er), .val (.int (Int32.ofNat (own_en M C 7))), .unset] [(.int (1 : Int32)), (.int (8 : Int32)), (.int (Int32.ofNat (own_en M C 7))), (.ref er)]))
          refine Wp.via (fun _ k => XS.goto X3.here hx rfl (pc0 := 510) (pc' := 514) rfl (hb hby at_510) (by decide) (by decide) k) ?_
          show Wp p e below _ (T3.setTop (mkF m 514 #[.val (.int p0), .val (.int p1), .val (.int (Int32.ofNat C)), .val (.int (Int32.ofNat M)), .val (.int (Int32.ofNat (own_cnt M 8))), .val (.ref ar), .val (.int (Int32.ofNat (own_cnt M 8))), .val (.ref er), .val (.int (Int32.ofNat (own_en M C 7))), .unset] [(.int (1 : Int32)), (.int (8 : Int32)), (.int (Int32.ofNat (own_en M C 7))), (.ref er)]))
          obtain ⟨_, _, ⟨T6, L6, k6, n6⟩, -, X6, ⟨Lc6, hQ6, l6, y6, z6⟩, st6⟩ := Jvm.LawKit.callS X3 hx (y := (⟨"com/example/inverso/inverso/search/DocumentSetsComplementPinLaw", "put", "([IIIZ)I"⟩ : MethodName)) hown (mvT hZ (hw _ (List.mem_of_getElem? (i := 6) rfl))) (mvT hZ (hw _ (List.mem_of_getElem? (i := 7) rfl))) (mvT hZ (hw _ (List.mem_of_getElem? (i := 3) rfl))) (mvT hZ (hw _ (List.mem_of_getElem? (i := 8) rfl))) (by decide) (backOf (W := 0) (rm2_1 l Z aw hw [] er (Int32.ofNat (own_en M C 7)) (8 : Int32) (C - own_cnt M 8) (own_en M C 7) (fun t => if t < own_en M C 7 then .int (own_E M C t) else .int (0 : Int32)) hh n0 zh Ve gne (own_pos (by omega)) (own_nat (by omega)) E2) hZ (hw _ (List.mem_of_getElem? (i := 8) rfl)) (hw _ (List.mem_of_getElem? (i := 3) rfl)) (by decide) (by decide)) (g := (mkF m 514 #[.val (.int p0), .val (.int p1), .val (.int (Int32.ofNat C)), .val (.int (Int32.ofNat M)), .val (.int (Int32.ofNat (own_cnt M 8))), .val (.ref ar), .val (.int (Int32.ofNat (own_cnt M 8))), .val (.ref er), .val (.int (Int32.ofNat (own_en M C 7))), .unset] [(.int (1 : Int32)), (.int (8 : Int32)), (.int (Int32.ofNat (own_en M C 7))), (.ref er)])) rfl (by rw [hml]; rfl) (argsL := [(.ref er), (.int (Int32.ofNat (own_en M C 7))), (.int (8 : Int32)), (.int (1 : Int32))]) (rest := []) (lenOf own_pd1 rfl) rfl (by show 2 * 0 + _ ≤ _; exact Nat.le_of_eq rfl) (hb hby at_514) (fun _ _ => ⟨rfl, e3, (by decide : 2 + 0 ≤ _), (by decide : 16 + 0 ≤ _)⟩)
          dsimp only [Pt.U, Pt.locs, Pt.cells, Pt.slots] at X6 l6 y6 z6 st6 hQ6
          subst l6 y6 z6
          obtain ⟨rfl, N6, Kc6, Vn6⟩ := hQ6
          have NF6 := Fr.app NF3 N6
          refine Wp.via st6 ?_
          show Wp p e below _ (T6.setTop (mkF m 517 #[.val (.int p0), .val (.int p1), .val (.int (Int32.ofNat C)), .val (.int (Int32.ofNat M)), .val (.int (Int32.ofNat (own_cnt M 8))), .val (.ref ar), .val (.int (Int32.ofNat (own_cnt M 8))), .val (.ref er), .val (.int (Int32.ofNat (own_en M C 7))), .unset] [(.int ((Int32.ofNat (own_en M C 7)) + (1 : Int32)))]))
          have zz6 : n0 ≤ T6.heap.size := Nat.le_trans zh Kc6.1
          have Vo6 := Va.keep Kc6 (ninS nae nin0)
          refine Wp.via (fun _ k => XS.istore X6.here hx rfl (hb hby at_517) rfl (l' := #[.val (.int p0), .val (.int p1), .val (.int (Int32.ofNat C)), .val (.int (Int32.ofNat M)), .val (.int (Int32.ofNat (own_cnt M 8))), .val (.ref ar), .val (.int (Int32.ofNat (own_cnt M 8))), .val (.ref er), .val (.int ((Int32.ofNat (own_en M C 7)) + (1 : Int32))), .unset]) rfl k) ?_
          show Wp p e below _ (T6.setTop (mkF m 519 #[.val (.int p0), .val (.int p1), .val (.int (Int32.ofNat C)), .val (.int (Int32.ofNat M)), .val (.int (Int32.ofNat (own_cnt M 8))), .val (.ref ar), .val (.int (Int32.ofNat (own_cnt M 8))), .val (.ref er), .val (.int ((Int32.ofNat (own_en M C 7)) + (1 : Int32))), .unset] []))
          have rw7 : ((Int32.ofNat (own_en M C 7)) + (1 : Int32)) = (Int32.ofNat (own_en M C 8)) := by rw [own_succ]; simp [own_en, hbf, hd]
          rw [rw7]
          show Wp p e below _ (T6.setTop (mkF m 519 #[.val (.int p0), .val (.int p1), .val (.int (Int32.ofNat C)), .val (.int (Int32.ofNat M)), .val (.int (Int32.ofNat (own_cnt M 8))), .val (.ref ar), .val (.int (Int32.ofNat (own_cnt M 8))), .val (.ref er), .val (.int (Int32.ofNat (own_en M C 8))), .unset] []))
          exact J2_8 T6 _ _ X6 rfl zz6 NF6 ar er gna gne nae Vo6 (Vn6.cong (fun t ht => own_stE M C 7 t _ hd hbf E1))
      ·
        have eq3 : own_en M C 8 = own_en M C 7 := by simp [own_en, hd]
        refine Wp.via (fun _ k => XS.icmpYes X.here hx rfl (pc0 := 497) (pc' := 513) rfl (hb hby at_497) rfl (tlt (show Int32.ofNat C < (8 : Int32) from (own_lt (a := C) (b := 8) (by omega) (by omega)).mpr (by omega))).2.2.1 (by decide) (by decide) k) ?_
        show Wp p e below _ (T.setTop (mkF m 513 #[.val (.int p0), .val (.int p1), .val (.int (Int32.ofNat C)), .val (.int (Int32.ofNat M)), .val (.int (Int32.ofNat (own_cnt M 8))), .val (.ref ar), .val (.int (Int32.ofNat (own_cnt M 8))), .val (.ref er), .val (.int (Int32.ofNat (own_en M C 7))), .unset] [(.int (8 : Int32)), (.int (Int32.ofNat (own_en M C 7))), (.ref er)]))
        refine Wp.via (fun _ k => XS.iconst X.here hx rfl (hb hby at_513) k) ?_
        show Wp p e below _ (T.setTop (mkF m 514 #[.val (.int p0), .val (.int p1), .val (.int (Int32.ofNat C)), .val (.int (Int32.ofNat M)), .val (.int (Int32.ofNat (own_cnt M 8))), .val (.ref ar), .val (.int (Int32.ofNat (own_cnt M 8))), .val (.ref er), .val (.int (Int32.ofNat (own_en M C 7))), .unset] [(.int (0 : Int32)), (.int (8 : Int32)), (.int (Int32.ofNat (own_en M C 7))), (.ref er)]))
        obtain ⟨_, _, ⟨T8, L8, k8, n8⟩, -, X8, ⟨Lc8, hQ8, l8, y8, z8⟩, st8⟩ := Jvm.LawKit.callS X hx (y := (⟨"com/example/inverso/inverso/search/DocumentSetsComplementPinLaw", "put", "([IIIZ)I"⟩ : MethodName)) hown (mvT hZ (hw _ (List.mem_of_getElem? (i := 6) rfl))) (mvT hZ (hw _ (List.mem_of_getElem? (i := 7) rfl))) (mvT hZ (hw _ (List.mem_of_getElem? (i := 3) rfl))) (mvT hZ (hw _ (List.mem_of_getElem? (i := 8) rfl))) (by decide) (backOf (W := 0) (rm2_0 l Z aw hw [] er (Int32.ofNat (own_en M C 7)) (8 : Int32)  hh n0 zh ) hZ (hw _ (List.mem_of_getElem? (i := 8) rfl)) (hw _ (List.mem_of_getElem? (i := 3) rfl)) (by decide) (by decide)) (g := (mkF m 514 #[.val (.int p0), .val (.int p1), .val (.int (Int32.ofNat C)), .val (.int (Int32.ofNat M)), .val (.int (Int32.ofNat (own_cnt M 8))), .val (.ref ar), .val (.int (Int32.ofNat (own_cnt M 8))), .val (.ref er), .val (.int (Int32.ofNat (own_en M C 7))), .unset] [(.int (0 : Int32)), (.int (8 : Int32)), (.int (Int32.ofNat (own_en M C 7))), (.ref er)])) rfl (by rw [hml]; rfl) (argsL := [(.ref er), (.int (Int32.ofNat (own_en M C 7))), (.int (8 : Int32)), (.int (0 : Int32))]) (rest := []) (lenOf own_pd1 rfl) rfl (by show 2 * 0 + _ ≤ _; exact Nat.le_of_eq rfl) (hb hby at_514) (fun _ _ => ⟨rfl, eT, (by decide : 2 + 0 ≤ _), (by decide : 16 + 0 ≤ _)⟩)
        dsimp only [Pt.U, Pt.locs, Pt.cells, Pt.slots] at X8 l8 y8 z8 st8 hQ8
        subst l8 y8 z8
        obtain ⟨rfl, N8, e8⟩ := hQ8
        have NF8 := Fr.app NF N8
        refine Wp.via st8 ?_
        show Wp p e below _ (T8.setTop (mkF m 517 #[.val (.int p0), .val (.int p1), .val (.int (Int32.ofNat C)), .val (.int (Int32.ofNat M)), .val (.int (Int32.ofNat (own_cnt M 8))), .val (.ref ar), .val (.int (Int32.ofNat (own_cnt M 8))), .val (.ref er), .val (.int (Int32.ofNat (own_en M C 7))), .unset] [(.int (Int32.ofNat (own_en M C 7)))]))
        refine Wp.via (fun _ k => XS.istore X8.here hx rfl (hb hby at_517) rfl (l' := #[.val (.int p0), .val (.int p1), .val (.int (Int32.ofNat C)), .val (.int (Int32.ofNat M)), .val (.int (Int32.ofNat (own_cnt M 8))), .val (.ref ar), .val (.int (Int32.ofNat (own_cnt M 8))), .val (.ref er), .val (.int (Int32.ofNat (own_en M C 7))), .unset]) rfl k) ?_
        show Wp p e below _ (T8.setTop (mkF m 519 #[.val (.int p0), .val (.int p1), .val (.int (Int32.ofNat C)), .val (.int (Int32.ofNat M)), .val (.int (Int32.ofNat (own_cnt M 8))), .val (.ref ar), .val (.int (Int32.ofNat (own_cnt M 8))), .val (.ref er), .val (.int (Int32.ofNat (own_en M C 7))), .unset] []))
        have rw9 : (Int32.ofNat (own_en M C 7)) = (Int32.ofNat (own_en M C 8)) := by rw [eq3]
        rw [rw9]
        show Wp p e below _ (T8.setTop (mkF m 519 #[.val (.int p0), .val (.int p1), .val (.int (Int32.ofNat C)), .val (.int (Int32.ofNat M)), .val (.int (Int32.ofNat (own_cnt M 8))), .val (.ref ar), .val (.int (Int32.ofNat (own_cnt M 8))), .val (.ref er), .val (.int (Int32.ofNat (own_en M C 8))), .unset] []))
        exact J2_8 T8 _ _ X8 e8 zh NF8 ar er gna gne nae Va (Ve.cong (fun t ht => by rw [eq3]))
    clear J2_8
    have J2_6 : ∀ (T : State) (hh : Heap) (locs : List Loc) (X : Stand p l e room_1 s m #[(.int p0), (.int p1)] below meth c T locs 2 16) (eT : T.heap = hh) (zh : n0 ≤ hh.size) (NF : Fr n0 locs) (ar er : Addr) (gna : n0 ≤ ar) (gne : n0 ≤ er) (nae : ar ≠ er) (Va : Av Z hh ar .int (own_cnt M 8) (fun t => if t < own_cnt M 8 then .int (own_A M t) else .int (0 : Int32))) (Ve : Av Z hh er .int (C - own_cnt M 8) (fun t => if t < own_en M C 6 then .int (own_E M C t) else .int (0 : Int32))), Wp p e below (Gd s (Qo0 Z p0 p1 h0 n0) 16 128) (T.setTop (mkF m 457 #[.val (.int p0), .val (.int p1), .val (.int (Int32.ofNat C)), .val (.int (Int32.ofNat M)), .val (.int (Int32.ofNat (own_cnt M 8))), .val (.ref ar), .val (.int (Int32.ofNat (own_cnt M 8))), .val (.ref er), .val (.int (Int32.ofNat (own_en M C 6))), .unset] [])) := by
      intro T hh locs X eT zh NF ar er gna gne nae Va Ve
      have bd2 := own_ele M C 6
      have bv : f1_0 (Int32.ofNat M) (7 : Int32) = (if M.testBit 6 = true then 1 else 0) := own_bv ⟨M, hM8⟩ ⟨6, by decide⟩
      refine Wp.via (fun _ k => XS.aload X.here hx rfl (hb hby at_457) rfl rfl k) ?_
      show Wp p e below _ (T.setTop (mkF m 459 #[.val (.int p0), .val (.int p1), .val (.int (Int32.ofNat C)), .val (.int (Int32.ofNat M)), .val (.int (Int32.ofNat (own_cnt M 8))), .val (.ref ar), .val (.int (Int32.ofNat (own_cnt M 8))), .val (.ref er), .val (.int (Int32.ofNat (own_en M C 6))), .unset] [(.ref er)]))
      refine Wp.via (fun _ k => XS.iload X.here hx rfl (hb hby at_459) rfl k) ?_
      show Wp p e below _ (T.setTop (mkF m 461 #[.val (.int p0), .val (.int p1), .val (.int (Int32.ofNat C)), .val (.int (Int32.ofNat M)), .val (.int (Int32.ofNat (own_cnt M 8))), .val (.ref ar), .val (.int (Int32.ofNat (own_cnt M 8))), .val (.ref er), .val (.int (Int32.ofNat (own_en M C 6))), .unset] [(.int (Int32.ofNat (own_en M C 6))), (.ref er)]))
      refine Wp.via (fun _ k => XS.bipush X.here hx rfl (hb hby at_461) k) ?_
      show Wp p e below _ (T.setTop (mkF m 463 #[.val (.int p0), .val (.int p1), .val (.int (Int32.ofNat C)), .val (.int (Int32.ofNat M)), .val (.int (Int32.ofNat (own_cnt M 8))), .val (.ref ar), .val (.int (Int32.ofNat (own_cnt M 8))), .val (.ref er), .val (.int (Int32.ofNat (own_en M C 6))), .unset] [(.int (7 : Int32)), (.int (Int32.ofNat (own_en M C 6))), (.ref er)]))
      refine Wp.via (fun _ k => XS.bipush X.here hx rfl (hb hby at_463) k) ?_
      show Wp p e below _ (T.setTop (mkF m 465 #[.val (.int p0), .val (.int p1), .val (.int (Int32.ofNat C)), .val (.int (Int32.ofNat M)), .val (.int (Int32.ofNat (own_cnt M 8))), .val (.ref ar), .val (.int (Int32.ofNat (own_cnt M 8))), .val (.ref er), .val (.int (Int32.ofNat (own_en M C 6))), .unset] [(.int (7 : Int32)), (.int (7 : Int32)), (.int (Int32.ofNat (own_en M C 6))), (.ref er)]))
      refine Wp.via (fun _ k => XS.iloadN X.here hx rfl (hb hby at_465) rfl k) ?_
      show Wp p e below _ (T.setTop (mkF m 466 #[.val (.int p0), .val (.int p1), .val (.int (Int32.ofNat C)), .val (.int (Int32.ofNat M)), .val (.int (Int32.ofNat (own_cnt M 8))), .val (.ref ar), .val (.int (Int32.ofNat (own_cnt M 8))), .val (.ref er), .val (.int (Int32.ofNat (own_en M C 6))), .unset] [(.int (Int32.ofNat C)), (.int (7 : Int32)), (.int (7 : Int32)), (.int (Int32.ofNat (own_en M C 6))), (.ref er)]))
      by_cases hd : 6 < C
      ·
        refine Wp.via (fun _ k => XS.icmpNo X.here hx rfl (hb hby at_466) rfl (flt (show ¬ (Int32.ofNat C < (7 : Int32)) from fun q => by have := (own_lt (a := C) (b := 7) (by omega) (by omega)).mp q; omega)).2.2.1 k) ?_
        show Wp p e below _ (T.setTop (mkF m 469 #[.val (.int p0), .val (.int p1), .val (.int (Int32.ofNat C)), .val (.int (Int32.ofNat M)), .val (.int (Int32.ofNat (own_cnt M 8))), .val (.ref ar), .val (.int (Int32.ofNat (own_cnt M 8))), .val (.ref er), .val (.int (Int32.ofNat (own_en M C 6))), .unset] [(.int (7 : Int32)), (.int (Int32.ofNat (own_en M C 6))), (.ref er)]))
        refine Wp.via (fun _ k => XS.iloadN X.here hx rfl (hb hby at_469) rfl k) ?_
        show Wp p e below _ (T.setTop (mkF m 470 #[.val (.int p0), .val (.int p1), .val (.int (Int32.ofNat C)), .val (.int (Int32.ofNat M)), .val (.int (Int32.ofNat (own_cnt M 8))), .val (.ref ar), .val (.int (Int32.ofNat (own_cnt M 8))), .val (.ref er), .val (.int (Int32.ofNat (own_en M C 6))), .unset] [(.int (Int32.ofNat M)), (.int (7 : Int32)), (.int (Int32.ofNat (own_en M C 6))), (.ref er)]))
        refine Wp.via (fun _ k => XS.bipush X.here hx rfl (hb hby at_470) k) ?_
        show Wp p e below _ (T.setTop (mkF m 472 #[.val (.int p0), .val (.int p1), .val (.int (Int32.ofNat C)), .val (.int (Int32.ofNat M)), .val (.int (Int32.ofNat (own_cnt M 8))), .val (.ref ar), .val (.int (Int32.ofNat (own_cnt M 8))), .val (.ref er), .val (.int (Int32.ofNat (own_en M C 6))), .unset] [(.int (7 : Int32)), (.int (Int32.ofNat M)), (.int (7 : Int32)), (.int (Int32.ofNat (own_en M C 6))), (.ref er)]))
        obtain ⟨_, _, ⟨T10, L10, k10, n10⟩, -, X10, ⟨Lc10, hQ10, l10, y10, z10⟩, st10⟩ := Jvm.LawKit.callS X hx (y := (⟨"com/example/inverso/inverso/search/DocumentSetsComplementPinLaw", "bit", "(II)I"⟩ : MethodName)) hown (mvT hZ (hw _ (List.mem_of_getElem? (i := 1) rfl))) (mvT hZ (hw _ (List.mem_of_getElem? (i := 2) rfl))) (mvT hZ (hw _ (List.mem_of_getElem? (i := 3) rfl))) (mvT hZ (hw _ (List.mem_of_getElem? (i := 4) rfl))) (by decide) (backOf (W := 3) (rm1 l Z aw hw [] (Int32.ofNat M) (7 : Int32)  hh n0 zh ) hZ (hw _ (List.mem_of_getElem? (i := 4) rfl)) (hw _ (List.mem_of_getElem? (i := 3) rfl)) (by decide) (by decide)) (g := (mkF m 472 #[.val (.int p0), .val (.int p1), .val (.int (Int32.ofNat C)), .val (.int (Int32.ofNat M)), .val (.int (Int32.ofNat (own_cnt M 8))), .val (.ref ar), .val (.int (Int32.ofNat (own_cnt M 8))), .val (.ref er), .val (.int (Int32.ofNat (own_en M C 6))), .unset] [(.int (7 : Int32)), (.int (Int32.ofNat M)), (.int (7 : Int32)), (.int (Int32.ofNat (own_en M C 6))), (.ref er)])) rfl (by rw [hml]; rfl) (argsL := [(.int (Int32.ofNat M)), (.int (7 : Int32))]) (rest := [(.int (7 : Int32)), (.int (Int32.ofNat (own_en M C 6))), (.ref er)]) (lenOf own_pd0 rfl) rfl (by show 2 * 0 + _ ≤ _; exact Nat.le_of_eq rfl) (hb hby at_472) (fun _ _ => ⟨rfl, eT, (by decide : 2 + 0 ≤ _), (by decide : 16 + 0 ≤ _)⟩)
        dsimp only [Pt.U, Pt.locs, Pt.cells, Pt.slots] at X10 l10 y10 z10 st10 hQ10
        subst l10 y10 z10
        obtain ⟨rfl, N10, e10⟩ := hQ10
        have NF10 := Fr.app NF N10
        refine Wp.via st10 ?_
        show Wp p e below _ (T10.setTop (mkF m 475 #[.val (.int p0), .val (.int p1), .val (.int (Int32.ofNat C)), .val (.int (Int32.ofNat M)), .val (.int (Int32.ofNat (own_cnt M 8))), .val (.ref ar), .val (.int (Int32.ofNat (own_cnt M 8))), .val (.ref er), .val (.int (Int32.ofNat (own_en M C 6))), .unset] [(.int (f1_0 (Int32.ofNat M) (7 : Int32))), (.int (7 : Int32)), (.int (Int32.ofNat (own_en M C 6))), (.ref er)]))
        by_cases hbt : M.testBit 6 = true
        ·
          have eq3 : own_en M C 7 = own_en M C 6 := by simp [own_en, hbt]
          refine Wp.via (fun _ k => XS.ifYes X10.here hx rfl (pc0 := 475) (pc' := 482) rfl (hb hby at_475) rfl ((if0 _ _).trans (feq (by rw [bv, if_pos hbt]; decide)).2) (by decide) (by decide) k) ?_
          show Wp p e below _ (T10.setTop (mkF m 482 #[.val (.int p0), .val (.int p1), .val (.int (Int32.ofNat C)), .val (.int (Int32.ofNat M)), .val (.int (Int32.ofNat (own_cnt M 8))), .val (.ref ar), .val (.int (Int32.ofNat (own_cnt M 8))), .val (.ref er), .val (.int (Int32.ofNat (own_en M C 6))), .unset] [(.int (7 : Int32)), (.int (Int32.ofNat (own_en M C 6))), (.ref er)]))
          refine Wp.via (fun _ k => XS.iconst X10.here hx rfl (hb hby at_482) k) ?_
          show Wp p e below _ (T10.setTop (mkF m 483 #[.val (.int p0), .val (.int p1), .val (.int (Int32.ofNat C)), .val (.int (Int32.ofNat M)), .val (.int (Int32.ofNat (own_cnt M 8))), .val (.ref ar), .val (.int (Int32.ofNat (own_cnt M 8))), .val (.ref er), .val (.int (Int32.ofNat (own_en M C 6))), .unset] [(.int (0 : Int32)), (.int (7 : Int32)), (.int (Int32.ofNat (own_en M C 6))), (.ref er)]))
          obtain ⟨_, _, ⟨T11, L11, k11, n11⟩, -, X11, ⟨Lc11, hQ11, l11, y11, z11⟩, st11⟩ := Jvm.LawKit.callS X10 hx (y := (⟨"com/example/inverso/inverso/search/DocumentSetsComplementPinLaw", "put", "([IIIZ)I"⟩ : MethodName)) hown (mvT hZ (hw _ (List.mem_of_getElem? (i := 6) rfl))) (mvT hZ (hw _ (List.mem_of_getElem? (i := 7) rfl))) (mvT hZ (hw _ (List.mem_of_getElem? (i := 3) rfl))) (mvT hZ (hw _ (List.mem_of_getElem? (i := 8) rfl))) (by decide) (backOf (W := 0) (rm2_0 l Z aw hw [] er (Int32.ofNat (own_en M C 6)) (7 : Int32)  hh n0 zh ) hZ (hw _ (List.mem_of_getElem? (i := 8) rfl)) (hw _ (List.mem_of_getElem? (i := 3) rfl)) (by decide) (by decide)) (g := (mkF m 483 #[.val (.int p0), .val (.int p1), .val (.int (Int32.ofNat C)), .val (.int (Int32.ofNat M)), .val (.int (Int32.ofNat (own_cnt M 8))), .val (.ref ar), .val (.int (Int32.ofNat (own_cnt M 8))), .val (.ref er), .val (.int (Int32.ofNat (own_en M C 6))), .unset] [(.int (0 : Int32)), (.int (7 : Int32)), (.int (Int32.ofNat (own_en M C 6))), (.ref er)])) rfl (by rw [hml]; rfl) (argsL := [(.ref er), (.int (Int32.ofNat (own_en M C 6))), (.int (7 : Int32)), (.int (0 : Int32))]) (rest := []) (lenOf own_pd1 rfl) rfl (by show 2 * 0 + _ ≤ _; exact Nat.le_of_eq rfl) (hb hby at_483) (fun _ _ => ⟨rfl, e10, (by decide : 2 + 0 ≤ _), (by decide : 16 + 0 ≤ _)⟩)
          dsimp only [Pt.U, Pt.locs, Pt.cells, Pt.slots] at X11 l11 y11 z11 st11 hQ11
          subst l11 y11 z11
          obtain ⟨rfl, N11, e11⟩ := hQ11
          have NF11 := Fr.app NF10 N11
          refine Wp.via st11 ?_
          show Wp p e below _ (T11.setTop (mkF m 486 #[.val (.int p0), .val (.int p1), .val (.int (Int32.ofNat C)), .val (.int (Int32.ofNat M)), .val (.int (Int32.ofNat (own_cnt M 8))), .val (.ref ar), .val (.int (Int32.ofNat (own_cnt M 8))), .val (.ref er), .val (.int (Int32.ofNat (own_en M C 6))), .unset] [(.int (Int32.ofNat (own_en M C 6)))]))
          refine Wp.via (fun _ k => XS.istore X11.here hx rfl (hb hby at_486) rfl (l' := #[.val (.int p0), .val (.int p1), .val (.int (Int32.ofNat C)), .val (.int (Int32.ofNat M)), .val (.int (Int32.ofNat (own_cnt M 8))), .val (.ref ar), .val (.int (Int32.ofNat (own_cnt M 8))), .val (.ref er), .val (.int (Int32.ofNat (own_en M C 6))), .unset]) rfl k) ?_
          show Wp p e below _ (T11.setTop (mkF m 488 #[.val (.int p0), .val (.int p1), .val (.int (Int32.ofNat C)), .val (.int (Int32.ofNat M)), .val (.int (Int32.ofNat (own_cnt M 8))), .val (.ref ar), .val (.int (Int32.ofNat (own_cnt M 8))), .val (.ref er), .val (.int (Int32.ofNat (own_en M C 6))), .unset] []))
          have rw12 : (Int32.ofNat (own_en M C 6)) = (Int32.ofNat (own_en M C 7)) := by rw [eq3]
          rw [rw12]
          show Wp p e below _ (T11.setTop (mkF m 488 #[.val (.int p0), .val (.int p1), .val (.int (Int32.ofNat C)), .val (.int (Int32.ofNat M)), .val (.int (Int32.ofNat (own_cnt M 8))), .val (.ref ar), .val (.int (Int32.ofNat (own_cnt M 8))), .val (.ref er), .val (.int (Int32.ofNat (own_en M C 7))), .unset] []))
          exact J2_7 T11 _ _ X11 e11 zh NF11 ar er gna gne nae Va (Ve.cong (fun t ht => by rw [eq3]))
        ·
          have hbf : M.testBit 6 = false := by simpa using hbt
          obtain ⟨E1, E2⟩ := own_F2 ⟨C, by omega⟩ ⟨M, hM8⟩ hM ⟨6, by decide⟩ hd hbf
          dsimp only at E1 E2
          refine Wp.via (fun _ k => XS.ifNo X10.here hx rfl (hb hby at_475) rfl ((if0 _ _).trans (teq (by rw [bv, if_neg hbt])).2) k) ?_
          show Wp p e below _ (T10.setTop (mkF m 478 #[.val (.int p0), .val (.int p1), .val (.int (Int32.ofNat C)), .val (.int (Int32.ofNat M)), .val (.int (Int32.ofNat (own_cnt M 8))), .val (.ref ar), .val (.int (Int32.ofNat (own_cnt M 8))), .val (.ref er), .val (.int (Int32.ofNat (own_en M C 6))), .unset] [(.int (7 : Int32)), (.int (Int32.ofNat (own_en M C 6))), (.ref er)]))
          refine Wp.via (fun _ k => XS.iconst X10.here hx rfl (hb hby at_478) k) ?_
          show Wp p e below _ (T10.setTop (mkF m 479 #[.val (.int p0), .val (.int p1), .val (.int (Int32.ofNat C)), .val (.int (Int32.ofNat M)), .val (.int (Int32.ofNat (own_cnt M 8))), .val (.ref ar), .val (.int (Int32.ofNat (own_cnt M 8))), .val (.ref er), .val (.int (Int32.ofNat (own_en M C 6))), .unset] [(.int (1 : Int32)), (.int (7 : Int32)), (.int (Int32.ofNat (own_en M C 6))), (.ref er)]))
          refine Wp.via (fun _ k => XS.goto X10.here hx rfl (pc0 := 479) (pc' := 483) rfl (hb hby at_479) (by decide) (by decide) k) ?_
          show Wp p e below _ (T10.setTop (mkF m 483 #[.val (.int p0), .val (.int p1), .val (.int (Int32.ofNat C)), .val (.int (Int32.ofNat M)), .val (.int (Int32.ofNat (own_cnt M 8))), .val (.ref ar), .val (.int (Int32.ofNat (own_cnt M 8))), .val (.ref er), .val (.int (Int32.ofNat (own_en M C 6))), .unset] [(.int (1 : Int32)), (.int (7 : Int32)), (.int (Int32.ofNat (own_en M C 6))), (.ref er)]))
          obtain ⟨_, _, ⟨T13, L13, k13, n13⟩, -, X13, ⟨Lc13, hQ13, l13, y13, z13⟩, st13⟩ := Jvm.LawKit.callS X10 hx (y := (⟨"com/example/inverso/inverso/search/DocumentSetsComplementPinLaw", "put", "([IIIZ)I"⟩ : MethodName)) hown (mvT hZ (hw _ (List.mem_of_getElem? (i := 6) rfl))) (mvT hZ (hw _ (List.mem_of_getElem? (i := 7) rfl))) (mvT hZ (hw _ (List.mem_of_getElem? (i := 3) rfl))) (mvT hZ (hw _ (List.mem_of_getElem? (i := 8) rfl))) (by decide) (backOf (W := 0) (rm2_1 l Z aw hw [] er (Int32.ofNat (own_en M C 6)) (7 : Int32) (C - own_cnt M 8) (own_en M C 6) (fun t => if t < own_en M C 6 then .int (own_E M C t) else .int (0 : Int32)) hh n0 zh Ve gne (own_pos (by omega)) (own_nat (by omega)) E2) hZ (hw _ (List.mem_of_getElem? (i := 8) rfl)) (hw _ (List.mem_of_getElem? (i := 3) rfl)) (by decide) (by decide)) (g := (mkF m 483 #[.val (.int p0), .val (.int p1), .val (.int (Int32.ofNat C)), .val (.int (Int32.ofNat M)), .val (.int (Int32.ofNat (own_cnt M 8))), .val (.ref ar), .val (.int (Int32.ofNat (own_cnt M 8))), .val (.ref er), .val (.int (Int32.ofNat (own_en M C 6))), .unset] [(.int (1 : Int32)), (.int (7 : Int32)), (.int (Int32.ofNat (own_en M C 6))), (.ref er)])) rfl (by rw [hml]; rfl) (argsL := [(.ref er), (.int (Int32.ofNat (own_en M C 6))), (.int (7 : Int32)), (.int (1 : Int32))]) (rest := []) (lenOf own_pd1 rfl) rfl (by show 2 * 0 + _ ≤ _; exact Nat.le_of_eq rfl) (hb hby at_483) (fun _ _ => ⟨rfl, e10, (by decide : 2 + 0 ≤ _), (by decide : 16 + 0 ≤ _)⟩)
          dsimp only [Pt.U, Pt.locs, Pt.cells, Pt.slots] at X13 l13 y13 z13 st13 hQ13
          subst l13 y13 z13
          obtain ⟨rfl, N13, Kc13, Vn13⟩ := hQ13
          have NF13 := Fr.app NF10 N13
          refine Wp.via st13 ?_
          show Wp p e below _ (T13.setTop (mkF m 486 #[.val (.int p0), .val (.int p1), .val (.int (Int32.ofNat C)), .val (.int (Int32.ofNat M)), .val (.int (Int32.ofNat (own_cnt M 8))), .val (.ref ar), .val (.int (Int32.ofNat (own_cnt M 8))), .val (.ref er), .val (.int (Int32.ofNat (own_en M C 6))), .unset] [(.int ((Int32.ofNat (own_en M C 6)) + (1 : Int32)))]))
          have zz13 : n0 ≤ T13.heap.size := Nat.le_trans zh Kc13.1
          have Vo13 := Va.keep Kc13 (ninS nae nin0)
          refine Wp.via (fun _ k => XS.istore X13.here hx rfl (hb hby at_486) rfl (l' := #[.val (.int p0), .val (.int p1), .val (.int (Int32.ofNat C)), .val (.int (Int32.ofNat M)), .val (.int (Int32.ofNat (own_cnt M 8))), .val (.ref ar), .val (.int (Int32.ofNat (own_cnt M 8))), .val (.ref er), .val (.int ((Int32.ofNat (own_en M C 6)) + (1 : Int32))), .unset]) rfl k) ?_
          show Wp p e below _ (T13.setTop (mkF m 488 #[.val (.int p0), .val (.int p1), .val (.int (Int32.ofNat C)), .val (.int (Int32.ofNat M)), .val (.int (Int32.ofNat (own_cnt M 8))), .val (.ref ar), .val (.int (Int32.ofNat (own_cnt M 8))), .val (.ref er), .val (.int ((Int32.ofNat (own_en M C 6)) + (1 : Int32))), .unset] []))
          have rw14 : ((Int32.ofNat (own_en M C 6)) + (1 : Int32)) = (Int32.ofNat (own_en M C 7)) := by rw [own_succ]; simp [own_en, hbf, hd]
          rw [rw14]
          show Wp p e below _ (T13.setTop (mkF m 488 #[.val (.int p0), .val (.int p1), .val (.int (Int32.ofNat C)), .val (.int (Int32.ofNat M)), .val (.int (Int32.ofNat (own_cnt M 8))), .val (.ref ar), .val (.int (Int32.ofNat (own_cnt M 8))), .val (.ref er), .val (.int (Int32.ofNat (own_en M C 7))), .unset] []))
          exact J2_7 T13 _ _ X13 rfl zz13 NF13 ar er gna gne nae Vo13 (Vn13.cong (fun t ht => own_stE M C 6 t _ hd hbf E1))
      ·
        have eq3 : own_en M C 7 = own_en M C 6 := by simp [own_en, hd]
        refine Wp.via (fun _ k => XS.icmpYes X.here hx rfl (pc0 := 466) (pc' := 482) rfl (hb hby at_466) rfl (tlt (show Int32.ofNat C < (7 : Int32) from (own_lt (a := C) (b := 7) (by omega) (by omega)).mpr (by omega))).2.2.1 (by decide) (by decide) k) ?_
        show Wp p e below _ (T.setTop (mkF m 482 #[.val (.int p0), .val (.int p1), .val (.int (Int32.ofNat C)), .val (.int (Int32.ofNat M)), .val (.int (Int32.ofNat (own_cnt M 8))), .val (.ref ar), .val (.int (Int32.ofNat (own_cnt M 8))), .val (.ref er), .val (.int (Int32.ofNat (own_en M C 6))), .unset] [(.int (7 : Int32)), (.int (Int32.ofNat (own_en M C 6))), (.ref er)]))
        refine Wp.via (fun _ k => XS.iconst X.here hx rfl (hb hby at_482) k) ?_
        show Wp p e below _ (T.setTop (mkF m 483 #[.val (.int p0), .val (.int p1), .val (.int (Int32.ofNat C)), .val (.int (Int32.ofNat M)), .val (.int (Int32.ofNat (own_cnt M 8))), .val (.ref ar), .val (.int (Int32.ofNat (own_cnt M 8))), .val (.ref er), .val (.int (Int32.ofNat (own_en M C 6))), .unset] [(.int (0 : Int32)), (.int (7 : Int32)), (.int (Int32.ofNat (own_en M C 6))), (.ref er)]))
        obtain ⟨_, _, ⟨T15, L15, k15, n15⟩, -, X15, ⟨Lc15, hQ15, l15, y15, z15⟩, st15⟩ := Jvm.LawKit.callS X hx (y := (⟨"com/example/inverso/inverso/search/DocumentSetsComplementPinLaw", "put", "([IIIZ)I"⟩ : MethodName)) hown (mvT hZ (hw _ (List.mem_of_getElem? (i := 6) rfl))) (mvT hZ (hw _ (List.mem_of_getElem? (i := 7) rfl))) (mvT hZ (hw _ (List.mem_of_getElem? (i := 3) rfl))) (mvT hZ (hw _ (List.mem_of_getElem? (i := 8) rfl))) (by decide) (backOf (W := 0) (rm2_0 l Z aw hw [] er (Int32.ofNat (own_en M C 6)) (7 : Int32)  hh n0 zh ) hZ (hw _ (List.mem_of_getElem? (i := 8) rfl)) (hw _ (List.mem_of_getElem? (i := 3) rfl)) (by decide) (by decide)) (g := (mkF m 483 #[.val (.int p0), .val (.int p1), .val (.int (Int32.ofNat C)), .val (.int (Int32.ofNat M)), .val (.int (Int32.ofNat (own_cnt M 8))), .val (.ref ar), .val (.int (Int32.ofNat (own_cnt M 8))), .val (.ref er), .val (.int (Int32.ofNat (own_en M C 6))), .unset] [(.int (0 : Int32)), (.int (7 : Int32)), (.int (Int32.ofNat (own_en M C 6))), (.ref er)])) rfl (by rw [hml]; rfl) (argsL := [(.ref er), (.int (Int32.ofNat (own_en M C 6))), (.int (7 : Int32)), (.int (0 : Int32))]) (rest := []) (lenOf own_pd1 rfl) rfl (by show 2 * 0 + _ ≤ _; exact Nat.le_of_eq rfl) (hb hby at_483) (fun _ _ => ⟨rfl, eT, (by decide : 2 + 0 ≤ _), (by decide : 16 + 0 ≤ _)⟩)
        dsimp only [Pt.U, Pt.locs, Pt.cells, Pt.slots] at X15 l15 y15 z15 st15 hQ15
        subst l15 y15 z15
        obtain ⟨rfl, N15, e15⟩ := hQ15
        have NF15 := Fr.app NF N15
        refine Wp.via st15 ?_
        show Wp p e below _ (T15.setTop (mkF m 486 #[.val (.int p0), .val (.int p1), .val (.int (Int32.ofNat C)), .val (.int (Int32.ofNat M)), .val (.int (Int32.ofNat (own_cnt M 8))), .val (.ref ar), .val (.int (Int32.ofNat (own_cnt M 8))), .val (.ref er), .val (.int (Int32.ofNat (own_en M C 6))), .unset] [(.int (Int32.ofNat (own_en M C 6)))]))
        refine Wp.via (fun _ k => XS.istore X15.here hx rfl (hb hby at_486) rfl (l' := #[.val (.int p0), .val (.int p1), .val (.int (Int32.ofNat C)), .val (.int (Int32.ofNat M)), .val (.int (Int32.ofNat (own_cnt M 8))), .val (.ref ar), .val (.int (Int32.ofNat (own_cnt M 8))), .val (.ref er), .val (.int (Int32.ofNat (own_en M C 6))), .unset]) rfl k) ?_
        show Wp p e below _ (T15.setTop (mkF m 488 #[.val (.int p0), .val (.int p1), .val (.int (Int32.ofNat C)), .val (.int (Int32.ofNat M)), .val (.int (Int32.ofNat (own_cnt M 8))), .val (.ref ar), .val (.int (Int32.ofNat (own_cnt M 8))), .val (.ref er), .val (.int (Int32.ofNat (own_en M C 6))), .unset] []))
        have rw16 : (Int32.ofNat (own_en M C 6)) = (Int32.ofNat (own_en M C 7)) := by rw [eq3]
        rw [rw16]
        show Wp p e below _ (T15.setTop (mkF m 488 #[.val (.int p0), .val (.int p1), .val (.int (Int32.ofNat C)), .val (.int (Int32.ofNat M)), .val (.int (Int32.ofNat (own_cnt M 8))), .val (.ref ar), .val (.int (Int32.ofNat (own_cnt M 8))), .val (.ref er), .val (.int (Int32.ofNat (own_en M C 7))), .unset] []))
        exact J2_7 T15 _ _ X15 e15 zh NF15 ar er gna gne nae Va (Ve.cong (fun t ht => by rw [eq3]))
    clear J2_7
    have J2_5 : ∀ (T : State) (hh : Heap) (locs : List Loc) (X : Stand p l e room_1 s m #[(.int p0), (.int p1)] below meth c T locs 2 16) (eT : T.heap = hh) (zh : n0 ≤ hh.size) (NF : Fr n0 locs) (ar er : Addr) (gna : n0 ≤ ar) (gne : n0 ≤ er) (nae : ar ≠ er) (Va : Av Z hh ar .int (own_cnt M 8) (fun t => if t < own_cnt M 8 then .int (own_A M t) else .int (0 : Int32))) (Ve : Av Z hh er .int (C - own_cnt M 8) (fun t => if t < own_en M C 5 then .int (own_E M C t) else .int (0 : Int32))), Wp p e below (Gd s (Qo0 Z p0 p1 h0 n0) 16 128) (T.setTop (mkF m 426 #[.val (.int p0), .val (.int p1), .val (.int (Int32.ofNat C)), .val (.int (Int32.ofNat M)), .val (.int (Int32.ofNat (own_cnt M 8))), .val (.ref ar), .val (.int (Int32.ofNat (own_cnt M 8))), .val (.ref er), .val (.int (Int32.ofNat (own_en M C 5))), .unset] [])) := by
      intro T hh locs X eT zh NF ar er gna gne nae Va Ve
      have bd2 := own_ele M C 5
      have bv : f1_0 (Int32.ofNat M) (6 : Int32) = (if M.testBit 5 = true then 1 else 0) := own_bv ⟨M, hM8⟩ ⟨5, by decide⟩
      refine Wp.via (fun _ k => XS.aload X.here hx rfl (hb hby at_426) rfl rfl k) ?_
      show Wp p e below _ (T.setTop (mkF m 428 #[.val (.int p0), .val (.int p1), .val (.int (Int32.ofNat C)), .val (.int (Int32.ofNat M)), .val (.int (Int32.ofNat (own_cnt M 8))), .val (.ref ar), .val (.int (Int32.ofNat (own_cnt M 8))), .val (.ref er), .val (.int (Int32.ofNat (own_en M C 5))), .unset] [(.ref er)]))
      refine Wp.via (fun _ k => XS.iload X.here hx rfl (hb hby at_428) rfl k) ?_
      show Wp p e below _ (T.setTop (mkF m 430 #[.val (.int p0), .val (.int p1), .val (.int (Int32.ofNat C)), .val (.int (Int32.ofNat M)), .val (.int (Int32.ofNat (own_cnt M 8))), .val (.ref ar), .val (.int (Int32.ofNat (own_cnt M 8))), .val (.ref er), .val (.int (Int32.ofNat (own_en M C 5))), .unset] [(.int (Int32.ofNat (own_en M C 5))), (.ref er)]))
      refine Wp.via (fun _ k => XS.bipush X.here hx rfl (hb hby at_430) k) ?_
      show Wp p e below _ (T.setTop (mkF m 432 #[.val (.int p0), .val (.int p1), .val (.int (Int32.ofNat C)), .val (.int (Int32.ofNat M)), .val (.int (Int32.ofNat (own_cnt M 8))), .val (.ref ar), .val (.int (Int32.ofNat (own_cnt M 8))), .val (.ref er), .val (.int (Int32.ofNat (own_en M C 5))), .unset] [(.int (6 : Int32)), (.int (Int32.ofNat (own_en M C 5))), (.ref er)]))
      refine Wp.via (fun _ k => XS.bipush X.here hx rfl (hb hby at_432) k) ?_
      show Wp p e below _ (T.setTop (mkF m 434 #[.val (.int p0), .val (.int p1), .val (.int (Int32.ofNat C)), .val (.int (Int32.ofNat M)), .val (.int (Int32.ofNat (own_cnt M 8))), .val (.ref ar), .val (.int (Int32.ofNat (own_cnt M 8))), .val (.ref er), .val (.int (Int32.ofNat (own_en M C 5))), .unset] [(.int (6 : Int32)), (.int (6 : Int32)), (.int (Int32.ofNat (own_en M C 5))), (.ref er)]))
      refine Wp.via (fun _ k => XS.iloadN X.here hx rfl (hb hby at_434) rfl k) ?_
      show Wp p e below _ (T.setTop (mkF m 435 #[.val (.int p0), .val (.int p1), .val (.int (Int32.ofNat C)), .val (.int (Int32.ofNat M)), .val (.int (Int32.ofNat (own_cnt M 8))), .val (.ref ar), .val (.int (Int32.ofNat (own_cnt M 8))), .val (.ref er), .val (.int (Int32.ofNat (own_en M C 5))), .unset] [(.int (Int32.ofNat C)), (.int (6 : Int32)), (.int (6 : Int32)), (.int (Int32.ofNat (own_en M C 5))), (.ref er)]))
      by_cases hd : 5 < C
      ·
        refine Wp.via (fun _ k => XS.icmpNo X.here hx rfl (hb hby at_435) rfl (flt (show ¬ (Int32.ofNat C < (6 : Int32)) from fun q => by have := (own_lt (a := C) (b := 6) (by omega) (by omega)).mp q; omega)).2.2.1 k) ?_
        show Wp p e below _ (T.setTop (mkF m 438 #[.val (.int p0), .val (.int p1), .val (.int (Int32.ofNat C)), .val (.int (Int32.ofNat M)), .val (.int (Int32.ofNat (own_cnt M 8))), .val (.ref ar), .val (.int (Int32.ofNat (own_cnt M 8))), .val (.ref er), .val (.int (Int32.ofNat (own_en M C 5))), .unset] [(.int (6 : Int32)), (.int (Int32.ofNat (own_en M C 5))), (.ref er)]))
        refine Wp.via (fun _ k => XS.iloadN X.here hx rfl (hb hby at_438) rfl k) ?_
        show Wp p e below _ (T.setTop (mkF m 439 #[.val (.int p0), .val (.int p1), .val (.int (Int32.ofNat C)), .val (.int (Int32.ofNat M)), .val (.int (Int32.ofNat (own_cnt M 8))), .val (.ref ar), .val (.int (Int32.ofNat (own_cnt M 8))), .val (.ref er), .val (.int (Int32.ofNat (own_en M C 5))), .unset] [(.int (Int32.ofNat M)), (.int (6 : Int32)), (.int (Int32.ofNat (own_en M C 5))), (.ref er)]))
        refine Wp.via (fun _ k => XS.bipush X.here hx rfl (hb hby at_439) k) ?_
        show Wp p e below _ (T.setTop (mkF m 441 #[.val (.int p0), .val (.int p1), .val (.int (Int32.ofNat C)), .val (.int (Int32.ofNat M)), .val (.int (Int32.ofNat (own_cnt M 8))), .val (.ref ar), .val (.int (Int32.ofNat (own_cnt M 8))), .val (.ref er), .val (.int (Int32.ofNat (own_en M C 5))), .unset] [(.int (6 : Int32)), (.int (Int32.ofNat M)), (.int (6 : Int32)), (.int (Int32.ofNat (own_en M C 5))), (.ref er)]))
        obtain ⟨_, _, ⟨T17, L17, k17, n17⟩, -, X17, ⟨Lc17, hQ17, l17, y17, z17⟩, st17⟩ := Jvm.LawKit.callS X hx (y := (⟨"com/example/inverso/inverso/search/DocumentSetsComplementPinLaw", "bit", "(II)I"⟩ : MethodName)) hown (mvT hZ (hw _ (List.mem_of_getElem? (i := 1) rfl))) (mvT hZ (hw _ (List.mem_of_getElem? (i := 2) rfl))) (mvT hZ (hw _ (List.mem_of_getElem? (i := 3) rfl))) (mvT hZ (hw _ (List.mem_of_getElem? (i := 4) rfl))) (by decide) (backOf (W := 3) (rm1 l Z aw hw [] (Int32.ofNat M) (6 : Int32)  hh n0 zh ) hZ (hw _ (List.mem_of_getElem? (i := 4) rfl)) (hw _ (List.mem_of_getElem? (i := 3) rfl)) (by decide) (by decide)) (g := (mkF m 441 #[.val (.int p0), .val (.int p1), .val (.int (Int32.ofNat C)), .val (.int (Int32.ofNat M)), .val (.int (Int32.ofNat (own_cnt M 8))), .val (.ref ar), .val (.int (Int32.ofNat (own_cnt M 8))), .val (.ref er), .val (.int (Int32.ofNat (own_en M C 5))), .unset] [(.int (6 : Int32)), (.int (Int32.ofNat M)), (.int (6 : Int32)), (.int (Int32.ofNat (own_en M C 5))), (.ref er)])) rfl (by rw [hml]; rfl) (argsL := [(.int (Int32.ofNat M)), (.int (6 : Int32))]) (rest := [(.int (6 : Int32)), (.int (Int32.ofNat (own_en M C 5))), (.ref er)]) (lenOf own_pd0 rfl) rfl (by show 2 * 0 + _ ≤ _; exact Nat.le_of_eq rfl) (hb hby at_441) (fun _ _ => ⟨rfl, eT, (by decide : 2 + 0 ≤ _), (by decide : 16 + 0 ≤ _)⟩)
        dsimp only [Pt.U, Pt.locs, Pt.cells, Pt.slots] at X17 l17 y17 z17 st17 hQ17
        subst l17 y17 z17
        obtain ⟨rfl, N17, e17⟩ := hQ17
        have NF17 := Fr.app NF N17
        refine Wp.via st17 ?_
        show Wp p e below _ (T17.setTop (mkF m 444 #[.val (.int p0), .val (.int p1), .val (.int (Int32.ofNat C)), .val (.int (Int32.ofNat M)), .val (.int (Int32.ofNat (own_cnt M 8))), .val (.ref ar), .val (.int (Int32.ofNat (own_cnt M 8))), .val (.ref er), .val (.int (Int32.ofNat (own_en M C 5))), .unset] [(.int (f1_0 (Int32.ofNat M) (6 : Int32))), (.int (6 : Int32)), (.int (Int32.ofNat (own_en M C 5))), (.ref er)]))
        by_cases hbt : M.testBit 5 = true
        ·
          have eq3 : own_en M C 6 = own_en M C 5 := by simp [own_en, hbt]
          refine Wp.via (fun _ k => XS.ifYes X17.here hx rfl (pc0 := 444) (pc' := 451) rfl (hb hby at_444) rfl ((if0 _ _).trans (feq (by rw [bv, if_pos hbt]; decide)).2) (by decide) (by decide) k) ?_
          show Wp p e below _ (T17.setTop (mkF m 451 #[.val (.int p0), .val (.int p1), .val (.int (Int32.ofNat C)), .val (.int (Int32.ofNat M)), .val (.int (Int32.ofNat (own_cnt M 8))), .val (.ref ar), .val (.int (Int32.ofNat (own_cnt M 8))), .val (.ref er), .val (.int (Int32.ofNat (own_en M C 5))), .unset] [(.int (6 : Int32)), (.int (Int32.ofNat (own_en M C 5))), (.ref er)]))
          refine Wp.via (fun _ k => XS.iconst X17.here hx rfl (hb hby at_451) k) ?_
          show Wp p e below _ (T17.setTop (mkF m 452 #[.val (.int p0), .val (.int p1), .val (.int (Int32.ofNat C)), .val (.int (Int32.ofNat M)), .val (.int (Int32.ofNat (own_cnt M 8))), .val (.ref ar), .val (.int (Int32.ofNat (own_cnt M 8))), .val (.ref er), .val (.int (Int32.ofNat (own_en M C 5))), .unset] [(.int (0 : Int32)), (.int (6 : Int32)), (.int (Int32.ofNat (own_en M C 5))), (.ref er)]))
          obtain ⟨_, _, ⟨T18, L18, k18, n18⟩, -, X18, ⟨Lc18, hQ18, l18, y18, z18⟩, st18⟩ := Jvm.LawKit.callS X17 hx (y := (⟨"com/example/inverso/inverso/search/DocumentSetsComplementPinLaw", "put", "([IIIZ)I"⟩ : MethodName)) hown (mvT hZ (hw _ (List.mem_of_getElem? (i := 6) rfl))) (mvT hZ (hw _ (List.mem_of_getElem? (i := 7) rfl))) (mvT hZ (hw _ (List.mem_of_getElem? (i := 3) rfl))) (mvT hZ (hw _ (List.mem_of_getElem? (i := 8) rfl))) (by decide) (backOf (W := 0) (rm2_0 l Z aw hw [] er (Int32.ofNat (own_en M C 5)) (6 : Int32)  hh n0 zh ) hZ (hw _ (List.mem_of_getElem? (i := 8) rfl)) (hw _ (List.mem_of_getElem? (i := 3) rfl)) (by decide) (by decide)) (g := (mkF m 452 #[.val (.int p0), .val (.int p1), .val (.int (Int32.ofNat C)), .val (.int (Int32.ofNat M)), .val (.int (Int32.ofNat (own_cnt M 8))), .val (.ref ar), .val (.int (Int32.ofNat (own_cnt M 8))), .val (.ref er), .val (.int (Int32.ofNat (own_en M C 5))), .unset] [(.int (0 : Int32)), (.int (6 : Int32)), (.int (Int32.ofNat (own_en M C 5))), (.ref er)])) rfl (by rw [hml]; rfl) (argsL := [(.ref er), (.int (Int32.ofNat (own_en M C 5))), (.int (6 : Int32)), (.int (0 : Int32))]) (rest := []) (lenOf own_pd1 rfl) rfl (by show 2 * 0 + _ ≤ _; exact Nat.le_of_eq rfl) (hb hby at_452) (fun _ _ => ⟨rfl, e17, (by decide : 2 + 0 ≤ _), (by decide : 16 + 0 ≤ _)⟩)
          dsimp only [Pt.U, Pt.locs, Pt.cells, Pt.slots] at X18 l18 y18 z18 st18 hQ18
          subst l18 y18 z18
          obtain ⟨rfl, N18, e18⟩ := hQ18
          have NF18 := Fr.app NF17 N18
          refine Wp.via st18 ?_
          show Wp p e below _ (T18.setTop (mkF m 455 #[.val (.int p0), .val (.int p1), .val (.int (Int32.ofNat C)), .val (.int (Int32.ofNat M)), .val (.int (Int32.ofNat (own_cnt M 8))), .val (.ref ar), .val (.int (Int32.ofNat (own_cnt M 8))), .val (.ref er), .val (.int (Int32.ofNat (own_en M C 5))), .unset] [(.int (Int32.ofNat (own_en M C 5)))]))
          refine Wp.via (fun _ k => XS.istore X18.here hx rfl (hb hby at_455) rfl (l' := #[.val (.int p0), .val (.int p1), .val (.int (Int32.ofNat C)), .val (.int (Int32.ofNat M)), .val (.int (Int32.ofNat (own_cnt M 8))), .val (.ref ar), .val (.int (Int32.ofNat (own_cnt M 8))), .val (.ref er), .val (.int (Int32.ofNat (own_en M C 5))), .unset]) rfl k) ?_
          show Wp p e below _ (T18.setTop (mkF m 457 #[.val (.int p0), .val (.int p1), .val (.int (Int32.ofNat C)), .val (.int (Int32.ofNat M)), .val (.int (Int32.ofNat (own_cnt M 8))), .val (.ref ar), .val (.int (Int32.ofNat (own_cnt M 8))), .val (.ref er), .val (.int (Int32.ofNat (own_en M C 5))), .unset] []))
          have rw19 : (Int32.ofNat (own_en M C 5)) = (Int32.ofNat (own_en M C 6)) := by rw [eq3]
          rw [rw19]
          show Wp p e below _ (T18.setTop (mkF m 457 #[.val (.int p0), .val (.int p1), .val (.int (Int32.ofNat C)), .val (.int (Int32.ofNat M)), .val (.int (Int32.ofNat (own_cnt M 8))), .val (.ref ar), .val (.int (Int32.ofNat (own_cnt M 8))), .val (.ref er), .val (.int (Int32.ofNat (own_en M C 6))), .unset] []))
          exact J2_6 T18 _ _ X18 e18 zh NF18 ar er gna gne nae Va (Ve.cong (fun t ht => by rw [eq3]))
        ·
          have hbf : M.testBit 5 = false := by simpa using hbt
          obtain ⟨E1, E2⟩ := own_F2 ⟨C, by omega⟩ ⟨M, hM8⟩ hM ⟨5, by decide⟩ hd hbf
          dsimp only at E1 E2
          refine Wp.via (fun _ k => XS.ifNo X17.here hx rfl (hb hby at_444) rfl ((if0 _ _).trans (teq (by rw [bv, if_neg hbt])).2) k) ?_
          show Wp p e below _ (T17.setTop (mkF m 447 #[.val (.int p0), .val (.int p1), .val (.int (Int32.ofNat C)), .val (.int (Int32.ofNat M)), .val (.int (Int32.ofNat (own_cnt M 8))), .val (.ref ar), .val (.int (Int32.ofNat (own_cnt M 8))), .val (.ref er), .val (.int (Int32.ofNat (own_en M C 5))), .unset] [(.int (6 : Int32)), (.int (Int32.ofNat (own_en M C 5))), (.ref er)]))
          refine Wp.via (fun _ k => XS.iconst X17.here hx rfl (hb hby at_447) k) ?_
          show Wp p e below _ (T17.setTop (mkF m 448 #[.val (.int p0), .val (.int p1), .val (.int (Int32.ofNat C)), .val (.int (Int32.ofNat M)), .val (.int (Int32.ofNat (own_cnt M 8))), .val (.ref ar), .val (.int (Int32.ofNat (own_cnt M 8))), .val (.ref er), .val (.int (Int32.ofNat (own_en M C 5))), .unset] [(.int (1 : Int32)), (.int (6 : Int32)), (.int (Int32.ofNat (own_en M C 5))), (.ref er)]))
          refine Wp.via (fun _ k => XS.goto X17.here hx rfl (pc0 := 448) (pc' := 452) rfl (hb hby at_448) (by decide) (by decide) k) ?_
          show Wp p e below _ (T17.setTop (mkF m 452 #[.val (.int p0), .val (.int p1), .val (.int (Int32.ofNat C)), .val (.int (Int32.ofNat M)), .val (.int (Int32.ofNat (own_cnt M 8))), .val (.ref ar), .val (.int (Int32.ofNat (own_cnt M 8))), .val (.ref er), .val (.int (Int32.ofNat (own_en M C 5))), .unset] [(.int (1 : Int32)), (.int (6 : Int32)), (.int (Int32.ofNat (own_en M C 5))), (.ref er)]))
          obtain ⟨_, _, ⟨T20, L20, k20, n20⟩, -, X20, ⟨Lc20, hQ20, l20, y20, z20⟩, st20⟩ := Jvm.LawKit.callS X17 hx (y := (⟨"com/example/inverso/inverso/search/DocumentSetsComplementPinLaw", "put", "([IIIZ)I"⟩ : MethodName)) hown (mvT hZ (hw _ (List.mem_of_getElem? (i := 6) rfl))) (mvT hZ (hw _ (List.mem_of_getElem? (i := 7) rfl))) (mvT hZ (hw _ (List.mem_of_getElem? (i := 3) rfl))) (mvT hZ (hw _ (List.mem_of_getElem? (i := 8) rfl))) (by decide) (backOf (W := 0) (rm2_1 l Z aw hw [] er (Int32.ofNat (own_en M C 5)) (6 : Int32) (C - own_cnt M 8) (own_en M C 5) (fun t => if t < own_en M C 5 then .int (own_E M C t) else .int (0 : Int32)) hh n0 zh Ve gne (own_pos (by omega)) (own_nat (by omega)) E2) hZ (hw _ (List.mem_of_getElem? (i := 8) rfl)) (hw _ (List.mem_of_getElem? (i := 3) rfl)) (by decide) (by decide)) (g := (mkF m 452 #[.val (.int p0), .val (.int p1), .val (.int (Int32.ofNat C)), .val (.int (Int32.ofNat M)), .val (.int (Int32.ofNat (own_cnt M 8))), .val (.ref ar), .val (.int (Int32.ofNat (own_cnt M 8))), .val (.ref er), .val (.int (Int32.ofNat (own_en M C 5))), .unset] [(.int (1 : Int32)), (.int (6 : Int32)), (.int (Int32.ofNat (own_en M C 5))), (.ref er)])) rfl (by rw [hml]; rfl) (argsL := [(.ref er), (.int (Int32.ofNat (own_en M C 5))), (.int (6 : Int32)), (.int (1 : Int32))]) (rest := []) (lenOf own_pd1 rfl) rfl (by show 2 * 0 + _ ≤ _; exact Nat.le_of_eq rfl) (hb hby at_452) (fun _ _ => ⟨rfl, e17, (by decide : 2 + 0 ≤ _), (by decide : 16 + 0 ≤ _)⟩)
          dsimp only [Pt.U, Pt.locs, Pt.cells, Pt.slots] at X20 l20 y20 z20 st20 hQ20
          subst l20 y20 z20
          obtain ⟨rfl, N20, Kc20, Vn20⟩ := hQ20
          have NF20 := Fr.app NF17 N20
          refine Wp.via st20 ?_
          show Wp p e below _ (T20.setTop (mkF m 455 #[.val (.int p0), .val (.int p1), .val (.int (Int32.ofNat C)), .val (.int (Int32.ofNat M)), .val (.int (Int32.ofNat (own_cnt M 8))), .val (.ref ar), .val (.int (Int32.ofNat (own_cnt M 8))), .val (.ref er), .val (.int (Int32.ofNat (own_en M C 5))), .unset] [(.int ((Int32.ofNat (own_en M C 5)) + (1 : Int32)))]))
          have zz20 : n0 ≤ T20.heap.size := Nat.le_trans zh Kc20.1
          have Vo20 := Va.keep Kc20 (ninS nae nin0)
          refine Wp.via (fun _ k => XS.istore X20.here hx rfl (hb hby at_455) rfl (l' := #[.val (.int p0), .val (.int p1), .val (.int (Int32.ofNat C)), .val (.int (Int32.ofNat M)), .val (.int (Int32.ofNat (own_cnt M 8))), .val (.ref ar), .val (.int (Int32.ofNat (own_cnt M 8))), .val (.ref er), .val (.int ((Int32.ofNat (own_en M C 5)) + (1 : Int32))), .unset]) rfl k) ?_
          show Wp p e below _ (T20.setTop (mkF m 457 #[.val (.int p0), .val (.int p1), .val (.int (Int32.ofNat C)), .val (.int (Int32.ofNat M)), .val (.int (Int32.ofNat (own_cnt M 8))), .val (.ref ar), .val (.int (Int32.ofNat (own_cnt M 8))), .val (.ref er), .val (.int ((Int32.ofNat (own_en M C 5)) + (1 : Int32))), .unset] []))
          have rw21 : ((Int32.ofNat (own_en M C 5)) + (1 : Int32)) = (Int32.ofNat (own_en M C 6)) := by rw [own_succ]; simp [own_en, hbf, hd]
          rw [rw21]
          show Wp p e below _ (T20.setTop (mkF m 457 #[.val (.int p0), .val (.int p1), .val (.int (Int32.ofNat C)), .val (.int (Int32.ofNat M)), .val (.int (Int32.ofNat (own_cnt M 8))), .val (.ref ar), .val (.int (Int32.ofNat (own_cnt M 8))), .val (.ref er), .val (.int (Int32.ofNat (own_en M C 6))), .unset] []))
          exact J2_6 T20 _ _ X20 rfl zz20 NF20 ar er gna gne nae Vo20 (Vn20.cong (fun t ht => own_stE M C 5 t _ hd hbf E1))
      ·
        have eq3 : own_en M C 6 = own_en M C 5 := by simp [own_en, hd]
        refine Wp.via (fun _ k => XS.icmpYes X.here hx rfl (pc0 := 435) (pc' := 451) rfl (hb hby at_435) rfl (tlt (show Int32.ofNat C < (6 : Int32) from (own_lt (a := C) (b := 6) (by omega) (by omega)).mpr (by omega))).2.2.1 (by decide) (by decide) k) ?_
        show Wp p e below _ (T.setTop (mkF m 451 #[.val (.int p0), .val (.int p1), .val (.int (Int32.ofNat C)), .val (.int (Int32.ofNat M)), .val (.int (Int32.ofNat (own_cnt M 8))), .val (.ref ar), .val (.int (Int32.ofNat (own_cnt M 8))), .val (.ref er), .val (.int (Int32.ofNat (own_en M C 5))), .unset] [(.int (6 : Int32)), (.int (Int32.ofNat (own_en M C 5))), (.ref er)]))
        refine Wp.via (fun _ k => XS.iconst X.here hx rfl (hb hby at_451) k) ?_
        show Wp p e below _ (T.setTop (mkF m 452 #[.val (.int p0), .val (.int p1), .val (.int (Int32.ofNat C)), .val (.int (Int32.ofNat M)), .val (.int (Int32.ofNat (own_cnt M 8))), .val (.ref ar), .val (.int (Int32.ofNat (own_cnt M 8))), .val (.ref er), .val (.int (Int32.ofNat (own_en M C 5))), .unset] [(.int (0 : Int32)), (.int (6 : Int32)), (.int (Int32.ofNat (own_en M C 5))), (.ref er)]))
        obtain ⟨_, _, ⟨T22, L22, k22, n22⟩, -, X22, ⟨Lc22, hQ22, l22, y22, z22⟩, st22⟩ := Jvm.LawKit.callS X hx (y := (⟨"com/example/inverso/inverso/search/DocumentSetsComplementPinLaw", "put", "([IIIZ)I"⟩ : MethodName)) hown (mvT hZ (hw _ (List.mem_of_getElem? (i := 6) rfl))) (mvT hZ (hw _ (List.mem_of_getElem? (i := 7) rfl))) (mvT hZ (hw _ (List.mem_of_getElem? (i := 3) rfl))) (mvT hZ (hw _ (List.mem_of_getElem? (i := 8) rfl))) (by decide) (backOf (W := 0) (rm2_0 l Z aw hw [] er (Int32.ofNat (own_en M C 5)) (6 : Int32)  hh n0 zh ) hZ (hw _ (List.mem_of_getElem? (i := 8) rfl)) (hw _ (List.mem_of_getElem? (i := 3) rfl)) (by decide) (by decide)) (g := (mkF m 452 #[.val (.int p0), .val (.int p1), .val (.int (Int32.ofNat C)), .val (.int (Int32.ofNat M)), .val (.int (Int32.ofNat (own_cnt M 8))), .val (.ref ar), .val (.int (Int32.ofNat (own_cnt M 8))), .val (.ref er), .val (.int (Int32.ofNat (own_en M C 5))), .unset] [(.int (0 : Int32)), (.int (6 : Int32)), (.int (Int32.ofNat (own_en M C 5))), (.ref er)])) rfl (by rw [hml]; rfl) (argsL := [(.ref er), (.int (Int32.ofNat (own_en M C 5))), (.int (6 : Int32)), (.int (0 : Int32))]) (rest := []) (lenOf own_pd1 rfl) rfl (by show 2 * 0 + _ ≤ _; exact Nat.le_of_eq rfl) (hb hby at_452) (fun _ _ => ⟨rfl, eT, (by decide : 2 + 0 ≤ _), (by decide : 16 + 0 ≤ _)⟩)
        dsimp only [Pt.U, Pt.locs, Pt.cells, Pt.slots] at X22 l22 y22 z22 st22 hQ22
        subst l22 y22 z22
        obtain ⟨rfl, N22, e22⟩ := hQ22
        have NF22 := Fr.app NF N22
        refine Wp.via st22 ?_
        show Wp p e below _ (T22.setTop (mkF m 455 #[.val (.int p0), .val (.int p1), .val (.int (Int32.ofNat C)), .val (.int (Int32.ofNat M)), .val (.int (Int32.ofNat (own_cnt M 8))), .val (.ref ar), .val (.int (Int32.ofNat (own_cnt M 8))), .val (.ref er), .val (.int (Int32.ofNat (own_en M C 5))), .unset] [(.int (Int32.ofNat (own_en M C 5)))]))
        refine Wp.via (fun _ k => XS.istore X22.here hx rfl (hb hby at_455) rfl (l' := #[.val (.int p0), .val (.int p1), .val (.int (Int32.ofNat C)), .val (.int (Int32.ofNat M)), .val (.int (Int32.ofNat (own_cnt M 8))), .val (.ref ar), .val (.int (Int32.ofNat (own_cnt M 8))), .val (.ref er), .val (.int (Int32.ofNat (own_en M C 5))), .unset]) rfl k) ?_
        show Wp p e below _ (T22.setTop (mkF m 457 #[.val (.int p0), .val (.int p1), .val (.int (Int32.ofNat C)), .val (.int (Int32.ofNat M)), .val (.int (Int32.ofNat (own_cnt M 8))), .val (.ref ar), .val (.int (Int32.ofNat (own_cnt M 8))), .val (.ref er), .val (.int (Int32.ofNat (own_en M C 5))), .unset] []))
        have rw23 : (Int32.ofNat (own_en M C 5)) = (Int32.ofNat (own_en M C 6)) := by rw [eq3]
        rw [rw23]
        show Wp p e below _ (T22.setTop (mkF m 457 #[.val (.int p0), .val (.int p1), .val (.int (Int32.ofNat C)), .val (.int (Int32.ofNat M)), .val (.int (Int32.ofNat (own_cnt M 8))), .val (.ref ar), .val (.int (Int32.ofNat (own_cnt M 8))), .val (.ref er), .val (.int (Int32.ofNat (own_en M C 6))), .unset] []))
        exact J2_6 T22 _ _ X22 e22 zh NF22 ar er gna gne nae Va (Ve.cong (fun t ht => by rw [eq3]))
    clear J2_6
    have J2_4 : ∀ (T : State) (hh : Heap) (locs : List Loc) (X : Stand p l e room_1 s m #[(.int p0), (.int p1)] below meth c T locs 2 16) (eT : T.heap = hh) (zh : n0 ≤ hh.size) (NF : Fr n0 locs) (ar er : Addr) (gna : n0 ≤ ar) (gne : n0 ≤ er) (nae : ar ≠ er) (Va : Av Z hh ar .int (own_cnt M 8) (fun t => if t < own_cnt M 8 then .int (own_A M t) else .int (0 : Int32))) (Ve : Av Z hh er .int (C - own_cnt M 8) (fun t => if t < own_en M C 4 then .int (own_E M C t) else .int (0 : Int32))), Wp p e below (Gd s (Qo0 Z p0 p1 h0 n0) 16 128) (T.setTop (mkF m 398 #[.val (.int p0), .val (.int p1), .val (.int (Int32.ofNat C)), .val (.int (Int32.ofNat M)), .val (.int (Int32.ofNat (own_cnt M 8))), .val (.ref ar), .val (.int (Int32.ofNat (own_cnt M 8))), .val (.ref er), .val (.int (Int32.ofNat (own_en M C 4))), .unset] [])) := by
      intro T hh locs X eT zh NF ar er gna gne nae Va Ve
      have bd2 := own_ele M C 4
      have bv : f1_0 (Int32.ofNat M) (5 : Int32) = (if M.testBit 4 = true then 1 else 0) := own_bv ⟨M, hM8⟩ ⟨4, by decide⟩
      refine Wp.via (fun _ k => XS.aload X.here hx rfl (hb hby at_398) rfl rfl k) ?_
      show Wp p e below _ (T.setTop (mkF m 400 #[.val (.int p0), .val (.int p1), .val (.int (Int32.ofNat C)), .val (.int (Int32.ofNat M)), .val (.int (Int32.ofNat (own_cnt M 8))), .val (.ref ar), .val (.int (Int32.ofNat (own_cnt M 8))), .val (.ref er), .val (.int (Int32.ofNat (own_en M C 4))), .unset] [(.ref er)]))
      refine Wp.via (fun _ k => XS.iload X.here hx rfl (hb hby at_400) rfl k) ?_
      show Wp p e below _ (T.setTop (mkF m 402 #[.val (.int p0), .val (.int p1), .val (.int (Int32.ofNat C)), .val (.int (Int32.ofNat M)), .val (.int (Int32.ofNat (own_cnt M 8))), .val (.ref ar), .val (.int (Int32.ofNat (own_cnt M 8))), .val (.ref er), .val (.int (Int32.ofNat (own_en M C 4))), .unset] [(.int (Int32.ofNat (own_en M C 4))), (.ref er)]))
      refine Wp.via (fun _ k => XS.iconst X.here hx rfl (hb hby at_402) k) ?_
      show Wp p e below _ (T.setTop (mkF m 403 #[.val (.int p0), .val (.int p1), .val (.int (Int32.ofNat C)), .val (.int (Int32.ofNat M)), .val (.int (Int32.ofNat (own_cnt M 8))), .val (.ref ar), .val (.int (Int32.ofNat (own_cnt M 8))), .val (.ref er), .val (.int (Int32.ofNat (own_en M C 4))), .unset] [(.int (5 : Int32)), (.int (Int32.ofNat (own_en M C 4))), (.ref er)]))
      refine Wp.via (fun _ k => XS.iconst X.here hx rfl (hb hby at_403) k) ?_
      show Wp p e below _ (T.setTop (mkF m 404 #[.val (.int p0), .val (.int p1), .val (.int (Int32.ofNat C)), .val (.int (Int32.ofNat M)), .val (.int (Int32.ofNat (own_cnt M 8))), .val (.ref ar), .val (.int (Int32.ofNat (own_cnt M 8))), .val (.ref er), .val (.int (Int32.ofNat (own_en M C 4))), .unset] [(.int (5 : Int32)), (.int (5 : Int32)), (.int (Int32.ofNat (own_en M C 4))), (.ref er)]))
      refine Wp.via (fun _ k => XS.iloadN X.here hx rfl (hb hby at_404) rfl k) ?_
      show Wp p e below _ (T.setTop (mkF m 405 #[.val (.int p0), .val (.int p1), .val (.int (Int32.ofNat C)), .val (.int (Int32.ofNat M)), .val (.int (Int32.ofNat (own_cnt M 8))), .val (.ref ar), .val (.int (Int32.ofNat (own_cnt M 8))), .val (.ref er), .val (.int (Int32.ofNat (own_en M C 4))), .unset] [(.int (Int32.ofNat C)), (.int (5 : Int32)), (.int (5 : Int32)), (.int (Int32.ofNat (own_en M C 4))), (.ref er)]))
      by_cases hd : 4 < C
      ·
        refine Wp.via (fun _ k => XS.icmpNo X.here hx rfl (hb hby at_405) rfl (flt (show ¬ (Int32.ofNat C < (5 : Int32)) from fun q => by have := (own_lt (a := C) (b := 5) (by omega) (by omega)).mp q; omega)).2.2.1 k) ?_
        show Wp p e below _ (T.setTop (mkF m 408 #[.val (.int p0), .val (.int p1), .val (.int (Int32.ofNat C)), .val (.int (Int32.ofNat M)), .val (.int (Int32.ofNat (own_cnt M 8))), .val (.ref ar), .val (.int (Int32.ofNat (own_cnt M 8))), .val (.ref er), .val (.int (Int32.ofNat (own_en M C 4))), .unset] [(.int (5 : Int32)), (.int (Int32.ofNat (own_en M C 4))), (.ref er)]))
        refine Wp.via (fun _ k => XS.iloadN X.here hx rfl (hb hby at_408) rfl k) ?_
        show Wp p e below _ (T.setTop (mkF m 409 #[.val (.int p0), .val (.int p1), .val (.int (Int32.ofNat C)), .val (.int (Int32.ofNat M)), .val (.int (Int32.ofNat (own_cnt M 8))), .val (.ref ar), .val (.int (Int32.ofNat (own_cnt M 8))), .val (.ref er), .val (.int (Int32.ofNat (own_en M C 4))), .unset] [(.int (Int32.ofNat M)), (.int (5 : Int32)), (.int (Int32.ofNat (own_en M C 4))), (.ref er)]))
        refine Wp.via (fun _ k => XS.iconst X.here hx rfl (hb hby at_409) k) ?_
        show Wp p e below _ (T.setTop (mkF m 410 #[.val (.int p0), .val (.int p1), .val (.int (Int32.ofNat C)), .val (.int (Int32.ofNat M)), .val (.int (Int32.ofNat (own_cnt M 8))), .val (.ref ar), .val (.int (Int32.ofNat (own_cnt M 8))), .val (.ref er), .val (.int (Int32.ofNat (own_en M C 4))), .unset] [(.int (5 : Int32)), (.int (Int32.ofNat M)), (.int (5 : Int32)), (.int (Int32.ofNat (own_en M C 4))), (.ref er)]))
        obtain ⟨_, _, ⟨T24, L24, k24, n24⟩, -, X24, ⟨Lc24, hQ24, l24, y24, z24⟩, st24⟩ := Jvm.LawKit.callS X hx (y := (⟨"com/example/inverso/inverso/search/DocumentSetsComplementPinLaw", "bit", "(II)I"⟩ : MethodName)) hown (mvT hZ (hw _ (List.mem_of_getElem? (i := 1) rfl))) (mvT hZ (hw _ (List.mem_of_getElem? (i := 2) rfl))) (mvT hZ (hw _ (List.mem_of_getElem? (i := 3) rfl))) (mvT hZ (hw _ (List.mem_of_getElem? (i := 4) rfl))) (by decide) (backOf (W := 3) (rm1 l Z aw hw [] (Int32.ofNat M) (5 : Int32)  hh n0 zh ) hZ (hw _ (List.mem_of_getElem? (i := 4) rfl)) (hw _ (List.mem_of_getElem? (i := 3) rfl)) (by decide) (by decide)) (g := (mkF m 410 #[.val (.int p0), .val (.int p1), .val (.int (Int32.ofNat C)), .val (.int (Int32.ofNat M)), .val (.int (Int32.ofNat (own_cnt M 8))), .val (.ref ar), .val (.int (Int32.ofNat (own_cnt M 8))), .val (.ref er), .val (.int (Int32.ofNat (own_en M C 4))), .unset] [(.int (5 : Int32)), (.int (Int32.ofNat M)), (.int (5 : Int32)), (.int (Int32.ofNat (own_en M C 4))), (.ref er)])) rfl (by rw [hml]; rfl) (argsL := [(.int (Int32.ofNat M)), (.int (5 : Int32))]) (rest := [(.int (5 : Int32)), (.int (Int32.ofNat (own_en M C 4))), (.ref er)]) (lenOf own_pd0 rfl) rfl (by show 2 * 0 + _ ≤ _; exact Nat.le_of_eq rfl) (hb hby at_410) (fun _ _ => ⟨rfl, eT, (by decide : 2 + 0 ≤ _), (by decide : 16 + 0 ≤ _)⟩)
        dsimp only [Pt.U, Pt.locs, Pt.cells, Pt.slots] at X24 l24 y24 z24 st24 hQ24
        subst l24 y24 z24
        obtain ⟨rfl, N24, e24⟩ := hQ24
        have NF24 := Fr.app NF N24
        refine Wp.via st24 ?_
        show Wp p e below _ (T24.setTop (mkF m 413 #[.val (.int p0), .val (.int p1), .val (.int (Int32.ofNat C)), .val (.int (Int32.ofNat M)), .val (.int (Int32.ofNat (own_cnt M 8))), .val (.ref ar), .val (.int (Int32.ofNat (own_cnt M 8))), .val (.ref er), .val (.int (Int32.ofNat (own_en M C 4))), .unset] [(.int (f1_0 (Int32.ofNat M) (5 : Int32))), (.int (5 : Int32)), (.int (Int32.ofNat (own_en M C 4))), (.ref er)]))
        by_cases hbt : M.testBit 4 = true
        ·
          have eq3 : own_en M C 5 = own_en M C 4 := by simp [own_en, hbt]
          refine Wp.via (fun _ k => XS.ifYes X24.here hx rfl (pc0 := 413) (pc' := 420) rfl (hb hby at_413) rfl ((if0 _ _).trans (feq (by rw [bv, if_pos hbt]; decide)).2) (by decide) (by decide) k) ?_
          show Wp p e below _ (T24.setTop (mkF m 420 #[.val (.int p0), .val (.int p1), .val (.int (Int32.ofNat C)), .val (.int (Int32.ofNat M)), .val (.int (Int32.ofNat (own_cnt M 8))), .val (.ref ar), .val (.int (Int32.ofNat (own_cnt M 8))), .val (.ref er), .val (.int (Int32.ofNat (own_en M C 4))), .unset] [(.int (5 : Int32)), (.int (Int32.ofNat (own_en M C 4))), (.ref er)]))
          refine Wp.via (fun _ k => XS.iconst X24.here hx rfl (hb hby at_420) k) ?_
          show Wp p e below _ (T24.setTop (mkF m 421 #[.val (.int p0), .val (.int p1), .val (.int (Int32.ofNat C)), .val (.int (Int32.ofNat M)), .val (.int (Int32.ofNat (own_cnt M 8))), .val (.ref ar), .val (.int (Int32.ofNat (own_cnt M 8))), .val (.ref er), .val (.int (Int32.ofNat (own_en M C 4))), .unset] [(.int (0 : Int32)), (.int (5 : Int32)), (.int (Int32.ofNat (own_en M C 4))), (.ref er)]))
          obtain ⟨_, _, ⟨T25, L25, k25, n25⟩, -, X25, ⟨Lc25, hQ25, l25, y25, z25⟩, st25⟩ := Jvm.LawKit.callS X24 hx (y := (⟨"com/example/inverso/inverso/search/DocumentSetsComplementPinLaw", "put", "([IIIZ)I"⟩ : MethodName)) hown (mvT hZ (hw _ (List.mem_of_getElem? (i := 6) rfl))) (mvT hZ (hw _ (List.mem_of_getElem? (i := 7) rfl))) (mvT hZ (hw _ (List.mem_of_getElem? (i := 3) rfl))) (mvT hZ (hw _ (List.mem_of_getElem? (i := 8) rfl))) (by decide) (backOf (W := 0) (rm2_0 l Z aw hw [] er (Int32.ofNat (own_en M C 4)) (5 : Int32)  hh n0 zh ) hZ (hw _ (List.mem_of_getElem? (i := 8) rfl)) (hw _ (List.mem_of_getElem? (i := 3) rfl)) (by decide) (by decide)) (g := (mkF m 421 #[.val (.int p0), .val (.int p1), .val (.int (Int32.ofNat C)), .val (.int (Int32.ofNat M)), .val (.int (Int32.ofNat (own_cnt M 8))), .val (.ref ar), .val (.int (Int32.ofNat (own_cnt M 8))), .val (.ref er), .val (.int (Int32.ofNat (own_en M C 4))), .unset] [(.int (0 : Int32)), (.int (5 : Int32)), (.int (Int32.ofNat (own_en M C 4))), (.ref er)])) rfl (by rw [hml]; rfl) (argsL := [(.ref er), (.int (Int32.ofNat (own_en M C 4))), (.int (5 : Int32)), (.int (0 : Int32))]) (rest := []) (lenOf own_pd1 rfl) rfl (by show 2 * 0 + _ ≤ _; exact Nat.le_of_eq rfl) (hb hby at_421) (fun _ _ => ⟨rfl, e24, (by decide : 2 + 0 ≤ _), (by decide : 16 + 0 ≤ _)⟩)
          dsimp only [Pt.U, Pt.locs, Pt.cells, Pt.slots] at X25 l25 y25 z25 st25 hQ25
          subst l25 y25 z25
          obtain ⟨rfl, N25, e25⟩ := hQ25
          have NF25 := Fr.app NF24 N25
          refine Wp.via st25 ?_
          show Wp p e below _ (T25.setTop (mkF m 424 #[.val (.int p0), .val (.int p1), .val (.int (Int32.ofNat C)), .val (.int (Int32.ofNat M)), .val (.int (Int32.ofNat (own_cnt M 8))), .val (.ref ar), .val (.int (Int32.ofNat (own_cnt M 8))), .val (.ref er), .val (.int (Int32.ofNat (own_en M C 4))), .unset] [(.int (Int32.ofNat (own_en M C 4)))]))
          refine Wp.via (fun _ k => XS.istore X25.here hx rfl (hb hby at_424) rfl (l' := #[.val (.int p0), .val (.int p1), .val (.int (Int32.ofNat C)), .val (.int (Int32.ofNat M)), .val (.int (Int32.ofNat (own_cnt M 8))), .val (.ref ar), .val (.int (Int32.ofNat (own_cnt M 8))), .val (.ref er), .val (.int (Int32.ofNat (own_en M C 4))), .unset]) rfl k) ?_
          show Wp p e below _ (T25.setTop (mkF m 426 #[.val (.int p0), .val (.int p1), .val (.int (Int32.ofNat C)), .val (.int (Int32.ofNat M)), .val (.int (Int32.ofNat (own_cnt M 8))), .val (.ref ar), .val (.int (Int32.ofNat (own_cnt M 8))), .val (.ref er), .val (.int (Int32.ofNat (own_en M C 4))), .unset] []))
          have rw26 : (Int32.ofNat (own_en M C 4)) = (Int32.ofNat (own_en M C 5)) := by rw [eq3]
          rw [rw26]
          show Wp p e below _ (T25.setTop (mkF m 426 #[.val (.int p0), .val (.int p1), .val (.int (Int32.ofNat C)), .val (.int (Int32.ofNat M)), .val (.int (Int32.ofNat (own_cnt M 8))), .val (.ref ar), .val (.int (Int32.ofNat (own_cnt M 8))), .val (.ref er), .val (.int (Int32.ofNat (own_en M C 5))), .unset] []))
          exact J2_5 T25 _ _ X25 e25 zh NF25 ar er gna gne nae Va (Ve.cong (fun t ht => by rw [eq3]))
        ·
          have hbf : M.testBit 4 = false := by simpa using hbt
          obtain ⟨E1, E2⟩ := own_F2 ⟨C, by omega⟩ ⟨M, hM8⟩ hM ⟨4, by decide⟩ hd hbf
          dsimp only at E1 E2
          refine Wp.via (fun _ k => XS.ifNo X24.here hx rfl (hb hby at_413) rfl ((if0 _ _).trans (teq (by rw [bv, if_neg hbt])).2) k) ?_
          show Wp p e below _ (T24.setTop (mkF m 416 #[.val (.int p0), .val (.int p1), .val (.int (Int32.ofNat C)), .val (.int (Int32.ofNat M)), .val (.int (Int32.ofNat (own_cnt M 8))), .val (.ref ar), .val (.int (Int32.ofNat (own_cnt M 8))), .val (.ref er), .val (.int (Int32.ofNat (own_en M C 4))), .unset] [(.int (5 : Int32)), (.int (Int32.ofNat (own_en M C 4))), (.ref er)]))
          refine Wp.via (fun _ k => XS.iconst X24.here hx rfl (hb hby at_416) k) ?_
          show Wp p e below _ (T24.setTop (mkF m 417 #[.val (.int p0), .val (.int p1), .val (.int (Int32.ofNat C)), .val (.int (Int32.ofNat M)), .val (.int (Int32.ofNat (own_cnt M 8))), .val (.ref ar), .val (.int (Int32.ofNat (own_cnt M 8))), .val (.ref er), .val (.int (Int32.ofNat (own_en M C 4))), .unset] [(.int (1 : Int32)), (.int (5 : Int32)), (.int (Int32.ofNat (own_en M C 4))), (.ref er)]))
          refine Wp.via (fun _ k => XS.goto X24.here hx rfl (pc0 := 417) (pc' := 421) rfl (hb hby at_417) (by decide) (by decide) k) ?_
          show Wp p e below _ (T24.setTop (mkF m 421 #[.val (.int p0), .val (.int p1), .val (.int (Int32.ofNat C)), .val (.int (Int32.ofNat M)), .val (.int (Int32.ofNat (own_cnt M 8))), .val (.ref ar), .val (.int (Int32.ofNat (own_cnt M 8))), .val (.ref er), .val (.int (Int32.ofNat (own_en M C 4))), .unset] [(.int (1 : Int32)), (.int (5 : Int32)), (.int (Int32.ofNat (own_en M C 4))), (.ref er)]))
          obtain ⟨_, _, ⟨T27, L27, k27, n27⟩, -, X27, ⟨Lc27, hQ27, l27, y27, z27⟩, st27⟩ := Jvm.LawKit.callS X24 hx (y := (⟨"com/example/inverso/inverso/search/DocumentSetsComplementPinLaw", "put", "([IIIZ)I"⟩ : MethodName)) hown (mvT hZ (hw _ (List.mem_of_getElem? (i := 6) rfl))) (mvT hZ (hw _ (List.mem_of_getElem? (i := 7) rfl))) (mvT hZ (hw _ (List.mem_of_getElem? (i := 3) rfl))) (mvT hZ (hw _ (List.mem_of_getElem? (i := 8) rfl))) (by decide) (backOf (W := 0) (rm2_1 l Z aw hw [] er (Int32.ofNat (own_en M C 4)) (5 : Int32) (C - own_cnt M 8) (own_en M C 4) (fun t => if t < own_en M C 4 then .int (own_E M C t) else .int (0 : Int32)) hh n0 zh Ve gne (own_pos (by omega)) (own_nat (by omega)) E2) hZ (hw _ (List.mem_of_getElem? (i := 8) rfl)) (hw _ (List.mem_of_getElem? (i := 3) rfl)) (by decide) (by decide)) (g := (mkF m 421 #[.val (.int p0), .val (.int p1), .val (.int (Int32.ofNat C)), .val (.int (Int32.ofNat M)), .val (.int (Int32.ofNat (own_cnt M 8))), .val (.ref ar), .val (.int (Int32.ofNat (own_cnt M 8))), .val (.ref er), .val (.int (Int32.ofNat (own_en M C 4))), .unset] [(.int (1 : Int32)), (.int (5 : Int32)), (.int (Int32.ofNat (own_en M C 4))), (.ref er)])) rfl (by rw [hml]; rfl) (argsL := [(.ref er), (.int (Int32.ofNat (own_en M C 4))), (.int (5 : Int32)), (.int (1 : Int32))]) (rest := []) (lenOf own_pd1 rfl) rfl (by show 2 * 0 + _ ≤ _; exact Nat.le_of_eq rfl) (hb hby at_421) (fun _ _ => ⟨rfl, e24, (by decide : 2 + 0 ≤ _), (by decide : 16 + 0 ≤ _)⟩)
          dsimp only [Pt.U, Pt.locs, Pt.cells, Pt.slots] at X27 l27 y27 z27 st27 hQ27
          subst l27 y27 z27
          obtain ⟨rfl, N27, Kc27, Vn27⟩ := hQ27
          have NF27 := Fr.app NF24 N27
          refine Wp.via st27 ?_
          show Wp p e below _ (T27.setTop (mkF m 424 #[.val (.int p0), .val (.int p1), .val (.int (Int32.ofNat C)), .val (.int (Int32.ofNat M)), .val (.int (Int32.ofNat (own_cnt M 8))), .val (.ref ar), .val (.int (Int32.ofNat (own_cnt M 8))), .val (.ref er), .val (.int (Int32.ofNat (own_en M C 4))), .unset] [(.int ((Int32.ofNat (own_en M C 4)) + (1 : Int32)))]))
          have zz27 : n0 ≤ T27.heap.size := Nat.le_trans zh Kc27.1
          have Vo27 := Va.keep Kc27 (ninS nae nin0)
          refine Wp.via (fun _ k => XS.istore X27.here hx rfl (hb hby at_424) rfl (l' := #[.val (.int p0), .val (.int p1), .val (.int (Int32.ofNat C)), .val (.int (Int32.ofNat M)), .val (.int (Int32.ofNat (own_cnt M 8))), .val (.ref ar), .val (.int (Int32.ofNat (own_cnt M 8))), .val (.ref er), .val (.int ((Int32.ofNat (own_en M C 4)) + (1 : Int32))), .unset]) rfl k) ?_
          show Wp p e below _ (T27.setTop (mkF m 426 #[.val (.int p0), .val (.int p1), .val (.int (Int32.ofNat C)), .val (.int (Int32.ofNat M)), .val (.int (Int32.ofNat (own_cnt M 8))), .val (.ref ar), .val (.int (Int32.ofNat (own_cnt M 8))), .val (.ref er), .val (.int ((Int32.ofNat (own_en M C 4)) + (1 : Int32))), .unset] []))
          have rw28 : ((Int32.ofNat (own_en M C 4)) + (1 : Int32)) = (Int32.ofNat (own_en M C 5)) := by rw [own_succ]; simp [own_en, hbf, hd]
          rw [rw28]
          show Wp p e below _ (T27.setTop (mkF m 426 #[.val (.int p0), .val (.int p1), .val (.int (Int32.ofNat C)), .val (.int (Int32.ofNat M)), .val (.int (Int32.ofNat (own_cnt M 8))), .val (.ref ar), .val (.int (Int32.ofNat (own_cnt M 8))), .val (.ref er), .val (.int (Int32.ofNat (own_en M C 5))), .unset] []))
          exact J2_5 T27 _ _ X27 rfl zz27 NF27 ar er gna gne nae Vo27 (Vn27.cong (fun t ht => own_stE M C 4 t _ hd hbf E1))
      ·
        have eq3 : own_en M C 5 = own_en M C 4 := by simp [own_en, hd]
        refine Wp.via (fun _ k => XS.icmpYes X.here hx rfl (pc0 := 405) (pc' := 420) rfl (hb hby at_405) rfl (tlt (show Int32.ofNat C < (5 : Int32) from (own_lt (a := C) (b := 5) (by omega) (by omega)).mpr (by omega))).2.2.1 (by decide) (by decide) k) ?_
        show Wp p e below _ (T.setTop (mkF m 420 #[.val (.int p0), .val (.int p1), .val (.int (Int32.ofNat C)), .val (.int (Int32.ofNat M)), .val (.int (Int32.ofNat (own_cnt M 8))), .val (.ref ar), .val (.int (Int32.ofNat (own_cnt M 8))), .val (.ref er), .val (.int (Int32.ofNat (own_en M C 4))), .unset] [(.int (5 : Int32)), (.int (Int32.ofNat (own_en M C 4))), (.ref er)]))
        refine Wp.via (fun _ k => XS.iconst X.here hx rfl (hb hby at_420) k) ?_
        show Wp p e below _ (T.setTop (mkF m 421 #[.val (.int p0), .val (.int p1), .val (.int (Int32.ofNat C)), .val (.int (Int32.ofNat M)), .val (.int (Int32.ofNat (own_cnt M 8))), .val (.ref ar), .val (.int (Int32.ofNat (own_cnt M 8))), .val (.ref er), .val (.int (Int32.ofNat (own_en M C 4))), .unset] [(.int (0 : Int32)), (.int (5 : Int32)), (.int (Int32.ofNat (own_en M C 4))), (.ref er)]))
        obtain ⟨_, _, ⟨T29, L29, k29, n29⟩, -, X29, ⟨Lc29, hQ29, l29, y29, z29⟩, st29⟩ := Jvm.LawKit.callS X hx (y := (⟨"com/example/inverso/inverso/search/DocumentSetsComplementPinLaw", "put", "([IIIZ)I"⟩ : MethodName)) hown (mvT hZ (hw _ (List.mem_of_getElem? (i := 6) rfl))) (mvT hZ (hw _ (List.mem_of_getElem? (i := 7) rfl))) (mvT hZ (hw _ (List.mem_of_getElem? (i := 3) rfl))) (mvT hZ (hw _ (List.mem_of_getElem? (i := 8) rfl))) (by decide) (backOf (W := 0) (rm2_0 l Z aw hw [] er (Int32.ofNat (own_en M C 4)) (5 : Int32)  hh n0 zh ) hZ (hw _ (List.mem_of_getElem? (i := 8) rfl)) (hw _ (List.mem_of_getElem? (i := 3) rfl)) (by decide) (by decide)) (g := (mkF m 421 #[.val (.int p0), .val (.int p1), .val (.int (Int32.ofNat C)), .val (.int (Int32.ofNat M)), .val (.int (Int32.ofNat (own_cnt M 8))), .val (.ref ar), .val (.int (Int32.ofNat (own_cnt M 8))), .val (.ref er), .val (.int (Int32.ofNat (own_en M C 4))), .unset] [(.int (0 : Int32)), (.int (5 : Int32)), (.int (Int32.ofNat (own_en M C 4))), (.ref er)])) rfl (by rw [hml]; rfl) (argsL := [(.ref er), (.int (Int32.ofNat (own_en M C 4))), (.int (5 : Int32)), (.int (0 : Int32))]) (rest := []) (lenOf own_pd1 rfl) rfl (by show 2 * 0 + _ ≤ _; exact Nat.le_of_eq rfl) (hb hby at_421) (fun _ _ => ⟨rfl, eT, (by decide : 2 + 0 ≤ _), (by decide : 16 + 0 ≤ _)⟩)
        dsimp only [Pt.U, Pt.locs, Pt.cells, Pt.slots] at X29 l29 y29 z29 st29 hQ29
        subst l29 y29 z29
        obtain ⟨rfl, N29, e29⟩ := hQ29
        have NF29 := Fr.app NF N29
        refine Wp.via st29 ?_
        show Wp p e below _ (T29.setTop (mkF m 424 #[.val (.int p0), .val (.int p1), .val (.int (Int32.ofNat C)), .val (.int (Int32.ofNat M)), .val (.int (Int32.ofNat (own_cnt M 8))), .val (.ref ar), .val (.int (Int32.ofNat (own_cnt M 8))), .val (.ref er), .val (.int (Int32.ofNat (own_en M C 4))), .unset] [(.int (Int32.ofNat (own_en M C 4)))]))
        refine Wp.via (fun _ k => XS.istore X29.here hx rfl (hb hby at_424) rfl (l' := #[.val (.int p0), .val (.int p1), .val (.int (Int32.ofNat C)), .val (.int (Int32.ofNat M)), .val (.int (Int32.ofNat (own_cnt M 8))), .val (.ref ar), .val (.int (Int32.ofNat (own_cnt M 8))), .val (.ref er), .val (.int (Int32.ofNat (own_en M C 4))), .unset]) rfl k) ?_
        show Wp p e below _ (T29.setTop (mkF m 426 #[.val (.int p0), .val (.int p1), .val (.int (Int32.ofNat C)), .val (.int (Int32.ofNat M)), .val (.int (Int32.ofNat (own_cnt M 8))), .val (.ref ar), .val (.int (Int32.ofNat (own_cnt M 8))), .val (.ref er), .val (.int (Int32.ofNat (own_en M C 4))), .unset] []))
        have rw30 : (Int32.ofNat (own_en M C 4)) = (Int32.ofNat (own_en M C 5)) := by rw [eq3]
        rw [rw30]
        show Wp p e below _ (T29.setTop (mkF m 426 #[.val (.int p0), .val (.int p1), .val (.int (Int32.ofNat C)), .val (.int (Int32.ofNat M)), .val (.int (Int32.ofNat (own_cnt M 8))), .val (.ref ar), .val (.int (Int32.ofNat (own_cnt M 8))), .val (.ref er), .val (.int (Int32.ofNat (own_en M C 5))), .unset] []))
        exact J2_5 T29 _ _ X29 e29 zh NF29 ar er gna gne nae Va (Ve.cong (fun t ht => by rw [eq3]))
    clear J2_5
    have J2_3 : ∀ (T : State) (hh : Heap) (locs : List Loc) (X : Stand p l e room_1 s m #[(.int p0), (.int p1)] below meth c T locs 2 16) (eT : T.heap = hh) (zh : n0 ≤ hh.size) (NF : Fr n0 locs) (ar er : Addr) (gna : n0 ≤ ar) (gne : n0 ≤ er) (nae : ar ≠ er) (Va : Av Z hh ar .int (own_cnt M 8) (fun t => if t < own_cnt M 8 then .int (own_A M t) else .int (0 : Int32))) (Ve : Av Z hh er .int (C - own_cnt M 8) (fun t => if t < own_en M C 3 then .int (own_E M C t) else .int (0 : Int32))), Wp p e below (Gd s (Qo0 Z p0 p1 h0 n0) 16 128) (T.setTop (mkF m 370 #[.val (.int p0), .val (.int p1), .val (.int (Int32.ofNat C)), .val (.int (Int32.ofNat M)), .val (.int (Int32.ofNat (own_cnt M 8))), .val (.ref ar), .val (.int (Int32.ofNat (own_cnt M 8))), .val (.ref er), .val (.int (Int32.ofNat (own_en M C 3))), .unset] [])) := by
      intro T hh locs X eT zh NF ar er gna gne nae Va Ve
      have bd2 := own_ele M C 3
      have bv : f1_0 (Int32.ofNat M) (4 : Int32) = (if M.testBit 3 = true then 1 else 0) := own_bv ⟨M, hM8⟩ ⟨3, by decide⟩
      refine Wp.via (fun _ k => XS.aload X.here hx rfl (hb hby at_370) rfl rfl k) ?_
      show Wp p e below _ (T.setTop (mkF m 372 #[.val (.int p0), .val (.int p1), .val (.int (Int32.ofNat C)), .val (.int (Int32.ofNat M)), .val (.int (Int32.ofNat (own_cnt M 8))), .val (.ref ar), .val (.int (Int32.ofNat (own_cnt M 8))), .val (.ref er), .val (.int (Int32.ofNat (own_en M C 3))), .unset] [(.ref er)]))
      refine Wp.via (fun _ k => XS.iload X.here hx rfl (hb hby at_372) rfl k) ?_
      show Wp p e below _ (T.setTop (mkF m 374 #[.val (.int p0), .val (.int p1), .val (.int (Int32.ofNat C)), .val (.int (Int32.ofNat M)), .val (.int (Int32.ofNat (own_cnt M 8))), .val (.ref ar), .val (.int (Int32.ofNat (own_cnt M 8))), .val (.ref er), .val (.int (Int32.ofNat (own_en M C 3))), .unset] [(.int (Int32.ofNat (own_en M C 3))), (.ref er)]))
      refine Wp.via (fun _ k => XS.iconst X.here hx rfl (hb hby at_374) k) ?_
      show Wp p e below _ (T.setTop (mkF m 375 #[.val (.int p0), .val (.int p1), .val (.int (Int32.ofNat C)), .val (.int (Int32.ofNat M)), .val (.int (Int32.ofNat (own_cnt M 8))), .val (.ref ar), .val (.int (Int32.ofNat (own_cnt M 8))), .val (.ref er), .val (.int (Int32.ofNat (own_en M C 3))), .unset] [(.int (4 : Int32)), (.int (Int32.ofNat (own_en M C 3))), (.ref er)]))
      refine Wp.via (fun _ k => XS.iconst X.here hx rfl (hb hby at_375) k) ?_
      show Wp p e below _ (T.setTop (mkF m 376 #[.val (.int p0), .val (.int p1), .val (.int (Int32.ofNat C)), .val (.int (Int32.ofNat M)), .val (.int (Int32.ofNat (own_cnt M 8))), .val (.ref ar), .val (.int (Int32.ofNat (own_cnt M 8))), .val (.ref er), .val (.int (Int32.ofNat (own_en M C 3))), .unset] [(.int (4 : Int32)), (.int (4 : Int32)), (.int (Int32.ofNat (own_en M C 3))), (.ref er)]))
      refine Wp.via (fun _ k => XS.iloadN X.here hx rfl (hb hby at_376) rfl k) ?_
      show Wp p e below _ (T.setTop (mkF m 377 #[.val (.int p0), .val (.int p1), .val (.int (Int32.ofNat C)), .val (.int (Int32.ofNat M)), .val (.int (Int32.ofNat (own_cnt M 8))), .val (.ref ar), .val (.int (Int32.ofNat (own_cnt M 8))), .val (.ref er), .val (.int (Int32.ofNat (own_en M C 3))), .unset] [(.int (Int32.ofNat C)), (.int (4 : Int32)), (.int (4 : Int32)), (.int (Int32.ofNat (own_en M C 3))), (.ref er)]))
      by_cases hd : 3 < C
      ·
        refine Wp.via (fun _ k => XS.icmpNo X.here hx rfl (hb hby at_377) rfl (flt (show ¬ (Int32.ofNat C < (4 : Int32)) from fun q => by have := (own_lt (a := C) (b := 4) (by omega) (by omega)).mp q; omega)).2.2.1 k) ?_
        show Wp p e below _ (T.setTop (mkF m 380 #[.val (.int p0), .val (.int p1), .val (.int (Int32.ofNat C)), .val (.int (Int32.ofNat M)), .val (.int (Int32.ofNat (own_cnt M 8))), .val (.ref ar), .val (.int (Int32.ofNat (own_cnt M 8))), .val (.ref er), .val (.int (Int32.ofNat (own_en M C 3))), .unset] [(.int (4 : Int32)), (.int (Int32.ofNat (own_en M C 3))), (.ref er)]))
        refine Wp.via (fun _ k => XS.iloadN X.here hx rfl (hb hby at_380) rfl k) ?_
        show Wp p e below _ (T.setTop (mkF m 381 #[.val (.int p0), .val (.int p1), .val (.int (Int32.ofNat C)), .val (.int (Int32.ofNat M)), .val (.int (Int32.ofNat (own_cnt M 8))), .val (.ref ar), .val (.int (Int32.ofNat (own_cnt M 8))), .val (.ref er), .val (.int (Int32.ofNat (own_en M C 3))), .unset] [(.int (Int32.ofNat M)), (.int (4 : Int32)), (.int (Int32.ofNat (own_en M C 3))), (.ref er)]))
        refine Wp.via (fun _ k => XS.iconst X.here hx rfl (hb hby at_381) k) ?_
        show Wp p e below _ (T.setTop (mkF m 382 #[.val (.int p0), .val (.int p1), .val (.int (Int32.ofNat C)), .val (.int (Int32.ofNat M)), .val (.int (Int32.ofNat (own_cnt M 8))), .val (.ref ar), .val (.int (Int32.ofNat (own_cnt M 8))), .val (.ref er), .val (.int (Int32.ofNat (own_en M C 3))), .unset] [(.int (4 : Int32)), (.int (Int32.ofNat M)), (.int (4 : Int32)), (.int (Int32.ofNat (own_en M C 3))), (.ref er)]))
        obtain ⟨_, _, ⟨T31, L31, k31, n31⟩, -, X31, ⟨Lc31, hQ31, l31, y31, z31⟩, st31⟩ := Jvm.LawKit.callS X hx (y := (⟨"com/example/inverso/inverso/search/DocumentSetsComplementPinLaw", "bit", "(II)I"⟩ : MethodName)) hown (mvT hZ (hw _ (List.mem_of_getElem? (i := 1) rfl))) (mvT hZ (hw _ (List.mem_of_getElem? (i := 2) rfl))) (mvT hZ (hw _ (List.mem_of_getElem? (i := 3) rfl))) (mvT hZ (hw _ (List.mem_of_getElem? (i := 4) rfl))) (by decide) (backOf (W := 3) (rm1 l Z aw hw [] (Int32.ofNat M) (4 : Int32)  hh n0 zh ) hZ (hw _ (List.mem_of_getElem? (i := 4) rfl)) (hw _ (List.mem_of_getElem? (i := 3) rfl)) (by decide) (by decide)) (g := (mkF m 382 #[.val (.int p0), .val (.int p1), .val (.int (Int32.ofNat C)), .val (.int (Int32.ofNat M)), .val (.int (Int32.ofNat (own_cnt M 8))), .val (.ref ar), .val (.int (Int32.ofNat (own_cnt M 8))), .val (.ref er), .val (.int (Int32.ofNat (own_en M C 3))), .unset] [(.int (4 : Int32)), (.int (Int32.ofNat M)), (.int (4 : Int32)), (.int (Int32.ofNat (own_en M C 3))), (.ref er)])) rfl (by rw [hml]; rfl) (argsL := [(.int (Int32.ofNat M)), (.int (4 : Int32))]) (rest := [(.int (4 : Int32)), (.int (Int32.ofNat (own_en M C 3))), (.ref er)]) (lenOf own_pd0 rfl) rfl (by show 2 * 0 + _ ≤ _; exact Nat.le_of_eq rfl) (hb hby at_382) (fun _ _ => ⟨rfl, eT, (by decide : 2 + 0 ≤ _), (by decide : 16 + 0 ≤ _)⟩)
        dsimp only [Pt.U, Pt.locs, Pt.cells, Pt.slots] at X31 l31 y31 z31 st31 hQ31
        subst l31 y31 z31
        obtain ⟨rfl, N31, e31⟩ := hQ31
        have NF31 := Fr.app NF N31
        refine Wp.via st31 ?_
        show Wp p e below _ (T31.setTop (mkF m 385 #[.val (.int p0), .val (.int p1), .val (.int (Int32.ofNat C)), .val (.int (Int32.ofNat M)), .val (.int (Int32.ofNat (own_cnt M 8))), .val (.ref ar), .val (.int (Int32.ofNat (own_cnt M 8))), .val (.ref er), .val (.int (Int32.ofNat (own_en M C 3))), .unset] [(.int (f1_0 (Int32.ofNat M) (4 : Int32))), (.int (4 : Int32)), (.int (Int32.ofNat (own_en M C 3))), (.ref er)]))
        by_cases hbt : M.testBit 3 = true
        ·
          have eq3 : own_en M C 4 = own_en M C 3 := by simp [own_en, hbt]
          refine Wp.via (fun _ k => XS.ifYes X31.here hx rfl (pc0 := 385) (pc' := 392) rfl (hb hby at_385) rfl ((if0 _ _).trans (feq (by rw [bv, if_pos hbt]; decide)).2) (by decide) (by decide) k) ?_
          show Wp p e below _ (T31.setTop (mkF m 392 #[.val (.int p0), .val (.int p1), .val (.int (Int32.ofNat C)), .val (.int (Int32.ofNat M)), .val (.int (Int32.ofNat (own_cnt M 8))), .val (.ref ar), .val (.int (Int32.ofNat (own_cnt M 8))), .val (.ref er), .val (.int (Int32.ofNat (own_en M C 3))), .unset] [(.int (4 : Int32)), (.int (Int32.ofNat (own_en M C 3))), (.ref er)]))
          refine Wp.via (fun _ k => XS.iconst X31.here hx rfl (hb hby at_392) k) ?_
          show Wp p e below _ (T31.setTop (mkF m 393 #[.val (.int p0), .val (.int p1), .val (.int (Int32.ofNat C)), .val (.int (Int32.ofNat M)), .val (.int (Int32.ofNat (own_cnt M 8))), .val (.ref ar), .val (.int (Int32.ofNat (own_cnt M 8))), .val (.ref er), .val (.int (Int32.ofNat (own_en M C 3))), .unset] [(.int (0 : Int32)), (.int (4 : Int32)), (.int (Int32.ofNat (own_en M C 3))), (.ref er)]))
          obtain ⟨_, _, ⟨T32, L32, k32, n32⟩, -, X32, ⟨Lc32, hQ32, l32, y32, z32⟩, st32⟩ := Jvm.LawKit.callS X31 hx (y := (⟨"com/example/inverso/inverso/search/DocumentSetsComplementPinLaw", "put", "([IIIZ)I"⟩ : MethodName)) hown (mvT hZ (hw _ (List.mem_of_getElem? (i := 6) rfl))) (mvT hZ (hw _ (List.mem_of_getElem? (i := 7) rfl))) (mvT hZ (hw _ (List.mem_of_getElem? (i := 3) rfl))) (mvT hZ (hw _ (List.mem_of_getElem? (i := 8) rfl))) (by decide) (backOf (W := 0) (rm2_0 l Z aw hw [] er (Int32.ofNat (own_en M C 3)) (4 : Int32)  hh n0 zh ) hZ (hw _ (List.mem_of_getElem? (i := 8) rfl)) (hw _ (List.mem_of_getElem? (i := 3) rfl)) (by decide) (by decide)) (g := (mkF m 393 #[.val (.int p0), .val (.int p1), .val (.int (Int32.ofNat C)), .val (.int (Int32.ofNat M)), .val (.int (Int32.ofNat (own_cnt M 8))), .val (.ref ar), .val (.int (Int32.ofNat (own_cnt M 8))), .val (.ref er), .val (.int (Int32.ofNat (own_en M C 3))), .unset] [(.int (0 : Int32)), (.int (4 : Int32)), (.int (Int32.ofNat (own_en M C 3))), (.ref er)])) rfl (by rw [hml]; rfl) (argsL := [(.ref er), (.int (Int32.ofNat (own_en M C 3))), (.int (4 : Int32)), (.int (0 : Int32))]) (rest := []) (lenOf own_pd1 rfl) rfl (by show 2 * 0 + _ ≤ _; exact Nat.le_of_eq rfl) (hb hby at_393) (fun _ _ => ⟨rfl, e31, (by decide : 2 + 0 ≤ _), (by decide : 16 + 0 ≤ _)⟩)
          dsimp only [Pt.U, Pt.locs, Pt.cells, Pt.slots] at X32 l32 y32 z32 st32 hQ32
          subst l32 y32 z32
          obtain ⟨rfl, N32, e32⟩ := hQ32
          have NF32 := Fr.app NF31 N32
          refine Wp.via st32 ?_
          show Wp p e below _ (T32.setTop (mkF m 396 #[.val (.int p0), .val (.int p1), .val (.int (Int32.ofNat C)), .val (.int (Int32.ofNat M)), .val (.int (Int32.ofNat (own_cnt M 8))), .val (.ref ar), .val (.int (Int32.ofNat (own_cnt M 8))), .val (.ref er), .val (.int (Int32.ofNat (own_en M C 3))), .unset] [(.int (Int32.ofNat (own_en M C 3)))]))
          refine Wp.via (fun _ k => XS.istore X32.here hx rfl (hb hby at_396) rfl (l' := #[.val (.int p0), .val (.int p1), .val (.int (Int32.ofNat C)), .val (.int (Int32.ofNat M)), .val (.int (Int32.ofNat (own_cnt M 8))), .val (.ref ar), .val (.int (Int32.ofNat (own_cnt M 8))), .val (.ref er), .val (.int (Int32.ofNat (own_en M C 3))), .unset]) rfl k) ?_
          show Wp p e below _ (T32.setTop (mkF m 398 #[.val (.int p0), .val (.int p1), .val (.int (Int32.ofNat C)), .val (.int (Int32.ofNat M)), .val (.int (Int32.ofNat (own_cnt M 8))), .val (.ref ar), .val (.int (Int32.ofNat (own_cnt M 8))), .val (.ref er), .val (.int (Int32.ofNat (own_en M C 3))), .unset] []))
          have rw33 : (Int32.ofNat (own_en M C 3)) = (Int32.ofNat (own_en M C 4)) := by rw [eq3]
          rw [rw33]
          show Wp p e below _ (T32.setTop (mkF m 398 #[.val (.int p0), .val (.int p1), .val (.int (Int32.ofNat C)), .val (.int (Int32.ofNat M)), .val (.int (Int32.ofNat (own_cnt M 8))), .val (.ref ar), .val (.int (Int32.ofNat (own_cnt M 8))), .val (.ref er), .val (.int (Int32.ofNat (own_en M C 4))), .unset] []))
          exact J2_4 T32 _ _ X32 e32 zh NF32 ar er gna gne nae Va (Ve.cong (fun t ht => by rw [eq3]))
        ·
          have hbf : M.testBit 3 = false := by simpa using hbt
          obtain ⟨E1, E2⟩ := own_F2 ⟨C, by omega⟩ ⟨M, hM8⟩ hM ⟨3, by decide⟩ hd hbf
          dsimp only at E1 E2
          refine Wp.via (fun _ k => XS.ifNo X31.here hx rfl (hb hby at_385) rfl ((if0 _ _).trans (teq (by rw [bv, if_neg hbt])).2) k) ?_
          show Wp p e below _ (T31.setTop (mkF m 388 #[.val (.int p0), .val (.int p1), .val (.int (Int32.ofNat C)), .val (.int (Int32.ofNat M)), .val (.int (Int32.ofNat (own_cnt M 8))), .val (.ref ar), .val (.int (Int32.ofNat (own_cnt M 8))), .val (.ref er), .val (.int (Int32.ofNat (own_en M C 3))), .unset] [(.int (4 : Int32)), (.int (Int32.ofNat (own_en M C 3))), (.ref er)]))
          refine Wp.via (fun _ k => XS.iconst X31.here hx rfl (hb hby at_388) k) ?_
          show Wp p e below _ (T31.setTop (mkF m 389 #[.val (.int p0), .val (.int p1), .val (.int (Int32.ofNat C)), .val (.int (Int32.ofNat M)), .val (.int (Int32.ofNat (own_cnt M 8))), .val (.ref ar), .val (.int (Int32.ofNat (own_cnt M 8))), .val (.ref er), .val (.int (Int32.ofNat (own_en M C 3))), .unset] [(.int (1 : Int32)), (.int (4 : Int32)), (.int (Int32.ofNat (own_en M C 3))), (.ref er)]))
          refine Wp.via (fun _ k => XS.goto X31.here hx rfl (pc0 := 389) (pc' := 393) rfl (hb hby at_389) (by decide) (by decide) k) ?_
          show Wp p e below _ (T31.setTop (mkF m 393 #[.val (.int p0), .val (.int p1), .val (.int (Int32.ofNat C)), .val (.int (Int32.ofNat M)), .val (.int (Int32.ofNat (own_cnt M 8))), .val (.ref ar), .val (.int (Int32.ofNat (own_cnt M 8))), .val (.ref er), .val (.int (Int32.ofNat (own_en M C 3))), .unset] [(.int (1 : Int32)), (.int (4 : Int32)), (.int (Int32.ofNat (own_en M C 3))), (.ref er)]))
          obtain ⟨_, _, ⟨T34, L34, k34, n34⟩, -, X34, ⟨Lc34, hQ34, l34, y34, z34⟩, st34⟩ := Jvm.LawKit.callS X31 hx (y := (⟨"com/example/inverso/inverso/search/DocumentSetsComplementPinLaw", "put", "([IIIZ)I"⟩ : MethodName)) hown (mvT hZ (hw _ (List.mem_of_getElem? (i := 6) rfl))) (mvT hZ (hw _ (List.mem_of_getElem? (i := 7) rfl))) (mvT hZ (hw _ (List.mem_of_getElem? (i := 3) rfl))) (mvT hZ (hw _ (List.mem_of_getElem? (i := 8) rfl))) (by decide) (backOf (W := 0) (rm2_1 l Z aw hw [] er (Int32.ofNat (own_en M C 3)) (4 : Int32) (C - own_cnt M 8) (own_en M C 3) (fun t => if t < own_en M C 3 then .int (own_E M C t) else .int (0 : Int32)) hh n0 zh Ve gne (own_pos (by omega)) (own_nat (by omega)) E2) hZ (hw _ (List.mem_of_getElem? (i := 8) rfl)) (hw _ (List.mem_of_getElem? (i := 3) rfl)) (by decide) (by decide)) (g := (mkF m 393 #[.val (.int p0), .val (.int p1), .val (.int (Int32.ofNat C)), .val (.int (Int32.ofNat M)), .val (.int (Int32.ofNat (own_cnt M 8))), .val (.ref ar), .val (.int (Int32.ofNat (own_cnt M 8))), .val (.ref er), .val (.int (Int32.ofNat (own_en M C 3))), .unset] [(.int (1 : Int32)), (.int (4 : Int32)), (.int (Int32.ofNat (own_en M C 3))), (.ref er)])) rfl (by rw [hml]; rfl) (argsL := [(.ref er), (.int (Int32.ofNat (own_en M C 3))), (.int (4 : Int32)), (.int (1 : Int32))]) (rest := []) (lenOf own_pd1 rfl) rfl (by show 2 * 0 + _ ≤ _; exact Nat.le_of_eq rfl) (hb hby at_393) (fun _ _ => ⟨rfl, e31, (by decide : 2 + 0 ≤ _), (by decide : 16 + 0 ≤ _)⟩)
          dsimp only [Pt.U, Pt.locs, Pt.cells, Pt.slots] at X34 l34 y34 z34 st34 hQ34
          subst l34 y34 z34
          obtain ⟨rfl, N34, Kc34, Vn34⟩ := hQ34
          have NF34 := Fr.app NF31 N34
          refine Wp.via st34 ?_
          show Wp p e below _ (T34.setTop (mkF m 396 #[.val (.int p0), .val (.int p1), .val (.int (Int32.ofNat C)), .val (.int (Int32.ofNat M)), .val (.int (Int32.ofNat (own_cnt M 8))), .val (.ref ar), .val (.int (Int32.ofNat (own_cnt M 8))), .val (.ref er), .val (.int (Int32.ofNat (own_en M C 3))), .unset] [(.int ((Int32.ofNat (own_en M C 3)) + (1 : Int32)))]))
          have zz34 : n0 ≤ T34.heap.size := Nat.le_trans zh Kc34.1
          have Vo34 := Va.keep Kc34 (ninS nae nin0)
          refine Wp.via (fun _ k => XS.istore X34.here hx rfl (hb hby at_396) rfl (l' := #[.val (.int p0), .val (.int p1), .val (.int (Int32.ofNat C)), .val (.int (Int32.ofNat M)), .val (.int (Int32.ofNat (own_cnt M 8))), .val (.ref ar), .val (.int (Int32.ofNat (own_cnt M 8))), .val (.ref er), .val (.int ((Int32.ofNat (own_en M C 3)) + (1 : Int32))), .unset]) rfl k) ?_
          show Wp p e below _ (T34.setTop (mkF m 398 #[.val (.int p0), .val (.int p1), .val (.int (Int32.ofNat C)), .val (.int (Int32.ofNat M)), .val (.int (Int32.ofNat (own_cnt M 8))), .val (.ref ar), .val (.int (Int32.ofNat (own_cnt M 8))), .val (.ref er), .val (.int ((Int32.ofNat (own_en M C 3)) + (1 : Int32))), .unset] []))
          have rw35 : ((Int32.ofNat (own_en M C 3)) + (1 : Int32)) = (Int32.ofNat (own_en M C 4)) := by rw [own_succ]; simp [own_en, hbf, hd]
          rw [rw35]
          show Wp p e below _ (T34.setTop (mkF m 398 #[.val (.int p0), .val (.int p1), .val (.int (Int32.ofNat C)), .val (.int (Int32.ofNat M)), .val (.int (Int32.ofNat (own_cnt M 8))), .val (.ref ar), .val (.int (Int32.ofNat (own_cnt M 8))), .val (.ref er), .val (.int (Int32.ofNat (own_en M C 4))), .unset] []))
          exact J2_4 T34 _ _ X34 rfl zz34 NF34 ar er gna gne nae Vo34 (Vn34.cong (fun t ht => own_stE M C 3 t _ hd hbf E1))
      ·
        have eq3 : own_en M C 4 = own_en M C 3 := by simp [own_en, hd]
        refine Wp.via (fun _ k => XS.icmpYes X.here hx rfl (pc0 := 377) (pc' := 392) rfl (hb hby at_377) rfl (tlt (show Int32.ofNat C < (4 : Int32) from (own_lt (a := C) (b := 4) (by omega) (by omega)).mpr (by omega))).2.2.1 (by decide) (by decide) k) ?_
        show Wp p e below _ (T.setTop (mkF m 392 #[.val (.int p0), .val (.int p1), .val (.int (Int32.ofNat C)), .val (.int (Int32.ofNat M)), .val (.int (Int32.ofNat (own_cnt M 8))), .val (.ref ar), .val (.int (Int32.ofNat (own_cnt M 8))), .val (.ref er), .val (.int (Int32.ofNat (own_en M C 3))), .unset] [(.int (4 : Int32)), (.int (Int32.ofNat (own_en M C 3))), (.ref er)]))
        refine Wp.via (fun _ k => XS.iconst X.here hx rfl (hb hby at_392) k) ?_
        show Wp p e below _ (T.setTop (mkF m 393 #[.val (.int p0), .val (.int p1), .val (.int (Int32.ofNat C)), .val (.int (Int32.ofNat M)), .val (.int (Int32.ofNat (own_cnt M 8))), .val (.ref ar), .val (.int (Int32.ofNat (own_cnt M 8))), .val (.ref er), .val (.int (Int32.ofNat (own_en M C 3))), .unset] [(.int (0 : Int32)), (.int (4 : Int32)), (.int (Int32.ofNat (own_en M C 3))), (.ref er)]))
        obtain ⟨_, _, ⟨T36, L36, k36, n36⟩, -, X36, ⟨Lc36, hQ36, l36, y36, z36⟩, st36⟩ := Jvm.LawKit.callS X hx (y := (⟨"com/example/inverso/inverso/search/DocumentSetsComplementPinLaw", "put", "([IIIZ)I"⟩ : MethodName)) hown (mvT hZ (hw _ (List.mem_of_getElem? (i := 6) rfl))) (mvT hZ (hw _ (List.mem_of_getElem? (i := 7) rfl))) (mvT hZ (hw _ (List.mem_of_getElem? (i := 3) rfl))) (mvT hZ (hw _ (List.mem_of_getElem? (i := 8) rfl))) (by decide) (backOf (W := 0) (rm2_0 l Z aw hw [] er (Int32.ofNat (own_en M C 3)) (4 : Int32)  hh n0 zh ) hZ (hw _ (List.mem_of_getElem? (i := 8) rfl)) (hw _ (List.mem_of_getElem? (i := 3) rfl)) (by decide) (by decide)) (g := (mkF m 393 #[.val (.int p0), .val (.int p1), .val (.int (Int32.ofNat C)), .val (.int (Int32.ofNat M)), .val (.int (Int32.ofNat (own_cnt M 8))), .val (.ref ar), .val (.int (Int32.ofNat (own_cnt M 8))), .val (.ref er), .val (.int (Int32.ofNat (own_en M C 3))), .unset] [(.int (0 : Int32)), (.int (4 : Int32)), (.int (Int32.ofNat (own_en M C 3))), (.ref er)])) rfl (by rw [hml]; rfl) (argsL := [(.ref er), (.int (Int32.ofNat (own_en M C 3))), (.int (4 : Int32)), (.int (0 : Int32))]) (rest := []) (lenOf own_pd1 rfl) rfl (by show 2 * 0 + _ ≤ _; exact Nat.le_of_eq rfl) (hb hby at_393) (fun _ _ => ⟨rfl, eT, (by decide : 2 + 0 ≤ _), (by decide : 16 + 0 ≤ _)⟩)
        dsimp only [Pt.U, Pt.locs, Pt.cells, Pt.slots] at X36 l36 y36 z36 st36 hQ36
        subst l36 y36 z36
        obtain ⟨rfl, N36, e36⟩ := hQ36
        have NF36 := Fr.app NF N36
        refine Wp.via st36 ?_
        show Wp p e below _ (T36.setTop (mkF m 396 #[.val (.int p0), .val (.int p1), .val (.int (Int32.ofNat C)), .val (.int (Int32.ofNat M)), .val (.int (Int32.ofNat (own_cnt M 8))), .val (.ref ar), .val (.int (Int32.ofNat (own_cnt M 8))), .val (.ref er), .val (.int (Int32.ofNat (own_en M C 3))), .unset] [(.int (Int32.ofNat (own_en M C 3)))]))
        refine Wp.via (fun _ k => XS.istore X36.here hx rfl (hb hby at_396) rfl (l' := #[.val (.int p0), .val (.int p1), .val (.int (Int32.ofNat C)), .val (.int (Int32.ofNat M)), .val (.int (Int32.ofNat (own_cnt M 8))), .val (.ref ar), .val (.int (Int32.ofNat (own_cnt M 8))), .val (.ref er), .val (.int (Int32.ofNat (own_en M C 3))), .unset]) rfl k) ?_
        show Wp p e below _ (T36.setTop (mkF m 398 #[.val (.int p0), .val (.int p1), .val (.int (Int32.ofNat C)), .val (.int (Int32.ofNat M)), .val (.int (Int32.ofNat (own_cnt M 8))), .val (.ref ar), .val (.int (Int32.ofNat (own_cnt M 8))), .val (.ref er), .val (.int (Int32.ofNat (own_en M C 3))), .unset] []))
        have rw37 : (Int32.ofNat (own_en M C 3)) = (Int32.ofNat (own_en M C 4)) := by rw [eq3]
        rw [rw37]
        show Wp p e below _ (T36.setTop (mkF m 398 #[.val (.int p0), .val (.int p1), .val (.int (Int32.ofNat C)), .val (.int (Int32.ofNat M)), .val (.int (Int32.ofNat (own_cnt M 8))), .val (.ref ar), .val (.int (Int32.ofNat (own_cnt M 8))), .val (.ref er), .val (.int (Int32.ofNat (own_en M C 4))), .unset] []))
        exact J2_4 T36 _ _ X36 e36 zh NF36 ar er gna gne nae Va (Ve.cong (fun t ht => by rw [eq3]))
    clear J2_4
    have J2_2 : ∀ (T : State) (hh : Heap) (locs : List Loc) (X : Stand p l e room_1 s m #[(.int p0), (.int p1)] below meth c T locs 2 16) (eT : T.heap = hh) (zh : n0 ≤ hh.size) (NF : Fr n0 locs) (ar er : Addr) (gna : n0 ≤ ar) (gne : n0 ≤ er) (nae : ar ≠ er) (Va : Av Z hh ar .int (own_cnt M 8) (fun t => if t < own_cnt M 8 then .int (own_A M t) else .int (0 : Int32))) (Ve : Av Z hh er .int (C - own_cnt M 8) (fun t => if t < own_en M C 2 then .int (own_E M C t) else .int (0 : Int32))), Wp p e below (Gd s (Qo0 Z p0 p1 h0 n0) 16 128) (T.setTop (mkF m 342 #[.val (.int p0), .val (.int p1), .val (.int (Int32.ofNat C)), .val (.int (Int32.ofNat M)), .val (.int (Int32.ofNat (own_cnt M 8))), .val (.ref ar), .val (.int (Int32.ofNat (own_cnt M 8))), .val (.ref er), .val (.int (Int32.ofNat (own_en M C 2))), .unset] [])) := by
      intro T hh locs X eT zh NF ar er gna gne nae Va Ve
      have bd2 := own_ele M C 2
      have bv : f1_0 (Int32.ofNat M) (3 : Int32) = (if M.testBit 2 = true then 1 else 0) := own_bv ⟨M, hM8⟩ ⟨2, by decide⟩
      refine Wp.via (fun _ k => XS.aload X.here hx rfl (hb hby at_342) rfl rfl k) ?_
      show Wp p e below _ (T.setTop (mkF m 344 #[.val (.int p0), .val (.int p1), .val (.int (Int32.ofNat C)), .val (.int (Int32.ofNat M)), .val (.int (Int32.ofNat (own_cnt M 8))), .val (.ref ar), .val (.int (Int32.ofNat (own_cnt M 8))), .val (.ref er), .val (.int (Int32.ofNat (own_en M C 2))), .unset] [(.ref er)]))
      refine Wp.via (fun _ k => XS.iload X.here hx rfl (hb hby at_344) rfl k) ?_
      show Wp p e below _ (T.setTop (mkF m 346 #[.val (.int p0), .val (.int p1), .val (.int (Int32.ofNat C)), .val (.int (Int32.ofNat M)), .val (.int (Int32.ofNat (own_cnt M 8))), .val (.ref ar), .val (.int (Int32.ofNat (own_cnt M 8))), .val (.ref er), .val (.int (Int32.ofNat (own_en M C 2))), .unset] [(.int (Int32.ofNat (own_en M C 2))), (.ref er)]))
      refine Wp.via (fun _ k => XS.iconst X.here hx rfl (hb hby at_346) k) ?_
      show Wp p e below _ (T.setTop (mkF m 347 #[.val (.int p0), .val (.int p1), .val (.int (Int32.ofNat C)), .val (.int (Int32.ofNat M)), .val (.int (Int32.ofNat (own_cnt M 8))), .val (.ref ar), .val (.int (Int32.ofNat (own_cnt M 8))), .val (.ref er), .val (.int (Int32.ofNat (own_en M C 2))), .unset] [(.int (3 : Int32)), (.int (Int32.ofNat (own_en M C 2))), (.ref er)]))
      refine Wp.via (fun _ k => XS.iconst X.here hx rfl (hb hby at_347) k) ?_
      show Wp p e below _ (T.setTop (mkF m 348 #[.val (.int p0), .val (.int p1), .val (.int (Int32.ofNat C)), .val (.int (Int32.ofNat M)), .val (.int (Int32.ofNat (own_cnt M 8))), .val (.ref ar), .val (.int (Int32.ofNat (own_cnt M 8))), .val (.ref er), .val (.int (Int32.ofNat (own_en M C 2))), .unset] [(.int (3 : Int32)), (.int (3 : Int32)), (.int (Int32.ofNat (own_en M C 2))), (.ref er)]))
      refine Wp.via (fun _ k => XS.iloadN X.here hx rfl (hb hby at_348) rfl k) ?_
      show Wp p e below _ (T.setTop (mkF m 349 #[.val (.int p0), .val (.int p1), .val (.int (Int32.ofNat C)), .val (.int (Int32.ofNat M)), .val (.int (Int32.ofNat (own_cnt M 8))), .val (.ref ar), .val (.int (Int32.ofNat (own_cnt M 8))), .val (.ref er), .val (.int (Int32.ofNat (own_en M C 2))), .unset] [(.int (Int32.ofNat C)), (.int (3 : Int32)), (.int (3 : Int32)), (.int (Int32.ofNat (own_en M C 2))), (.ref er)]))
      by_cases hd : 2 < C
      ·
        refine Wp.via (fun _ k => XS.icmpNo X.here hx rfl (hb hby at_349) rfl (flt (show ¬ (Int32.ofNat C < (3 : Int32)) from fun q => by have := (own_lt (a := C) (b := 3) (by omega) (by omega)).mp q; omega)).2.2.1 k) ?_
        show Wp p e below _ (T.setTop (mkF m 352 #[.val (.int p0), .val (.int p1), .val (.int (Int32.ofNat C)), .val (.int (Int32.ofNat M)), .val (.int (Int32.ofNat (own_cnt M 8))), .val (.ref ar), .val (.int (Int32.ofNat (own_cnt M 8))), .val (.ref er), .val (.int (Int32.ofNat (own_en M C 2))), .unset] [(.int (3 : Int32)), (.int (Int32.ofNat (own_en M C 2))), (.ref er)]))
        refine Wp.via (fun _ k => XS.iloadN X.here hx rfl (hb hby at_352) rfl k) ?_
        show Wp p e below _ (T.setTop (mkF m 353 #[.val (.int p0), .val (.int p1), .val (.int (Int32.ofNat C)), .val (.int (Int32.ofNat M)), .val (.int (Int32.ofNat (own_cnt M 8))), .val (.ref ar), .val (.int (Int32.ofNat (own_cnt M 8))), .val (.ref er), .val (.int (Int32.ofNat (own_en M C 2))), .unset] [(.int (Int32.ofNat M)), (.int (3 : Int32)), (.int (Int32.ofNat (own_en M C 2))), (.ref er)]))
        refine Wp.via (fun _ k => XS.iconst X.here hx rfl (hb hby at_353) k) ?_
        show Wp p e below _ (T.setTop (mkF m 354 #[.val (.int p0), .val (.int p1), .val (.int (Int32.ofNat C)), .val (.int (Int32.ofNat M)), .val (.int (Int32.ofNat (own_cnt M 8))), .val (.ref ar), .val (.int (Int32.ofNat (own_cnt M 8))), .val (.ref er), .val (.int (Int32.ofNat (own_en M C 2))), .unset] [(.int (3 : Int32)), (.int (Int32.ofNat M)), (.int (3 : Int32)), (.int (Int32.ofNat (own_en M C 2))), (.ref er)]))
        obtain ⟨_, _, ⟨T38, L38, k38, n38⟩, -, X38, ⟨Lc38, hQ38, l38, y38, z38⟩, st38⟩ := Jvm.LawKit.callS X hx (y := (⟨"com/example/inverso/inverso/search/DocumentSetsComplementPinLaw", "bit", "(II)I"⟩ : MethodName)) hown (mvT hZ (hw _ (List.mem_of_getElem? (i := 1) rfl))) (mvT hZ (hw _ (List.mem_of_getElem? (i := 2) rfl))) (mvT hZ (hw _ (List.mem_of_getElem? (i := 3) rfl))) (mvT hZ (hw _ (List.mem_of_getElem? (i := 4) rfl))) (by decide) (backOf (W := 3) (rm1 l Z aw hw [] (Int32.ofNat M) (3 : Int32)  hh n0 zh ) hZ (hw _ (List.mem_of_getElem? (i := 4) rfl)) (hw _ (List.mem_of_getElem? (i := 3) rfl)) (by decide) (by decide)) (g := (mkF m 354 #[.val (.int p0), .val (.int p1), .val (.int (Int32.ofNat C)), .val (.int (Int32.ofNat M)), .val (.int (Int32.ofNat (own_cnt M 8))), .val (.ref ar), .val (.int (Int32.ofNat (own_cnt M 8))), .val (.ref er), .val (.int (Int32.ofNat (own_en M C 2))), .unset] [(.int (3 : Int32)), (.int (Int32.ofNat M)), (.int (3 : Int32)), (.int (Int32.ofNat (own_en M C 2))), (.ref er)])) rfl (by rw [hml]; rfl) (argsL := [(.int (Int32.ofNat M)), (.int (3 : Int32))]) (rest := [(.int (3 : Int32)), (.int (Int32.ofNat (own_en M C 2))), (.ref er)]) (lenOf own_pd0 rfl) rfl (by show 2 * 0 + _ ≤ _; exact Nat.le_of_eq rfl) (hb hby at_354) (fun _ _ => ⟨rfl, eT, (by decide : 2 + 0 ≤ _), (by decide : 16 + 0 ≤ _)⟩)
        dsimp only [Pt.U, Pt.locs, Pt.cells, Pt.slots] at X38 l38 y38 z38 st38 hQ38
        subst l38 y38 z38
        obtain ⟨rfl, N38, e38⟩ := hQ38
        have NF38 := Fr.app NF N38
        refine Wp.via st38 ?_
        show Wp p e below _ (T38.setTop (mkF m 357 #[.val (.int p0), .val (.int p1), .val (.int (Int32.ofNat C)), .val (.int (Int32.ofNat M)), .val (.int (Int32.ofNat (own_cnt M 8))), .val (.ref ar), .val (.int (Int32.ofNat (own_cnt M 8))), .val (.ref er), .val (.int (Int32.ofNat (own_en M C 2))), .unset] [(.int (f1_0 (Int32.ofNat M) (3 : Int32))), (.int (3 : Int32)), (.int (Int32.ofNat (own_en M C 2))), (.ref er)]))
        by_cases hbt : M.testBit 2 = true
        ·
          have eq3 : own_en M C 3 = own_en M C 2 := by simp [own_en, hbt]
          refine Wp.via (fun _ k => XS.ifYes X38.here hx rfl (pc0 := 357) (pc' := 364) rfl (hb hby at_357) rfl ((if0 _ _).trans (feq (by rw [bv, if_pos hbt]; decide)).2) (by decide) (by decide) k) ?_
          show Wp p e below _ (T38.setTop (mkF m 364 #[.val (.int p0), .val (.int p1), .val (.int (Int32.ofNat C)), .val (.int (Int32.ofNat M)), .val (.int (Int32.ofNat (own_cnt M 8))), .val (.ref ar), .val (.int (Int32.ofNat (own_cnt M 8))), .val (.ref er), .val (.int (Int32.ofNat (own_en M C 2))), .unset] [(.int (3 : Int32)), (.int (Int32.ofNat (own_en M C 2))), (.ref er)]))
          refine Wp.via (fun _ k => XS.iconst X38.here hx rfl (hb hby at_364) k) ?_
          show Wp p e below _ (T38.setTop (mkF m 365 #[.val (.int p0), .val (.int p1), .val (.int (Int32.ofNat C)), .val (.int (Int32.ofNat M)), .val (.int (Int32.ofNat (own_cnt M 8))), .val (.ref ar), .val (.int (Int32.ofNat (own_cnt M 8))), .val (.ref er), .val (.int (Int32.ofNat (own_en M C 2))), .unset] [(.int (0 : Int32)), (.int (3 : Int32)), (.int (Int32.ofNat (own_en M C 2))), (.ref er)]))
          obtain ⟨_, _, ⟨T39, L39, k39, n39⟩, -, X39, ⟨Lc39, hQ39, l39, y39, z39⟩, st39⟩ := Jvm.LawKit.callS X38 hx (y := (⟨"com/example/inverso/inverso/search/DocumentSetsComplementPinLaw", "put", "([IIIZ)I"⟩ : MethodName)) hown (mvT hZ (hw _ (List.mem_of_getElem? (i := 6) rfl))) (mvT hZ (hw _ (List.mem_of_getElem? (i := 7) rfl))) (mvT hZ (hw _ (List.mem_of_getElem? (i := 3) rfl))) (mvT hZ (hw _ (List.mem_of_getElem? (i := 8) rfl))) (by decide) (backOf (W := 0) (rm2_0 l Z aw hw [] er (Int32.ofNat (own_en M C 2)) (3 : Int32)  hh n0 zh ) hZ (hw _ (List.mem_of_getElem? (i := 8) rfl)) (hw _ (List.mem_of_getElem? (i := 3) rfl)) (by decide) (by decide)) (g := (mkF m 365 #[.val (.int p0), .val (.int p1), .val (.int (Int32.ofNat C)), .val (.int (Int32.ofNat M)), .val (.int (Int32.ofNat (own_cnt M 8))), .val (.ref ar), .val (.int (Int32.ofNat (own_cnt M 8))), .val (.ref er), .val (.int (Int32.ofNat (own_en M C 2))), .unset] [(.int (0 : Int32)), (.int (3 : Int32)), (.int (Int32.ofNat (own_en M C 2))), (.ref er)])) rfl (by rw [hml]; rfl) (argsL := [(.ref er), (.int (Int32.ofNat (own_en M C 2))), (.int (3 : Int32)), (.int (0 : Int32))]) (rest := []) (lenOf own_pd1 rfl) rfl (by show 2 * 0 + _ ≤ _; exact Nat.le_of_eq rfl) (hb hby at_365) (fun _ _ => ⟨rfl, e38, (by decide : 2 + 0 ≤ _), (by decide : 16 + 0 ≤ _)⟩)
          dsimp only [Pt.U, Pt.locs, Pt.cells, Pt.slots] at X39 l39 y39 z39 st39 hQ39
          subst l39 y39 z39
          obtain ⟨rfl, N39, e39⟩ := hQ39
          have NF39 := Fr.app NF38 N39
          refine Wp.via st39 ?_
          show Wp p e below _ (T39.setTop (mkF m 368 #[.val (.int p0), .val (.int p1), .val (.int (Int32.ofNat C)), .val (.int (Int32.ofNat M)), .val (.int (Int32.ofNat (own_cnt M 8))), .val (.ref ar), .val (.int (Int32.ofNat (own_cnt M 8))), .val (.ref er), .val (.int (Int32.ofNat (own_en M C 2))), .unset] [(.int (Int32.ofNat (own_en M C 2)))]))
          refine Wp.via (fun _ k => XS.istore X39.here hx rfl (hb hby at_368) rfl (l' := #[.val (.int p0), .val (.int p1), .val (.int (Int32.ofNat C)), .val (.int (Int32.ofNat M)), .val (.int (Int32.ofNat (own_cnt M 8))), .val (.ref ar), .val (.int (Int32.ofNat (own_cnt M 8))), .val (.ref er), .val (.int (Int32.ofNat (own_en M C 2))), .unset]) rfl k) ?_
          show Wp p e below _ (T39.setTop (mkF m 370 #[.val (.int p0), .val (.int p1), .val (.int (Int32.ofNat C)), .val (.int (Int32.ofNat M)), .val (.int (Int32.ofNat (own_cnt M 8))), .val (.ref ar), .val (.int (Int32.ofNat (own_cnt M 8))), .val (.ref er), .val (.int (Int32.ofNat (own_en M C 2))), .unset] []))
          have rw40 : (Int32.ofNat (own_en M C 2)) = (Int32.ofNat (own_en M C 3)) := by rw [eq3]
          rw [rw40]
          show Wp p e below _ (T39.setTop (mkF m 370 #[.val (.int p0), .val (.int p1), .val (.int (Int32.ofNat C)), .val (.int (Int32.ofNat M)), .val (.int (Int32.ofNat (own_cnt M 8))), .val (.ref ar), .val (.int (Int32.ofNat (own_cnt M 8))), .val (.ref er), .val (.int (Int32.ofNat (own_en M C 3))), .unset] []))
          exact J2_3 T39 _ _ X39 e39 zh NF39 ar er gna gne nae Va (Ve.cong (fun t ht => by rw [eq3]))
        ·
          have hbf : M.testBit 2 = false := by simpa using hbt
          obtain ⟨E1, E2⟩ := own_F2 ⟨C, by omega⟩ ⟨M, hM8⟩ hM ⟨2, by decide⟩ hd hbf
          dsimp only at E1 E2
          refine Wp.via (fun _ k => XS.ifNo X38.here hx rfl (hb hby at_357) rfl ((if0 _ _).trans (teq (by rw [bv, if_neg hbt])).2) k) ?_
          show Wp p e below _ (T38.setTop (mkF m 360 #[.val (.int p0), .val (.int p1), .val (.int (Int32.ofNat C)), .val (.int (Int32.ofNat M)), .val (.int (Int32.ofNat (own_cnt M 8))), .val (.ref ar), .val (.int (Int32.ofNat (own_cnt M 8))), .val (.ref er), .val (.int (Int32.ofNat (own_en M C 2))), .unset] [(.int (3 : Int32)), (.int (Int32.ofNat (own_en M C 2))), (.ref er)]))
          refine Wp.via (fun _ k => XS.iconst X38.here hx rfl (hb hby at_360) k) ?_
          show Wp p e below _ (T38.setTop (mkF m 361 #[.val (.int p0), .val (.int p1), .val (.int (Int32.ofNat C)), .val (.int (Int32.ofNat M)), .val (.int (Int32.ofNat (own_cnt M 8))), .val (.ref ar), .val (.int (Int32.ofNat (own_cnt M 8))), .val (.ref er), .val (.int (Int32.ofNat (own_en M C 2))), .unset] [(.int (1 : Int32)), (.int (3 : Int32)), (.int (Int32.ofNat (own_en M C 2))), (.ref er)]))
          refine Wp.via (fun _ k => XS.goto X38.here hx rfl (pc0 := 361) (pc' := 365) rfl (hb hby at_361) (by decide) (by decide) k) ?_
          show Wp p e below _ (T38.setTop (mkF m 365 #[.val (.int p0), .val (.int p1), .val (.int (Int32.ofNat C)), .val (.int (Int32.ofNat M)), .val (.int (Int32.ofNat (own_cnt M 8))), .val (.ref ar), .val (.int (Int32.ofNat (own_cnt M 8))), .val (.ref er), .val (.int (Int32.ofNat (own_en M C 2))), .unset] [(.int (1 : Int32)), (.int (3 : Int32)), (.int (Int32.ofNat (own_en M C 2))), (.ref er)]))
          obtain ⟨_, _, ⟨T41, L41, k41, n41⟩, -, X41, ⟨Lc41, hQ41, l41, y41, z41⟩, st41⟩ := Jvm.LawKit.callS X38 hx (y := (⟨"com/example/inverso/inverso/search/DocumentSetsComplementPinLaw", "put", "([IIIZ)I"⟩ : MethodName)) hown (mvT hZ (hw _ (List.mem_of_getElem? (i := 6) rfl))) (mvT hZ (hw _ (List.mem_of_getElem? (i := 7) rfl))) (mvT hZ (hw _ (List.mem_of_getElem? (i := 3) rfl))) (mvT hZ (hw _ (List.mem_of_getElem? (i := 8) rfl))) (by decide) (backOf (W := 0) (rm2_1 l Z aw hw [] er (Int32.ofNat (own_en M C 2)) (3 : Int32) (C - own_cnt M 8) (own_en M C 2) (fun t => if t < own_en M C 2 then .int (own_E M C t) else .int (0 : Int32)) hh n0 zh Ve gne (own_pos (by omega)) (own_nat (by omega)) E2) hZ (hw _ (List.mem_of_getElem? (i := 8) rfl)) (hw _ (List.mem_of_getElem? (i := 3) rfl)) (by decide) (by decide)) (g := (mkF m 365 #[.val (.int p0), .val (.int p1), .val (.int (Int32.ofNat C)), .val (.int (Int32.ofNat M)), .val (.int (Int32.ofNat (own_cnt M 8))), .val (.ref ar), .val (.int (Int32.ofNat (own_cnt M 8))), .val (.ref er), .val (.int (Int32.ofNat (own_en M C 2))), .unset] [(.int (1 : Int32)), (.int (3 : Int32)), (.int (Int32.ofNat (own_en M C 2))), (.ref er)])) rfl (by rw [hml]; rfl) (argsL := [(.ref er), (.int (Int32.ofNat (own_en M C 2))), (.int (3 : Int32)), (.int (1 : Int32))]) (rest := []) (lenOf own_pd1 rfl) rfl (by show 2 * 0 + _ ≤ _; exact Nat.le_of_eq rfl) (hb hby at_365) (fun _ _ => ⟨rfl, e38, (by decide : 2 + 0 ≤ _), (by decide : 16 + 0 ≤ _)⟩)
          dsimp only [Pt.U, Pt.locs, Pt.cells, Pt.slots] at X41 l41 y41 z41 st41 hQ41
          subst l41 y41 z41
          obtain ⟨rfl, N41, Kc41, Vn41⟩ := hQ41
          have NF41 := Fr.app NF38 N41
          refine Wp.via st41 ?_
          show Wp p e below _ (T41.setTop (mkF m 368 #[.val (.int p0), .val (.int p1), .val (.int (Int32.ofNat C)), .val (.int (Int32.ofNat M)), .val (.int (Int32.ofNat (own_cnt M 8))), .val (.ref ar), .val (.int (Int32.ofNat (own_cnt M 8))), .val (.ref er), .val (.int (Int32.ofNat (own_en M C 2))), .unset] [(.int ((Int32.ofNat (own_en M C 2)) + (1 : Int32)))]))
          have zz41 : n0 ≤ T41.heap.size := Nat.le_trans zh Kc41.1
          have Vo41 := Va.keep Kc41 (ninS nae nin0)
          refine Wp.via (fun _ k => XS.istore X41.here hx rfl (hb hby at_368) rfl (l' := #[.val (.int p0), .val (.int p1), .val (.int (Int32.ofNat C)), .val (.int (Int32.ofNat M)), .val (.int (Int32.ofNat (own_cnt M 8))), .val (.ref ar), .val (.int (Int32.ofNat (own_cnt M 8))), .val (.ref er), .val (.int ((Int32.ofNat (own_en M C 2)) + (1 : Int32))), .unset]) rfl k) ?_
          show Wp p e below _ (T41.setTop (mkF m 370 #[.val (.int p0), .val (.int p1), .val (.int (Int32.ofNat C)), .val (.int (Int32.ofNat M)), .val (.int (Int32.ofNat (own_cnt M 8))), .val (.ref ar), .val (.int (Int32.ofNat (own_cnt M 8))), .val (.ref er), .val (.int ((Int32.ofNat (own_en M C 2)) + (1 : Int32))), .unset] []))
          have rw42 : ((Int32.ofNat (own_en M C 2)) + (1 : Int32)) = (Int32.ofNat (own_en M C 3)) := by rw [own_succ]; simp [own_en, hbf, hd]
          rw [rw42]
          show Wp p e below _ (T41.setTop (mkF m 370 #[.val (.int p0), .val (.int p1), .val (.int (Int32.ofNat C)), .val (.int (Int32.ofNat M)), .val (.int (Int32.ofNat (own_cnt M 8))), .val (.ref ar), .val (.int (Int32.ofNat (own_cnt M 8))), .val (.ref er), .val (.int (Int32.ofNat (own_en M C 3))), .unset] []))
          exact J2_3 T41 _ _ X41 rfl zz41 NF41 ar er gna gne nae Vo41 (Vn41.cong (fun t ht => own_stE M C 2 t _ hd hbf E1))
      ·
        have eq3 : own_en M C 3 = own_en M C 2 := by simp [own_en, hd]
        refine Wp.via (fun _ k => XS.icmpYes X.here hx rfl (pc0 := 349) (pc' := 364) rfl (hb hby at_349) rfl (tlt (show Int32.ofNat C < (3 : Int32) from (own_lt (a := C) (b := 3) (by omega) (by omega)).mpr (by omega))).2.2.1 (by decide) (by decide) k) ?_
        show Wp p e below _ (T.setTop (mkF m 364 #[.val (.int p0), .val (.int p1), .val (.int (Int32.ofNat C)), .val (.int (Int32.ofNat M)), .val (.int (Int32.ofNat (own_cnt M 8))), .val (.ref ar), .val (.int (Int32.ofNat (own_cnt M 8))), .val (.ref er), .val (.int (Int32.ofNat (own_en M C 2))), .unset] [(.int (3 : Int32)), (.int (Int32.ofNat (own_en M C 2))), (.ref er)]))
        refine Wp.via (fun _ k => XS.iconst X.here hx rfl (hb hby at_364) k) ?_
        show Wp p e below _ (T.setTop (mkF m 365 #[.val (.int p0), .val (.int p1), .val (.int (Int32.ofNat C)), .val (.int (Int32.ofNat M)), .val (.int (Int32.ofNat (own_cnt M 8))), .val (.ref ar), .val (.int (Int32.ofNat (own_cnt M 8))), .val (.ref er), .val (.int (Int32.ofNat (own_en M C 2))), .unset] [(.int (0 : Int32)), (.int (3 : Int32)), (.int (Int32.ofNat (own_en M C 2))), (.ref er)]))
        obtain ⟨_, _, ⟨T43, L43, k43, n43⟩, -, X43, ⟨Lc43, hQ43, l43, y43, z43⟩, st43⟩ := Jvm.LawKit.callS X hx (y := (⟨"com/example/inverso/inverso/search/DocumentSetsComplementPinLaw", "put", "([IIIZ)I"⟩ : MethodName)) hown (mvT hZ (hw _ (List.mem_of_getElem? (i := 6) rfl))) (mvT hZ (hw _ (List.mem_of_getElem? (i := 7) rfl))) (mvT hZ (hw _ (List.mem_of_getElem? (i := 3) rfl))) (mvT hZ (hw _ (List.mem_of_getElem? (i := 8) rfl))) (by decide) (backOf (W := 0) (rm2_0 l Z aw hw [] er (Int32.ofNat (own_en M C 2)) (3 : Int32)  hh n0 zh ) hZ (hw _ (List.mem_of_getElem? (i := 8) rfl)) (hw _ (List.mem_of_getElem? (i := 3) rfl)) (by decide) (by decide)) (g := (mkF m 365 #[.val (.int p0), .val (.int p1), .val (.int (Int32.ofNat C)), .val (.int (Int32.ofNat M)), .val (.int (Int32.ofNat (own_cnt M 8))), .val (.ref ar), .val (.int (Int32.ofNat (own_cnt M 8))), .val (.ref er), .val (.int (Int32.ofNat (own_en M C 2))), .unset] [(.int (0 : Int32)), (.int (3 : Int32)), (.int (Int32.ofNat (own_en M C 2))), (.ref er)])) rfl (by rw [hml]; rfl) (argsL := [(.ref er), (.int (Int32.ofNat (own_en M C 2))), (.int (3 : Int32)), (.int (0 : Int32))]) (rest := []) (lenOf own_pd1 rfl) rfl (by show 2 * 0 + _ ≤ _; exact Nat.le_of_eq rfl) (hb hby at_365) (fun _ _ => ⟨rfl, eT, (by decide : 2 + 0 ≤ _), (by decide : 16 + 0 ≤ _)⟩)
        dsimp only [Pt.U, Pt.locs, Pt.cells, Pt.slots] at X43 l43 y43 z43 st43 hQ43
        subst l43 y43 z43
        obtain ⟨rfl, N43, e43⟩ := hQ43
        have NF43 := Fr.app NF N43
        refine Wp.via st43 ?_
        show Wp p e below _ (T43.setTop (mkF m 368 #[.val (.int p0), .val (.int p1), .val (.int (Int32.ofNat C)), .val (.int (Int32.ofNat M)), .val (.int (Int32.ofNat (own_cnt M 8))), .val (.ref ar), .val (.int (Int32.ofNat (own_cnt M 8))), .val (.ref er), .val (.int (Int32.ofNat (own_en M C 2))), .unset] [(.int (Int32.ofNat (own_en M C 2)))]))
        refine Wp.via (fun _ k => XS.istore X43.here hx rfl (hb hby at_368) rfl (l' := #[.val (.int p0), .val (.int p1), .val (.int (Int32.ofNat C)), .val (.int (Int32.ofNat M)), .val (.int (Int32.ofNat (own_cnt M 8))), .val (.ref ar), .val (.int (Int32.ofNat (own_cnt M 8))), .val (.ref er), .val (.int (Int32.ofNat (own_en M C 2))), .unset]) rfl k) ?_
        show Wp p e below _ (T43.setTop (mkF m 370 #[.val (.int p0), .val (.int p1), .val (.int (Int32.ofNat C)), .val (.int (Int32.ofNat M)), .val (.int (Int32.ofNat (own_cnt M 8))), .val (.ref ar), .val (.int (Int32.ofNat (own_cnt M 8))), .val (.ref er), .val (.int (Int32.ofNat (own_en M C 2))), .unset] []))
        have rw44 : (Int32.ofNat (own_en M C 2)) = (Int32.ofNat (own_en M C 3)) := by rw [eq3]
        rw [rw44]
        show Wp p e below _ (T43.setTop (mkF m 370 #[.val (.int p0), .val (.int p1), .val (.int (Int32.ofNat C)), .val (.int (Int32.ofNat M)), .val (.int (Int32.ofNat (own_cnt M 8))), .val (.ref ar), .val (.int (Int32.ofNat (own_cnt M 8))), .val (.ref er), .val (.int (Int32.ofNat (own_en M C 3))), .unset] []))
        exact J2_3 T43 _ _ X43 e43 zh NF43 ar er gna gne nae Va (Ve.cong (fun t ht => by rw [eq3]))
    clear J2_3
    have J2_1 : ∀ (T : State) (hh : Heap) (locs : List Loc) (X : Stand p l e room_1 s m #[(.int p0), (.int p1)] below meth c T locs 2 16) (eT : T.heap = hh) (zh : n0 ≤ hh.size) (NF : Fr n0 locs) (ar er : Addr) (gna : n0 ≤ ar) (gne : n0 ≤ er) (nae : ar ≠ er) (Va : Av Z hh ar .int (own_cnt M 8) (fun t => if t < own_cnt M 8 then .int (own_A M t) else .int (0 : Int32))) (Ve : Av Z hh er .int (C - own_cnt M 8) (fun t => if t < own_en M C 1 then .int (own_E M C t) else .int (0 : Int32))), Wp p e below (Gd s (Qo0 Z p0 p1 h0 n0) 16 128) (T.setTop (mkF m 314 #[.val (.int p0), .val (.int p1), .val (.int (Int32.ofNat C)), .val (.int (Int32.ofNat M)), .val (.int (Int32.ofNat (own_cnt M 8))), .val (.ref ar), .val (.int (Int32.ofNat (own_cnt M 8))), .val (.ref er), .val (.int (Int32.ofNat (own_en M C 1))), .unset] [])) := by
      intro T hh locs X eT zh NF ar er gna gne nae Va Ve
      have bd2 := own_ele M C 1
      have bv : f1_0 (Int32.ofNat M) (2 : Int32) = (if M.testBit 1 = true then 1 else 0) := own_bv ⟨M, hM8⟩ ⟨1, by decide⟩
      refine Wp.via (fun _ k => XS.aload X.here hx rfl (hb hby at_314) rfl rfl k) ?_
      show Wp p e below _ (T.setTop (mkF m 316 #[.val (.int p0), .val (.int p1), .val (.int (Int32.ofNat C)), .val (.int (Int32.ofNat M)), .val (.int (Int32.ofNat (own_cnt M 8))), .val (.ref ar), .val (.int (Int32.ofNat (own_cnt M 8))), .val (.ref er), .val (.int (Int32.ofNat (own_en M C 1))), .unset] [(.ref er)]))
      refine Wp.via (fun _ k => XS.iload X.here hx rfl (hb hby at_316) rfl k) ?_
      show Wp p e below _ (T.setTop (mkF m 318 #[.val (.int p0), .val (.int p1), .val (.int (Int32.ofNat C)), .val (.int (Int32.ofNat M)), .val (.int (Int32.ofNat (own_cnt M 8))), .val (.ref ar), .val (.int (Int32.ofNat (own_cnt M 8))), .val (.ref er), .val (.int (Int32.ofNat (own_en M C 1))), .unset] [(.int (Int32.ofNat (own_en M C 1))), (.ref er)]))
      refine Wp.via (fun _ k => XS.iconst X.here hx rfl (hb hby at_318) k) ?_
      show Wp p e below _ (T.setTop (mkF m 319 #[.val (.int p0), .val (.int p1), .val (.int (Int32.ofNat C)), .val (.int (Int32.ofNat M)), .val (.int (Int32.ofNat (own_cnt M 8))), .val (.ref ar), .val (.int (Int32.ofNat (own_cnt M 8))), .val (.ref er), .val (.int (Int32.ofNat (own_en M C 1))), .unset] [(.int (2 : Int32)), (.int (Int32.ofNat (own_en M C 1))), (.ref er)]))
      refine Wp.via (fun _ k => XS.iconst X.here hx rfl (hb hby at_319) k) ?_
      show Wp p e below _ (T.setTop (mkF m 320 #[.val (.int p0), .val (.int p1), .val (.int (Int32.ofNat C)), .val (.int (Int32.ofNat M)), .val (.int (Int32.ofNat (own_cnt M 8))), .val (.ref ar), .val (.int (Int32.ofNat (own_cnt M 8))), .val (.ref er), .val (.int (Int32.ofNat (own_en M C 1))), .unset] [(.int (2 : Int32)), (.int (2 : Int32)), (.int (Int32.ofNat (own_en M C 1))), (.ref er)]))
      refine Wp.via (fun _ k => XS.iloadN X.here hx rfl (hb hby at_320) rfl k) ?_
      show Wp p e below _ (T.setTop (mkF m 321 #[.val (.int p0), .val (.int p1), .val (.int (Int32.ofNat C)), .val (.int (Int32.ofNat M)), .val (.int (Int32.ofNat (own_cnt M 8))), .val (.ref ar), .val (.int (Int32.ofNat (own_cnt M 8))), .val (.ref er), .val (.int (Int32.ofNat (own_en M C 1))), .unset] [(.int (Int32.ofNat C)), (.int (2 : Int32)), (.int (2 : Int32)), (.int (Int32.ofNat (own_en M C 1))), (.ref er)]))
      by_cases hd : 1 < C
      ·
        refine Wp.via (fun _ k => XS.icmpNo X.here hx rfl (hb hby at_321) rfl (flt (show ¬ (Int32.ofNat C < (2 : Int32)) from fun q => by have := (own_lt (a := C) (b := 2) (by omega) (by omega)).mp q; omega)).2.2.1 k) ?_
        show Wp p e below _ (T.setTop (mkF m 324 #[.val (.int p0), .val (.int p1), .val (.int (Int32.ofNat C)), .val (.int (Int32.ofNat M)), .val (.int (Int32.ofNat (own_cnt M 8))), .val (.ref ar), .val (.int (Int32.ofNat (own_cnt M 8))), .val (.ref er), .val (.int (Int32.ofNat (own_en M C 1))), .unset] [(.int (2 : Int32)), (.int (Int32.ofNat (own_en M C 1))), (.ref er)]))
        refine Wp.via (fun _ k => XS.iloadN X.here hx rfl (hb hby at_324) rfl k) ?_
        show Wp p e below _ (T.setTop (mkF m 325 #[.val (.int p0), .val (.int p1), .val (.int (Int32.ofNat C)), .val (.int (Int32.ofNat M)), .val (.int (Int32.ofNat (own_cnt M 8))), .val (.ref ar), .val (.int (Int32.ofNat (own_cnt M 8))), .val (.ref er), .val (.int (Int32.ofNat (own_en M C 1))), .unset] [(.int (Int32.ofNat M)), (.int (2 : Int32)), (.int (Int32.ofNat (own_en M C 1))), (.ref er)]))
        refine Wp.via (fun _ k => XS.iconst X.here hx rfl (hb hby at_325) k) ?_
        show Wp p e below _ (T.setTop (mkF m 326 #[.val (.int p0), .val (.int p1), .val (.int (Int32.ofNat C)), .val (.int (Int32.ofNat M)), .val (.int (Int32.ofNat (own_cnt M 8))), .val (.ref ar), .val (.int (Int32.ofNat (own_cnt M 8))), .val (.ref er), .val (.int (Int32.ofNat (own_en M C 1))), .unset] [(.int (2 : Int32)), (.int (Int32.ofNat M)), (.int (2 : Int32)), (.int (Int32.ofNat (own_en M C 1))), (.ref er)]))
        obtain ⟨_, _, ⟨T45, L45, k45, n45⟩, -, X45, ⟨Lc45, hQ45, l45, y45, z45⟩, st45⟩ := Jvm.LawKit.callS X hx (y := (⟨"com/example/inverso/inverso/search/DocumentSetsComplementPinLaw", "bit", "(II)I"⟩ : MethodName)) hown (mvT hZ (hw _ (List.mem_of_getElem? (i := 1) rfl))) (mvT hZ (hw _ (List.mem_of_getElem? (i := 2) rfl))) (mvT hZ (hw _ (List.mem_of_getElem? (i := 3) rfl))) (mvT hZ (hw _ (List.mem_of_getElem? (i := 4) rfl))) (by decide) (backOf (W := 3) (rm1 l Z aw hw [] (Int32.ofNat M) (2 : Int32)  hh n0 zh ) hZ (hw _ (List.mem_of_getElem? (i := 4) rfl)) (hw _ (List.mem_of_getElem? (i := 3) rfl)) (by decide) (by decide)) (g := (mkF m 326 #[.val (.int p0), .val (.int p1), .val (.int (Int32.ofNat C)), .val (.int (Int32.ofNat M)), .val (.int (Int32.ofNat (own_cnt M 8))), .val (.ref ar), .val (.int (Int32.ofNat (own_cnt M 8))), .val (.ref er), .val (.int (Int32.ofNat (own_en M C 1))), .unset] [(.int (2 : Int32)), (.int (Int32.ofNat M)), (.int (2 : Int32)), (.int (Int32.ofNat (own_en M C 1))), (.ref er)])) rfl (by rw [hml]; rfl) (argsL := [(.int (Int32.ofNat M)), (.int (2 : Int32))]) (rest := [(.int (2 : Int32)), (.int (Int32.ofNat (own_en M C 1))), (.ref er)]) (lenOf own_pd0 rfl) rfl (by show 2 * 0 + _ ≤ _; exact Nat.le_of_eq rfl) (hb hby at_326) (fun _ _ => ⟨rfl, eT, (by decide : 2 + 0 ≤ _), (by decide : 16 + 0 ≤ _)⟩)
        dsimp only [Pt.U, Pt.locs, Pt.cells, Pt.slots] at X45 l45 y45 z45 st45 hQ45
        subst l45 y45 z45
        obtain ⟨rfl, N45, e45⟩ := hQ45
        have NF45 := Fr.app NF N45
        refine Wp.via st45 ?_
        show Wp p e below _ (T45.setTop (mkF m 329 #[.val (.int p0), .val (.int p1), .val (.int (Int32.ofNat C)), .val (.int (Int32.ofNat M)), .val (.int (Int32.ofNat (own_cnt M 8))), .val (.ref ar), .val (.int (Int32.ofNat (own_cnt M 8))), .val (.ref er), .val (.int (Int32.ofNat (own_en M C 1))), .unset] [(.int (f1_0 (Int32.ofNat M) (2 : Int32))), (.int (2 : Int32)), (.int (Int32.ofNat (own_en M C 1))), (.ref er)]))
        by_cases hbt : M.testBit 1 = true
        ·
          have eq3 : own_en M C 2 = own_en M C 1 := by simp [own_en, hbt]
          refine Wp.via (fun _ k => XS.ifYes X45.here hx rfl (pc0 := 329) (pc' := 336) rfl (hb hby at_329) rfl ((if0 _ _).trans (feq (by rw [bv, if_pos hbt]; decide)).2) (by decide) (by decide) k) ?_
          show Wp p e below _ (T45.setTop (mkF m 336 #[.val (.int p0), .val (.int p1), .val (.int (Int32.ofNat C)), .val (.int (Int32.ofNat M)), .val (.int (Int32.ofNat (own_cnt M 8))), .val (.ref ar), .val (.int (Int32.ofNat (own_cnt M 8))), .val (.ref er), .val (.int (Int32.ofNat (own_en M C 1))), .unset] [(.int (2 : Int32)), (.int (Int32.ofNat (own_en M C 1))), (.ref er)]))
          refine Wp.via (fun _ k => XS.iconst X45.here hx rfl (hb hby at_336) k) ?_
          show Wp p e below _ (T45.setTop (mkF m 337 #[.val (.int p0), .val (.int p1), .val (.int (Int32.ofNat C)), .val (.int (Int32.ofNat M)), .val (.int (Int32.ofNat (own_cnt M 8))), .val (.ref ar), .val (.int (Int32.ofNat (own_cnt M 8))), .val (.ref er), .val (.int (Int32.ofNat (own_en M C 1))), .unset] [(.int (0 : Int32)), (.int (2 : Int32)), (.int (Int32.ofNat (own_en M C 1))), (.ref er)]))
          obtain ⟨_, _, ⟨T46, L46, k46, n46⟩, -, X46, ⟨Lc46, hQ46, l46, y46, z46⟩, st46⟩ := Jvm.LawKit.callS X45 hx (y := (⟨"com/example/inverso/inverso/search/DocumentSetsComplementPinLaw", "put", "([IIIZ)I"⟩ : MethodName)) hown (mvT hZ (hw _ (List.mem_of_getElem? (i := 6) rfl))) (mvT hZ (hw _ (List.mem_of_getElem? (i := 7) rfl))) (mvT hZ (hw _ (List.mem_of_getElem? (i := 3) rfl))) (mvT hZ (hw _ (List.mem_of_getElem? (i := 8) rfl))) (by decide) (backOf (W := 0) (rm2_0 l Z aw hw [] er (Int32.ofNat (own_en M C 1)) (2 : Int32)  hh n0 zh ) hZ (hw _ (List.mem_of_getElem? (i := 8) rfl)) (hw _ (List.mem_of_getElem? (i := 3) rfl)) (by decide) (by decide)) (g := (mkF m 337 #[.val (.int p0), .val (.int p1), .val (.int (Int32.ofNat C)), .val (.int (Int32.ofNat M)), .val (.int (Int32.ofNat (own_cnt M 8))), .val (.ref ar), .val (.int (Int32.ofNat (own_cnt M 8))), .val (.ref er), .val (.int (Int32.ofNat (own_en M C 1))), .unset] [(.int (0 : Int32)), (.int (2 : Int32)), (.int (Int32.ofNat (own_en M C 1))), (.ref er)])) rfl (by rw [hml]; rfl) (argsL := [(.ref er), (.int (Int32.ofNat (own_en M C 1))), (.int (2 : Int32)), (.int (0 : Int32))]) (rest := []) (lenOf own_pd1 rfl) rfl (by show 2 * 0 + _ ≤ _; exact Nat.le_of_eq rfl) (hb hby at_337) (fun _ _ => ⟨rfl, e45, (by decide : 2 + 0 ≤ _), (by decide : 16 + 0 ≤ _)⟩)
          dsimp only [Pt.U, Pt.locs, Pt.cells, Pt.slots] at X46 l46 y46 z46 st46 hQ46
          subst l46 y46 z46
          obtain ⟨rfl, N46, e46⟩ := hQ46
          have NF46 := Fr.app NF45 N46
          refine Wp.via st46 ?_
          show Wp p e below _ (T46.setTop (mkF m 340 #[.val (.int p0), .val (.int p1), .val (.int (Int32.ofNat C)), .val (.int (Int32.ofNat M)), .val (.int (Int32.ofNat (own_cnt M 8))), .val (.ref ar), .val (.int (Int32.ofNat (own_cnt M 8))), .val (.ref er), .val (.int (Int32.ofNat (own_en M C 1))), .unset] [(.int (Int32.ofNat (own_en M C 1)))]))
          refine Wp.via (fun _ k => XS.istore X46.here hx rfl (hb hby at_340) rfl (l' := #[.val (.int p0), .val (.int p1), .val (.int (Int32.ofNat C)), .val (.int (Int32.ofNat M)), .val (.int (Int32.ofNat (own_cnt M 8))), .val (.ref ar), .val (.int (Int32.ofNat (own_cnt M 8))), .val (.ref er), .val (.int (Int32.ofNat (own_en M C 1))), .unset]) rfl k) ?_
          show Wp p e below _ (T46.setTop (mkF m 342 #[.val (.int p0), .val (.int p1), .val (.int (Int32.ofNat C)), .val (.int (Int32.ofNat M)), .val (.int (Int32.ofNat (own_cnt M 8))), .val (.ref ar), .val (.int (Int32.ofNat (own_cnt M 8))), .val (.ref er), .val (.int (Int32.ofNat (own_en M C 1))), .unset] []))
          have rw47 : (Int32.ofNat (own_en M C 1)) = (Int32.ofNat (own_en M C 2)) := by rw [eq3]
          rw [rw47]
          show Wp p e below _ (T46.setTop (mkF m 342 #[.val (.int p0), .val (.int p1), .val (.int (Int32.ofNat C)), .val (.int (Int32.ofNat M)), .val (.int (Int32.ofNat (own_cnt M 8))), .val (.ref ar), .val (.int (Int32.ofNat (own_cnt M 8))), .val (.ref er), .val (.int (Int32.ofNat (own_en M C 2))), .unset] []))
          exact J2_2 T46 _ _ X46 e46 zh NF46 ar er gna gne nae Va (Ve.cong (fun t ht => by rw [eq3]))
        ·
          have hbf : M.testBit 1 = false := by simpa using hbt
          obtain ⟨E1, E2⟩ := own_F2 ⟨C, by omega⟩ ⟨M, hM8⟩ hM ⟨1, by decide⟩ hd hbf
          dsimp only at E1 E2
          refine Wp.via (fun _ k => XS.ifNo X45.here hx rfl (hb hby at_329) rfl ((if0 _ _).trans (teq (by rw [bv, if_neg hbt])).2) k) ?_
          show Wp p e below _ (T45.setTop (mkF m 332 #[.val (.int p0), .val (.int p1), .val (.int (Int32.ofNat C)), .val (.int (Int32.ofNat M)), .val (.int (Int32.ofNat (own_cnt M 8))), .val (.ref ar), .val (.int (Int32.ofNat (own_cnt M 8))), .val (.ref er), .val (.int (Int32.ofNat (own_en M C 1))), .unset] [(.int (2 : Int32)), (.int (Int32.ofNat (own_en M C 1))), (.ref er)]))
          refine Wp.via (fun _ k => XS.iconst X45.here hx rfl (hb hby at_332) k) ?_
          show Wp p e below _ (T45.setTop (mkF m 333 #[.val (.int p0), .val (.int p1), .val (.int (Int32.ofNat C)), .val (.int (Int32.ofNat M)), .val (.int (Int32.ofNat (own_cnt M 8))), .val (.ref ar), .val (.int (Int32.ofNat (own_cnt M 8))), .val (.ref er), .val (.int (Int32.ofNat (own_en M C 1))), .unset] [(.int (1 : Int32)), (.int (2 : Int32)), (.int (Int32.ofNat (own_en M C 1))), (.ref er)]))
          refine Wp.via (fun _ k => XS.goto X45.here hx rfl (pc0 := 333) (pc' := 337) rfl (hb hby at_333) (by decide) (by decide) k) ?_
          show Wp p e below _ (T45.setTop (mkF m 337 #[.val (.int p0), .val (.int p1), .val (.int (Int32.ofNat C)), .val (.int (Int32.ofNat M)), .val (.int (Int32.ofNat (own_cnt M 8))), .val (.ref ar), .val (.int (Int32.ofNat (own_cnt M 8))), .val (.ref er), .val (.int (Int32.ofNat (own_en M C 1))), .unset] [(.int (1 : Int32)), (.int (2 : Int32)), (.int (Int32.ofNat (own_en M C 1))), (.ref er)]))
          obtain ⟨_, _, ⟨T48, L48, k48, n48⟩, -, X48, ⟨Lc48, hQ48, l48, y48, z48⟩, st48⟩ := Jvm.LawKit.callS X45 hx (y := (⟨"com/example/inverso/inverso/search/DocumentSetsComplementPinLaw", "put", "([IIIZ)I"⟩ : MethodName)) hown (mvT hZ (hw _ (List.mem_of_getElem? (i := 6) rfl))) (mvT hZ (hw _ (List.mem_of_getElem? (i := 7) rfl))) (mvT hZ (hw _ (List.mem_of_getElem? (i := 3) rfl))) (mvT hZ (hw _ (List.mem_of_getElem? (i := 8) rfl))) (by decide) (backOf (W := 0) (rm2_1 l Z aw hw [] er (Int32.ofNat (own_en M C 1)) (2 : Int32) (C - own_cnt M 8) (own_en M C 1) (fun t => if t < own_en M C 1 then .int (own_E M C t) else .int (0 : Int32)) hh n0 zh Ve gne (own_pos (by omega)) (own_nat (by omega)) E2) hZ (hw _ (List.mem_of_getElem? (i := 8) rfl)) (hw _ (List.mem_of_getElem? (i := 3) rfl)) (by decide) (by decide)) (g := (mkF m 337 #[.val (.int p0), .val (.int p1), .val (.int (Int32.ofNat C)), .val (.int (Int32.ofNat M)), .val (.int (Int32.ofNat (own_cnt M 8))), .val (.ref ar), .val (.int (Int32.ofNat (own_cnt M 8))), .val (.ref er), .val (.int (Int32.ofNat (own_en M C 1))), .unset] [(.int (1 : Int32)), (.int (2 : Int32)), (.int (Int32.ofNat (own_en M C 1))), (.ref er)])) rfl (by rw [hml]; rfl) (argsL := [(.ref er), (.int (Int32.ofNat (own_en M C 1))), (.int (2 : Int32)), (.int (1 : Int32))]) (rest := []) (lenOf own_pd1 rfl) rfl (by show 2 * 0 + _ ≤ _; exact Nat.le_of_eq rfl) (hb hby at_337) (fun _ _ => ⟨rfl, e45, (by decide : 2 + 0 ≤ _), (by decide : 16 + 0 ≤ _)⟩)
          dsimp only [Pt.U, Pt.locs, Pt.cells, Pt.slots] at X48 l48 y48 z48 st48 hQ48
          subst l48 y48 z48
          obtain ⟨rfl, N48, Kc48, Vn48⟩ := hQ48
          have NF48 := Fr.app NF45 N48
          refine Wp.via st48 ?_
          show Wp p e below _ (T48.setTop (mkF m 340 #[.val (.int p0), .val (.int p1), .val (.int (Int32.ofNat C)), .val (.int (Int32.ofNat M)), .val (.int (Int32.ofNat (own_cnt M 8))), .val (.ref ar), .val (.int (Int32.ofNat (own_cnt M 8))), .val (.ref er), .val (.int (Int32.ofNat (own_en M C 1))), .unset] [(.int ((Int32.ofNat (own_en M C 1)) + (1 : Int32)))]))
          have zz48 : n0 ≤ T48.heap.size := Nat.le_trans zh Kc48.1
          have Vo48 := Va.keep Kc48 (ninS nae nin0)
          refine Wp.via (fun _ k => XS.istore X48.here hx rfl (hb hby at_340) rfl (l' := #[.val (.int p0), .val (.int p1), .val (.int (Int32.ofNat C)), .val (.int (Int32.ofNat M)), .val (.int (Int32.ofNat (own_cnt M 8))), .val (.ref ar), .val (.int (Int32.ofNat (own_cnt M 8))), .val (.ref er), .val (.int ((Int32.ofNat (own_en M C 1)) + (1 : Int32))), .unset]) rfl k) ?_
          show Wp p e below _ (T48.setTop (mkF m 342 #[.val (.int p0), .val (.int p1), .val (.int (Int32.ofNat C)), .val (.int (Int32.ofNat M)), .val (.int (Int32.ofNat (own_cnt M 8))), .val (.ref ar), .val (.int (Int32.ofNat (own_cnt M 8))), .val (.ref er), .val (.int ((Int32.ofNat (own_en M C 1)) + (1 : Int32))), .unset] []))
          have rw49 : ((Int32.ofNat (own_en M C 1)) + (1 : Int32)) = (Int32.ofNat (own_en M C 2)) := by rw [own_succ]; simp [own_en, hbf, hd]
          rw [rw49]
          show Wp p e below _ (T48.setTop (mkF m 342 #[.val (.int p0), .val (.int p1), .val (.int (Int32.ofNat C)), .val (.int (Int32.ofNat M)), .val (.int (Int32.ofNat (own_cnt M 8))), .val (.ref ar), .val (.int (Int32.ofNat (own_cnt M 8))), .val (.ref er), .val (.int (Int32.ofNat (own_en M C 2))), .unset] []))
          exact J2_2 T48 _ _ X48 rfl zz48 NF48 ar er gna gne nae Vo48 (Vn48.cong (fun t ht => own_stE M C 1 t _ hd hbf E1))
      ·
        have eq3 : own_en M C 2 = own_en M C 1 := by simp [own_en, hd]
        refine Wp.via (fun _ k => XS.icmpYes X.here hx rfl (pc0 := 321) (pc' := 336) rfl (hb hby at_321) rfl (tlt (show Int32.ofNat C < (2 : Int32) from (own_lt (a := C) (b := 2) (by omega) (by omega)).mpr (by omega))).2.2.1 (by decide) (by decide) k) ?_
        show Wp p e below _ (T.setTop (mkF m 336 #[.val (.int p0), .val (.int p1), .val (.int (Int32.ofNat C)), .val (.int (Int32.ofNat M)), .val (.int (Int32.ofNat (own_cnt M 8))), .val (.ref ar), .val (.int (Int32.ofNat (own_cnt M 8))), .val (.ref er), .val (.int (Int32.ofNat (own_en M C 1))), .unset] [(.int (2 : Int32)), (.int (Int32.ofNat (own_en M C 1))), (.ref er)]))
        refine Wp.via (fun _ k => XS.iconst X.here hx rfl (hb hby at_336) k) ?_
        show Wp p e below _ (T.setTop (mkF m 337 #[.val (.int p0), .val (.int p1), .val (.int (Int32.ofNat C)), .val (.int (Int32.ofNat M)), .val (.int (Int32.ofNat (own_cnt M 8))), .val (.ref ar), .val (.int (Int32.ofNat (own_cnt M 8))), .val (.ref er), .val (.int (Int32.ofNat (own_en M C 1))), .unset] [(.int (0 : Int32)), (.int (2 : Int32)), (.int (Int32.ofNat (own_en M C 1))), (.ref er)]))
        obtain ⟨_, _, ⟨T50, L50, k50, n50⟩, -, X50, ⟨Lc50, hQ50, l50, y50, z50⟩, st50⟩ := Jvm.LawKit.callS X hx (y := (⟨"com/example/inverso/inverso/search/DocumentSetsComplementPinLaw", "put", "([IIIZ)I"⟩ : MethodName)) hown (mvT hZ (hw _ (List.mem_of_getElem? (i := 6) rfl))) (mvT hZ (hw _ (List.mem_of_getElem? (i := 7) rfl))) (mvT hZ (hw _ (List.mem_of_getElem? (i := 3) rfl))) (mvT hZ (hw _ (List.mem_of_getElem? (i := 8) rfl))) (by decide) (backOf (W := 0) (rm2_0 l Z aw hw [] er (Int32.ofNat (own_en M C 1)) (2 : Int32)  hh n0 zh ) hZ (hw _ (List.mem_of_getElem? (i := 8) rfl)) (hw _ (List.mem_of_getElem? (i := 3) rfl)) (by decide) (by decide)) (g := (mkF m 337 #[.val (.int p0), .val (.int p1), .val (.int (Int32.ofNat C)), .val (.int (Int32.ofNat M)), .val (.int (Int32.ofNat (own_cnt M 8))), .val (.ref ar), .val (.int (Int32.ofNat (own_cnt M 8))), .val (.ref er), .val (.int (Int32.ofNat (own_en M C 1))), .unset] [(.int (0 : Int32)), (.int (2 : Int32)), (.int (Int32.ofNat (own_en M C 1))), (.ref er)])) rfl (by rw [hml]; rfl) (argsL := [(.ref er), (.int (Int32.ofNat (own_en M C 1))), (.int (2 : Int32)), (.int (0 : Int32))]) (rest := []) (lenOf own_pd1 rfl) rfl (by show 2 * 0 + _ ≤ _; exact Nat.le_of_eq rfl) (hb hby at_337) (fun _ _ => ⟨rfl, eT, (by decide : 2 + 0 ≤ _), (by decide : 16 + 0 ≤ _)⟩)
        dsimp only [Pt.U, Pt.locs, Pt.cells, Pt.slots] at X50 l50 y50 z50 st50 hQ50
        subst l50 y50 z50
        obtain ⟨rfl, N50, e50⟩ := hQ50
        have NF50 := Fr.app NF N50
        refine Wp.via st50 ?_
        show Wp p e below _ (T50.setTop (mkF m 340 #[.val (.int p0), .val (.int p1), .val (.int (Int32.ofNat C)), .val (.int (Int32.ofNat M)), .val (.int (Int32.ofNat (own_cnt M 8))), .val (.ref ar), .val (.int (Int32.ofNat (own_cnt M 8))), .val (.ref er), .val (.int (Int32.ofNat (own_en M C 1))), .unset] [(.int (Int32.ofNat (own_en M C 1)))]))
        refine Wp.via (fun _ k => XS.istore X50.here hx rfl (hb hby at_340) rfl (l' := #[.val (.int p0), .val (.int p1), .val (.int (Int32.ofNat C)), .val (.int (Int32.ofNat M)), .val (.int (Int32.ofNat (own_cnt M 8))), .val (.ref ar), .val (.int (Int32.ofNat (own_cnt M 8))), .val (.ref er), .val (.int (Int32.ofNat (own_en M C 1))), .unset]) rfl k) ?_
        show Wp p e below _ (T50.setTop (mkF m 342 #[.val (.int p0), .val (.int p1), .val (.int (Int32.ofNat C)), .val (.int (Int32.ofNat M)), .val (.int (Int32.ofNat (own_cnt M 8))), .val (.ref ar), .val (.int (Int32.ofNat (own_cnt M 8))), .val (.ref er), .val (.int (Int32.ofNat (own_en M C 1))), .unset] []))
        have rw51 : (Int32.ofNat (own_en M C 1)) = (Int32.ofNat (own_en M C 2)) := by rw [eq3]
        rw [rw51]
        show Wp p e below _ (T50.setTop (mkF m 342 #[.val (.int p0), .val (.int p1), .val (.int (Int32.ofNat C)), .val (.int (Int32.ofNat M)), .val (.int (Int32.ofNat (own_cnt M 8))), .val (.ref ar), .val (.int (Int32.ofNat (own_cnt M 8))), .val (.ref er), .val (.int (Int32.ofNat (own_en M C 2))), .unset] []))
        exact J2_2 T50 _ _ X50 e50 zh NF50 ar er gna gne nae Va (Ve.cong (fun t ht => by rw [eq3]))
    clear J2_2
    have J2_0 : ∀ (T : State) (hh : Heap) (locs : List Loc) (X : Stand p l e room_1 s m #[(.int p0), (.int p1)] below meth c T locs 2 16) (eT : T.heap = hh) (zh : n0 ≤ hh.size) (NF : Fr n0 locs) (ar er : Addr) (gna : n0 ≤ ar) (gne : n0 ≤ er) (nae : ar ≠ er) (Va : Av Z hh ar .int (own_cnt M 8) (fun t => if t < own_cnt M 8 then .int (own_A M t) else .int (0 : Int32))) (Ve : Av Z hh er .int (C - own_cnt M 8) (fun t => if t < own_en M C 0 then .int (own_E M C t) else .int (0 : Int32))), Wp p e below (Gd s (Qo0 Z p0 p1 h0 n0) 16 128) (T.setTop (mkF m 286 #[.val (.int p0), .val (.int p1), .val (.int (Int32.ofNat C)), .val (.int (Int32.ofNat M)), .val (.int (Int32.ofNat (own_cnt M 8))), .val (.ref ar), .val (.int (Int32.ofNat (own_cnt M 8))), .val (.ref er), .val (.int (Int32.ofNat (own_en M C 0))), .unset] [])) := by
      intro T hh locs X eT zh NF ar er gna gne nae Va Ve
      have bd2 := own_ele M C 0
      have bv : f1_0 (Int32.ofNat M) (1 : Int32) = (if M.testBit 0 = true then 1 else 0) := own_bv ⟨M, hM8⟩ ⟨0, by decide⟩
      refine Wp.via (fun _ k => XS.aload X.here hx rfl (hb hby at_286) rfl rfl k) ?_
      show Wp p e below _ (T.setTop (mkF m 288 #[.val (.int p0), .val (.int p1), .val (.int (Int32.ofNat C)), .val (.int (Int32.ofNat M)), .val (.int (Int32.ofNat (own_cnt M 8))), .val (.ref ar), .val (.int (Int32.ofNat (own_cnt M 8))), .val (.ref er), .val (.int (Int32.ofNat (own_en M C 0))), .unset] [(.ref er)]))
      refine Wp.via (fun _ k => XS.iload X.here hx rfl (hb hby at_288) rfl k) ?_
      show Wp p e below _ (T.setTop (mkF m 290 #[.val (.int p0), .val (.int p1), .val (.int (Int32.ofNat C)), .val (.int (Int32.ofNat M)), .val (.int (Int32.ofNat (own_cnt M 8))), .val (.ref ar), .val (.int (Int32.ofNat (own_cnt M 8))), .val (.ref er), .val (.int (Int32.ofNat (own_en M C 0))), .unset] [(.int (Int32.ofNat (own_en M C 0))), (.ref er)]))
      refine Wp.via (fun _ k => XS.iconst X.here hx rfl (hb hby at_290) k) ?_
      show Wp p e below _ (T.setTop (mkF m 291 #[.val (.int p0), .val (.int p1), .val (.int (Int32.ofNat C)), .val (.int (Int32.ofNat M)), .val (.int (Int32.ofNat (own_cnt M 8))), .val (.ref ar), .val (.int (Int32.ofNat (own_cnt M 8))), .val (.ref er), .val (.int (Int32.ofNat (own_en M C 0))), .unset] [(.int (1 : Int32)), (.int (Int32.ofNat (own_en M C 0))), (.ref er)]))
      refine Wp.via (fun _ k => XS.iconst X.here hx rfl (hb hby at_291) k) ?_
      show Wp p e below _ (T.setTop (mkF m 292 #[.val (.int p0), .val (.int p1), .val (.int (Int32.ofNat C)), .val (.int (Int32.ofNat M)), .val (.int (Int32.ofNat (own_cnt M 8))), .val (.ref ar), .val (.int (Int32.ofNat (own_cnt M 8))), .val (.ref er), .val (.int (Int32.ofNat (own_en M C 0))), .unset] [(.int (1 : Int32)), (.int (1 : Int32)), (.int (Int32.ofNat (own_en M C 0))), (.ref er)]))
      refine Wp.via (fun _ k => XS.iloadN X.here hx rfl (hb hby at_292) rfl k) ?_
      show Wp p e below _ (T.setTop (mkF m 293 #[.val (.int p0), .val (.int p1), .val (.int (Int32.ofNat C)), .val (.int (Int32.ofNat M)), .val (.int (Int32.ofNat (own_cnt M 8))), .val (.ref ar), .val (.int (Int32.ofNat (own_cnt M 8))), .val (.ref er), .val (.int (Int32.ofNat (own_en M C 0))), .unset] [(.int (Int32.ofNat C)), (.int (1 : Int32)), (.int (1 : Int32)), (.int (Int32.ofNat (own_en M C 0))), (.ref er)]))
      by_cases hd : 0 < C
      ·
        refine Wp.via (fun _ k => XS.icmpNo X.here hx rfl (hb hby at_293) rfl (flt (show ¬ (Int32.ofNat C < (1 : Int32)) from fun q => by have := (own_lt (a := C) (b := 1) (by omega) (by omega)).mp q; omega)).2.2.1 k) ?_
        show Wp p e below _ (T.setTop (mkF m 296 #[.val (.int p0), .val (.int p1), .val (.int (Int32.ofNat C)), .val (.int (Int32.ofNat M)), .val (.int (Int32.ofNat (own_cnt M 8))), .val (.ref ar), .val (.int (Int32.ofNat (own_cnt M 8))), .val (.ref er), .val (.int (Int32.ofNat (own_en M C 0))), .unset] [(.int (1 : Int32)), (.int (Int32.ofNat (own_en M C 0))), (.ref er)]))
        refine Wp.via (fun _ k => XS.iloadN X.here hx rfl (hb hby at_296) rfl k) ?_
        show Wp p e below _ (T.setTop (mkF m 297 #[.val (.int p0), .val (.int p1), .val (.int (Int32.ofNat C)), .val (.int (Int32.ofNat M)), .val (.int (Int32.ofNat (own_cnt M 8))), .val (.ref ar), .val (.int (Int32.ofNat (own_cnt M 8))), .val (.ref er), .val (.int (Int32.ofNat (own_en M C 0))), .unset] [(.int (Int32.ofNat M)), (.int (1 : Int32)), (.int (Int32.ofNat (own_en M C 0))), (.ref er)]))
        refine Wp.via (fun _ k => XS.iconst X.here hx rfl (hb hby at_297) k) ?_
        show Wp p e below _ (T.setTop (mkF m 298 #[.val (.int p0), .val (.int p1), .val (.int (Int32.ofNat C)), .val (.int (Int32.ofNat M)), .val (.int (Int32.ofNat (own_cnt M 8))), .val (.ref ar), .val (.int (Int32.ofNat (own_cnt M 8))), .val (.ref er), .val (.int (Int32.ofNat (own_en M C 0))), .unset] [(.int (1 : Int32)), (.int (Int32.ofNat M)), (.int (1 : Int32)), (.int (Int32.ofNat (own_en M C 0))), (.ref er)]))
        obtain ⟨_, _, ⟨T52, L52, k52, n52⟩, -, X52, ⟨Lc52, hQ52, l52, y52, z52⟩, st52⟩ := Jvm.LawKit.callS X hx (y := (⟨"com/example/inverso/inverso/search/DocumentSetsComplementPinLaw", "bit", "(II)I"⟩ : MethodName)) hown (mvT hZ (hw _ (List.mem_of_getElem? (i := 1) rfl))) (mvT hZ (hw _ (List.mem_of_getElem? (i := 2) rfl))) (mvT hZ (hw _ (List.mem_of_getElem? (i := 3) rfl))) (mvT hZ (hw _ (List.mem_of_getElem? (i := 4) rfl))) (by decide) (backOf (W := 3) (rm1 l Z aw hw [] (Int32.ofNat M) (1 : Int32)  hh n0 zh ) hZ (hw _ (List.mem_of_getElem? (i := 4) rfl)) (hw _ (List.mem_of_getElem? (i := 3) rfl)) (by decide) (by decide)) (g := (mkF m 298 #[.val (.int p0), .val (.int p1), .val (.int (Int32.ofNat C)), .val (.int (Int32.ofNat M)), .val (.int (Int32.ofNat (own_cnt M 8))), .val (.ref ar), .val (.int (Int32.ofNat (own_cnt M 8))), .val (.ref er), .val (.int (Int32.ofNat (own_en M C 0))), .unset] [(.int (1 : Int32)), (.int (Int32.ofNat M)), (.int (1 : Int32)), (.int (Int32.ofNat (own_en M C 0))), (.ref er)])) rfl (by rw [hml]; rfl) (argsL := [(.int (Int32.ofNat M)), (.int (1 : Int32))]) (rest := [(.int (1 : Int32)), (.int (Int32.ofNat (own_en M C 0))), (.ref er)]) (lenOf own_pd0 rfl) rfl (by show 2 * 0 + _ ≤ _; exact Nat.le_of_eq rfl) (hb hby at_298) (fun _ _ => ⟨rfl, eT, (by decide : 2 + 0 ≤ _), (by decide : 16 + 0 ≤ _)⟩)
        dsimp only [Pt.U, Pt.locs, Pt.cells, Pt.slots] at X52 l52 y52 z52 st52 hQ52
        subst l52 y52 z52
        obtain ⟨rfl, N52, e52⟩ := hQ52
        have NF52 := Fr.app NF N52
        refine Wp.via st52 ?_
        show Wp p e below _ (T52.setTop (mkF m 301 #[.val (.int p0), .val (.int p1), .val (.int (Int32.ofNat C)), .val (.int (Int32.ofNat M)), .val (.int (Int32.ofNat (own_cnt M 8))), .val (.ref ar), .val (.int (Int32.ofNat (own_cnt M 8))), .val (.ref er), .val (.int (Int32.ofNat (own_en M C 0))), .unset] [(.int (f1_0 (Int32.ofNat M) (1 : Int32))), (.int (1 : Int32)), (.int (Int32.ofNat (own_en M C 0))), (.ref er)]))
        by_cases hbt : M.testBit 0 = true
        ·
          have eq3 : own_en M C 1 = own_en M C 0 := by simp [own_en, hbt]
          refine Wp.via (fun _ k => XS.ifYes X52.here hx rfl (pc0 := 301) (pc' := 308) rfl (hb hby at_301) rfl ((if0 _ _).trans (feq (by rw [bv, if_pos hbt]; decide)).2) (by decide) (by decide) k) ?_
          show Wp p e below _ (T52.setTop (mkF m 308 #[.val (.int p0), .val (.int p1), .val (.int (Int32.ofNat C)), .val (.int (Int32.ofNat M)), .val (.int (Int32.ofNat (own_cnt M 8))), .val (.ref ar), .val (.int (Int32.ofNat (own_cnt M 8))), .val (.ref er), .val (.int (Int32.ofNat (own_en M C 0))), .unset] [(.int (1 : Int32)), (.int (Int32.ofNat (own_en M C 0))), (.ref er)]))
          refine Wp.via (fun _ k => XS.iconst X52.here hx rfl (hb hby at_308) k) ?_
          show Wp p e below _ (T52.setTop (mkF m 309 #[.val (.int p0), .val (.int p1), .val (.int (Int32.ofNat C)), .val (.int (Int32.ofNat M)), .val (.int (Int32.ofNat (own_cnt M 8))), .val (.ref ar), .val (.int (Int32.ofNat (own_cnt M 8))), .val (.ref er), .val (.int (Int32.ofNat (own_en M C 0))), .unset] [(.int (0 : Int32)), (.int (1 : Int32)), (.int (Int32.ofNat (own_en M C 0))), (.ref er)]))
          obtain ⟨_, _, ⟨T53, L53, k53, n53⟩, -, X53, ⟨Lc53, hQ53, l53, y53, z53⟩, st53⟩ := Jvm.LawKit.callS X52 hx (y := (⟨"com/example/inverso/inverso/search/DocumentSetsComplementPinLaw", "put", "([IIIZ)I"⟩ : MethodName)) hown (mvT hZ (hw _ (List.mem_of_getElem? (i := 6) rfl))) (mvT hZ (hw _ (List.mem_of_getElem? (i := 7) rfl))) (mvT hZ (hw _ (List.mem_of_getElem? (i := 3) rfl))) (mvT hZ (hw _ (List.mem_of_getElem? (i := 8) rfl))) (by decide) (backOf (W := 0) (rm2_0 l Z aw hw [] er (Int32.ofNat (own_en M C 0)) (1 : Int32)  hh n0 zh ) hZ (hw _ (List.mem_of_getElem? (i := 8) rfl)) (hw _ (List.mem_of_getElem? (i := 3) rfl)) (by decide) (by decide)) (g := (mkF m 309 #[.val (.int p0), .val (.int p1), .val (.int (Int32.ofNat C)), .val (.int (Int32.ofNat M)), .val (.int (Int32.ofNat (own_cnt M 8))), .val (.ref ar), .val (.int (Int32.ofNat (own_cnt M 8))), .val (.ref er), .val (.int (Int32.ofNat (own_en M C 0))), .unset] [(.int (0 : Int32)), (.int (1 : Int32)), (.int (Int32.ofNat (own_en M C 0))), (.ref er)])) rfl (by rw [hml]; rfl) (argsL := [(.ref er), (.int (Int32.ofNat (own_en M C 0))), (.int (1 : Int32)), (.int (0 : Int32))]) (rest := []) (lenOf own_pd1 rfl) rfl (by show 2 * 0 + _ ≤ _; exact Nat.le_of_eq rfl) (hb hby at_309) (fun _ _ => ⟨rfl, e52, (by decide : 2 + 0 ≤ _), (by decide : 16 + 0 ≤ _)⟩)
          dsimp only [Pt.U, Pt.locs, Pt.cells, Pt.slots] at X53 l53 y53 z53 st53 hQ53
          subst l53 y53 z53
          obtain ⟨rfl, N53, e53⟩ := hQ53
          have NF53 := Fr.app NF52 N53
          refine Wp.via st53 ?_
          show Wp p e below _ (T53.setTop (mkF m 312 #[.val (.int p0), .val (.int p1), .val (.int (Int32.ofNat C)), .val (.int (Int32.ofNat M)), .val (.int (Int32.ofNat (own_cnt M 8))), .val (.ref ar), .val (.int (Int32.ofNat (own_cnt M 8))), .val (.ref er), .val (.int (Int32.ofNat (own_en M C 0))), .unset] [(.int (Int32.ofNat (own_en M C 0)))]))
          refine Wp.via (fun _ k => XS.istore X53.here hx rfl (hb hby at_312) rfl (l' := #[.val (.int p0), .val (.int p1), .val (.int (Int32.ofNat C)), .val (.int (Int32.ofNat M)), .val (.int (Int32.ofNat (own_cnt M 8))), .val (.ref ar), .val (.int (Int32.ofNat (own_cnt M 8))), .val (.ref er), .val (.int (Int32.ofNat (own_en M C 0))), .unset]) rfl k) ?_
          show Wp p e below _ (T53.setTop (mkF m 314 #[.val (.int p0), .val (.int p1), .val (.int (Int32.ofNat C)), .val (.int (Int32.ofNat M)), .val (.int (Int32.ofNat (own_cnt M 8))), .val (.ref ar), .val (.int (Int32.ofNat (own_cnt M 8))), .val (.ref er), .val (.int (Int32.ofNat (own_en M C 0))), .unset] []))
          have rw54 : (Int32.ofNat (own_en M C 0)) = (Int32.ofNat (own_en M C 1)) := by rw [eq3]
          rw [rw54]
          show Wp p e below _ (T53.setTop (mkF m 314 #[.val (.int p0), .val (.int p1), .val (.int (Int32.ofNat C)), .val (.int (Int32.ofNat M)), .val (.int (Int32.ofNat (own_cnt M 8))), .val (.ref ar), .val (.int (Int32.ofNat (own_cnt M 8))), .val (.ref er), .val (.int (Int32.ofNat (own_en M C 1))), .unset] []))
          exact J2_1 T53 _ _ X53 e53 zh NF53 ar er gna gne nae Va (Ve.cong (fun t ht => by rw [eq3]))
        ·
          have hbf : M.testBit 0 = false := by simpa using hbt
          obtain ⟨E1, E2⟩ := own_F2 ⟨C, by omega⟩ ⟨M, hM8⟩ hM ⟨0, by decide⟩ hd hbf
          dsimp only at E1 E2
          refine Wp.via (fun _ k => XS.ifNo X52.here hx rfl (hb hby at_301) rfl ((if0 _ _).trans (teq (by rw [bv, if_neg hbt])).2) k) ?_
          show Wp p e below _ (T52.setTop (mkF m 304 #[.val (.int p0), .val (.int p1), .val (.int (Int32.ofNat C)), .val (.int (Int32.ofNat M)), .val (.int (Int32.ofNat (own_cnt M 8))), .val (.ref ar), .val (.int (Int32.ofNat (own_cnt M 8))), .val (.ref er), .val (.int (Int32.ofNat (own_en M C 0))), .unset] [(.int (1 : Int32)), (.int (Int32.ofNat (own_en M C 0))), (.ref er)]))
          refine Wp.via (fun _ k => XS.iconst X52.here hx rfl (hb hby at_304) k) ?_
          show Wp p e below _ (T52.setTop (mkF m 305 #[.val (.int p0), .val (.int p1), .val (.int (Int32.ofNat C)), .val (.int (Int32.ofNat M)), .val (.int (Int32.ofNat (own_cnt M 8))), .val (.ref ar), .val (.int (Int32.ofNat (own_cnt M 8))), .val (.ref er), .val (.int (Int32.ofNat (own_en M C 0))), .unset] [(.int (1 : Int32)), (.int (1 : Int32)), (.int (Int32.ofNat (own_en M C 0))), (.ref er)]))
          refine Wp.via (fun _ k => XS.goto X52.here hx rfl (pc0 := 305) (pc' := 309) rfl (hb hby at_305) (by decide) (by decide) k) ?_
          show Wp p e below _ (T52.setTop (mkF m 309 #[.val (.int p0), .val (.int p1), .val (.int (Int32.ofNat C)), .val (.int (Int32.ofNat M)), .val (.int (Int32.ofNat (own_cnt M 8))), .val (.ref ar), .val (.int (Int32.ofNat (own_cnt M 8))), .val (.ref er), .val (.int (Int32.ofNat (own_en M C 0))), .unset] [(.int (1 : Int32)), (.int (1 : Int32)), (.int (Int32.ofNat (own_en M C 0))), (.ref er)]))
          obtain ⟨_, _, ⟨T55, L55, k55, n55⟩, -, X55, ⟨Lc55, hQ55, l55, y55, z55⟩, st55⟩ := Jvm.LawKit.callS X52 hx (y := (⟨"com/example/inverso/inverso/search/DocumentSetsComplementPinLaw", "put", "([IIIZ)I"⟩ : MethodName)) hown (mvT hZ (hw _ (List.mem_of_getElem? (i := 6) rfl))) (mvT hZ (hw _ (List.mem_of_getElem? (i := 7) rfl))) (mvT hZ (hw _ (List.mem_of_getElem? (i := 3) rfl))) (mvT hZ (hw _ (List.mem_of_getElem? (i := 8) rfl))) (by decide) (backOf (W := 0) (rm2_1 l Z aw hw [] er (Int32.ofNat (own_en M C 0)) (1 : Int32) (C - own_cnt M 8) (own_en M C 0) (fun t => if t < own_en M C 0 then .int (own_E M C t) else .int (0 : Int32)) hh n0 zh Ve gne (own_pos (by omega)) (own_nat (by omega)) E2) hZ (hw _ (List.mem_of_getElem? (i := 8) rfl)) (hw _ (List.mem_of_getElem? (i := 3) rfl)) (by decide) (by decide)) (g := (mkF m 309 #[.val (.int p0), .val (.int p1), .val (.int (Int32.ofNat C)), .val (.int (Int32.ofNat M)), .val (.int (Int32.ofNat (own_cnt M 8))), .val (.ref ar), .val (.int (Int32.ofNat (own_cnt M 8))), .val (.ref er), .val (.int (Int32.ofNat (own_en M C 0))), .unset] [(.int (1 : Int32)), (.int (1 : Int32)), (.int (Int32.ofNat (own_en M C 0))), (.ref er)])) rfl (by rw [hml]; rfl) (argsL := [(.ref er), (.int (Int32.ofNat (own_en M C 0))), (.int (1 : Int32)), (.int (1 : Int32))]) (rest := []) (lenOf own_pd1 rfl) rfl (by show 2 * 0 + _ ≤ _; exact Nat.le_of_eq rfl) (hb hby at_309) (fun _ _ => ⟨rfl, e52, (by decide : 2 + 0 ≤ _), (by decide : 16 + 0 ≤ _)⟩)
          dsimp only [Pt.U, Pt.locs, Pt.cells, Pt.slots] at X55 l55 y55 z55 st55 hQ55
          subst l55 y55 z55
          obtain ⟨rfl, N55, Kc55, Vn55⟩ := hQ55
          have NF55 := Fr.app NF52 N55
          refine Wp.via st55 ?_
          show Wp p e below _ (T55.setTop (mkF m 312 #[.val (.int p0), .val (.int p1), .val (.int (Int32.ofNat C)), .val (.int (Int32.ofNat M)), .val (.int (Int32.ofNat (own_cnt M 8))), .val (.ref ar), .val (.int (Int32.ofNat (own_cnt M 8))), .val (.ref er), .val (.int (Int32.ofNat (own_en M C 0))), .unset] [(.int ((Int32.ofNat (own_en M C 0)) + (1 : Int32)))]))
          have zz55 : n0 ≤ T55.heap.size := Nat.le_trans zh Kc55.1
          have Vo55 := Va.keep Kc55 (ninS nae nin0)
          refine Wp.via (fun _ k => XS.istore X55.here hx rfl (hb hby at_312) rfl (l' := #[.val (.int p0), .val (.int p1), .val (.int (Int32.ofNat C)), .val (.int (Int32.ofNat M)), .val (.int (Int32.ofNat (own_cnt M 8))), .val (.ref ar), .val (.int (Int32.ofNat (own_cnt M 8))), .val (.ref er), .val (.int ((Int32.ofNat (own_en M C 0)) + (1 : Int32))), .unset]) rfl k) ?_
          show Wp p e below _ (T55.setTop (mkF m 314 #[.val (.int p0), .val (.int p1), .val (.int (Int32.ofNat C)), .val (.int (Int32.ofNat M)), .val (.int (Int32.ofNat (own_cnt M 8))), .val (.ref ar), .val (.int (Int32.ofNat (own_cnt M 8))), .val (.ref er), .val (.int ((Int32.ofNat (own_en M C 0)) + (1 : Int32))), .unset] []))
          have rw56 : ((Int32.ofNat (own_en M C 0)) + (1 : Int32)) = (Int32.ofNat (own_en M C 1)) := by rw [own_succ]; simp [own_en, hbf, hd]
          rw [rw56]
          show Wp p e below _ (T55.setTop (mkF m 314 #[.val (.int p0), .val (.int p1), .val (.int (Int32.ofNat C)), .val (.int (Int32.ofNat M)), .val (.int (Int32.ofNat (own_cnt M 8))), .val (.ref ar), .val (.int (Int32.ofNat (own_cnt M 8))), .val (.ref er), .val (.int (Int32.ofNat (own_en M C 1))), .unset] []))
          exact J2_1 T55 _ _ X55 rfl zz55 NF55 ar er gna gne nae Vo55 (Vn55.cong (fun t ht => own_stE M C 0 t _ hd hbf E1))
      ·
        have eq3 : own_en M C 1 = own_en M C 0 := by simp [own_en, hd]
        refine Wp.via (fun _ k => XS.icmpYes X.here hx rfl (pc0 := 293) (pc' := 308) rfl (hb hby at_293) rfl (tlt (show Int32.ofNat C < (1 : Int32) from (own_lt (a := C) (b := 1) (by omega) (by omega)).mpr (by omega))).2.2.1 (by decide) (by decide) k) ?_
        show Wp p e below _ (T.setTop (mkF m 308 #[.val (.int p0), .val (.int p1), .val (.int (Int32.ofNat C)), .val (.int (Int32.ofNat M)), .val (.int (Int32.ofNat (own_cnt M 8))), .val (.ref ar), .val (.int (Int32.ofNat (own_cnt M 8))), .val (.ref er), .val (.int (Int32.ofNat (own_en M C 0))), .unset] [(.int (1 : Int32)), (.int (Int32.ofNat (own_en M C 0))), (.ref er)]))
        refine Wp.via (fun _ k => XS.iconst X.here hx rfl (hb hby at_308) k) ?_
        show Wp p e below _ (T.setTop (mkF m 309 #[.val (.int p0), .val (.int p1), .val (.int (Int32.ofNat C)), .val (.int (Int32.ofNat M)), .val (.int (Int32.ofNat (own_cnt M 8))), .val (.ref ar), .val (.int (Int32.ofNat (own_cnt M 8))), .val (.ref er), .val (.int (Int32.ofNat (own_en M C 0))), .unset] [(.int (0 : Int32)), (.int (1 : Int32)), (.int (Int32.ofNat (own_en M C 0))), (.ref er)]))
        obtain ⟨_, _, ⟨T57, L57, k57, n57⟩, -, X57, ⟨Lc57, hQ57, l57, y57, z57⟩, st57⟩ := Jvm.LawKit.callS X hx (y := (⟨"com/example/inverso/inverso/search/DocumentSetsComplementPinLaw", "put", "([IIIZ)I"⟩ : MethodName)) hown (mvT hZ (hw _ (List.mem_of_getElem? (i := 6) rfl))) (mvT hZ (hw _ (List.mem_of_getElem? (i := 7) rfl))) (mvT hZ (hw _ (List.mem_of_getElem? (i := 3) rfl))) (mvT hZ (hw _ (List.mem_of_getElem? (i := 8) rfl))) (by decide) (backOf (W := 0) (rm2_0 l Z aw hw [] er (Int32.ofNat (own_en M C 0)) (1 : Int32)  hh n0 zh ) hZ (hw _ (List.mem_of_getElem? (i := 8) rfl)) (hw _ (List.mem_of_getElem? (i := 3) rfl)) (by decide) (by decide)) (g := (mkF m 309 #[.val (.int p0), .val (.int p1), .val (.int (Int32.ofNat C)), .val (.int (Int32.ofNat M)), .val (.int (Int32.ofNat (own_cnt M 8))), .val (.ref ar), .val (.int (Int32.ofNat (own_cnt M 8))), .val (.ref er), .val (.int (Int32.ofNat (own_en M C 0))), .unset] [(.int (0 : Int32)), (.int (1 : Int32)), (.int (Int32.ofNat (own_en M C 0))), (.ref er)])) rfl (by rw [hml]; rfl) (argsL := [(.ref er), (.int (Int32.ofNat (own_en M C 0))), (.int (1 : Int32)), (.int (0 : Int32))]) (rest := []) (lenOf own_pd1 rfl) rfl (by show 2 * 0 + _ ≤ _; exact Nat.le_of_eq rfl) (hb hby at_309) (fun _ _ => ⟨rfl, eT, (by decide : 2 + 0 ≤ _), (by decide : 16 + 0 ≤ _)⟩)
        dsimp only [Pt.U, Pt.locs, Pt.cells, Pt.slots] at X57 l57 y57 z57 st57 hQ57
        subst l57 y57 z57
        obtain ⟨rfl, N57, e57⟩ := hQ57
        have NF57 := Fr.app NF N57
        refine Wp.via st57 ?_
        show Wp p e below _ (T57.setTop (mkF m 312 #[.val (.int p0), .val (.int p1), .val (.int (Int32.ofNat C)), .val (.int (Int32.ofNat M)), .val (.int (Int32.ofNat (own_cnt M 8))), .val (.ref ar), .val (.int (Int32.ofNat (own_cnt M 8))), .val (.ref er), .val (.int (Int32.ofNat (own_en M C 0))), .unset] [(.int (Int32.ofNat (own_en M C 0)))]))
        refine Wp.via (fun _ k => XS.istore X57.here hx rfl (hb hby at_312) rfl (l' := #[.val (.int p0), .val (.int p1), .val (.int (Int32.ofNat C)), .val (.int (Int32.ofNat M)), .val (.int (Int32.ofNat (own_cnt M 8))), .val (.ref ar), .val (.int (Int32.ofNat (own_cnt M 8))), .val (.ref er), .val (.int (Int32.ofNat (own_en M C 0))), .unset]) rfl k) ?_
        show Wp p e below _ (T57.setTop (mkF m 314 #[.val (.int p0), .val (.int p1), .val (.int (Int32.ofNat C)), .val (.int (Int32.ofNat M)), .val (.int (Int32.ofNat (own_cnt M 8))), .val (.ref ar), .val (.int (Int32.ofNat (own_cnt M 8))), .val (.ref er), .val (.int (Int32.ofNat (own_en M C 0))), .unset] []))
        have rw58 : (Int32.ofNat (own_en M C 0)) = (Int32.ofNat (own_en M C 1)) := by rw [eq3]
        rw [rw58]
        show Wp p e below _ (T57.setTop (mkF m 314 #[.val (.int p0), .val (.int p1), .val (.int (Int32.ofNat C)), .val (.int (Int32.ofNat M)), .val (.int (Int32.ofNat (own_cnt M 8))), .val (.ref ar), .val (.int (Int32.ofNat (own_cnt M 8))), .val (.ref er), .val (.int (Int32.ofNat (own_en M C 1))), .unset] []))
        exact J2_1 T57 _ _ X57 e57 zh NF57 ar er gna gne nae Va (Ve.cong (fun t ht => by rw [eq3]))
    clear J2_1
    have J1_8 : ∀ (T : State) (hh : Heap) (locs : List Loc) (X : Stand p l e room_1 s m #[(.int p0), (.int p1)] below meth c T locs 1 8) (eT : T.heap = hh) (zh : n0 ≤ hh.size) (NF : Fr n0 locs) (ar : Addr) (gna : n0 ≤ ar) (Va : Av Z hh ar .int (own_cnt M 8) (fun t => if t < own_cnt M 8 then .int (own_A M t) else .int (0 : Int32))), Wp p e below (Gd s (Qo0 Z p0 p1 h0 n0) 16 128) (T.setTop (mkF m 275 #[.val (.int p0), .val (.int p1), .val (.int (Int32.ofNat C)), .val (.int (Int32.ofNat M)), .val (.int (Int32.ofNat (own_cnt M 8))), .val (.ref ar), .val (.int (Int32.ofNat (own_cnt M 8))), .unset, .unset, .unset] [])) := by
      intro T hh locs X eT zh NF ar gna Va
      refine Wp.via (fun _ k => XS.iloadN X.here hx rfl (hb hby at_275) rfl k) ?_
      show Wp p e below _ (T.setTop (mkF m 276 #[.val (.int p0), .val (.int p1), .val (.int (Int32.ofNat C)), .val (.int (Int32.ofNat M)), .val (.int (Int32.ofNat (own_cnt M 8))), .val (.ref ar), .val (.int (Int32.ofNat (own_cnt M 8))), .unset, .unset, .unset] [(.int (Int32.ofNat C))]))
      refine Wp.via (fun _ k => XS.iload X.here hx rfl (hb hby at_276) rfl k) ?_
      show Wp p e below _ (T.setTop (mkF m 278 #[.val (.int p0), .val (.int p1), .val (.int (Int32.ofNat C)), .val (.int (Int32.ofNat M)), .val (.int (Int32.ofNat (own_cnt M 8))), .val (.ref ar), .val (.int (Int32.ofNat (own_cnt M 8))), .unset, .unset, .unset] [(.int (Int32.ofNat (own_cnt M 8))), (.int (Int32.ofNat C))]))
      refine Wp.via (fun _ k => XS.isub X.here hx rfl (hb hby at_278) rfl k) ?_
      show Wp p e below _ (T.setTop (mkF m 279 #[.val (.int p0), .val (.int p1), .val (.int (Int32.ofNat C)), .val (.int (Int32.ofNat M)), .val (.int (Int32.ofNat (own_cnt M 8))), .val (.ref ar), .val (.int (Int32.ofNat (own_cnt M 8))), .unset, .unset, .unset] [(.int ((Int32.ofNat C) - (Int32.ofNat (own_cnt M 8))))]))
      have rw59 : ((Int32.ofNat C) - (Int32.ofNat (own_cnt M 8))) = (Int32.ofNat (C - own_cnt M 8)) := own_sub (by omega) F5.1
      rw [rw59]
      show Wp p e below _ (T.setTop (mkF m 279 #[.val (.int p0), .val (.int p1), .val (.int (Int32.ofNat C)), .val (.int (Int32.ofNat M)), .val (.int (Int32.ofNat (own_cnt M 8))), .val (.ref ar), .val (.int (Int32.ofNat (own_cnt M 8))), .unset, .unset, .unset] [(.int (Int32.ofNat (C - own_cnt M 8)))]))
      obtain ⟨T60, h60, kl60, X60, e60, E60, A60, st60⟩ := newP X hx hZ (hw _ (List.mem_of_getElem? (i := 5) rfl)) eT (g := (mkF m 279 #[.val (.int p0), .val (.int p1), .val (.int (Int32.ofNat C)), .val (.int (Int32.ofNat M)), .val (.int (Int32.ofNat (own_cnt M 8))), .val (.ref ar), .val (.int (Int32.ofNat (own_cnt M 8))), .unset, .unset, .unset] [(.int (Int32.ofNat (C - own_cnt M 8)))])) rfl (hb hby at_279) rfl (own_pos (by omega)) (cap := 8) (by rw [own_nat (by omega)]; omega) (by decide) (by decide) (by decide)
      obtain ⟨b60, g60⟩ : ∃ z, z = hh.size := ⟨_, rfl⟩
      rw [← g60] at A60 st60
      have gn_b60 : n0 ≤ b60 := Nat.le_trans zh (Nat.le_of_eq g60.symm)
      have sz_b60 : hh.size ≤ b60 := Nat.le_trans (Keep.refl hh []).1 (Nat.le_of_eq g60.symm)
      have lt_ar_b60 : @LT.lt Nat _ ar b60 := Nat.lt_of_lt_of_le Va.lt (Nat.le_of_eq g60.symm)
      have ne61 : ar ≠ b60 := Nat.ne_of_lt lt_ar_b60
      have c62 := Va.ext E60
      have V60 : Av Z h60 b60 .int (C - own_cnt M 8) (fun _ => (.int (0 : Int32))) := Av.new A60 (own_nat (by omega))
      refine Wp.via st60 ?_
      have K60 := (Keep.refl hh []).ext E60
      have zz63 : n0 ≤ h60.size := Nat.le_trans zh E60.1
      show Wp p e below _ (T60.setTop (mkF m 281 #[.val (.int p0), .val (.int p1), .val (.int (Int32.ofNat C)), .val (.int (Int32.ofNat M)), .val (.int (Int32.ofNat (own_cnt M 8))), .val (.ref ar), .val (.int (Int32.ofNat (own_cnt M 8))), .unset, .unset, .unset] [(.ref b60)]))
      refine Wp.via (fun _ k => XS.astore X60.here hx rfl (hb hby at_281) rfl rfl (l' := #[.val (.int p0), .val (.int p1), .val (.int (Int32.ofNat C)), .val (.int (Int32.ofNat M)), .val (.int (Int32.ofNat (own_cnt M 8))), .val (.ref ar), .val (.int (Int32.ofNat (own_cnt M 8))), .val (.ref b60), .unset, .unset]) rfl k) ?_
      show Wp p e below _ (T60.setTop (mkF m 283 #[.val (.int p0), .val (.int p1), .val (.int (Int32.ofNat C)), .val (.int (Int32.ofNat M)), .val (.int (Int32.ofNat (own_cnt M 8))), .val (.ref ar), .val (.int (Int32.ofNat (own_cnt M 8))), .val (.ref b60), .unset, .unset] []))
      refine Wp.via (fun _ k => XS.iconst X60.here hx rfl (hb hby at_283) k) ?_
      show Wp p e below _ (T60.setTop (mkF m 284 #[.val (.int p0), .val (.int p1), .val (.int (Int32.ofNat C)), .val (.int (Int32.ofNat M)), .val (.int (Int32.ofNat (own_cnt M 8))), .val (.ref ar), .val (.int (Int32.ofNat (own_cnt M 8))), .val (.ref b60), .unset, .unset] [(.int (0 : Int32))]))
      refine Wp.via (fun _ k => XS.istore X60.here hx rfl (hb hby at_284) rfl (l' := #[.val (.int p0), .val (.int p1), .val (.int (Int32.ofNat C)), .val (.int (Int32.ofNat M)), .val (.int (Int32.ofNat (own_cnt M 8))), .val (.ref ar), .val (.int (Int32.ofNat (own_cnt M 8))), .val (.ref b60), .val (.int (0 : Int32)), .unset]) rfl k) ?_
      show Wp p e below _ (T60.setTop (mkF m 286 #[.val (.int p0), .val (.int p1), .val (.int (Int32.ofNat C)), .val (.int (Int32.ofNat M)), .val (.int (Int32.ofNat (own_cnt M 8))), .val (.ref ar), .val (.int (Int32.ofNat (own_cnt M 8))), .val (.ref b60), .val (.int (0 : Int32)), .unset] []))
      exact J2_0 T60 _ _ X60 e60 zz63 NF ar b60 gna gn_b60 ne61 c62 (V60.cong (fun t ht => (if_neg (by show ¬ t < 0; omega)).symm))
    clear J2_0
    have J1_7 : ∀ (T : State) (hh : Heap) (locs : List Loc) (X : Stand p l e room_1 s m #[(.int p0), (.int p1)] below meth c T locs 1 8) (eT : T.heap = hh) (zh : n0 ≤ hh.size) (NF : Fr n0 locs) (ar : Addr) (gna : n0 ≤ ar) (Va : Av Z hh ar .int (own_cnt M 8) (fun t => if t < own_cnt M 7 then .int (own_A M t) else .int (0 : Int32))), Wp p e below (Gd s (Qo0 Z p0 p1 h0 n0) 16 128) (T.setTop (mkF m 249 #[.val (.int p0), .val (.int p1), .val (.int (Int32.ofNat C)), .val (.int (Int32.ofNat M)), .val (.int (Int32.ofNat (own_cnt M 8))), .val (.ref ar), .val (.int (Int32.ofNat (own_cnt M 7))), .unset, .unset, .unset] [])) := by
      intro T hh locs X eT zh NF ar gna Va
      have bd2 := own_cle M 7
      have bv : f1_0 (Int32.ofNat M) (8 : Int32) = (if M.testBit 7 = true then 1 else 0) := own_bv ⟨M, hM8⟩ ⟨7, by decide⟩
      refine Wp.via (fun _ k => XS.aload X.here hx rfl (hb hby at_249) rfl rfl k) ?_
      show Wp p e below _ (T.setTop (mkF m 251 #[.val (.int p0), .val (.int p1), .val (.int (Int32.ofNat C)), .val (.int (Int32.ofNat M)), .val (.int (Int32.ofNat (own_cnt M 8))), .val (.ref ar), .val (.int (Int32.ofNat (own_cnt M 7))), .unset, .unset, .unset] [(.ref ar)]))
      refine Wp.via (fun _ k => XS.iload X.here hx rfl (hb hby at_251) rfl k) ?_
      show Wp p e below _ (T.setTop (mkF m 253 #[.val (.int p0), .val (.int p1), .val (.int (Int32.ofNat C)), .val (.int (Int32.ofNat M)), .val (.int (Int32.ofNat (own_cnt M 8))), .val (.ref ar), .val (.int (Int32.ofNat (own_cnt M 7))), .unset, .unset, .unset] [(.int (Int32.ofNat (own_cnt M 7))), (.ref ar)]))
      refine Wp.via (fun _ k => XS.bipush X.here hx rfl (hb hby at_253) k) ?_
      show Wp p e below _ (T.setTop (mkF m 255 #[.val (.int p0), .val (.int p1), .val (.int (Int32.ofNat C)), .val (.int (Int32.ofNat M)), .val (.int (Int32.ofNat (own_cnt M 8))), .val (.ref ar), .val (.int (Int32.ofNat (own_cnt M 7))), .unset, .unset, .unset] [(.int (8 : Int32)), (.int (Int32.ofNat (own_cnt M 7))), (.ref ar)]))
      refine Wp.via (fun _ k => XS.iloadN X.here hx rfl (hb hby at_255) rfl k) ?_
      show Wp p e below _ (T.setTop (mkF m 256 #[.val (.int p0), .val (.int p1), .val (.int (Int32.ofNat C)), .val (.int (Int32.ofNat M)), .val (.int (Int32.ofNat (own_cnt M 8))), .val (.ref ar), .val (.int (Int32.ofNat (own_cnt M 7))), .unset, .unset, .unset] [(.int (Int32.ofNat M)), (.int (8 : Int32)), (.int (Int32.ofNat (own_cnt M 7))), (.ref ar)]))
      refine Wp.via (fun _ k => XS.bipush X.here hx rfl (hb hby at_256) k) ?_
      show Wp p e below _ (T.setTop (mkF m 258 #[.val (.int p0), .val (.int p1), .val (.int (Int32.ofNat C)), .val (.int (Int32.ofNat M)), .val (.int (Int32.ofNat (own_cnt M 8))), .val (.ref ar), .val (.int (Int32.ofNat (own_cnt M 7))), .unset, .unset, .unset] [(.int (8 : Int32)), (.int (Int32.ofNat M)), (.int (8 : Int32)), (.int (Int32.ofNat (own_cnt M 7))), (.ref ar)]))
      obtain ⟨_, _, ⟨T64, L64, k64, n64⟩, -, X64, ⟨Lc64, hQ64, l64, y64, z64⟩, st64⟩ := Jvm.LawKit.callS X hx (y := (⟨"com/example/inverso/inverso/search/DocumentSetsComplementPinLaw", "bit", "(II)I"⟩ : MethodName)) hown (mvT hZ (hw _ (List.mem_of_getElem? (i := 1) rfl))) (mvT hZ (hw _ (List.mem_of_getElem? (i := 2) rfl))) (mvT hZ (hw _ (List.mem_of_getElem? (i := 3) rfl))) (mvT hZ (hw _ (List.mem_of_getElem? (i := 4) rfl))) (by decide) (backOf (W := 3) (rm1 l Z aw hw [] (Int32.ofNat M) (8 : Int32)  hh n0 zh ) hZ (hw _ (List.mem_of_getElem? (i := 4) rfl)) (hw _ (List.mem_of_getElem? (i := 3) rfl)) (by decide) (by decide)) (g := (mkF m 258 #[.val (.int p0), .val (.int p1), .val (.int (Int32.ofNat C)), .val (.int (Int32.ofNat M)), .val (.int (Int32.ofNat (own_cnt M 8))), .val (.ref ar), .val (.int (Int32.ofNat (own_cnt M 7))), .unset, .unset, .unset] [(.int (8 : Int32)), (.int (Int32.ofNat M)), (.int (8 : Int32)), (.int (Int32.ofNat (own_cnt M 7))), (.ref ar)])) rfl (by rw [hml]; rfl) (argsL := [(.int (Int32.ofNat M)), (.int (8 : Int32))]) (rest := [(.int (8 : Int32)), (.int (Int32.ofNat (own_cnt M 7))), (.ref ar)]) (lenOf own_pd0 rfl) rfl (by show 2 * 0 + _ ≤ _; exact Nat.le_of_eq rfl) (hb hby at_258) (fun _ _ => ⟨rfl, eT, (by decide : 1 + 0 ≤ _), (by decide : 8 + 0 ≤ _)⟩)
      dsimp only [Pt.U, Pt.locs, Pt.cells, Pt.slots] at X64 l64 y64 z64 st64 hQ64
      subst l64 y64 z64
      obtain ⟨rfl, N64, e64⟩ := hQ64
      have NF64 := Fr.app NF N64
      refine Wp.via st64 ?_
      show Wp p e below _ (T64.setTop (mkF m 261 #[.val (.int p0), .val (.int p1), .val (.int (Int32.ofNat C)), .val (.int (Int32.ofNat M)), .val (.int (Int32.ofNat (own_cnt M 8))), .val (.ref ar), .val (.int (Int32.ofNat (own_cnt M 7))), .unset, .unset, .unset] [(.int (f1_0 (Int32.ofNat M) (8 : Int32))), (.int (8 : Int32)), (.int (Int32.ofNat (own_cnt M 7))), (.ref ar)]))
      refine Wp.via (fun _ k => XS.iconst X64.here hx rfl (hb hby at_261) k) ?_
      show Wp p e below _ (T64.setTop (mkF m 262 #[.val (.int p0), .val (.int p1), .val (.int (Int32.ofNat C)), .val (.int (Int32.ofNat M)), .val (.int (Int32.ofNat (own_cnt M 8))), .val (.ref ar), .val (.int (Int32.ofNat (own_cnt M 7))), .unset, .unset, .unset] [(.int (1 : Int32)), (.int (f1_0 (Int32.ofNat M) (8 : Int32))), (.int (8 : Int32)), (.int (Int32.ofNat (own_cnt M 7))), (.ref ar)]))
      by_cases hbt : M.testBit 7 = true
      ·
        obtain ⟨A1, A2⟩ := own_F1 ⟨M, hM8⟩ ⟨7, by decide⟩ hbt
        dsimp only at A1 A2
        refine Wp.via (fun _ k => XS.icmpNo X64.here hx rfl (hb hby at_262) rfl (teq (by rw [bv, if_pos hbt])).2 k) ?_
        show Wp p e below _ (T64.setTop (mkF m 265 #[.val (.int p0), .val (.int p1), .val (.int (Int32.ofNat C)), .val (.int (Int32.ofNat M)), .val (.int (Int32.ofNat (own_cnt M 8))), .val (.ref ar), .val (.int (Int32.ofNat (own_cnt M 7))), .unset, .unset, .unset] [(.int (8 : Int32)), (.int (Int32.ofNat (own_cnt M 7))), (.ref ar)]))
        refine Wp.via (fun _ k => XS.iconst X64.here hx rfl (hb hby at_265) k) ?_
        show Wp p e below _ (T64.setTop (mkF m 266 #[.val (.int p0), .val (.int p1), .val (.int (Int32.ofNat C)), .val (.int (Int32.ofNat M)), .val (.int (Int32.ofNat (own_cnt M 8))), .val (.ref ar), .val (.int (Int32.ofNat (own_cnt M 7))), .unset, .unset, .unset] [(.int (1 : Int32)), (.int (8 : Int32)), (.int (Int32.ofNat (own_cnt M 7))), (.ref ar)]))
        refine Wp.via (fun _ k => XS.goto X64.here hx rfl (pc0 := 266) (pc' := 270) rfl (hb hby at_266) (by decide) (by decide) k) ?_
        show Wp p e below _ (T64.setTop (mkF m 270 #[.val (.int p0), .val (.int p1), .val (.int (Int32.ofNat C)), .val (.int (Int32.ofNat M)), .val (.int (Int32.ofNat (own_cnt M 8))), .val (.ref ar), .val (.int (Int32.ofNat (own_cnt M 7))), .unset, .unset, .unset] [(.int (1 : Int32)), (.int (8 : Int32)), (.int (Int32.ofNat (own_cnt M 7))), (.ref ar)]))
        obtain ⟨_, _, ⟨T65, L65, k65, n65⟩, -, X65, ⟨Lc65, hQ65, l65, y65, z65⟩, st65⟩ := Jvm.LawKit.callS X64 hx (y := (⟨"com/example/inverso/inverso/search/DocumentSetsComplementPinLaw", "put", "([IIIZ)I"⟩ : MethodName)) hown (mvT hZ (hw _ (List.mem_of_getElem? (i := 6) rfl))) (mvT hZ (hw _ (List.mem_of_getElem? (i := 7) rfl))) (mvT hZ (hw _ (List.mem_of_getElem? (i := 3) rfl))) (mvT hZ (hw _ (List.mem_of_getElem? (i := 8) rfl))) (by decide) (backOf (W := 0) (rm2_1 l Z aw hw [] ar (Int32.ofNat (own_cnt M 7)) (8 : Int32) (own_cnt M 8) (own_cnt M 7) (fun t => if t < own_cnt M 7 then .int (own_A M t) else .int (0 : Int32)) hh n0 zh Va gna (own_pos (by omega)) (own_nat (by omega)) A2) hZ (hw _ (List.mem_of_getElem? (i := 8) rfl)) (hw _ (List.mem_of_getElem? (i := 3) rfl)) (by decide) (by decide)) (g := (mkF m 270 #[.val (.int p0), .val (.int p1), .val (.int (Int32.ofNat C)), .val (.int (Int32.ofNat M)), .val (.int (Int32.ofNat (own_cnt M 8))), .val (.ref ar), .val (.int (Int32.ofNat (own_cnt M 7))), .unset, .unset, .unset] [(.int (1 : Int32)), (.int (8 : Int32)), (.int (Int32.ofNat (own_cnt M 7))), (.ref ar)])) rfl (by rw [hml]; rfl) (argsL := [(.ref ar), (.int (Int32.ofNat (own_cnt M 7))), (.int (8 : Int32)), (.int (1 : Int32))]) (rest := []) (lenOf own_pd1 rfl) rfl (by show 2 * 0 + _ ≤ _; exact Nat.le_of_eq rfl) (hb hby at_270) (fun _ _ => ⟨rfl, e64, (by decide : 1 + 0 ≤ _), (by decide : 8 + 0 ≤ _)⟩)
        dsimp only [Pt.U, Pt.locs, Pt.cells, Pt.slots] at X65 l65 y65 z65 st65 hQ65
        subst l65 y65 z65
        obtain ⟨rfl, N65, Kc65, Vn65⟩ := hQ65
        have NF65 := Fr.app NF64 N65
        refine Wp.via st65 ?_
        show Wp p e below _ (T65.setTop (mkF m 273 #[.val (.int p0), .val (.int p1), .val (.int (Int32.ofNat C)), .val (.int (Int32.ofNat M)), .val (.int (Int32.ofNat (own_cnt M 8))), .val (.ref ar), .val (.int (Int32.ofNat (own_cnt M 7))), .unset, .unset, .unset] [(.int ((Int32.ofNat (own_cnt M 7)) + (1 : Int32)))]))
        have zz65 : n0 ≤ T65.heap.size := Nat.le_trans zh Kc65.1
        refine Wp.via (fun _ k => XS.istore X65.here hx rfl (hb hby at_273) rfl (l' := #[.val (.int p0), .val (.int p1), .val (.int (Int32.ofNat C)), .val (.int (Int32.ofNat M)), .val (.int (Int32.ofNat (own_cnt M 8))), .val (.ref ar), .val (.int ((Int32.ofNat (own_cnt M 7)) + (1 : Int32))), .unset, .unset, .unset]) rfl k) ?_
        show Wp p e below _ (T65.setTop (mkF m 275 #[.val (.int p0), .val (.int p1), .val (.int (Int32.ofNat C)), .val (.int (Int32.ofNat M)), .val (.int (Int32.ofNat (own_cnt M 8))), .val (.ref ar), .val (.int ((Int32.ofNat (own_cnt M 7)) + (1 : Int32))), .unset, .unset, .unset] []))
        have rw66 : ((Int32.ofNat (own_cnt M 7)) + (1 : Int32)) = (Int32.ofNat (own_cnt M 8)) := by rw [own_succ]; simp [own_cnt, hbt]
        rw [rw66]
        show Wp p e below _ (T65.setTop (mkF m 275 #[.val (.int p0), .val (.int p1), .val (.int (Int32.ofNat C)), .val (.int (Int32.ofNat M)), .val (.int (Int32.ofNat (own_cnt M 8))), .val (.ref ar), .val (.int (Int32.ofNat (own_cnt M 8))), .unset, .unset, .unset] []))
        exact J1_8 T65 _ _ X65 rfl zz65 NF65 ar gna (Vn65.cong (fun t ht => own_stA M 7 t _ hbt A1))
      ·
        have hbf : M.testBit 7 = false := by simpa using hbt
        have eq3 : own_cnt M 8 = own_cnt M 7 := by simp [own_cnt, hbf]
        refine Wp.via (fun _ k => XS.icmpYes X64.here hx rfl (pc0 := 262) (pc' := 269) rfl (hb hby at_262) rfl (feq (by rw [bv, if_neg hbt]; decide)).2 (by decide) (by decide) k) ?_
        show Wp p e below _ (T64.setTop (mkF m 269 #[.val (.int p0), .val (.int p1), .val (.int (Int32.ofNat C)), .val (.int (Int32.ofNat M)), .val (.int (Int32.ofNat (own_cnt M 8))), .val (.ref ar), .val (.int (Int32.ofNat (own_cnt M 7))), .unset, .unset, .unset] [(.int (8 : Int32)), (.int (Int32.ofNat (own_cnt M 7))), (.ref ar)]))
        refine Wp.via (fun _ k => XS.iconst X64.here hx rfl (hb hby at_269) k) ?_
        show Wp p e below _ (T64.setTop (mkF m 270 #[.val (.int p0), .val (.int p1), .val (.int (Int32.ofNat C)), .val (.int (Int32.ofNat M)), .val (.int (Int32.ofNat (own_cnt M 8))), .val (.ref ar), .val (.int (Int32.ofNat (own_cnt M 7))), .unset, .unset, .unset] [(.int (0 : Int32)), (.int (8 : Int32)), (.int (Int32.ofNat (own_cnt M 7))), (.ref ar)]))
        obtain ⟨_, _, ⟨T67, L67, k67, n67⟩, -, X67, ⟨Lc67, hQ67, l67, y67, z67⟩, st67⟩ := Jvm.LawKit.callS X64 hx (y := (⟨"com/example/inverso/inverso/search/DocumentSetsComplementPinLaw", "put", "([IIIZ)I"⟩ : MethodName)) hown (mvT hZ (hw _ (List.mem_of_getElem? (i := 6) rfl))) (mvT hZ (hw _ (List.mem_of_getElem? (i := 7) rfl))) (mvT hZ (hw _ (List.mem_of_getElem? (i := 3) rfl))) (mvT hZ (hw _ (List.mem_of_getElem? (i := 8) rfl))) (by decide) (backOf (W := 0) (rm2_0 l Z aw hw [] ar (Int32.ofNat (own_cnt M 7)) (8 : Int32)  hh n0 zh ) hZ (hw _ (List.mem_of_getElem? (i := 8) rfl)) (hw _ (List.mem_of_getElem? (i := 3) rfl)) (by decide) (by decide)) (g := (mkF m 270 #[.val (.int p0), .val (.int p1), .val (.int (Int32.ofNat C)), .val (.int (Int32.ofNat M)), .val (.int (Int32.ofNat (own_cnt M 8))), .val (.ref ar), .val (.int (Int32.ofNat (own_cnt M 7))), .unset, .unset, .unset] [(.int (0 : Int32)), (.int (8 : Int32)), (.int (Int32.ofNat (own_cnt M 7))), (.ref ar)])) rfl (by rw [hml]; rfl) (argsL := [(.ref ar), (.int (Int32.ofNat (own_cnt M 7))), (.int (8 : Int32)), (.int (0 : Int32))]) (rest := []) (lenOf own_pd1 rfl) rfl (by show 2 * 0 + _ ≤ _; exact Nat.le_of_eq rfl) (hb hby at_270) (fun _ _ => ⟨rfl, e64, (by decide : 1 + 0 ≤ _), (by decide : 8 + 0 ≤ _)⟩)
        dsimp only [Pt.U, Pt.locs, Pt.cells, Pt.slots] at X67 l67 y67 z67 st67 hQ67
        subst l67 y67 z67
        obtain ⟨rfl, N67, e67⟩ := hQ67
        have NF67 := Fr.app NF64 N67
        refine Wp.via st67 ?_
        show Wp p e below _ (T67.setTop (mkF m 273 #[.val (.int p0), .val (.int p1), .val (.int (Int32.ofNat C)), .val (.int (Int32.ofNat M)), .val (.int (Int32.ofNat (own_cnt M 8))), .val (.ref ar), .val (.int (Int32.ofNat (own_cnt M 7))), .unset, .unset, .unset] [(.int (Int32.ofNat (own_cnt M 7)))]))
        refine Wp.via (fun _ k => XS.istore X67.here hx rfl (hb hby at_273) rfl (l' := #[.val (.int p0), .val (.int p1), .val (.int (Int32.ofNat C)), .val (.int (Int32.ofNat M)), .val (.int (Int32.ofNat (own_cnt M 8))), .val (.ref ar), .val (.int (Int32.ofNat (own_cnt M 7))), .unset, .unset, .unset]) rfl k) ?_
        show Wp p e below _ (T67.setTop (mkF m 275 #[.val (.int p0), .val (.int p1), .val (.int (Int32.ofNat C)), .val (.int (Int32.ofNat M)), .val (.int (Int32.ofNat (own_cnt M 8))), .val (.ref ar), .val (.int (Int32.ofNat (own_cnt M 7))), .unset, .unset, .unset] []))
        have rw68 : (Int32.ofNat (own_cnt M 7)) = (Int32.ofNat (own_cnt M 8)) := by rw [eq3]
        rw [rw68]
        show Wp p e below _ (T67.setTop (mkF m 275 #[.val (.int p0), .val (.int p1), .val (.int (Int32.ofNat C)), .val (.int (Int32.ofNat M)), .val (.int (Int32.ofNat (own_cnt M 8))), .val (.ref ar), .val (.int (Int32.ofNat (own_cnt M 8))), .unset, .unset, .unset] []))
        exact J1_8 T67 _ _ X67 e67 zh NF67 ar gna (Va.cong (fun t ht => by rw [eq3]))
    clear J1_8
    have J1_6 : ∀ (T : State) (hh : Heap) (locs : List Loc) (X : Stand p l e room_1 s m #[(.int p0), (.int p1)] below meth c T locs 1 8) (eT : T.heap = hh) (zh : n0 ≤ hh.size) (NF : Fr n0 locs) (ar : Addr) (gna : n0 ≤ ar) (Va : Av Z hh ar .int (own_cnt M 8) (fun t => if t < own_cnt M 6 then .int (own_A M t) else .int (0 : Int32))), Wp p e below (Gd s (Qo0 Z p0 p1 h0 n0) 16 128) (T.setTop (mkF m 223 #[.val (.int p0), .val (.int p1), .val (.int (Int32.ofNat C)), .val (.int (Int32.ofNat M)), .val (.int (Int32.ofNat (own_cnt M 8))), .val (.ref ar), .val (.int (Int32.ofNat (own_cnt M 6))), .unset, .unset, .unset] [])) := by
      intro T hh locs X eT zh NF ar gna Va
      have bd2 := own_cle M 6
      have bv : f1_0 (Int32.ofNat M) (7 : Int32) = (if M.testBit 6 = true then 1 else 0) := own_bv ⟨M, hM8⟩ ⟨6, by decide⟩
      refine Wp.via (fun _ k => XS.aload X.here hx rfl (hb hby at_223) rfl rfl k) ?_
      show Wp p e below _ (T.setTop (mkF m 225 #[.val (.int p0), .val (.int p1), .val (.int (Int32.ofNat C)), .val (.int (Int32.ofNat M)), .val (.int (Int32.ofNat (own_cnt M 8))), .val (.ref ar), .val (.int (Int32.ofNat (own_cnt M 6))), .unset, .unset, .unset] [(.ref ar)]))
      refine Wp.via (fun _ k => XS.iload X.here hx rfl (hb hby at_225) rfl k) ?_
      show Wp p e below _ (T.setTop (mkF m 227 #[.val (.int p0), .val (.int p1), .val (.int (Int32.ofNat C)), .val (.int (Int32.ofNat M)), .val (.int (Int32.ofNat (own_cnt M 8))), .val (.ref ar), .val (.int (Int32.ofNat (own_cnt M 6))), .unset, .unset, .unset] [(.int (Int32.ofNat (own_cnt M 6))), (.ref ar)]))
      refine Wp.via (fun _ k => XS.bipush X.here hx rfl (hb hby at_227) k) ?_
      show Wp p e below _ (T.setTop (mkF m 229 #[.val (.int p0), .val (.int p1), .val (.int (Int32.ofNat C)), .val (.int (Int32.ofNat M)), .val (.int (Int32.ofNat (own_cnt M 8))), .val (.ref ar), .val (.int (Int32.ofNat (own_cnt M 6))), .unset, .unset, .unset] [(.int (7 : Int32)), (.int (Int32.ofNat (own_cnt M 6))), (.ref ar)]))
      refine Wp.via (fun _ k => XS.iloadN X.here hx rfl (hb hby at_229) rfl k) ?_
      show Wp p e below _ (T.setTop (mkF m 230 #[.val (.int p0), .val (.int p1), .val (.int (Int32.ofNat C)), .val (.int (Int32.ofNat M)), .val (.int (Int32.ofNat (own_cnt M 8))), .val (.ref ar), .val (.int (Int32.ofNat (own_cnt M 6))), .unset, .unset, .unset] [(.int (Int32.ofNat M)), (.int (7 : Int32)), (.int (Int32.ofNat (own_cnt M 6))), (.ref ar)]))
      refine Wp.via (fun _ k => XS.bipush X.here hx rfl (hb hby at_230) k) ?_
      show Wp p e below _ (T.setTop (mkF m 232 #[.val (.int p0), .val (.int p1), .val (.int (Int32.ofNat C)), .val (.int (Int32.ofNat M)), .val (.int (Int32.ofNat (own_cnt M 8))), .val (.ref ar), .val (.int (Int32.ofNat (own_cnt M 6))), .unset, .unset, .unset] [(.int (7 : Int32)), (.int (Int32.ofNat M)), (.int (7 : Int32)), (.int (Int32.ofNat (own_cnt M 6))), (.ref ar)]))
      obtain ⟨_, _, ⟨T69, L69, k69, n69⟩, -, X69, ⟨Lc69, hQ69, l69, y69, z69⟩, st69⟩ := Jvm.LawKit.callS X hx (y := (⟨"com/example/inverso/inverso/search/DocumentSetsComplementPinLaw", "bit", "(II)I"⟩ : MethodName)) hown (mvT hZ (hw _ (List.mem_of_getElem? (i := 1) rfl))) (mvT hZ (hw _ (List.mem_of_getElem? (i := 2) rfl))) (mvT hZ (hw _ (List.mem_of_getElem? (i := 3) rfl))) (mvT hZ (hw _ (List.mem_of_getElem? (i := 4) rfl))) (by decide) (backOf (W := 3) (rm1 l Z aw hw [] (Int32.ofNat M) (7 : Int32)  hh n0 zh ) hZ (hw _ (List.mem_of_getElem? (i := 4) rfl)) (hw _ (List.mem_of_getElem? (i := 3) rfl)) (by decide) (by decide)) (g := (mkF m 232 #[.val (.int p0), .val (.int p1), .val (.int (Int32.ofNat C)), .val (.int (Int32.ofNat M)), .val (.int (Int32.ofNat (own_cnt M 8))), .val (.ref ar), .val (.int (Int32.ofNat (own_cnt M 6))), .unset, .unset, .unset] [(.int (7 : Int32)), (.int (Int32.ofNat M)), (.int (7 : Int32)), (.int (Int32.ofNat (own_cnt M 6))), (.ref ar)])) rfl (by rw [hml]; rfl) (argsL := [(.int (Int32.ofNat M)), (.int (7 : Int32))]) (rest := [(.int (7 : Int32)), (.int (Int32.ofNat (own_cnt M 6))), (.ref ar)]) (lenOf own_pd0 rfl) rfl (by show 2 * 0 + _ ≤ _; exact Nat.le_of_eq rfl) (hb hby at_232) (fun _ _ => ⟨rfl, eT, (by decide : 1 + 0 ≤ _), (by decide : 8 + 0 ≤ _)⟩)
      dsimp only [Pt.U, Pt.locs, Pt.cells, Pt.slots] at X69 l69 y69 z69 st69 hQ69
      subst l69 y69 z69
      obtain ⟨rfl, N69, e69⟩ := hQ69
      have NF69 := Fr.app NF N69
      refine Wp.via st69 ?_
      show Wp p e below _ (T69.setTop (mkF m 235 #[.val (.int p0), .val (.int p1), .val (.int (Int32.ofNat C)), .val (.int (Int32.ofNat M)), .val (.int (Int32.ofNat (own_cnt M 8))), .val (.ref ar), .val (.int (Int32.ofNat (own_cnt M 6))), .unset, .unset, .unset] [(.int (f1_0 (Int32.ofNat M) (7 : Int32))), (.int (7 : Int32)), (.int (Int32.ofNat (own_cnt M 6))), (.ref ar)]))
      refine Wp.via (fun _ k => XS.iconst X69.here hx rfl (hb hby at_235) k) ?_
      show Wp p e below _ (T69.setTop (mkF m 236 #[.val (.int p0), .val (.int p1), .val (.int (Int32.ofNat C)), .val (.int (Int32.ofNat M)), .val (.int (Int32.ofNat (own_cnt M 8))), .val (.ref ar), .val (.int (Int32.ofNat (own_cnt M 6))), .unset, .unset, .unset] [(.int (1 : Int32)), (.int (f1_0 (Int32.ofNat M) (7 : Int32))), (.int (7 : Int32)), (.int (Int32.ofNat (own_cnt M 6))), (.ref ar)]))
      by_cases hbt : M.testBit 6 = true
      ·
        obtain ⟨A1, A2⟩ := own_F1 ⟨M, hM8⟩ ⟨6, by decide⟩ hbt
        dsimp only at A1 A2
        refine Wp.via (fun _ k => XS.icmpNo X69.here hx rfl (hb hby at_236) rfl (teq (by rw [bv, if_pos hbt])).2 k) ?_
        show Wp p e below _ (T69.setTop (mkF m 239 #[.val (.int p0), .val (.int p1), .val (.int (Int32.ofNat C)), .val (.int (Int32.ofNat M)), .val (.int (Int32.ofNat (own_cnt M 8))), .val (.ref ar), .val (.int (Int32.ofNat (own_cnt M 6))), .unset, .unset, .unset] [(.int (7 : Int32)), (.int (Int32.ofNat (own_cnt M 6))), (.ref ar)]))
        refine Wp.via (fun _ k => XS.iconst X69.here hx rfl (hb hby at_239) k) ?_
        show Wp p e below _ (T69.setTop (mkF m 240 #[.val (.int p0), .val (.int p1), .val (.int (Int32.ofNat C)), .val (.int (Int32.ofNat M)), .val (.int (Int32.ofNat (own_cnt M 8))), .val (.ref ar), .val (.int (Int32.ofNat (own_cnt M 6))), .unset, .unset, .unset] [(.int (1 : Int32)), (.int (7 : Int32)), (.int (Int32.ofNat (own_cnt M 6))), (.ref ar)]))
        refine Wp.via (fun _ k => XS.goto X69.here hx rfl (pc0 := 240) (pc' := 244) rfl (hb hby at_240) (by decide) (by decide) k) ?_
        show Wp p e below _ (T69.setTop (mkF m 244 #[.val (.int p0), .val (.int p1), .val (.int (Int32.ofNat C)), .val (.int (Int32.ofNat M)), .val (.int (Int32.ofNat (own_cnt M 8))), .val (.ref ar), .val (.int (Int32.ofNat (own_cnt M 6))), .unset, .unset, .unset] [(.int (1 : Int32)), (.int (7 : Int32)), (.int (Int32.ofNat (own_cnt M 6))), (.ref ar)]))
        obtain ⟨_, _, ⟨T70, L70, k70, n70⟩, -, X70, ⟨Lc70, hQ70, l70, y70, z70⟩, st70⟩ := Jvm.LawKit.callS X69 hx (y := (⟨"com/example/inverso/inverso/search/DocumentSetsComplementPinLaw", "put", "([IIIZ)I"⟩ : MethodName)) hown (mvT hZ (hw _ (List.mem_of_getElem? (i := 6) rfl))) (mvT hZ (hw _ (List.mem_of_getElem? (i := 7) rfl))) (mvT hZ (hw _ (List.mem_of_getElem? (i := 3) rfl))) (mvT hZ (hw _ (List.mem_of_getElem? (i := 8) rfl))) (by decide) (backOf (W := 0) (rm2_1 l Z aw hw [] ar (Int32.ofNat (own_cnt M 6)) (7 : Int32) (own_cnt M 8) (own_cnt M 6) (fun t => if t < own_cnt M 6 then .int (own_A M t) else .int (0 : Int32)) hh n0 zh Va gna (own_pos (by omega)) (own_nat (by omega)) A2) hZ (hw _ (List.mem_of_getElem? (i := 8) rfl)) (hw _ (List.mem_of_getElem? (i := 3) rfl)) (by decide) (by decide)) (g := (mkF m 244 #[.val (.int p0), .val (.int p1), .val (.int (Int32.ofNat C)), .val (.int (Int32.ofNat M)), .val (.int (Int32.ofNat (own_cnt M 8))), .val (.ref ar), .val (.int (Int32.ofNat (own_cnt M 6))), .unset, .unset, .unset] [(.int (1 : Int32)), (.int (7 : Int32)), (.int (Int32.ofNat (own_cnt M 6))), (.ref ar)])) rfl (by rw [hml]; rfl) (argsL := [(.ref ar), (.int (Int32.ofNat (own_cnt M 6))), (.int (7 : Int32)), (.int (1 : Int32))]) (rest := []) (lenOf own_pd1 rfl) rfl (by show 2 * 0 + _ ≤ _; exact Nat.le_of_eq rfl) (hb hby at_244) (fun _ _ => ⟨rfl, e69, (by decide : 1 + 0 ≤ _), (by decide : 8 + 0 ≤ _)⟩)
        dsimp only [Pt.U, Pt.locs, Pt.cells, Pt.slots] at X70 l70 y70 z70 st70 hQ70
        subst l70 y70 z70
        obtain ⟨rfl, N70, Kc70, Vn70⟩ := hQ70
        have NF70 := Fr.app NF69 N70
        refine Wp.via st70 ?_
        show Wp p e below _ (T70.setTop (mkF m 247 #[.val (.int p0), .val (.int p1), .val (.int (Int32.ofNat C)), .val (.int (Int32.ofNat M)), .val (.int (Int32.ofNat (own_cnt M 8))), .val (.ref ar), .val (.int (Int32.ofNat (own_cnt M 6))), .unset, .unset, .unset] [(.int ((Int32.ofNat (own_cnt M 6)) + (1 : Int32)))]))
        have zz70 : n0 ≤ T70.heap.size := Nat.le_trans zh Kc70.1
        refine Wp.via (fun _ k => XS.istore X70.here hx rfl (hb hby at_247) rfl (l' := #[.val (.int p0), .val (.int p1), .val (.int (Int32.ofNat C)), .val (.int (Int32.ofNat M)), .val (.int (Int32.ofNat (own_cnt M 8))), .val (.ref ar), .val (.int ((Int32.ofNat (own_cnt M 6)) + (1 : Int32))), .unset, .unset, .unset]) rfl k) ?_
        show Wp p e below _ (T70.setTop (mkF m 249 #[.val (.int p0), .val (.int p1), .val (.int (Int32.ofNat C)), .val (.int (Int32.ofNat M)), .val (.int (Int32.ofNat (own_cnt M 8))), .val (.ref ar), .val (.int ((Int32.ofNat (own_cnt M 6)) + (1 : Int32))), .unset, .unset, .unset] []))
        have rw71 : ((Int32.ofNat (own_cnt M 6)) + (1 : Int32)) = (Int32.ofNat (own_cnt M 7)) := by rw [own_succ]; simp [own_cnt, hbt]
        rw [rw71]
        show Wp p e below _ (T70.setTop (mkF m 249 #[.val (.int p0), .val (.int p1), .val (.int (Int32.ofNat C)), .val (.int (Int32.ofNat M)), .val (.int (Int32.ofNat (own_cnt M 8))), .val (.ref ar), .val (.int (Int32.ofNat (own_cnt M 7))), .unset, .unset, .unset] []))
        exact J1_7 T70 _ _ X70 rfl zz70 NF70 ar gna (Vn70.cong (fun t ht => own_stA M 6 t _ hbt A1))
      ·
        have hbf : M.testBit 6 = false := by simpa using hbt
        have eq3 : own_cnt M 7 = own_cnt M 6 := by simp [own_cnt, hbf]
        refine Wp.via (fun _ k => XS.icmpYes X69.here hx rfl (pc0 := 236) (pc' := 243) rfl (hb hby at_236) rfl (feq (by rw [bv, if_neg hbt]; decide)).2 (by decide) (by decide) k) ?_
        show Wp p e below _ (T69.setTop (mkF m 243 #[.val (.int p0), .val (.int p1), .val (.int (Int32.ofNat C)), .val (.int (Int32.ofNat M)), .val (.int (Int32.ofNat (own_cnt M 8))), .val (.ref ar), .val (.int (Int32.ofNat (own_cnt M 6))), .unset, .unset, .unset] [(.int (7 : Int32)), (.int (Int32.ofNat (own_cnt M 6))), (.ref ar)]))
        refine Wp.via (fun _ k => XS.iconst X69.here hx rfl (hb hby at_243) k) ?_
        show Wp p e below _ (T69.setTop (mkF m 244 #[.val (.int p0), .val (.int p1), .val (.int (Int32.ofNat C)), .val (.int (Int32.ofNat M)), .val (.int (Int32.ofNat (own_cnt M 8))), .val (.ref ar), .val (.int (Int32.ofNat (own_cnt M 6))), .unset, .unset, .unset] [(.int (0 : Int32)), (.int (7 : Int32)), (.int (Int32.ofNat (own_cnt M 6))), (.ref ar)]))
        obtain ⟨_, _, ⟨T72, L72, k72, n72⟩, -, X72, ⟨Lc72, hQ72, l72, y72, z72⟩, st72⟩ := Jvm.LawKit.callS X69 hx (y := (⟨"com/example/inverso/inverso/search/DocumentSetsComplementPinLaw", "put", "([IIIZ)I"⟩ : MethodName)) hown (mvT hZ (hw _ (List.mem_of_getElem? (i := 6) rfl))) (mvT hZ (hw _ (List.mem_of_getElem? (i := 7) rfl))) (mvT hZ (hw _ (List.mem_of_getElem? (i := 3) rfl))) (mvT hZ (hw _ (List.mem_of_getElem? (i := 8) rfl))) (by decide) (backOf (W := 0) (rm2_0 l Z aw hw [] ar (Int32.ofNat (own_cnt M 6)) (7 : Int32)  hh n0 zh ) hZ (hw _ (List.mem_of_getElem? (i := 8) rfl)) (hw _ (List.mem_of_getElem? (i := 3) rfl)) (by decide) (by decide)) (g := (mkF m 244 #[.val (.int p0), .val (.int p1), .val (.int (Int32.ofNat C)), .val (.int (Int32.ofNat M)), .val (.int (Int32.ofNat (own_cnt M 8))), .val (.ref ar), .val (.int (Int32.ofNat (own_cnt M 6))), .unset, .unset, .unset] [(.int (0 : Int32)), (.int (7 : Int32)), (.int (Int32.ofNat (own_cnt M 6))), (.ref ar)])) rfl (by rw [hml]; rfl) (argsL := [(.ref ar), (.int (Int32.ofNat (own_cnt M 6))), (.int (7 : Int32)), (.int (0 : Int32))]) (rest := []) (lenOf own_pd1 rfl) rfl (by show 2 * 0 + _ ≤ _; exact Nat.le_of_eq rfl) (hb hby at_244) (fun _ _ => ⟨rfl, e69, (by decide : 1 + 0 ≤ _), (by decide : 8 + 0 ≤ _)⟩)
        dsimp only [Pt.U, Pt.locs, Pt.cells, Pt.slots] at X72 l72 y72 z72 st72 hQ72
        subst l72 y72 z72
        obtain ⟨rfl, N72, e72⟩ := hQ72
        have NF72 := Fr.app NF69 N72
        refine Wp.via st72 ?_
        show Wp p e below _ (T72.setTop (mkF m 247 #[.val (.int p0), .val (.int p1), .val (.int (Int32.ofNat C)), .val (.int (Int32.ofNat M)), .val (.int (Int32.ofNat (own_cnt M 8))), .val (.ref ar), .val (.int (Int32.ofNat (own_cnt M 6))), .unset, .unset, .unset] [(.int (Int32.ofNat (own_cnt M 6)))]))
        refine Wp.via (fun _ k => XS.istore X72.here hx rfl (hb hby at_247) rfl (l' := #[.val (.int p0), .val (.int p1), .val (.int (Int32.ofNat C)), .val (.int (Int32.ofNat M)), .val (.int (Int32.ofNat (own_cnt M 8))), .val (.ref ar), .val (.int (Int32.ofNat (own_cnt M 6))), .unset, .unset, .unset]) rfl k) ?_
        show Wp p e below _ (T72.setTop (mkF m 249 #[.val (.int p0), .val (.int p1), .val (.int (Int32.ofNat C)), .val (.int (Int32.ofNat M)), .val (.int (Int32.ofNat (own_cnt M 8))), .val (.ref ar), .val (.int (Int32.ofNat (own_cnt M 6))), .unset, .unset, .unset] []))
        have rw73 : (Int32.ofNat (own_cnt M 6)) = (Int32.ofNat (own_cnt M 7)) := by rw [eq3]
        rw [rw73]
        show Wp p e below _ (T72.setTop (mkF m 249 #[.val (.int p0), .val (.int p1), .val (.int (Int32.ofNat C)), .val (.int (Int32.ofNat M)), .val (.int (Int32.ofNat (own_cnt M 8))), .val (.ref ar), .val (.int (Int32.ofNat (own_cnt M 7))), .unset, .unset, .unset] []))
        exact J1_7 T72 _ _ X72 e72 zh NF72 ar gna (Va.cong (fun t ht => by rw [eq3]))
    clear J1_7
    have J1_5 : ∀ (T : State) (hh : Heap) (locs : List Loc) (X : Stand p l e room_1 s m #[(.int p0), (.int p1)] below meth c T locs 1 8) (eT : T.heap = hh) (zh : n0 ≤ hh.size) (NF : Fr n0 locs) (ar : Addr) (gna : n0 ≤ ar) (Va : Av Z hh ar .int (own_cnt M 8) (fun t => if t < own_cnt M 5 then .int (own_A M t) else .int (0 : Int32))), Wp p e below (Gd s (Qo0 Z p0 p1 h0 n0) 16 128) (T.setTop (mkF m 197 #[.val (.int p0), .val (.int p1), .val (.int (Int32.ofNat C)), .val (.int (Int32.ofNat M)), .val (.int (Int32.ofNat (own_cnt M 8))), .val (.ref ar), .val (.int (Int32.ofNat (own_cnt M 5))), .unset, .unset, .unset] [])) := by
      intro T hh locs X eT zh NF ar gna Va
      have bd2 := own_cle M 5
      have bv : f1_0 (Int32.ofNat M) (6 : Int32) = (if M.testBit 5 = true then 1 else 0) := own_bv ⟨M, hM8⟩ ⟨5, by decide⟩
      refine Wp.via (fun _ k => XS.aload X.here hx rfl (hb hby at_197) rfl rfl k) ?_
      show Wp p e below _ (T.setTop (mkF m 199 #[.val (.int p0), .val (.int p1), .val (.int (Int32.ofNat C)), .val (.int (Int32.ofNat M)), .val (.int (Int32.ofNat (own_cnt M 8))), .val (.ref ar), .val (.int (Int32.ofNat (own_cnt M 5))), .unset, .unset, .unset] [(.ref ar)]))
      refine Wp.via (fun _ k => XS.iload X.here hx rfl (hb hby at_199) rfl k) ?_
      show Wp p e below _ (T.setTop (mkF m 201 #[.val (.int p0), .val (.int p1), .val (.int (Int32.ofNat C)), .val (.int (Int32.ofNat M)), .val (.int (Int32.ofNat (own_cnt M 8))), .val (.ref ar), .val (.int (Int32.ofNat (own_cnt M 5))), .unset, .unset, .unset] [(.int (Int32.ofNat (own_cnt M 5))), (.ref ar)]))
      refine Wp.via (fun _ k => XS.bipush X.here hx rfl (hb hby at_201) k) ?_
      show Wp p e below _ (T.setTop (mkF m 203 #[.val (.int p0), .val (.int p1), .val (.int (Int32.ofNat C)), .val (.int (Int32.ofNat M)), .val (.int (Int32.ofNat (own_cnt M 8))), .val (.ref ar), .val (.int (Int32.ofNat (own_cnt M 5))), .unset, .unset, .unset] [(.int (6 : Int32)), (.int (Int32.ofNat (own_cnt M 5))), (.ref ar)]))
      refine Wp.via (fun _ k => XS.iloadN X.here hx rfl (hb hby at_203) rfl k) ?_
      show Wp p e below _ (T.setTop (mkF m 204 #[.val (.int p0), .val (.int p1), .val (.int (Int32.ofNat C)), .val (.int (Int32.ofNat M)), .val (.int (Int32.ofNat (own_cnt M 8))), .val (.ref ar), .val (.int (Int32.ofNat (own_cnt M 5))), .unset, .unset, .unset] [(.int (Int32.ofNat M)), (.int (6 : Int32)), (.int (Int32.ofNat (own_cnt M 5))), (.ref ar)]))
      refine Wp.via (fun _ k => XS.bipush X.here hx rfl (hb hby at_204) k) ?_
      show Wp p e below _ (T.setTop (mkF m 206 #[.val (.int p0), .val (.int p1), .val (.int (Int32.ofNat C)), .val (.int (Int32.ofNat M)), .val (.int (Int32.ofNat (own_cnt M 8))), .val (.ref ar), .val (.int (Int32.ofNat (own_cnt M 5))), .unset, .unset, .unset] [(.int (6 : Int32)), (.int (Int32.ofNat M)), (.int (6 : Int32)), (.int (Int32.ofNat (own_cnt M 5))), (.ref ar)]))
      obtain ⟨_, _, ⟨T74, L74, k74, n74⟩, -, X74, ⟨Lc74, hQ74, l74, y74, z74⟩, st74⟩ := Jvm.LawKit.callS X hx (y := (⟨"com/example/inverso/inverso/search/DocumentSetsComplementPinLaw", "bit", "(II)I"⟩ : MethodName)) hown (mvT hZ (hw _ (List.mem_of_getElem? (i := 1) rfl))) (mvT hZ (hw _ (List.mem_of_getElem? (i := 2) rfl))) (mvT hZ (hw _ (List.mem_of_getElem? (i := 3) rfl))) (mvT hZ (hw _ (List.mem_of_getElem? (i := 4) rfl))) (by decide) (backOf (W := 3) (rm1 l Z aw hw [] (Int32.ofNat M) (6 : Int32)  hh n0 zh ) hZ (hw _ (List.mem_of_getElem? (i := 4) rfl)) (hw _ (List.mem_of_getElem? (i := 3) rfl)) (by decide) (by decide)) (g := (mkF m 206 #[.val (.int p0), .val (.int p1), .val (.int (Int32.ofNat C)), .val (.int (Int32.ofNat M)), .val (.int (Int32.ofNat (own_cnt M 8))), .val (.ref ar), .val (.int (Int32.ofNat (own_cnt M 5))), .unset, .unset, .unset] [(.int (6 : Int32)), (.int (Int32.ofNat M)), (.int (6 : Int32)), (.int (Int32.ofNat (own_cnt M 5))), (.ref ar)])) rfl (by rw [hml]; rfl) (argsL := [(.int (Int32.ofNat M)), (.int (6 : Int32))]) (rest := [(.int (6 : Int32)), (.int (Int32.ofNat (own_cnt M 5))), (.ref ar)]) (lenOf own_pd0 rfl) rfl (by show 2 * 0 + _ ≤ _; exact Nat.le_of_eq rfl) (hb hby at_206) (fun _ _ => ⟨rfl, eT, (by decide : 1 + 0 ≤ _), (by decide : 8 + 0 ≤ _)⟩)
      dsimp only [Pt.U, Pt.locs, Pt.cells, Pt.slots] at X74 l74 y74 z74 st74 hQ74
      subst l74 y74 z74
      obtain ⟨rfl, N74, e74⟩ := hQ74
      have NF74 := Fr.app NF N74
      refine Wp.via st74 ?_
      show Wp p e below _ (T74.setTop (mkF m 209 #[.val (.int p0), .val (.int p1), .val (.int (Int32.ofNat C)), .val (.int (Int32.ofNat M)), .val (.int (Int32.ofNat (own_cnt M 8))), .val (.ref ar), .val (.int (Int32.ofNat (own_cnt M 5))), .unset, .unset, .unset] [(.int (f1_0 (Int32.ofNat M) (6 : Int32))), (.int (6 : Int32)), (.int (Int32.ofNat (own_cnt M 5))), (.ref ar)]))
      refine Wp.via (fun _ k => XS.iconst X74.here hx rfl (hb hby at_209) k) ?_
      show Wp p e below _ (T74.setTop (mkF m 210 #[.val (.int p0), .val (.int p1), .val (.int (Int32.ofNat C)), .val (.int (Int32.ofNat M)), .val (.int (Int32.ofNat (own_cnt M 8))), .val (.ref ar), .val (.int (Int32.ofNat (own_cnt M 5))), .unset, .unset, .unset] [(.int (1 : Int32)), (.int (f1_0 (Int32.ofNat M) (6 : Int32))), (.int (6 : Int32)), (.int (Int32.ofNat (own_cnt M 5))), (.ref ar)]))
      by_cases hbt : M.testBit 5 = true
      ·
        obtain ⟨A1, A2⟩ := own_F1 ⟨M, hM8⟩ ⟨5, by decide⟩ hbt
        dsimp only at A1 A2
        refine Wp.via (fun _ k => XS.icmpNo X74.here hx rfl (hb hby at_210) rfl (teq (by rw [bv, if_pos hbt])).2 k) ?_
        show Wp p e below _ (T74.setTop (mkF m 213 #[.val (.int p0), .val (.int p1), .val (.int (Int32.ofNat C)), .val (.int (Int32.ofNat M)), .val (.int (Int32.ofNat (own_cnt M 8))), .val (.ref ar), .val (.int (Int32.ofNat (own_cnt M 5))), .unset, .unset, .unset] [(.int (6 : Int32)), (.int (Int32.ofNat (own_cnt M 5))), (.ref ar)]))
        refine Wp.via (fun _ k => XS.iconst X74.here hx rfl (hb hby at_213) k) ?_
        show Wp p e below _ (T74.setTop (mkF m 214 #[.val (.int p0), .val (.int p1), .val (.int (Int32.ofNat C)), .val (.int (Int32.ofNat M)), .val (.int (Int32.ofNat (own_cnt M 8))), .val (.ref ar), .val (.int (Int32.ofNat (own_cnt M 5))), .unset, .unset, .unset] [(.int (1 : Int32)), (.int (6 : Int32)), (.int (Int32.ofNat (own_cnt M 5))), (.ref ar)]))
        refine Wp.via (fun _ k => XS.goto X74.here hx rfl (pc0 := 214) (pc' := 218) rfl (hb hby at_214) (by decide) (by decide) k) ?_
        show Wp p e below _ (T74.setTop (mkF m 218 #[.val (.int p0), .val (.int p1), .val (.int (Int32.ofNat C)), .val (.int (Int32.ofNat M)), .val (.int (Int32.ofNat (own_cnt M 8))), .val (.ref ar), .val (.int (Int32.ofNat (own_cnt M 5))), .unset, .unset, .unset] [(.int (1 : Int32)), (.int (6 : Int32)), (.int (Int32.ofNat (own_cnt M 5))), (.ref ar)]))
        obtain ⟨_, _, ⟨T75, L75, k75, n75⟩, -, X75, ⟨Lc75, hQ75, l75, y75, z75⟩, st75⟩ := Jvm.LawKit.callS X74 hx (y := (⟨"com/example/inverso/inverso/search/DocumentSetsComplementPinLaw", "put", "([IIIZ)I"⟩ : MethodName)) hown (mvT hZ (hw _ (List.mem_of_getElem? (i := 6) rfl))) (mvT hZ (hw _ (List.mem_of_getElem? (i := 7) rfl))) (mvT hZ (hw _ (List.mem_of_getElem? (i := 3) rfl))) (mvT hZ (hw _ (List.mem_of_getElem? (i := 8) rfl))) (by decide) (backOf (W := 0) (rm2_1 l Z aw hw [] ar (Int32.ofNat (own_cnt M 5)) (6 : Int32) (own_cnt M 8) (own_cnt M 5) (fun t => if t < own_cnt M 5 then .int (own_A M t) else .int (0 : Int32)) hh n0 zh Va gna (own_pos (by omega)) (own_nat (by omega)) A2) hZ (hw _ (List.mem_of_getElem? (i := 8) rfl)) (hw _ (List.mem_of_getElem? (i := 3) rfl)) (by decide) (by decide)) (g := (mkF m 218 #[.val (.int p0), .val (.int p1), .val (.int (Int32.ofNat C)), .val (.int (Int32.ofNat M)), .val (.int (Int32.ofNat (own_cnt M 8))), .val (.ref ar), .val (.int (Int32.ofNat (own_cnt M 5))), .unset, .unset, .unset] [(.int (1 : Int32)), (.int (6 : Int32)), (.int (Int32.ofNat (own_cnt M 5))), (.ref ar)])) rfl (by rw [hml]; rfl) (argsL := [(.ref ar), (.int (Int32.ofNat (own_cnt M 5))), (.int (6 : Int32)), (.int (1 : Int32))]) (rest := []) (lenOf own_pd1 rfl) rfl (by show 2 * 0 + _ ≤ _; exact Nat.le_of_eq rfl) (hb hby at_218) (fun _ _ => ⟨rfl, e74, (by decide : 1 + 0 ≤ _), (by decide : 8 + 0 ≤ _)⟩)
        dsimp only [Pt.U, Pt.locs, Pt.cells, Pt.slots] at X75 l75 y75 z75 st75 hQ75
        subst l75 y75 z75
        obtain ⟨rfl, N75, Kc75, Vn75⟩ := hQ75
        have NF75 := Fr.app NF74 N75
        refine Wp.via st75 ?_
        show Wp p e below _ (T75.setTop (mkF m 221 #[.val (.int p0), .val (.int p1), .val (.int (Int32.ofNat C)), .val (.int (Int32.ofNat M)), .val (.int (Int32.ofNat (own_cnt M 8))), .val (.ref ar), .val (.int (Int32.ofNat (own_cnt M 5))), .unset, .unset, .unset] [(.int ((Int32.ofNat (own_cnt M 5)) + (1 : Int32)))]))
        have zz75 : n0 ≤ T75.heap.size := Nat.le_trans zh Kc75.1
        refine Wp.via (fun _ k => XS.istore X75.here hx rfl (hb hby at_221) rfl (l' := #[.val (.int p0), .val (.int p1), .val (.int (Int32.ofNat C)), .val (.int (Int32.ofNat M)), .val (.int (Int32.ofNat (own_cnt M 8))), .val (.ref ar), .val (.int ((Int32.ofNat (own_cnt M 5)) + (1 : Int32))), .unset, .unset, .unset]) rfl k) ?_
        show Wp p e below _ (T75.setTop (mkF m 223 #[.val (.int p0), .val (.int p1), .val (.int (Int32.ofNat C)), .val (.int (Int32.ofNat M)), .val (.int (Int32.ofNat (own_cnt M 8))), .val (.ref ar), .val (.int ((Int32.ofNat (own_cnt M 5)) + (1 : Int32))), .unset, .unset, .unset] []))
        have rw76 : ((Int32.ofNat (own_cnt M 5)) + (1 : Int32)) = (Int32.ofNat (own_cnt M 6)) := by rw [own_succ]; simp [own_cnt, hbt]
        rw [rw76]
        show Wp p e below _ (T75.setTop (mkF m 223 #[.val (.int p0), .val (.int p1), .val (.int (Int32.ofNat C)), .val (.int (Int32.ofNat M)), .val (.int (Int32.ofNat (own_cnt M 8))), .val (.ref ar), .val (.int (Int32.ofNat (own_cnt M 6))), .unset, .unset, .unset] []))
        exact J1_6 T75 _ _ X75 rfl zz75 NF75 ar gna (Vn75.cong (fun t ht => own_stA M 5 t _ hbt A1))
      ·
        have hbf : M.testBit 5 = false := by simpa using hbt
        have eq3 : own_cnt M 6 = own_cnt M 5 := by simp [own_cnt, hbf]
        refine Wp.via (fun _ k => XS.icmpYes X74.here hx rfl (pc0 := 210) (pc' := 217) rfl (hb hby at_210) rfl (feq (by rw [bv, if_neg hbt]; decide)).2 (by decide) (by decide) k) ?_
        show Wp p e below _ (T74.setTop (mkF m 217 #[.val (.int p0), .val (.int p1), .val (.int (Int32.ofNat C)), .val (.int (Int32.ofNat M)), .val (.int (Int32.ofNat (own_cnt M 8))), .val (.ref ar), .val (.int (Int32.ofNat (own_cnt M 5))), .unset, .unset, .unset] [(.int (6 : Int32)), (.int (Int32.ofNat (own_cnt M 5))), (.ref ar)]))
        refine Wp.via (fun _ k => XS.iconst X74.here hx rfl (hb hby at_217) k) ?_
        show Wp p e below _ (T74.setTop (mkF m 218 #[.val (.int p0), .val (.int p1), .val (.int (Int32.ofNat C)), .val (.int (Int32.ofNat M)), .val (.int (Int32.ofNat (own_cnt M 8))), .val (.ref ar), .val (.int (Int32.ofNat (own_cnt M 5))), .unset, .unset, .unset] [(.int (0 : Int32)), (.int (6 : Int32)), (.int (Int32.ofNat (own_cnt M 5))), (.ref ar)]))
        obtain ⟨_, _, ⟨T77, L77, k77, n77⟩, -, X77, ⟨Lc77, hQ77, l77, y77, z77⟩, st77⟩ := Jvm.LawKit.callS X74 hx (y := (⟨"com/example/inverso/inverso/search/DocumentSetsComplementPinLaw", "put", "([IIIZ)I"⟩ : MethodName)) hown (mvT hZ (hw _ (List.mem_of_getElem? (i := 6) rfl))) (mvT hZ (hw _ (List.mem_of_getElem? (i := 7) rfl))) (mvT hZ (hw _ (List.mem_of_getElem? (i := 3) rfl))) (mvT hZ (hw _ (List.mem_of_getElem? (i := 8) rfl))) (by decide) (backOf (W := 0) (rm2_0 l Z aw hw [] ar (Int32.ofNat (own_cnt M 5)) (6 : Int32)  hh n0 zh ) hZ (hw _ (List.mem_of_getElem? (i := 8) rfl)) (hw _ (List.mem_of_getElem? (i := 3) rfl)) (by decide) (by decide)) (g := (mkF m 218 #[.val (.int p0), .val (.int p1), .val (.int (Int32.ofNat C)), .val (.int (Int32.ofNat M)), .val (.int (Int32.ofNat (own_cnt M 8))), .val (.ref ar), .val (.int (Int32.ofNat (own_cnt M 5))), .unset, .unset, .unset] [(.int (0 : Int32)), (.int (6 : Int32)), (.int (Int32.ofNat (own_cnt M 5))), (.ref ar)])) rfl (by rw [hml]; rfl) (argsL := [(.ref ar), (.int (Int32.ofNat (own_cnt M 5))), (.int (6 : Int32)), (.int (0 : Int32))]) (rest := []) (lenOf own_pd1 rfl) rfl (by show 2 * 0 + _ ≤ _; exact Nat.le_of_eq rfl) (hb hby at_218) (fun _ _ => ⟨rfl, e74, (by decide : 1 + 0 ≤ _), (by decide : 8 + 0 ≤ _)⟩)
        dsimp only [Pt.U, Pt.locs, Pt.cells, Pt.slots] at X77 l77 y77 z77 st77 hQ77
        subst l77 y77 z77
        obtain ⟨rfl, N77, e77⟩ := hQ77
        have NF77 := Fr.app NF74 N77
        refine Wp.via st77 ?_
        show Wp p e below _ (T77.setTop (mkF m 221 #[.val (.int p0), .val (.int p1), .val (.int (Int32.ofNat C)), .val (.int (Int32.ofNat M)), .val (.int (Int32.ofNat (own_cnt M 8))), .val (.ref ar), .val (.int (Int32.ofNat (own_cnt M 5))), .unset, .unset, .unset] [(.int (Int32.ofNat (own_cnt M 5)))]))
        refine Wp.via (fun _ k => XS.istore X77.here hx rfl (hb hby at_221) rfl (l' := #[.val (.int p0), .val (.int p1), .val (.int (Int32.ofNat C)), .val (.int (Int32.ofNat M)), .val (.int (Int32.ofNat (own_cnt M 8))), .val (.ref ar), .val (.int (Int32.ofNat (own_cnt M 5))), .unset, .unset, .unset]) rfl k) ?_
        show Wp p e below _ (T77.setTop (mkF m 223 #[.val (.int p0), .val (.int p1), .val (.int (Int32.ofNat C)), .val (.int (Int32.ofNat M)), .val (.int (Int32.ofNat (own_cnt M 8))), .val (.ref ar), .val (.int (Int32.ofNat (own_cnt M 5))), .unset, .unset, .unset] []))
        have rw78 : (Int32.ofNat (own_cnt M 5)) = (Int32.ofNat (own_cnt M 6)) := by rw [eq3]
        rw [rw78]
        show Wp p e below _ (T77.setTop (mkF m 223 #[.val (.int p0), .val (.int p1), .val (.int (Int32.ofNat C)), .val (.int (Int32.ofNat M)), .val (.int (Int32.ofNat (own_cnt M 8))), .val (.ref ar), .val (.int (Int32.ofNat (own_cnt M 6))), .unset, .unset, .unset] []))
        exact J1_6 T77 _ _ X77 e77 zh NF77 ar gna (Va.cong (fun t ht => by rw [eq3]))
    clear J1_6
    have J1_4 : ∀ (T : State) (hh : Heap) (locs : List Loc) (X : Stand p l e room_1 s m #[(.int p0), (.int p1)] below meth c T locs 1 8) (eT : T.heap = hh) (zh : n0 ≤ hh.size) (NF : Fr n0 locs) (ar : Addr) (gna : n0 ≤ ar) (Va : Av Z hh ar .int (own_cnt M 8) (fun t => if t < own_cnt M 4 then .int (own_A M t) else .int (0 : Int32))), Wp p e below (Gd s (Qo0 Z p0 p1 h0 n0) 16 128) (T.setTop (mkF m 173 #[.val (.int p0), .val (.int p1), .val (.int (Int32.ofNat C)), .val (.int (Int32.ofNat M)), .val (.int (Int32.ofNat (own_cnt M 8))), .val (.ref ar), .val (.int (Int32.ofNat (own_cnt M 4))), .unset, .unset, .unset] [])) := by
      intro T hh locs X eT zh NF ar gna Va
      have bd2 := own_cle M 4
      have bv : f1_0 (Int32.ofNat M) (5 : Int32) = (if M.testBit 4 = true then 1 else 0) := own_bv ⟨M, hM8⟩ ⟨4, by decide⟩
      refine Wp.via (fun _ k => XS.aload X.here hx rfl (hb hby at_173) rfl rfl k) ?_
      show Wp p e below _ (T.setTop (mkF m 175 #[.val (.int p0), .val (.int p1), .val (.int (Int32.ofNat C)), .val (.int (Int32.ofNat M)), .val (.int (Int32.ofNat (own_cnt M 8))), .val (.ref ar), .val (.int (Int32.ofNat (own_cnt M 4))), .unset, .unset, .unset] [(.ref ar)]))
      refine Wp.via (fun _ k => XS.iload X.here hx rfl (hb hby at_175) rfl k) ?_
      show Wp p e below _ (T.setTop (mkF m 177 #[.val (.int p0), .val (.int p1), .val (.int (Int32.ofNat C)), .val (.int (Int32.ofNat M)), .val (.int (Int32.ofNat (own_cnt M 8))), .val (.ref ar), .val (.int (Int32.ofNat (own_cnt M 4))), .unset, .unset, .unset] [(.int (Int32.ofNat (own_cnt M 4))), (.ref ar)]))
      refine Wp.via (fun _ k => XS.iconst X.here hx rfl (hb hby at_177) k) ?_
      show Wp p e below _ (T.setTop (mkF m 178 #[.val (.int p0), .val (.int p1), .val (.int (Int32.ofNat C)), .val (.int (Int32.ofNat M)), .val (.int (Int32.ofNat (own_cnt M 8))), .val (.ref ar), .val (.int (Int32.ofNat (own_cnt M 4))), .unset, .unset, .unset] [(.int (5 : Int32)), (.int (Int32.ofNat (own_cnt M 4))), (.ref ar)]))
      refine Wp.via (fun _ k => XS.iloadN X.here hx rfl (hb hby at_178) rfl k) ?_
      show Wp p e below _ (T.setTop (mkF m 179 #[.val (.int p0), .val (.int p1), .val (.int (Int32.ofNat C)), .val (.int (Int32.ofNat M)), .val (.int (Int32.ofNat (own_cnt M 8))), .val (.ref ar), .val (.int (Int32.ofNat (own_cnt M 4))), .unset, .unset, .unset] [(.int (Int32.ofNat M)), (.int (5 : Int32)), (.int (Int32.ofNat (own_cnt M 4))), (.ref ar)]))
      refine Wp.via (fun _ k => XS.iconst X.here hx rfl (hb hby at_179) k) ?_
      show Wp p e below _ (T.setTop (mkF m 180 #[.val (.int p0), .val (.int p1), .val (.int (Int32.ofNat C)), .val (.int (Int32.ofNat M)), .val (.int (Int32.ofNat (own_cnt M 8))), .val (.ref ar), .val (.int (Int32.ofNat (own_cnt M 4))), .unset, .unset, .unset] [(.int (5 : Int32)), (.int (Int32.ofNat M)), (.int (5 : Int32)), (.int (Int32.ofNat (own_cnt M 4))), (.ref ar)]))
      obtain ⟨_, _, ⟨T79, L79, k79, n79⟩, -, X79, ⟨Lc79, hQ79, l79, y79, z79⟩, st79⟩ := Jvm.LawKit.callS X hx (y := (⟨"com/example/inverso/inverso/search/DocumentSetsComplementPinLaw", "bit", "(II)I"⟩ : MethodName)) hown (mvT hZ (hw _ (List.mem_of_getElem? (i := 1) rfl))) (mvT hZ (hw _ (List.mem_of_getElem? (i := 2) rfl))) (mvT hZ (hw _ (List.mem_of_getElem? (i := 3) rfl))) (mvT hZ (hw _ (List.mem_of_getElem? (i := 4) rfl))) (by decide) (backOf (W := 3) (rm1 l Z aw hw [] (Int32.ofNat M) (5 : Int32)  hh n0 zh ) hZ (hw _ (List.mem_of_getElem? (i := 4) rfl)) (hw _ (List.mem_of_getElem? (i := 3) rfl)) (by decide) (by decide)) (g := (mkF m 180 #[.val (.int p0), .val (.int p1), .val (.int (Int32.ofNat C)), .val (.int (Int32.ofNat M)), .val (.int (Int32.ofNat (own_cnt M 8))), .val (.ref ar), .val (.int (Int32.ofNat (own_cnt M 4))), .unset, .unset, .unset] [(.int (5 : Int32)), (.int (Int32.ofNat M)), (.int (5 : Int32)), (.int (Int32.ofNat (own_cnt M 4))), (.ref ar)])) rfl (by rw [hml]; rfl) (argsL := [(.int (Int32.ofNat M)), (.int (5 : Int32))]) (rest := [(.int (5 : Int32)), (.int (Int32.ofNat (own_cnt M 4))), (.ref ar)]) (lenOf own_pd0 rfl) rfl (by show 2 * 0 + _ ≤ _; exact Nat.le_of_eq rfl) (hb hby at_180) (fun _ _ => ⟨rfl, eT, (by decide : 1 + 0 ≤ _), (by decide : 8 + 0 ≤ _)⟩)
      dsimp only [Pt.U, Pt.locs, Pt.cells, Pt.slots] at X79 l79 y79 z79 st79 hQ79
      subst l79 y79 z79
      obtain ⟨rfl, N79, e79⟩ := hQ79
      have NF79 := Fr.app NF N79
      refine Wp.via st79 ?_
      show Wp p e below _ (T79.setTop (mkF m 183 #[.val (.int p0), .val (.int p1), .val (.int (Int32.ofNat C)), .val (.int (Int32.ofNat M)), .val (.int (Int32.ofNat (own_cnt M 8))), .val (.ref ar), .val (.int (Int32.ofNat (own_cnt M 4))), .unset, .unset, .unset] [(.int (f1_0 (Int32.ofNat M) (5 : Int32))), (.int (5 : Int32)), (.int (Int32.ofNat (own_cnt M 4))), (.ref ar)]))
      refine Wp.via (fun _ k => XS.iconst X79.here hx rfl (hb hby at_183) k) ?_
      show Wp p e below _ (T79.setTop (mkF m 184 #[.val (.int p0), .val (.int p1), .val (.int (Int32.ofNat C)), .val (.int (Int32.ofNat M)), .val (.int (Int32.ofNat (own_cnt M 8))), .val (.ref ar), .val (.int (Int32.ofNat (own_cnt M 4))), .unset, .unset, .unset] [(.int (1 : Int32)), (.int (f1_0 (Int32.ofNat M) (5 : Int32))), (.int (5 : Int32)), (.int (Int32.ofNat (own_cnt M 4))), (.ref ar)]))
      by_cases hbt : M.testBit 4 = true
      ·
        obtain ⟨A1, A2⟩ := own_F1 ⟨M, hM8⟩ ⟨4, by decide⟩ hbt
        dsimp only at A1 A2
        refine Wp.via (fun _ k => XS.icmpNo X79.here hx rfl (hb hby at_184) rfl (teq (by rw [bv, if_pos hbt])).2 k) ?_
        show Wp p e below _ (T79.setTop (mkF m 187 #[.val (.int p0), .val (.int p1), .val (.int (Int32.ofNat C)), .val (.int (Int32.ofNat M)), .val (.int (Int32.ofNat (own_cnt M 8))), .val (.ref ar), .val (.int (Int32.ofNat (own_cnt M 4))), .unset, .unset, .unset] [(.int (5 : Int32)), (.int (Int32.ofNat (own_cnt M 4))), (.ref ar)]))
        refine Wp.via (fun _ k => XS.iconst X79.here hx rfl (hb hby at_187) k) ?_
        show Wp p e below _ (T79.setTop (mkF m 188 #[.val (.int p0), .val (.int p1), .val (.int (Int32.ofNat C)), .val (.int (Int32.ofNat M)), .val (.int (Int32.ofNat (own_cnt M 8))), .val (.ref ar), .val (.int (Int32.ofNat (own_cnt M 4))), .unset, .unset, .unset] [(.int (1 : Int32)), (.int (5 : Int32)), (.int (Int32.ofNat (own_cnt M 4))), (.ref ar)]))
        refine Wp.via (fun _ k => XS.goto X79.here hx rfl (pc0 := 188) (pc' := 192) rfl (hb hby at_188) (by decide) (by decide) k) ?_
        show Wp p e below _ (T79.setTop (mkF m 192 #[.val (.int p0), .val (.int p1), .val (.int (Int32.ofNat C)), .val (.int (Int32.ofNat M)), .val (.int (Int32.ofNat (own_cnt M 8))), .val (.ref ar), .val (.int (Int32.ofNat (own_cnt M 4))), .unset, .unset, .unset] [(.int (1 : Int32)), (.int (5 : Int32)), (.int (Int32.ofNat (own_cnt M 4))), (.ref ar)]))
        obtain ⟨_, _, ⟨T80, L80, k80, n80⟩, -, X80, ⟨Lc80, hQ80, l80, y80, z80⟩, st80⟩ := Jvm.LawKit.callS X79 hx (y := (⟨"com/example/inverso/inverso/search/DocumentSetsComplementPinLaw", "put", "([IIIZ)I"⟩ : MethodName)) hown (mvT hZ (hw _ (List.mem_of_getElem? (i := 6) rfl))) (mvT hZ (hw _ (List.mem_of_getElem? (i := 7) rfl))) (mvT hZ (hw _ (List.mem_of_getElem? (i := 3) rfl))) (mvT hZ (hw _ (List.mem_of_getElem? (i := 8) rfl))) (by decide) (backOf (W := 0) (rm2_1 l Z aw hw [] ar (Int32.ofNat (own_cnt M 4)) (5 : Int32) (own_cnt M 8) (own_cnt M 4) (fun t => if t < own_cnt M 4 then .int (own_A M t) else .int (0 : Int32)) hh n0 zh Va gna (own_pos (by omega)) (own_nat (by omega)) A2) hZ (hw _ (List.mem_of_getElem? (i := 8) rfl)) (hw _ (List.mem_of_getElem? (i := 3) rfl)) (by decide) (by decide)) (g := (mkF m 192 #[.val (.int p0), .val (.int p1), .val (.int (Int32.ofNat C)), .val (.int (Int32.ofNat M)), .val (.int (Int32.ofNat (own_cnt M 8))), .val (.ref ar), .val (.int (Int32.ofNat (own_cnt M 4))), .unset, .unset, .unset] [(.int (1 : Int32)), (.int (5 : Int32)), (.int (Int32.ofNat (own_cnt M 4))), (.ref ar)])) rfl (by rw [hml]; rfl) (argsL := [(.ref ar), (.int (Int32.ofNat (own_cnt M 4))), (.int (5 : Int32)), (.int (1 : Int32))]) (rest := []) (lenOf own_pd1 rfl) rfl (by show 2 * 0 + _ ≤ _; exact Nat.le_of_eq rfl) (hb hby at_192) (fun _ _ => ⟨rfl, e79, (by decide : 1 + 0 ≤ _), (by decide : 8 + 0 ≤ _)⟩)
        dsimp only [Pt.U, Pt.locs, Pt.cells, Pt.slots] at X80 l80 y80 z80 st80 hQ80
        subst l80 y80 z80
        obtain ⟨rfl, N80, Kc80, Vn80⟩ := hQ80
        have NF80 := Fr.app NF79 N80
        refine Wp.via st80 ?_
        show Wp p e below _ (T80.setTop (mkF m 195 #[.val (.int p0), .val (.int p1), .val (.int (Int32.ofNat C)), .val (.int (Int32.ofNat M)), .val (.int (Int32.ofNat (own_cnt M 8))), .val (.ref ar), .val (.int (Int32.ofNat (own_cnt M 4))), .unset, .unset, .unset] [(.int ((Int32.ofNat (own_cnt M 4)) + (1 : Int32)))]))
        have zz80 : n0 ≤ T80.heap.size := Nat.le_trans zh Kc80.1
        refine Wp.via (fun _ k => XS.istore X80.here hx rfl (hb hby at_195) rfl (l' := #[.val (.int p0), .val (.int p1), .val (.int (Int32.ofNat C)), .val (.int (Int32.ofNat M)), .val (.int (Int32.ofNat (own_cnt M 8))), .val (.ref ar), .val (.int ((Int32.ofNat (own_cnt M 4)) + (1 : Int32))), .unset, .unset, .unset]) rfl k) ?_
        show Wp p e below _ (T80.setTop (mkF m 197 #[.val (.int p0), .val (.int p1), .val (.int (Int32.ofNat C)), .val (.int (Int32.ofNat M)), .val (.int (Int32.ofNat (own_cnt M 8))), .val (.ref ar), .val (.int ((Int32.ofNat (own_cnt M 4)) + (1 : Int32))), .unset, .unset, .unset] []))
        have rw81 : ((Int32.ofNat (own_cnt M 4)) + (1 : Int32)) = (Int32.ofNat (own_cnt M 5)) := by rw [own_succ]; simp [own_cnt, hbt]
        rw [rw81]
        show Wp p e below _ (T80.setTop (mkF m 197 #[.val (.int p0), .val (.int p1), .val (.int (Int32.ofNat C)), .val (.int (Int32.ofNat M)), .val (.int (Int32.ofNat (own_cnt M 8))), .val (.ref ar), .val (.int (Int32.ofNat (own_cnt M 5))), .unset, .unset, .unset] []))
        exact J1_5 T80 _ _ X80 rfl zz80 NF80 ar gna (Vn80.cong (fun t ht => own_stA M 4 t _ hbt A1))
      ·
        have hbf : M.testBit 4 = false := by simpa using hbt
        have eq3 : own_cnt M 5 = own_cnt M 4 := by simp [own_cnt, hbf]
        refine Wp.via (fun _ k => XS.icmpYes X79.here hx rfl (pc0 := 184) (pc' := 191) rfl (hb hby at_184) rfl (feq (by rw [bv, if_neg hbt]; decide)).2 (by decide) (by decide) k) ?_
        show Wp p e below _ (T79.setTop (mkF m 191 #[.val (.int p0), .val (.int p1), .val (.int (Int32.ofNat C)), .val (.int (Int32.ofNat M)), .val (.int (Int32.ofNat (own_cnt M 8))), .val (.ref ar), .val (.int (Int32.ofNat (own_cnt M 4))), .unset, .unset, .unset] [(.int (5 : Int32)), (.int (Int32.ofNat (own_cnt M 4))), (.ref ar)]))
        refine Wp.via (fun _ k => XS.iconst X79.here hx rfl (hb hby at_191) k) ?_
        show Wp p e below _ (T79.setTop (mkF m 192 #[.val (.int p0), .val (.int p1), .val (.int (Int32.ofNat C)), .val (.int (Int32.ofNat M)), .val (.int (Int32.ofNat (own_cnt M 8))), .val (.ref ar), .val (.int (Int32.ofNat (own_cnt M 4))), .unset, .unset, .unset] [(.int (0 : Int32)), (.int (5 : Int32)), (.int (Int32.ofNat (own_cnt M 4))), (.ref ar)]))
        obtain ⟨_, _, ⟨T82, L82, k82, n82⟩, -, X82, ⟨Lc82, hQ82, l82, y82, z82⟩, st82⟩ := Jvm.LawKit.callS X79 hx (y := (⟨"com/example/inverso/inverso/search/DocumentSetsComplementPinLaw", "put", "([IIIZ)I"⟩ : MethodName)) hown (mvT hZ (hw _ (List.mem_of_getElem? (i := 6) rfl))) (mvT hZ (hw _ (List.mem_of_getElem? (i := 7) rfl))) (mvT hZ (hw _ (List.mem_of_getElem? (i := 3) rfl))) (mvT hZ (hw _ (List.mem_of_getElem? (i := 8) rfl))) (by decide) (backOf (W := 0) (rm2_0 l Z aw hw [] ar (Int32.ofNat (own_cnt M 4)) (5 : Int32)  hh n0 zh ) hZ (hw _ (List.mem_of_getElem? (i := 8) rfl)) (hw _ (List.mem_of_getElem? (i := 3) rfl)) (by decide) (by decide)) (g := (mkF m 192 #[.val (.int p0), .val (.int p1), .val (.int (Int32.ofNat C)), .val (.int (Int32.ofNat M)), .val (.int (Int32.ofNat (own_cnt M 8))), .val (.ref ar), .val (.int (Int32.ofNat (own_cnt M 4))), .unset, .unset, .unset] [(.int (0 : Int32)), (.int (5 : Int32)), (.int (Int32.ofNat (own_cnt M 4))), (.ref ar)])) rfl (by rw [hml]; rfl) (argsL := [(.ref ar), (.int (Int32.ofNat (own_cnt M 4))), (.int (5 : Int32)), (.int (0 : Int32))]) (rest := []) (lenOf own_pd1 rfl) rfl (by show 2 * 0 + _ ≤ _; exact Nat.le_of_eq rfl) (hb hby at_192) (fun _ _ => ⟨rfl, e79, (by decide : 1 + 0 ≤ _), (by decide : 8 + 0 ≤ _)⟩)
        dsimp only [Pt.U, Pt.locs, Pt.cells, Pt.slots] at X82 l82 y82 z82 st82 hQ82
        subst l82 y82 z82
        obtain ⟨rfl, N82, e82⟩ := hQ82
        have NF82 := Fr.app NF79 N82
        refine Wp.via st82 ?_
        show Wp p e below _ (T82.setTop (mkF m 195 #[.val (.int p0), .val (.int p1), .val (.int (Int32.ofNat C)), .val (.int (Int32.ofNat M)), .val (.int (Int32.ofNat (own_cnt M 8))), .val (.ref ar), .val (.int (Int32.ofNat (own_cnt M 4))), .unset, .unset, .unset] [(.int (Int32.ofNat (own_cnt M 4)))]))
        refine Wp.via (fun _ k => XS.istore X82.here hx rfl (hb hby at_195) rfl (l' := #[.val (.int p0), .val (.int p1), .val (.int (Int32.ofNat C)), .val (.int (Int32.ofNat M)), .val (.int (Int32.ofNat (own_cnt M 8))), .val (.ref ar), .val (.int (Int32.ofNat (own_cnt M 4))), .unset, .unset, .unset]) rfl k) ?_
        show Wp p e below _ (T82.setTop (mkF m 197 #[.val (.int p0), .val (.int p1), .val (.int (Int32.ofNat C)), .val (.int (Int32.ofNat M)), .val (.int (Int32.ofNat (own_cnt M 8))), .val (.ref ar), .val (.int (Int32.ofNat (own_cnt M 4))), .unset, .unset, .unset] []))
        have rw83 : (Int32.ofNat (own_cnt M 4)) = (Int32.ofNat (own_cnt M 5)) := by rw [eq3]
        rw [rw83]
        show Wp p e below _ (T82.setTop (mkF m 197 #[.val (.int p0), .val (.int p1), .val (.int (Int32.ofNat C)), .val (.int (Int32.ofNat M)), .val (.int (Int32.ofNat (own_cnt M 8))), .val (.ref ar), .val (.int (Int32.ofNat (own_cnt M 5))), .unset, .unset, .unset] []))
        exact J1_5 T82 _ _ X82 e82 zh NF82 ar gna (Va.cong (fun t ht => by rw [eq3]))
    clear J1_5
    have J1_3 : ∀ (T : State) (hh : Heap) (locs : List Loc) (X : Stand p l e room_1 s m #[(.int p0), (.int p1)] below meth c T locs 1 8) (eT : T.heap = hh) (zh : n0 ≤ hh.size) (NF : Fr n0 locs) (ar : Addr) (gna : n0 ≤ ar) (Va : Av Z hh ar .int (own_cnt M 8) (fun t => if t < own_cnt M 3 then .int (own_A M t) else .int (0 : Int32))), Wp p e below (Gd s (Qo0 Z p0 p1 h0 n0) 16 128) (T.setTop (mkF m 149 #[.val (.int p0), .val (.int p1), .val (.int (Int32.ofNat C)), .val (.int (Int32.ofNat M)), .val (.int (Int32.ofNat (own_cnt M 8))), .val (.ref ar), .val (.int (Int32.ofNat (own_cnt M 3))), .unset, .unset, .unset] [])) := by
      intro T hh locs X eT zh NF ar gna Va
      have bd2 := own_cle M 3
      have bv : f1_0 (Int32.ofNat M) (4 : Int32) = (if M.testBit 3 = true then 1 else 0) := own_bv ⟨M, hM8⟩ ⟨3, by decide⟩
      refine Wp.via (fun _ k => XS.aload X.here hx rfl (hb hby at_149) rfl rfl k) ?_
      show Wp p e below _ (T.setTop (mkF m 151 #[.val (.int p0), .val (.int p1), .val (.int (Int32.ofNat C)), .val (.int (Int32.ofNat M)), .val (.int (Int32.ofNat (own_cnt M 8))), .val (.ref ar), .val (.int (Int32.ofNat (own_cnt M 3))), .unset, .unset, .unset] [(.ref ar)]))
      refine Wp.via (fun _ k => XS.iload X.here hx rfl (hb hby at_151) rfl k) ?_
      show Wp p e below _ (T.setTop (mkF m 153 #[.val (.int p0), .val (.int p1), .val (.int (Int32.ofNat C)), .val (.int (Int32.ofNat M)), .val (.int (Int32.ofNat (own_cnt M 8))), .val (.ref ar), .val (.int (Int32.ofNat (own_cnt M 3))), .unset, .unset, .unset] [(.int (Int32.ofNat (own_cnt M 3))), (.ref ar)]))
      refine Wp.via (fun _ k => XS.iconst X.here hx rfl (hb hby at_153) k) ?_
      show Wp p e below _ (T.setTop (mkF m 154 #[.val (.int p0), .val (.int p1), .val (.int (Int32.ofNat C)), .val (.int (Int32.ofNat M)), .val (.int (Int32.ofNat (own_cnt M 8))), .val (.ref ar), .val (.int (Int32.ofNat (own_cnt M 3))), .unset, .unset, .unset] [(.int (4 : Int32)), (.int (Int32.ofNat (own_cnt M 3))), (.ref ar)]))
      refine Wp.via (fun _ k => XS.iloadN X.here hx rfl (hb hby at_154) rfl k) ?_
      show Wp p e below _ (T.setTop (mkF m 155 #[.val (.int p0), .val (.int p1), .val (.int (Int32.ofNat C)), .val (.int (Int32.ofNat M)), .val (.int (Int32.ofNat (own_cnt M 8))), .val (.ref ar), .val (.int (Int32.ofNat (own_cnt M 3))), .unset, .unset, .unset] [(.int (Int32.ofNat M)), (.int (4 : Int32)), (.int (Int32.ofNat (own_cnt M 3))), (.ref ar)]))
      refine Wp.via (fun _ k => XS.iconst X.here hx rfl (hb hby at_155) k) ?_
      show Wp p e below _ (T.setTop (mkF m 156 #[.val (.int p0), .val (.int p1), .val (.int (Int32.ofNat C)), .val (.int (Int32.ofNat M)), .val (.int (Int32.ofNat (own_cnt M 8))), .val (.ref ar), .val (.int (Int32.ofNat (own_cnt M 3))), .unset, .unset, .unset] [(.int (4 : Int32)), (.int (Int32.ofNat M)), (.int (4 : Int32)), (.int (Int32.ofNat (own_cnt M 3))), (.ref ar)]))
      obtain ⟨_, _, ⟨T84, L84, k84, n84⟩, -, X84, ⟨Lc84, hQ84, l84, y84, z84⟩, st84⟩ := Jvm.LawKit.callS X hx (y := (⟨"com/example/inverso/inverso/search/DocumentSetsComplementPinLaw", "bit", "(II)I"⟩ : MethodName)) hown (mvT hZ (hw _ (List.mem_of_getElem? (i := 1) rfl))) (mvT hZ (hw _ (List.mem_of_getElem? (i := 2) rfl))) (mvT hZ (hw _ (List.mem_of_getElem? (i := 3) rfl))) (mvT hZ (hw _ (List.mem_of_getElem? (i := 4) rfl))) (by decide) (backOf (W := 3) (rm1 l Z aw hw [] (Int32.ofNat M) (4 : Int32)  hh n0 zh ) hZ (hw _ (List.mem_of_getElem? (i := 4) rfl)) (hw _ (List.mem_of_getElem? (i := 3) rfl)) (by decide) (by decide)) (g := (mkF m 156 #[.val (.int p0), .val (.int p1), .val (.int (Int32.ofNat C)), .val (.int (Int32.ofNat M)), .val (.int (Int32.ofNat (own_cnt M 8))), .val (.ref ar), .val (.int (Int32.ofNat (own_cnt M 3))), .unset, .unset, .unset] [(.int (4 : Int32)), (.int (Int32.ofNat M)), (.int (4 : Int32)), (.int (Int32.ofNat (own_cnt M 3))), (.ref ar)])) rfl (by rw [hml]; rfl) (argsL := [(.int (Int32.ofNat M)), (.int (4 : Int32))]) (rest := [(.int (4 : Int32)), (.int (Int32.ofNat (own_cnt M 3))), (.ref ar)]) (lenOf own_pd0 rfl) rfl (by show 2 * 0 + _ ≤ _; exact Nat.le_of_eq rfl) (hb hby at_156) (fun _ _ => ⟨rfl, eT, (by decide : 1 + 0 ≤ _), (by decide : 8 + 0 ≤ _)⟩)
      dsimp only [Pt.U, Pt.locs, Pt.cells, Pt.slots] at X84 l84 y84 z84 st84 hQ84
      subst l84 y84 z84
      obtain ⟨rfl, N84, e84⟩ := hQ84
      have NF84 := Fr.app NF N84
      refine Wp.via st84 ?_
      show Wp p e below _ (T84.setTop (mkF m 159 #[.val (.int p0), .val (.int p1), .val (.int (Int32.ofNat C)), .val (.int (Int32.ofNat M)), .val (.int (Int32.ofNat (own_cnt M 8))), .val (.ref ar), .val (.int (Int32.ofNat (own_cnt M 3))), .unset, .unset, .unset] [(.int (f1_0 (Int32.ofNat M) (4 : Int32))), (.int (4 : Int32)), (.int (Int32.ofNat (own_cnt M 3))), (.ref ar)]))
      refine Wp.via (fun _ k => XS.iconst X84.here hx rfl (hb hby at_159) k) ?_
      show Wp p e below _ (T84.setTop (mkF m 160 #[.val (.int p0), .val (.int p1), .val (.int (Int32.ofNat C)), .val (.int (Int32.ofNat M)), .val (.int (Int32.ofNat (own_cnt M 8))), .val (.ref ar), .val (.int (Int32.ofNat (own_cnt M 3))), .unset, .unset, .unset] [(.int (1 : Int32)), (.int (f1_0 (Int32.ofNat M) (4 : Int32))), (.int (4 : Int32)), (.int (Int32.ofNat (own_cnt M 3))), (.ref ar)]))
      by_cases hbt : M.testBit 3 = true
      ·
        obtain ⟨A1, A2⟩ := own_F1 ⟨M, hM8⟩ ⟨3, by decide⟩ hbt
        dsimp only at A1 A2
        refine Wp.via (fun _ k => XS.icmpNo X84.here hx rfl (hb hby at_160) rfl (teq (by rw [bv, if_pos hbt])).2 k) ?_
        show Wp p e below _ (T84.setTop (mkF m 163 #[.val (.int p0), .val (.int p1), .val (.int (Int32.ofNat C)), .val (.int (Int32.ofNat M)), .val (.int (Int32.ofNat (own_cnt M 8))), .val (.ref ar), .val (.int (Int32.ofNat (own_cnt M 3))), .unset, .unset, .unset] [(.int (4 : Int32)), (.int (Int32.ofNat (own_cnt M 3))), (.ref ar)]))
        refine Wp.via (fun _ k => XS.iconst X84.here hx rfl (hb hby at_163) k) ?_
        show Wp p e below _ (T84.setTop (mkF m 164 #[.val (.int p0), .val (.int p1), .val (.int (Int32.ofNat C)), .val (.int (Int32.ofNat M)), .val (.int (Int32.ofNat (own_cnt M 8))), .val (.ref ar), .val (.int (Int32.ofNat (own_cnt M 3))), .unset, .unset, .unset] [(.int (1 : Int32)), (.int (4 : Int32)), (.int (Int32.ofNat (own_cnt M 3))), (.ref ar)]))
        refine Wp.via (fun _ k => XS.goto X84.here hx rfl (pc0 := 164) (pc' := 168) rfl (hb hby at_164) (by decide) (by decide) k) ?_
        show Wp p e below _ (T84.setTop (mkF m 168 #[.val (.int p0), .val (.int p1), .val (.int (Int32.ofNat C)), .val (.int (Int32.ofNat M)), .val (.int (Int32.ofNat (own_cnt M 8))), .val (.ref ar), .val (.int (Int32.ofNat (own_cnt M 3))), .unset, .unset, .unset] [(.int (1 : Int32)), (.int (4 : Int32)), (.int (Int32.ofNat (own_cnt M 3))), (.ref ar)]))
        obtain ⟨_, _, ⟨T85, L85, k85, n85⟩, -, X85, ⟨Lc85, hQ85, l85, y85, z85⟩, st85⟩ := Jvm.LawKit.callS X84 hx (y := (⟨"com/example/inverso/inverso/search/DocumentSetsComplementPinLaw", "put", "([IIIZ)I"⟩ : MethodName)) hown (mvT hZ (hw _ (List.mem_of_getElem? (i := 6) rfl))) (mvT hZ (hw _ (List.mem_of_getElem? (i := 7) rfl))) (mvT hZ (hw _ (List.mem_of_getElem? (i := 3) rfl))) (mvT hZ (hw _ (List.mem_of_getElem? (i := 8) rfl))) (by decide) (backOf (W := 0) (rm2_1 l Z aw hw [] ar (Int32.ofNat (own_cnt M 3)) (4 : Int32) (own_cnt M 8) (own_cnt M 3) (fun t => if t < own_cnt M 3 then .int (own_A M t) else .int (0 : Int32)) hh n0 zh Va gna (own_pos (by omega)) (own_nat (by omega)) A2) hZ (hw _ (List.mem_of_getElem? (i := 8) rfl)) (hw _ (List.mem_of_getElem? (i := 3) rfl)) (by decide) (by decide)) (g := (mkF m 168 #[.val (.int p0), .val (.int p1), .val (.int (Int32.ofNat C)), .val (.int (Int32.ofNat M)), .val (.int (Int32.ofNat (own_cnt M 8))), .val (.ref ar), .val (.int (Int32.ofNat (own_cnt M 3))), .unset, .unset, .unset] [(.int (1 : Int32)), (.int (4 : Int32)), (.int (Int32.ofNat (own_cnt M 3))), (.ref ar)])) rfl (by rw [hml]; rfl) (argsL := [(.ref ar), (.int (Int32.ofNat (own_cnt M 3))), (.int (4 : Int32)), (.int (1 : Int32))]) (rest := []) (lenOf own_pd1 rfl) rfl (by show 2 * 0 + _ ≤ _; exact Nat.le_of_eq rfl) (hb hby at_168) (fun _ _ => ⟨rfl, e84, (by decide : 1 + 0 ≤ _), (by decide : 8 + 0 ≤ _)⟩)
        dsimp only [Pt.U, Pt.locs, Pt.cells, Pt.slots] at X85 l85 y85 z85 st85 hQ85
        subst l85 y85 z85
        obtain ⟨rfl, N85, Kc85, Vn85⟩ := hQ85
        have NF85 := Fr.app NF84 N85
        refine Wp.via st85 ?_
        show Wp p e below _ (T85.setTop (mkF m 171 #[.val (.int p0), .val (.int p1), .val (.int (Int32.ofNat C)), .val (.int (Int32.ofNat M)), .val (.int (Int32.ofNat (own_cnt M 8))), .val (.ref ar), .val (.int (Int32.ofNat (own_cnt M 3))), .unset, .unset, .unset] [(.int ((Int32.ofNat (own_cnt M 3)) + (1 : Int32)))]))
        have zz85 : n0 ≤ T85.heap.size := Nat.le_trans zh Kc85.1
        refine Wp.via (fun _ k => XS.istore X85.here hx rfl (hb hby at_171) rfl (l' := #[.val (.int p0), .val (.int p1), .val (.int (Int32.ofNat C)), .val (.int (Int32.ofNat M)), .val (.int (Int32.ofNat (own_cnt M 8))), .val (.ref ar), .val (.int ((Int32.ofNat (own_cnt M 3)) + (1 : Int32))), .unset, .unset, .unset]) rfl k) ?_
        show Wp p e below _ (T85.setTop (mkF m 173 #[.val (.int p0), .val (.int p1), .val (.int (Int32.ofNat C)), .val (.int (Int32.ofNat M)), .val (.int (Int32.ofNat (own_cnt M 8))), .val (.ref ar), .val (.int ((Int32.ofNat (own_cnt M 3)) + (1 : Int32))), .unset, .unset, .unset] []))
        have rw86 : ((Int32.ofNat (own_cnt M 3)) + (1 : Int32)) = (Int32.ofNat (own_cnt M 4)) := by rw [own_succ]; simp [own_cnt, hbt]
        rw [rw86]
        show Wp p e below _ (T85.setTop (mkF m 173 #[.val (.int p0), .val (.int p1), .val (.int (Int32.ofNat C)), .val (.int (Int32.ofNat M)), .val (.int (Int32.ofNat (own_cnt M 8))), .val (.ref ar), .val (.int (Int32.ofNat (own_cnt M 4))), .unset, .unset, .unset] []))
        exact J1_4 T85 _ _ X85 rfl zz85 NF85 ar gna (Vn85.cong (fun t ht => own_stA M 3 t _ hbt A1))
      ·
        have hbf : M.testBit 3 = false := by simpa using hbt
        have eq3 : own_cnt M 4 = own_cnt M 3 := by simp [own_cnt, hbf]
        refine Wp.via (fun _ k => XS.icmpYes X84.here hx rfl (pc0 := 160) (pc' := 167) rfl (hb hby at_160) rfl (feq (by rw [bv, if_neg hbt]; decide)).2 (by decide) (by decide) k) ?_
        show Wp p e below _ (T84.setTop (mkF m 167 #[.val (.int p0), .val (.int p1), .val (.int (Int32.ofNat C)), .val (.int (Int32.ofNat M)), .val (.int (Int32.ofNat (own_cnt M 8))), .val (.ref ar), .val (.int (Int32.ofNat (own_cnt M 3))), .unset, .unset, .unset] [(.int (4 : Int32)), (.int (Int32.ofNat (own_cnt M 3))), (.ref ar)]))
        refine Wp.via (fun _ k => XS.iconst X84.here hx rfl (hb hby at_167) k) ?_
        show Wp p e below _ (T84.setTop (mkF m 168 #[.val (.int p0), .val (.int p1), .val (.int (Int32.ofNat C)), .val (.int (Int32.ofNat M)), .val (.int (Int32.ofNat (own_cnt M 8))), .val (.ref ar), .val (.int (Int32.ofNat (own_cnt M 3))), .unset, .unset, .unset] [(.int (0 : Int32)), (.int (4 : Int32)), (.int (Int32.ofNat (own_cnt M 3))), (.ref ar)]))
        obtain ⟨_, _, ⟨T87, L87, k87, n87⟩, -, X87, ⟨Lc87, hQ87, l87, y87, z87⟩, st87⟩ := Jvm.LawKit.callS X84 hx (y := (⟨"com/example/inverso/inverso/search/DocumentSetsComplementPinLaw", "put", "([IIIZ)I"⟩ : MethodName)) hown (mvT hZ (hw _ (List.mem_of_getElem? (i := 6) rfl))) (mvT hZ (hw _ (List.mem_of_getElem? (i := 7) rfl))) (mvT hZ (hw _ (List.mem_of_getElem? (i := 3) rfl))) (mvT hZ (hw _ (List.mem_of_getElem? (i := 8) rfl))) (by decide) (backOf (W := 0) (rm2_0 l Z aw hw [] ar (Int32.ofNat (own_cnt M 3)) (4 : Int32)  hh n0 zh ) hZ (hw _ (List.mem_of_getElem? (i := 8) rfl)) (hw _ (List.mem_of_getElem? (i := 3) rfl)) (by decide) (by decide)) (g := (mkF m 168 #[.val (.int p0), .val (.int p1), .val (.int (Int32.ofNat C)), .val (.int (Int32.ofNat M)), .val (.int (Int32.ofNat (own_cnt M 8))), .val (.ref ar), .val (.int (Int32.ofNat (own_cnt M 3))), .unset, .unset, .unset] [(.int (0 : Int32)), (.int (4 : Int32)), (.int (Int32.ofNat (own_cnt M 3))), (.ref ar)])) rfl (by rw [hml]; rfl) (argsL := [(.ref ar), (.int (Int32.ofNat (own_cnt M 3))), (.int (4 : Int32)), (.int (0 : Int32))]) (rest := []) (lenOf own_pd1 rfl) rfl (by show 2 * 0 + _ ≤ _; exact Nat.le_of_eq rfl) (hb hby at_168) (fun _ _ => ⟨rfl, e84, (by decide : 1 + 0 ≤ _), (by decide : 8 + 0 ≤ _)⟩)
        dsimp only [Pt.U, Pt.locs, Pt.cells, Pt.slots] at X87 l87 y87 z87 st87 hQ87
        subst l87 y87 z87
        obtain ⟨rfl, N87, e87⟩ := hQ87
        have NF87 := Fr.app NF84 N87
        refine Wp.via st87 ?_
        show Wp p e below _ (T87.setTop (mkF m 171 #[.val (.int p0), .val (.int p1), .val (.int (Int32.ofNat C)), .val (.int (Int32.ofNat M)), .val (.int (Int32.ofNat (own_cnt M 8))), .val (.ref ar), .val (.int (Int32.ofNat (own_cnt M 3))), .unset, .unset, .unset] [(.int (Int32.ofNat (own_cnt M 3)))]))
        refine Wp.via (fun _ k => XS.istore X87.here hx rfl (hb hby at_171) rfl (l' := #[.val (.int p0), .val (.int p1), .val (.int (Int32.ofNat C)), .val (.int (Int32.ofNat M)), .val (.int (Int32.ofNat (own_cnt M 8))), .val (.ref ar), .val (.int (Int32.ofNat (own_cnt M 3))), .unset, .unset, .unset]) rfl k) ?_
        show Wp p e below _ (T87.setTop (mkF m 173 #[.val (.int p0), .val (.int p1), .val (.int (Int32.ofNat C)), .val (.int (Int32.ofNat M)), .val (.int (Int32.ofNat (own_cnt M 8))), .val (.ref ar), .val (.int (Int32.ofNat (own_cnt M 3))), .unset, .unset, .unset] []))
        have rw88 : (Int32.ofNat (own_cnt M 3)) = (Int32.ofNat (own_cnt M 4)) := by rw [eq3]
        rw [rw88]
        show Wp p e below _ (T87.setTop (mkF m 173 #[.val (.int p0), .val (.int p1), .val (.int (Int32.ofNat C)), .val (.int (Int32.ofNat M)), .val (.int (Int32.ofNat (own_cnt M 8))), .val (.ref ar), .val (.int (Int32.ofNat (own_cnt M 4))), .unset, .unset, .unset] []))
        exact J1_4 T87 _ _ X87 e87 zh NF87 ar gna (Va.cong (fun t ht => by rw [eq3]))
    clear J1_4
    have J1_2 : ∀ (T : State) (hh : Heap) (locs : List Loc) (X : Stand p l e room_1 s m #[(.int p0), (.int p1)] below meth c T locs 1 8) (eT : T.heap = hh) (zh : n0 ≤ hh.size) (NF : Fr n0 locs) (ar : Addr) (gna : n0 ≤ ar) (Va : Av Z hh ar .int (own_cnt M 8) (fun t => if t < own_cnt M 2 then .int (own_A M t) else .int (0 : Int32))), Wp p e below (Gd s (Qo0 Z p0 p1 h0 n0) 16 128) (T.setTop (mkF m 125 #[.val (.int p0), .val (.int p1), .val (.int (Int32.ofNat C)), .val (.int (Int32.ofNat M)), .val (.int (Int32.ofNat (own_cnt M 8))), .val (.ref ar), .val (.int (Int32.ofNat (own_cnt M 2))), .unset, .unset, .unset] [])) := by
      intro T hh locs X eT zh NF ar gna Va
      have bd2 := own_cle M 2
      have bv : f1_0 (Int32.ofNat M) (3 : Int32) = (if M.testBit 2 = true then 1 else 0) := own_bv ⟨M, hM8⟩ ⟨2, by decide⟩
      refine Wp.via (fun _ k => XS.aload X.here hx rfl (hb hby at_125) rfl rfl k) ?_
      show Wp p e below _ (T.setTop (mkF m 127 #[.val (.int p0), .val (.int p1), .val (.int (Int32.ofNat C)), .val (.int (Int32.ofNat M)), .val (.int (Int32.ofNat (own_cnt M 8))), .val (.ref ar), .val (.int (Int32.ofNat (own_cnt M 2))), .unset, .unset, .unset] [(.ref ar)]))
      refine Wp.via (fun _ k => XS.iload X.here hx rfl (hb hby at_127) rfl k) ?_
      show Wp p e below _ (T.setTop (mkF m 129 #[.val (.int p0), .val (.int p1), .val (.int (Int32.ofNat C)), .val (.int (Int32.ofNat M)), .val (.int (Int32.ofNat (own_cnt M 8))), .val (.ref ar), .val (.int (Int32.ofNat (own_cnt M 2))), .unset, .unset, .unset] [(.int (Int32.ofNat (own_cnt M 2))), (.ref ar)]))
      refine Wp.via (fun _ k => XS.iconst X.here hx rfl (hb hby at_129) k) ?_
      show Wp p e below _ (T.setTop (mkF m 130 #[.val (.int p0), .val (.int p1), .val (.int (Int32.ofNat C)), .val (.int (Int32.ofNat M)), .val (.int (Int32.ofNat (own_cnt M 8))), .val (.ref ar), .val (.int (Int32.ofNat (own_cnt M 2))), .unset, .unset, .unset] [(.int (3 : Int32)), (.int (Int32.ofNat (own_cnt M 2))), (.ref ar)]))
      refine Wp.via (fun _ k => XS.iloadN X.here hx rfl (hb hby at_130) rfl k) ?_
      show Wp p e below _ (T.setTop (mkF m 131 #[.val (.int p0), .val (.int p1), .val (.int (Int32.ofNat C)), .val (.int (Int32.ofNat M)), .val (.int (Int32.ofNat (own_cnt M 8))), .val (.ref ar), .val (.int (Int32.ofNat (own_cnt M 2))), .unset, .unset, .unset] [(.int (Int32.ofNat M)), (.int (3 : Int32)), (.int (Int32.ofNat (own_cnt M 2))), (.ref ar)]))
      refine Wp.via (fun _ k => XS.iconst X.here hx rfl (hb hby at_131) k) ?_
      show Wp p e below _ (T.setTop (mkF m 132 #[.val (.int p0), .val (.int p1), .val (.int (Int32.ofNat C)), .val (.int (Int32.ofNat M)), .val (.int (Int32.ofNat (own_cnt M 8))), .val (.ref ar), .val (.int (Int32.ofNat (own_cnt M 2))), .unset, .unset, .unset] [(.int (3 : Int32)), (.int (Int32.ofNat M)), (.int (3 : Int32)), (.int (Int32.ofNat (own_cnt M 2))), (.ref ar)]))
      obtain ⟨_, _, ⟨T89, L89, k89, n89⟩, -, X89, ⟨Lc89, hQ89, l89, y89, z89⟩, st89⟩ := Jvm.LawKit.callS X hx (y := (⟨"com/example/inverso/inverso/search/DocumentSetsComplementPinLaw", "bit", "(II)I"⟩ : MethodName)) hown (mvT hZ (hw _ (List.mem_of_getElem? (i := 1) rfl))) (mvT hZ (hw _ (List.mem_of_getElem? (i := 2) rfl))) (mvT hZ (hw _ (List.mem_of_getElem? (i := 3) rfl))) (mvT hZ (hw _ (List.mem_of_getElem? (i := 4) rfl))) (by decide) (backOf (W := 3) (rm1 l Z aw hw [] (Int32.ofNat M) (3 : Int32)  hh n0 zh ) hZ (hw _ (List.mem_of_getElem? (i := 4) rfl)) (hw _ (List.mem_of_getElem? (i := 3) rfl)) (by decide) (by decide)) (g := (mkF m 132 #[.val (.int p0), .val (.int p1), .val (.int (Int32.ofNat C)), .val (.int (Int32.ofNat M)), .val (.int (Int32.ofNat (own_cnt M 8))), .val (.ref ar), .val (.int (Int32.ofNat (own_cnt M 2))), .unset, .unset, .unset] [(.int (3 : Int32)), (.int (Int32.ofNat M)), (.int (3 : Int32)), (.int (Int32.ofNat (own_cnt M 2))), (.ref ar)])) rfl (by rw [hml]; rfl) (argsL := [(.int (Int32.ofNat M)), (.int (3 : Int32))]) (rest := [(.int (3 : Int32)), (.int (Int32.ofNat (own_cnt M 2))), (.ref ar)]) (lenOf own_pd0 rfl) rfl (by show 2 * 0 + _ ≤ _; exact Nat.le_of_eq rfl) (hb hby at_132) (fun _ _ => ⟨rfl, eT, (by decide : 1 + 0 ≤ _), (by decide : 8 + 0 ≤ _)⟩)
      dsimp only [Pt.U, Pt.locs, Pt.cells, Pt.slots] at X89 l89 y89 z89 st89 hQ89
      subst l89 y89 z89
      obtain ⟨rfl, N89, e89⟩ := hQ89
      have NF89 := Fr.app NF N89
      refine Wp.via st89 ?_
      show Wp p e below _ (T89.setTop (mkF m 135 #[.val (.int p0), .val (.int p1), .val (.int (Int32.ofNat C)), .val (.int (Int32.ofNat M)), .val (.int (Int32.ofNat (own_cnt M 8))), .val (.ref ar), .val (.int (Int32.ofNat (own_cnt M 2))), .unset, .unset, .unset] [(.int (f1_0 (Int32.ofNat M) (3 : Int32))), (.int (3 : Int32)), (.int (Int32.ofNat (own_cnt M 2))), (.ref ar)]))
      refine Wp.via (fun _ k => XS.iconst X89.here hx rfl (hb hby at_135) k) ?_
      show Wp p e below _ (T89.setTop (mkF m 136 #[.val (.int p0), .val (.int p1), .val (.int (Int32.ofNat C)), .val (.int (Int32.ofNat M)), .val (.int (Int32.ofNat (own_cnt M 8))), .val (.ref ar), .val (.int (Int32.ofNat (own_cnt M 2))), .unset, .unset, .unset] [(.int (1 : Int32)), (.int (f1_0 (Int32.ofNat M) (3 : Int32))), (.int (3 : Int32)), (.int (Int32.ofNat (own_cnt M 2))), (.ref ar)]))
      by_cases hbt : M.testBit 2 = true
      ·
        obtain ⟨A1, A2⟩ := own_F1 ⟨M, hM8⟩ ⟨2, by decide⟩ hbt
        dsimp only at A1 A2
        refine Wp.via (fun _ k => XS.icmpNo X89.here hx rfl (hb hby at_136) rfl (teq (by rw [bv, if_pos hbt])).2 k) ?_
        show Wp p e below _ (T89.setTop (mkF m 139 #[.val (.int p0), .val (.int p1), .val (.int (Int32.ofNat C)), .val (.int (Int32.ofNat M)), .val (.int (Int32.ofNat (own_cnt M 8))), .val (.ref ar), .val (.int (Int32.ofNat (own_cnt M 2))), .unset, .unset, .unset] [(.int (3 : Int32)), (.int (Int32.ofNat (own_cnt M 2))), (.ref ar)]))
        refine Wp.via (fun _ k => XS.iconst X89.here hx rfl (hb hby at_139) k) ?_
        show Wp p e below _ (T89.setTop (mkF m 140 #[.val (.int p0), .val (.int p1), .val (.int (Int32.ofNat C)), .val (.int (Int32.ofNat M)), .val (.int (Int32.ofNat (own_cnt M 8))), .val (.ref ar), .val (.int (Int32.ofNat (own_cnt M 2))), .unset, .unset, .unset] [(.int (1 : Int32)), (.int (3 : Int32)), (.int (Int32.ofNat (own_cnt M 2))), (.ref ar)]))
        refine Wp.via (fun _ k => XS.goto X89.here hx rfl (pc0 := 140) (pc' := 144) rfl (hb hby at_140) (by decide) (by decide) k) ?_
        show Wp p e below _ (T89.setTop (mkF m 144 #[.val (.int p0), .val (.int p1), .val (.int (Int32.ofNat C)), .val (.int (Int32.ofNat M)), .val (.int (Int32.ofNat (own_cnt M 8))), .val (.ref ar), .val (.int (Int32.ofNat (own_cnt M 2))), .unset, .unset, .unset] [(.int (1 : Int32)), (.int (3 : Int32)), (.int (Int32.ofNat (own_cnt M 2))), (.ref ar)]))
        obtain ⟨_, _, ⟨T90, L90, k90, n90⟩, -, X90, ⟨Lc90, hQ90, l90, y90, z90⟩, st90⟩ := Jvm.LawKit.callS X89 hx (y := (⟨"com/example/inverso/inverso/search/DocumentSetsComplementPinLaw", "put", "([IIIZ)I"⟩ : MethodName)) hown (mvT hZ (hw _ (List.mem_of_getElem? (i := 6) rfl))) (mvT hZ (hw _ (List.mem_of_getElem? (i := 7) rfl))) (mvT hZ (hw _ (List.mem_of_getElem? (i := 3) rfl))) (mvT hZ (hw _ (List.mem_of_getElem? (i := 8) rfl))) (by decide) (backOf (W := 0) (rm2_1 l Z aw hw [] ar (Int32.ofNat (own_cnt M 2)) (3 : Int32) (own_cnt M 8) (own_cnt M 2) (fun t => if t < own_cnt M 2 then .int (own_A M t) else .int (0 : Int32)) hh n0 zh Va gna (own_pos (by omega)) (own_nat (by omega)) A2) hZ (hw _ (List.mem_of_getElem? (i := 8) rfl)) (hw _ (List.mem_of_getElem? (i := 3) rfl)) (by decide) (by decide)) (g := (mkF m 144 #[.val (.int p0), .val (.int p1), .val (.int (Int32.ofNat C)), .val (.int (Int32.ofNat M)), .val (.int (Int32.ofNat (own_cnt M 8))), .val (.ref ar), .val (.int (Int32.ofNat (own_cnt M 2))), .unset, .unset, .unset] [(.int (1 : Int32)), (.int (3 : Int32)), (.int (Int32.ofNat (own_cnt M 2))), (.ref ar)])) rfl (by rw [hml]; rfl) (argsL := [(.ref ar), (.int (Int32.ofNat (own_cnt M 2))), (.int (3 : Int32)), (.int (1 : Int32))]) (rest := []) (lenOf own_pd1 rfl) rfl (by show 2 * 0 + _ ≤ _; exact Nat.le_of_eq rfl) (hb hby at_144) (fun _ _ => ⟨rfl, e89, (by decide : 1 + 0 ≤ _), (by decide : 8 + 0 ≤ _)⟩)
        dsimp only [Pt.U, Pt.locs, Pt.cells, Pt.slots] at X90 l90 y90 z90 st90 hQ90
        subst l90 y90 z90
        obtain ⟨rfl, N90, Kc90, Vn90⟩ := hQ90
        have NF90 := Fr.app NF89 N90
        refine Wp.via st90 ?_
        show Wp p e below _ (T90.setTop (mkF m 147 #[.val (.int p0), .val (.int p1), .val (.int (Int32.ofNat C)), .val (.int (Int32.ofNat M)), .val (.int (Int32.ofNat (own_cnt M 8))), .val (.ref ar), .val (.int (Int32.ofNat (own_cnt M 2))), .unset, .unset, .unset] [(.int ((Int32.ofNat (own_cnt M 2)) + (1 : Int32)))]))
        have zz90 : n0 ≤ T90.heap.size := Nat.le_trans zh Kc90.1
        refine Wp.via (fun _ k => XS.istore X90.here hx rfl (hb hby at_147) rfl (l' := #[.val (.int p0), .val (.int p1), .val (.int (Int32.ofNat C)), .val (.int (Int32.ofNat M)), .val (.int (Int32.ofNat (own_cnt M 8))), .val (.ref ar), .val (.int ((Int32.ofNat (own_cnt M 2)) + (1 : Int32))), .unset, .unset, .unset]) rfl k) ?_
        show Wp p e below _ (T90.setTop (mkF m 149 #[.val (.int p0), .val (.int p1), .val (.int (Int32.ofNat C)), .val (.int (Int32.ofNat M)), .val (.int (Int32.ofNat (own_cnt M 8))), .val (.ref ar), .val (.int ((Int32.ofNat (own_cnt M 2)) + (1 : Int32))), .unset, .unset, .unset] []))
        have rw91 : ((Int32.ofNat (own_cnt M 2)) + (1 : Int32)) = (Int32.ofNat (own_cnt M 3)) := by rw [own_succ]; simp [own_cnt, hbt]
        rw [rw91]
        show Wp p e below _ (T90.setTop (mkF m 149 #[.val (.int p0), .val (.int p1), .val (.int (Int32.ofNat C)), .val (.int (Int32.ofNat M)), .val (.int (Int32.ofNat (own_cnt M 8))), .val (.ref ar), .val (.int (Int32.ofNat (own_cnt M 3))), .unset, .unset, .unset] []))
        exact J1_3 T90 _ _ X90 rfl zz90 NF90 ar gna (Vn90.cong (fun t ht => own_stA M 2 t _ hbt A1))
      ·
        have hbf : M.testBit 2 = false := by simpa using hbt
        have eq3 : own_cnt M 3 = own_cnt M 2 := by simp [own_cnt, hbf]
        refine Wp.via (fun _ k => XS.icmpYes X89.here hx rfl (pc0 := 136) (pc' := 143) rfl (hb hby at_136) rfl (feq (by rw [bv, if_neg hbt]; decide)).2 (by decide) (by decide) k) ?_
        show Wp p e below _ (T89.setTop (mkF m 143 #[.val (.int p0), .val (.int p1), .val (.int (Int32.ofNat C)), .val (.int (Int32.ofNat M)), .val (.int (Int32.ofNat (own_cnt M 8))), .val (.ref ar), .val (.int (Int32.ofNat (own_cnt M 2))), .unset, .unset, .unset] [(.int (3 : Int32)), (.int (Int32.ofNat (own_cnt M 2))), (.ref ar)]))
        refine Wp.via (fun _ k => XS.iconst X89.here hx rfl (hb hby at_143) k) ?_
        show Wp p e below _ (T89.setTop (mkF m 144 #[.val (.int p0), .val (.int p1), .val (.int (Int32.ofNat C)), .val (.int (Int32.ofNat M)), .val (.int (Int32.ofNat (own_cnt M 8))), .val (.ref ar), .val (.int (Int32.ofNat (own_cnt M 2))), .unset, .unset, .unset] [(.int (0 : Int32)), (.int (3 : Int32)), (.int (Int32.ofNat (own_cnt M 2))), (.ref ar)]))
        obtain ⟨_, _, ⟨T92, L92, k92, n92⟩, -, X92, ⟨Lc92, hQ92, l92, y92, z92⟩, st92⟩ := Jvm.LawKit.callS X89 hx (y := (⟨"com/example/inverso/inverso/search/DocumentSetsComplementPinLaw", "put", "([IIIZ)I"⟩ : MethodName)) hown (mvT hZ (hw _ (List.mem_of_getElem? (i := 6) rfl))) (mvT hZ (hw _ (List.mem_of_getElem? (i := 7) rfl))) (mvT hZ (hw _ (List.mem_of_getElem? (i := 3) rfl))) (mvT hZ (hw _ (List.mem_of_getElem? (i := 8) rfl))) (by decide) (backOf (W := 0) (rm2_0 l Z aw hw [] ar (Int32.ofNat (own_cnt M 2)) (3 : Int32)  hh n0 zh ) hZ (hw _ (List.mem_of_getElem? (i := 8) rfl)) (hw _ (List.mem_of_getElem? (i := 3) rfl)) (by decide) (by decide)) (g := (mkF m 144 #[.val (.int p0), .val (.int p1), .val (.int (Int32.ofNat C)), .val (.int (Int32.ofNat M)), .val (.int (Int32.ofNat (own_cnt M 8))), .val (.ref ar), .val (.int (Int32.ofNat (own_cnt M 2))), .unset, .unset, .unset] [(.int (0 : Int32)), (.int (3 : Int32)), (.int (Int32.ofNat (own_cnt M 2))), (.ref ar)])) rfl (by rw [hml]; rfl) (argsL := [(.ref ar), (.int (Int32.ofNat (own_cnt M 2))), (.int (3 : Int32)), (.int (0 : Int32))]) (rest := []) (lenOf own_pd1 rfl) rfl (by show 2 * 0 + _ ≤ _; exact Nat.le_of_eq rfl) (hb hby at_144) (fun _ _ => ⟨rfl, e89, (by decide : 1 + 0 ≤ _), (by decide : 8 + 0 ≤ _)⟩)
        dsimp only [Pt.U, Pt.locs, Pt.cells, Pt.slots] at X92 l92 y92 z92 st92 hQ92
        subst l92 y92 z92
        obtain ⟨rfl, N92, e92⟩ := hQ92
        have NF92 := Fr.app NF89 N92
        refine Wp.via st92 ?_
        show Wp p e below _ (T92.setTop (mkF m 147 #[.val (.int p0), .val (.int p1), .val (.int (Int32.ofNat C)), .val (.int (Int32.ofNat M)), .val (.int (Int32.ofNat (own_cnt M 8))), .val (.ref ar), .val (.int (Int32.ofNat (own_cnt M 2))), .unset, .unset, .unset] [(.int (Int32.ofNat (own_cnt M 2)))]))
        refine Wp.via (fun _ k => XS.istore X92.here hx rfl (hb hby at_147) rfl (l' := #[.val (.int p0), .val (.int p1), .val (.int (Int32.ofNat C)), .val (.int (Int32.ofNat M)), .val (.int (Int32.ofNat (own_cnt M 8))), .val (.ref ar), .val (.int (Int32.ofNat (own_cnt M 2))), .unset, .unset, .unset]) rfl k) ?_
        show Wp p e below _ (T92.setTop (mkF m 149 #[.val (.int p0), .val (.int p1), .val (.int (Int32.ofNat C)), .val (.int (Int32.ofNat M)), .val (.int (Int32.ofNat (own_cnt M 8))), .val (.ref ar), .val (.int (Int32.ofNat (own_cnt M 2))), .unset, .unset, .unset] []))
        have rw93 : (Int32.ofNat (own_cnt M 2)) = (Int32.ofNat (own_cnt M 3)) := by rw [eq3]
        rw [rw93]
        show Wp p e below _ (T92.setTop (mkF m 149 #[.val (.int p0), .val (.int p1), .val (.int (Int32.ofNat C)), .val (.int (Int32.ofNat M)), .val (.int (Int32.ofNat (own_cnt M 8))), .val (.ref ar), .val (.int (Int32.ofNat (own_cnt M 3))), .unset, .unset, .unset] []))
        exact J1_3 T92 _ _ X92 e92 zh NF92 ar gna (Va.cong (fun t ht => by rw [eq3]))
    clear J1_3
    have J1_1 : ∀ (T : State) (hh : Heap) (locs : List Loc) (X : Stand p l e room_1 s m #[(.int p0), (.int p1)] below meth c T locs 1 8) (eT : T.heap = hh) (zh : n0 ≤ hh.size) (NF : Fr n0 locs) (ar : Addr) (gna : n0 ≤ ar) (Va : Av Z hh ar .int (own_cnt M 8) (fun t => if t < own_cnt M 1 then .int (own_A M t) else .int (0 : Int32))), Wp p e below (Gd s (Qo0 Z p0 p1 h0 n0) 16 128) (T.setTop (mkF m 101 #[.val (.int p0), .val (.int p1), .val (.int (Int32.ofNat C)), .val (.int (Int32.ofNat M)), .val (.int (Int32.ofNat (own_cnt M 8))), .val (.ref ar), .val (.int (Int32.ofNat (own_cnt M 1))), .unset, .unset, .unset] [])) := by
      intro T hh locs X eT zh NF ar gna Va
      have bd2 := own_cle M 1
      have bv : f1_0 (Int32.ofNat M) (2 : Int32) = (if M.testBit 1 = true then 1 else 0) := own_bv ⟨M, hM8⟩ ⟨1, by decide⟩
      refine Wp.via (fun _ k => XS.aload X.here hx rfl (hb hby at_101) rfl rfl k) ?_
      show Wp p e below _ (T.setTop (mkF m 103 #[.val (.int p0), .val (.int p1), .val (.int (Int32.ofNat C)), .val (.int (Int32.ofNat M)), .val (.int (Int32.ofNat (own_cnt M 8))), .val (.ref ar), .val (.int (Int32.ofNat (own_cnt M 1))), .unset, .unset, .unset] [(.ref ar)]))
      refine Wp.via (fun _ k => XS.iload X.here hx rfl (hb hby at_103) rfl k) ?_
      show Wp p e below _ (T.setTop (mkF m 105 #[.val (.int p0), .val (.int p1), .val (.int (Int32.ofNat C)), .val (.int (Int32.ofNat M)), .val (.int (Int32.ofNat (own_cnt M 8))), .val (.ref ar), .val (.int (Int32.ofNat (own_cnt M 1))), .unset, .unset, .unset] [(.int (Int32.ofNat (own_cnt M 1))), (.ref ar)]))
      refine Wp.via (fun _ k => XS.iconst X.here hx rfl (hb hby at_105) k) ?_
      show Wp p e below _ (T.setTop (mkF m 106 #[.val (.int p0), .val (.int p1), .val (.int (Int32.ofNat C)), .val (.int (Int32.ofNat M)), .val (.int (Int32.ofNat (own_cnt M 8))), .val (.ref ar), .val (.int (Int32.ofNat (own_cnt M 1))), .unset, .unset, .unset] [(.int (2 : Int32)), (.int (Int32.ofNat (own_cnt M 1))), (.ref ar)]))
      refine Wp.via (fun _ k => XS.iloadN X.here hx rfl (hb hby at_106) rfl k) ?_
      show Wp p e below _ (T.setTop (mkF m 107 #[.val (.int p0), .val (.int p1), .val (.int (Int32.ofNat C)), .val (.int (Int32.ofNat M)), .val (.int (Int32.ofNat (own_cnt M 8))), .val (.ref ar), .val (.int (Int32.ofNat (own_cnt M 1))), .unset, .unset, .unset] [(.int (Int32.ofNat M)), (.int (2 : Int32)), (.int (Int32.ofNat (own_cnt M 1))), (.ref ar)]))
      refine Wp.via (fun _ k => XS.iconst X.here hx rfl (hb hby at_107) k) ?_
      show Wp p e below _ (T.setTop (mkF m 108 #[.val (.int p0), .val (.int p1), .val (.int (Int32.ofNat C)), .val (.int (Int32.ofNat M)), .val (.int (Int32.ofNat (own_cnt M 8))), .val (.ref ar), .val (.int (Int32.ofNat (own_cnt M 1))), .unset, .unset, .unset] [(.int (2 : Int32)), (.int (Int32.ofNat M)), (.int (2 : Int32)), (.int (Int32.ofNat (own_cnt M 1))), (.ref ar)]))
      obtain ⟨_, _, ⟨T94, L94, k94, n94⟩, -, X94, ⟨Lc94, hQ94, l94, y94, z94⟩, st94⟩ := Jvm.LawKit.callS X hx (y := (⟨"com/example/inverso/inverso/search/DocumentSetsComplementPinLaw", "bit", "(II)I"⟩ : MethodName)) hown (mvT hZ (hw _ (List.mem_of_getElem? (i := 1) rfl))) (mvT hZ (hw _ (List.mem_of_getElem? (i := 2) rfl))) (mvT hZ (hw _ (List.mem_of_getElem? (i := 3) rfl))) (mvT hZ (hw _ (List.mem_of_getElem? (i := 4) rfl))) (by decide) (backOf (W := 3) (rm1 l Z aw hw [] (Int32.ofNat M) (2 : Int32)  hh n0 zh ) hZ (hw _ (List.mem_of_getElem? (i := 4) rfl)) (hw _ (List.mem_of_getElem? (i := 3) rfl)) (by decide) (by decide)) (g := (mkF m 108 #[.val (.int p0), .val (.int p1), .val (.int (Int32.ofNat C)), .val (.int (Int32.ofNat M)), .val (.int (Int32.ofNat (own_cnt M 8))), .val (.ref ar), .val (.int (Int32.ofNat (own_cnt M 1))), .unset, .unset, .unset] [(.int (2 : Int32)), (.int (Int32.ofNat M)), (.int (2 : Int32)), (.int (Int32.ofNat (own_cnt M 1))), (.ref ar)])) rfl (by rw [hml]; rfl) (argsL := [(.int (Int32.ofNat M)), (.int (2 : Int32))]) (rest := [(.int (2 : Int32)), (.int (Int32.ofNat (own_cnt M 1))), (.ref ar)]) (lenOf own_pd0 rfl) rfl (by show 2 * 0 + _ ≤ _; exact Nat.le_of_eq rfl) (hb hby at_108) (fun _ _ => ⟨rfl, eT, (by decide : 1 + 0 ≤ _), (by decide : 8 + 0 ≤ _)⟩)
      dsimp only [Pt.U, Pt.locs, Pt.cells, Pt.slots] at X94 l94 y94 z94 st94 hQ94
      subst l94 y94 z94
      obtain ⟨rfl, N94, e94⟩ := hQ94
      have NF94 := Fr.app NF N94
      refine Wp.via st94 ?_
      show Wp p e below _ (T94.setTop (mkF m 111 #[.val (.int p0), .val (.int p1), .val (.int (Int32.ofNat C)), .val (.int (Int32.ofNat M)), .val (.int (Int32.ofNat (own_cnt M 8))), .val (.ref ar), .val (.int (Int32.ofNat (own_cnt M 1))), .unset, .unset, .unset] [(.int (f1_0 (Int32.ofNat M) (2 : Int32))), (.int (2 : Int32)), (.int (Int32.ofNat (own_cnt M 1))), (.ref ar)]))
      refine Wp.via (fun _ k => XS.iconst X94.here hx rfl (hb hby at_111) k) ?_
      show Wp p e below _ (T94.setTop (mkF m 112 #[.val (.int p0), .val (.int p1), .val (.int (Int32.ofNat C)), .val (.int (Int32.ofNat M)), .val (.int (Int32.ofNat (own_cnt M 8))), .val (.ref ar), .val (.int (Int32.ofNat (own_cnt M 1))), .unset, .unset, .unset] [(.int (1 : Int32)), (.int (f1_0 (Int32.ofNat M) (2 : Int32))), (.int (2 : Int32)), (.int (Int32.ofNat (own_cnt M 1))), (.ref ar)]))
      by_cases hbt : M.testBit 1 = true
      ·
        obtain ⟨A1, A2⟩ := own_F1 ⟨M, hM8⟩ ⟨1, by decide⟩ hbt
        dsimp only at A1 A2
        refine Wp.via (fun _ k => XS.icmpNo X94.here hx rfl (hb hby at_112) rfl (teq (by rw [bv, if_pos hbt])).2 k) ?_
        show Wp p e below _ (T94.setTop (mkF m 115 #[.val (.int p0), .val (.int p1), .val (.int (Int32.ofNat C)), .val (.int (Int32.ofNat M)), .val (.int (Int32.ofNat (own_cnt M 8))), .val (.ref ar), .val (.int (Int32.ofNat (own_cnt M 1))), .unset, .unset, .unset] [(.int (2 : Int32)), (.int (Int32.ofNat (own_cnt M 1))), (.ref ar)]))
        refine Wp.via (fun _ k => XS.iconst X94.here hx rfl (hb hby at_115) k) ?_
        show Wp p e below _ (T94.setTop (mkF m 116 #[.val (.int p0), .val (.int p1), .val (.int (Int32.ofNat C)), .val (.int (Int32.ofNat M)), .val (.int (Int32.ofNat (own_cnt M 8))), .val (.ref ar), .val (.int (Int32.ofNat (own_cnt M 1))), .unset, .unset, .unset] [(.int (1 : Int32)), (.int (2 : Int32)), (.int (Int32.ofNat (own_cnt M 1))), (.ref ar)]))
        refine Wp.via (fun _ k => XS.goto X94.here hx rfl (pc0 := 116) (pc' := 120) rfl (hb hby at_116) (by decide) (by decide) k) ?_
        show Wp p e below _ (T94.setTop (mkF m 120 #[.val (.int p0), .val (.int p1), .val (.int (Int32.ofNat C)), .val (.int (Int32.ofNat M)), .val (.int (Int32.ofNat (own_cnt M 8))), .val (.ref ar), .val (.int (Int32.ofNat (own_cnt M 1))), .unset, .unset, .unset] [(.int (1 : Int32)), (.int (2 : Int32)), (.int (Int32.ofNat (own_cnt M 1))), (.ref ar)]))
        obtain ⟨_, _, ⟨T95, L95, k95, n95⟩, -, X95, ⟨Lc95, hQ95, l95, y95, z95⟩, st95⟩ := Jvm.LawKit.callS X94 hx (y := (⟨"com/example/inverso/inverso/search/DocumentSetsComplementPinLaw", "put", "([IIIZ)I"⟩ : MethodName)) hown (mvT hZ (hw _ (List.mem_of_getElem? (i := 6) rfl))) (mvT hZ (hw _ (List.mem_of_getElem? (i := 7) rfl))) (mvT hZ (hw _ (List.mem_of_getElem? (i := 3) rfl))) (mvT hZ (hw _ (List.mem_of_getElem? (i := 8) rfl))) (by decide) (backOf (W := 0) (rm2_1 l Z aw hw [] ar (Int32.ofNat (own_cnt M 1)) (2 : Int32) (own_cnt M 8) (own_cnt M 1) (fun t => if t < own_cnt M 1 then .int (own_A M t) else .int (0 : Int32)) hh n0 zh Va gna (own_pos (by omega)) (own_nat (by omega)) A2) hZ (hw _ (List.mem_of_getElem? (i := 8) rfl)) (hw _ (List.mem_of_getElem? (i := 3) rfl)) (by decide) (by decide)) (g := (mkF m 120 #[.val (.int p0), .val (.int p1), .val (.int (Int32.ofNat C)), .val (.int (Int32.ofNat M)), .val (.int (Int32.ofNat (own_cnt M 8))), .val (.ref ar), .val (.int (Int32.ofNat (own_cnt M 1))), .unset, .unset, .unset] [(.int (1 : Int32)), (.int (2 : Int32)), (.int (Int32.ofNat (own_cnt M 1))), (.ref ar)])) rfl (by rw [hml]; rfl) (argsL := [(.ref ar), (.int (Int32.ofNat (own_cnt M 1))), (.int (2 : Int32)), (.int (1 : Int32))]) (rest := []) (lenOf own_pd1 rfl) rfl (by show 2 * 0 + _ ≤ _; exact Nat.le_of_eq rfl) (hb hby at_120) (fun _ _ => ⟨rfl, e94, (by decide : 1 + 0 ≤ _), (by decide : 8 + 0 ≤ _)⟩)
        dsimp only [Pt.U, Pt.locs, Pt.cells, Pt.slots] at X95 l95 y95 z95 st95 hQ95
        subst l95 y95 z95
        obtain ⟨rfl, N95, Kc95, Vn95⟩ := hQ95
        have NF95 := Fr.app NF94 N95
        refine Wp.via st95 ?_
        show Wp p e below _ (T95.setTop (mkF m 123 #[.val (.int p0), .val (.int p1), .val (.int (Int32.ofNat C)), .val (.int (Int32.ofNat M)), .val (.int (Int32.ofNat (own_cnt M 8))), .val (.ref ar), .val (.int (Int32.ofNat (own_cnt M 1))), .unset, .unset, .unset] [(.int ((Int32.ofNat (own_cnt M 1)) + (1 : Int32)))]))
        have zz95 : n0 ≤ T95.heap.size := Nat.le_trans zh Kc95.1
        refine Wp.via (fun _ k => XS.istore X95.here hx rfl (hb hby at_123) rfl (l' := #[.val (.int p0), .val (.int p1), .val (.int (Int32.ofNat C)), .val (.int (Int32.ofNat M)), .val (.int (Int32.ofNat (own_cnt M 8))), .val (.ref ar), .val (.int ((Int32.ofNat (own_cnt M 1)) + (1 : Int32))), .unset, .unset, .unset]) rfl k) ?_
        show Wp p e below _ (T95.setTop (mkF m 125 #[.val (.int p0), .val (.int p1), .val (.int (Int32.ofNat C)), .val (.int (Int32.ofNat M)), .val (.int (Int32.ofNat (own_cnt M 8))), .val (.ref ar), .val (.int ((Int32.ofNat (own_cnt M 1)) + (1 : Int32))), .unset, .unset, .unset] []))
        have rw96 : ((Int32.ofNat (own_cnt M 1)) + (1 : Int32)) = (Int32.ofNat (own_cnt M 2)) := by rw [own_succ]; simp [own_cnt, hbt]
        rw [rw96]
        show Wp p e below _ (T95.setTop (mkF m 125 #[.val (.int p0), .val (.int p1), .val (.int (Int32.ofNat C)), .val (.int (Int32.ofNat M)), .val (.int (Int32.ofNat (own_cnt M 8))), .val (.ref ar), .val (.int (Int32.ofNat (own_cnt M 2))), .unset, .unset, .unset] []))
        exact J1_2 T95 _ _ X95 rfl zz95 NF95 ar gna (Vn95.cong (fun t ht => own_stA M 1 t _ hbt A1))
      ·
        have hbf : M.testBit 1 = false := by simpa using hbt
        have eq3 : own_cnt M 2 = own_cnt M 1 := by simp [own_cnt, hbf]
        refine Wp.via (fun _ k => XS.icmpYes X94.here hx rfl (pc0 := 112) (pc' := 119) rfl (hb hby at_112) rfl (feq (by rw [bv, if_neg hbt]; decide)).2 (by decide) (by decide) k) ?_
        show Wp p e below _ (T94.setTop (mkF m 119 #[.val (.int p0), .val (.int p1), .val (.int (Int32.ofNat C)), .val (.int (Int32.ofNat M)), .val (.int (Int32.ofNat (own_cnt M 8))), .val (.ref ar), .val (.int (Int32.ofNat (own_cnt M 1))), .unset, .unset, .unset] [(.int (2 : Int32)), (.int (Int32.ofNat (own_cnt M 1))), (.ref ar)]))
        refine Wp.via (fun _ k => XS.iconst X94.here hx rfl (hb hby at_119) k) ?_
        show Wp p e below _ (T94.setTop (mkF m 120 #[.val (.int p0), .val (.int p1), .val (.int (Int32.ofNat C)), .val (.int (Int32.ofNat M)), .val (.int (Int32.ofNat (own_cnt M 8))), .val (.ref ar), .val (.int (Int32.ofNat (own_cnt M 1))), .unset, .unset, .unset] [(.int (0 : Int32)), (.int (2 : Int32)), (.int (Int32.ofNat (own_cnt M 1))), (.ref ar)]))
        obtain ⟨_, _, ⟨T97, L97, k97, n97⟩, -, X97, ⟨Lc97, hQ97, l97, y97, z97⟩, st97⟩ := Jvm.LawKit.callS X94 hx (y := (⟨"com/example/inverso/inverso/search/DocumentSetsComplementPinLaw", "put", "([IIIZ)I"⟩ : MethodName)) hown (mvT hZ (hw _ (List.mem_of_getElem? (i := 6) rfl))) (mvT hZ (hw _ (List.mem_of_getElem? (i := 7) rfl))) (mvT hZ (hw _ (List.mem_of_getElem? (i := 3) rfl))) (mvT hZ (hw _ (List.mem_of_getElem? (i := 8) rfl))) (by decide) (backOf (W := 0) (rm2_0 l Z aw hw [] ar (Int32.ofNat (own_cnt M 1)) (2 : Int32)  hh n0 zh ) hZ (hw _ (List.mem_of_getElem? (i := 8) rfl)) (hw _ (List.mem_of_getElem? (i := 3) rfl)) (by decide) (by decide)) (g := (mkF m 120 #[.val (.int p0), .val (.int p1), .val (.int (Int32.ofNat C)), .val (.int (Int32.ofNat M)), .val (.int (Int32.ofNat (own_cnt M 8))), .val (.ref ar), .val (.int (Int32.ofNat (own_cnt M 1))), .unset, .unset, .unset] [(.int (0 : Int32)), (.int (2 : Int32)), (.int (Int32.ofNat (own_cnt M 1))), (.ref ar)])) rfl (by rw [hml]; rfl) (argsL := [(.ref ar), (.int (Int32.ofNat (own_cnt M 1))), (.int (2 : Int32)), (.int (0 : Int32))]) (rest := []) (lenOf own_pd1 rfl) rfl (by show 2 * 0 + _ ≤ _; exact Nat.le_of_eq rfl) (hb hby at_120) (fun _ _ => ⟨rfl, e94, (by decide : 1 + 0 ≤ _), (by decide : 8 + 0 ≤ _)⟩)
        dsimp only [Pt.U, Pt.locs, Pt.cells, Pt.slots] at X97 l97 y97 z97 st97 hQ97
        subst l97 y97 z97
        obtain ⟨rfl, N97, e97⟩ := hQ97
        have NF97 := Fr.app NF94 N97
        refine Wp.via st97 ?_
        show Wp p e below _ (T97.setTop (mkF m 123 #[.val (.int p0), .val (.int p1), .val (.int (Int32.ofNat C)), .val (.int (Int32.ofNat M)), .val (.int (Int32.ofNat (own_cnt M 8))), .val (.ref ar), .val (.int (Int32.ofNat (own_cnt M 1))), .unset, .unset, .unset] [(.int (Int32.ofNat (own_cnt M 1)))]))
        refine Wp.via (fun _ k => XS.istore X97.here hx rfl (hb hby at_123) rfl (l' := #[.val (.int p0), .val (.int p1), .val (.int (Int32.ofNat C)), .val (.int (Int32.ofNat M)), .val (.int (Int32.ofNat (own_cnt M 8))), .val (.ref ar), .val (.int (Int32.ofNat (own_cnt M 1))), .unset, .unset, .unset]) rfl k) ?_
        show Wp p e below _ (T97.setTop (mkF m 125 #[.val (.int p0), .val (.int p1), .val (.int (Int32.ofNat C)), .val (.int (Int32.ofNat M)), .val (.int (Int32.ofNat (own_cnt M 8))), .val (.ref ar), .val (.int (Int32.ofNat (own_cnt M 1))), .unset, .unset, .unset] []))
        have rw98 : (Int32.ofNat (own_cnt M 1)) = (Int32.ofNat (own_cnt M 2)) := by rw [eq3]
        rw [rw98]
        show Wp p e below _ (T97.setTop (mkF m 125 #[.val (.int p0), .val (.int p1), .val (.int (Int32.ofNat C)), .val (.int (Int32.ofNat M)), .val (.int (Int32.ofNat (own_cnt M 8))), .val (.ref ar), .val (.int (Int32.ofNat (own_cnt M 2))), .unset, .unset, .unset] []))
        exact J1_2 T97 _ _ X97 e97 zh NF97 ar gna (Va.cong (fun t ht => by rw [eq3]))
    clear J1_2
    have J1_0 : ∀ (T : State) (hh : Heap) (locs : List Loc) (X : Stand p l e room_1 s m #[(.int p0), (.int p1)] below meth c T locs 1 8) (eT : T.heap = hh) (zh : n0 ≤ hh.size) (NF : Fr n0 locs) (ar : Addr) (gna : n0 ≤ ar) (Va : Av Z hh ar .int (own_cnt M 8) (fun t => if t < own_cnt M 0 then .int (own_A M t) else .int (0 : Int32))), Wp p e below (Gd s (Qo0 Z p0 p1 h0 n0) 16 128) (T.setTop (mkF m 77 #[.val (.int p0), .val (.int p1), .val (.int (Int32.ofNat C)), .val (.int (Int32.ofNat M)), .val (.int (Int32.ofNat (own_cnt M 8))), .val (.ref ar), .val (.int (Int32.ofNat (own_cnt M 0))), .unset, .unset, .unset] [])) := by
      intro T hh locs X eT zh NF ar gna Va
      have bd2 := own_cle M 0
      have bv : f1_0 (Int32.ofNat M) (1 : Int32) = (if M.testBit 0 = true then 1 else 0) := own_bv ⟨M, hM8⟩ ⟨0, by decide⟩
      refine Wp.via (fun _ k => XS.aload X.here hx rfl (hb hby at_77) rfl rfl k) ?_
      show Wp p e below _ (T.setTop (mkF m 79 #[.val (.int p0), .val (.int p1), .val (.int (Int32.ofNat C)), .val (.int (Int32.ofNat M)), .val (.int (Int32.ofNat (own_cnt M 8))), .val (.ref ar), .val (.int (Int32.ofNat (own_cnt M 0))), .unset, .unset, .unset] [(.ref ar)]))
      refine Wp.via (fun _ k => XS.iload X.here hx rfl (hb hby at_79) rfl k) ?_
      show Wp p e below _ (T.setTop (mkF m 81 #[.val (.int p0), .val (.int p1), .val (.int (Int32.ofNat C)), .val (.int (Int32.ofNat M)), .val (.int (Int32.ofNat (own_cnt M 8))), .val (.ref ar), .val (.int (Int32.ofNat (own_cnt M 0))), .unset, .unset, .unset] [(.int (Int32.ofNat (own_cnt M 0))), (.ref ar)]))
      refine Wp.via (fun _ k => XS.iconst X.here hx rfl (hb hby at_81) k) ?_
      show Wp p e below _ (T.setTop (mkF m 82 #[.val (.int p0), .val (.int p1), .val (.int (Int32.ofNat C)), .val (.int (Int32.ofNat M)), .val (.int (Int32.ofNat (own_cnt M 8))), .val (.ref ar), .val (.int (Int32.ofNat (own_cnt M 0))), .unset, .unset, .unset] [(.int (1 : Int32)), (.int (Int32.ofNat (own_cnt M 0))), (.ref ar)]))
      refine Wp.via (fun _ k => XS.iloadN X.here hx rfl (hb hby at_82) rfl k) ?_
      show Wp p e below _ (T.setTop (mkF m 83 #[.val (.int p0), .val (.int p1), .val (.int (Int32.ofNat C)), .val (.int (Int32.ofNat M)), .val (.int (Int32.ofNat (own_cnt M 8))), .val (.ref ar), .val (.int (Int32.ofNat (own_cnt M 0))), .unset, .unset, .unset] [(.int (Int32.ofNat M)), (.int (1 : Int32)), (.int (Int32.ofNat (own_cnt M 0))), (.ref ar)]))
      refine Wp.via (fun _ k => XS.iconst X.here hx rfl (hb hby at_83) k) ?_
      show Wp p e below _ (T.setTop (mkF m 84 #[.val (.int p0), .val (.int p1), .val (.int (Int32.ofNat C)), .val (.int (Int32.ofNat M)), .val (.int (Int32.ofNat (own_cnt M 8))), .val (.ref ar), .val (.int (Int32.ofNat (own_cnt M 0))), .unset, .unset, .unset] [(.int (1 : Int32)), (.int (Int32.ofNat M)), (.int (1 : Int32)), (.int (Int32.ofNat (own_cnt M 0))), (.ref ar)]))
      obtain ⟨_, _, ⟨T99, L99, k99, n99⟩, -, X99, ⟨Lc99, hQ99, l99, y99, z99⟩, st99⟩ := Jvm.LawKit.callS X hx (y := (⟨"com/example/inverso/inverso/search/DocumentSetsComplementPinLaw", "bit", "(II)I"⟩ : MethodName)) hown (mvT hZ (hw _ (List.mem_of_getElem? (i := 1) rfl))) (mvT hZ (hw _ (List.mem_of_getElem? (i := 2) rfl))) (mvT hZ (hw _ (List.mem_of_getElem? (i := 3) rfl))) (mvT hZ (hw _ (List.mem_of_getElem? (i := 4) rfl))) (by decide) (backOf (W := 3) (rm1 l Z aw hw [] (Int32.ofNat M) (1 : Int32)  hh n0 zh ) hZ (hw _ (List.mem_of_getElem? (i := 4) rfl)) (hw _ (List.mem_of_getElem? (i := 3) rfl)) (by decide) (by decide)) (g := (mkF m 84 #[.val (.int p0), .val (.int p1), .val (.int (Int32.ofNat C)), .val (.int (Int32.ofNat M)), .val (.int (Int32.ofNat (own_cnt M 8))), .val (.ref ar), .val (.int (Int32.ofNat (own_cnt M 0))), .unset, .unset, .unset] [(.int (1 : Int32)), (.int (Int32.ofNat M)), (.int (1 : Int32)), (.int (Int32.ofNat (own_cnt M 0))), (.ref ar)])) rfl (by rw [hml]; rfl) (argsL := [(.int (Int32.ofNat M)), (.int (1 : Int32))]) (rest := [(.int (1 : Int32)), (.int (Int32.ofNat (own_cnt M 0))), (.ref ar)]) (lenOf own_pd0 rfl) rfl (by show 2 * 0 + _ ≤ _; exact Nat.le_of_eq rfl) (hb hby at_84) (fun _ _ => ⟨rfl, eT, (by decide : 1 + 0 ≤ _), (by decide : 8 + 0 ≤ _)⟩)
      dsimp only [Pt.U, Pt.locs, Pt.cells, Pt.slots] at X99 l99 y99 z99 st99 hQ99
      subst l99 y99 z99
      obtain ⟨rfl, N99, e99⟩ := hQ99
      have NF99 := Fr.app NF N99
      refine Wp.via st99 ?_
      show Wp p e below _ (T99.setTop (mkF m 87 #[.val (.int p0), .val (.int p1), .val (.int (Int32.ofNat C)), .val (.int (Int32.ofNat M)), .val (.int (Int32.ofNat (own_cnt M 8))), .val (.ref ar), .val (.int (Int32.ofNat (own_cnt M 0))), .unset, .unset, .unset] [(.int (f1_0 (Int32.ofNat M) (1 : Int32))), (.int (1 : Int32)), (.int (Int32.ofNat (own_cnt M 0))), (.ref ar)]))
      refine Wp.via (fun _ k => XS.iconst X99.here hx rfl (hb hby at_87) k) ?_
      show Wp p e below _ (T99.setTop (mkF m 88 #[.val (.int p0), .val (.int p1), .val (.int (Int32.ofNat C)), .val (.int (Int32.ofNat M)), .val (.int (Int32.ofNat (own_cnt M 8))), .val (.ref ar), .val (.int (Int32.ofNat (own_cnt M 0))), .unset, .unset, .unset] [(.int (1 : Int32)), (.int (f1_0 (Int32.ofNat M) (1 : Int32))), (.int (1 : Int32)), (.int (Int32.ofNat (own_cnt M 0))), (.ref ar)]))
      by_cases hbt : M.testBit 0 = true
      ·
        obtain ⟨A1, A2⟩ := own_F1 ⟨M, hM8⟩ ⟨0, by decide⟩ hbt
        dsimp only at A1 A2
        refine Wp.via (fun _ k => XS.icmpNo X99.here hx rfl (hb hby at_88) rfl (teq (by rw [bv, if_pos hbt])).2 k) ?_
        show Wp p e below _ (T99.setTop (mkF m 91 #[.val (.int p0), .val (.int p1), .val (.int (Int32.ofNat C)), .val (.int (Int32.ofNat M)), .val (.int (Int32.ofNat (own_cnt M 8))), .val (.ref ar), .val (.int (Int32.ofNat (own_cnt M 0))), .unset, .unset, .unset] [(.int (1 : Int32)), (.int (Int32.ofNat (own_cnt M 0))), (.ref ar)]))
        refine Wp.via (fun _ k => XS.iconst X99.here hx rfl (hb hby at_91) k) ?_
        show Wp p e below _ (T99.setTop (mkF m 92 #[.val (.int p0), .val (.int p1), .val (.int (Int32.ofNat C)), .val (.int (Int32.ofNat M)), .val (.int (Int32.ofNat (own_cnt M 8))), .val (.ref ar), .val (.int (Int32.ofNat (own_cnt M 0))), .unset, .unset, .unset] [(.int (1 : Int32)), (.int (1 : Int32)), (.int (Int32.ofNat (own_cnt M 0))), (.ref ar)]))
        refine Wp.via (fun _ k => XS.goto X99.here hx rfl (pc0 := 92) (pc' := 96) rfl (hb hby at_92) (by decide) (by decide) k) ?_
        show Wp p e below _ (T99.setTop (mkF m 96 #[.val (.int p0), .val (.int p1), .val (.int (Int32.ofNat C)), .val (.int (Int32.ofNat M)), .val (.int (Int32.ofNat (own_cnt M 8))), .val (.ref ar), .val (.int (Int32.ofNat (own_cnt M 0))), .unset, .unset, .unset] [(.int (1 : Int32)), (.int (1 : Int32)), (.int (Int32.ofNat (own_cnt M 0))), (.ref ar)]))
        obtain ⟨_, _, ⟨T100, L100, k100, n100⟩, -, X100, ⟨Lc100, hQ100, l100, y100, z100⟩, st100⟩ := Jvm.LawKit.callS X99 hx (y := (⟨"com/example/inverso/inverso/search/DocumentSetsComplementPinLaw", "put", "([IIIZ)I"⟩ : MethodName)) hown (mvT hZ (hw _ (List.mem_of_getElem? (i := 6) rfl))) (mvT hZ (hw _ (List.mem_of_getElem? (i := 7) rfl))) (mvT hZ (hw _ (List.mem_of_getElem? (i := 3) rfl))) (mvT hZ (hw _ (List.mem_of_getElem? (i := 8) rfl))) (by decide) (backOf (W := 0) (rm2_1 l Z aw hw [] ar (Int32.ofNat (own_cnt M 0)) (1 : Int32) (own_cnt M 8) (own_cnt M 0) (fun t => if t < own_cnt M 0 then .int (own_A M t) else .int (0 : Int32)) hh n0 zh Va gna (own_pos (by omega)) (own_nat (by omega)) A2) hZ (hw _ (List.mem_of_getElem? (i := 8) rfl)) (hw _ (List.mem_of_getElem? (i := 3) rfl)) (by decide) (by decide)) (g := (mkF m 96 #[.val (.int p0), .val (.int p1), .val (.int (Int32.ofNat C)), .val (.int (Int32.ofNat M)), .val (.int (Int32.ofNat (own_cnt M 8))), .val (.ref ar), .val (.int (Int32.ofNat (own_cnt M 0))), .unset, .unset, .unset] [(.int (1 : Int32)), (.int (1 : Int32)), (.int (Int32.ofNat (own_cnt M 0))), (.ref ar)])) rfl (by rw [hml]; rfl) (argsL := [(.ref ar), (.int (Int32.ofNat (own_cnt M 0))), (.int (1 : Int32)), (.int (1 : Int32))]) (rest := []) (lenOf own_pd1 rfl) rfl (by show 2 * 0 + _ ≤ _; exact Nat.le_of_eq rfl) (hb hby at_96) (fun _ _ => ⟨rfl, e99, (by decide : 1 + 0 ≤ _), (by decide : 8 + 0 ≤ _)⟩)
        dsimp only [Pt.U, Pt.locs, Pt.cells, Pt.slots] at X100 l100 y100 z100 st100 hQ100
        subst l100 y100 z100
        obtain ⟨rfl, N100, Kc100, Vn100⟩ := hQ100
        have NF100 := Fr.app NF99 N100
        refine Wp.via st100 ?_
        show Wp p e below _ (T100.setTop (mkF m 99 #[.val (.int p0), .val (.int p1), .val (.int (Int32.ofNat C)), .val (.int (Int32.ofNat M)), .val (.int (Int32.ofNat (own_cnt M 8))), .val (.ref ar), .val (.int (Int32.ofNat (own_cnt M 0))), .unset, .unset, .unset] [(.int ((Int32.ofNat (own_cnt M 0)) + (1 : Int32)))]))
        have zz100 : n0 ≤ T100.heap.size := Nat.le_trans zh Kc100.1
        refine Wp.via (fun _ k => XS.istore X100.here hx rfl (hb hby at_99) rfl (l' := #[.val (.int p0), .val (.int p1), .val (.int (Int32.ofNat C)), .val (.int (Int32.ofNat M)), .val (.int (Int32.ofNat (own_cnt M 8))), .val (.ref ar), .val (.int ((Int32.ofNat (own_cnt M 0)) + (1 : Int32))), .unset, .unset, .unset]) rfl k) ?_
        show Wp p e below _ (T100.setTop (mkF m 101 #[.val (.int p0), .val (.int p1), .val (.int (Int32.ofNat C)), .val (.int (Int32.ofNat M)), .val (.int (Int32.ofNat (own_cnt M 8))), .val (.ref ar), .val (.int ((Int32.ofNat (own_cnt M 0)) + (1 : Int32))), .unset, .unset, .unset] []))
        have rw101 : ((Int32.ofNat (own_cnt M 0)) + (1 : Int32)) = (Int32.ofNat (own_cnt M 1)) := by rw [own_succ]; simp [own_cnt, hbt]
        rw [rw101]
        show Wp p e below _ (T100.setTop (mkF m 101 #[.val (.int p0), .val (.int p1), .val (.int (Int32.ofNat C)), .val (.int (Int32.ofNat M)), .val (.int (Int32.ofNat (own_cnt M 8))), .val (.ref ar), .val (.int (Int32.ofNat (own_cnt M 1))), .unset, .unset, .unset] []))
        exact J1_1 T100 _ _ X100 rfl zz100 NF100 ar gna (Vn100.cong (fun t ht => own_stA M 0 t _ hbt A1))
      ·
        have hbf : M.testBit 0 = false := by simpa using hbt
        have eq3 : own_cnt M 1 = own_cnt M 0 := by simp [own_cnt, hbf]
        refine Wp.via (fun _ k => XS.icmpYes X99.here hx rfl (pc0 := 88) (pc' := 95) rfl (hb hby at_88) rfl (feq (by rw [bv, if_neg hbt]; decide)).2 (by decide) (by decide) k) ?_
        show Wp p e below _ (T99.setTop (mkF m 95 #[.val (.int p0), .val (.int p1), .val (.int (Int32.ofNat C)), .val (.int (Int32.ofNat M)), .val (.int (Int32.ofNat (own_cnt M 8))), .val (.ref ar), .val (.int (Int32.ofNat (own_cnt M 0))), .unset, .unset, .unset] [(.int (1 : Int32)), (.int (Int32.ofNat (own_cnt M 0))), (.ref ar)]))
        refine Wp.via (fun _ k => XS.iconst X99.here hx rfl (hb hby at_95) k) ?_
        show Wp p e below _ (T99.setTop (mkF m 96 #[.val (.int p0), .val (.int p1), .val (.int (Int32.ofNat C)), .val (.int (Int32.ofNat M)), .val (.int (Int32.ofNat (own_cnt M 8))), .val (.ref ar), .val (.int (Int32.ofNat (own_cnt M 0))), .unset, .unset, .unset] [(.int (0 : Int32)), (.int (1 : Int32)), (.int (Int32.ofNat (own_cnt M 0))), (.ref ar)]))
        obtain ⟨_, _, ⟨T102, L102, k102, n102⟩, -, X102, ⟨Lc102, hQ102, l102, y102, z102⟩, st102⟩ := Jvm.LawKit.callS X99 hx (y := (⟨"com/example/inverso/inverso/search/DocumentSetsComplementPinLaw", "put", "([IIIZ)I"⟩ : MethodName)) hown (mvT hZ (hw _ (List.mem_of_getElem? (i := 6) rfl))) (mvT hZ (hw _ (List.mem_of_getElem? (i := 7) rfl))) (mvT hZ (hw _ (List.mem_of_getElem? (i := 3) rfl))) (mvT hZ (hw _ (List.mem_of_getElem? (i := 8) rfl))) (by decide) (backOf (W := 0) (rm2_0 l Z aw hw [] ar (Int32.ofNat (own_cnt M 0)) (1 : Int32)  hh n0 zh ) hZ (hw _ (List.mem_of_getElem? (i := 8) rfl)) (hw _ (List.mem_of_getElem? (i := 3) rfl)) (by decide) (by decide)) (g := (mkF m 96 #[.val (.int p0), .val (.int p1), .val (.int (Int32.ofNat C)), .val (.int (Int32.ofNat M)), .val (.int (Int32.ofNat (own_cnt M 8))), .val (.ref ar), .val (.int (Int32.ofNat (own_cnt M 0))), .unset, .unset, .unset] [(.int (0 : Int32)), (.int (1 : Int32)), (.int (Int32.ofNat (own_cnt M 0))), (.ref ar)])) rfl (by rw [hml]; rfl) (argsL := [(.ref ar), (.int (Int32.ofNat (own_cnt M 0))), (.int (1 : Int32)), (.int (0 : Int32))]) (rest := []) (lenOf own_pd1 rfl) rfl (by show 2 * 0 + _ ≤ _; exact Nat.le_of_eq rfl) (hb hby at_96) (fun _ _ => ⟨rfl, e99, (by decide : 1 + 0 ≤ _), (by decide : 8 + 0 ≤ _)⟩)
        dsimp only [Pt.U, Pt.locs, Pt.cells, Pt.slots] at X102 l102 y102 z102 st102 hQ102
        subst l102 y102 z102
        obtain ⟨rfl, N102, e102⟩ := hQ102
        have NF102 := Fr.app NF99 N102
        refine Wp.via st102 ?_
        show Wp p e below _ (T102.setTop (mkF m 99 #[.val (.int p0), .val (.int p1), .val (.int (Int32.ofNat C)), .val (.int (Int32.ofNat M)), .val (.int (Int32.ofNat (own_cnt M 8))), .val (.ref ar), .val (.int (Int32.ofNat (own_cnt M 0))), .unset, .unset, .unset] [(.int (Int32.ofNat (own_cnt M 0)))]))
        refine Wp.via (fun _ k => XS.istore X102.here hx rfl (hb hby at_99) rfl (l' := #[.val (.int p0), .val (.int p1), .val (.int (Int32.ofNat C)), .val (.int (Int32.ofNat M)), .val (.int (Int32.ofNat (own_cnt M 8))), .val (.ref ar), .val (.int (Int32.ofNat (own_cnt M 0))), .unset, .unset, .unset]) rfl k) ?_
        show Wp p e below _ (T102.setTop (mkF m 101 #[.val (.int p0), .val (.int p1), .val (.int (Int32.ofNat C)), .val (.int (Int32.ofNat M)), .val (.int (Int32.ofNat (own_cnt M 8))), .val (.ref ar), .val (.int (Int32.ofNat (own_cnt M 0))), .unset, .unset, .unset] []))
        have rw103 : (Int32.ofNat (own_cnt M 0)) = (Int32.ofNat (own_cnt M 1)) := by rw [eq3]
        rw [rw103]
        show Wp p e below _ (T102.setTop (mkF m 101 #[.val (.int p0), .val (.int p1), .val (.int (Int32.ofNat C)), .val (.int (Int32.ofNat M)), .val (.int (Int32.ofNat (own_cnt M 8))), .val (.ref ar), .val (.int (Int32.ofNat (own_cnt M 1))), .unset, .unset, .unset] []))
        exact J1_1 T102 _ _ X102 e102 zh NF102 ar gna (Va.cong (fun t ht => by rw [eq3]))
    clear J1_1
    refine Wp.via (fun _ k => XS.iloadN X.here hx rfl (hb hby at_16) rfl k) ?_
    show Wp p e below _ (T.setTop (mkF m 17 #[.val (.int p0), .val (.int p1), .val (.int (Int32.ofNat C)), .val (.int (Int32.ofNat M)), .unset, .unset, .unset, .unset, .unset, .unset] [(.int (Int32.ofNat M))]))
    refine Wp.via (fun _ k => XS.iconst X.here hx rfl (hb hby at_17) k) ?_
    show Wp p e below _ (T.setTop (mkF m 18 #[.val (.int p0), .val (.int p1), .val (.int (Int32.ofNat C)), .val (.int (Int32.ofNat M)), .unset, .unset, .unset, .unset, .unset, .unset] [(.int (1 : Int32)), (.int (Int32.ofNat M))]))
    obtain ⟨_, _, ⟨T104, L104, k104, n104⟩, -, X104, ⟨Lc104, hQ104, l104, y104, z104⟩, st104⟩ := Jvm.LawKit.callS X hx (y := (⟨"com/example/inverso/inverso/search/DocumentSetsComplementPinLaw", "bit", "(II)I"⟩ : MethodName)) hown (mvT hZ (hw _ (List.mem_of_getElem? (i := 1) rfl))) (mvT hZ (hw _ (List.mem_of_getElem? (i := 2) rfl))) (mvT hZ (hw _ (List.mem_of_getElem? (i := 3) rfl))) (mvT hZ (hw _ (List.mem_of_getElem? (i := 4) rfl))) (by decide) (backOf (W := 0) (rm1 l Z aw hw [] (Int32.ofNat M) (1 : Int32)  hh n0 zh ) hZ (hw _ (List.mem_of_getElem? (i := 4) rfl)) (hw _ (List.mem_of_getElem? (i := 3) rfl)) (by decide) (by decide)) (g := (mkF m 18 #[.val (.int p0), .val (.int p1), .val (.int (Int32.ofNat C)), .val (.int (Int32.ofNat M)), .unset, .unset, .unset, .unset, .unset, .unset] [(.int (1 : Int32)), (.int (Int32.ofNat M))])) rfl (by rw [hml]; rfl) (argsL := [(.int (Int32.ofNat M)), (.int (1 : Int32))]) (rest := []) (lenOf own_pd0 rfl) rfl (by show 2 * 0 + _ ≤ _; exact Nat.le_of_eq rfl) (hb hby at_18) (fun _ _ => ⟨rfl, eT, (by decide : 0 + 0 ≤ _), (by decide : 0 + 0 ≤ _)⟩)
    dsimp only [Pt.U, Pt.locs, Pt.cells, Pt.slots] at X104 l104 y104 z104 st104 hQ104
    subst l104 y104 z104
    obtain ⟨rfl, N104, e104⟩ := hQ104
    have NF104 := Fr.app NF N104
    refine Wp.via st104 ?_
    show Wp p e below _ (T104.setTop (mkF m 21 #[.val (.int p0), .val (.int p1), .val (.int (Int32.ofNat C)), .val (.int (Int32.ofNat M)), .unset, .unset, .unset, .unset, .unset, .unset] [(.int (f1_0 (Int32.ofNat M) (1 : Int32)))]))
    refine Wp.via (fun _ k => XS.iloadN X104.here hx rfl (hb hby at_21) rfl k) ?_
    show Wp p e below _ (T104.setTop (mkF m 22 #[.val (.int p0), .val (.int p1), .val (.int (Int32.ofNat C)), .val (.int (Int32.ofNat M)), .unset, .unset, .unset, .unset, .unset, .unset] [(.int (Int32.ofNat M)), (.int (f1_0 (Int32.ofNat M) (1 : Int32)))]))
    refine Wp.via (fun _ k => XS.iconst X104.here hx rfl (hb hby at_22) k) ?_
    show Wp p e below _ (T104.setTop (mkF m 23 #[.val (.int p0), .val (.int p1), .val (.int (Int32.ofNat C)), .val (.int (Int32.ofNat M)), .unset, .unset, .unset, .unset, .unset, .unset] [(.int (2 : Int32)), (.int (Int32.ofNat M)), (.int (f1_0 (Int32.ofNat M) (1 : Int32)))]))
    obtain ⟨_, _, ⟨T105, L105, k105, n105⟩, -, X105, ⟨Lc105, hQ105, l105, y105, z105⟩, st105⟩ := Jvm.LawKit.callS X104 hx (y := (⟨"com/example/inverso/inverso/search/DocumentSetsComplementPinLaw", "bit", "(II)I"⟩ : MethodName)) hown (mvT hZ (hw _ (List.mem_of_getElem? (i := 1) rfl))) (mvT hZ (hw _ (List.mem_of_getElem? (i := 2) rfl))) (mvT hZ (hw _ (List.mem_of_getElem? (i := 3) rfl))) (mvT hZ (hw _ (List.mem_of_getElem? (i := 4) rfl))) (by decide) (backOf (W := 1) (rm1 l Z aw hw [] (Int32.ofNat M) (2 : Int32)  hh n0 zh ) hZ (hw _ (List.mem_of_getElem? (i := 4) rfl)) (hw _ (List.mem_of_getElem? (i := 3) rfl)) (by decide) (by decide)) (g := (mkF m 23 #[.val (.int p0), .val (.int p1), .val (.int (Int32.ofNat C)), .val (.int (Int32.ofNat M)), .unset, .unset, .unset, .unset, .unset, .unset] [(.int (2 : Int32)), (.int (Int32.ofNat M)), (.int (f1_0 (Int32.ofNat M) (1 : Int32)))])) rfl (by rw [hml]; rfl) (argsL := [(.int (Int32.ofNat M)), (.int (2 : Int32))]) (rest := [(.int (f1_0 (Int32.ofNat M) (1 : Int32)))]) (lenOf own_pd0 rfl) rfl (by show 2 * 0 + _ ≤ _; exact Nat.le_of_eq rfl) (hb hby at_23) (fun _ _ => ⟨rfl, e104, (by decide : 0 + 0 ≤ _), (by decide : 0 + 0 ≤ _)⟩)
    dsimp only [Pt.U, Pt.locs, Pt.cells, Pt.slots] at X105 l105 y105 z105 st105 hQ105
    subst l105 y105 z105
    obtain ⟨rfl, N105, e105⟩ := hQ105
    have NF105 := Fr.app NF104 N105
    refine Wp.via st105 ?_
    show Wp p e below _ (T105.setTop (mkF m 26 #[.val (.int p0), .val (.int p1), .val (.int (Int32.ofNat C)), .val (.int (Int32.ofNat M)), .unset, .unset, .unset, .unset, .unset, .unset] [(.int (f1_0 (Int32.ofNat M) (2 : Int32))), (.int (f1_0 (Int32.ofNat M) (1 : Int32)))]))
    refine Wp.via (fun _ k => XS.iadd X105.here hx rfl (hb hby at_26) rfl k) ?_
    show Wp p e below _ (T105.setTop (mkF m 27 #[.val (.int p0), .val (.int p1), .val (.int (Int32.ofNat C)), .val (.int (Int32.ofNat M)), .unset, .unset, .unset, .unset, .unset, .unset] [(.int ((f1_0 (Int32.ofNat M) (1 : Int32)) + (f1_0 (Int32.ofNat M) (2 : Int32))))]))
    refine Wp.via (fun _ k => XS.iloadN X105.here hx rfl (hb hby at_27) rfl k) ?_
    show Wp p e below _ (T105.setTop (mkF m 28 #[.val (.int p0), .val (.int p1), .val (.int (Int32.ofNat C)), .val (.int (Int32.ofNat M)), .unset, .unset, .unset, .unset, .unset, .unset] [(.int (Int32.ofNat M)), (.int ((f1_0 (Int32.ofNat M) (1 : Int32)) + (f1_0 (Int32.ofNat M) (2 : Int32))))]))
    refine Wp.via (fun _ k => XS.iconst X105.here hx rfl (hb hby at_28) k) ?_
    show Wp p e below _ (T105.setTop (mkF m 29 #[.val (.int p0), .val (.int p1), .val (.int (Int32.ofNat C)), .val (.int (Int32.ofNat M)), .unset, .unset, .unset, .unset, .unset, .unset] [(.int (3 : Int32)), (.int (Int32.ofNat M)), (.int ((f1_0 (Int32.ofNat M) (1 : Int32)) + (f1_0 (Int32.ofNat M) (2 : Int32))))]))
    obtain ⟨_, _, ⟨T106, L106, k106, n106⟩, -, X106, ⟨Lc106, hQ106, l106, y106, z106⟩, st106⟩ := Jvm.LawKit.callS X105 hx (y := (⟨"com/example/inverso/inverso/search/DocumentSetsComplementPinLaw", "bit", "(II)I"⟩ : MethodName)) hown (mvT hZ (hw _ (List.mem_of_getElem? (i := 1) rfl))) (mvT hZ (hw _ (List.mem_of_getElem? (i := 2) rfl))) (mvT hZ (hw _ (List.mem_of_getElem? (i := 3) rfl))) (mvT hZ (hw _ (List.mem_of_getElem? (i := 4) rfl))) (by decide) (backOf (W := 1) (rm1 l Z aw hw [] (Int32.ofNat M) (3 : Int32)  hh n0 zh ) hZ (hw _ (List.mem_of_getElem? (i := 4) rfl)) (hw _ (List.mem_of_getElem? (i := 3) rfl)) (by decide) (by decide)) (g := (mkF m 29 #[.val (.int p0), .val (.int p1), .val (.int (Int32.ofNat C)), .val (.int (Int32.ofNat M)), .unset, .unset, .unset, .unset, .unset, .unset] [(.int (3 : Int32)), (.int (Int32.ofNat M)), (.int ((f1_0 (Int32.ofNat M) (1 : Int32)) + (f1_0 (Int32.ofNat M) (2 : Int32))))])) rfl (by rw [hml]; rfl) (argsL := [(.int (Int32.ofNat M)), (.int (3 : Int32))]) (rest := [(.int ((f1_0 (Int32.ofNat M) (1 : Int32)) + (f1_0 (Int32.ofNat M) (2 : Int32))))]) (lenOf own_pd0 rfl) rfl (by show 2 * 0 + _ ≤ _; exact Nat.le_of_eq rfl) (hb hby at_29) (fun _ _ => ⟨rfl, e105, (by decide : 0 + 0 ≤ _), (by decide : 0 + 0 ≤ _)⟩)
    dsimp only [Pt.U, Pt.locs, Pt.cells, Pt.slots] at X106 l106 y106 z106 st106 hQ106
    subst l106 y106 z106
    obtain ⟨rfl, N106, e106⟩ := hQ106
    have NF106 := Fr.app NF105 N106
    refine Wp.via st106 ?_
    show Wp p e below _ (T106.setTop (mkF m 32 #[.val (.int p0), .val (.int p1), .val (.int (Int32.ofNat C)), .val (.int (Int32.ofNat M)), .unset, .unset, .unset, .unset, .unset, .unset] [(.int (f1_0 (Int32.ofNat M) (3 : Int32))), (.int ((f1_0 (Int32.ofNat M) (1 : Int32)) + (f1_0 (Int32.ofNat M) (2 : Int32))))]))
    refine Wp.via (fun _ k => XS.iadd X106.here hx rfl (hb hby at_32) rfl k) ?_
    show Wp p e below _ (T106.setTop (mkF m 33 #[.val (.int p0), .val (.int p1), .val (.int (Int32.ofNat C)), .val (.int (Int32.ofNat M)), .unset, .unset, .unset, .unset, .unset, .unset] [(.int (((f1_0 (Int32.ofNat M) (1 : Int32)) + (f1_0 (Int32.ofNat M) (2 : Int32))) + (f1_0 (Int32.ofNat M) (3 : Int32))))]))
    refine Wp.via (fun _ k => XS.iloadN X106.here hx rfl (hb hby at_33) rfl k) ?_
    show Wp p e below _ (T106.setTop (mkF m 34 #[.val (.int p0), .val (.int p1), .val (.int (Int32.ofNat C)), .val (.int (Int32.ofNat M)), .unset, .unset, .unset, .unset, .unset, .unset] [(.int (Int32.ofNat M)), (.int (((f1_0 (Int32.ofNat M) (1 : Int32)) + (f1_0 (Int32.ofNat M) (2 : Int32))) + (f1_0 (Int32.ofNat M) (3 : Int32))))]))
    refine Wp.via (fun _ k => XS.iconst X106.here hx rfl (hb hby at_34) k) ?_
    show Wp p e below _ (T106.setTop (mkF m 35 #[.val (.int p0), .val (.int p1), .val (.int (Int32.ofNat C)), .val (.int (Int32.ofNat M)), .unset, .unset, .unset, .unset, .unset, .unset] [(.int (4 : Int32)), (.int (Int32.ofNat M)), (.int (((f1_0 (Int32.ofNat M) (1 : Int32)) + (f1_0 (Int32.ofNat M) (2 : Int32))) + (f1_0 (Int32.ofNat M) (3 : Int32))))]))
    obtain ⟨_, _, ⟨T107, L107, k107, n107⟩, -, X107, ⟨Lc107, hQ107, l107, y107, z107⟩, st107⟩ := Jvm.LawKit.callS X106 hx (y := (⟨"com/example/inverso/inverso/search/DocumentSetsComplementPinLaw", "bit", "(II)I"⟩ : MethodName)) hown (mvT hZ (hw _ (List.mem_of_getElem? (i := 1) rfl))) (mvT hZ (hw _ (List.mem_of_getElem? (i := 2) rfl))) (mvT hZ (hw _ (List.mem_of_getElem? (i := 3) rfl))) (mvT hZ (hw _ (List.mem_of_getElem? (i := 4) rfl))) (by decide) (backOf (W := 1) (rm1 l Z aw hw [] (Int32.ofNat M) (4 : Int32)  hh n0 zh ) hZ (hw _ (List.mem_of_getElem? (i := 4) rfl)) (hw _ (List.mem_of_getElem? (i := 3) rfl)) (by decide) (by decide)) (g := (mkF m 35 #[.val (.int p0), .val (.int p1), .val (.int (Int32.ofNat C)), .val (.int (Int32.ofNat M)), .unset, .unset, .unset, .unset, .unset, .unset] [(.int (4 : Int32)), (.int (Int32.ofNat M)), (.int (((f1_0 (Int32.ofNat M) (1 : Int32)) + (f1_0 (Int32.ofNat M) (2 : Int32))) + (f1_0 (Int32.ofNat M) (3 : Int32))))])) rfl (by rw [hml]; rfl) (argsL := [(.int (Int32.ofNat M)), (.int (4 : Int32))]) (rest := [(.int (((f1_0 (Int32.ofNat M) (1 : Int32)) + (f1_0 (Int32.ofNat M) (2 : Int32))) + (f1_0 (Int32.ofNat M) (3 : Int32))))]) (lenOf own_pd0 rfl) rfl (by show 2 * 0 + _ ≤ _; exact Nat.le_of_eq rfl) (hb hby at_35) (fun _ _ => ⟨rfl, e106, (by decide : 0 + 0 ≤ _), (by decide : 0 + 0 ≤ _)⟩)
    dsimp only [Pt.U, Pt.locs, Pt.cells, Pt.slots] at X107 l107 y107 z107 st107 hQ107
    subst l107 y107 z107
    obtain ⟨rfl, N107, e107⟩ := hQ107
    have NF107 := Fr.app NF106 N107
    refine Wp.via st107 ?_
    show Wp p e below _ (T107.setTop (mkF m 38 #[.val (.int p0), .val (.int p1), .val (.int (Int32.ofNat C)), .val (.int (Int32.ofNat M)), .unset, .unset, .unset, .unset, .unset, .unset] [(.int (f1_0 (Int32.ofNat M) (4 : Int32))), (.int (((f1_0 (Int32.ofNat M) (1 : Int32)) + (f1_0 (Int32.ofNat M) (2 : Int32))) + (f1_0 (Int32.ofNat M) (3 : Int32))))]))
    refine Wp.via (fun _ k => XS.iadd X107.here hx rfl (hb hby at_38) rfl k) ?_
    show Wp p e below _ (T107.setTop (mkF m 39 #[.val (.int p0), .val (.int p1), .val (.int (Int32.ofNat C)), .val (.int (Int32.ofNat M)), .unset, .unset, .unset, .unset, .unset, .unset] [(.int ((((f1_0 (Int32.ofNat M) (1 : Int32)) + (f1_0 (Int32.ofNat M) (2 : Int32))) + (f1_0 (Int32.ofNat M) (3 : Int32))) + (f1_0 (Int32.ofNat M) (4 : Int32))))]))
    refine Wp.via (fun _ k => XS.iloadN X107.here hx rfl (hb hby at_39) rfl k) ?_
    show Wp p e below _ (T107.setTop (mkF m 40 #[.val (.int p0), .val (.int p1), .val (.int (Int32.ofNat C)), .val (.int (Int32.ofNat M)), .unset, .unset, .unset, .unset, .unset, .unset] [(.int (Int32.ofNat M)), (.int ((((f1_0 (Int32.ofNat M) (1 : Int32)) + (f1_0 (Int32.ofNat M) (2 : Int32))) + (f1_0 (Int32.ofNat M) (3 : Int32))) + (f1_0 (Int32.ofNat M) (4 : Int32))))]))
    refine Wp.via (fun _ k => XS.iconst X107.here hx rfl (hb hby at_40) k) ?_
    show Wp p e below _ (T107.setTop (mkF m 41 #[.val (.int p0), .val (.int p1), .val (.int (Int32.ofNat C)), .val (.int (Int32.ofNat M)), .unset, .unset, .unset, .unset, .unset, .unset] [(.int (5 : Int32)), (.int (Int32.ofNat M)), (.int ((((f1_0 (Int32.ofNat M) (1 : Int32)) + (f1_0 (Int32.ofNat M) (2 : Int32))) + (f1_0 (Int32.ofNat M) (3 : Int32))) + (f1_0 (Int32.ofNat M) (4 : Int32))))]))
    obtain ⟨_, _, ⟨T108, L108, k108, n108⟩, -, X108, ⟨Lc108, hQ108, l108, y108, z108⟩, st108⟩ := Jvm.LawKit.callS X107 hx (y := (⟨"com/example/inverso/inverso/search/DocumentSetsComplementPinLaw", "bit", "(II)I"⟩ : MethodName)) hown (mvT hZ (hw _ (List.mem_of_getElem? (i := 1) rfl))) (mvT hZ (hw _ (List.mem_of_getElem? (i := 2) rfl))) (mvT hZ (hw _ (List.mem_of_getElem? (i := 3) rfl))) (mvT hZ (hw _ (List.mem_of_getElem? (i := 4) rfl))) (by decide) (backOf (W := 1) (rm1 l Z aw hw [] (Int32.ofNat M) (5 : Int32)  hh n0 zh ) hZ (hw _ (List.mem_of_getElem? (i := 4) rfl)) (hw _ (List.mem_of_getElem? (i := 3) rfl)) (by decide) (by decide)) (g := (mkF m 41 #[.val (.int p0), .val (.int p1), .val (.int (Int32.ofNat C)), .val (.int (Int32.ofNat M)), .unset, .unset, .unset, .unset, .unset, .unset] [(.int (5 : Int32)), (.int (Int32.ofNat M)), (.int ((((f1_0 (Int32.ofNat M) (1 : Int32)) + (f1_0 (Int32.ofNat M) (2 : Int32))) + (f1_0 (Int32.ofNat M) (3 : Int32))) + (f1_0 (Int32.ofNat M) (4 : Int32))))])) rfl (by rw [hml]; rfl) (argsL := [(.int (Int32.ofNat M)), (.int (5 : Int32))]) (rest := [(.int ((((f1_0 (Int32.ofNat M) (1 : Int32)) + (f1_0 (Int32.ofNat M) (2 : Int32))) + (f1_0 (Int32.ofNat M) (3 : Int32))) + (f1_0 (Int32.ofNat M) (4 : Int32))))]) (lenOf own_pd0 rfl) rfl (by show 2 * 0 + _ ≤ _; exact Nat.le_of_eq rfl) (hb hby at_41) (fun _ _ => ⟨rfl, e107, (by decide : 0 + 0 ≤ _), (by decide : 0 + 0 ≤ _)⟩)
    dsimp only [Pt.U, Pt.locs, Pt.cells, Pt.slots] at X108 l108 y108 z108 st108 hQ108
    subst l108 y108 z108
    obtain ⟨rfl, N108, e108⟩ := hQ108
    have NF108 := Fr.app NF107 N108
    refine Wp.via st108 ?_
    show Wp p e below _ (T108.setTop (mkF m 44 #[.val (.int p0), .val (.int p1), .val (.int (Int32.ofNat C)), .val (.int (Int32.ofNat M)), .unset, .unset, .unset, .unset, .unset, .unset] [(.int (f1_0 (Int32.ofNat M) (5 : Int32))), (.int ((((f1_0 (Int32.ofNat M) (1 : Int32)) + (f1_0 (Int32.ofNat M) (2 : Int32))) + (f1_0 (Int32.ofNat M) (3 : Int32))) + (f1_0 (Int32.ofNat M) (4 : Int32))))]))
    refine Wp.via (fun _ k => XS.iadd X108.here hx rfl (hb hby at_44) rfl k) ?_
    show Wp p e below _ (T108.setTop (mkF m 45 #[.val (.int p0), .val (.int p1), .val (.int (Int32.ofNat C)), .val (.int (Int32.ofNat M)), .unset, .unset, .unset, .unset, .unset, .unset] [(.int (((((f1_0 (Int32.ofNat M) (1 : Int32)) + (f1_0 (Int32.ofNat M) (2 : Int32))) + (f1_0 (Int32.ofNat M) (3 : Int32))) + (f1_0 (Int32.ofNat M) (4 : Int32))) + (f1_0 (Int32.ofNat M) (5 : Int32))))]))
    refine Wp.via (fun _ k => XS.iloadN X108.here hx rfl (hb hby at_45) rfl k) ?_
    show Wp p e below _ (T108.setTop (mkF m 46 #[.val (.int p0), .val (.int p1), .val (.int (Int32.ofNat C)), .val (.int (Int32.ofNat M)), .unset, .unset, .unset, .unset, .unset, .unset] [(.int (Int32.ofNat M)), (.int (((((f1_0 (Int32.ofNat M) (1 : Int32)) + (f1_0 (Int32.ofNat M) (2 : Int32))) + (f1_0 (Int32.ofNat M) (3 : Int32))) + (f1_0 (Int32.ofNat M) (4 : Int32))) + (f1_0 (Int32.ofNat M) (5 : Int32))))]))
    refine Wp.via (fun _ k => XS.bipush X108.here hx rfl (hb hby at_46) k) ?_
    show Wp p e below _ (T108.setTop (mkF m 48 #[.val (.int p0), .val (.int p1), .val (.int (Int32.ofNat C)), .val (.int (Int32.ofNat M)), .unset, .unset, .unset, .unset, .unset, .unset] [(.int (6 : Int32)), (.int (Int32.ofNat M)), (.int (((((f1_0 (Int32.ofNat M) (1 : Int32)) + (f1_0 (Int32.ofNat M) (2 : Int32))) + (f1_0 (Int32.ofNat M) (3 : Int32))) + (f1_0 (Int32.ofNat M) (4 : Int32))) + (f1_0 (Int32.ofNat M) (5 : Int32))))]))
    obtain ⟨_, _, ⟨T109, L109, k109, n109⟩, -, X109, ⟨Lc109, hQ109, l109, y109, z109⟩, st109⟩ := Jvm.LawKit.callS X108 hx (y := (⟨"com/example/inverso/inverso/search/DocumentSetsComplementPinLaw", "bit", "(II)I"⟩ : MethodName)) hown (mvT hZ (hw _ (List.mem_of_getElem? (i := 1) rfl))) (mvT hZ (hw _ (List.mem_of_getElem? (i := 2) rfl))) (mvT hZ (hw _ (List.mem_of_getElem? (i := 3) rfl))) (mvT hZ (hw _ (List.mem_of_getElem? (i := 4) rfl))) (by decide) (backOf (W := 1) (rm1 l Z aw hw [] (Int32.ofNat M) (6 : Int32)  hh n0 zh ) hZ (hw _ (List.mem_of_getElem? (i := 4) rfl)) (hw _ (List.mem_of_getElem? (i := 3) rfl)) (by decide) (by decide)) (g := (mkF m 48 #[.val (.int p0), .val (.int p1), .val (.int (Int32.ofNat C)), .val (.int (Int32.ofNat M)), .unset, .unset, .unset, .unset, .unset, .unset] [(.int (6 : Int32)), (.int (Int32.ofNat M)), (.int (((((f1_0 (Int32.ofNat M) (1 : Int32)) + (f1_0 (Int32.ofNat M) (2 : Int32))) + (f1_0 (Int32.ofNat M) (3 : Int32))) + (f1_0 (Int32.ofNat M) (4 : Int32))) + (f1_0 (Int32.ofNat M) (5 : Int32))))])) rfl (by rw [hml]; rfl) (argsL := [(.int (Int32.ofNat M)), (.int (6 : Int32))]) (rest := [(.int (((((f1_0 (Int32.ofNat M) (1 : Int32)) + (f1_0 (Int32.ofNat M) (2 : Int32))) + (f1_0 (Int32.ofNat M) (3 : Int32))) + (f1_0 (Int32.ofNat M) (4 : Int32))) + (f1_0 (Int32.ofNat M) (5 : Int32))))]) (lenOf own_pd0 rfl) rfl (by show 2 * 0 + _ ≤ _; exact Nat.le_of_eq rfl) (hb hby at_48) (fun _ _ => ⟨rfl, e108, (by decide : 0 + 0 ≤ _), (by decide : 0 + 0 ≤ _)⟩)
    dsimp only [Pt.U, Pt.locs, Pt.cells, Pt.slots] at X109 l109 y109 z109 st109 hQ109
    subst l109 y109 z109
    obtain ⟨rfl, N109, e109⟩ := hQ109
    have NF109 := Fr.app NF108 N109
    refine Wp.via st109 ?_
    show Wp p e below _ (T109.setTop (mkF m 51 #[.val (.int p0), .val (.int p1), .val (.int (Int32.ofNat C)), .val (.int (Int32.ofNat M)), .unset, .unset, .unset, .unset, .unset, .unset] [(.int (f1_0 (Int32.ofNat M) (6 : Int32))), (.int (((((f1_0 (Int32.ofNat M) (1 : Int32)) + (f1_0 (Int32.ofNat M) (2 : Int32))) + (f1_0 (Int32.ofNat M) (3 : Int32))) + (f1_0 (Int32.ofNat M) (4 : Int32))) + (f1_0 (Int32.ofNat M) (5 : Int32))))]))
    refine Wp.via (fun _ k => XS.iadd X109.here hx rfl (hb hby at_51) rfl k) ?_
    show Wp p e below _ (T109.setTop (mkF m 52 #[.val (.int p0), .val (.int p1), .val (.int (Int32.ofNat C)), .val (.int (Int32.ofNat M)), .unset, .unset, .unset, .unset, .unset, .unset] [(.int ((((((f1_0 (Int32.ofNat M) (1 : Int32)) + (f1_0 (Int32.ofNat M) (2 : Int32))) + (f1_0 (Int32.ofNat M) (3 : Int32))) + (f1_0 (Int32.ofNat M) (4 : Int32))) + (f1_0 (Int32.ofNat M) (5 : Int32))) + (f1_0 (Int32.ofNat M) (6 : Int32))))]))
    refine Wp.via (fun _ k => XS.iloadN X109.here hx rfl (hb hby at_52) rfl k) ?_
    show Wp p e below _ (T109.setTop (mkF m 53 #[.val (.int p0), .val (.int p1), .val (.int (Int32.ofNat C)), .val (.int (Int32.ofNat M)), .unset, .unset, .unset, .unset, .unset, .unset] [(.int (Int32.ofNat M)), (.int ((((((f1_0 (Int32.ofNat M) (1 : Int32)) + (f1_0 (Int32.ofNat M) (2 : Int32))) + (f1_0 (Int32.ofNat M) (3 : Int32))) + (f1_0 (Int32.ofNat M) (4 : Int32))) + (f1_0 (Int32.ofNat M) (5 : Int32))) + (f1_0 (Int32.ofNat M) (6 : Int32))))]))
    refine Wp.via (fun _ k => XS.bipush X109.here hx rfl (hb hby at_53) k) ?_
    show Wp p e below _ (T109.setTop (mkF m 55 #[.val (.int p0), .val (.int p1), .val (.int (Int32.ofNat C)), .val (.int (Int32.ofNat M)), .unset, .unset, .unset, .unset, .unset, .unset] [(.int (7 : Int32)), (.int (Int32.ofNat M)), (.int ((((((f1_0 (Int32.ofNat M) (1 : Int32)) + (f1_0 (Int32.ofNat M) (2 : Int32))) + (f1_0 (Int32.ofNat M) (3 : Int32))) + (f1_0 (Int32.ofNat M) (4 : Int32))) + (f1_0 (Int32.ofNat M) (5 : Int32))) + (f1_0 (Int32.ofNat M) (6 : Int32))))]))
    obtain ⟨_, _, ⟨T110, L110, k110, n110⟩, -, X110, ⟨Lc110, hQ110, l110, y110, z110⟩, st110⟩ := Jvm.LawKit.callS X109 hx (y := (⟨"com/example/inverso/inverso/search/DocumentSetsComplementPinLaw", "bit", "(II)I"⟩ : MethodName)) hown (mvT hZ (hw _ (List.mem_of_getElem? (i := 1) rfl))) (mvT hZ (hw _ (List.mem_of_getElem? (i := 2) rfl))) (mvT hZ (hw _ (List.mem_of_getElem? (i := 3) rfl))) (mvT hZ (hw _ (List.mem_of_getElem? (i := 4) rfl))) (by decide) (backOf (W := 1) (rm1 l Z aw hw [] (Int32.ofNat M) (7 : Int32)  hh n0 zh ) hZ (hw _ (List.mem_of_getElem? (i := 4) rfl)) (hw _ (List.mem_of_getElem? (i := 3) rfl)) (by decide) (by decide)) (g := (mkF m 55 #[.val (.int p0), .val (.int p1), .val (.int (Int32.ofNat C)), .val (.int (Int32.ofNat M)), .unset, .unset, .unset, .unset, .unset, .unset] [(.int (7 : Int32)), (.int (Int32.ofNat M)), (.int ((((((f1_0 (Int32.ofNat M) (1 : Int32)) + (f1_0 (Int32.ofNat M) (2 : Int32))) + (f1_0 (Int32.ofNat M) (3 : Int32))) + (f1_0 (Int32.ofNat M) (4 : Int32))) + (f1_0 (Int32.ofNat M) (5 : Int32))) + (f1_0 (Int32.ofNat M) (6 : Int32))))])) rfl (by rw [hml]; rfl) (argsL := [(.int (Int32.ofNat M)), (.int (7 : Int32))]) (rest := [(.int ((((((f1_0 (Int32.ofNat M) (1 : Int32)) + (f1_0 (Int32.ofNat M) (2 : Int32))) + (f1_0 (Int32.ofNat M) (3 : Int32))) + (f1_0 (Int32.ofNat M) (4 : Int32))) + (f1_0 (Int32.ofNat M) (5 : Int32))) + (f1_0 (Int32.ofNat M) (6 : Int32))))]) (lenOf own_pd0 rfl) rfl (by show 2 * 0 + _ ≤ _; exact Nat.le_of_eq rfl) (hb hby at_55) (fun _ _ => ⟨rfl, e109, (by decide : 0 + 0 ≤ _), (by decide : 0 + 0 ≤ _)⟩)
    dsimp only [Pt.U, Pt.locs, Pt.cells, Pt.slots] at X110 l110 y110 z110 st110 hQ110
    subst l110 y110 z110
    obtain ⟨rfl, N110, e110⟩ := hQ110
    have NF110 := Fr.app NF109 N110
    refine Wp.via st110 ?_
    show Wp p e below _ (T110.setTop (mkF m 58 #[.val (.int p0), .val (.int p1), .val (.int (Int32.ofNat C)), .val (.int (Int32.ofNat M)), .unset, .unset, .unset, .unset, .unset, .unset] [(.int (f1_0 (Int32.ofNat M) (7 : Int32))), (.int ((((((f1_0 (Int32.ofNat M) (1 : Int32)) + (f1_0 (Int32.ofNat M) (2 : Int32))) + (f1_0 (Int32.ofNat M) (3 : Int32))) + (f1_0 (Int32.ofNat M) (4 : Int32))) + (f1_0 (Int32.ofNat M) (5 : Int32))) + (f1_0 (Int32.ofNat M) (6 : Int32))))]))
    refine Wp.via (fun _ k => XS.iadd X110.here hx rfl (hb hby at_58) rfl k) ?_
    show Wp p e below _ (T110.setTop (mkF m 59 #[.val (.int p0), .val (.int p1), .val (.int (Int32.ofNat C)), .val (.int (Int32.ofNat M)), .unset, .unset, .unset, .unset, .unset, .unset] [(.int (((((((f1_0 (Int32.ofNat M) (1 : Int32)) + (f1_0 (Int32.ofNat M) (2 : Int32))) + (f1_0 (Int32.ofNat M) (3 : Int32))) + (f1_0 (Int32.ofNat M) (4 : Int32))) + (f1_0 (Int32.ofNat M) (5 : Int32))) + (f1_0 (Int32.ofNat M) (6 : Int32))) + (f1_0 (Int32.ofNat M) (7 : Int32))))]))
    refine Wp.via (fun _ k => XS.iloadN X110.here hx rfl (hb hby at_59) rfl k) ?_
    show Wp p e below _ (T110.setTop (mkF m 60 #[.val (.int p0), .val (.int p1), .val (.int (Int32.ofNat C)), .val (.int (Int32.ofNat M)), .unset, .unset, .unset, .unset, .unset, .unset] [(.int (Int32.ofNat M)), (.int (((((((f1_0 (Int32.ofNat M) (1 : Int32)) + (f1_0 (Int32.ofNat M) (2 : Int32))) + (f1_0 (Int32.ofNat M) (3 : Int32))) + (f1_0 (Int32.ofNat M) (4 : Int32))) + (f1_0 (Int32.ofNat M) (5 : Int32))) + (f1_0 (Int32.ofNat M) (6 : Int32))) + (f1_0 (Int32.ofNat M) (7 : Int32))))]))
    refine Wp.via (fun _ k => XS.bipush X110.here hx rfl (hb hby at_60) k) ?_
    show Wp p e below _ (T110.setTop (mkF m 62 #[.val (.int p0), .val (.int p1), .val (.int (Int32.ofNat C)), .val (.int (Int32.ofNat M)), .unset, .unset, .unset, .unset, .unset, .unset] [(.int (8 : Int32)), (.int (Int32.ofNat M)), (.int (((((((f1_0 (Int32.ofNat M) (1 : Int32)) + (f1_0 (Int32.ofNat M) (2 : Int32))) + (f1_0 (Int32.ofNat M) (3 : Int32))) + (f1_0 (Int32.ofNat M) (4 : Int32))) + (f1_0 (Int32.ofNat M) (5 : Int32))) + (f1_0 (Int32.ofNat M) (6 : Int32))) + (f1_0 (Int32.ofNat M) (7 : Int32))))]))
    obtain ⟨_, _, ⟨T111, L111, k111, n111⟩, -, X111, ⟨Lc111, hQ111, l111, y111, z111⟩, st111⟩ := Jvm.LawKit.callS X110 hx (y := (⟨"com/example/inverso/inverso/search/DocumentSetsComplementPinLaw", "bit", "(II)I"⟩ : MethodName)) hown (mvT hZ (hw _ (List.mem_of_getElem? (i := 1) rfl))) (mvT hZ (hw _ (List.mem_of_getElem? (i := 2) rfl))) (mvT hZ (hw _ (List.mem_of_getElem? (i := 3) rfl))) (mvT hZ (hw _ (List.mem_of_getElem? (i := 4) rfl))) (by decide) (backOf (W := 1) (rm1 l Z aw hw [] (Int32.ofNat M) (8 : Int32)  hh n0 zh ) hZ (hw _ (List.mem_of_getElem? (i := 4) rfl)) (hw _ (List.mem_of_getElem? (i := 3) rfl)) (by decide) (by decide)) (g := (mkF m 62 #[.val (.int p0), .val (.int p1), .val (.int (Int32.ofNat C)), .val (.int (Int32.ofNat M)), .unset, .unset, .unset, .unset, .unset, .unset] [(.int (8 : Int32)), (.int (Int32.ofNat M)), (.int (((((((f1_0 (Int32.ofNat M) (1 : Int32)) + (f1_0 (Int32.ofNat M) (2 : Int32))) + (f1_0 (Int32.ofNat M) (3 : Int32))) + (f1_0 (Int32.ofNat M) (4 : Int32))) + (f1_0 (Int32.ofNat M) (5 : Int32))) + (f1_0 (Int32.ofNat M) (6 : Int32))) + (f1_0 (Int32.ofNat M) (7 : Int32))))])) rfl (by rw [hml]; rfl) (argsL := [(.int (Int32.ofNat M)), (.int (8 : Int32))]) (rest := [(.int (((((((f1_0 (Int32.ofNat M) (1 : Int32)) + (f1_0 (Int32.ofNat M) (2 : Int32))) + (f1_0 (Int32.ofNat M) (3 : Int32))) + (f1_0 (Int32.ofNat M) (4 : Int32))) + (f1_0 (Int32.ofNat M) (5 : Int32))) + (f1_0 (Int32.ofNat M) (6 : Int32))) + (f1_0 (Int32.ofNat M) (7 : Int32))))]) (lenOf own_pd0 rfl) rfl (by show 2 * 0 + _ ≤ _; exact Nat.le_of_eq rfl) (hb hby at_62) (fun _ _ => ⟨rfl, e110, (by decide : 0 + 0 ≤ _), (by decide : 0 + 0 ≤ _)⟩)
    dsimp only [Pt.U, Pt.locs, Pt.cells, Pt.slots] at X111 l111 y111 z111 st111 hQ111
    subst l111 y111 z111
    obtain ⟨rfl, N111, e111⟩ := hQ111
    have NF111 := Fr.app NF110 N111
    refine Wp.via st111 ?_
    show Wp p e below _ (T111.setTop (mkF m 65 #[.val (.int p0), .val (.int p1), .val (.int (Int32.ofNat C)), .val (.int (Int32.ofNat M)), .unset, .unset, .unset, .unset, .unset, .unset] [(.int (f1_0 (Int32.ofNat M) (8 : Int32))), (.int (((((((f1_0 (Int32.ofNat M) (1 : Int32)) + (f1_0 (Int32.ofNat M) (2 : Int32))) + (f1_0 (Int32.ofNat M) (3 : Int32))) + (f1_0 (Int32.ofNat M) (4 : Int32))) + (f1_0 (Int32.ofNat M) (5 : Int32))) + (f1_0 (Int32.ofNat M) (6 : Int32))) + (f1_0 (Int32.ofNat M) (7 : Int32))))]))
    refine Wp.via (fun _ k => XS.iadd X111.here hx rfl (hb hby at_65) rfl k) ?_
    show Wp p e below _ (T111.setTop (mkF m 66 #[.val (.int p0), .val (.int p1), .val (.int (Int32.ofNat C)), .val (.int (Int32.ofNat M)), .unset, .unset, .unset, .unset, .unset, .unset] [(.int ((((((((f1_0 (Int32.ofNat M) (1 : Int32)) + (f1_0 (Int32.ofNat M) (2 : Int32))) + (f1_0 (Int32.ofNat M) (3 : Int32))) + (f1_0 (Int32.ofNat M) (4 : Int32))) + (f1_0 (Int32.ofNat M) (5 : Int32))) + (f1_0 (Int32.ofNat M) (6 : Int32))) + (f1_0 (Int32.ofNat M) (7 : Int32))) + (f1_0 (Int32.ofNat M) (8 : Int32))))]))
    refine Wp.via (fun _ k => XS.istore X111.here hx rfl (hb hby at_66) rfl (l' := #[.val (.int p0), .val (.int p1), .val (.int (Int32.ofNat C)), .val (.int (Int32.ofNat M)), .val (.int ((((((((f1_0 (Int32.ofNat M) (1 : Int32)) + (f1_0 (Int32.ofNat M) (2 : Int32))) + (f1_0 (Int32.ofNat M) (3 : Int32))) + (f1_0 (Int32.ofNat M) (4 : Int32))) + (f1_0 (Int32.ofNat M) (5 : Int32))) + (f1_0 (Int32.ofNat M) (6 : Int32))) + (f1_0 (Int32.ofNat M) (7 : Int32))) + (f1_0 (Int32.ofNat M) (8 : Int32)))), .unset, .unset, .unset, .unset, .unset]) rfl k) ?_
    show Wp p e below _ (T111.setTop (mkF m 68 #[.val (.int p0), .val (.int p1), .val (.int (Int32.ofNat C)), .val (.int (Int32.ofNat M)), .val (.int ((((((((f1_0 (Int32.ofNat M) (1 : Int32)) + (f1_0 (Int32.ofNat M) (2 : Int32))) + (f1_0 (Int32.ofNat M) (3 : Int32))) + (f1_0 (Int32.ofNat M) (4 : Int32))) + (f1_0 (Int32.ofNat M) (5 : Int32))) + (f1_0 (Int32.ofNat M) (6 : Int32))) + (f1_0 (Int32.ofNat M) (7 : Int32))) + (f1_0 (Int32.ofNat M) (8 : Int32)))), .unset, .unset, .unset, .unset, .unset] []))
    have rw112 : ((((((((f1_0 (Int32.ofNat M) (1 : Int32)) + (f1_0 (Int32.ofNat M) (2 : Int32))) + (f1_0 (Int32.ofNat M) (3 : Int32))) + (f1_0 (Int32.ofNat M) (4 : Int32))) + (f1_0 (Int32.ofNat M) (5 : Int32))) + (f1_0 (Int32.ofNat M) (6 : Int32))) + (f1_0 (Int32.ofNat M) (7 : Int32))) + (f1_0 (Int32.ofNat M) (8 : Int32))) = (Int32.ofNat (own_cnt M 8)) := own_K ⟨M, hM8⟩
    rw [rw112]
    show Wp p e below _ (T111.setTop (mkF m 68 #[.val (.int p0), .val (.int p1), .val (.int (Int32.ofNat C)), .val (.int (Int32.ofNat M)), .val (.int (Int32.ofNat (own_cnt M 8))), .unset, .unset, .unset, .unset, .unset] []))
    refine Wp.via (fun _ k => XS.iload X111.here hx rfl (hb hby at_68) rfl k) ?_
    show Wp p e below _ (T111.setTop (mkF m 70 #[.val (.int p0), .val (.int p1), .val (.int (Int32.ofNat C)), .val (.int (Int32.ofNat M)), .val (.int (Int32.ofNat (own_cnt M 8))), .unset, .unset, .unset, .unset, .unset] [(.int (Int32.ofNat (own_cnt M 8)))]))
    obtain ⟨T113, h113, kl113, X113, e113, E113, A113, st113⟩ := newP X111 hx hZ (hw _ (List.mem_of_getElem? (i := 5) rfl)) e111 (g := (mkF m 70 #[.val (.int p0), .val (.int p1), .val (.int (Int32.ofNat C)), .val (.int (Int32.ofNat M)), .val (.int (Int32.ofNat (own_cnt M 8))), .unset, .unset, .unset, .unset, .unset] [(.int (Int32.ofNat (own_cnt M 8)))])) rfl (hb hby at_70) rfl (own_pos (by omega)) (cap := 8) (by rw [own_nat (by omega)]; omega) (by decide) (by decide) (by decide)
    obtain ⟨b113, g113⟩ : ∃ z, z = hh.size := ⟨_, rfl⟩
    rw [← g113] at A113 st113
    have gn_b113 : n0 ≤ b113 := Nat.le_trans zh (Nat.le_of_eq g113.symm)
    have sz_b113 : hh.size ≤ b113 := Nat.le_trans (Keep.refl hh []).1 (Nat.le_of_eq g113.symm)
    have V113 : Av Z h113 b113 .int (own_cnt M 8) (fun _ => (.int (0 : Int32))) := Av.new A113 (own_nat (by omega))
    refine Wp.via st113 ?_
    have K113 := (Keep.refl hh []).ext E113
    have zz114 : n0 ≤ h113.size := Nat.le_trans zh E113.1
    show Wp p e below _ (T113.setTop (mkF m 72 #[.val (.int p0), .val (.int p1), .val (.int (Int32.ofNat C)), .val (.int (Int32.ofNat M)), .val (.int (Int32.ofNat (own_cnt M 8))), .unset, .unset, .unset, .unset, .unset] [(.ref b113)]))
    refine Wp.via (fun _ k => XS.astore X113.here hx rfl (hb hby at_72) rfl rfl (l' := #[.val (.int p0), .val (.int p1), .val (.int (Int32.ofNat C)), .val (.int (Int32.ofNat M)), .val (.int (Int32.ofNat (own_cnt M 8))), .val (.ref b113), .unset, .unset, .unset, .unset]) rfl k) ?_
    show Wp p e below _ (T113.setTop (mkF m 74 #[.val (.int p0), .val (.int p1), .val (.int (Int32.ofNat C)), .val (.int (Int32.ofNat M)), .val (.int (Int32.ofNat (own_cnt M 8))), .val (.ref b113), .unset, .unset, .unset, .unset] []))
    refine Wp.via (fun _ k => XS.iconst X113.here hx rfl (hb hby at_74) k) ?_
    show Wp p e below _ (T113.setTop (mkF m 75 #[.val (.int p0), .val (.int p1), .val (.int (Int32.ofNat C)), .val (.int (Int32.ofNat M)), .val (.int (Int32.ofNat (own_cnt M 8))), .val (.ref b113), .unset, .unset, .unset, .unset] [(.int (0 : Int32))]))
    refine Wp.via (fun _ k => XS.istore X113.here hx rfl (hb hby at_75) rfl (l' := #[.val (.int p0), .val (.int p1), .val (.int (Int32.ofNat C)), .val (.int (Int32.ofNat M)), .val (.int (Int32.ofNat (own_cnt M 8))), .val (.ref b113), .val (.int (0 : Int32)), .unset, .unset, .unset]) rfl k) ?_
    show Wp p e below _ (T113.setTop (mkF m 77 #[.val (.int p0), .val (.int p1), .val (.int (Int32.ofNat C)), .val (.int (Int32.ofNat M)), .val (.int (Int32.ofNat (own_cnt M 8))), .val (.ref b113), .val (.int (0 : Int32)), .unset, .unset, .unset] []))
    exact J1_0 T113 _ _ X113 e113 zz114 NF111 b113 gn_b113 (V113.cong (fun t ht => (if_neg (by show ¬ t < 0; omega)).symm))
  refine Wp.via (fun _ k => XS.iloadN X0.here hx rfl (hb hby at_0) rfl k) ?_
  show Wp p e below _ (T0.setTop (mkF m 1 #[.val (.int p0), .val (.int p1), .unset, .unset, .unset, .unset, .unset, .unset, .unset, .unset] [(.int p0)]))
  refine Wp.via (fun _ k => X0.ldcInt hx hown (mvT hZ (hw _ (List.mem_of_getElem? (i := 0) rfl))) (g := (mkF m 1 #[.val (.int p0), .val (.int p1), .unset, .unset, .unset, .unset, .unset, .unset, .unset, .unset] [(.int p0)])) rfl (hb hby at_1) _ k) ?_
  show Wp p e below _ (T0.setTop (mkF m 3 #[.val (.int p0), .val (.int p1), .unset, .unset, .unset, .unset, .unset, .unset, .unset, .unset] [(.int (2147483647 : Int32)), (.int p0)]))
  refine Wp.via (fun _ k => XS.iand X0.here hx rfl (hb hby at_3) rfl k) ?_
  show Wp p e below _ (T0.setTop (mkF m 4 #[.val (.int p0), .val (.int p1), .unset, .unset, .unset, .unset, .unset, .unset, .unset, .unset] [(.int (p0 &&& (2147483647 : Int32)))]))
  refine Wp.via (fun _ k => XS.bipush X0.here hx rfl (hb hby at_4) k) ?_
  show Wp p e below _ (T0.setTop (mkF m 6 #[.val (.int p0), .val (.int p1), .unset, .unset, .unset, .unset, .unset, .unset, .unset, .unset] [(.int (9 : Int32)), (.int (p0 &&& (2147483647 : Int32)))]))
  refine Wp.via (fun _ k => iremM X0 hx rfl (hb hby at_6) rfl (by decide) k) ?_
  show Wp p e below _ (T0.setTop (mkF m 7 #[.val (.int p0), .val (.int p1), .unset, .unset, .unset, .unset, .unset, .unset, .unset, .unset] [(.int ((p0 &&& (2147483647 : Int32)) % (9 : Int32)))]))
  refine Wp.via (fun _ k => XS.istoreN X0.here hx rfl (hb hby at_7) rfl (l' := #[.val (.int p0), .val (.int p1), .val (.int ((p0 &&& (2147483647 : Int32)) % (9 : Int32))), .unset, .unset, .unset, .unset, .unset, .unset, .unset]) rfl k) ?_
  show Wp p e below _ (T0.setTop (mkF m 8 #[.val (.int p0), .val (.int p1), .val (.int ((p0 &&& (2147483647 : Int32)) % (9 : Int32))), .unset, .unset, .unset, .unset, .unset, .unset, .unset] []))
  refine Wp.via (fun _ k => XS.iloadN X0.here hx rfl (hb hby at_8) rfl k) ?_
  show Wp p e below _ (T0.setTop (mkF m 9 #[.val (.int p0), .val (.int p1), .val (.int ((p0 &&& (2147483647 : Int32)) % (9 : Int32))), .unset, .unset, .unset, .unset, .unset, .unset, .unset] [(.int p1)]))
  refine Wp.via (fun _ k => XS.iconst X0.here hx rfl (hb hby at_9) k) ?_
  show Wp p e below _ (T0.setTop (mkF m 10 #[.val (.int p0), .val (.int p1), .val (.int ((p0 &&& (2147483647 : Int32)) % (9 : Int32))), .unset, .unset, .unset, .unset, .unset, .unset, .unset] [(.int (1 : Int32)), (.int p1)]))
  refine Wp.via (fun _ k => XS.iloadN X0.here hx rfl (hb hby at_10) rfl k) ?_
  show Wp p e below _ (T0.setTop (mkF m 11 #[.val (.int p0), .val (.int p1), .val (.int ((p0 &&& (2147483647 : Int32)) % (9 : Int32))), .unset, .unset, .unset, .unset, .unset, .unset, .unset] [(.int ((p0 &&& (2147483647 : Int32)) % (9 : Int32))), (.int (1 : Int32)), (.int p1)]))
  refine Wp.via (fun _ k => XS.ishl X0.here hx rfl (hb hby at_11) rfl k) ?_
  show Wp p e below _ (T0.setTop (mkF m 12 #[.val (.int p0), .val (.int p1), .val (.int ((p0 &&& (2147483647 : Int32)) % (9 : Int32))), .unset, .unset, .unset, .unset, .unset, .unset, .unset] [(.int ((1 : Int32) <<< (((p0 &&& (2147483647 : Int32)) % (9 : Int32)) &&& 31))), (.int p1)]))
  refine Wp.via (fun _ k => XS.iconst X0.here hx rfl (hb hby at_12) k) ?_
  show Wp p e below _ (T0.setTop (mkF m 13 #[.val (.int p0), .val (.int p1), .val (.int ((p0 &&& (2147483647 : Int32)) % (9 : Int32))), .unset, .unset, .unset, .unset, .unset, .unset, .unset] [(.int (1 : Int32)), (.int ((1 : Int32) <<< (((p0 &&& (2147483647 : Int32)) % (9 : Int32)) &&& 31))), (.int p1)]))
  refine Wp.via (fun _ k => XS.isub X0.here hx rfl (hb hby at_13) rfl k) ?_
  show Wp p e below _ (T0.setTop (mkF m 14 #[.val (.int p0), .val (.int p1), .val (.int ((p0 &&& (2147483647 : Int32)) % (9 : Int32))), .unset, .unset, .unset, .unset, .unset, .unset, .unset] [(.int (((1 : Int32) <<< (((p0 &&& (2147483647 : Int32)) % (9 : Int32)) &&& 31)) - (1 : Int32))), (.int p1)]))
  refine Wp.via (fun _ k => XS.iand X0.here hx rfl (hb hby at_14) rfl k) ?_
  show Wp p e below _ (T0.setTop (mkF m 15 #[.val (.int p0), .val (.int p1), .val (.int ((p0 &&& (2147483647 : Int32)) % (9 : Int32))), .unset, .unset, .unset, .unset, .unset, .unset, .unset] [(.int (p1 &&& (((1 : Int32) <<< (((p0 &&& (2147483647 : Int32)) % (9 : Int32)) &&& 31)) - (1 : Int32))))]))
  refine Wp.via (fun _ k => XS.istoreN X0.here hx rfl (hb hby at_15) rfl (l' := #[.val (.int p0), .val (.int p1), .val (.int ((p0 &&& (2147483647 : Int32)) % (9 : Int32))), .val (.int (p1 &&& (((1 : Int32) <<< (((p0 &&& (2147483647 : Int32)) % (9 : Int32)) &&& 31)) - (1 : Int32)))), .unset, .unset, .unset, .unset, .unset, .unset]) rfl k) ?_
  show Wp p e below _ (T0.setTop (mkF m 16 #[.val (.int p0), .val (.int p1), .val (.int ((p0 &&& (2147483647 : Int32)) % (9 : Int32))), .val (.int (p1 &&& (((1 : Int32) <<< (((p0 &&& (2147483647 : Int32)) % (9 : Int32)) &&& 31)) - (1 : Int32)))), .unset, .unset, .unset, .unset, .unset, .unset] []))
  have m1 : (p0 &&& (2147483647 : Int32)).toInt = p0.toInt % (2 ^ 31 : Nat) := c_mask p0 _ 31 (by decide) (by decide)
  have m2 := (c_irem (p0 &&& (2147483647 : Int32)) 9 9 (by decide)).1 (by omega)
  have eC : ((p0 &&& (2147483647 : Int32)) % (9 : Int32)) = (Int32.ofNat ((p0 &&& (2147483647 : Int32)) % (9 : Int32)).toInt.toNat) := by
    apply Int32.toInt_inj.mp
    rw [Int32.toInt_ofNat_of_lt (by omega)]; omega
  obtain ⟨C, hCd⟩ : ∃ z, z = ((p0 &&& (2147483647 : Int32)) % (9 : Int32)).toInt.toNat := ⟨_, rfl⟩
  rw [← hCd] at eC
  have hC : C ≤ 8 := by omega
  rw [eC]
  obtain ⟨M, hM, eM⟩ := own_m p1 C hC
  rw [eM]
  exact J16 T0 _ _ X0 e0 Z0 NF0 C M hC hM
set_option maxRecDepth 65536 in
set_option maxHeartbeats 40000000 in
theorem comes_1 {Post : Tables → Env → Array Value → State → Outcome → State → Prop} (hpost : ∀ tb e args s v u, (limb_1_1.after args s (.returned v) u = true ∧ limb_1_2.after args s (.returned v) u = true ∧ True) → FrameEnd s (.returned v) u (Jvm.fieldLocs frame_1_writes args s ++ Jvm.arrayLocs frame_1_arrays args s ++ Jvm.staticLocs frame_1_statics s) 16 128 → Post tb e args s (.returned v) u) :
    ArmFor flags0 classFile x code maxLocals ret World_1 tables_1 room_1 Calls_1 rest_1 Pre_1 Post := by
  intro l hfl _ _ p e ha hc hk s m args below hf hA hF happ hP
  obtain ⟨hcalls, hrest, hpre⟩ := hP
  obtain ⟨-, -, -, hnamed, -, -, -, hat⟩ := (Spec.applies_iff hf).mp happ
  obtain ⟨hg, hn⟩ := and_e (Cond.before_iff.mp (show (Jvm.Cond.and given_1 narrow_1).before args s = true from hpre))
  obtain ⟨g1, g2⟩ := and_e hg
  obtain ⟨g3, g4⟩ := and_e g2
  obtain ⟨w0, w1, rfl⟩ : ∃ w0 w1 : Value, args = #[w0, w1] := by
    have hs : args.size = 2 := by simpa [Cond.value, given_1] using g1
    obtain ⟨L⟩ := args
    match L, hs with
    | [w0, w1], _ => exact ⟨w0, w1, rfl⟩
  have hw := fun d (hd : d ∈ tables_1) => atoms_spec (ws := Jvm.Cond.code x code maxLocals ret :: tables_1) hat d (List.mem_cons_of_mem _ hd)
  obtain ⟨i0, ei0⟩ := is_v g3
  obtain rfl : w0 = (.int i0) := Option.some.inj ei0
  obtain ⟨i1, ei1⟩ := is_v g4
  obtain rfl : w1 = (.int i1) := Option.some.inj ei1
  obtain ⟨n, o, h1, h2, h3, _, L, rfl, ⟨rfl, N⟩, hq⟩ := rm0 l s _ hw tables_1 i0 i1 s.heap s.heap.size (Nat.le_refl _)  p e ha hc hk s m _ below hf ((Spec.applies_iff_loose hf).mp happ).1 ⟨rfl, State.Warmed39.refl s, rfl⟩ trivial
  refine ⟨n, _, h1, h2, h3, hpost _ _ _ _ _ _ ⟨Cond.after_iff.mpr rfl, Cond.after_iff.mpr (eq_i res_at (Term.int_eval (1)) rfl), trivial⟩ ⟨hq.1, hq.2.1, (hq.2.2.sift fun y hy => Or.inr (N y hy)).mono (by decide) (by decide)⟩⟩
theorem main_1_1 : Claimed_1_1 := comes_1 fun _ _ _ _ _ _ h hF => ⟨h.1, hF⟩
theorem main_1_2 : Claimed_1_2 := comes_1 fun _ _ _ _ _ _ h hF => ⟨h.2.1, hF⟩
end Jvm.Pilot.@@N@@
namespace Jvm.Pilot.@@N@@
open Jvm Jvm.ClassFile Sem Op Lib Jvm.Free Jvm.Stand Jvm.Pilot.@@N@@.Jvm.D
/-! MADE BY PROGRAM (witnessworld.py) out of the Statement's table words and the real class files: 9 classes; the members and pool entries that the words name. The judged class is class 1, her method 4. -/
namespace start1
open Jvm.ClassFile
def u (s : String) : CpInfo := .utf8 (stringToUtf16 s)
/-- a pool by its gaps: so many unusable entries, then the entry; so many at the end -/
def gap : Nat → List CpInfo → List CpInfo
  | 0, r => r
  | n + 1, r => .unusable :: gap n r
def poolList (es : List (Nat × CpInfo)) (last : Nat) : List CpInfo := es.foldr (fun e r => gap e.1 (e.2 :: r)) (gap last [])
def pool (es : List (Nat × CpInfo)) (last : Nat) : Array CpInfo := ⟨poolList es last⟩
def fileOf (pool : Array CpInfo) (this : Nat) (attrs : Array Attribute := #[]) (ms : Array MethodInfo := #[]) (fl : Nat := 33) (sup : Nat := 0) (ifs : Array Nat := #[]) (fds : Array FieldInfo := #[]) : ClassFile where
  minorVersion := 0
  majorVersion := 65
  constantPool := pool
  accessFlags := fl
  thisClass := this
  superClass := sup
  interfaces := ifs
  fields := fds
  methods := ms
  attributes := attrs
def plain (name : String) (sup : Option ClassId) : Class where
  name := name
  kind := .ordinary
  loader := none
  accessFlags := 33
  super := sup
  interfaces := #[]
  cf := none
  fields := #[]
  methods := #[]
  instanceTypes := #[]
  staticTypes := #[]
  resolved := #[]
  callSites := []
  init := .initialized
  statics := none
  mirror := none

def pool0 : Array CpInfo := pool [(5, u "<init>"), (0, u "()V"), (1, .class_ 10), (1, u "java/lang/Object")] 113

def k0m0 : Method := { name := "<init>", desc := "()V", sig := { parameters := [], returnType := none }, accessFlags := 1, code := none }
/-- java/lang/Object -/
def k0 : Class := { plain "java/lang/Object" none with
  accessFlags := 33
  interfaces := #[]
  cf := some (fileOf pool0 8 #[] #[{ accessFlags := 1, nameIndex := 5, descriptorIndex := 6, attributes := #[] }] 33 0 #[] #[])
  fields := #[]
  methods := #[k0m0]
  instanceTypes := #[]
  staticTypes := #[]
  resolved := Array.replicate 124 none
  statics := none }

def pool1 : Array CpInfo := pool [(2, .class_ 4), (1, u "java/lang/Object"), (0, u "<init>"), (0, u "()V"), (0, .integer 2147483647), (0, .methodref 9 10), (0, .class_ 11), (0, .nameAndType 12 13), (0, u "com/example/inverso/inverso/search/DocumentSetsComplementPinLaw"), (0, u "bit"), (0, u "(II)I"), (0, .methodref 9 15), (0, .nameAndType 16 17), (0, u "put"), (0, u "([IIIZ)I"), (0, .methodref 19 20), (0, .class_ 21), (0, .nameAndType 22 23), (0, u "com/example/inverso/inverso/search/DocumentSets"), (0, u "complement"), (0, u "([II)[I"), (0, .methodref 9 25), (0, .nameAndType 26 27), (0, u "same"), (0, u "([I[I)Z"), (3, u "law"), (0, u "(II)Z")] 4

def k1m0 : Method := { name := "<init>", desc := "()V", sig := { parameters := [], returnType := none }, accessFlags := 1, code := none }
def k1c1 : Code := { maxStack := 3, maxLocals := 2, code := method_2_code, exceptionTable := #[], attributes := #[] }
def k1m1 : Method := { name := "bit", desc := "(II)I", sig := { parameters := [.int, .int], returnType := some .int }, accessFlags := 10, code := some k1c1 }
def k1c2 : Code := { maxStack := 3, maxLocals := 4, code := method_3_code, exceptionTable := #[], attributes := #[] }
def k1m2 : Method := { name := "put", desc := "([IIIZ)I", sig := { parameters := [(.array .int), .int, .int, .boolean], returnType := some .int }, accessFlags := 10, code := some k1c2 }
def k1c3 : Code := { maxStack := 3, maxLocals := 2, code := method_4_code, exceptionTable := #[], attributes := #[] }
def k1m3 : Method := { name := "same", desc := "([I[I)Z", sig := { parameters := [(.array .int), (.array .int)], returnType := some .boolean }, accessFlags := 10, code := some k1c3 }
def k1c4 : Code := { maxStack := 5, maxLocals := 10, code := code, exceptionTable := #[], attributes := #[] }
def k1m4 : Method := { name := "law", desc := "(II)Z", sig := { parameters := [.int, .int], returnType := some .boolean }, accessFlags := 9, code := some k1c4 }
/-- com/example/inverso/inverso/search/DocumentSetsComplementPinLaw -/
def k1 : Class := { plain "com/example/inverso/inverso/search/DocumentSetsComplementPinLaw" (some 0) with
  accessFlags := 49
  interfaces := #[]
  cf := some (fileOf pool1 9 #[] #[{ accessFlags := 1, nameIndex := 5, descriptorIndex := 6, attributes := #[] }, { accessFlags := 10, nameIndex := 12, descriptorIndex := 13, attributes := #[] }, { accessFlags := 10, nameIndex := 16, descriptorIndex := 17, attributes := #[] }, { accessFlags := 10, nameIndex := 26, descriptorIndex := 27, attributes := #[] }, { accessFlags := 9, nameIndex := 31, descriptorIndex := 32, attributes := #[] }] 49 2 #[] #[])
  fields := #[]
  methods := #[k1m0, k1m1, k1m2, k1m3, k1m4]
  instanceTypes := #[]
  staticTypes := #[]
  resolved := Array.replicate 37 none
  statics := none }

def pool2 : Array CpInfo := pool [(2, .class_ 4), (1, u "java/lang/Object"), (0, u "<init>"), (0, u "()V"), (5, u "([II)[I"), (6, .class_ 20), (0, u "com/example/inverso/inverso/search/DocumentSets"), (10, u "complement")] 2

def k2m0 : Method := { name := "<init>", desc := "()V", sig := { parameters := [], returnType := none }, accessFlags := 2, code := none }
def k2c1 : Code := { maxStack := 3, maxLocals := 6, code := prog_223_method_5_code, exceptionTable := #[], attributes := #[] }
def k2m1 : Method := { name := "complement", desc := "([II)[I", sig := { parameters := [(.array .int), .int], returnType := some (.array .int) }, accessFlags := 8, code := some k2c1 }
/-- com/example/inverso/inverso/search/DocumentSets -/
def k2 : Class := { plain "com/example/inverso/inverso/search/DocumentSets" (some 0) with
  accessFlags := 48
  interfaces := #[]
  cf := some (fileOf pool2 19 #[] #[{ accessFlags := 2, nameIndex := 5, descriptorIndex := 6, attributes := #[] }, { accessFlags := 8, nameIndex := 31, descriptorIndex := 12, attributes := #[] }] 48 2 #[] #[])
  fields := #[]
  methods := #[k2m0, k2m1]
  instanceTypes := #[]
  staticTypes := #[]
  resolved := Array.replicate 34 none
  statics := none }

def pool3 : Array CpInfo := pool [(1, u "java/lang/Cloneable"), (0, .class_ 1), (0, u "java/lang/Object"), (0, .class_ 3)] 3

/-- java/lang/Cloneable -/
def k3 : Class := { plain "java/lang/Cloneable" (some 0) with
  accessFlags := 1537
  interfaces := #[]
  cf := some (fileOf pool3 2 #[] #[] 1537 4 #[] #[])
  fields := #[]
  methods := #[]
  instanceTypes := #[]
  staticTypes := #[]
  resolved := Array.replicate 8 none
  statics := none }

def pool4 : Array CpInfo := pool [(1, u "java/io/Serializable"), (0, .class_ 1), (0, u "java/lang/Object"), (0, .class_ 3)] 3

/-- java/io/Serializable -/
def k4 : Class := { plain "java/io/Serializable" (some 0) with
  accessFlags := 1537
  interfaces := #[]
  cf := some (fileOf pool4 2 #[] #[] 1537 4 #[] #[])
  fields := #[]
  methods := #[]
  instanceTypes := #[]
  staticTypes := #[]
  resolved := Array.replicate 8 none
  statics := none }

/-- the primitive byte -/
def k5 : Class := { plain "byte" none with kind := .primitive 'B', accessFlags := 0x411 }
/-- [B -/
def k6 : Class := { plain "[B" (some 0) with kind := .array 5 .byte, interfaces := #[3, 4], accessFlags := 1041 }

/-- the primitive int -/
def k7 : Class := { plain "int" none with kind := .primitive 'I', accessFlags := 0x411 }
/-- [I -/
def k8 : Class := { plain "[I" (some 0) with kind := .array 7 .int, interfaces := #[3, 4], accessFlags := 1041 }

def heap : Heap := #[]
def classes : Array Class := #[k0, k1, k2, k3, k4, k5, k6, k7, k8]
def interned : List (Array UInt16 × Addr) := []
def slotsUsed : Nat := 0
def theMethod : MethodId := ⟨1, 4⟩
def args0 : Array Value := #[.int 5, .int 3]
def aboutOver (below : List Frame) : State where
  vm := { classes := classes, interned := interned.toArray }
  heap := heap
  slotsUsed := slotsUsed
  threads := #[{ frames := .invoking theMethod args0 :: below }]
def below0 : List Frame := [.native { method := ⟨0, 0⟩, args := #[] }]
def about1 : State := aboutOver below0
def p0 : Program := .bare "" "" ""
def e0 : Env := launch0.env 0 0 0
theorem w_frames : about1.frames = Frame.invoking theMethod args0 :: below0 := rfl
set_option maxRecDepth 65536 in
theorem w_args : argsFit about1.vm theMethod args0 = true := by decide +kernel
set_option maxRecDepth 65536 in
theorem w_heap : heapFits about1 = true := by decide +kernel
set_option maxRecDepth 65536 in
theorem w_runnable : about1.curStatus? = some .runnable := by decide +kernel
set_option maxRecDepth 65536 in
theorem w_alone : about1.alone = true := by decide +kernel
set_option maxRecDepth 65536 in
theorem w_named : about1.methodNamed? x = some theMethod := by decide +kernel
set_option maxRecDepth 65536 in
theorem w_hears : about1.hears theMethod below0 = true := by decide +kernel
set_option maxRecDepth 65536 in
theorem w_ripe : about1.ripe theMethod args0 below0 = true := by decide +kernel
theorem w_running : about1.status = .running := rfl
set_option maxRecDepth 65536 in
theorem w_room : about1.hasRoom e0.platform room_1 = true :=
  launch0.hasRoom_least _ room_1 (by decide +kernel) (by decide +kernel) (by decide +kernel) (by decide +kernel) (by decide +kernel) (by decide +kernel)
theorem allAtoms_all (ts : List Jvm.Cond) (a : Array Jvm.Value) (st : Jvm.State) : (allAtoms ts).before a st = ts.all (fun c => c.before a st) := by
  induction ts with
  | nil => rfl
  | cons c t ih =>
    show (Jvm.Cond.and c (allAtoms t)).before a st = _
    rw [Jvm.Cond.before_and, ih, List.all_cons]
def words1 : List Jvm.Cond := Jvm.Cond.code x code maxLocals ret :: tables_1
/-- a 'code' word, met by the world's own term for the bytes: nothing is compared byte by byte -/
theorem code_word {y : MethodName} {bytes : ByteArray} {mx : Nat} {rt : Option FieldType} {a : Array Value} {s : State} {m : MethodId} {meth : Method} {c : Code} (h1 : s.methodNamed? y = some m) (h2 : s.vm.method? m = some meth) (h3 : meth.code = some c) (h4 : c.code = bytes)
    (h5 : (c.maxLocals == mx && c.exceptionTable.isEmpty && decide (c.maxStack ≤ mostOperands) && decide (meth.sig.returnType = rt) && !meth.locks && decide (parseMethodDescriptor y.desc = some meth.sig)) = true) : (Jvm.Cond.code y bytes mx rt).before a s = true := by
  simp only [Bool.and_eq_true, beq_iff_eq, Bool.not_eq_true', decide_eq_true_eq] at h5
  obtain ⟨⟨⟨⟨⟨g1, g2⟩, g3⟩, g4⟩, g5⟩, g6⟩ := h5
  simp [Cond.before, Cond.holds, Cond.value, h1, h2, h3, h4, g1, g2, g3, g4, g5, g6]
def isCode : Jvm.Cond → Bool
  | .code _ _ _ _ => true
  | _ => false
theorem all_split {L : List Jvm.Cond} {P : Jvm.Cond → Bool} (h1 : L.all (fun c => isCode c || P c) = true) (h2 : ∀ c ∈ L.filter isCode, P c = true) : L.all P = true := by
  refine List.all_eq_true.mpr fun c hc => ?_
  have h := List.all_eq_true.mp h1 c hc
  rcases Bool.eq_false_or_eq_true (isCode c) with hi | hi
  · exact h2 c (List.mem_filter.mpr ⟨hc, hi⟩)
  · simpa [hi] using h
set_option maxRecDepth 65536 in
theorem w_c0 : (Jvm.Cond.code x code maxLocals ret).before args0 about1 = true := code_word (m := ⟨1, 4⟩) (meth := k1m4) (c := k1c4) (by decide +kernel) rfl rfl rfl (by decide +kernel)
set_option maxRecDepth 65536 in
theorem w_c1 : (Jvm.Cond.code ({ cls := "com/example/inverso/inverso/search/DocumentSetsComplementPinLaw", name := "bit", desc := "(II)I" } : Jvm.MethodName) method_2_code (2 : Nat) (Option.some Jvm.ClassFile.FieldType.int)).before args0 about1 = true := code_word (m := ⟨1, 1⟩) (meth := k1m1) (c := k1c1) (by decide +kernel) rfl rfl rfl (by decide +kernel)
set_option maxRecDepth 65536 in
theorem w_c2 : (Jvm.Cond.code ({ cls := "com/example/inverso/inverso/search/DocumentSetsComplementPinLaw", name := "put", desc := "([IIIZ)I" } : Jvm.MethodName) method_3_code (4 : Nat) (Option.some Jvm.ClassFile.FieldType.int)).before args0 about1 = true := code_word (m := ⟨1, 2⟩) (meth := k1m2) (c := k1c2) (by decide +kernel) rfl rfl rfl (by decide +kernel)
set_option maxRecDepth 65536 in
theorem w_c3 : (Jvm.Cond.code ({ cls := "com/example/inverso/inverso/search/DocumentSets", name := "complement", desc := "([II)[I" } : Jvm.MethodName) prog_223_method_5_code (6 : Nat) (Option.some (Jvm.ClassFile.FieldType.array Jvm.ClassFile.FieldType.int))).before args0 about1 = true := code_word (m := ⟨2, 1⟩) (meth := k2m1) (c := k2c1) (by decide +kernel) rfl rfl rfl (by decide +kernel)
set_option maxRecDepth 65536 in
theorem w_c4 : (Jvm.Cond.code ({ cls := "com/example/inverso/inverso/search/DocumentSetsComplementPinLaw", name := "same", desc := "([I[I)Z" } : Jvm.MethodName) method_4_code (2 : Nat) (Option.some Jvm.ClassFile.FieldType.boolean)).before args0 about1 = true := code_word (m := ⟨1, 3⟩) (meth := k1m3) (c := k1c3) (by decide +kernel) rfl rfl rfl (by decide +kernel)
def codes1 : List Jvm.Cond := [Jvm.Cond.code x code maxLocals ret, Jvm.Cond.code ({ cls := "com/example/inverso/inverso/search/DocumentSetsComplementPinLaw", name := "bit", desc := "(II)I" } : Jvm.MethodName) method_2_code (2 : Nat) (Option.some Jvm.ClassFile.FieldType.int), Jvm.Cond.code ({ cls := "com/example/inverso/inverso/search/DocumentSetsComplementPinLaw", name := "put", desc := "([IIIZ)I" } : Jvm.MethodName) method_3_code (4 : Nat) (Option.some Jvm.ClassFile.FieldType.int), Jvm.Cond.code ({ cls := "com/example/inverso/inverso/search/DocumentSets", name := "complement", desc := "([II)[I" } : Jvm.MethodName) prog_223_method_5_code (6 : Nat) (Option.some (Jvm.ClassFile.FieldType.array Jvm.ClassFile.FieldType.int)), Jvm.Cond.code ({ cls := "com/example/inverso/inverso/search/DocumentSetsComplementPinLaw", name := "same", desc := "([I[I)Z" } : Jvm.MethodName) method_4_code (2 : Nat) (Option.some Jvm.ClassFile.FieldType.boolean)]
set_option maxRecDepth 65536 in
theorem codes_eq : words1.filter isCode = codes1 := rfl
theorem w_codes : ∀ c ∈ words1.filter isCode, c.before args0 about1 = true := by
  rw [codes_eq]
  intro c hc
  simp only [codes1, List.mem_cons, List.not_mem_nil, or_false] at hc
  rcases hc with rfl | rfl | rfl | rfl | rfl
  · exact w_c0
  · exact w_c1
  · exact w_c2
  · exact w_c3
  · exact w_c4
set_option maxRecDepth 65536 in
theorem w_t1 : words1.all (fun c => isCode c || c.before args0 about1) = true := by decide +kernel
theorem w_tables : (allAtoms (Jvm.Cond.code x code maxLocals ret :: tables_1)).before args0 about1 = true := by
  rw [allAtoms_all]
  show words1.all (fun c => c.before args0 about1) = true
  refine all_split ?_ w_codes
  rw [w_t1]
set_option maxRecDepth 65536 in
theorem w_case : (Jvm.Cond.and given_1 narrow_1).before args0 about1 = true := by decide +kernel
theorem w_applies : (headSpec (Jvm.Cond.code x code maxLocals ret :: tables_1) room_1).applies x e0.platform about1 = true :=
  (Spec.applies_iff w_frames).mpr ⟨w_running, w_runnable, w_alone, w_named, w_hears, w_ripe, w_room, w_tables⟩
theorem atStart : AtStart classFile x code maxLocals ret World_1 tables_1 room_1 Calls_1 rest_1 Pre_1 launch0 p0 e0 about1 theMethod args0 below0 :=
  ⟨lists_1, trivial, launch0.admits_env _ _ _, launch0.least_env, fairChoices_fair.cas, fairChoices_fair.clock, w_frames, w_args, w_heap, w_applies, trivial, trivial, w_case⟩
end start1
theorem witness_1 : WitnessClaimed_1 := ⟨start1.p0, start1.e0, start1.about1, start1.theMethod, start1.args0, start1.below0, start1.atStart⟩
end Jvm.Pilot.@@N@@
