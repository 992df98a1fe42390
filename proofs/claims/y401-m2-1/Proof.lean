import JvmDerived
import JvmDerived.Pilot.@@N@@Statement
import JvmDerived.Pilot.@@N@@Code
set_option linter.unusedVariables false
set_option linter.unusedSimpArgs false
namespace Jvm.Pilot.@@N@@
open Jvm Jvm.ClassFile Sem Op Lib Jvm.Free Jvm.Stand Jvm.LawKit Jvm.RoadKit Bundle Jvm.Pilot.@@N@@.Jvm.D
/-! own kit: the rest of a walk as one predicate of the state where it stands -/
section OwnKit
variable {p : Program} {l : Launch} {e : Env} {R : Room} {s : State} {m : MethodId} {args : Array Value} {below : List Frame} {meth : Method} {c : Code} {T : State} {locs : List Loc} {cells slots : Nat}
def Wp (p : Program) (e : Env) (below : List Frame) (G : Outcome → State → Prop) (U : State) : Prop := ∃ s₂ o, Steps p.tables e below U s₂ ∧ s₂.status = .running ∧ Ended s₂ below o ∧ G o s₂
theorem Wp.via {G : Outcome → State → Prop} {A B : State} (k : ∀ t, Steps p.tables e below A t → Steps p.tables e below B t) (h : Wp p e below G A) : Wp p e below G B := by
  obtain ⟨s₂, o, h1, h2⟩ := h; exact ⟨s₂, o, k _ h1, h2⟩
theorem Wp.step {G : Outcome → State → Prop} {A B : State} (k : Steps p.tables e below B A) (h : Wp p e below G A) : Wp p e below G B := by
  obtain ⟨s₂, o, h1, h2⟩ := h; exact ⟨s₂, o, k.trans h1, h2⟩
def Gd (s : State) (Q : Option Value → Heap → List Loc → Prop) (C S : Nat) (o : Outcome) (t : State) : Prop := ∃ v L, o = .returned v ∧ Q v t.heap L ∧ FrameEnd s o t L C S
theorem Wp.ret (X : Stand p l e R s m args below meth c T locs cells slots) (hlk : meth.locks = false) (hx : p.tables.exec = Jvm.exec) {pc : Nat} {Ls : Array Slot} {w : Value} {t : FieldType} {i : Instr} {rest : List Value} {Q : Option Value → Heap → List Loc → Prop} {C S : Nat} (hret : meth.sig.returnType = some t) (hn : narrow t w = w)
    (hi : (i = .ireturn ∧ (t = .int ∨ t = .boolean ∨ t = .byte ∨ t = .char ∨ t = .short) ∧ ∃ z, w = .int z) ∨ (i = .lreturn ∧ t = .long ∧ ∃ z, w = .long z) ∨ (i = .dreturn ∧ t = .double ∧ ∃ z, w = .double z) ∨ (i = .freturn ∧ t = .float ∧ ∃ z, w = .float z) ∨ (i = .areturn ∧ t.isReference = true ∧ w.isRef = true))
    (hd : decode c.code pc = .ok (i, 1)) (hq : Q (some w) T.heap locs) (hC : cells ≤ C) (hS : slots ≤ S) : Wp p e below (Gd s Q C S) (T.setTop (mkF m pc Ls (w :: rest))) := by
  obtain ⟨fs, hr, hrun, hended, hW, hsame⟩ := X.leave (v := some w) (fun h => by rw [hret] at h; cases h) hlk
  exact ⟨_, _, retOut X hx hret hn hi hd hr, hrun, hended, _, _, rfl, hq, ⟨_, rfl⟩, hW, hsame.mono hC hS⟩
theorem Wp.retI (X : Stand p l e R s m args below meth c T locs cells slots) (hlk : meth.locks = false) (hx : p.tables.exec = Jvm.exec) {pc : Nat} {Ls : Array Slot} {z : Int32} {t : FieldType} {rest : List Value} {Q : Option Value → Heap → List Loc → Prop} {C S : Nat} (hret : meth.sig.returnType = some t) (ht : t = .int ∨ t = .boolean ∨ t = .byte ∨ t = .char ∨ t = .short) (hn : narrow t (.int z) = .int z)
    (hd : decode c.code pc = .ok (.ireturn, 1)) (hq : Q (some (.int z)) T.heap locs) (hC : cells ≤ C) (hS : slots ≤ S) : Wp p e below (Gd s Q C S) (T.setTop (mkF m pc Ls (.int z :: rest))) :=
  Wp.ret X hlk hx hret hn (Or.inl ⟨rfl, ht, z, rfl⟩) hd hq hC hS
theorem Wp.retJ (X : Stand p l e R s m args below meth c T locs cells slots) (hlk : meth.locks = false) (hx : p.tables.exec = Jvm.exec) {pc : Nat} {Ls : Array Slot} {z : Int64} {rest : List Value} {Q : Option Value → Heap → List Loc → Prop} {C S : Nat} (hret : meth.sig.returnType = some .long)
    (hd : decode c.code pc = .ok (.lreturn, 1)) (hq : Q (some (.long z)) T.heap locs) (hC : cells ≤ C) (hS : slots ≤ S) : Wp p e below (Gd s Q C S) (T.setTop (mkF m pc Ls (.long z :: rest))) :=
  Wp.ret X hlk hx hret rfl (Or.inr (Or.inl ⟨rfl, rfl, z, rfl⟩)) hd hq hC hS
theorem Wp.retA (X : Stand p l e R s m args below meth c T locs cells slots) (hlk : meth.locks = false) (hx : p.tables.exec = Jvm.exec) {pc : Nat} {Ls : Array Slot} {w : Value} {t : FieldType} {rest : List Value} {Q : Option Value → Heap → List Loc → Prop} {C S : Nat} (hret : meth.sig.returnType = some t) (ht : t.isReference = true) (hw : w.isRef = true)
    (hd : decode c.code pc = .ok (.areturn, 1)) (hq : Q (some w) T.heap locs) (hC : cells ≤ C) (hS : slots ≤ S) : Wp p e below (Gd s Q C S) (T.setTop (mkF m pc Ls (w :: rest))) :=
  Wp.ret X hlk hx hret (by cases t <;> simp [FieldType.isReference] at ht <;> cases w <;> simp [Value.isRef] at hw <;> rfl) (Or.inr (Or.inr (Or.inr (Or.inr ⟨rfl, ht, hw⟩)))) hd hq hC hS
theorem Wp.retV (X : Stand p l e R s m args below meth c T locs cells slots) (hlk : meth.locks = false) (hx : p.tables.exec = Jvm.exec) {pc : Nat} {Ls : Array Slot} {Q : Option Value → Heap → List Loc → Prop} {C S : Nat} (hret : meth.sig.returnType = none)
    (hd : decode c.code pc = .ok (.return_, 1)) (hq : Q none T.heap locs) (hC : cells ≤ C) (hS : slots ≤ S) : Wp p e below (Gd s Q C S) (T.setTop (mkF m pc Ls [])) := by
  obtain ⟨fs, hr, hrun, hended, hW, hsame⟩ := X.leave (v := none) (fun _ => rfl) hlk
  exact ⟨_, _, X.returnOut hx hret hd hr, hrun, hended, _, _, rfl, hq, ⟨_, rfl⟩, hW, hsame.mono hC hS⟩
/-- a body's contract out of its Wp at pc 0 -/
theorem ofWp {y : MethodName} {bytes : ByteArray} {maxL : Nat} {ret : Option FieldType} {ws : List Jvm.Cond} {rm : Room} {as' : Array Value} {Z : State} {h0 : Heap} {Q : Option Value → Heap → List Loc → Prop} {C S : Nat} {Ls : Array Slot} (hpl : plainFor y = true) (ef : ∀ m, entryFrame m as' maxL = mkF m 0 Ls [])
    (H : ∀ (p : Program) (e : Env) (s : State) (m : MethodId) (below : List Frame) (meth : Method) (c : Code) (T : State), p.tables.exec = Jvm.exec → c.code = bytes → c.maxLocals = maxL → s.vm.findClass y.cls = some m.cls → meth.name = y.name → meth.locks = false → meth.sig.returnType = ret → Z.Warmed39 s.vm → Stand p l e rm s m as' below meth c T [] 0 0 → T.heap = h0 → Wp p e below (Gd s Q C S) (T.setTop (mkF m 0 Ls []))) :
    MetFree l y (head1 (Jvm.Cond.code y bytes maxL ret :: ws) rm) (fun a U => a = as' ∧ Z.Warmed39 U.vm ∧ U.heap = h0) (fun _ _ _ _ _ => True) (fun _ U o U' => ∃ v L, o = .returned v ∧ Q v U'.heap L ∧ FrameEnd U o U' L C S) := by
  refine MetFree.of_bodySF hpl hisR ?_
  intro p e s m args below meth c s₁ Bd hml0 hP hK
  obtain ⟨rfl, hZ, hh⟩ := hP
  have e0 : s₁.heap = h0 := by rw [← hh, Bd.state]; rfl
  have X0 : Stand p l e rm s m args below meth c s₁ [] 0 0 := Stand.of_body Bd
  have W := H p e s m below meth c s₁ Bd.exec Bd.bytes hml0 (findClass_of_methodNamed Bd.named) (name_of_methodNamed Bd.named Bd.method).1 Bd.notSynchronized Bd.returns hZ X0 e0
  rw [← ef m] at W
  obtain ⟨s₂, o, g1, g2, g3, g4⟩ := W
  exact ⟨s₂, o, g1, g2, g3, g4⟩
end OwnKit

section AvKit
variable {p : Program} {l : Launch} {e : Env} {R : Room} {s : State} {m : MethodId} {args : Array Value} {below : List Frame} {meth : Method} {c : Code} {T : State} {locs : List Loc} {cells slots : Nat} {Z : State} {h h' : Heap} {a b : Addr} {ty : FieldType} {n : Nat} {f : Nat → Value} {sl : Nat} {v : Value}
/-- an array of n places; place k holds f k -/
def Av (Z : State) (h : Heap) (a : Addr) (ty : FieldType) (n : Nat) (f : Nat → Value) : Prop := ∃ c : Cell, Arr Z h a c ty ∧ c.slots.size = n ∧ ∀ k, k < n → c.slots[k]? = some (f k)
theorem Av.lt (F : Av Z h a ty n f) : a < h.size := by obtain ⟨c, A, -⟩ := F; exact A.lt
theorem Av.ext (F : Av Z h a ty n f) (E : Ext h h') : Av Z h' a ty n f := by obtain ⟨c, A, r⟩ := F; exact ⟨c, A.ext E, r⟩
theorem Av.other (F : Av Z h b ty n f) (W : Wr h h' a sl v) (q : b ≠ a) : Av Z h' b ty n f := by obtain ⟨c, A, r⟩ := F; exact ⟨c, A.other W q, r⟩
theorem Av.keep {ws : List Addr} (F : Av Z h a ty n f) (K : Keep h h' ws) (q : a ∉ ws) : Av Z h' a ty n f := by obtain ⟨c, A, r⟩ := F; exact ⟨c, ⟨K.2.1 a c A.1 q, A.2⟩, r⟩
theorem Av.cong {g : Nat → Value} (F : Av Z h a ty n f) (q : ∀ k, k < n → f k = g k) : Av Z h a ty n g := by obtain ⟨c, A, r, H⟩ := F; exact ⟨c, A, r, fun k hk => by rw [← q k hk]; exact H k hk⟩
theorem Av.new {k : ClassId} {z : Int32} (A : Arr Z h a (newA k ty z) ty) (hn : z.toNatClampNeg = n) : Av Z h a ty n (fun _ => defaultValue ty) := ⟨_, A, by rw [sz_new, hn], fun k hk => by simp [newA, hn, hk]⟩
theorem Av.set (F : Av Z h a ty n f) (W : Wr h h' a sl v) : Av Z h' a ty n (fun k => if k = sl then v else f k) := by
  obtain ⟨c, A, r, H⟩ := F
  refine ⟨_, A.same W, by rw [sz_set]; exact r, fun k hk => ?_⟩
  by_cases q : k = sl
  · subst q; simp [Cell.setSlot, r, hk]
  · show _ = some (if k = sl then v else f k)
    rw [if_neg q]; simp only [Cell.setSlot]; rw [Array.getElem?_setIfInBounds_ne (fun z => q z.symm)]; exact H k hk
theorem av_in {cl : Cell} {j : Int32} {i : Nat} (r : cl.slots.size = n) (hj0 : ¬ j < 0) (hji : j.toNatClampNeg = i) (hin : i < n) : ¬ (j < 0 ∨ cl.slots.size ≤ j.toNatClampNeg) := by
  rw [r, hji]; rintro (q | q)
  · exact hj0 q
  · omega
theorem avStI (X : Stand p l e R s m args below meth c T locs cells slots) (hx : p.tables.exec = Jvm.exec) (hZ : Z.Warmed39 s.vm) (eT : T.heap = h) (F : Av Z h a .int n f) {j x : Int32} {i : Nat} (hj0 : ¬ j < 0) (hji : j.toNatClampNeg = i) (hin : i < n) {g : JFrame} (hg : g.method = m) {rest : List Value} (hs : g.stack = .int x :: .int j :: .ref a :: rest) (hd : decode c.code g.pc = .ok (.iastore, 1)) :
    ∃ T' h', Stand p l e R s m args below meth c T' (locs ++ [⟨a, i⟩]) cells slots ∧ T'.heap = h' ∧ Wr h h' a i (.int x) ∧ Av Z h' a .int n (fun k => if k = i then .int x else f k) ∧ ∀ target, Steps p.tables e below (T'.setTop { g with pc := g.pc + 1, stack := rest }) target → Steps p.tables e below (T.setTop g) target := by
  obtain ⟨cl, A, r, H⟩ := F
  obtain ⟨T', h', X', e', W, st⟩ := stI X hx hZ eT A (av_in r hj0 hji hin) hg hs hd
  rw [hji] at X' W
  exact ⟨T', h', X', e', W, Av.set ⟨cl, A, r, H⟩ W, st⟩
theorem avStJ (X : Stand p l e R s m args below meth c T locs cells slots) (hx : p.tables.exec = Jvm.exec) (hZ : Z.Warmed39 s.vm) (eT : T.heap = h) (F : Av Z h a .long n f) {j : Int32} {x : Int64} {i : Nat} (hj0 : ¬ j < 0) (hji : j.toNatClampNeg = i) (hin : i < n) {g : JFrame} (hg : g.method = m) {rest : List Value} (hs : g.stack = .long x :: .int j :: .ref a :: rest) (hd : decode c.code g.pc = .ok (.lastore, 1)) :
    ∃ T' h', Stand p l e R s m args below meth c T' (locs ++ [⟨a, i⟩]) cells slots ∧ T'.heap = h' ∧ Wr h h' a i (.long x) ∧ Av Z h' a .long n (fun k => if k = i then .long x else f k) ∧ ∀ target, Steps p.tables e below (T'.setTop { g with pc := g.pc + 1, stack := rest }) target → Steps p.tables e below (T.setTop g) target := by
  obtain ⟨cl, A, r, H⟩ := F
  obtain ⟨T', h', X', e', W, st⟩ := stJ X hx hZ eT A (av_in r hj0 hji hin) hg hs hd
  rw [hji] at X' W
  exact ⟨T', h', X', e', W, Av.set ⟨cl, A, r, H⟩ W, st⟩
theorem avStB (X : Stand p l e R s m args below meth c T locs cells slots) (hx : p.tables.exec = Jvm.exec) (hZ : Z.Warmed39 s.vm) (eT : T.heap = h) (F : Av Z h a .byte n f) {j x : Int32} {i : Nat} (hj0 : ¬ j < 0) (hji : j.toNatClampNeg = i) (hin : i < n) {g : JFrame} (hg : g.method = m) {rest : List Value} (hs : g.stack = .int x :: .int j :: .ref a :: rest) (hd : decode c.code g.pc = .ok (.bastore, 1)) :
    ∃ T' h', Stand p l e R s m args below meth c T' (locs ++ [⟨a, i⟩]) cells slots ∧ T'.heap = h' ∧ Wr h h' a i (.int (nar .byte x)) ∧ Av Z h' a .byte n (fun k => if k = i then .int (nar .byte x) else f k) ∧ ∀ target, Steps p.tables e below (T'.setTop { g with pc := g.pc + 1, stack := rest }) target → Steps p.tables e below (T.setTop g) target := by
  obtain ⟨cl, A, r, H⟩ := F
  obtain ⟨T', h', X', e', W, st⟩ := stB X hx hZ eT A (av_in r hj0 hji hin) hg hs hd
  rw [hji] at X' W
  exact ⟨T', h', X', e', W, Av.set ⟨cl, A, r, H⟩ W, st⟩
theorem avLdI (X : Stand p l e R s m args below meth c T locs cells slots) (hx : p.tables.exec = Jvm.exec) (hZ : Z.Warmed39 s.vm) (eT : T.heap = h) (F : Av Z h a .int n f) {j : Int32} {i : Nat} (hj0 : ¬ j < 0) (hji : j.toNatClampNeg = i) (hin : i < n) {w : Value} (hw : f i = w) {g : JFrame} (hg : g.method = m) {rest : List Value} (hs : g.stack = .int j :: .ref a :: rest) (hd : decode c.code g.pc = .ok (.iaload, 1)) (target : State) (k : Steps p.tables e below (T.setTop { g with pc := g.pc + 1, stack := w :: rest }) target) : Steps p.tables e below (T.setTop g) target := by
  obtain ⟨cl, A, r, H⟩ := F
  exact X.iaload hx (by rw [eT]; exact A.1) (State.isArrayOf_alike hZ.alike A.2.1) A.2.2 (av_in r hj0 hji hin) (by rw [hji, H i hin, hw]) hg hs hd target k
theorem avLdJ (X : Stand p l e R s m args below meth c T locs cells slots) (hx : p.tables.exec = Jvm.exec) (hZ : Z.Warmed39 s.vm) (eT : T.heap = h) (F : Av Z h a .long n f) {j : Int32} {i : Nat} (hj0 : ¬ j < 0) (hji : j.toNatClampNeg = i) (hin : i < n) {w : Value} (hw : f i = w) {g : JFrame} (hg : g.method = m) {rest : List Value} (hs : g.stack = .int j :: .ref a :: rest) (hd : decode c.code g.pc = .ok (.laload, 1)) (target : State) (k : Steps p.tables e below (T.setTop { g with pc := g.pc + 1, stack := w :: rest }) target) : Steps p.tables e below (T.setTop g) target := by
  obtain ⟨cl, A, r, H⟩ := F
  exact X.laload hx (by rw [eT]; exact A.1) (State.isArrayOf_alike hZ.alike A.2.1) A.2.2 (av_in r hj0 hji hin) (by rw [hji, H i hin, hw]) hg hs hd target k
theorem avLdB (X : Stand p l e R s m args below meth c T locs cells slots) (hx : p.tables.exec = Jvm.exec) (hZ : Z.Warmed39 s.vm) (eT : T.heap = h) (F : Av Z h a .byte n f) {j : Int32} {i : Nat} (hj0 : ¬ j < 0) (hji : j.toNatClampNeg = i) (hin : i < n) {w : Value} (hw : f i = w) {g : JFrame} (hg : g.method = m) {rest : List Value} (hs : g.stack = .int j :: .ref a :: rest) (hd : decode c.code g.pc = .ok (.baload, 1)) (target : State) (k : Steps p.tables e below (T.setTop { g with pc := g.pc + 1, stack := w :: rest }) target) : Steps p.tables e below (T.setTop g) target := by
  obtain ⟨cl, A, r, H⟩ := F
  exact X.baloadBytes hx (by rw [eT]; exact A.1) (State.isArrayOf_alike hZ.alike A.2.1) A.2.2 (av_in r hj0 hji hin) (by rw [hji, H i hin, hw]) hg hs hd target k
theorem avLdA (X : Stand p l e R s m args below meth c T locs cells slots) (hx : p.tables.exec = Jvm.exec) (hZ : Z.Warmed39 s.vm) (eT : T.heap = h) (F : Av Z h a ty n f) (hty : ty.isReference = true) {j : Int32} {i : Nat} (hj0 : ¬ j < 0) (hji : j.toNatClampNeg = i) (hin : i < n) {w : Value} (hw : f i = w) {g : JFrame} (hg : g.method = m) {rest : List Value} (hs : g.stack = .int j :: .ref a :: rest) (hd : decode c.code g.pc = .ok (.aaload, 1)) (target : State) (k : Steps p.tables e below (T.setTop { g with pc := g.pc + 1, stack := w :: rest }) target) : Steps p.tables e below (T.setTop g) target := by
  obtain ⟨cl, A, r, H⟩ := F
  exact X.aaload hx (by rw [eT]; exact A.1) (State.isArrayOf_alike hZ.alike A.2.1) hty A.2.2 (av_in r hj0 hji hin) (by rw [hji, H i hin, hw]) hg hs hd target k
theorem avLen (X : Stand p l e R s m args below meth c T locs cells slots) (hx : p.tables.exec = Jvm.exec) (hZ : Z.Warmed39 s.vm) (eT : T.heap = h) (F : Av Z h a ty n f) {z : Int32} (hz : n.toInt32 = z) {g : JFrame} (hg : g.method = m) {rest : List Value} (hs : g.stack = .ref a :: rest) (hd : decode c.code g.pc = .ok (.arraylength, 1)) (target : State) (k : Steps p.tables e below (T.setTop { g with pc := g.pc + 1, stack := .int z :: rest }) target) : Steps p.tables e below (T.setTop g) target := by
  obtain ⟨cl, A, r, H⟩ := F
  exact X.arraylength hx (by rw [eT]; exact A.1) (State.isArrayOf_alike hZ.alike A.2.1) hg hs hd target (by rw [r, hz]; exact k)
theorem own_up {f : Nat → Value} {i : Nat} {x : Int32} (h : ∀ k, ∃ z, f k = Value.int z) : ∀ k, ∃ z, (fun k => if k = i then Value.int x else f k) k = Value.int z := fun k => by
  by_cases q : k = i
  · exact ⟨x, if_pos q⟩
  · obtain ⟨z, hz⟩ := h k; exact ⟨z, (if_neg q).trans hz⟩
end AvKit
def f1_0 (p0 : Int32) (p1 : Int32) : Int32 := (if p1 < p0 then p1 else p0)
theorem own_d1_0 : decode jdk_29_method_69_code 0 = .ok (.iload_n 0, 1) := by decide +kernel
theorem own_d1_1 : decode jdk_29_method_69_code 1 = .ok (.iload_n 1, 1) := by decide +kernel
theorem own_d1_2 : decode jdk_29_method_69_code 2 = .ok (.if_icmp .gt 7, 3) := by decide +kernel
theorem own_d1_5 : decode jdk_29_method_69_code 5 = .ok (.iload_n 0, 1) := by decide +kernel
theorem own_d1_6 : decode jdk_29_method_69_code 6 = .ok (.goto 4, 3) := by decide +kernel
theorem own_d1_9 : decode jdk_29_method_69_code 9 = .ok (.iload_n 1, 1) := by decide +kernel
theorem own_d1_10 : decode jdk_29_method_69_code 10 = .ok (.ireturn, 1) := by decide +kernel
theorem own_pl1 : plainFor (⟨"java/lang/Math", "min", "(II)I"⟩ : MethodName) = true := Jvm.Free.JP.mathPlain rfl (by decide +kernel)
theorem own_ef1 (m : MethodId) (p0 : Int32) (p1 : Int32) : entryFrame m #[(.int p0), (.int p1)] 2 = mkF m 0 #[.val (.int p0), .val (.int p1)] [] := by first | (simp [entryFrame, mkF, argsToLocals, Value.category]; done) | rfl
def Qo1 (Z : State) (p0 : Int32) (p1 : Int32)  (h0 : Heap) (n0 : Nat) (v : Option Value) (h : Heap) (L : List Loc) : Prop := v = some (.int (f1_0 p0 p1)) ∧ Fr n0 L ∧ h = h0
set_option maxRecDepth 65536 in
set_option maxHeartbeats 40000000 in
theorem rm1 (l : Launch) (Z : State) (aw : Array Value) (hw : ∀ d ∈ tables_1, d.before aw Z = true) (ws : List Jvm.Cond) (p0 : Int32) (p1 : Int32)  (h0 : Heap) (n0 : Nat) (Z0 : n0 ≤ h0.size)  :
    MetFree l (⟨"java/lang/Math", "min", "(II)I"⟩ : MethodName) (head1 (Jvm.Cond.code (⟨"java/lang/Math", "min", "(II)I"⟩ : MethodName) jdk_29_method_69_code 2 (some .int) :: ws) ({ frames := 0, cells := 0, slots := 0, locals := 0 } : Room)) (fun a U => a = #[(.int p0), (.int p1)] ∧ Z.Warmed39 U.vm ∧ U.heap = h0) (fun _ _ _ _ _ => True) (fun _ U o U' => ∃ v L, o = .returned v ∧ (Qo1 Z p0 p1 h0 n0) v U'.heap L ∧ FrameEnd U o U' L ({ frames := 0, cells := 0, slots := 0, locals := 0 } : Room).cells ({ frames := 0, cells := 0, slots := 0, locals := 0 } : Room).slots) := by
  refine ofWp (Q := Qo1 Z p0 p1 h0 n0) own_pl1 (fun m => own_ef1 m p0 p1) ?_
  intro p e s m below meth c T0 hx hby hml hown hnm hlk hret hZ X0 e0
  change s.vm.findClass "java/lang/Math" = some m.cls at hown
  have NF0 := Fr.nil n0
  have hv : (f1_0 p0 p1) = (if p1 < p0 then p1 else p0) := rfl
  refine Wp.via (fun _ k => XS.iloadN X0.here hx rfl (hb hby own_d1_0) rfl k) ?_
  show Wp p e below _ (T0.setTop (mkF m 1 #[.val (.int p0), .val (.int p1)] [(.int p0)]))
  refine Wp.via (fun _ k => XS.iloadN X0.here hx rfl (hb hby own_d1_1) rfl k) ?_
  show Wp p e below _ (T0.setTop (mkF m 2 #[.val (.int p0), .val (.int p1)] [(.int p1), (.int p0)]))
  by_cases hc1 : p1 < p0
  ·
    have hv1_ := hv.trans (if_pos hc1)
    refine Wp.via (fun _ k => XS.icmpYes X0.here hx rfl (pc0 := 2) (pc' := 9) rfl (hb hby own_d1_2) rfl (tlt hc1).2.2.1 (by decide) (by decide) k) ?_
    show Wp p e below _ (T0.setTop (mkF m 9 #[.val (.int p0), .val (.int p1)] []))
    refine Wp.via (fun _ k => XS.iloadN X0.here hx rfl (hb hby own_d1_9) rfl k) ?_
    show Wp p e below _ (T0.setTop (mkF m 10 #[.val (.int p0), .val (.int p1)] [(.int p1)]))
    exact Wp.retI X0 hlk hx hret (by simp) rfl (hb hby own_d1_10) ⟨by rw [hv1_], NF0, e0⟩ (by decide) (by decide)
  ·
    have hv1_ := hv.trans (if_neg hc1)
    refine Wp.via (fun _ k => XS.icmpNo X0.here hx rfl (hb hby own_d1_2) rfl (flt hc1).2.2.1 k) ?_
    show Wp p e below _ (T0.setTop (mkF m 5 #[.val (.int p0), .val (.int p1)] []))
    refine Wp.via (fun _ k => XS.iloadN X0.here hx rfl (hb hby own_d1_5) rfl k) ?_
    show Wp p e below _ (T0.setTop (mkF m 6 #[.val (.int p0), .val (.int p1)] [(.int p0)]))
    refine Wp.via (fun _ k => XS.goto X0.here hx rfl (pc0 := 6) (pc' := 10) rfl (hb hby own_d1_6) (by decide) (by decide) k) ?_
    show Wp p e below _ (T0.setTop (mkF m 10 #[.val (.int p0), .val (.int p1)] [(.int p0)]))
    exact Wp.retI X0 hlk hx hret (by simp) rfl (hb hby own_d1_10) ⟨by rw [hv1_], NF0, e0⟩ (by decide) (by decide)
def f2_0 (p0 : Int32) (p1 : Int32) : Int32 := (if p0 < p1 then p1 else p0)
theorem own_d2_0 : decode jdk_29_method_65_code 0 = .ok (.iload_n 0, 1) := by decide +kernel
theorem own_d2_1 : decode jdk_29_method_65_code 1 = .ok (.iload_n 1, 1) := by decide +kernel
theorem own_d2_2 : decode jdk_29_method_65_code 2 = .ok (.if_icmp .lt 7, 3) := by decide +kernel
theorem own_d2_5 : decode jdk_29_method_65_code 5 = .ok (.iload_n 0, 1) := by decide +kernel
theorem own_d2_6 : decode jdk_29_method_65_code 6 = .ok (.goto 4, 3) := by decide +kernel
theorem own_d2_9 : decode jdk_29_method_65_code 9 = .ok (.iload_n 1, 1) := by decide +kernel
theorem own_d2_10 : decode jdk_29_method_65_code 10 = .ok (.ireturn, 1) := by decide +kernel
theorem own_pl2 : plainFor (⟨"java/lang/Math", "max", "(II)I"⟩ : MethodName) = true := Jvm.Free.JP.mathPlain rfl (by decide +kernel)
theorem own_ef2 (m : MethodId) (p0 : Int32) (p1 : Int32) : entryFrame m #[(.int p0), (.int p1)] 2 = mkF m 0 #[.val (.int p0), .val (.int p1)] [] := by first | (simp [entryFrame, mkF, argsToLocals, Value.category]; done) | rfl
def Qo2 (Z : State) (p0 : Int32) (p1 : Int32)  (h0 : Heap) (n0 : Nat) (v : Option Value) (h : Heap) (L : List Loc) : Prop := v = some (.int (f2_0 p0 p1)) ∧ Fr n0 L ∧ h = h0
set_option maxRecDepth 65536 in
set_option maxHeartbeats 40000000 in
theorem rm2 (l : Launch) (Z : State) (aw : Array Value) (hw : ∀ d ∈ tables_1, d.before aw Z = true) (ws : List Jvm.Cond) (p0 : Int32) (p1 : Int32)  (h0 : Heap) (n0 : Nat) (Z0 : n0 ≤ h0.size)  :
    MetFree l (⟨"java/lang/Math", "max", "(II)I"⟩ : MethodName) (head1 (Jvm.Cond.code (⟨"java/lang/Math", "max", "(II)I"⟩ : MethodName) jdk_29_method_65_code 2 (some .int) :: ws) ({ frames := 0, cells := 0, slots := 0, locals := 0 } : Room)) (fun a U => a = #[(.int p0), (.int p1)] ∧ Z.Warmed39 U.vm ∧ U.heap = h0) (fun _ _ _ _ _ => True) (fun _ U o U' => ∃ v L, o = .returned v ∧ (Qo2 Z p0 p1 h0 n0) v U'.heap L ∧ FrameEnd U o U' L ({ frames := 0, cells := 0, slots := 0, locals := 0 } : Room).cells ({ frames := 0, cells := 0, slots := 0, locals := 0 } : Room).slots) := by
  refine ofWp (Q := Qo2 Z p0 p1 h0 n0) own_pl2 (fun m => own_ef2 m p0 p1) ?_
  intro p e s m below meth c T0 hx hby hml hown hnm hlk hret hZ X0 e0
  change s.vm.findClass "java/lang/Math" = some m.cls at hown
  have NF0 := Fr.nil n0
  have hv : (f2_0 p0 p1) = (if p0 < p1 then p1 else p0) := rfl
  refine Wp.via (fun _ k => XS.iloadN X0.here hx rfl (hb hby own_d2_0) rfl k) ?_
  show Wp p e below _ (T0.setTop (mkF m 1 #[.val (.int p0), .val (.int p1)] [(.int p0)]))
  refine Wp.via (fun _ k => XS.iloadN X0.here hx rfl (hb hby own_d2_1) rfl k) ?_
  show Wp p e below _ (T0.setTop (mkF m 2 #[.val (.int p0), .val (.int p1)] [(.int p1), (.int p0)]))
  by_cases hc1 : p0 < p1
  ·
    have hv1_ := hv.trans (if_pos hc1)
    refine Wp.via (fun _ k => XS.icmpYes X0.here hx rfl (pc0 := 2) (pc' := 9) rfl (hb hby own_d2_2) rfl (tlt hc1).1 (by decide) (by decide) k) ?_
    show Wp p e below _ (T0.setTop (mkF m 9 #[.val (.int p0), .val (.int p1)] []))
    refine Wp.via (fun _ k => XS.iloadN X0.here hx rfl (hb hby own_d2_9) rfl k) ?_
    show Wp p e below _ (T0.setTop (mkF m 10 #[.val (.int p0), .val (.int p1)] [(.int p1)]))
    exact Wp.retI X0 hlk hx hret (by simp) rfl (hb hby own_d2_10) ⟨by rw [hv1_], NF0, e0⟩ (by decide) (by decide)
  ·
    have hv1_ := hv.trans (if_neg hc1)
    refine Wp.via (fun _ k => XS.icmpNo X0.here hx rfl (hb hby own_d2_2) rfl (flt hc1).1 k) ?_
    show Wp p e below _ (T0.setTop (mkF m 5 #[.val (.int p0), .val (.int p1)] []))
    refine Wp.via (fun _ k => XS.iloadN X0.here hx rfl (hb hby own_d2_5) rfl k) ?_
    show Wp p e below _ (T0.setTop (mkF m 6 #[.val (.int p0), .val (.int p1)] [(.int p0)]))
    refine Wp.via (fun _ k => XS.goto X0.here hx rfl (pc0 := 6) (pc' := 10) rfl (hb hby own_d2_6) (by decide) (by decide) k) ?_
    show Wp p e below _ (T0.setTop (mkF m 10 #[.val (.int p0), .val (.int p1)] [(.int p0)]))
    exact Wp.retI X0 hlk hx hret (by simp) rfl (hb hby own_d2_10) ⟨by rw [hv1_], NF0, e0⟩ (by decide) (by decide)
def f3_42 (x0 : Int32) : Int32 := (if x0 < (65536 : Int32) then (0 : Int32) else (1 : Int32))
def f3_30 (x0 : Int32) : Int32 := (if x0 < (57344 : Int32) then (f3_42 x0) else (if (65533 : Int32) < x0 then (f3_42 x0) else (1 : Int32)))
def f3_0 (p0 : Int32) : Int32 := (if p0 = (9 : Int32) then (1 : Int32) else (if p0 = (10 : Int32) then (1 : Int32) else (if p0 = (13 : Int32) then (1 : Int32) else (if p0 < (32 : Int32) then (f3_30 p0) else (if (55295 : Int32) < p0 then (f3_30 p0) else (1 : Int32))))))
theorem own_d3_0 : decode prog_44_method_22_code 0 = .ok (.iload_n 0, 1) := by decide +kernel
theorem own_d3_1 : decode prog_44_method_22_code 1 = .ok (.bipush 9, 2) := by decide +kernel
theorem own_d3_3 : decode prog_44_method_22_code 3 = .ok (.if_icmp .eq 45, 3) := by decide +kernel
theorem own_d3_6 : decode prog_44_method_22_code 6 = .ok (.iload_n 0, 1) := by decide +kernel
theorem own_d3_7 : decode prog_44_method_22_code 7 = .ok (.bipush 10, 2) := by decide +kernel
theorem own_d3_9 : decode prog_44_method_22_code 9 = .ok (.if_icmp .eq 39, 3) := by decide +kernel
theorem own_d3_12 : decode prog_44_method_22_code 12 = .ok (.iload_n 0, 1) := by decide +kernel
theorem own_d3_13 : decode prog_44_method_22_code 13 = .ok (.bipush 13, 2) := by decide +kernel
theorem own_d3_15 : decode prog_44_method_22_code 15 = .ok (.if_icmp .eq 33, 3) := by decide +kernel
theorem own_d3_18 : decode prog_44_method_22_code 18 = .ok (.iload_n 0, 1) := by decide +kernel
theorem own_d3_19 : decode prog_44_method_22_code 19 = .ok (.bipush 32, 2) := by decide +kernel
theorem own_d3_21 : decode prog_44_method_22_code 21 = .ok (.if_icmp .lt 9, 3) := by decide +kernel
theorem own_d3_24 : decode prog_44_method_22_code 24 = .ok (.iload_n 0, 1) := by decide +kernel
theorem own_d3_25 : decode prog_44_method_22_code 25 = .ok (.ldc 145, 2) := by decide +kernel
theorem own_d3_27 : decode prog_44_method_22_code 27 = .ok (.if_icmp .le 21, 3) := by decide +kernel
theorem own_d3_30 : decode prog_44_method_22_code 30 = .ok (.iload_n 0, 1) := by decide +kernel
theorem own_d3_31 : decode prog_44_method_22_code 31 = .ok (.ldc 146, 2) := by decide +kernel
theorem own_d3_33 : decode prog_44_method_22_code 33 = .ok (.if_icmp .lt 9, 3) := by decide +kernel
theorem own_d3_36 : decode prog_44_method_22_code 36 = .ok (.iload_n 0, 1) := by decide +kernel
theorem own_d3_37 : decode prog_44_method_22_code 37 = .ok (.ldc 147, 2) := by decide +kernel
theorem own_d3_39 : decode prog_44_method_22_code 39 = .ok (.if_icmp .le 9, 3) := by decide +kernel
theorem own_d3_42 : decode prog_44_method_22_code 42 = .ok (.iload_n 0, 1) := by decide +kernel
theorem own_d3_43 : decode prog_44_method_22_code 43 = .ok (.ldc 148, 2) := by decide +kernel
theorem own_d3_45 : decode prog_44_method_22_code 45 = .ok (.if_icmp .lt 7, 3) := by decide +kernel
theorem own_d3_48 : decode prog_44_method_22_code 48 = .ok (.iconst 1, 1) := by decide +kernel
theorem own_d3_49 : decode prog_44_method_22_code 49 = .ok (.goto 4, 3) := by decide +kernel
theorem own_d3_52 : decode prog_44_method_22_code 52 = .ok (.iconst 0, 1) := by decide +kernel
theorem own_d3_53 : decode prog_44_method_22_code 53 = .ok (.ireturn, 1) := by decide +kernel
theorem own_pl3 : plainFor (⟨"com/example/chyld/chyld/XmlChars", "isCharacter", "(I)Z"⟩ : MethodName) = true := plainFor_of_name (by first | (simp [plainName, overriddenIn]; done) | decide +kernel)
theorem own_ef3 (m : MethodId) (p0 : Int32) : entryFrame m #[(.int p0)] 1 = mkF m 0 #[.val (.int p0)] [] := by first | (simp [entryFrame, mkF, argsToLocals, Value.category]; done) | rfl
def Qo3 (Z : State) (p0 : Int32)  (h0 : Heap) (n0 : Nat) (v : Option Value) (h : Heap) (L : List Loc) : Prop := v = some (.int (f3_0 p0)) ∧ Fr n0 L ∧ h = h0
set_option maxRecDepth 65536 in
set_option maxHeartbeats 40000000 in
theorem rm3 (l : Launch) (Z : State) (aw : Array Value) (hw : ∀ d ∈ tables_1, d.before aw Z = true) (ws : List Jvm.Cond) (p0 : Int32)  (h0 : Heap) (n0 : Nat) (Z0 : n0 ≤ h0.size)  :
    MetFree l (⟨"com/example/chyld/chyld/XmlChars", "isCharacter", "(I)Z"⟩ : MethodName) (head1 (Jvm.Cond.code (⟨"com/example/chyld/chyld/XmlChars", "isCharacter", "(I)Z"⟩ : MethodName) prog_44_method_22_code 1 (some .boolean) :: ws) ({ frames := 0, cells := 0, slots := 0, locals := 0 } : Room)) (fun a U => a = #[(.int p0)] ∧ Z.Warmed39 U.vm ∧ U.heap = h0) (fun _ _ _ _ _ => True) (fun _ U o U' => ∃ v L, o = .returned v ∧ (Qo3 Z p0 h0 n0) v U'.heap L ∧ FrameEnd U o U' L ({ frames := 0, cells := 0, slots := 0, locals := 0 } : Room).cells ({ frames := 0, cells := 0, slots := 0, locals := 0 } : Room).slots) := by
  refine ofWp (Q := Qo3 Z p0 h0 n0) own_pl3 (fun m => own_ef3 m p0) ?_
  intro p e s m below meth c T0 hx hby hml hown hnm hlk hret hZ X0 e0
  change s.vm.findClass "com/example/chyld/chyld/XmlChars" = some m.cls at hown
  have NF0 := Fr.nil n0
  have J42 : ∀ (T : State) (locs : List Loc) (cells slots : Nat) (X : Stand p l e ({ frames := 0, cells := 0, slots := 0, locals := 0 } : Room) s m #[(.int p0)] below meth c T locs cells slots) (eT : T.heap = h0) (NF : Fr n0 locs) (hC : cells ≤ 0) (hS : slots ≤ 0) (x0 : Int32) , (f3_0 p0) = (f3_42 x0) → Wp p e below (Gd s (Qo3 Z p0 h0 n0) ({ frames := 0, cells := 0, slots := 0, locals := 0 } : Room).cells ({ frames := 0, cells := 0, slots := 0, locals := 0 } : Room).slots) (T.setTop (mkF m 42 #[.val (.int x0)] [])) := by
    intro T locs cells slots X eT NF hC hS x0 hv
    have hv1 : (f3_0 p0) = (if x0 < (65536 : Int32) then (0 : Int32) else (1 : Int32)) := hv
    refine Wp.via (fun _ k => XS.iloadN X.here hx rfl (hb hby own_d3_42) rfl k) ?_
    show Wp p e below _ (T.setTop (mkF m 43 #[.val (.int x0)] [(.int x0)]))
    refine Wp.via (fun _ k => X.ldcInt hx hown (mvT hZ (hw _ (List.mem_of_getElem? (i := 22) rfl))) (g := (mkF m 43 #[.val (.int x0)] [(.int x0)])) rfl (hb hby own_d3_43) _ k) ?_
    show Wp p e below _ (T.setTop (mkF m 45 #[.val (.int x0)] [(.int (65536 : Int32)), (.int x0)]))
    by_cases hc2 : x0 < (65536 : Int32)
    ·
      have hv2_ := hv1.trans (if_pos hc2)
      refine Wp.via (fun _ k => XS.icmpYes X.here hx rfl (pc0 := 45) (pc' := 52) rfl (hb hby own_d3_45) rfl (tlt hc2).1 (by decide) (by decide) k) ?_
      show Wp p e below _ (T.setTop (mkF m 52 #[.val (.int x0)] []))
      refine Wp.via (fun _ k => XS.iconst X.here hx rfl (hb hby own_d3_52) k) ?_
      show Wp p e below _ (T.setTop (mkF m 53 #[.val (.int x0)] [(.int (0 : Int32))]))
      exact Wp.retI X hlk hx hret (by simp) (by first | rfl | decide) (hb hby own_d3_53) ⟨by rw [hv2_], NF, eT⟩ (by omega) (by omega)
    ·
      have hv2_ := hv1.trans (if_neg hc2)
      refine Wp.via (fun _ k => XS.icmpNo X.here hx rfl (hb hby own_d3_45) rfl (flt hc2).1 k) ?_
      show Wp p e below _ (T.setTop (mkF m 48 #[.val (.int x0)] []))
      refine Wp.via (fun _ k => XS.iconst X.here hx rfl (hb hby own_d3_48) k) ?_
      show Wp p e below _ (T.setTop (mkF m 49 #[.val (.int x0)] [(.int (1 : Int32))]))
      refine Wp.via (fun _ k => XS.goto X.here hx rfl (pc0 := 49) (pc' := 53) rfl (hb hby own_d3_49) (by decide) (by decide) k) ?_
      show Wp p e below _ (T.setTop (mkF m 53 #[.val (.int x0)] [(.int (1 : Int32))]))
      exact Wp.retI X hlk hx hret (by simp) (by first | rfl | decide) (hb hby own_d3_53) ⟨by rw [hv2_], NF, eT⟩ (by omega) (by omega)
  have J30 : ∀ (T : State) (locs : List Loc) (cells slots : Nat) (X : Stand p l e ({ frames := 0, cells := 0, slots := 0, locals := 0 } : Room) s m #[(.int p0)] below meth c T locs cells slots) (eT : T.heap = h0) (NF : Fr n0 locs) (hC : cells ≤ 0) (hS : slots ≤ 0) (x0 : Int32) , (f3_0 p0) = (f3_30 x0) → Wp p e below (Gd s (Qo3 Z p0 h0 n0) ({ frames := 0, cells := 0, slots := 0, locals := 0 } : Room).cells ({ frames := 0, cells := 0, slots := 0, locals := 0 } : Room).slots) (T.setTop (mkF m 30 #[.val (.int x0)] [])) := by
    intro T locs cells slots X eT NF hC hS x0 hv
    have hv3 : (f3_0 p0) = (if x0 < (57344 : Int32) then (f3_42 x0) else (if (65533 : Int32) < x0 then (f3_42 x0) else (1 : Int32))) := hv
    refine Wp.via (fun _ k => XS.iloadN X.here hx rfl (hb hby own_d3_30) rfl k) ?_
    show Wp p e below _ (T.setTop (mkF m 31 #[.val (.int x0)] [(.int x0)]))
    refine Wp.via (fun _ k => X.ldcInt hx hown (mvT hZ (hw _ (List.mem_of_getElem? (i := 21) rfl))) (g := (mkF m 31 #[.val (.int x0)] [(.int x0)])) rfl (hb hby own_d3_31) _ k) ?_
    show Wp p e below _ (T.setTop (mkF m 33 #[.val (.int x0)] [(.int (57344 : Int32)), (.int x0)]))
    by_cases hc4 : x0 < (57344 : Int32)
    ·
      have hv4_ := hv3.trans (if_pos hc4)
      refine Wp.via (fun _ k => XS.icmpYes X.here hx rfl (pc0 := 33) (pc' := 42) rfl (hb hby own_d3_33) rfl (tlt hc4).1 (by decide) (by decide) k) ?_
      show Wp p e below _ (T.setTop (mkF m 42 #[.val (.int x0)] []))
      exact J42 T _ _ _ X eT NF (by omega) (by omega) x0 hv4_
    ·
      have hv4_ := hv3.trans (if_neg hc4)
      refine Wp.via (fun _ k => XS.icmpNo X.here hx rfl (hb hby own_d3_33) rfl (flt hc4).1 k) ?_
      show Wp p e below _ (T.setTop (mkF m 36 #[.val (.int x0)] []))
      refine Wp.via (fun _ k => XS.iloadN X.here hx rfl (hb hby own_d3_36) rfl k) ?_
      show Wp p e below _ (T.setTop (mkF m 37 #[.val (.int x0)] [(.int x0)]))
      refine Wp.via (fun _ k => X.ldcInt hx hown (mvT hZ (hw _ (List.mem_of_getElem? (i := 30) rfl))) (g := (mkF m 37 #[.val (.int x0)] [(.int x0)])) rfl (hb hby own_d3_37) _ k) ?_
      show Wp p e below _ (T.setTop (mkF m 39 #[.val (.int x0)] [(.int (65533 : Int32)), (.int x0)]))
      by_cases hc5 : (65533 : Int32) < x0
      ·
        have hv5_ := hv4_.trans (if_pos hc5)
        refine Wp.via (fun _ k => XS.icmpNo X.here hx rfl (hb hby own_d3_39) rfl (tlt hc5).2.2.2 k) ?_
        show Wp p e below _ (T.setTop (mkF m 42 #[.val (.int x0)] []))
        exact J42 T _ _ _ X eT NF (by omega) (by omega) x0 hv5_
      ·
        have hv5_ := hv4_.trans (if_neg hc5)
        refine Wp.via (fun _ k => XS.icmpYes X.here hx rfl (pc0 := 39) (pc' := 48) rfl (hb hby own_d3_39) rfl (flt hc5).2.2.2 (by decide) (by decide) k) ?_
        show Wp p e below _ (T.setTop (mkF m 48 #[.val (.int x0)] []))
        refine Wp.via (fun _ k => XS.iconst X.here hx rfl (hb hby own_d3_48) k) ?_
        show Wp p e below _ (T.setTop (mkF m 49 #[.val (.int x0)] [(.int (1 : Int32))]))
        refine Wp.via (fun _ k => XS.goto X.here hx rfl (pc0 := 49) (pc' := 53) rfl (hb hby own_d3_49) (by decide) (by decide) k) ?_
        show Wp p e below _ (T.setTop (mkF m 53 #[.val (.int x0)] [(.int (1 : Int32))]))
        exact Wp.retI X hlk hx hret (by simp) (by first | rfl | decide) (hb hby own_d3_53) ⟨by rw [hv5_], NF, eT⟩ (by omega) (by omega)
  have hv : (f3_0 p0) = (if p0 = (9 : Int32) then (1 : Int32) else (if p0 = (10 : Int32) then (1 : Int32) else (if p0 = (13 : Int32) then (1 : Int32) else (if p0 < (32 : Int32) then (f3_30 p0) else (if (55295 : Int32) < p0 then (f3_30 p0) else (1 : Int32)))))) := rfl
  refine Wp.via (fun _ k => XS.iloadN X0.here hx rfl (hb hby own_d3_0) rfl k) ?_
  show Wp p e below _ (T0.setTop (mkF m 1 #[.val (.int p0)] [(.int p0)]))
  refine Wp.via (fun _ k => XS.bipush X0.here hx rfl (hb hby own_d3_1) k) ?_
  show Wp p e below _ (T0.setTop (mkF m 3 #[.val (.int p0)] [(.int (9 : Int32)), (.int p0)]))
  by_cases hc6 : p0 = (9 : Int32)
  ·
    have hv6_ := hv.trans (if_pos hc6)
    refine Wp.via (fun _ k => XS.icmpYes X0.here hx rfl (pc0 := 3) (pc' := 48) rfl (hb hby own_d3_3) rfl (teq hc6).1 (by decide) (by decide) k) ?_
    show Wp p e below _ (T0.setTop (mkF m 48 #[.val (.int p0)] []))
    refine Wp.via (fun _ k => XS.iconst X0.here hx rfl (hb hby own_d3_48) k) ?_
    show Wp p e below _ (T0.setTop (mkF m 49 #[.val (.int p0)] [(.int (1 : Int32))]))
    refine Wp.via (fun _ k => XS.goto X0.here hx rfl (pc0 := 49) (pc' := 53) rfl (hb hby own_d3_49) (by decide) (by decide) k) ?_
    show Wp p e below _ (T0.setTop (mkF m 53 #[.val (.int p0)] [(.int (1 : Int32))]))
    exact Wp.retI X0 hlk hx hret (by simp) (by first | rfl | decide) (hb hby own_d3_53) ⟨by rw [hv6_], NF0, e0⟩ (by decide) (by decide)
  ·
    have hv6_ := hv.trans (if_neg hc6)
    refine Wp.via (fun _ k => XS.icmpNo X0.here hx rfl (hb hby own_d3_3) rfl (feq hc6).1 k) ?_
    show Wp p e below _ (T0.setTop (mkF m 6 #[.val (.int p0)] []))
    refine Wp.via (fun _ k => XS.iloadN X0.here hx rfl (hb hby own_d3_6) rfl k) ?_
    show Wp p e below _ (T0.setTop (mkF m 7 #[.val (.int p0)] [(.int p0)]))
    refine Wp.via (fun _ k => XS.bipush X0.here hx rfl (hb hby own_d3_7) k) ?_
    show Wp p e below _ (T0.setTop (mkF m 9 #[.val (.int p0)] [(.int (10 : Int32)), (.int p0)]))
    by_cases hc7 : p0 = (10 : Int32)
    ·
      have hv7_ := hv6_.trans (if_pos hc7)
      refine Wp.via (fun _ k => XS.icmpYes X0.here hx rfl (pc0 := 9) (pc' := 48) rfl (hb hby own_d3_9) rfl (teq hc7).1 (by decide) (by decide) k) ?_
      show Wp p e below _ (T0.setTop (mkF m 48 #[.val (.int p0)] []))
      refine Wp.via (fun _ k => XS.iconst X0.here hx rfl (hb hby own_d3_48) k) ?_
      show Wp p e below _ (T0.setTop (mkF m 49 #[.val (.int p0)] [(.int (1 : Int32))]))
      refine Wp.via (fun _ k => XS.goto X0.here hx rfl (pc0 := 49) (pc' := 53) rfl (hb hby own_d3_49) (by decide) (by decide) k) ?_
      show Wp p e below _ (T0.setTop (mkF m 53 #[.val (.int p0)] [(.int (1 : Int32))]))
      exact Wp.retI X0 hlk hx hret (by simp) (by first | rfl | decide) (hb hby own_d3_53) ⟨by rw [hv7_], NF0, e0⟩ (by decide) (by decide)
    ·
      have hv7_ := hv6_.trans (if_neg hc7)
      refine Wp.via (fun _ k => XS.icmpNo X0.here hx rfl (hb hby own_d3_9) rfl (feq hc7).1 k) ?_
      show Wp p e below _ (T0.setTop (mkF m 12 #[.val (.int p0)] []))
      refine Wp.via (fun _ k => XS.iloadN X0.here hx rfl (hb hby own_d3_12) rfl k) ?_
      show Wp p e below _ (T0.setTop (mkF m 13 #[.val (.int p0)] [(.int p0)]))
      refine Wp.via (fun _ k => XS.bipush X0.here hx rfl (hb hby own_d3_13) k) ?_
      show Wp p e below _ (T0.setTop (mkF m 15 #[.val (.int p0)] [(.int (13 : Int32)), (.int p0)]))
      by_cases hc8 : p0 = (13 : Int32)
      ·
        have hv8_ := hv7_.trans (if_pos hc8)
        refine Wp.via (fun _ k => XS.icmpYes X0.here hx rfl (pc0 := 15) (pc' := 48) rfl (hb hby own_d3_15) rfl (teq hc8).1 (by decide) (by decide) k) ?_
        show Wp p e below _ (T0.setTop (mkF m 48 #[.val (.int p0)] []))
        refine Wp.via (fun _ k => XS.iconst X0.here hx rfl (hb hby own_d3_48) k) ?_
        show Wp p e below _ (T0.setTop (mkF m 49 #[.val (.int p0)] [(.int (1 : Int32))]))
        refine Wp.via (fun _ k => XS.goto X0.here hx rfl (pc0 := 49) (pc' := 53) rfl (hb hby own_d3_49) (by decide) (by decide) k) ?_
        show Wp p e below _ (T0.setTop (mkF m 53 #[.val (.int p0)] [(.int (1 : Int32))]))
        exact Wp.retI X0 hlk hx hret (by simp) (by first | rfl | decide) (hb hby own_d3_53) ⟨by rw [hv8_], NF0, e0⟩ (by decide) (by decide)
      ·
        have hv8_ := hv7_.trans (if_neg hc8)
        refine Wp.via (fun _ k => XS.icmpNo X0.here hx rfl (hb hby own_d3_15) rfl (feq hc8).1 k) ?_
        show Wp p e below _ (T0.setTop (mkF m 18 #[.val (.int p0)] []))
        refine Wp.via (fun _ k => XS.iloadN X0.here hx rfl (hb hby own_d3_18) rfl k) ?_
        show Wp p e below _ (T0.setTop (mkF m 19 #[.val (.int p0)] [(.int p0)]))
        refine Wp.via (fun _ k => XS.bipush X0.here hx rfl (hb hby own_d3_19) k) ?_
        show Wp p e below _ (T0.setTop (mkF m 21 #[.val (.int p0)] [(.int (32 : Int32)), (.int p0)]))
        by_cases hc9 : p0 < (32 : Int32)
        ·
          have hv9_ := hv8_.trans (if_pos hc9)
          refine Wp.via (fun _ k => XS.icmpYes X0.here hx rfl (pc0 := 21) (pc' := 30) rfl (hb hby own_d3_21) rfl (tlt hc9).1 (by decide) (by decide) k) ?_
          show Wp p e below _ (T0.setTop (mkF m 30 #[.val (.int p0)] []))
          exact J30 T0 _ _ _ X0 e0 NF0 (by decide) (by decide) p0 hv9_
        ·
          have hv9_ := hv8_.trans (if_neg hc9)
          refine Wp.via (fun _ k => XS.icmpNo X0.here hx rfl (hb hby own_d3_21) rfl (flt hc9).1 k) ?_
          show Wp p e below _ (T0.setTop (mkF m 24 #[.val (.int p0)] []))
          refine Wp.via (fun _ k => XS.iloadN X0.here hx rfl (hb hby own_d3_24) rfl k) ?_
          show Wp p e below _ (T0.setTop (mkF m 25 #[.val (.int p0)] [(.int p0)]))
          refine Wp.via (fun _ k => X0.ldcInt hx hown (mvT hZ (hw _ (List.mem_of_getElem? (i := 29) rfl))) (g := (mkF m 25 #[.val (.int p0)] [(.int p0)])) rfl (hb hby own_d3_25) _ k) ?_
          show Wp p e below _ (T0.setTop (mkF m 27 #[.val (.int p0)] [(.int (55295 : Int32)), (.int p0)]))
          by_cases hc10 : (55295 : Int32) < p0
          ·
            have hv10_ := hv9_.trans (if_pos hc10)
            refine Wp.via (fun _ k => XS.icmpNo X0.here hx rfl (hb hby own_d3_27) rfl (tlt hc10).2.2.2 k) ?_
            show Wp p e below _ (T0.setTop (mkF m 30 #[.val (.int p0)] []))
            exact J30 T0 _ _ _ X0 e0 NF0 (by decide) (by decide) p0 hv10_
          ·
            have hv10_ := hv9_.trans (if_neg hc10)
            refine Wp.via (fun _ k => XS.icmpYes X0.here hx rfl (pc0 := 27) (pc' := 48) rfl (hb hby own_d3_27) rfl (flt hc10).2.2.2 (by decide) (by decide) k) ?_
            show Wp p e below _ (T0.setTop (mkF m 48 #[.val (.int p0)] []))
            refine Wp.via (fun _ k => XS.iconst X0.here hx rfl (hb hby own_d3_48) k) ?_
            show Wp p e below _ (T0.setTop (mkF m 49 #[.val (.int p0)] [(.int (1 : Int32))]))
            refine Wp.via (fun _ k => XS.goto X0.here hx rfl (pc0 := 49) (pc' := 53) rfl (hb hby own_d3_49) (by decide) (by decide) k) ?_
            show Wp p e below _ (T0.setTop (mkF m 53 #[.val (.int p0)] [(.int (1 : Int32))]))
            exact Wp.retI X0 hlk hx hret (by simp) (by first | rfl | decide) (hb hby own_d3_53) ⟨by rw [hv10_], NF0, e0⟩ (by decide) (by decide)
def f4_0 (p0 : Int32) : Int32 := (if p0 < (32 : Int32) then (if p0 = (9 : Int32) then (1 : Int32) else (if p0 = (10 : Int32) then (1 : Int32) else (if p0 = (13 : Int32) then (1 : Int32) else (0 : Int32)))) else (if p0 < (55296 : Int32) then (1 : Int32) else (if p0 < (57344 : Int32) then (0 : Int32) else (if p0 < (65536 : Int32) then (if p0 = (65534 : Int32) then (0 : Int32) else (if p0 = (65535 : Int32) then (0 : Int32) else (1 : Int32))) else (1 : Int32)))))
theorem own_d4_0 : decode method_3_code 0 = .ok (.iload_n 0, 1) := by decide +kernel
theorem own_d4_1 : decode method_3_code 1 = .ok (.bipush 32, 2) := by decide +kernel
theorem own_d4_3 : decode method_3_code 3 = .ok (.if_icmp .ge 30, 3) := by decide +kernel
theorem own_d4_6 : decode method_3_code 6 = .ok (.iload_n 0, 1) := by decide +kernel
theorem own_d4_7 : decode method_3_code 7 = .ok (.bipush 9, 2) := by decide +kernel
theorem own_d4_9 : decode method_3_code 9 = .ok (.if_icmp .eq 15, 3) := by decide +kernel
theorem own_d4_12 : decode method_3_code 12 = .ok (.iload_n 0, 1) := by decide +kernel
theorem own_d4_13 : decode method_3_code 13 = .ok (.bipush 10, 2) := by decide +kernel
theorem own_d4_15 : decode method_3_code 15 = .ok (.if_icmp .eq 9, 3) := by decide +kernel
theorem own_d4_18 : decode method_3_code 18 = .ok (.iload_n 0, 1) := by decide +kernel
theorem own_d4_19 : decode method_3_code 19 = .ok (.bipush 13, 2) := by decide +kernel
theorem own_d4_21 : decode method_3_code 21 = .ok (.if_icmp .ne 7, 3) := by decide +kernel
theorem own_d4_24 : decode method_3_code 24 = .ok (.iconst 1, 1) := by decide +kernel
theorem own_d4_25 : decode method_3_code 25 = .ok (.goto 4, 3) := by decide +kernel
theorem own_d4_28 : decode method_3_code 28 = .ok (.iconst 0, 1) := by decide +kernel
theorem own_d4_29 : decode method_3_code 29 = .ok (.istore_n 1, 1) := by decide +kernel
theorem own_d4_30 : decode method_3_code 30 = .ok (.goto 54, 3) := by decide +kernel
theorem own_d4_33 : decode method_3_code 33 = .ok (.iload_n 0, 1) := by decide +kernel
theorem own_d4_34 : decode method_3_code 34 = .ok (.ldc 10, 2) := by decide +kernel
theorem own_d4_36 : decode method_3_code 36 = .ok (.if_icmp .ge 8, 3) := by decide +kernel
theorem own_d4_39 : decode method_3_code 39 = .ok (.iconst 1, 1) := by decide +kernel
theorem own_d4_40 : decode method_3_code 40 = .ok (.istore_n 1, 1) := by decide +kernel
theorem own_d4_41 : decode method_3_code 41 = .ok (.goto 43, 3) := by decide +kernel
theorem own_d4_44 : decode method_3_code 44 = .ok (.iload_n 0, 1) := by decide +kernel
theorem own_d4_45 : decode method_3_code 45 = .ok (.ldc 12, 2) := by decide +kernel
theorem own_d4_47 : decode method_3_code 47 = .ok (.if_icmp .ge 8, 3) := by decide +kernel
theorem own_d4_50 : decode method_3_code 50 = .ok (.iconst 0, 1) := by decide +kernel
theorem own_d4_51 : decode method_3_code 51 = .ok (.istore_n 1, 1) := by decide +kernel
theorem own_d4_52 : decode method_3_code 52 = .ok (.goto 32, 3) := by decide +kernel
theorem own_d4_55 : decode method_3_code 55 = .ok (.iload_n 0, 1) := by decide +kernel
theorem own_d4_56 : decode method_3_code 56 = .ok (.ldc 16, 2) := by decide +kernel
theorem own_d4_58 : decode method_3_code 58 = .ok (.if_icmp .ge 24, 3) := by decide +kernel
theorem own_d4_61 : decode method_3_code 61 = .ok (.iload_n 0, 1) := by decide +kernel
theorem own_d4_62 : decode method_3_code 62 = .ok (.ldc 14, 2) := by decide +kernel
theorem own_d4_64 : decode method_3_code 64 = .ok (.if_icmp .eq 13, 3) := by decide +kernel
theorem own_d4_67 : decode method_3_code 67 = .ok (.iload_n 0, 1) := by decide +kernel
theorem own_d4_68 : decode method_3_code 68 = .ok (.ldc 15, 2) := by decide +kernel
theorem own_d4_70 : decode method_3_code 70 = .ok (.if_icmp .eq 7, 3) := by decide +kernel
theorem own_d4_73 : decode method_3_code 73 = .ok (.iconst 1, 1) := by decide +kernel
theorem own_d4_74 : decode method_3_code 74 = .ok (.goto 4, 3) := by decide +kernel
theorem own_d4_77 : decode method_3_code 77 = .ok (.iconst 0, 1) := by decide +kernel
theorem own_d4_78 : decode method_3_code 78 = .ok (.istore_n 1, 1) := by decide +kernel
theorem own_d4_79 : decode method_3_code 79 = .ok (.goto 5, 3) := by decide +kernel
theorem own_d4_82 : decode method_3_code 82 = .ok (.iconst 1, 1) := by decide +kernel
theorem own_d4_83 : decode method_3_code 83 = .ok (.istore_n 1, 1) := by decide +kernel
theorem own_d4_84 : decode method_3_code 84 = .ok (.iload_n 1, 1) := by decide +kernel
theorem own_d4_85 : decode method_3_code 85 = .ok (.ireturn, 1) := by decide +kernel
theorem own_pl4 : plainFor (⟨"com/example/chyld/chyld/XmlCharsIsCharacterPinLaw", "reference", "(I)Z"⟩ : MethodName) = true := plainFor_of_name (by first | (simp [plainName, overriddenIn]; done) | decide +kernel)
theorem own_ef4 (m : MethodId) (p0 : Int32) : entryFrame m #[(.int p0)] 2 = mkF m 0 #[.val (.int p0), .unset] [] := by first | (simp [entryFrame, mkF, argsToLocals, Value.category]; done) | rfl
def Qo4 (Z : State) (p0 : Int32)  (h0 : Heap) (n0 : Nat) (v : Option Value) (h : Heap) (L : List Loc) : Prop := v = some (.int (f4_0 p0)) ∧ Fr n0 L ∧ h = h0
set_option maxRecDepth 65536 in
set_option maxHeartbeats 40000000 in
theorem rm4 (l : Launch) (Z : State) (aw : Array Value) (hw : ∀ d ∈ tables_1, d.before aw Z = true) (ws : List Jvm.Cond) (p0 : Int32)  (h0 : Heap) (n0 : Nat) (Z0 : n0 ≤ h0.size)  :
    MetFree l (⟨"com/example/chyld/chyld/XmlCharsIsCharacterPinLaw", "reference", "(I)Z"⟩ : MethodName) (head1 (Jvm.Cond.code (⟨"com/example/chyld/chyld/XmlCharsIsCharacterPinLaw", "reference", "(I)Z"⟩ : MethodName) method_3_code 2 (some .boolean) :: ws) ({ frames := 0, cells := 0, slots := 0, locals := 0 } : Room)) (fun a U => a = #[(.int p0)] ∧ Z.Warmed39 U.vm ∧ U.heap = h0) (fun _ _ _ _ _ => True) (fun _ U o U' => ∃ v L, o = .returned v ∧ (Qo4 Z p0 h0 n0) v U'.heap L ∧ FrameEnd U o U' L ({ frames := 0, cells := 0, slots := 0, locals := 0 } : Room).cells ({ frames := 0, cells := 0, slots := 0, locals := 0 } : Room).slots) := by
  refine ofWp (Q := Qo4 Z p0 h0 n0) own_pl4 (fun m => own_ef4 m p0) ?_
  intro p e s m below meth c T0 hx hby hml hown hnm hlk hret hZ X0 e0
  change s.vm.findClass "com/example/chyld/chyld/XmlCharsIsCharacterPinLaw" = some m.cls at hown
  have NF0 := Fr.nil n0
  have hv : (f4_0 p0) = (if p0 < (32 : Int32) then (if p0 = (9 : Int32) then (1 : Int32) else (if p0 = (10 : Int32) then (1 : Int32) else (if p0 = (13 : Int32) then (1 : Int32) else (0 : Int32)))) else (if p0 < (55296 : Int32) then (1 : Int32) else (if p0 < (57344 : Int32) then (0 : Int32) else (if p0 < (65536 : Int32) then (if p0 = (65534 : Int32) then (0 : Int32) else (if p0 = (65535 : Int32) then (0 : Int32) else (1 : Int32))) else (1 : Int32))))) := rfl
  refine Wp.via (fun _ k => XS.iloadN X0.here hx rfl (hb hby own_d4_0) rfl k) ?_
  show Wp p e below _ (T0.setTop (mkF m 1 #[.val (.int p0), .unset] [(.int p0)]))
  refine Wp.via (fun _ k => XS.bipush X0.here hx rfl (hb hby own_d4_1) k) ?_
  show Wp p e below _ (T0.setTop (mkF m 3 #[.val (.int p0), .unset] [(.int (32 : Int32)), (.int p0)]))
  by_cases hc1 : p0 < (32 : Int32)
  ·
    have hv1_ := hv.trans (if_pos hc1)
    refine Wp.via (fun _ k => XS.icmpNo X0.here hx rfl (hb hby own_d4_3) rfl (tlt hc1).2.1 k) ?_
    show Wp p e below _ (T0.setTop (mkF m 6 #[.val (.int p0), .unset] []))
    refine Wp.via (fun _ k => XS.iloadN X0.here hx rfl (hb hby own_d4_6) rfl k) ?_
    show Wp p e below _ (T0.setTop (mkF m 7 #[.val (.int p0), .unset] [(.int p0)]))
    refine Wp.via (fun _ k => XS.bipush X0.here hx rfl (hb hby own_d4_7) k) ?_
    show Wp p e below _ (T0.setTop (mkF m 9 #[.val (.int p0), .unset] [(.int (9 : Int32)), (.int p0)]))
    by_cases hc2 : p0 = (9 : Int32)
    ·
      have hv2_ := hv1_.trans (if_pos hc2)
      refine Wp.via (fun _ k => XS.icmpYes X0.here hx rfl (pc0 := 9) (pc' := 24) rfl (hb hby own_d4_9) rfl (teq hc2).1 (by decide) (by decide) k) ?_
      show Wp p e below _ (T0.setTop (mkF m 24 #[.val (.int p0), .unset] []))
      refine Wp.via (fun _ k => XS.iconst X0.here hx rfl (hb hby own_d4_24) k) ?_
      show Wp p e below _ (T0.setTop (mkF m 25 #[.val (.int p0), .unset] [(.int (1 : Int32))]))
      refine Wp.via (fun _ k => XS.goto X0.here hx rfl (pc0 := 25) (pc' := 29) rfl (hb hby own_d4_25) (by decide) (by decide) k) ?_
      show Wp p e below _ (T0.setTop (mkF m 29 #[.val (.int p0), .unset] [(.int (1 : Int32))]))
      refine Wp.via (fun _ k => XS.istoreN X0.here hx rfl (hb hby own_d4_29) rfl (l' := #[.val (.int p0), .val (.int (1 : Int32))]) rfl k) ?_
      show Wp p e below _ (T0.setTop (mkF m 30 #[.val (.int p0), .val (.int (1 : Int32))] []))
      refine Wp.via (fun _ k => XS.goto X0.here hx rfl (pc0 := 30) (pc' := 84) rfl (hb hby own_d4_30) (by decide) (by decide) k) ?_
      show Wp p e below _ (T0.setTop (mkF m 84 #[.val (.int p0), .val (.int (1 : Int32))] []))
      refine Wp.via (fun _ k => XS.iloadN X0.here hx rfl (hb hby own_d4_84) rfl k) ?_
      show Wp p e below _ (T0.setTop (mkF m 85 #[.val (.int p0), .val (.int (1 : Int32))] [(.int (1 : Int32))]))
      exact Wp.retI X0 hlk hx hret (by simp) (by first | rfl | decide) (hb hby own_d4_85) ⟨by rw [hv2_], NF0, e0⟩ (by decide) (by decide)
    ·
      have hv2_ := hv1_.trans (if_neg hc2)
      refine Wp.via (fun _ k => XS.icmpNo X0.here hx rfl (hb hby own_d4_9) rfl (feq hc2).1 k) ?_
      show Wp p e below _ (T0.setTop (mkF m 12 #[.val (.int p0), .unset] []))
      refine Wp.via (fun _ k => XS.iloadN X0.here hx rfl (hb hby own_d4_12) rfl k) ?_
      show Wp p e below _ (T0.setTop (mkF m 13 #[.val (.int p0), .unset] [(.int p0)]))
      refine Wp.via (fun _ k => XS.bipush X0.here hx rfl (hb hby own_d4_13) k) ?_
      show Wp p e below _ (T0.setTop (mkF m 15 #[.val (.int p0), .unset] [(.int (10 : Int32)), (.int p0)]))
      by_cases hc3 : p0 = (10 : Int32)
      ·
        have hv3_ := hv2_.trans (if_pos hc3)
        refine Wp.via (fun _ k => XS.icmpYes X0.here hx rfl (pc0 := 15) (pc' := 24) rfl (hb hby own_d4_15) rfl (teq hc3).1 (by decide) (by decide) k) ?_
        show Wp p e below _ (T0.setTop (mkF m 24 #[.val (.int p0), .unset] []))
        refine Wp.via (fun _ k => XS.iconst X0.here hx rfl (hb hby own_d4_24) k) ?_
        show Wp p e below _ (T0.setTop (mkF m 25 #[.val (.int p0), .unset] [(.int (1 : Int32))]))
        refine Wp.via (fun _ k => XS.goto X0.here hx rfl (pc0 := 25) (pc' := 29) rfl (hb hby own_d4_25) (by decide) (by decide) k) ?_
        show Wp p e below _ (T0.setTop (mkF m 29 #[.val (.int p0), .unset] [(.int (1 : Int32))]))
        refine Wp.via (fun _ k => XS.istoreN X0.here hx rfl (hb hby own_d4_29) rfl (l' := #[.val (.int p0), .val (.int (1 : Int32))]) rfl k) ?_
        show Wp p e below _ (T0.setTop (mkF m 30 #[.val (.int p0), .val (.int (1 : Int32))] []))
        refine Wp.via (fun _ k => XS.goto X0.here hx rfl (pc0 := 30) (pc' := 84) rfl (hb hby own_d4_30) (by decide) (by decide) k) ?_
        show Wp p e below _ (T0.setTop (mkF m 84 #[.val (.int p0), .val (.int (1 : Int32))] []))
        refine Wp.via (fun _ k => XS.iloadN X0.here hx rfl (hb hby own_d4_84) rfl k) ?_
        show Wp p e below _ (T0.setTop (mkF m 85 #[.val (.int p0), .val (.int (1 : Int32))] [(.int (1 : Int32))]))
        exact Wp.retI X0 hlk hx hret (by simp) (by first | rfl | decide) (hb hby own_d4_85) ⟨by rw [hv3_], NF0, e0⟩ (by decide) (by decide)
      ·
        have hv3_ := hv2_.trans (if_neg hc3)
        refine Wp.via (fun _ k => XS.icmpNo X0.here hx rfl (hb hby own_d4_15) rfl (feq hc3).1 k) ?_
        show Wp p e below _ (T0.setTop (mkF m 18 #[.val (.int p0), .unset] []))
        refine Wp.via (fun _ k => XS.iloadN X0.here hx rfl (hb hby own_d4_18) rfl k) ?_
        show Wp p e below _ (T0.setTop (mkF m 19 #[.val (.int p0), .unset] [(.int p0)]))
        refine Wp.via (fun _ k => XS.bipush X0.here hx rfl (hb hby own_d4_19) k) ?_
        show Wp p e below _ (T0.setTop (mkF m 21 #[.val (.int p0), .unset] [(.int (13 : Int32)), (.int p0)]))
        by_cases hc4 : p0 = (13 : Int32)
        ·
          have hv4_ := hv3_.trans (if_pos hc4)
          refine Wp.via (fun _ k => XS.icmpNo X0.here hx rfl (hb hby own_d4_21) rfl (teq hc4).2 k) ?_
          show Wp p e below _ (T0.setTop (mkF m 24 #[.val (.int p0), .unset] []))
          refine Wp.via (fun _ k => XS.iconst X0.here hx rfl (hb hby own_d4_24) k) ?_
          show Wp p e below _ (T0.setTop (mkF m 25 #[.val (.int p0), .unset] [(.int (1 : Int32))]))
          refine Wp.via (fun _ k => XS.goto X0.here hx rfl (pc0 := 25) (pc' := 29) rfl (hb hby own_d4_25) (by decide) (by decide) k) ?_
          show Wp p e below _ (T0.setTop (mkF m 29 #[.val (.int p0), .unset] [(.int (1 : Int32))]))
          refine Wp.via (fun _ k => XS.istoreN X0.here hx rfl (hb hby own_d4_29) rfl (l' := #[.val (.int p0), .val (.int (1 : Int32))]) rfl k) ?_
          show Wp p e below _ (T0.setTop (mkF m 30 #[.val (.int p0), .val (.int (1 : Int32))] []))
          refine Wp.via (fun _ k => XS.goto X0.here hx rfl (pc0 := 30) (pc' := 84) rfl (hb hby own_d4_30) (by decide) (by decide) k) ?_
          show Wp p e below _ (T0.setTop (mkF m 84 #[.val (.int p0), .val (.int (1 : Int32))] []))
          refine Wp.via (fun _ k => XS.iloadN X0.here hx rfl (hb hby own_d4_84) rfl k) ?_
          show Wp p e below _ (T0.setTop (mkF m 85 #[.val (.int p0), .val (.int (1 : Int32))] [(.int (1 : Int32))]))
          exact Wp.retI X0 hlk hx hret (by simp) (by first | rfl | decide) (hb hby own_d4_85) ⟨by rw [hv4_], NF0, e0⟩ (by decide) (by decide)
        ·
          have hv4_ := hv3_.trans (if_neg hc4)
          refine Wp.via (fun _ k => XS.icmpYes X0.here hx rfl (pc0 := 21) (pc' := 28) rfl (hb hby own_d4_21) rfl (feq hc4).2 (by decide) (by decide) k) ?_
          show Wp p e below _ (T0.setTop (mkF m 28 #[.val (.int p0), .unset] []))
          refine Wp.via (fun _ k => XS.iconst X0.here hx rfl (hb hby own_d4_28) k) ?_
          show Wp p e below _ (T0.setTop (mkF m 29 #[.val (.int p0), .unset] [(.int (0 : Int32))]))
          refine Wp.via (fun _ k => XS.istoreN X0.here hx rfl (hb hby own_d4_29) rfl (l' := #[.val (.int p0), .val (.int (0 : Int32))]) rfl k) ?_
          show Wp p e below _ (T0.setTop (mkF m 30 #[.val (.int p0), .val (.int (0 : Int32))] []))
          refine Wp.via (fun _ k => XS.goto X0.here hx rfl (pc0 := 30) (pc' := 84) rfl (hb hby own_d4_30) (by decide) (by decide) k) ?_
          show Wp p e below _ (T0.setTop (mkF m 84 #[.val (.int p0), .val (.int (0 : Int32))] []))
          refine Wp.via (fun _ k => XS.iloadN X0.here hx rfl (hb hby own_d4_84) rfl k) ?_
          show Wp p e below _ (T0.setTop (mkF m 85 #[.val (.int p0), .val (.int (0 : Int32))] [(.int (0 : Int32))]))
          exact Wp.retI X0 hlk hx hret (by simp) (by first | rfl | decide) (hb hby own_d4_85) ⟨by rw [hv4_], NF0, e0⟩ (by decide) (by decide)
  ·
    have hv1_ := hv.trans (if_neg hc1)
    refine Wp.via (fun _ k => XS.icmpYes X0.here hx rfl (pc0 := 3) (pc' := 33) rfl (hb hby own_d4_3) rfl (flt hc1).2.1 (by decide) (by decide) k) ?_
    show Wp p e below _ (T0.setTop (mkF m 33 #[.val (.int p0), .unset] []))
    refine Wp.via (fun _ k => XS.iloadN X0.here hx rfl (hb hby own_d4_33) rfl k) ?_
    show Wp p e below _ (T0.setTop (mkF m 34 #[.val (.int p0), .unset] [(.int p0)]))
    refine Wp.via (fun _ k => X0.ldcInt hx hown (mvT hZ (hw _ (List.mem_of_getElem? (i := 2) rfl))) (g := (mkF m 34 #[.val (.int p0), .unset] [(.int p0)])) rfl (hb hby own_d4_34) _ k) ?_
    show Wp p e below _ (T0.setTop (mkF m 36 #[.val (.int p0), .unset] [(.int (55296 : Int32)), (.int p0)]))
    by_cases hc5 : p0 < (55296 : Int32)
    ·
      have hv5_ := hv1_.trans (if_pos hc5)
      refine Wp.via (fun _ k => XS.icmpNo X0.here hx rfl (hb hby own_d4_36) rfl (tlt hc5).2.1 k) ?_
      show Wp p e below _ (T0.setTop (mkF m 39 #[.val (.int p0), .unset] []))
      refine Wp.via (fun _ k => XS.iconst X0.here hx rfl (hb hby own_d4_39) k) ?_
      show Wp p e below _ (T0.setTop (mkF m 40 #[.val (.int p0), .unset] [(.int (1 : Int32))]))
      refine Wp.via (fun _ k => XS.istoreN X0.here hx rfl (hb hby own_d4_40) rfl (l' := #[.val (.int p0), .val (.int (1 : Int32))]) rfl k) ?_
      show Wp p e below _ (T0.setTop (mkF m 41 #[.val (.int p0), .val (.int (1 : Int32))] []))
      refine Wp.via (fun _ k => XS.goto X0.here hx rfl (pc0 := 41) (pc' := 84) rfl (hb hby own_d4_41) (by decide) (by decide) k) ?_
      show Wp p e below _ (T0.setTop (mkF m 84 #[.val (.int p0), .val (.int (1 : Int32))] []))
      refine Wp.via (fun _ k => XS.iloadN X0.here hx rfl (hb hby own_d4_84) rfl k) ?_
      show Wp p e below _ (T0.setTop (mkF m 85 #[.val (.int p0), .val (.int (1 : Int32))] [(.int (1 : Int32))]))
      exact Wp.retI X0 hlk hx hret (by simp) (by first | rfl | decide) (hb hby own_d4_85) ⟨by rw [hv5_], NF0, e0⟩ (by decide) (by decide)
    ·
      have hv5_ := hv1_.trans (if_neg hc5)
      refine Wp.via (fun _ k => XS.icmpYes X0.here hx rfl (pc0 := 36) (pc' := 44) rfl (hb hby own_d4_36) rfl (flt hc5).2.1 (by decide) (by decide) k) ?_
      show Wp p e below _ (T0.setTop (mkF m 44 #[.val (.int p0), .unset] []))
      refine Wp.via (fun _ k => XS.iloadN X0.here hx rfl (hb hby own_d4_44) rfl k) ?_
      show Wp p e below _ (T0.setTop (mkF m 45 #[.val (.int p0), .unset] [(.int p0)]))
      refine Wp.via (fun _ k => X0.ldcInt hx hown (mvT hZ (hw _ (List.mem_of_getElem? (i := 4) rfl))) (g := (mkF m 45 #[.val (.int p0), .unset] [(.int p0)])) rfl (hb hby own_d4_45) _ k) ?_
      show Wp p e below _ (T0.setTop (mkF m 47 #[.val (.int p0), .unset] [(.int (57344 : Int32)), (.int p0)]))
      by_cases hc6 : p0 < (57344 : Int32)
      ·
        have hv6_ := hv5_.trans (if_pos hc6)
        refine Wp.via (fun _ k => XS.icmpNo X0.here hx rfl (hb hby own_d4_47) rfl (tlt hc6).2.1 k) ?_
        show Wp p e below _ (T0.setTop (mkF m 50 #[.val (.int p0), .unset] []))
        refine Wp.via (fun _ k => XS.iconst X0.here hx rfl (hb hby own_d4_50) k) ?_
        show Wp p e below _ (T0.setTop (mkF m 51 #[.val (.int p0), .unset] [(.int (0 : Int32))]))
        refine Wp.via (fun _ k => XS.istoreN X0.here hx rfl (hb hby own_d4_51) rfl (l' := #[.val (.int p0), .val (.int (0 : Int32))]) rfl k) ?_
        show Wp p e below _ (T0.setTop (mkF m 52 #[.val (.int p0), .val (.int (0 : Int32))] []))
        refine Wp.via (fun _ k => XS.goto X0.here hx rfl (pc0 := 52) (pc' := 84) rfl (hb hby own_d4_52) (by decide) (by decide) k) ?_
        show Wp p e below _ (T0.setTop (mkF m 84 #[.val (.int p0), .val (.int (0 : Int32))] []))
        refine Wp.via (fun _ k => XS.iloadN X0.here hx rfl (hb hby own_d4_84) rfl k) ?_
        show Wp p e below _ (T0.setTop (mkF m 85 #[.val (.int p0), .val (.int (0 : Int32))] [(.int (0 : Int32))]))
        exact Wp.retI X0 hlk hx hret (by simp) (by first | rfl | decide) (hb hby own_d4_85) ⟨by rw [hv6_], NF0, e0⟩ (by decide) (by decide)
      ·
        have hv6_ := hv5_.trans (if_neg hc6)
        refine Wp.via (fun _ k => XS.icmpYes X0.here hx rfl (pc0 := 47) (pc' := 55) rfl (hb hby own_d4_47) rfl (flt hc6).2.1 (by decide) (by decide) k) ?_
        show Wp p e below _ (T0.setTop (mkF m 55 #[.val (.int p0), .unset] []))
        refine Wp.via (fun _ k => XS.iloadN X0.here hx rfl (hb hby own_d4_55) rfl k) ?_
        show Wp p e below _ (T0.setTop (mkF m 56 #[.val (.int p0), .unset] [(.int p0)]))
        refine Wp.via (fun _ k => X0.ldcInt hx hown (mvT hZ (hw _ (List.mem_of_getElem? (i := 8) rfl))) (g := (mkF m 56 #[.val (.int p0), .unset] [(.int p0)])) rfl (hb hby own_d4_56) _ k) ?_
        show Wp p e below _ (T0.setTop (mkF m 58 #[.val (.int p0), .unset] [(.int (65536 : Int32)), (.int p0)]))
        by_cases hc7 : p0 < (65536 : Int32)
        ·
          have hv7_ := hv6_.trans (if_pos hc7)
          refine Wp.via (fun _ k => XS.icmpNo X0.here hx rfl (hb hby own_d4_58) rfl (tlt hc7).2.1 k) ?_
          show Wp p e below _ (T0.setTop (mkF m 61 #[.val (.int p0), .unset] []))
          refine Wp.via (fun _ k => XS.iloadN X0.here hx rfl (hb hby own_d4_61) rfl k) ?_
          show Wp p e below _ (T0.setTop (mkF m 62 #[.val (.int p0), .unset] [(.int p0)]))
          refine Wp.via (fun _ k => X0.ldcInt hx hown (mvT hZ (hw _ (List.mem_of_getElem? (i := 6) rfl))) (g := (mkF m 62 #[.val (.int p0), .unset] [(.int p0)])) rfl (hb hby own_d4_62) _ k) ?_
          show Wp p e below _ (T0.setTop (mkF m 64 #[.val (.int p0), .unset] [(.int (65534 : Int32)), (.int p0)]))
          by_cases hc8 : p0 = (65534 : Int32)
          ·
            have hv8_ := hv7_.trans (if_pos hc8)
            refine Wp.via (fun _ k => XS.icmpYes X0.here hx rfl (pc0 := 64) (pc' := 77) rfl (hb hby own_d4_64) rfl (teq hc8).1 (by decide) (by decide) k) ?_
            show Wp p e below _ (T0.setTop (mkF m 77 #[.val (.int p0), .unset] []))
            refine Wp.via (fun _ k => XS.iconst X0.here hx rfl (hb hby own_d4_77) k) ?_
            show Wp p e below _ (T0.setTop (mkF m 78 #[.val (.int p0), .unset] [(.int (0 : Int32))]))
            refine Wp.via (fun _ k => XS.istoreN X0.here hx rfl (hb hby own_d4_78) rfl (l' := #[.val (.int p0), .val (.int (0 : Int32))]) rfl k) ?_
            show Wp p e below _ (T0.setTop (mkF m 79 #[.val (.int p0), .val (.int (0 : Int32))] []))
            refine Wp.via (fun _ k => XS.goto X0.here hx rfl (pc0 := 79) (pc' := 84) rfl (hb hby own_d4_79) (by decide) (by decide) k) ?_
            show Wp p e below _ (T0.setTop (mkF m 84 #[.val (.int p0), .val (.int (0 : Int32))] []))
            refine Wp.via (fun _ k => XS.iloadN X0.here hx rfl (hb hby own_d4_84) rfl k) ?_
            show Wp p e below _ (T0.setTop (mkF m 85 #[.val (.int p0), .val (.int (0 : Int32))] [(.int (0 : Int32))]))
            exact Wp.retI X0 hlk hx hret (by simp) (by first | rfl | decide) (hb hby own_d4_85) ⟨by rw [hv8_], NF0, e0⟩ (by decide) (by decide)
          ·
            have hv8_ := hv7_.trans (if_neg hc8)
            refine Wp.via (fun _ k => XS.icmpNo X0.here hx rfl (hb hby own_d4_64) rfl (feq hc8).1 k) ?_
            show Wp p e below _ (T0.setTop (mkF m 67 #[.val (.int p0), .unset] []))
            refine Wp.via (fun _ k => XS.iloadN X0.here hx rfl (hb hby own_d4_67) rfl k) ?_
            show Wp p e below _ (T0.setTop (mkF m 68 #[.val (.int p0), .unset] [(.int p0)]))
            refine Wp.via (fun _ k => X0.ldcInt hx hown (mvT hZ (hw _ (List.mem_of_getElem? (i := 7) rfl))) (g := (mkF m 68 #[.val (.int p0), .unset] [(.int p0)])) rfl (hb hby own_d4_68) _ k) ?_
            show Wp p e below _ (T0.setTop (mkF m 70 #[.val (.int p0), .unset] [(.int (65535 : Int32)), (.int p0)]))
            by_cases hc9 : p0 = (65535 : Int32)
            ·
              have hv9_ := hv8_.trans (if_pos hc9)
              refine Wp.via (fun _ k => XS.icmpYes X0.here hx rfl (pc0 := 70) (pc' := 77) rfl (hb hby own_d4_70) rfl (teq hc9).1 (by decide) (by decide) k) ?_
              show Wp p e below _ (T0.setTop (mkF m 77 #[.val (.int p0), .unset] []))
              refine Wp.via (fun _ k => XS.iconst X0.here hx rfl (hb hby own_d4_77) k) ?_
              show Wp p e below _ (T0.setTop (mkF m 78 #[.val (.int p0), .unset] [(.int (0 : Int32))]))
              refine Wp.via (fun _ k => XS.istoreN X0.here hx rfl (hb hby own_d4_78) rfl (l' := #[.val (.int p0), .val (.int (0 : Int32))]) rfl k) ?_
              show Wp p e below _ (T0.setTop (mkF m 79 #[.val (.int p0), .val (.int (0 : Int32))] []))
              refine Wp.via (fun _ k => XS.goto X0.here hx rfl (pc0 := 79) (pc' := 84) rfl (hb hby own_d4_79) (by decide) (by decide) k) ?_
              show Wp p e below _ (T0.setTop (mkF m 84 #[.val (.int p0), .val (.int (0 : Int32))] []))
              refine Wp.via (fun _ k => XS.iloadN X0.here hx rfl (hb hby own_d4_84) rfl k) ?_
              show Wp p e below _ (T0.setTop (mkF m 85 #[.val (.int p0), .val (.int (0 : Int32))] [(.int (0 : Int32))]))
              exact Wp.retI X0 hlk hx hret (by simp) (by first | rfl | decide) (hb hby own_d4_85) ⟨by rw [hv9_], NF0, e0⟩ (by decide) (by decide)
            ·
              have hv9_ := hv8_.trans (if_neg hc9)
              refine Wp.via (fun _ k => XS.icmpNo X0.here hx rfl (hb hby own_d4_70) rfl (feq hc9).1 k) ?_
              show Wp p e below _ (T0.setTop (mkF m 73 #[.val (.int p0), .unset] []))
              refine Wp.via (fun _ k => XS.iconst X0.here hx rfl (hb hby own_d4_73) k) ?_
              show Wp p e below _ (T0.setTop (mkF m 74 #[.val (.int p0), .unset] [(.int (1 : Int32))]))
              refine Wp.via (fun _ k => XS.goto X0.here hx rfl (pc0 := 74) (pc' := 78) rfl (hb hby own_d4_74) (by decide) (by decide) k) ?_
              show Wp p e below _ (T0.setTop (mkF m 78 #[.val (.int p0), .unset] [(.int (1 : Int32))]))
              refine Wp.via (fun _ k => XS.istoreN X0.here hx rfl (hb hby own_d4_78) rfl (l' := #[.val (.int p0), .val (.int (1 : Int32))]) rfl k) ?_
              show Wp p e below _ (T0.setTop (mkF m 79 #[.val (.int p0), .val (.int (1 : Int32))] []))
              refine Wp.via (fun _ k => XS.goto X0.here hx rfl (pc0 := 79) (pc' := 84) rfl (hb hby own_d4_79) (by decide) (by decide) k) ?_
              show Wp p e below _ (T0.setTop (mkF m 84 #[.val (.int p0), .val (.int (1 : Int32))] []))
              refine Wp.via (fun _ k => XS.iloadN X0.here hx rfl (hb hby own_d4_84) rfl k) ?_
              show Wp p e below _ (T0.setTop (mkF m 85 #[.val (.int p0), .val (.int (1 : Int32))] [(.int (1 : Int32))]))
              exact Wp.retI X0 hlk hx hret (by simp) (by first | rfl | decide) (hb hby own_d4_85) ⟨by rw [hv9_], NF0, e0⟩ (by decide) (by decide)
        ·
          have hv7_ := hv6_.trans (if_neg hc7)
          refine Wp.via (fun _ k => XS.icmpYes X0.here hx rfl (pc0 := 58) (pc' := 82) rfl (hb hby own_d4_58) rfl (flt hc7).2.1 (by decide) (by decide) k) ?_
          show Wp p e below _ (T0.setTop (mkF m 82 #[.val (.int p0), .unset] []))
          refine Wp.via (fun _ k => XS.iconst X0.here hx rfl (hb hby own_d4_82) k) ?_
          show Wp p e below _ (T0.setTop (mkF m 83 #[.val (.int p0), .unset] [(.int (1 : Int32))]))
          refine Wp.via (fun _ k => XS.istoreN X0.here hx rfl (hb hby own_d4_83) rfl (l' := #[.val (.int p0), .val (.int (1 : Int32))]) rfl k) ?_
          show Wp p e below _ (T0.setTop (mkF m 84 #[.val (.int p0), .val (.int (1 : Int32))] []))
          refine Wp.via (fun _ k => XS.iloadN X0.here hx rfl (hb hby own_d4_84) rfl k) ?_
          show Wp p e below _ (T0.setTop (mkF m 85 #[.val (.int p0), .val (.int (1 : Int32))] [(.int (1 : Int32))]))
          exact Wp.retI X0 hlk hx hret (by simp) (by first | rfl | decide) (hb hby own_d4_85) ⟨by rw [hv7_], NF0, e0⟩ (by decide) (by decide)
theorem s_f3_42 (x0 : Int32) : ((f3_42 x0).toInt = 1 ∧ (65536 ≤ x0.toInt)) ∨ ((f3_42 x0).toInt = 0 ∧ ¬ (65536 ≤ x0.toInt)) := by
  have l_0 : (0 : Int32).toInt = 0 := by decide
  have l_1 : (1 : Int32).toInt = 1 := by decide
  have l_65536 : (65536 : Int32).toInt = 65536 := by decide
  have rg := rng32 x0
  unfold f3_42
  simp only [Int32.lt_iff_toInt_lt, ← Int32.toInt_inj, l_0, l_1, l_65536]
  repeat' split
  all_goals omega
theorem s_f3_30 (x0 : Int32) : ((f3_30 x0).toInt = 1 ∧ ((57344 ≤ x0.toInt ∧ x0.toInt ≤ 65533) ∨ 65536 ≤ x0.toInt)) ∨ ((f3_30 x0).toInt = 0 ∧ ¬ ((57344 ≤ x0.toInt ∧ x0.toInt ≤ 65533) ∨ 65536 ≤ x0.toInt)) := by
  have k_f3_42 := s_f3_42 x0
  have l_0 : (0 : Int32).toInt = 0 := by decide
  have l_1 : (1 : Int32).toInt = 1 := by decide
  have l_57344 : (57344 : Int32).toInt = 57344 := by decide
  have l_65533 : (65533 : Int32).toInt = 65533 := by decide
  have rg := rng32 x0
  unfold f3_30
  simp only [Int32.lt_iff_toInt_lt, ← Int32.toInt_inj, l_0, l_1, l_57344, l_65533]
  repeat' split
  all_goals omega
theorem s_f3_0 (p0 : Int32) : ((f3_0 p0).toInt = 1 ∧ ((9 ≤ p0.toInt ∧ p0.toInt ≤ 10) ∨ (13 ≤ p0.toInt ∧ p0.toInt ≤ 13) ∨ (32 ≤ p0.toInt ∧ p0.toInt ≤ 55295) ∨ (57344 ≤ p0.toInt ∧ p0.toInt ≤ 65533) ∨ 65536 ≤ p0.toInt)) ∨ ((f3_0 p0).toInt = 0 ∧ ¬ ((9 ≤ p0.toInt ∧ p0.toInt ≤ 10) ∨ (13 ≤ p0.toInt ∧ p0.toInt ≤ 13) ∨ (32 ≤ p0.toInt ∧ p0.toInt ≤ 55295) ∨ (57344 ≤ p0.toInt ∧ p0.toInt ≤ 65533) ∨ 65536 ≤ p0.toInt)) := by
  have k_f3_30 := s_f3_30 p0
  have l_0 : (0 : Int32).toInt = 0 := by decide
  have l_1 : (1 : Int32).toInt = 1 := by decide
  have l_9 : (9 : Int32).toInt = 9 := by decide
  have l_10 : (10 : Int32).toInt = 10 := by decide
  have l_13 : (13 : Int32).toInt = 13 := by decide
  have l_32 : (32 : Int32).toInt = 32 := by decide
  have l_55295 : (55295 : Int32).toInt = 55295 := by decide
  have rg := rng32 p0
  unfold f3_0
  simp only [Int32.lt_iff_toInt_lt, ← Int32.toInt_inj, l_0, l_1, l_9, l_10, l_13, l_32, l_55295]
  repeat' split
  all_goals omega
theorem s_f4_0 (p0 : Int32) : ((f4_0 p0).toInt = 1 ∧ ((9 ≤ p0.toInt ∧ p0.toInt ≤ 10) ∨ (13 ≤ p0.toInt ∧ p0.toInt ≤ 13) ∨ (32 ≤ p0.toInt ∧ p0.toInt ≤ 55295) ∨ (57344 ≤ p0.toInt ∧ p0.toInt ≤ 65533) ∨ 65536 ≤ p0.toInt)) ∨ ((f4_0 p0).toInt = 0 ∧ ¬ ((9 ≤ p0.toInt ∧ p0.toInt ≤ 10) ∨ (13 ≤ p0.toInt ∧ p0.toInt ≤ 13) ∨ (32 ≤ p0.toInt ∧ p0.toInt ≤ 55295) ∨ (57344 ≤ p0.toInt ∧ p0.toInt ≤ 65533) ∨ 65536 ≤ p0.toInt)) := by
  have l_0 : (0 : Int32).toInt = 0 := by decide
  have l_1 : (1 : Int32).toInt = 1 := by decide
  have l_9 : (9 : Int32).toInt = 9 := by decide
  have l_10 : (10 : Int32).toInt = 10 := by decide
  have l_13 : (13 : Int32).toInt = 13 := by decide
  have l_32 : (32 : Int32).toInt = 32 := by decide
  have l_55296 : (55296 : Int32).toInt = 55296 := by decide
  have l_57344 : (57344 : Int32).toInt = 57344 := by decide
  have l_65534 : (65534 : Int32).toInt = 65534 := by decide
  have l_65535 : (65535 : Int32).toInt = 65535 := by decide
  have l_65536 : (65536 : Int32).toInt = 65536 := by decide
  have rg := rng32 p0
  unfold f4_0
  simp only [Int32.lt_iff_toInt_lt, ← Int32.toInt_inj, l_0, l_1, l_9, l_10, l_13, l_32, l_55296, l_57344, l_65534, l_65535, l_65536]
  repeat' split
  all_goals omega
theorem own_ok (x : Int32) : f3_0 x = f4_0 x := by
  have k1 := s_f3_0 x
  have k2 := s_f4_0 x
  have rg := rng32 x
  simp only [← Int32.toInt_inj]
  omega
def f0_160 (p0 : Int32) (p1 : Int32) (p2 : Int32) (cv : Int32) : Int32 := (if (f3_0 cv) = (f4_0 cv) then (1 : Int32) else (0 : Int32))
theorem own_law (p0 p1 p2 cv : Int32) : f0_160 p0 p1 p2 cv = 1 := by
  unfold f0_160
  rw [own_ok, if_pos rfl]
theorem own_pd0 : parseMethodDescriptor "(II)I" = some ⟨[.int, .int], some .int⟩ := by decide +kernel
theorem own_pd1 : parseMethodDescriptor "(I)Z" = some ⟨[.int], some .boolean⟩ := by decide +kernel
theorem own_pl0 : plainFor (⟨"com/example/chyld/chyld/XmlCharsIsCharacterPinLaw", "law", "(III)Z"⟩ : MethodName) = true := plainFor_of_name (by first | (simp [plainName, overriddenIn]; done) | decide +kernel)
theorem own_ef0 (m : MethodId) (p0 : Int32) (p1 : Int32) (p2 : Int32) : entryFrame m #[(.int p0), (.int p1), (.int p2)] maxLocals = mkF m 0 #[.val (.int p0), .val (.int p1), .val (.int p2), .unset, .unset, .unset] [] := by first | (simp [entryFrame, mkF, argsToLocals, Value.category, maxLocals]; done) | rfl
def Qo0 (Z : State) (p0 : Int32) (p1 : Int32) (p2 : Int32)  (h0 : Heap) (n0 : Nat) (v : Option Value) (h : Heap) (L : List Loc) : Prop := v = some (.int 1) ∧ Fr n0 L
set_option maxRecDepth 65536 in
set_option maxHeartbeats 40000000 in
theorem rm0 (l : Launch) (Z : State) (aw : Array Value) (hw : ∀ d ∈ tables_1, d.before aw Z = true) (ws : List Jvm.Cond) (p0 : Int32) (p1 : Int32) (p2 : Int32)  (h0 : Heap) (n0 : Nat) (Z0 : n0 ≤ h0.size)  :
    MetFree l x (head1 (Jvm.Cond.code x code maxLocals ret :: ws) room_1) (fun a U => a = #[(.int p0), (.int p1), (.int p2)] ∧ Z.Warmed39 U.vm ∧ U.heap = h0) (fun _ _ _ _ _ => True) (fun _ U o U' => ∃ v L, o = .returned v ∧ (Qo0 Z p0 p1 p2 h0 n0) v U'.heap L ∧ FrameEnd U o U' L 16 128) := by
  refine ofWp (Q := Qo0 Z p0 p1 p2 h0 n0) own_pl0 (fun m => own_ef0 m p0 p1 p2) ?_
  intro p e s m below meth c T0 hx hby hml hown hnm hlk hret hZ X0 e0
  change s.vm.findClass "com/example/chyld/chyld/XmlCharsIsCharacterPinLaw" = some m.cls at hown
  have NF0 := Fr.nil n0
  have J160 : ∀ (T : State) (hh : Heap) (locs : List Loc) (cells slots : Nat) (X : Stand p l e room_1 s m #[(.int p0), (.int p1), (.int p2)] below meth c T locs cells slots) (eT : T.heap = hh) (zh : n0 ≤ hh.size) (NF : Fr n0 locs) (hC : cells ≤ 16) (hS : slots ≤ 128) (cv : Int32) (u4 u5 : Slot), Wp p e below (Gd s (Qo0 Z p0 p1 p2 h0 n0) 16 128) (T.setTop (mkF m 160 #[.val (.int p0), .val (.int p1), .val (.int p2), .val (.int cv), u4, u5] [])) := by
    intro T hh locs cells slots X eT zh NF hC hS cv u4 u5
    have hv : (f0_160 p0 p1 p2 cv) = (if (f3_0 cv) = (f4_0 cv) then (1 : Int32) else (0 : Int32)) := rfl
    refine Wp.via (fun _ k => XS.iloadN X.here hx rfl (hb hby at_160) rfl k) ?_
    show Wp p e below _ (T.setTop (mkF m 161 #[.val (.int p0), .val (.int p1), .val (.int p2), .val (.int cv), u4, u5] [(.int cv)]))
    obtain ⟨_, _, ⟨T1, L1, k1, n1⟩, -, X1, ⟨Lc1, hQ1, l1, y1, z1⟩, st1⟩ := Jvm.LawKit.callS X hx (y := (⟨"com/example/chyld/chyld/XmlChars", "isCharacter", "(I)Z"⟩ : MethodName)) hown (mvT hZ (hw _ (List.mem_of_getElem? (i := 17) rfl))) (mvT hZ (hw _ (List.mem_of_getElem? (i := 18) rfl))) (mvT hZ (hw _ (List.mem_of_getElem? (i := 19) rfl))) (mvT hZ (hw _ (List.mem_of_getElem? (i := 20) rfl))) (by decide) (backOf (W := 0) (rm3 l Z aw hw [] cv  hh n0 zh ) hZ (hw _ (List.mem_of_getElem? (i := 20) rfl)) (hw _ (List.mem_of_getElem? (i := 19) rfl)) (by decide) (by decide)) (g := (mkF m 161 #[.val (.int p0), .val (.int p1), .val (.int p2), .val (.int cv), u4, u5] [(.int cv)])) rfl (by rw [hml]; rfl) (argsL := [(.int cv)]) (rest := []) (lenOf own_pd1 rfl) rfl (by show 2 * 0 + _ ≤ _; exact Nat.le_of_eq rfl) (hb hby at_161) (fun _ _ => ⟨rfl, eT, (show cells + 0 ≤ room_1.cells from Nat.le_trans (by omega : cells + 0 ≤ 16) (by decide)), (show slots + 0 ≤ room_1.slots from Nat.le_trans (by omega : slots + 0 ≤ 128) (by decide))⟩)
    dsimp only [Pt.U, Pt.locs, Pt.cells, Pt.slots] at X1 l1 y1 z1 st1 hQ1
    subst l1
    have hC1 : k1 ≤ 16 := by rw [y1]; show cells + 0 ≤ 16; omega
    have hS1 : n1 ≤ 128 := by rw [z1]; show slots + 0 ≤ 128; omega
    obtain ⟨rfl, N1, e1⟩ := hQ1
    have NF1 := Fr.app NF N1
    refine Wp.via st1 ?_
    show Wp p e below _ (T1.setTop (mkF m 164 #[.val (.int p0), .val (.int p1), .val (.int p2), .val (.int cv), u4, u5] [(.int (f3_0 cv))]))
    refine Wp.via (fun _ k => XS.iloadN X1.here hx rfl (hb hby at_164) rfl k) ?_
    show Wp p e below _ (T1.setTop (mkF m 165 #[.val (.int p0), .val (.int p1), .val (.int p2), .val (.int cv), u4, u5] [(.int cv), (.int (f3_0 cv))]))
    obtain ⟨_, _, ⟨T2, L2, k2, n2⟩, -, X2, ⟨Lc2, hQ2, l2, y2, z2⟩, st2⟩ := Jvm.LawKit.callS X1 hx (y := (⟨"com/example/chyld/chyld/XmlCharsIsCharacterPinLaw", "reference", "(I)Z"⟩ : MethodName)) hown (mvT hZ (hw _ (List.mem_of_getElem? (i := 23) rfl))) (mvT hZ (hw _ (List.mem_of_getElem? (i := 24) rfl))) (mvT hZ (hw _ (List.mem_of_getElem? (i := 25) rfl))) (mvT hZ (hw _ (List.mem_of_getElem? (i := 26) rfl))) (by decide) (backOf (W := 1) (rm4 l Z aw hw [] cv  hh n0 zh ) hZ (hw _ (List.mem_of_getElem? (i := 26) rfl)) (hw _ (List.mem_of_getElem? (i := 25) rfl)) (by decide) (by decide)) (g := (mkF m 165 #[.val (.int p0), .val (.int p1), .val (.int p2), .val (.int cv), u4, u5] [(.int cv), (.int (f3_0 cv))])) rfl (by rw [hml]; rfl) (argsL := [(.int cv)]) (rest := [(.int (f3_0 cv))]) (lenOf own_pd1 rfl) rfl (by show 2 * 0 + _ ≤ _; exact Nat.le_of_eq rfl) (hb hby at_165) (fun _ _ => ⟨rfl, e1, (show k1 + 0 ≤ room_1.cells from Nat.le_trans (by omega : k1 + 0 ≤ 16) (by decide)), (show n1 + 0 ≤ room_1.slots from Nat.le_trans (by omega : n1 + 0 ≤ 128) (by decide))⟩)
    dsimp only [Pt.U, Pt.locs, Pt.cells, Pt.slots] at X2 l2 y2 z2 st2 hQ2
    subst l2
    have hC2 : k2 ≤ 16 := by rw [y2]; show k1 + 0 ≤ 16; omega
    have hS2 : n2 ≤ 128 := by rw [z2]; show n1 + 0 ≤ 128; omega
    obtain ⟨rfl, N2, e2⟩ := hQ2
    have NF2 := Fr.app NF1 N2
    refine Wp.via st2 ?_
    show Wp p e below _ (T2.setTop (mkF m 168 #[.val (.int p0), .val (.int p1), .val (.int p2), .val (.int cv), u4, u5] [(.int (f4_0 cv)), (.int (f3_0 cv))]))
    by_cases hc3 : (f3_0 cv) = (f4_0 cv)
    ·
      have hv3_ := hv.trans (if_pos hc3)
      refine Wp.via (fun _ k => XS.icmpNo X2.here hx rfl (hb hby at_168) rfl (teq hc3).2 k) ?_
      show Wp p e below _ (T2.setTop (mkF m 171 #[.val (.int p0), .val (.int p1), .val (.int p2), .val (.int cv), u4, u5] []))
      refine Wp.via (fun _ k => XS.iconst X2.here hx rfl (hb hby at_171) k) ?_
      show Wp p e below _ (T2.setTop (mkF m 172 #[.val (.int p0), .val (.int p1), .val (.int p2), .val (.int cv), u4, u5] [(.int (1 : Int32))]))
      refine Wp.via (fun _ k => XS.goto X2.here hx rfl (pc0 := 172) (pc' := 176) rfl (hb hby at_172) (by decide) (by decide) k) ?_
      show Wp p e below _ (T2.setTop (mkF m 176 #[.val (.int p0), .val (.int p1), .val (.int p2), .val (.int cv), u4, u5] [(.int (1 : Int32))]))
      exact Wp.retI X2 hlk hx hret (by simp) (by first | rfl | decide) (hb hby at_176) ⟨by rw [← hv3_, own_law], NF2⟩ (by omega) (by omega)
    ·
      have hv3_ := hv.trans (if_neg hc3)
      refine Wp.via (fun _ k => XS.icmpYes X2.here hx rfl (pc0 := 168) (pc' := 175) rfl (hb hby at_168) rfl (feq hc3).2 (by decide) (by decide) k) ?_
      show Wp p e below _ (T2.setTop (mkF m 175 #[.val (.int p0), .val (.int p1), .val (.int p2), .val (.int cv), u4, u5] []))
      refine Wp.via (fun _ k => XS.iconst X2.here hx rfl (hb hby at_175) k) ?_
      show Wp p e below _ (T2.setTop (mkF m 176 #[.val (.int p0), .val (.int p1), .val (.int p2), .val (.int cv), u4, u5] [(.int (0 : Int32))]))
      exact Wp.retI X2 hlk hx hret (by simp) (by first | rfl | decide) (hb hby at_176) ⟨by rw [← hv3_, own_law], NF2⟩ (by omega) (by omega)
  refine Wp.via (fun _ k => XS.iloadN X0.here hx rfl (hb hby at_0) rfl k) ?_
  show Wp p e below _ (T0.setTop (mkF m 1 #[.val (.int p0), .val (.int p1), .val (.int p2), .unset, .unset, .unset] [(.int p1)]))
  refine Wp.via (fun _ k => XS.iconst X0.here hx rfl (hb hby at_1) k) ?_
  show Wp p e below _ (T0.setTop (mkF m 2 #[.val (.int p0), .val (.int p1), .val (.int p2), .unset, .unset, .unset] [(.int (1 : Int32)), (.int p1)]))
  refine Wp.via (fun _ k => XS.iand X0.here hx rfl (hb hby at_2) rfl k) ?_
  show Wp p e below _ (T0.setTop (mkF m 3 #[.val (.int p0), .val (.int p1), .val (.int p2), .unset, .unset, .unset] [(.int (p1 &&& (1 : Int32)))]))
  by_cases c1 : (p1 &&& (1 : Int32)) = (0 : Int32)
  ·
    refine Wp.via (fun _ k => XS.ifNo X0.here hx rfl (hb hby at_3) rfl ((if0 _ _).trans (teq c1).2) k) ?_
    show Wp p e below _ (T0.setTop (mkF m 6 #[.val (.int p0), .val (.int p1), .val (.int p2), .unset, .unset, .unset] []))
    refine Wp.via (fun _ k => XS.iloadN X0.here hx rfl (hb hby at_6) rfl k) ?_
    show Wp p e below _ (T0.setTop (mkF m 7 #[.val (.int p0), .val (.int p1), .val (.int p2), .unset, .unset, .unset] [(.int p0)]))
    refine Wp.via (fun _ k => X0.ldcInt hx hown (mvT hZ (hw _ (List.mem_of_getElem? (i := 27) rfl))) (g := (mkF m 7 #[.val (.int p0), .val (.int p1), .val (.int p2), .unset, .unset, .unset] [(.int p0)])) rfl (hb hby at_7) _ k) ?_
    show Wp p e below _ (T0.setTop (mkF m 9 #[.val (.int p0), .val (.int p1), .val (.int p2), .unset, .unset, .unset] [(.int (2097151 : Int32)), (.int p0)]))
    refine Wp.via (fun _ k => XS.iand X0.here hx rfl (hb hby at_9) rfl k) ?_
    show Wp p e below _ (T0.setTop (mkF m 10 #[.val (.int p0), .val (.int p1), .val (.int p2), .unset, .unset, .unset] [(.int (p0 &&& (2097151 : Int32)))]))
    refine Wp.via (fun _ k => X0.ldcInt hx hown (mvT hZ (hw _ (List.mem_of_getElem? (i := 28) rfl))) (g := (mkF m 10 #[.val (.int p0), .val (.int p1), .val (.int p2), .unset, .unset, .unset] [(.int (p0 &&& (2097151 : Int32)))])) rfl (hb hby at_10) _ k) ?_
    show Wp p e below _ (T0.setTop (mkF m 12 #[.val (.int p0), .val (.int p1), .val (.int p2), .unset, .unset, .unset] [(.int (1114112 : Int32)), (.int (p0 &&& (2097151 : Int32)))]))
    refine Wp.via (fun _ k => iremM X0 hx rfl (hb hby at_12) rfl (by decide) k) ?_
    show Wp p e below _ (T0.setTop (mkF m 13 #[.val (.int p0), .val (.int p1), .val (.int p2), .unset, .unset, .unset] [(.int ((p0 &&& (2097151 : Int32)) % (1114112 : Int32)))]))
    refine Wp.via (fun _ k => XS.istoreN X0.here hx rfl (hb hby at_13) rfl (l' := #[.val (.int p0), .val (.int p1), .val (.int p2), .val (.int ((p0 &&& (2097151 : Int32)) % (1114112 : Int32))), .unset, .unset]) rfl k) ?_
    show Wp p e below _ (T0.setTop (mkF m 14 #[.val (.int p0), .val (.int p1), .val (.int p2), .val (.int ((p0 &&& (2097151 : Int32)) % (1114112 : Int32))), .unset, .unset] []))
    refine Wp.via (fun _ k => XS.goto X0.here hx rfl (pc0 := 14) (pc' := 160) rfl (hb hby at_14) (by decide) (by decide) k) ?_
    show Wp p e below _ (T0.setTop (mkF m 160 #[.val (.int p0), .val (.int p1), .val (.int p2), .val (.int ((p0 &&& (2097151 : Int32)) % (1114112 : Int32))), .unset, .unset] []))
    exact J160 T0 _ _ _ _ X0 e0 Z0 NF0 (by decide) (by decide) _ _ _
  ·
    refine Wp.via (fun _ k => XS.ifYes X0.here hx rfl (pc0 := 3) (pc' := 17) rfl (hb hby at_3) rfl ((if0 _ _).trans (feq c1).2) (by decide) (by decide) k) ?_
    show Wp p e below _ (T0.setTop (mkF m 17 #[.val (.int p0), .val (.int p1), .val (.int p2), .unset, .unset, .unset] []))
    refine Wp.via (fun _ k => XS.bipush X0.here hx rfl (hb hby at_17) k) ?_
    show Wp p e below _ (T0.setTop (mkF m 19 #[.val (.int p0), .val (.int p1), .val (.int p2), .unset, .unset, .unset] [(.int (19 : Int32))]))
    obtain ⟨T4, h4, kl4, X4, e4, E4, A4, st4⟩ := newP X0 hx hZ (hw _ (List.mem_of_getElem? (i := 0) rfl)) e0 (g := (mkF m 19 #[.val (.int p0), .val (.int p1), .val (.int p2), .unset, .unset, .unset] [(.int (19 : Int32))])) rfl (hb hby at_19) rfl (by decide) (cap := 19) (by decide) (by decide) (by decide) (by decide)
    obtain ⟨b4, g4⟩ : ∃ z, z = h0.size := ⟨_, rfl⟩
    rw [← g4] at A4 st4
    have gn_b4 : n0 ≤ b4 := Nat.le_trans Z0 (Nat.le_of_eq g4.symm)
    have sz_b4 : h0.size ≤ b4 := Nat.le_trans (Keep.refl h0 []).1 (Nat.le_of_eq g4.symm)
    have V4 : Av Z h4 b4 .int 19 (fun _ => (.int (0 : Int32))) := Av.new A4 rfl
    refine Wp.via st4 ?_
    have K4 := (Keep.refl h0 []).ext E4
    have zz5 : n0 ≤ h4.size := Nat.le_trans Z0 E4.1
    show Wp p e below _ (T4.setTop (mkF m 21 #[.val (.int p0), .val (.int p1), .val (.int p2), .unset, .unset, .unset] [(.ref b4)]))
    refine Wp.via (fun _ k => XS.dup X4.here hx rfl (hb hby at_21) rfl rfl k) ?_
    show Wp p e below _ (T4.setTop (mkF m 22 #[.val (.int p0), .val (.int p1), .val (.int p2), .unset, .unset, .unset] [(.ref b4), (.ref b4)]))
    refine Wp.via (fun _ k => XS.iconst X4.here hx rfl (hb hby at_22) k) ?_
    show Wp p e below _ (T4.setTop (mkF m 23 #[.val (.int p0), .val (.int p1), .val (.int p2), .unset, .unset, .unset] [(.int (0 : Int32)), (.ref b4), (.ref b4)]))
    refine Wp.via (fun _ k => XS.iconst X4.here hx rfl (hb hby at_23) k) ?_
    show Wp p e below _ (T4.setTop (mkF m 24 #[.val (.int p0), .val (.int p1), .val (.int p2), .unset, .unset, .unset] [(.int (0 : Int32)), (.int (0 : Int32)), (.ref b4), (.ref b4)]))
    obtain ⟨T6, h6, X6, e6, W6, V6, st6⟩ := avStI X4 hx hZ e4 V4 (i := 0) (by decide) rfl (by decide) (g := (mkF m 24 #[.val (.int p0), .val (.int p1), .val (.int p2), .unset, .unset, .unset] [(.int (0 : Int32)), (.int (0 : Int32)), (.ref b4), (.ref b4)])) rfl rfl (hb hby at_24)
    have NF6 := Fr.snoc X6 NF0 gn_b4
    refine Wp.via st6 ?_
    have K6 := K4.wr W6 (Or.inr sz_b4)
    have zz7 : n0 ≤ h6.size := by rw [W6.size]; exact zz5
    show Wp p e below _ (T6.setTop (mkF m 25 #[.val (.int p0), .val (.int p1), .val (.int p2), .unset, .unset, .unset] [(.ref b4)]))
    refine Wp.via (fun _ k => XS.dup X6.here hx rfl (hb hby at_25) rfl rfl k) ?_
    show Wp p e below _ (T6.setTop (mkF m 26 #[.val (.int p0), .val (.int p1), .val (.int p2), .unset, .unset, .unset] [(.ref b4), (.ref b4)]))
    refine Wp.via (fun _ k => XS.iconst X6.here hx rfl (hb hby at_26) k) ?_
    show Wp p e below _ (T6.setTop (mkF m 27 #[.val (.int p0), .val (.int p1), .val (.int p2), .unset, .unset, .unset] [(.int (1 : Int32)), (.ref b4), (.ref b4)]))
    refine Wp.via (fun _ k => XS.bipush X6.here hx rfl (hb hby at_27) k) ?_
    show Wp p e below _ (T6.setTop (mkF m 29 #[.val (.int p0), .val (.int p1), .val (.int p2), .unset, .unset, .unset] [(.int (8 : Int32)), (.int (1 : Int32)), (.ref b4), (.ref b4)]))
    obtain ⟨T8, h8, X8, e8, W8, V8, st8⟩ := avStI X6 hx hZ e6 V6 (i := 1) (by decide) rfl (by decide) (g := (mkF m 29 #[.val (.int p0), .val (.int p1), .val (.int p2), .unset, .unset, .unset] [(.int (8 : Int32)), (.int (1 : Int32)), (.ref b4), (.ref b4)])) rfl rfl (hb hby at_29)
    have NF8 := Fr.snoc X8 NF6 gn_b4
    refine Wp.via st8 ?_
    have K8 := K6.wr W8 (Or.inr sz_b4)
    have zz9 : n0 ≤ h8.size := by rw [W8.size]; exact zz7
    show Wp p e below _ (T8.setTop (mkF m 30 #[.val (.int p0), .val (.int p1), .val (.int p2), .unset, .unset, .unset] [(.ref b4)]))
    refine Wp.via (fun _ k => XS.dup X8.here hx rfl (hb hby at_30) rfl rfl k) ?_
    show Wp p e below _ (T8.setTop (mkF m 31 #[.val (.int p0), .val (.int p1), .val (.int p2), .unset, .unset, .unset] [(.ref b4), (.ref b4)]))
    refine Wp.via (fun _ k => XS.iconst X8.here hx rfl (hb hby at_31) k) ?_
    show Wp p e below _ (T8.setTop (mkF m 32 #[.val (.int p0), .val (.int p1), .val (.int p2), .unset, .unset, .unset] [(.int (2 : Int32)), (.ref b4), (.ref b4)]))
    refine Wp.via (fun _ k => XS.bipush X8.here hx rfl (hb hby at_32) k) ?_
    show Wp p e below _ (T8.setTop (mkF m 34 #[.val (.int p0), .val (.int p1), .val (.int p2), .unset, .unset, .unset] [(.int (9 : Int32)), (.int (2 : Int32)), (.ref b4), (.ref b4)]))
    obtain ⟨T10, h10, X10, e10, W10, V10, st10⟩ := avStI X8 hx hZ e8 V8 (i := 2) (by decide) rfl (by decide) (g := (mkF m 34 #[.val (.int p0), .val (.int p1), .val (.int p2), .unset, .unset, .unset] [(.int (9 : Int32)), (.int (2 : Int32)), (.ref b4), (.ref b4)])) rfl rfl (hb hby at_34)
    have NF10 := Fr.snoc X10 NF8 gn_b4
    refine Wp.via st10 ?_
    have K10 := K8.wr W10 (Or.inr sz_b4)
    have zz11 : n0 ≤ h10.size := by rw [W10.size]; exact zz9
    show Wp p e below _ (T10.setTop (mkF m 35 #[.val (.int p0), .val (.int p1), .val (.int p2), .unset, .unset, .unset] [(.ref b4)]))
    refine Wp.via (fun _ k => XS.dup X10.here hx rfl (hb hby at_35) rfl rfl k) ?_
    show Wp p e below _ (T10.setTop (mkF m 36 #[.val (.int p0), .val (.int p1), .val (.int p2), .unset, .unset, .unset] [(.ref b4), (.ref b4)]))
    refine Wp.via (fun _ k => XS.iconst X10.here hx rfl (hb hby at_36) k) ?_
    show Wp p e below _ (T10.setTop (mkF m 37 #[.val (.int p0), .val (.int p1), .val (.int p2), .unset, .unset, .unset] [(.int (3 : Int32)), (.ref b4), (.ref b4)]))
    refine Wp.via (fun _ k => XS.bipush X10.here hx rfl (hb hby at_37) k) ?_
    show Wp p e below _ (T10.setTop (mkF m 39 #[.val (.int p0), .val (.int p1), .val (.int p2), .unset, .unset, .unset] [(.int (10 : Int32)), (.int (3 : Int32)), (.ref b4), (.ref b4)]))
    obtain ⟨T12, h12, X12, e12, W12, V12, st12⟩ := avStI X10 hx hZ e10 V10 (i := 3) (by decide) rfl (by decide) (g := (mkF m 39 #[.val (.int p0), .val (.int p1), .val (.int p2), .unset, .unset, .unset] [(.int (10 : Int32)), (.int (3 : Int32)), (.ref b4), (.ref b4)])) rfl rfl (hb hby at_39)
    have NF12 := Fr.snoc X12 NF10 gn_b4
    refine Wp.via st12 ?_
    have K12 := K10.wr W12 (Or.inr sz_b4)
    have zz13 : n0 ≤ h12.size := by rw [W12.size]; exact zz11
    show Wp p e below _ (T12.setTop (mkF m 40 #[.val (.int p0), .val (.int p1), .val (.int p2), .unset, .unset, .unset] [(.ref b4)]))
    refine Wp.via (fun _ k => XS.dup X12.here hx rfl (hb hby at_40) rfl rfl k) ?_
    show Wp p e below _ (T12.setTop (mkF m 41 #[.val (.int p0), .val (.int p1), .val (.int p2), .unset, .unset, .unset] [(.ref b4), (.ref b4)]))
    refine Wp.via (fun _ k => XS.iconst X12.here hx rfl (hb hby at_41) k) ?_
    show Wp p e below _ (T12.setTop (mkF m 42 #[.val (.int p0), .val (.int p1), .val (.int p2), .unset, .unset, .unset] [(.int (4 : Int32)), (.ref b4), (.ref b4)]))
    refine Wp.via (fun _ k => XS.bipush X12.here hx rfl (hb hby at_42) k) ?_
    show Wp p e below _ (T12.setTop (mkF m 44 #[.val (.int p0), .val (.int p1), .val (.int p2), .unset, .unset, .unset] [(.int (11 : Int32)), (.int (4 : Int32)), (.ref b4), (.ref b4)]))
    obtain ⟨T14, h14, X14, e14, W14, V14, st14⟩ := avStI X12 hx hZ e12 V12 (i := 4) (by decide) rfl (by decide) (g := (mkF m 44 #[.val (.int p0), .val (.int p1), .val (.int p2), .unset, .unset, .unset] [(.int (11 : Int32)), (.int (4 : Int32)), (.ref b4), (.ref b4)])) rfl rfl (hb hby at_44)
    have NF14 := Fr.snoc X14 NF12 gn_b4
    refine Wp.via st14 ?_
    have K14 := K12.wr W14 (Or.inr sz_b4)
    have zz15 : n0 ≤ h14.size := by rw [W14.size]; exact zz13
    show Wp p e below _ (T14.setTop (mkF m 45 #[.val (.int p0), .val (.int p1), .val (.int p2), .unset, .unset, .unset] [(.ref b4)]))
    refine Wp.via (fun _ k => XS.dup X14.here hx rfl (hb hby at_45) rfl rfl k) ?_
    show Wp p e below _ (T14.setTop (mkF m 46 #[.val (.int p0), .val (.int p1), .val (.int p2), .unset, .unset, .unset] [(.ref b4), (.ref b4)]))
    refine Wp.via (fun _ k => XS.iconst X14.here hx rfl (hb hby at_46) k) ?_
    show Wp p e below _ (T14.setTop (mkF m 47 #[.val (.int p0), .val (.int p1), .val (.int p2), .unset, .unset, .unset] [(.int (5 : Int32)), (.ref b4), (.ref b4)]))
    refine Wp.via (fun _ k => XS.bipush X14.here hx rfl (hb hby at_47) k) ?_
    show Wp p e below _ (T14.setTop (mkF m 49 #[.val (.int p0), .val (.int p1), .val (.int p2), .unset, .unset, .unset] [(.int (12 : Int32)), (.int (5 : Int32)), (.ref b4), (.ref b4)]))
    obtain ⟨T16, h16, X16, e16, W16, V16, st16⟩ := avStI X14 hx hZ e14 V14 (i := 5) (by decide) rfl (by decide) (g := (mkF m 49 #[.val (.int p0), .val (.int p1), .val (.int p2), .unset, .unset, .unset] [(.int (12 : Int32)), (.int (5 : Int32)), (.ref b4), (.ref b4)])) rfl rfl (hb hby at_49)
    have NF16 := Fr.snoc X16 NF14 gn_b4
    refine Wp.via st16 ?_
    have K16 := K14.wr W16 (Or.inr sz_b4)
    have zz17 : n0 ≤ h16.size := by rw [W16.size]; exact zz15
    show Wp p e below _ (T16.setTop (mkF m 50 #[.val (.int p0), .val (.int p1), .val (.int p2), .unset, .unset, .unset] [(.ref b4)]))
    refine Wp.via (fun _ k => XS.dup X16.here hx rfl (hb hby at_50) rfl rfl k) ?_
    show Wp p e below _ (T16.setTop (mkF m 51 #[.val (.int p0), .val (.int p1), .val (.int p2), .unset, .unset, .unset] [(.ref b4), (.ref b4)]))
    refine Wp.via (fun _ k => XS.bipush X16.here hx rfl (hb hby at_51) k) ?_
    show Wp p e below _ (T16.setTop (mkF m 53 #[.val (.int p0), .val (.int p1), .val (.int p2), .unset, .unset, .unset] [(.int (6 : Int32)), (.ref b4), (.ref b4)]))
    refine Wp.via (fun _ k => XS.bipush X16.here hx rfl (hb hby at_53) k) ?_
    show Wp p e below _ (T16.setTop (mkF m 55 #[.val (.int p0), .val (.int p1), .val (.int p2), .unset, .unset, .unset] [(.int (13 : Int32)), (.int (6 : Int32)), (.ref b4), (.ref b4)]))
    obtain ⟨T18, h18, X18, e18, W18, V18, st18⟩ := avStI X16 hx hZ e16 V16 (i := 6) (by decide) rfl (by decide) (g := (mkF m 55 #[.val (.int p0), .val (.int p1), .val (.int p2), .unset, .unset, .unset] [(.int (13 : Int32)), (.int (6 : Int32)), (.ref b4), (.ref b4)])) rfl rfl (hb hby at_55)
    have NF18 := Fr.snoc X18 NF16 gn_b4
    refine Wp.via st18 ?_
    have K18 := K16.wr W18 (Or.inr sz_b4)
    have zz19 : n0 ≤ h18.size := by rw [W18.size]; exact zz17
    show Wp p e below _ (T18.setTop (mkF m 56 #[.val (.int p0), .val (.int p1), .val (.int p2), .unset, .unset, .unset] [(.ref b4)]))
    refine Wp.via (fun _ k => XS.dup X18.here hx rfl (hb hby at_56) rfl rfl k) ?_
    show Wp p e below _ (T18.setTop (mkF m 57 #[.val (.int p0), .val (.int p1), .val (.int p2), .unset, .unset, .unset] [(.ref b4), (.ref b4)]))
    refine Wp.via (fun _ k => XS.bipush X18.here hx rfl (hb hby at_57) k) ?_
    show Wp p e below _ (T18.setTop (mkF m 59 #[.val (.int p0), .val (.int p1), .val (.int p2), .unset, .unset, .unset] [(.int (7 : Int32)), (.ref b4), (.ref b4)]))
    refine Wp.via (fun _ k => XS.bipush X18.here hx rfl (hb hby at_59) k) ?_
    show Wp p e below _ (T18.setTop (mkF m 61 #[.val (.int p0), .val (.int p1), .val (.int p2), .unset, .unset, .unset] [(.int (14 : Int32)), (.int (7 : Int32)), (.ref b4), (.ref b4)]))
    obtain ⟨T20, h20, X20, e20, W20, V20, st20⟩ := avStI X18 hx hZ e18 V18 (i := 7) (by decide) rfl (by decide) (g := (mkF m 61 #[.val (.int p0), .val (.int p1), .val (.int p2), .unset, .unset, .unset] [(.int (14 : Int32)), (.int (7 : Int32)), (.ref b4), (.ref b4)])) rfl rfl (hb hby at_61)
    have NF20 := Fr.snoc X20 NF18 gn_b4
    refine Wp.via st20 ?_
    have K20 := K18.wr W20 (Or.inr sz_b4)
    have zz21 : n0 ≤ h20.size := by rw [W20.size]; exact zz19
    show Wp p e below _ (T20.setTop (mkF m 62 #[.val (.int p0), .val (.int p1), .val (.int p2), .unset, .unset, .unset] [(.ref b4)]))
    refine Wp.via (fun _ k => XS.dup X20.here hx rfl (hb hby at_62) rfl rfl k) ?_
    show Wp p e below _ (T20.setTop (mkF m 63 #[.val (.int p0), .val (.int p1), .val (.int p2), .unset, .unset, .unset] [(.ref b4), (.ref b4)]))
    refine Wp.via (fun _ k => XS.bipush X20.here hx rfl (hb hby at_63) k) ?_
    show Wp p e below _ (T20.setTop (mkF m 65 #[.val (.int p0), .val (.int p1), .val (.int p2), .unset, .unset, .unset] [(.int (8 : Int32)), (.ref b4), (.ref b4)]))
    refine Wp.via (fun _ k => XS.bipush X20.here hx rfl (hb hby at_65) k) ?_
    show Wp p e below _ (T20.setTop (mkF m 67 #[.val (.int p0), .val (.int p1), .val (.int p2), .unset, .unset, .unset] [(.int (31 : Int32)), (.int (8 : Int32)), (.ref b4), (.ref b4)]))
    obtain ⟨T22, h22, X22, e22, W22, V22, st22⟩ := avStI X20 hx hZ e20 V20 (i := 8) (by decide) rfl (by decide) (g := (mkF m 67 #[.val (.int p0), .val (.int p1), .val (.int p2), .unset, .unset, .unset] [(.int (31 : Int32)), (.int (8 : Int32)), (.ref b4), (.ref b4)])) rfl rfl (hb hby at_67)
    have NF22 := Fr.snoc X22 NF20 gn_b4
    refine Wp.via st22 ?_
    have K22 := K20.wr W22 (Or.inr sz_b4)
    have zz23 : n0 ≤ h22.size := by rw [W22.size]; exact zz21
    show Wp p e below _ (T22.setTop (mkF m 68 #[.val (.int p0), .val (.int p1), .val (.int p2), .unset, .unset, .unset] [(.ref b4)]))
    refine Wp.via (fun _ k => XS.dup X22.here hx rfl (hb hby at_68) rfl rfl k) ?_
    show Wp p e below _ (T22.setTop (mkF m 69 #[.val (.int p0), .val (.int p1), .val (.int p2), .unset, .unset, .unset] [(.ref b4), (.ref b4)]))
    refine Wp.via (fun _ k => XS.bipush X22.here hx rfl (hb hby at_69) k) ?_
    show Wp p e below _ (T22.setTop (mkF m 71 #[.val (.int p0), .val (.int p1), .val (.int p2), .unset, .unset, .unset] [(.int (9 : Int32)), (.ref b4), (.ref b4)]))
    refine Wp.via (fun _ k => XS.bipush X22.here hx rfl (hb hby at_71) k) ?_
    show Wp p e below _ (T22.setTop (mkF m 73 #[.val (.int p0), .val (.int p1), .val (.int p2), .unset, .unset, .unset] [(.int (32 : Int32)), (.int (9 : Int32)), (.ref b4), (.ref b4)]))
    obtain ⟨T24, h24, X24, e24, W24, V24, st24⟩ := avStI X22 hx hZ e22 V22 (i := 9) (by decide) rfl (by decide) (g := (mkF m 73 #[.val (.int p0), .val (.int p1), .val (.int p2), .unset, .unset, .unset] [(.int (32 : Int32)), (.int (9 : Int32)), (.ref b4), (.ref b4)])) rfl rfl (hb hby at_73)
    have NF24 := Fr.snoc X24 NF22 gn_b4
    refine Wp.via st24 ?_
    have K24 := K22.wr W24 (Or.inr sz_b4)
    have zz25 : n0 ≤ h24.size := by rw [W24.size]; exact zz23
    show Wp p e below _ (T24.setTop (mkF m 74 #[.val (.int p0), .val (.int p1), .val (.int p2), .unset, .unset, .unset] [(.ref b4)]))
    refine Wp.via (fun _ k => XS.dup X24.here hx rfl (hb hby at_74) rfl rfl k) ?_
    show Wp p e below _ (T24.setTop (mkF m 75 #[.val (.int p0), .val (.int p1), .val (.int p2), .unset, .unset, .unset] [(.ref b4), (.ref b4)]))
    refine Wp.via (fun _ k => XS.bipush X24.here hx rfl (hb hby at_75) k) ?_
    show Wp p e below _ (T24.setTop (mkF m 77 #[.val (.int p0), .val (.int p1), .val (.int p2), .unset, .unset, .unset] [(.int (10 : Int32)), (.ref b4), (.ref b4)]))
    refine Wp.via (fun _ k => X24.ldcInt hx hown (mvT hZ (hw _ (List.mem_of_getElem? (i := 1) rfl))) (g := (mkF m 77 #[.val (.int p0), .val (.int p1), .val (.int p2), .unset, .unset, .unset] [(.int (10 : Int32)), (.ref b4), (.ref b4)])) rfl (hb hby at_77) _ k) ?_
    show Wp p e below _ (T24.setTop (mkF m 79 #[.val (.int p0), .val (.int p1), .val (.int p2), .unset, .unset, .unset] [(.int (55295 : Int32)), (.int (10 : Int32)), (.ref b4), (.ref b4)]))
    obtain ⟨T26, h26, X26, e26, W26, V26, st26⟩ := avStI X24 hx hZ e24 V24 (i := 10) (by decide) rfl (by decide) (g := (mkF m 79 #[.val (.int p0), .val (.int p1), .val (.int p2), .unset, .unset, .unset] [(.int (55295 : Int32)), (.int (10 : Int32)), (.ref b4), (.ref b4)])) rfl rfl (hb hby at_79)
    have NF26 := Fr.snoc X26 NF24 gn_b4
    refine Wp.via st26 ?_
    have K26 := K24.wr W26 (Or.inr sz_b4)
    have zz27 : n0 ≤ h26.size := by rw [W26.size]; exact zz25
    show Wp p e below _ (T26.setTop (mkF m 80 #[.val (.int p0), .val (.int p1), .val (.int p2), .unset, .unset, .unset] [(.ref b4)]))
    refine Wp.via (fun _ k => XS.dup X26.here hx rfl (hb hby at_80) rfl rfl k) ?_
    show Wp p e below _ (T26.setTop (mkF m 81 #[.val (.int p0), .val (.int p1), .val (.int p2), .unset, .unset, .unset] [(.ref b4), (.ref b4)]))
    refine Wp.via (fun _ k => XS.bipush X26.here hx rfl (hb hby at_81) k) ?_
    show Wp p e below _ (T26.setTop (mkF m 83 #[.val (.int p0), .val (.int p1), .val (.int p2), .unset, .unset, .unset] [(.int (11 : Int32)), (.ref b4), (.ref b4)]))
    refine Wp.via (fun _ k => X26.ldcInt hx hown (mvT hZ (hw _ (List.mem_of_getElem? (i := 2) rfl))) (g := (mkF m 83 #[.val (.int p0), .val (.int p1), .val (.int p2), .unset, .unset, .unset] [(.int (11 : Int32)), (.ref b4), (.ref b4)])) rfl (hb hby at_83) _ k) ?_
    show Wp p e below _ (T26.setTop (mkF m 85 #[.val (.int p0), .val (.int p1), .val (.int p2), .unset, .unset, .unset] [(.int (55296 : Int32)), (.int (11 : Int32)), (.ref b4), (.ref b4)]))
    obtain ⟨T28, h28, X28, e28, W28, V28, st28⟩ := avStI X26 hx hZ e26 V26 (i := 11) (by decide) rfl (by decide) (g := (mkF m 85 #[.val (.int p0), .val (.int p1), .val (.int p2), .unset, .unset, .unset] [(.int (55296 : Int32)), (.int (11 : Int32)), (.ref b4), (.ref b4)])) rfl rfl (hb hby at_85)
    have NF28 := Fr.snoc X28 NF26 gn_b4
    refine Wp.via st28 ?_
    have K28 := K26.wr W28 (Or.inr sz_b4)
    have zz29 : n0 ≤ h28.size := by rw [W28.size]; exact zz27
    show Wp p e below _ (T28.setTop (mkF m 86 #[.val (.int p0), .val (.int p1), .val (.int p2), .unset, .unset, .unset] [(.ref b4)]))
    refine Wp.via (fun _ k => XS.dup X28.here hx rfl (hb hby at_86) rfl rfl k) ?_
    show Wp p e below _ (T28.setTop (mkF m 87 #[.val (.int p0), .val (.int p1), .val (.int p2), .unset, .unset, .unset] [(.ref b4), (.ref b4)]))
    refine Wp.via (fun _ k => XS.bipush X28.here hx rfl (hb hby at_87) k) ?_
    show Wp p e below _ (T28.setTop (mkF m 89 #[.val (.int p0), .val (.int p1), .val (.int p2), .unset, .unset, .unset] [(.int (12 : Int32)), (.ref b4), (.ref b4)]))
    refine Wp.via (fun _ k => X28.ldcInt hx hown (mvT hZ (hw _ (List.mem_of_getElem? (i := 3) rfl))) (g := (mkF m 89 #[.val (.int p0), .val (.int p1), .val (.int p2), .unset, .unset, .unset] [(.int (12 : Int32)), (.ref b4), (.ref b4)])) rfl (hb hby at_89) _ k) ?_
    show Wp p e below _ (T28.setTop (mkF m 91 #[.val (.int p0), .val (.int p1), .val (.int p2), .unset, .unset, .unset] [(.int (57343 : Int32)), (.int (12 : Int32)), (.ref b4), (.ref b4)]))
    obtain ⟨T30, h30, X30, e30, W30, V30, st30⟩ := avStI X28 hx hZ e28 V28 (i := 12) (by decide) rfl (by decide) (g := (mkF m 91 #[.val (.int p0), .val (.int p1), .val (.int p2), .unset, .unset, .unset] [(.int (57343 : Int32)), (.int (12 : Int32)), (.ref b4), (.ref b4)])) rfl rfl (hb hby at_91)
    have NF30 := Fr.snoc X30 NF28 gn_b4
    refine Wp.via st30 ?_
    have K30 := K28.wr W30 (Or.inr sz_b4)
    have zz31 : n0 ≤ h30.size := by rw [W30.size]; exact zz29
    show Wp p e below _ (T30.setTop (mkF m 92 #[.val (.int p0), .val (.int p1), .val (.int p2), .unset, .unset, .unset] [(.ref b4)]))
    refine Wp.via (fun _ k => XS.dup X30.here hx rfl (hb hby at_92) rfl rfl k) ?_
    show Wp p e below _ (T30.setTop (mkF m 93 #[.val (.int p0), .val (.int p1), .val (.int p2), .unset, .unset, .unset] [(.ref b4), (.ref b4)]))
    refine Wp.via (fun _ k => XS.bipush X30.here hx rfl (hb hby at_93) k) ?_
    show Wp p e below _ (T30.setTop (mkF m 95 #[.val (.int p0), .val (.int p1), .val (.int p2), .unset, .unset, .unset] [(.int (13 : Int32)), (.ref b4), (.ref b4)]))
    refine Wp.via (fun _ k => X30.ldcInt hx hown (mvT hZ (hw _ (List.mem_of_getElem? (i := 4) rfl))) (g := (mkF m 95 #[.val (.int p0), .val (.int p1), .val (.int p2), .unset, .unset, .unset] [(.int (13 : Int32)), (.ref b4), (.ref b4)])) rfl (hb hby at_95) _ k) ?_
    show Wp p e below _ (T30.setTop (mkF m 97 #[.val (.int p0), .val (.int p1), .val (.int p2), .unset, .unset, .unset] [(.int (57344 : Int32)), (.int (13 : Int32)), (.ref b4), (.ref b4)]))
    obtain ⟨T32, h32, X32, e32, W32, V32, st32⟩ := avStI X30 hx hZ e30 V30 (i := 13) (by decide) rfl (by decide) (g := (mkF m 97 #[.val (.int p0), .val (.int p1), .val (.int p2), .unset, .unset, .unset] [(.int (57344 : Int32)), (.int (13 : Int32)), (.ref b4), (.ref b4)])) rfl rfl (hb hby at_97)
    have NF32 := Fr.snoc X32 NF30 gn_b4
    refine Wp.via st32 ?_
    have K32 := K30.wr W32 (Or.inr sz_b4)
    have zz33 : n0 ≤ h32.size := by rw [W32.size]; exact zz31
    show Wp p e below _ (T32.setTop (mkF m 98 #[.val (.int p0), .val (.int p1), .val (.int p2), .unset, .unset, .unset] [(.ref b4)]))
    refine Wp.via (fun _ k => XS.dup X32.here hx rfl (hb hby at_98) rfl rfl k) ?_
    show Wp p e below _ (T32.setTop (mkF m 99 #[.val (.int p0), .val (.int p1), .val (.int p2), .unset, .unset, .unset] [(.ref b4), (.ref b4)]))
    refine Wp.via (fun _ k => XS.bipush X32.here hx rfl (hb hby at_99) k) ?_
    show Wp p e below _ (T32.setTop (mkF m 101 #[.val (.int p0), .val (.int p1), .val (.int p2), .unset, .unset, .unset] [(.int (14 : Int32)), (.ref b4), (.ref b4)]))
    refine Wp.via (fun _ k => X32.ldcInt hx hown (mvT hZ (hw _ (List.mem_of_getElem? (i := 5) rfl))) (g := (mkF m 101 #[.val (.int p0), .val (.int p1), .val (.int p2), .unset, .unset, .unset] [(.int (14 : Int32)), (.ref b4), (.ref b4)])) rfl (hb hby at_101) _ k) ?_
    show Wp p e below _ (T32.setTop (mkF m 103 #[.val (.int p0), .val (.int p1), .val (.int p2), .unset, .unset, .unset] [(.int (65533 : Int32)), (.int (14 : Int32)), (.ref b4), (.ref b4)]))
    obtain ⟨T34, h34, X34, e34, W34, V34, st34⟩ := avStI X32 hx hZ e32 V32 (i := 14) (by decide) rfl (by decide) (g := (mkF m 103 #[.val (.int p0), .val (.int p1), .val (.int p2), .unset, .unset, .unset] [(.int (65533 : Int32)), (.int (14 : Int32)), (.ref b4), (.ref b4)])) rfl rfl (hb hby at_103)
    have NF34 := Fr.snoc X34 NF32 gn_b4
    refine Wp.via st34 ?_
    have K34 := K32.wr W34 (Or.inr sz_b4)
    have zz35 : n0 ≤ h34.size := by rw [W34.size]; exact zz33
    show Wp p e below _ (T34.setTop (mkF m 104 #[.val (.int p0), .val (.int p1), .val (.int p2), .unset, .unset, .unset] [(.ref b4)]))
    refine Wp.via (fun _ k => XS.dup X34.here hx rfl (hb hby at_104) rfl rfl k) ?_
    show Wp p e below _ (T34.setTop (mkF m 105 #[.val (.int p0), .val (.int p1), .val (.int p2), .unset, .unset, .unset] [(.ref b4), (.ref b4)]))
    refine Wp.via (fun _ k => XS.bipush X34.here hx rfl (hb hby at_105) k) ?_
    show Wp p e below _ (T34.setTop (mkF m 107 #[.val (.int p0), .val (.int p1), .val (.int p2), .unset, .unset, .unset] [(.int (15 : Int32)), (.ref b4), (.ref b4)]))
    refine Wp.via (fun _ k => X34.ldcInt hx hown (mvT hZ (hw _ (List.mem_of_getElem? (i := 6) rfl))) (g := (mkF m 107 #[.val (.int p0), .val (.int p1), .val (.int p2), .unset, .unset, .unset] [(.int (15 : Int32)), (.ref b4), (.ref b4)])) rfl (hb hby at_107) _ k) ?_
    show Wp p e below _ (T34.setTop (mkF m 109 #[.val (.int p0), .val (.int p1), .val (.int p2), .unset, .unset, .unset] [(.int (65534 : Int32)), (.int (15 : Int32)), (.ref b4), (.ref b4)]))
    obtain ⟨T36, h36, X36, e36, W36, V36, st36⟩ := avStI X34 hx hZ e34 V34 (i := 15) (by decide) rfl (by decide) (g := (mkF m 109 #[.val (.int p0), .val (.int p1), .val (.int p2), .unset, .unset, .unset] [(.int (65534 : Int32)), (.int (15 : Int32)), (.ref b4), (.ref b4)])) rfl rfl (hb hby at_109)
    have NF36 := Fr.snoc X36 NF34 gn_b4
    refine Wp.via st36 ?_
    have K36 := K34.wr W36 (Or.inr sz_b4)
    have zz37 : n0 ≤ h36.size := by rw [W36.size]; exact zz35
    show Wp p e below _ (T36.setTop (mkF m 110 #[.val (.int p0), .val (.int p1), .val (.int p2), .unset, .unset, .unset] [(.ref b4)]))
    refine Wp.via (fun _ k => XS.dup X36.here hx rfl (hb hby at_110) rfl rfl k) ?_
    show Wp p e below _ (T36.setTop (mkF m 111 #[.val (.int p0), .val (.int p1), .val (.int p2), .unset, .unset, .unset] [(.ref b4), (.ref b4)]))
    refine Wp.via (fun _ k => XS.bipush X36.here hx rfl (hb hby at_111) k) ?_
    show Wp p e below _ (T36.setTop (mkF m 113 #[.val (.int p0), .val (.int p1), .val (.int p2), .unset, .unset, .unset] [(.int (16 : Int32)), (.ref b4), (.ref b4)]))
    refine Wp.via (fun _ k => X36.ldcInt hx hown (mvT hZ (hw _ (List.mem_of_getElem? (i := 7) rfl))) (g := (mkF m 113 #[.val (.int p0), .val (.int p1), .val (.int p2), .unset, .unset, .unset] [(.int (16 : Int32)), (.ref b4), (.ref b4)])) rfl (hb hby at_113) _ k) ?_
    show Wp p e below _ (T36.setTop (mkF m 115 #[.val (.int p0), .val (.int p1), .val (.int p2), .unset, .unset, .unset] [(.int (65535 : Int32)), (.int (16 : Int32)), (.ref b4), (.ref b4)]))
    obtain ⟨T38, h38, X38, e38, W38, V38, st38⟩ := avStI X36 hx hZ e36 V36 (i := 16) (by decide) rfl (by decide) (g := (mkF m 115 #[.val (.int p0), .val (.int p1), .val (.int p2), .unset, .unset, .unset] [(.int (65535 : Int32)), (.int (16 : Int32)), (.ref b4), (.ref b4)])) rfl rfl (hb hby at_115)
    have NF38 := Fr.snoc X38 NF36 gn_b4
    refine Wp.via st38 ?_
    have K38 := K36.wr W38 (Or.inr sz_b4)
    have zz39 : n0 ≤ h38.size := by rw [W38.size]; exact zz37
    show Wp p e below _ (T38.setTop (mkF m 116 #[.val (.int p0), .val (.int p1), .val (.int p2), .unset, .unset, .unset] [(.ref b4)]))
    refine Wp.via (fun _ k => XS.dup X38.here hx rfl (hb hby at_116) rfl rfl k) ?_
    show Wp p e below _ (T38.setTop (mkF m 117 #[.val (.int p0), .val (.int p1), .val (.int p2), .unset, .unset, .unset] [(.ref b4), (.ref b4)]))
    refine Wp.via (fun _ k => XS.bipush X38.here hx rfl (hb hby at_117) k) ?_
    show Wp p e below _ (T38.setTop (mkF m 119 #[.val (.int p0), .val (.int p1), .val (.int p2), .unset, .unset, .unset] [(.int (17 : Int32)), (.ref b4), (.ref b4)]))
    refine Wp.via (fun _ k => X38.ldcInt hx hown (mvT hZ (hw _ (List.mem_of_getElem? (i := 8) rfl))) (g := (mkF m 119 #[.val (.int p0), .val (.int p1), .val (.int p2), .unset, .unset, .unset] [(.int (17 : Int32)), (.ref b4), (.ref b4)])) rfl (hb hby at_119) _ k) ?_
    show Wp p e below _ (T38.setTop (mkF m 121 #[.val (.int p0), .val (.int p1), .val (.int p2), .unset, .unset, .unset] [(.int (65536 : Int32)), (.int (17 : Int32)), (.ref b4), (.ref b4)]))
    obtain ⟨T40, h40, X40, e40, W40, V40, st40⟩ := avStI X38 hx hZ e38 V38 (i := 17) (by decide) rfl (by decide) (g := (mkF m 121 #[.val (.int p0), .val (.int p1), .val (.int p2), .unset, .unset, .unset] [(.int (65536 : Int32)), (.int (17 : Int32)), (.ref b4), (.ref b4)])) rfl rfl (hb hby at_121)
    have NF40 := Fr.snoc X40 NF38 gn_b4
    refine Wp.via st40 ?_
    have K40 := K38.wr W40 (Or.inr sz_b4)
    have zz41 : n0 ≤ h40.size := by rw [W40.size]; exact zz39
    show Wp p e below _ (T40.setTop (mkF m 122 #[.val (.int p0), .val (.int p1), .val (.int p2), .unset, .unset, .unset] [(.ref b4)]))
    refine Wp.via (fun _ k => XS.dup X40.here hx rfl (hb hby at_122) rfl rfl k) ?_
    show Wp p e below _ (T40.setTop (mkF m 123 #[.val (.int p0), .val (.int p1), .val (.int p2), .unset, .unset, .unset] [(.ref b4), (.ref b4)]))
    refine Wp.via (fun _ k => XS.bipush X40.here hx rfl (hb hby at_123) k) ?_
    show Wp p e below _ (T40.setTop (mkF m 125 #[.val (.int p0), .val (.int p1), .val (.int p2), .unset, .unset, .unset] [(.int (18 : Int32)), (.ref b4), (.ref b4)]))
    refine Wp.via (fun _ k => X40.ldcInt hx hown (mvT hZ (hw _ (List.mem_of_getElem? (i := 9) rfl))) (g := (mkF m 125 #[.val (.int p0), .val (.int p1), .val (.int p2), .unset, .unset, .unset] [(.int (18 : Int32)), (.ref b4), (.ref b4)])) rfl (hb hby at_125) _ k) ?_
    show Wp p e below _ (T40.setTop (mkF m 127 #[.val (.int p0), .val (.int p1), .val (.int p2), .unset, .unset, .unset] [(.int (1114111 : Int32)), (.int (18 : Int32)), (.ref b4), (.ref b4)]))
    obtain ⟨T42, h42, X42, e42, W42, V42, st42⟩ := avStI X40 hx hZ e40 V40 (i := 18) (by decide) rfl (by decide) (g := (mkF m 127 #[.val (.int p0), .val (.int p1), .val (.int p2), .unset, .unset, .unset] [(.int (1114111 : Int32)), (.int (18 : Int32)), (.ref b4), (.ref b4)])) rfl rfl (hb hby at_127)
    have NF42 := Fr.snoc X42 NF40 gn_b4
    refine Wp.via st42 ?_
    have K42 := K40.wr W42 (Or.inr sz_b4)
    have zz43 : n0 ≤ h42.size := by rw [W42.size]; exact zz41
    show Wp p e below _ (T42.setTop (mkF m 128 #[.val (.int p0), .val (.int p1), .val (.int p2), .unset, .unset, .unset] [(.ref b4)]))
    refine Wp.via (fun _ k => XS.astore X42.here hx rfl (hb hby at_128) rfl rfl (l' := #[.val (.int p0), .val (.int p1), .val (.int p2), .unset, .val (.ref b4), .unset]) rfl k) ?_
    show Wp p e below _ (T42.setTop (mkF m 130 #[.val (.int p0), .val (.int p1), .val (.int p2), .unset, .val (.ref b4), .unset] []))
    refine Wp.via (fun _ k => XS.aload X42.here hx rfl (hb hby at_130) rfl rfl k) ?_
    show Wp p e below _ (T42.setTop (mkF m 132 #[.val (.int p0), .val (.int p1), .val (.int p2), .unset, .val (.ref b4), .unset] [(.ref b4)]))
    refine Wp.via (fun _ k => XS.iloadN X42.here hx rfl (hb hby at_132) rfl k) ?_
    show Wp p e below _ (T42.setTop (mkF m 133 #[.val (.int p0), .val (.int p1), .val (.int p2), .unset, .val (.ref b4), .unset] [(.int p1), (.ref b4)]))
    refine Wp.via (fun _ k => XS.iconst X42.here hx rfl (hb hby at_133) k) ?_
    show Wp p e below _ (T42.setTop (mkF m 134 #[.val (.int p0), .val (.int p1), .val (.int p2), .unset, .val (.ref b4), .unset] [(.int (1 : Int32)), (.int p1), (.ref b4)]))
    refine Wp.via (fun _ k => XS.iushr X42.here hx rfl (hb hby at_134) rfl k) ?_
    show Wp p e below _ (T42.setTop (mkF m 135 #[.val (.int p0), .val (.int p1), .val (.int p2), .unset, .val (.ref b4), .unset] [(.int ((p1.toUInt32 >>> ((1 : Int32) &&& 31).toUInt32).toInt32)), (.ref b4)]))
    refine Wp.via (fun _ k => XS.bipush X42.here hx rfl (hb hby at_135) k) ?_
    show Wp p e below _ (T42.setTop (mkF m 137 #[.val (.int p0), .val (.int p1), .val (.int p2), .unset, .val (.ref b4), .unset] [(.int (19 : Int32)), (.int ((p1.toUInt32 >>> ((1 : Int32) &&& 31).toUInt32).toInt32)), (.ref b4)]))
    refine Wp.via (fun _ k => iremM X42 hx rfl (hb hby at_137) rfl (by decide) k) ?_
    show Wp p e below _ (T42.setTop (mkF m 138 #[.val (.int p0), .val (.int p1), .val (.int p2), .unset, .val (.ref b4), .unset] [(.int (((p1.toUInt32 >>> ((1 : Int32) &&& 31).toUInt32).toInt32) % (19 : Int32))), (.ref b4)]))
    have m1 : (((p1.toUInt32 >>> ((1 : Int32) &&& 31).toUInt32).toInt32)).toInt = (p1.toInt % 4294967296) / (2 ^ 1 : Nat) := c_iushr p1 1 1 (by decide) (by decide)
    have m0 := rng32 p1
    have m2 := (c_irem ((p1.toUInt32 >>> ((1 : Int32) &&& 31).toUInt32).toInt32) 19 19 (by decide)).1 (by rw [m1]; omega)
    have m3 : ¬ (((p1.toUInt32 >>> ((1 : Int32) &&& 31).toUInt32).toInt32) % (19 : Int32)) < 0 := by rw [Int32.lt_iff_toInt_lt, m2]; show ¬ (_ < (0 : Int)); omega
    have m4 : (((p1.toUInt32 >>> ((1 : Int32) &&& 31).toUInt32).toInt32) % (19 : Int32)).toNatClampNeg < 19 := by simp only [Int32.toNatClampNeg, m2]; omega
    obtain ⟨ev, hev⟩ : ∃ z, (fun k => if k = 18 then (.int (1114111 : Int32)) else (fun k => if k = 17 then (.int (65536 : Int32)) else (fun k => if k = 16 then (.int (65535 : Int32)) else (fun k => if k = 15 then (.int (65534 : Int32)) else (fun k => if k = 14 then (.int (65533 : Int32)) else (fun k => if k = 13 then (.int (57344 : Int32)) else (fun k => if k = 12 then (.int (57343 : Int32)) else (fun k => if k = 11 then (.int (55296 : Int32)) else (fun k => if k = 10 then (.int (55295 : Int32)) else (fun k => if k = 9 then (.int (32 : Int32)) else (fun k => if k = 8 then (.int (31 : Int32)) else (fun k => if k = 7 then (.int (14 : Int32)) else (fun k => if k = 6 then (.int (13 : Int32)) else (fun k => if k = 5 then (.int (12 : Int32)) else (fun k => if k = 4 then (.int (11 : Int32)) else (fun k => if k = 3 then (.int (10 : Int32)) else (fun k => if k = 2 then (.int (9 : Int32)) else (fun k => if k = 1 then (.int (8 : Int32)) else (fun k => if k = 0 then (.int (0 : Int32)) else (fun _ => (.int (0 : Int32))) k) k) k) k) k) k) k) k) k) k) k) k) k) k) k) k) k) k) k) (((p1.toUInt32 >>> ((1 : Int32) &&& 31).toUInt32).toInt32) % (19 : Int32)).toNatClampNeg = Value.int z := own_up (own_up (own_up (own_up (own_up (own_up (own_up (own_up (own_up (own_up (own_up (own_up (own_up (own_up (own_up (own_up (own_up (own_up (own_up ((fun _ => ⟨_, rfl⟩)))))))))))))))))))) _
    refine Wp.via (fun _ k => avLdI X42 hx hZ e42 V42 (i := _) m3 rfl m4 (w := (.int ev)) hev (g := (mkF m 138 #[.val (.int p0), .val (.int p1), .val (.int p2), .unset, .val (.ref b4), .unset] [(.int (((p1.toUInt32 >>> ((1 : Int32) &&& 31).toUInt32).toInt32) % (19 : Int32))), (.ref b4)])) rfl rfl (hb hby at_138) _ k) ?_
    show Wp p e below _ (T42.setTop (mkF m 139 #[.val (.int p0), .val (.int p1), .val (.int p2), .unset, .val (.ref b4), .unset] [(.int ev)]))
    refine Wp.via (fun _ k => XS.istore X42.here hx rfl (hb hby at_139) rfl (l' := #[.val (.int p0), .val (.int p1), .val (.int p2), .unset, .val (.ref b4), .val (.int ev)]) rfl k) ?_
    show Wp p e below _ (T42.setTop (mkF m 141 #[.val (.int p0), .val (.int p1), .val (.int p2), .unset, .val (.ref b4), .val (.int ev)] []))
    refine Wp.via (fun _ k => XS.iconst X42.here hx rfl (hb hby at_141) k) ?_
    show Wp p e below _ (T42.setTop (mkF m 142 #[.val (.int p0), .val (.int p1), .val (.int p2), .unset, .val (.ref b4), .val (.int ev)] [(.int (0 : Int32))]))
    refine Wp.via (fun _ k => X42.ldcInt hx hown (mvT hZ (hw _ (List.mem_of_getElem? (i := 9) rfl))) (g := (mkF m 142 #[.val (.int p0), .val (.int p1), .val (.int p2), .unset, .val (.ref b4), .val (.int ev)] [(.int (0 : Int32))])) rfl (hb hby at_142) _ k) ?_
    show Wp p e below _ (T42.setTop (mkF m 144 #[.val (.int p0), .val (.int p1), .val (.int p2), .unset, .val (.ref b4), .val (.int ev)] [(.int (1114111 : Int32)), (.int (0 : Int32))]))
    refine Wp.via (fun _ k => XS.iload X42.here hx rfl (hb hby at_144) rfl k) ?_
    show Wp p e below _ (T42.setTop (mkF m 146 #[.val (.int p0), .val (.int p1), .val (.int p2), .unset, .val (.ref b4), .val (.int ev)] [(.int ev), (.int (1114111 : Int32)), (.int (0 : Int32))]))
    refine Wp.via (fun _ k => XS.iloadN X42.here hx rfl (hb hby at_146) rfl k) ?_
    show Wp p e below _ (T42.setTop (mkF m 147 #[.val (.int p0), .val (.int p1), .val (.int p2), .unset, .val (.ref b4), .val (.int ev)] [(.int p2), (.int ev), (.int (1114111 : Int32)), (.int (0 : Int32))]))
    refine Wp.via (fun _ k => XS.bipush X42.here hx rfl (hb hby at_147) k) ?_
    show Wp p e below _ (T42.setTop (mkF m 149 #[.val (.int p0), .val (.int p1), .val (.int p2), .unset, .val (.ref b4), .val (.int ev)] [(.int (7 : Int32)), (.int p2), (.int ev), (.int (1114111 : Int32)), (.int (0 : Int32))]))
    refine Wp.via (fun _ k => XS.iand X42.here hx rfl (hb hby at_149) rfl k) ?_
    show Wp p e below _ (T42.setTop (mkF m 150 #[.val (.int p0), .val (.int p1), .val (.int p2), .unset, .val (.ref b4), .val (.int ev)] [(.int (p2 &&& (7 : Int32))), (.int ev), (.int (1114111 : Int32)), (.int (0 : Int32))]))
    refine Wp.via (fun _ k => XS.iconst X42.here hx rfl (hb hby at_150) k) ?_
    show Wp p e below _ (T42.setTop (mkF m 151 #[.val (.int p0), .val (.int p1), .val (.int p2), .unset, .val (.ref b4), .val (.int ev)] [(.int (3 : Int32)), (.int (p2 &&& (7 : Int32))), (.int ev), (.int (1114111 : Int32)), (.int (0 : Int32))]))
    refine Wp.via (fun _ k => XS.isub X42.here hx rfl (hb hby at_151) rfl k) ?_
    show Wp p e below _ (T42.setTop (mkF m 152 #[.val (.int p0), .val (.int p1), .val (.int p2), .unset, .val (.ref b4), .val (.int ev)] [(.int ((p2 &&& (7 : Int32)) - (3 : Int32))), (.int ev), (.int (1114111 : Int32)), (.int (0 : Int32))]))
    refine Wp.via (fun _ k => XS.iadd X42.here hx rfl (hb hby at_152) rfl k) ?_
    show Wp p e below _ (T42.setTop (mkF m 153 #[.val (.int p0), .val (.int p1), .val (.int p2), .unset, .val (.ref b4), .val (.int ev)] [(.int (ev + ((p2 &&& (7 : Int32)) - (3 : Int32)))), (.int (1114111 : Int32)), (.int (0 : Int32))]))
    obtain ⟨_, _, ⟨T44, L44, k44, n44⟩, -, X44, ⟨Lc44, hQ44, l44, y44, z44⟩, st44⟩ := Jvm.LawKit.callS X42 hx (y := (⟨"java/lang/Math", "min", "(II)I"⟩ : MethodName)) hown (mvT hZ (hw _ (List.mem_of_getElem? (i := 10) rfl))) (mvT hZ (hw _ (List.mem_of_getElem? (i := 11) rfl))) (mvT hZ (hw _ (List.mem_of_getElem? (i := 12) rfl))) (mvT hZ (hw _ (List.mem_of_getElem? (i := 13) rfl))) (by decide) (backOf (W := 1) (rm1 l Z aw hw [] (1114111 : Int32) (ev + ((p2 &&& (7 : Int32)) - (3 : Int32)))  h42 n0 zz43 ) hZ (hw _ (List.mem_of_getElem? (i := 13) rfl)) (hw _ (List.mem_of_getElem? (i := 12) rfl)) (by decide) (by decide)) (g := (mkF m 153 #[.val (.int p0), .val (.int p1), .val (.int p2), .unset, .val (.ref b4), .val (.int ev)] [(.int (ev + ((p2 &&& (7 : Int32)) - (3 : Int32)))), (.int (1114111 : Int32)), (.int (0 : Int32))])) rfl (by rw [hml]; rfl) (argsL := [(.int (1114111 : Int32)), (.int (ev + ((p2 &&& (7 : Int32)) - (3 : Int32))))]) (rest := [(.int (0 : Int32))]) (lenOf own_pd0 rfl) rfl (by show 2 * 0 + _ ≤ _; exact Nat.le_of_eq rfl) (hb hby at_153) (fun _ _ => ⟨rfl, e42, (by decide : 1 + 0 ≤ _), (by decide : 19 + 0 ≤ _)⟩)
    dsimp only [Pt.U, Pt.locs, Pt.cells, Pt.slots] at X44 l44 y44 z44 st44 hQ44
    subst l44 y44 z44
    obtain ⟨rfl, N44, e44⟩ := hQ44
    have NF44 := Fr.app NF42 N44
    refine Wp.via st44 ?_
    show Wp p e below _ (T44.setTop (mkF m 156 #[.val (.int p0), .val (.int p1), .val (.int p2), .unset, .val (.ref b4), .val (.int ev)] [(.int (f1_0 (1114111 : Int32) (ev + ((p2 &&& (7 : Int32)) - (3 : Int32))))), (.int (0 : Int32))]))
    obtain ⟨_, _, ⟨T45, L45, k45, n45⟩, -, X45, ⟨Lc45, hQ45, l45, y45, z45⟩, st45⟩ := Jvm.LawKit.callS X44 hx (y := (⟨"java/lang/Math", "max", "(II)I"⟩ : MethodName)) hown (mvT hZ (hw _ (List.mem_of_getElem? (i := 14) rfl))) (mvT hZ (hw _ (List.mem_of_getElem? (i := 15) rfl))) (mvT hZ (hw _ (List.mem_of_getElem? (i := 12) rfl))) (mvT hZ (hw _ (List.mem_of_getElem? (i := 16) rfl))) (by decide) (backOf (W := 0) (rm2 l Z aw hw [] (0 : Int32) (f1_0 (1114111 : Int32) (ev + ((p2 &&& (7 : Int32)) - (3 : Int32))))  h42 n0 zz43 ) hZ (hw _ (List.mem_of_getElem? (i := 16) rfl)) (hw _ (List.mem_of_getElem? (i := 12) rfl)) (by decide) (by decide)) (g := (mkF m 156 #[.val (.int p0), .val (.int p1), .val (.int p2), .unset, .val (.ref b4), .val (.int ev)] [(.int (f1_0 (1114111 : Int32) (ev + ((p2 &&& (7 : Int32)) - (3 : Int32))))), (.int (0 : Int32))])) rfl (by rw [hml]; rfl) (argsL := [(.int (0 : Int32)), (.int (f1_0 (1114111 : Int32) (ev + ((p2 &&& (7 : Int32)) - (3 : Int32)))))]) (rest := []) (lenOf own_pd0 rfl) rfl (by show 2 * 0 + _ ≤ _; exact Nat.le_of_eq rfl) (hb hby at_156) (fun _ _ => ⟨rfl, e44, (by decide : 1 + 0 ≤ _), (by decide : 19 + 0 ≤ _)⟩)
    dsimp only [Pt.U, Pt.locs, Pt.cells, Pt.slots] at X45 l45 y45 z45 st45 hQ45
    subst l45 y45 z45
    obtain ⟨rfl, N45, e45⟩ := hQ45
    have NF45 := Fr.app NF44 N45
    refine Wp.via st45 ?_
    show Wp p e below _ (T45.setTop (mkF m 159 #[.val (.int p0), .val (.int p1), .val (.int p2), .unset, .val (.ref b4), .val (.int ev)] [(.int (f2_0 (0 : Int32) (f1_0 (1114111 : Int32) (ev + ((p2 &&& (7 : Int32)) - (3 : Int32))))))]))
    refine Wp.via (fun _ k => XS.istoreN X45.here hx rfl (hb hby at_159) rfl (l' := #[.val (.int p0), .val (.int p1), .val (.int p2), .val (.int (f2_0 (0 : Int32) (f1_0 (1114111 : Int32) (ev + ((p2 &&& (7 : Int32)) - (3 : Int32)))))), .val (.ref b4), .val (.int ev)]) rfl k) ?_
    show Wp p e below _ (T45.setTop (mkF m 160 #[.val (.int p0), .val (.int p1), .val (.int p2), .val (.int (f2_0 (0 : Int32) (f1_0 (1114111 : Int32) (ev + ((p2 &&& (7 : Int32)) - (3 : Int32)))))), .val (.ref b4), .val (.int ev)] []))
    exact J160 T45 _ _ _ _ X45 e45 zz43 NF45 (by decide) (by decide) _ _ _
set_option maxRecDepth 65536 in
set_option maxHeartbeats 40000000 in
theorem comes_1 {Post : Tables → Env → Array Value → State → Outcome → State → Prop} (hpost : ∀ tb e args s v u, (limb_1_1.after args s (.returned v) u = true ∧ limb_1_2.after args s (.returned v) u = true ∧ True) → FrameEnd s (.returned v) u (Jvm.fieldLocs frame_1_writes args s ++ Jvm.arrayLocs frame_1_arrays args s ++ Jvm.staticLocs frame_1_statics s) 16 128 → Post tb e args s (.returned v) u) :
    ArmFor flags0 classFile x code maxLocals ret World_1 tables_1 room_1 Calls_1 rest_1 Pre_1 Post := by
  intro l hfl _ _ p e ha hc hk s m args below hf hA hF happ hP
  obtain ⟨hcalls, hrest, hpre⟩ := hP
  obtain ⟨-, -, -, hnamed, -, -, -, hat⟩ := (Spec.applies_iff hf).mp happ
  obtain ⟨hg, hn⟩ := and_e (Cond.before_iff.mp (show (Jvm.Cond.and given_1 narrow_1).before args s = true from hpre))
  obtain ⟨g1, g2⟩ := and_e hg
  obtain ⟨g3, g4⟩ := and_e g2
  obtain ⟨g5, g6⟩ := and_e g4
  obtain ⟨w0, w1, w2, rfl⟩ : ∃ w0 w1 w2 : Value, args = #[w0, w1, w2] := by
    have hs : args.size = 3 := by simpa [Cond.value, given_1] using g1
    obtain ⟨L⟩ := args
    match L, hs with
    | [w0, w1, w2], _ => exact ⟨w0, w1, w2, rfl⟩
  have hw := fun d (hd : d ∈ tables_1) => atoms_spec (ws := Jvm.Cond.code x code maxLocals ret :: tables_1) hat d (List.mem_cons_of_mem _ hd)
  obtain ⟨i0, ei0⟩ := is_v g3
  obtain rfl : w0 = (.int i0) := Option.some.inj ei0
  obtain ⟨i1, ei1⟩ := is_v g5
  obtain rfl : w1 = (.int i1) := Option.some.inj ei1
  obtain ⟨i2, ei2⟩ := is_v g6
  obtain rfl : w2 = (.int i2) := Option.some.inj ei2
  obtain ⟨n, o, h1, h2, h3, _, L, rfl, ⟨rfl, N⟩, hq⟩ := rm0 l s _ hw tables_1 i0 i1 i2 s.heap s.heap.size (Nat.le_refl _)  p e ha hc hk s m _ below hf ((Spec.applies_iff_loose hf).mp happ).1 ⟨rfl, State.Warmed39.refl s, rfl⟩ trivial
  refine ⟨n, _, h1, h2, h3, hpost _ _ _ _ _ _ ⟨Cond.after_iff.mpr rfl, Cond.after_iff.mpr (eq_i res_at (Term.int_eval (1)) rfl), trivial⟩ ⟨hq.1, hq.2.1, (hq.2.2.sift fun y hy => Or.inr (N y hy)).mono (by decide) (by decide)⟩⟩
theorem main_1_1 : Claimed_1_1 := comes_1 fun _ _ _ _ _ _ h hF => ⟨h.1, hF⟩
theorem main_1_2 : Claimed_1_2 := comes_1 fun _ _ _ _ _ _ h hF => ⟨h.2.1, hF⟩
end Jvm.Pilot.@@N@@
namespace Jvm.Pilot.@@N@@
open Jvm Jvm.ClassFile Sem Op Lib Jvm.Free Jvm.Stand Jvm.Pilot.@@N@@.Jvm.D
/-! MADE BY PROGRAM (witnessworld.py) out of the Statement's table words and the real class files: 10 classes; the members and pool entries that the words name. The judged class is class 1, her method 1. -/
namespace start1
open Jvm.ClassFile
def u (s : String) : CpInfo := .utf8 (stringToUtf16 s)
/-- a pool by its gaps: so many unusable entries, then the entry; so many at the end -/
def gap : Nat → List CpInfo → List CpInfo
  | 0, r => r
  | n + 1, r => .unusable :: gap n r
def poolList (es : List (Nat × CpInfo)) (last : Nat) : List CpInfo := es.foldr (fun e r => gap e.1 (e.2 :: r)) (gap last [])
def pool (es : List (Nat × CpInfo)) (last : Nat) : Array CpInfo := ⟨poolList es last⟩
def fileOf (pool : Array CpInfo) (this : Nat) (attrs : Array Attribute := #[]) (ms : Array MethodInfo := #[]) (fl : Nat := 33) (sup : Nat := 0) (ifs : Array Nat := #[]) (fds : Array FieldInfo := #[]) : ClassFile where
  minorVersion := 0
  majorVersion := 65
  constantPool := pool
  accessFlags := fl
  thisClass := this
  superClass := sup
  interfaces := ifs
  fields := fds
  methods := ms
  attributes := attrs
def plain (name : String) (sup : Option ClassId) : Class where
  name := name
  kind := .ordinary
  loader := none
  accessFlags := 33
  super := sup
  interfaces := #[]
  cf := none
  fields := #[]
  methods := #[]
  instanceTypes := #[]
  staticTypes := #[]
  resolved := #[]
  callSites := []
  init := .initialized
  statics := none
  mirror := none

def pool0 : Array CpInfo := pool [(5, u "<init>"), (0, u "()V"), (1, .class_ 10), (1, u "java/lang/Object")] 113

def k0m0 : Method := { name := "<init>", desc := "()V", sig := { parameters := [], returnType := none }, accessFlags := 1, code := none }
/-- java/lang/Object -/
def k0 : Class := { plain "java/lang/Object" none with
  accessFlags := 33
  interfaces := #[]
  cf := some (fileOf pool0 8 #[] #[{ accessFlags := 1, nameIndex := 5, descriptorIndex := 6, attributes := #[] }] 33 0 #[] #[])
  fields := #[]
  methods := #[k0m0]
  instanceTypes := #[]
  staticTypes := #[]
  resolved := Array.replicate 124 none
  statics := none }

def pool1 : Array CpInfo := pool [(2, .class_ 4), (1, u "java/lang/Object"), (0, u "<init>"), (0, u "()V"), (0, .integer 2097151), (0, .integer 1114112), (0, .integer 55295), (0, .integer 55296), (0, .integer 57343), (0, .integer 57344), (0, .integer 65533), (0, .integer 65534), (0, .integer 65535), (0, .integer 65536), (0, .integer 1114111), (0, .methodref 19 20), (0, .class_ 21), (0, .nameAndType 22 23), (0, u "java/lang/Math"), (0, u "min"), (0, u "(II)I"), (0, .methodref 19 25), (0, .nameAndType 26 23), (0, u "max"), (0, .methodref 28 29), (0, .class_ 30), (0, .nameAndType 31 32), (0, u "com/example/chyld/chyld/XmlChars"), (0, u "isCharacter"), (0, u "(I)Z"), (0, .methodref 34 35), (0, .class_ 36), (0, .nameAndType 37 32), (0, u "com/example/chyld/chyld/XmlCharsIsCharacterPinLaw"), (0, u "reference"), (2, u "law"), (0, u "(III)Z")] 3

def k1m0 : Method := { name := "<init>", desc := "()V", sig := { parameters := [], returnType := none }, accessFlags := 2, code := none }
def k1c1 : Code := { maxStack := 5, maxLocals := 6, code := code, exceptionTable := #[], attributes := #[] }
def k1m1 : Method := { name := "law", desc := "(III)Z", sig := { parameters := [.int, .int, .int], returnType := some .boolean }, accessFlags := 9, code := some k1c1 }
def k1c2 : Code := { maxStack := 2, maxLocals := 2, code := method_3_code, exceptionTable := #[], attributes := #[] }
def k1m2 : Method := { name := "reference", desc := "(I)Z", sig := { parameters := [.int], returnType := some .boolean }, accessFlags := 10, code := some k1c2 }
/-- com/example/chyld/chyld/XmlCharsIsCharacterPinLaw -/
def k1 : Class := { plain "com/example/chyld/chyld/XmlCharsIsCharacterPinLaw" (some 0) with
  accessFlags := 49
  interfaces := #[]
  cf := some (fileOf pool1 34 #[] #[{ accessFlags := 2, nameIndex := 5, descriptorIndex := 6, attributes := #[] }, { accessFlags := 9, nameIndex := 40, descriptorIndex := 41, attributes := #[] }, { accessFlags := 10, nameIndex := 37, descriptorIndex := 32, attributes := #[] }] 49 2 #[] #[])
  fields := #[]
  methods := #[k1m0, k1m1, k1m2]
  instanceTypes := #[]
  staticTypes := #[]
  resolved := Array.replicate 45 none
  statics := none }

def pool2 : Array CpInfo := pool [(1, .class_ 2), (0, u "java/lang/Math"), (1, .class_ 6), (1, u "java/lang/Object"), (0, u "<init>"), (0, u "()V"), (89, .class_ 100), (1, u "java/lang/Math$RandomNumberGeneratorHolder"), (71, u "negativeZeroFloatBits"), (0, u "J"), (2, u "negativeZeroDoubleBits"), (21, u "max"), (2, u "min"), (43, u "$assertionsDisabled"), (0, u "Z"), (88, u "(II)I"), (2, u "twoToTheDoubleScaleDown"), (0, u "D"), (4, u "twoToTheDoubleScaleUp"), (9, u "E"), (3, u "PI"), (2, u "TAU"), (2, u "DEGREES_TO_RADIANS"), (0, u "RADIANS_TO_DEGREES")] 94

def k2m0 : Method := { name := "<init>", desc := "()V", sig := { parameters := [], returnType := none }, accessFlags := 2, code := none }
def k2c1 : Code := { maxStack := 2, maxLocals := 2, code := jdk_29_method_65_code, exceptionTable := #[], attributes := #[] }
def k2m1 : Method := { name := "max", desc := "(II)I", sig := { parameters := [.int, .int], returnType := some .int }, accessFlags := 9, code := some k2c1 }
def k2c2 : Code := { maxStack := 2, maxLocals := 2, code := jdk_29_method_69_code, exceptionTable := #[], attributes := #[] }
def k2m2 : Method := { name := "min", desc := "(II)I", sig := { parameters := [.int, .int], returnType := some .int }, accessFlags := 9, code := some k2c2 }
/-- java/lang/Math -/
def k2 : Class := { plain "java/lang/Math" (some 0) with
  accessFlags := 49
  interfaces := #[]
  cf := some (fileOf pool2 1 #[.nestMembers #[98]] #[{ accessFlags := 2, nameIndex := 7, descriptorIndex := 8, attributes := #[] }, { accessFlags := 9, nameIndex := 198, descriptorIndex := 335, attributes := #[] }, { accessFlags := 9, nameIndex := 201, descriptorIndex := 335, attributes := #[] }] 49 4 #[] #[{ accessFlags := 25, nameIndex := 354, descriptorIndex := 339, attributes := #[] }, { accessFlags := 25, nameIndex := 358, descriptorIndex := 339, attributes := #[] }, { accessFlags := 25, nameIndex := 361, descriptorIndex := 339, attributes := #[] }, { accessFlags := 26, nameIndex := 364, descriptorIndex := 339, attributes := #[] }, { accessFlags := 26, nameIndex := 365, descriptorIndex := 339, attributes := #[] }, { accessFlags := 26, nameIndex := 172, descriptorIndex := 173, attributes := #[] }, { accessFlags := 26, nameIndex := 176, descriptorIndex := 173, attributes := #[] }, { accessFlags := 8, nameIndex := 344, descriptorIndex := 339, attributes := #[] }, { accessFlags := 8, nameIndex := 338, descriptorIndex := 339, attributes := #[] }, { accessFlags := 4120, nameIndex := 245, descriptorIndex := 246, attributes := #[] }])
  fields := #[{ name := "E", type := .double, accessFlags := 25, slot := 0, constantValue := 0 }, { name := "PI", type := .double, accessFlags := 25, slot := 1, constantValue := 0 }, { name := "TAU", type := .double, accessFlags := 25, slot := 2, constantValue := 0 }, { name := "DEGREES_TO_RADIANS", type := .double, accessFlags := 26, slot := 3, constantValue := 0 }, { name := "RADIANS_TO_DEGREES", type := .double, accessFlags := 26, slot := 4, constantValue := 0 }, { name := "negativeZeroFloatBits", type := .long, accessFlags := 26, slot := 5, constantValue := 0 }, { name := "negativeZeroDoubleBits", type := .long, accessFlags := 26, slot := 6, constantValue := 0 }, { name := "twoToTheDoubleScaleUp", type := .double, accessFlags := 8, slot := 7, constantValue := 0 }, { name := "twoToTheDoubleScaleDown", type := .double, accessFlags := 8, slot := 8, constantValue := 0 }, { name := "$assertionsDisabled", type := .boolean, accessFlags := 4120, slot := 9, constantValue := 0 }]
  methods := #[k2m0, k2m1, k2m2]
  instanceTypes := #[]
  staticTypes := #[.double, .double, .double, .double, .double, .long, .long, .double, .double, .boolean]
  resolved := Array.replicate 460 none
  statics := none }

def pool3 : Array CpInfo := pool [(2, .class_ 4), (1, u "java/lang/Object"), (0, u "<init>"), (0, u "()V"), (10, .class_ 18), (0, u "com/example/chyld/chyld/XmlChars"), (12, u "STARTS_NAME"), (0, u "[J"), (10, u "CONTINUES_NAME"), (54, u "isCharacter"), (0, u "(I)Z"), (45, .integer 55295), (0, .integer 57344), (0, .integer 65533), (0, .integer 65536), (24, u "NAME_START"), (0, u "[I"), (2, u "NAME_REST"), (5, u "MAX_NAME_LENGTH"), (0, u "I"), (2, u "QUOTED_START")] 42

def k3m0 : Method := { name := "<init>", desc := "()V", sig := { parameters := [], returnType := none }, accessFlags := 2, code := none }
def k3c1 : Code := { maxStack := 2, maxLocals := 1, code := prog_44_method_22_code, exceptionTable := #[], attributes := #[] }
def k3m1 : Method := { name := "isCharacter", desc := "(I)Z", sig := { parameters := [.int], returnType := some .boolean }, accessFlags := 8, code := some k3c1 }
/-- com/example/chyld/chyld/XmlChars -/
def k3 : Class := { plain "com/example/chyld/chyld/XmlChars" (some 0) with
  accessFlags := 48
  interfaces := #[]
  cf := some (fileOf pool3 17 #[] #[{ accessFlags := 2, nameIndex := 5, descriptorIndex := 6, attributes := #[] }, { accessFlags := 8, nameIndex := 98, descriptorIndex := 99, attributes := #[] }] 48 2 #[] #[{ accessFlags := 24, nameIndex := 183, descriptorIndex := 184, attributes := #[] }, { accessFlags := 26, nameIndex := 187, descriptorIndex := 184, attributes := #[] }, { accessFlags := 26, nameIndex := 173, descriptorIndex := 174, attributes := #[] }, { accessFlags := 26, nameIndex := 177, descriptorIndex := 174, attributes := #[] }, { accessFlags := 26, nameIndex := 31, descriptorIndex := 32, attributes := #[] }, { accessFlags := 26, nameIndex := 43, descriptorIndex := 32, attributes := #[] }])
  fields := #[{ name := "MAX_NAME_LENGTH", type := .int, accessFlags := 24, slot := 0, constantValue := 0 }, { name := "QUOTED_START", type := .int, accessFlags := 26, slot := 1, constantValue := 0 }, { name := "NAME_START", type := (.array .int), accessFlags := 26, slot := 2, constantValue := 0 }, { name := "NAME_REST", type := (.array .int), accessFlags := 26, slot := 3, constantValue := 0 }, { name := "STARTS_NAME", type := (.array .long), accessFlags := 26, slot := 4, constantValue := 0 }, { name := "CONTINUES_NAME", type := (.array .long), accessFlags := 26, slot := 5, constantValue := 0 }]
  methods := #[k3m0, k3m1]
  instanceTypes := #[]
  staticTypes := #[.int, .int, (.array .int), (.array .int), (.array .long), (.array .long)]
  resolved := Array.replicate 230 none
  statics := none }

def pool4 : Array CpInfo := pool [(1, u "java/lang/Cloneable"), (0, .class_ 1), (0, u "java/lang/Object"), (0, .class_ 3)] 3

/-- java/lang/Cloneable -/
def k4 : Class := { plain "java/lang/Cloneable" (some 0) with
  accessFlags := 1537
  interfaces := #[]
  cf := some (fileOf pool4 2 #[] #[] 1537 4 #[] #[])
  fields := #[]
  methods := #[]
  instanceTypes := #[]
  staticTypes := #[]
  resolved := Array.replicate 8 none
  statics := none }

def pool5 : Array CpInfo := pool [(1, u "java/io/Serializable"), (0, .class_ 1), (0, u "java/lang/Object"), (0, .class_ 3)] 3

/-- java/io/Serializable -/
def k5 : Class := { plain "java/io/Serializable" (some 0) with
  accessFlags := 1537
  interfaces := #[]
  cf := some (fileOf pool5 2 #[] #[] 1537 4 #[] #[])
  fields := #[]
  methods := #[]
  instanceTypes := #[]
  staticTypes := #[]
  resolved := Array.replicate 8 none
  statics := none }

/-- the primitive byte -/
def k6 : Class := { plain "byte" none with kind := .primitive 'B', accessFlags := 0x411 }
/-- [B -/
def k7 : Class := { plain "[B" (some 0) with kind := .array 6 .byte, interfaces := #[4, 5], accessFlags := 1041 }

/-- the primitive int -/
def k8 : Class := { plain "int" none with kind := .primitive 'I', accessFlags := 0x411 }
/-- [I -/
def k9 : Class := { plain "[I" (some 0) with kind := .array 8 .int, interfaces := #[4, 5], accessFlags := 1041 }

def heap : Heap := #[]
def classes : Array Class := #[k0, k1, k2, k3, k4, k5, k6, k7, k8, k9]
def interned : List (Array UInt16 × Addr) := []
def slotsUsed : Nat := 0
def theMethod : MethodId := ⟨1, 1⟩
def args0 : Array Value := #[.int 5, .int 1, .int 7]
def aboutOver (below : List Frame) : State where
  vm := { classes := classes, interned := interned.toArray }
  heap := heap
  slotsUsed := slotsUsed
  threads := #[{ frames := .invoking theMethod args0 :: below }]
def below0 : List Frame := [.native { method := ⟨0, 0⟩, args := #[] }]
def about1 : State := aboutOver below0
def p0 : Program := .bare "" "" ""
def e0 : Env := launch0.env 0 0 0
theorem w_frames : about1.frames = Frame.invoking theMethod args0 :: below0 := rfl
set_option maxRecDepth 65536 in
theorem w_args : argsFit about1.vm theMethod args0 = true := by decide +kernel
set_option maxRecDepth 65536 in
theorem w_heap : heapFits about1 = true := by decide +kernel
set_option maxRecDepth 65536 in
theorem w_runnable : about1.curStatus? = some .runnable := by decide +kernel
set_option maxRecDepth 65536 in
theorem w_alone : about1.alone = true := by decide +kernel
set_option maxRecDepth 65536 in
theorem w_named : about1.methodNamed? x = some theMethod := by decide +kernel
set_option maxRecDepth 65536 in
theorem w_hears : about1.hears theMethod below0 = true := by decide +kernel
set_option maxRecDepth 65536 in
theorem w_ripe : about1.ripe theMethod args0 below0 = true := by decide +kernel
theorem w_running : about1.status = .running := rfl
set_option maxRecDepth 65536 in
theorem w_room : about1.hasRoom e0.platform room_1 = true :=
  launch0.hasRoom_least _ room_1 (by decide +kernel) (by decide +kernel) (by decide +kernel) (by decide +kernel) (by decide +kernel) (by decide +kernel)
theorem allAtoms_all (ts : List Jvm.Cond) (a : Array Jvm.Value) (st : Jvm.State) : (allAtoms ts).before a st = ts.all (fun c => c.before a st) := by
  induction ts with
  | nil => rfl
  | cons c t ih =>
    show (Jvm.Cond.and c (allAtoms t)).before a st = _
    rw [Jvm.Cond.before_and, ih, List.all_cons]
def words1 : List Jvm.Cond := Jvm.Cond.code x code maxLocals ret :: tables_1
/-- a 'code' word, met by the world's own term for the bytes: nothing is compared byte by byte -/
theorem code_word {y : MethodName} {bytes : ByteArray} {mx : Nat} {rt : Option FieldType} {a : Array Value} {s : State} {m : MethodId} {meth : Method} {c : Code} (h1 : s.methodNamed? y = some m) (h2 : s.vm.method? m = some meth) (h3 : meth.code = some c) (h4 : c.code = bytes)
    (h5 : (c.maxLocals == mx && c.exceptionTable.isEmpty && decide (c.maxStack ≤ mostOperands) && decide (meth.sig.returnType = rt) && !meth.locks && decide (parseMethodDescriptor y.desc = some meth.sig)) = true) : (Jvm.Cond.code y bytes mx rt).before a s = true := by
  simp only [Bool.and_eq_true, beq_iff_eq, Bool.not_eq_true', decide_eq_true_eq] at h5
  obtain ⟨⟨⟨⟨⟨g1, g2⟩, g3⟩, g4⟩, g5⟩, g6⟩ := h5
  simp [Cond.before, Cond.holds, Cond.value, h1, h2, h3, h4, g1, g2, g3, g4, g5, g6]
def isCode : Jvm.Cond → Bool
  | .code _ _ _ _ => true
  | _ => false
theorem all_split {L : List Jvm.Cond} {P : Jvm.Cond → Bool} (h1 : L.all (fun c => isCode c || P c) = true) (h2 : ∀ c ∈ L.filter isCode, P c = true) : L.all P = true := by
  refine List.all_eq_true.mpr fun c hc => ?_
  have h := List.all_eq_true.mp h1 c hc
  rcases Bool.eq_false_or_eq_true (isCode c) with hi | hi
  · exact h2 c (List.mem_filter.mpr ⟨hc, hi⟩)
  · simpa [hi] using h
set_option maxRecDepth 65536 in
theorem w_c0 : (Jvm.Cond.code x code maxLocals ret).before args0 about1 = true := code_word (m := ⟨1, 1⟩) (meth := k1m1) (c := k1c1) (by decide +kernel) rfl rfl rfl (by decide +kernel)
set_option maxRecDepth 65536 in
theorem w_c1 : (Jvm.Cond.code ({ cls := "java/lang/Math", name := "min", desc := "(II)I" } : Jvm.MethodName) jdk_29_method_69_code (2 : Nat) (Option.some Jvm.ClassFile.FieldType.int)).before args0 about1 = true := code_word (m := ⟨2, 2⟩) (meth := k2m2) (c := k2c2) (by decide +kernel) rfl rfl rfl (by decide +kernel)
set_option maxRecDepth 65536 in
theorem w_c2 : (Jvm.Cond.code ({ cls := "java/lang/Math", name := "max", desc := "(II)I" } : Jvm.MethodName) jdk_29_method_65_code (2 : Nat) (Option.some Jvm.ClassFile.FieldType.int)).before args0 about1 = true := code_word (m := ⟨2, 1⟩) (meth := k2m1) (c := k2c1) (by decide +kernel) rfl rfl rfl (by decide +kernel)
set_option maxRecDepth 65536 in
theorem w_c3 : (Jvm.Cond.code ({ cls := "com/example/chyld/chyld/XmlChars", name := "isCharacter", desc := "(I)Z" } : Jvm.MethodName) prog_44_method_22_code (1 : Nat) (Option.some Jvm.ClassFile.FieldType.boolean)).before args0 about1 = true := code_word (m := ⟨3, 1⟩) (meth := k3m1) (c := k3c1) (by decide +kernel) rfl rfl rfl (by decide +kernel)
set_option maxRecDepth 65536 in
theorem w_c4 : (Jvm.Cond.code ({ cls := "com/example/chyld/chyld/XmlCharsIsCharacterPinLaw", name := "reference", desc := "(I)Z" } : Jvm.MethodName) method_3_code (2 : Nat) (Option.some Jvm.ClassFile.FieldType.boolean)).before args0 about1 = true := code_word (m := ⟨1, 2⟩) (meth := k1m2) (c := k1c2) (by decide +kernel) rfl rfl rfl (by decide +kernel)
def codes1 : List Jvm.Cond := [Jvm.Cond.code x code maxLocals ret, Jvm.Cond.code ({ cls := "java/lang/Math", name := "min", desc := "(II)I" } : Jvm.MethodName) jdk_29_method_69_code (2 : Nat) (Option.some Jvm.ClassFile.FieldType.int), Jvm.Cond.code ({ cls := "java/lang/Math", name := "max", desc := "(II)I" } : Jvm.MethodName) jdk_29_method_65_code (2 : Nat) (Option.some Jvm.ClassFile.FieldType.int), Jvm.Cond.code ({ cls := "com/example/chyld/chyld/XmlChars", name := "isCharacter", desc := "(I)Z" } : Jvm.MethodName) prog_44_method_22_code (1 : Nat) (Option.some Jvm.ClassFile.FieldType.boolean), Jvm.Cond.code ({ cls := "com/example/chyld/chyld/XmlCharsIsCharacterPinLaw", name := "reference", desc := "(I)Z" } : Jvm.MethodName) method_3_code (2 : Nat) (Option.some Jvm.ClassFile.FieldType.boolean)]
set_option maxRecDepth 65536 in
theorem codes_eq : words1.filter isCode = codes1 := rfl
theorem w_codes : ∀ c ∈ words1.filter isCode, c.before args0 about1 = true := by
  rw [codes_eq]
  intro c hc
  simp only [codes1, List.mem_cons, List.not_mem_nil, or_false] at hc
  rcases hc with rfl | rfl | rfl | rfl | rfl
  · exact w_c0
  · exact w_c1
  · exact w_c2
  · exact w_c3
  · exact w_c4
set_option maxRecDepth 65536 in
theorem w_t1 : (words1.take 24).all (fun c => isCode c || c.before args0 about1) = true := by decide +kernel
set_option maxRecDepth 65536 in
theorem w_t2 : (words1.drop 24).all (fun c => isCode c || c.before args0 about1) = true := by decide +kernel
theorem w_tables : (allAtoms (Jvm.Cond.code x code maxLocals ret :: tables_1)).before args0 about1 = true := by
  rw [allAtoms_all]
  show words1.all (fun c => c.before args0 about1) = true
  refine all_split ?_ w_codes
  rw [← List.take_append_drop 24 words1, List.all_append, w_t1, w_t2]
  rfl
set_option maxRecDepth 65536 in
theorem w_case : (Jvm.Cond.and given_1 narrow_1).before args0 about1 = true := by decide +kernel
theorem w_applies : (headSpec (Jvm.Cond.code x code maxLocals ret :: tables_1) room_1).applies x e0.platform about1 = true :=
  (Spec.applies_iff w_frames).mpr ⟨w_running, w_runnable, w_alone, w_named, w_hears, w_ripe, w_room, w_tables⟩
theorem atStart : AtStart classFile x code maxLocals ret World_1 tables_1 room_1 Calls_1 rest_1 Pre_1 launch0 p0 e0 about1 theMethod args0 below0 :=
  ⟨lists_1, trivial, launch0.admits_env _ _ _, launch0.least_env, fairChoices_fair.cas, fairChoices_fair.clock, w_frames, w_args, w_heap, w_applies, trivial, trivial, w_case⟩
end start1
theorem witness_1 : WitnessClaimed_1 := ⟨start1.p0, start1.e0, start1.about1, start1.theMethod, start1.args0, start1.below0, start1.atStart⟩
end Jvm.Pilot.@@N@@
