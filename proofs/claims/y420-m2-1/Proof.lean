import JvmDerived
import JvmDerived.Pilot.@@N@@Statement
import JvmDerived.Pilot.@@N@@Code
set_option linter.unusedVariables false
set_option linter.unusedSimpArgs false
namespace Jvm.Pilot.@@N@@
open Jvm Jvm.ClassFile Sem Op Lib Jvm.Free Jvm.Stand Jvm.LawKit Jvm.RoadKit Bundle Jvm.Pilot.@@N@@.Jvm.D
/-! own kit: the rest of a walk as one predicate of the state where it stands -/
section OwnKit
variable {p : Program} {l : Launch} {e : Env} {R : Room} {s : State} {m : MethodId} {args : Array Value} {below : List Frame} {meth : Method} {c : Code} {T : State} {locs : List Loc} {cells slots : Nat}
def Wp (p : Program) (e : Env) (below : List Frame) (G : Outcome → State → Prop) (U : State) : Prop := ∃ s₂ o, Steps p.tables e below U s₂ ∧ s₂.status = .running ∧ Ended s₂ below o ∧ G o s₂
theorem Wp.via {G : Outcome → State → Prop} {A B : State} (k : ∀ t, Steps p.tables e below A t → Steps p.tables e below B t) (h : Wp p e below G A) : Wp p e below G B := by
  obtain ⟨s₂, o, h1, h2⟩ := h; exact ⟨s₂, o, k _ h1, h2⟩
theorem Wp.step {G : Outcome → State → Prop} {A B : State} (k : Steps p.tables e below B A) (h : Wp p e below G A) : Wp p e below G B := by
  obtain ⟨s₂, o, h1, h2⟩ := h; exact ⟨s₂, o, k.trans h1, h2⟩
def Gd (s : State) (Q : Option Value → Heap → List Loc → Prop) (C S : Nat) (o : Outcome) (t : State) : Prop := ∃ v L, o = .returned v ∧ Q v t.heap L ∧ FrameEnd s o t L C S
theorem Wp.ret (X : Stand p l e R s m args below meth c T locs cells slots) (hlk : meth.locks = false) (hx : p.tables.exec = Jvm.exec) {pc : Nat} {Ls : Array Slot} {w : Value} {t : FieldType} {i : Instr} {rest : List Value} {Q : Option Value → Heap → List Loc → Prop} {C S : Nat} (hret : meth.sig.returnType = some t) (hn : narrow t w = w)
    (hi : (i = .ireturn ∧ (t = .int ∨ t = .boolean ∨ t = .byte ∨ t = .char ∨ t = .short) ∧ ∃ z, w = .int z) ∨ (i = .lreturn ∧ t = .long ∧ ∃ z, w = .long z) ∨ (i = .dreturn ∧ t = .double ∧ ∃ z, w = .double z) ∨ (i = .freturn ∧ t = .float ∧ ∃ z, w = .float z) ∨ (i = .areturn ∧ t.isReference = true ∧ w.isRef = true))
    (hd : decode c.code pc = .ok (i, 1)) (hq : Q (some w) T.heap locs) (hC : cells ≤ C) (hS : slots ≤ S) : Wp p e below (Gd s Q C S) (T.setTop (mkF m pc Ls (w :: rest))) := by
  obtain ⟨fs, hr, hrun, hended, hW, hsame⟩ := X.leave (v := some w) (fun h => by rw [hret] at h; cases h) hlk
  exact ⟨_, _, retOut X hx hret hn hi hd hr, hrun, hended, _, _, rfl, hq, ⟨_, rfl⟩, hW, hsame.mono hC hS⟩
theorem Wp.retI (X : Stand p l e R s m args below meth c T locs cells slots) (hlk : meth.locks = false) (hx : p.tables.exec = Jvm.exec) {pc : Nat} {Ls : Array Slot} {z : Int32} {t : FieldType} {rest : List Value} {Q : Option Value → Heap → List Loc → Prop} {C S : Nat} (hret : meth.sig.returnType = some t) (ht : t = .int ∨ t = .boolean ∨ t = .byte ∨ t = .char ∨ t = .short) (hn : narrow t (.int z) = .int z)
    (hd : decode c.code pc = .ok (.ireturn, 1)) (hq : Q (some (.int z)) T.heap locs) (hC : cells ≤ C) (hS : slots ≤ S) : Wp p e below (Gd s Q C S) (T.setTop (mkF m pc Ls (.int z :: rest))) :=
  Wp.ret X hlk hx hret hn (Or.inl ⟨rfl, ht, z, rfl⟩) hd hq hC hS
theorem Wp.retJ (X : Stand p l e R s m args below meth c T locs cells slots) (hlk : meth.locks = false) (hx : p.tables.exec = Jvm.exec) {pc : Nat} {Ls : Array Slot} {z : Int64} {rest : List Value} {Q : Option Value → Heap → List Loc → Prop} {C S : Nat} (hret : meth.sig.returnType = some .long)
    (hd : decode c.code pc = .ok (.lreturn, 1)) (hq : Q (some (.long z)) T.heap locs) (hC : cells ≤ C) (hS : slots ≤ S) : Wp p e below (Gd s Q C S) (T.setTop (mkF m pc Ls (.long z :: rest))) :=
  Wp.ret X hlk hx hret rfl (Or.inr (Or.inl ⟨rfl, rfl, z, rfl⟩)) hd hq hC hS
theorem Wp.retA (X : Stand p l e R s m args below meth c T locs cells slots) (hlk : meth.locks = false) (hx : p.tables.exec = Jvm.exec) {pc : Nat} {Ls : Array Slot} {w : Value} {t : FieldType} {rest : List Value} {Q : Option Value → Heap → List Loc → Prop} {C S : Nat} (hret : meth.sig.returnType = some t) (ht : t.isReference = true) (hw : w.isRef = true)
    (hd : decode c.code pc = .ok (.areturn, 1)) (hq : Q (some w) T.heap locs) (hC : cells ≤ C) (hS : slots ≤ S) : Wp p e below (Gd s Q C S) (T.setTop (mkF m pc Ls (w :: rest))) :=
  Wp.ret X hlk hx hret (by cases t <;> simp [FieldType.isReference] at ht <;> cases w <;> simp [Value.isRef] at hw <;> rfl) (Or.inr (Or.inr (Or.inr (Or.inr ⟨rfl, ht, hw⟩)))) hd hq hC hS
theorem Wp.retV (X : Stand p l e R s m args below meth c T locs cells slots) (hlk : meth.locks = false) (hx : p.tables.exec = Jvm.exec) {pc : Nat} {Ls : Array Slot} {Q : Option Value → Heap → List Loc → Prop} {C S : Nat} (hret : meth.sig.returnType = none)
    (hd : decode c.code pc = .ok (.return_, 1)) (hq : Q none T.heap locs) (hC : cells ≤ C) (hS : slots ≤ S) : Wp p e below (Gd s Q C S) (T.setTop (mkF m pc Ls [])) := by
  obtain ⟨fs, hr, hrun, hended, hW, hsame⟩ := X.leave (v := none) (fun _ => rfl) hlk
  exact ⟨_, _, X.returnOut hx hret hd hr, hrun, hended, _, _, rfl, hq, ⟨_, rfl⟩, hW, hsame.mono hC hS⟩
/-- a body's contract out of its Wp at pc 0 -/
theorem ofWp {y : MethodName} {bytes : ByteArray} {maxL : Nat} {ret : Option FieldType} {ws : List Jvm.Cond} {rm : Room} {as' : Array Value} {Z : State} {h0 : Heap} {Q : Option Value → Heap → List Loc → Prop} {C S : Nat} {Ls : Array Slot} (hpl : plainFor y = true) (ef : ∀ m, entryFrame m as' maxL = mkF m 0 Ls [])
    (H : ∀ (p : Program) (e : Env) (s : State) (m : MethodId) (below : List Frame) (meth : Method) (c : Code) (T : State), p.tables.exec = Jvm.exec → c.code = bytes → c.maxLocals = maxL → s.vm.findClass y.cls = some m.cls → meth.name = y.name → meth.locks = false → meth.sig.returnType = ret → Z.Warmed39 s.vm → Stand p l e rm s m as' below meth c T [] 0 0 → T.heap = h0 → Wp p e below (Gd s Q C S) (T.setTop (mkF m 0 Ls []))) :
    MetFree l y (head1 (Jvm.Cond.code y bytes maxL ret :: ws) rm) (fun a U => a = as' ∧ Z.Warmed39 U.vm ∧ U.heap = h0) (fun _ _ _ _ _ => True) (fun _ U o U' => ∃ v L, o = .returned v ∧ Q v U'.heap L ∧ FrameEnd U o U' L C S) := by
  refine MetFree.of_bodySF hpl hisR ?_
  intro p e s m args below meth c s₁ Bd hml0 hP hK
  obtain ⟨rfl, hZ, hh⟩ := hP
  have e0 : s₁.heap = h0 := by rw [← hh, Bd.state]; rfl
  have X0 : Stand p l e rm s m args below meth c s₁ [] 0 0 := Stand.of_body Bd
  have W := H p e s m below meth c s₁ Bd.exec Bd.bytes hml0 (findClass_of_methodNamed Bd.named) (name_of_methodNamed Bd.named Bd.method).1 Bd.notSynchronized Bd.returns hZ X0 e0
  rw [← ef m] at W
  obtain ⟨s₂, o, g1, g2, g3, g4⟩ := W
  exact ⟨s₂, o, g1, g2, g3, g4⟩
end OwnKit

section AvKit
variable {p : Program} {l : Launch} {e : Env} {R : Room} {s : State} {m : MethodId} {args : Array Value} {below : List Frame} {meth : Method} {c : Code} {T : State} {locs : List Loc} {cells slots : Nat} {Z : State} {h h' : Heap} {a b : Addr} {ty : FieldType} {n : Nat} {f : Nat → Value} {sl : Nat} {v : Value}
/-- an array of n places; place k holds f k -/
def Av (Z : State) (h : Heap) (a : Addr) (ty : FieldType) (n : Nat) (f : Nat → Value) : Prop := ∃ c : Cell, Arr Z h a c ty ∧ c.slots.size = n ∧ ∀ k, k < n → c.slots[k]? = some (f k)
theorem Av.lt (F : Av Z h a ty n f) : a < h.size := by obtain ⟨c, A, -⟩ := F; exact A.lt
theorem Av.ext (F : Av Z h a ty n f) (E : Ext h h') : Av Z h' a ty n f := by obtain ⟨c, A, r⟩ := F; exact ⟨c, A.ext E, r⟩
theorem Av.other (F : Av Z h b ty n f) (W : Wr h h' a sl v) (q : b ≠ a) : Av Z h' b ty n f := by obtain ⟨c, A, r⟩ := F; exact ⟨c, A.other W q, r⟩
theorem Av.keep {ws : List Addr} (F : Av Z h a ty n f) (K : Keep h h' ws) (q : a ∉ ws) : Av Z h' a ty n f := by obtain ⟨c, A, r⟩ := F; exact ⟨c, ⟨K.2.1 a c A.1 q, A.2⟩, r⟩
theorem Av.cong {g : Nat → Value} (F : Av Z h a ty n f) (q : ∀ k, k < n → f k = g k) : Av Z h a ty n g := by obtain ⟨c, A, r, H⟩ := F; exact ⟨c, A, r, fun k hk => by rw [← q k hk]; exact H k hk⟩
theorem Av.new {k : ClassId} {z : Int32} (A : Arr Z h a (newA k ty z) ty) (hn : z.toNatClampNeg = n) : Av Z h a ty n (fun _ => defaultValue ty) := ⟨_, A, by rw [sz_new, hn], fun k hk => by simp [newA, hn, hk]⟩
theorem Av.set (F : Av Z h a ty n f) (W : Wr h h' a sl v) : Av Z h' a ty n (fun k => if k = sl then v else f k) := by
  obtain ⟨c, A, r, H⟩ := F
  refine ⟨_, A.same W, by rw [sz_set]; exact r, fun k hk => ?_⟩
  by_cases q : k = sl
  · subst q; simp [Cell.setSlot, r, hk]
  · show _ = some (if k = sl then v else f k)
    rw [if_neg q]; simp only [Cell.setSlot]; rw [Array.getElem?_setIfInBounds_ne (fun z => q z.symm)]; exact H k hk
theorem av_in {cl : Cell} {j : Int32} {i : Nat} (r : cl.slots.size = n) (hj0 : ¬ j < 0) (hji : j.toNatClampNeg = i) (hin : i < n) : ¬ (j < 0 ∨ cl.slots.size ≤ j.toNatClampNeg) := by
  rw [r, hji]; rintro (q | q)
  · exact hj0 q
  · omega
theorem avStI (X : Stand p l e R s m args below meth c T locs cells slots) (hx : p.tables.exec = Jvm.exec) (hZ : Z.Warmed39 s.vm) (eT : T.heap = h) (F : Av Z h a .int n f) {j x : Int32} {i : Nat} (hj0 : ¬ j < 0) (hji : j.toNatClampNeg = i) (hin : i < n) {g : JFrame} (hg : g.method = m) {rest : List Value} (hs : g.stack = .int x :: .int j :: .ref a :: rest) (hd : decode c.code g.pc = .ok (.iastore, 1)) :
    ∃ T' h', Stand p l e R s m args below meth c T' (locs ++ [⟨a, i⟩]) cells slots ∧ T'.heap = h' ∧ Wr h h' a i (.int x) ∧ Av Z h' a .int n (fun k => if k = i then .int x else f k) ∧ ∀ target, Steps p.tables e below (T'.setTop { g with pc := g.pc + 1, stack := rest }) target → Steps p.tables e below (T.setTop g) target := by
  obtain ⟨cl, A, r, H⟩ := F
  obtain ⟨T', h', X', e', W, st⟩ := stI X hx hZ eT A (av_in r hj0 hji hin) hg hs hd
  rw [hji] at X' W
  exact ⟨T', h', X', e', W, Av.set ⟨cl, A, r, H⟩ W, st⟩
theorem avStJ (X : Stand p l e R s m args below meth c T locs cells slots) (hx : p.tables.exec = Jvm.exec) (hZ : Z.Warmed39 s.vm) (eT : T.heap = h) (F : Av Z h a .long n f) {j : Int32} {x : Int64} {i : Nat} (hj0 : ¬ j < 0) (hji : j.toNatClampNeg = i) (hin : i < n) {g : JFrame} (hg : g.method = m) {rest : List Value} (hs : g.stack = .long x :: .int j :: .ref a :: rest) (hd : decode c.code g.pc = .ok (.lastore, 1)) :
    ∃ T' h', Stand p l e R s m args below meth c T' (locs ++ [⟨a, i⟩]) cells slots ∧ T'.heap = h' ∧ Wr h h' a i (.long x) ∧ Av Z h' a .long n (fun k => if k = i then .long x else f k) ∧ ∀ target, Steps p.tables e below (T'.setTop { g with pc := g.pc + 1, stack := rest }) target → Steps p.tables e below (T.setTop g) target := by
  obtain ⟨cl, A, r, H⟩ := F
  obtain ⟨T', h', X', e', W, st⟩ := stJ X hx hZ eT A (av_in r hj0 hji hin) hg hs hd
  rw [hji] at X' W
  exact ⟨T', h', X', e', W, Av.set ⟨cl, A, r, H⟩ W, st⟩
theorem avStB (X : Stand p l e R s m args below meth c T locs cells slots) (hx : p.tables.exec = Jvm.exec) (hZ : Z.Warmed39 s.vm) (eT : T.heap = h) (F : Av Z h a .byte n f) {j x : Int32} {i : Nat} (hj0 : ¬ j < 0) (hji : j.toNatClampNeg = i) (hin : i < n) {g : JFrame} (hg : g.method = m) {rest : List Value} (hs : g.stack = .int x :: .int j :: .ref a :: rest) (hd : decode c.code g.pc = .ok (.bastore, 1)) :
    ∃ T' h', Stand p l e R s m args below meth c T' (locs ++ [⟨a, i⟩]) cells slots ∧ T'.heap = h' ∧ Wr h h' a i (.int (nar .byte x)) ∧ Av Z h' a .byte n (fun k => if k = i then .int (nar .byte x) else f k) ∧ ∀ target, Steps p.tables e below (T'.setTop { g with pc := g.pc + 1, stack := rest }) target → Steps p.tables e below (T.setTop g) target := by
  obtain ⟨cl, A, r, H⟩ := F
  obtain ⟨T', h', X', e', W, st⟩ := stB X hx hZ eT A (av_in r hj0 hji hin) hg hs hd
  rw [hji] at X' W
  exact ⟨T', h', X', e', W, Av.set ⟨cl, A, r, H⟩ W, st⟩
theorem avLdI (X : Stand p l e R s m args below meth c T locs cells slots) (hx : p.tables.exec = Jvm.exec) (hZ : Z.Warmed39 s.vm) (eT : T.heap = h) (F : Av Z h a .int n f) {j : Int32} {i : Nat} (hj0 : ¬ j < 0) (hji : j.toNatClampNeg = i) (hin : i < n) {w : Value} (hw : f i = w) {g : JFrame} (hg : g.method = m) {rest : List Value} (hs : g.stack = .int j :: .ref a :: rest) (hd : decode c.code g.pc = .ok (.iaload, 1)) (target : State) (k : Steps p.tables e below (T.setTop { g with pc := g.pc + 1, stack := w :: rest }) target) : Steps p.tables e below (T.setTop g) target := by
  obtain ⟨cl, A, r, H⟩ := F
  exact X.iaload hx (by rw [eT]; exact A.1) (State.isArrayOf_alike hZ.alike A.2.1) A.2.2 (av_in r hj0 hji hin) (by rw [hji, H i hin, hw]) hg hs hd target k
theorem avLdJ (X : Stand p l e R s m args below meth c T locs cells slots) (hx : p.tables.exec = Jvm.exec) (hZ : Z.Warmed39 s.vm) (eT : T.heap = h) (F : Av Z h a .long n f) {j : Int32} {i : Nat} (hj0 : ¬ j < 0) (hji : j.toNatClampNeg = i) (hin : i < n) {w : Value} (hw : f i = w) {g : JFrame} (hg : g.method = m) {rest : List Value} (hs : g.stack = .int j :: .ref a :: rest) (hd : decode c.code g.pc = .ok (.laload, 1)) (target : State) (k : Steps p.tables e below (T.setTop { g with pc := g.pc + 1, stack := w :: rest }) target) : Steps p.tables e below (T.setTop g) target := by
  obtain ⟨cl, A, r, H⟩ := F
  exact X.laload hx (by rw [eT]; exact A.1) (State.isArrayOf_alike hZ.alike A.2.1) A.2.2 (av_in r hj0 hji hin) (by rw [hji, H i hin, hw]) hg hs hd target k
theorem avLdB (X : Stand p l e R s m args below meth c T locs cells slots) (hx : p.tables.exec = Jvm.exec) (hZ : Z.Warmed39 s.vm) (eT : T.heap = h) (F : Av Z h a .byte n f) {j : Int32} {i : Nat} (hj0 : ¬ j < 0) (hji : j.toNatClampNeg = i) (hin : i < n) {w : Value} (hw : f i = w) {g : JFrame} (hg : g.method = m) {rest : List Value} (hs : g.stack = .int j :: .ref a :: rest) (hd : decode c.code g.pc = .ok (.baload, 1)) (target : State) (k : Steps p.tables e below (T.setTop { g with pc := g.pc + 1, stack := w :: rest }) target) : Steps p.tables e below (T.setTop g) target := by
  obtain ⟨cl, A, r, H⟩ := F
  exact X.baloadBytes hx (by rw [eT]; exact A.1) (State.isArrayOf_alike hZ.alike A.2.1) A.2.2 (av_in r hj0 hji hin) (by rw [hji, H i hin, hw]) hg hs hd target k
theorem avLdA (X : Stand p l e R s m args below meth c T locs cells slots) (hx : p.tables.exec = Jvm.exec) (hZ : Z.Warmed39 s.vm) (eT : T.heap = h) (F : Av Z h a ty n f) (hty : ty.isReference = true) {j : Int32} {i : Nat} (hj0 : ¬ j < 0) (hji : j.toNatClampNeg = i) (hin : i < n) {w : Value} (hw : f i = w) {g : JFrame} (hg : g.method = m) {rest : List Value} (hs : g.stack = .int j :: .ref a :: rest) (hd : decode c.code g.pc = .ok (.aaload, 1)) (target : State) (k : Steps p.tables e below (T.setTop { g with pc := g.pc + 1, stack := w :: rest }) target) : Steps p.tables e below (T.setTop g) target := by
  obtain ⟨cl, A, r, H⟩ := F
  exact X.aaload hx (by rw [eT]; exact A.1) (State.isArrayOf_alike hZ.alike A.2.1) hty A.2.2 (av_in r hj0 hji hin) (by rw [hji, H i hin, hw]) hg hs hd target k
theorem avLen (X : Stand p l e R s m args below meth c T locs cells slots) (hx : p.tables.exec = Jvm.exec) (hZ : Z.Warmed39 s.vm) (eT : T.heap = h) (F : Av Z h a ty n f) {z : Int32} (hz : n.toInt32 = z) {g : JFrame} (hg : g.method = m) {rest : List Value} (hs : g.stack = .ref a :: rest) (hd : decode c.code g.pc = .ok (.arraylength, 1)) (target : State) (k : Steps p.tables e below (T.setTop { g with pc := g.pc + 1, stack := .int z :: rest }) target) : Steps p.tables e below (T.setTop g) target := by
  obtain ⟨cl, A, r, H⟩ := F
  exact X.arraylength hx (by rw [eT]; exact A.1) (State.isArrayOf_alike hZ.alike A.2.1) hg hs hd target (by rw [r, hz]; exact k)
theorem own_up {f : Nat → Value} {i : Nat} {x : Int32} (h : ∀ k, ∃ z, f k = Value.int z) : ∀ k, ∃ z, (fun k => if k = i then Value.int x else f k) k = Value.int z := fun k => by
  by_cases q : k = i
  · exact ⟨x, if_pos q⟩
  · obtain ⟨z, hz⟩ := h k; exact ⟨z, (if_neg q).trans hz⟩
end AvKit
def f1_42 (x0 : Int32) : Int32 := (if x0 < (65536 : Int32) then (0 : Int32) else (if (1114111 : Int32) < x0 then (0 : Int32) else (1 : Int32)))
def f1_30 (x0 : Int32) : Int32 := (if x0 < (57344 : Int32) then (f1_42 x0) else (if (65533 : Int32) < x0 then (f1_42 x0) else (1 : Int32)))
def f1_0 (p0 : Int32) : Int32 := (if p0 = (9 : Int32) then (1 : Int32) else (if p0 = (10 : Int32) then (1 : Int32) else (if p0 = (13 : Int32) then (1 : Int32) else (if p0 < (32 : Int32) then (f1_30 p0) else (if (55295 : Int32) < p0 then (f1_30 p0) else (1 : Int32))))))
theorem own_d1_0 : decode prog_60_method_3_code 0 = .ok (.iload_n 0, 1) := by decide +kernel
theorem own_d1_1 : decode prog_60_method_3_code 1 = .ok (.bipush 9, 2) := by decide +kernel
theorem own_d1_3 : decode prog_60_method_3_code 3 = .ok (.if_icmp .eq 51, 3) := by decide +kernel
theorem own_d1_6 : decode prog_60_method_3_code 6 = .ok (.iload_n 0, 1) := by decide +kernel
theorem own_d1_7 : decode prog_60_method_3_code 7 = .ok (.bipush 10, 2) := by decide +kernel
theorem own_d1_9 : decode prog_60_method_3_code 9 = .ok (.if_icmp .eq 45, 3) := by decide +kernel
theorem own_d1_12 : decode prog_60_method_3_code 12 = .ok (.iload_n 0, 1) := by decide +kernel
theorem own_d1_13 : decode prog_60_method_3_code 13 = .ok (.bipush 13, 2) := by decide +kernel
theorem own_d1_15 : decode prog_60_method_3_code 15 = .ok (.if_icmp .eq 39, 3) := by decide +kernel
theorem own_d1_18 : decode prog_60_method_3_code 18 = .ok (.iload_n 0, 1) := by decide +kernel
theorem own_d1_19 : decode prog_60_method_3_code 19 = .ok (.bipush 32, 2) := by decide +kernel
theorem own_d1_21 : decode prog_60_method_3_code 21 = .ok (.if_icmp .lt 9, 3) := by decide +kernel
theorem own_d1_24 : decode prog_60_method_3_code 24 = .ok (.iload_n 0, 1) := by decide +kernel
theorem own_d1_25 : decode prog_60_method_3_code 25 = .ok (.ldc 7, 2) := by decide +kernel
theorem own_d1_27 : decode prog_60_method_3_code 27 = .ok (.if_icmp .le 27, 3) := by decide +kernel
theorem own_d1_30 : decode prog_60_method_3_code 30 = .ok (.iload_n 0, 1) := by decide +kernel
theorem own_d1_31 : decode prog_60_method_3_code 31 = .ok (.ldc 8, 2) := by decide +kernel
theorem own_d1_33 : decode prog_60_method_3_code 33 = .ok (.if_icmp .lt 9, 3) := by decide +kernel
theorem own_d1_36 : decode prog_60_method_3_code 36 = .ok (.iload_n 0, 1) := by decide +kernel
theorem own_d1_37 : decode prog_60_method_3_code 37 = .ok (.ldc 9, 2) := by decide +kernel
theorem own_d1_39 : decode prog_60_method_3_code 39 = .ok (.if_icmp .le 15, 3) := by decide +kernel
theorem own_d1_42 : decode prog_60_method_3_code 42 = .ok (.iload_n 0, 1) := by decide +kernel
theorem own_d1_43 : decode prog_60_method_3_code 43 = .ok (.ldc 10, 2) := by decide +kernel
theorem own_d1_45 : decode prog_60_method_3_code 45 = .ok (.if_icmp .lt 13, 3) := by decide +kernel
theorem own_d1_48 : decode prog_60_method_3_code 48 = .ok (.iload_n 0, 1) := by decide +kernel
theorem own_d1_49 : decode prog_60_method_3_code 49 = .ok (.ldc 11, 2) := by decide +kernel
theorem own_d1_51 : decode prog_60_method_3_code 51 = .ok (.if_icmp .gt 7, 3) := by decide +kernel
theorem own_d1_54 : decode prog_60_method_3_code 54 = .ok (.iconst 1, 1) := by decide +kernel
theorem own_d1_55 : decode prog_60_method_3_code 55 = .ok (.goto 4, 3) := by decide +kernel
theorem own_d1_58 : decode prog_60_method_3_code 58 = .ok (.iconst 0, 1) := by decide +kernel
theorem own_d1_59 : decode prog_60_method_3_code 59 = .ok (.ireturn, 1) := by decide +kernel
theorem own_pl1 : plainFor (⟨"com/example/antipolis/antipolis/value/XmlChars", "isChar", "(I)Z"⟩ : MethodName) = true := plainFor_of_name (by first | (simp [plainName, overriddenIn]; done) | decide +kernel)
theorem own_ef1 (m : MethodId) (p0 : Int32) : entryFrame m #[(.int p0)] 1 = mkF m 0 #[.val (.int p0)] [] := by first | (simp [entryFrame, mkF, argsToLocals, Value.category]; done) | rfl
def Qo1 (Z : State) (p0 : Int32)  (h0 : Heap) (n0 : Nat) (v : Option Value) (h : Heap) (L : List Loc) : Prop := v = some (.int (f1_0 p0)) ∧ Fr n0 L ∧ h = h0
set_option maxRecDepth 65536 in
set_option maxHeartbeats 40000000 in
theorem rm1 (l : Launch) (Z : State) (aw : Array Value) (hw : ∀ d ∈ tables_1, d.before aw Z = true) (ws : List Jvm.Cond) (p0 : Int32)  (h0 : Heap) (n0 : Nat) (Z0 : n0 ≤ h0.size)  :
    MetFree l (⟨"com/example/antipolis/antipolis/value/XmlChars", "isChar", "(I)Z"⟩ : MethodName) (head1 (Jvm.Cond.code (⟨"com/example/antipolis/antipolis/value/XmlChars", "isChar", "(I)Z"⟩ : MethodName) prog_60_method_3_code 1 (some .boolean) :: ws) ({ frames := 0, cells := 0, slots := 0, locals := 0 } : Room)) (fun a U => a = #[(.int p0)] ∧ Z.Warmed39 U.vm ∧ U.heap = h0) (fun _ _ _ _ _ => True) (fun _ U o U' => ∃ v L, o = .returned v ∧ (Qo1 Z p0 h0 n0) v U'.heap L ∧ FrameEnd U o U' L ({ frames := 0, cells := 0, slots := 0, locals := 0 } : Room).cells ({ frames := 0, cells := 0, slots := 0, locals := 0 } : Room).slots) := by
  refine ofWp (Q := Qo1 Z p0 h0 n0) own_pl1 (fun m => own_ef1 m p0) ?_
  intro p e s m below meth c T0 hx hby hml hown hnm hlk hret hZ X0 e0
  change s.vm.findClass "com/example/antipolis/antipolis/value/XmlChars" = some m.cls at hown
  have NF0 := Fr.nil n0
  have J42 : ∀ (T : State) (locs : List Loc) (cells slots : Nat) (X : Stand p l e ({ frames := 0, cells := 0, slots := 0, locals := 0 } : Room) s m #[(.int p0)] below meth c T locs cells slots) (eT : T.heap = h0) (NF : Fr n0 locs) (hC : cells ≤ 0) (hS : slots ≤ 0) (x0 : Int32) , (f1_0 p0) = (f1_42 x0) → Wp p e below (Gd s (Qo1 Z p0 h0 n0) ({ frames := 0, cells := 0, slots := 0, locals := 0 } : Room).cells ({ frames := 0, cells := 0, slots := 0, locals := 0 } : Room).slots) (T.setTop (mkF m 42 #[.val (.int x0)] [])) := by
    intro T locs cells slots X eT NF hC hS x0 hv
    have hv1 : (f1_0 p0) = (if x0 < (65536 : Int32) then (0 : Int32) else (if (1114111 : Int32) < x0 then (0 : Int32) else (1 : Int32))) := hv
    refine Wp.via (fun _ k => XS.iloadN X.here hx rfl (hb hby own_d1_42) rfl k) ?_
    show Wp p e below _ (T.setTop (mkF m 43 #[.val (.int x0)] [(.int x0)]))
    refine Wp.via (fun _ k => X.ldcInt hx hown (mvT hZ (hw _ (List.mem_of_getElem? (i := 17) rfl))) (g := (mkF m 43 #[.val (.int x0)] [(.int x0)])) rfl (hb hby own_d1_43) _ k) ?_
    show Wp p e below _ (T.setTop (mkF m 45 #[.val (.int x0)] [(.int (65536 : Int32)), (.int x0)]))
    by_cases hc2 : x0 < (65536 : Int32)
    ·
      have hv2_ := hv1.trans (if_pos hc2)
      refine Wp.via (fun _ k => XS.icmpYes X.here hx rfl (pc0 := 45) (pc' := 58) rfl (hb hby own_d1_45) rfl (tlt hc2).1 (by decide) (by decide) k) ?_
      show Wp p e below _ (T.setTop (mkF m 58 #[.val (.int x0)] []))
      refine Wp.via (fun _ k => XS.iconst X.here hx rfl (hb hby own_d1_58) k) ?_
      show Wp p e below _ (T.setTop (mkF m 59 #[.val (.int x0)] [(.int (0 : Int32))]))
      exact Wp.retI X hlk hx hret (by simp) (by first | rfl | decide) (hb hby own_d1_59) ⟨by rw [hv2_], NF, eT⟩ (by omega) (by omega)
    ·
      have hv2_ := hv1.trans (if_neg hc2)
      refine Wp.via (fun _ k => XS.icmpNo X.here hx rfl (hb hby own_d1_45) rfl (flt hc2).1 k) ?_
      show Wp p e below _ (T.setTop (mkF m 48 #[.val (.int x0)] []))
      refine Wp.via (fun _ k => XS.iloadN X.here hx rfl (hb hby own_d1_48) rfl k) ?_
      show Wp p e below _ (T.setTop (mkF m 49 #[.val (.int x0)] [(.int x0)]))
      refine Wp.via (fun _ k => X.ldcInt hx hown (mvT hZ (hw _ (List.mem_of_getElem? (i := 25) rfl))) (g := (mkF m 49 #[.val (.int x0)] [(.int x0)])) rfl (hb hby own_d1_49) _ k) ?_
      show Wp p e below _ (T.setTop (mkF m 51 #[.val (.int x0)] [(.int (1114111 : Int32)), (.int x0)]))
      by_cases hc3 : (1114111 : Int32) < x0
      ·
        have hv3_ := hv2_.trans (if_pos hc3)
        refine Wp.via (fun _ k => XS.icmpYes X.here hx rfl (pc0 := 51) (pc' := 58) rfl (hb hby own_d1_51) rfl (tlt hc3).2.2.1 (by decide) (by decide) k) ?_
        show Wp p e below _ (T.setTop (mkF m 58 #[.val (.int x0)] []))
        refine Wp.via (fun _ k => XS.iconst X.here hx rfl (hb hby own_d1_58) k) ?_
        show Wp p e below _ (T.setTop (mkF m 59 #[.val (.int x0)] [(.int (0 : Int32))]))
        exact Wp.retI X hlk hx hret (by simp) (by first | rfl | decide) (hb hby own_d1_59) ⟨by rw [hv3_], NF, eT⟩ (by omega) (by omega)
      ·
        have hv3_ := hv2_.trans (if_neg hc3)
        refine Wp.via (fun _ k => XS.icmpNo X.here hx rfl (hb hby own_d1_51) rfl (flt hc3).2.2.1 k) ?_
        show Wp p e below _ (T.setTop (mkF m 54 #[.val (.int x0)] []))
        refine Wp.via (fun _ k => XS.iconst X.here hx rfl (hb hby own_d1_54) k) ?_
        show Wp p e below _ (T.setTop (mkF m 55 #[.val (.int x0)] [(.int (1 : Int32))]))
        refine Wp.via (fun _ k => XS.goto X.here hx rfl (pc0 := 55) (pc' := 59) rfl (hb hby own_d1_55) (by decide) (by decide) k) ?_
        show Wp p e below _ (T.setTop (mkF m 59 #[.val (.int x0)] [(.int (1 : Int32))]))
        exact Wp.retI X hlk hx hret (by simp) (by first | rfl | decide) (hb hby own_d1_59) ⟨by rw [hv3_], NF, eT⟩ (by omega) (by omega)
  have J30 : ∀ (T : State) (locs : List Loc) (cells slots : Nat) (X : Stand p l e ({ frames := 0, cells := 0, slots := 0, locals := 0 } : Room) s m #[(.int p0)] below meth c T locs cells slots) (eT : T.heap = h0) (NF : Fr n0 locs) (hC : cells ≤ 0) (hS : slots ≤ 0) (x0 : Int32) , (f1_0 p0) = (f1_30 x0) → Wp p e below (Gd s (Qo1 Z p0 h0 n0) ({ frames := 0, cells := 0, slots := 0, locals := 0 } : Room).cells ({ frames := 0, cells := 0, slots := 0, locals := 0 } : Room).slots) (T.setTop (mkF m 30 #[.val (.int x0)] [])) := by
    intro T locs cells slots X eT NF hC hS x0 hv
    have hv4 : (f1_0 p0) = (if x0 < (57344 : Int32) then (f1_42 x0) else (if (65533 : Int32) < x0 then (f1_42 x0) else (1 : Int32))) := hv
    refine Wp.via (fun _ k => XS.iloadN X.here hx rfl (hb hby own_d1_30) rfl k) ?_
    show Wp p e below _ (T.setTop (mkF m 31 #[.val (.int x0)] [(.int x0)]))
    refine Wp.via (fun _ k => X.ldcInt hx hown (mvT hZ (hw _ (List.mem_of_getElem? (i := 16) rfl))) (g := (mkF m 31 #[.val (.int x0)] [(.int x0)])) rfl (hb hby own_d1_31) _ k) ?_
    show Wp p e below _ (T.setTop (mkF m 33 #[.val (.int x0)] [(.int (57344 : Int32)), (.int x0)]))
    by_cases hc5 : x0 < (57344 : Int32)
    ·
      have hv5_ := hv4.trans (if_pos hc5)
      refine Wp.via (fun _ k => XS.icmpYes X.here hx rfl (pc0 := 33) (pc' := 42) rfl (hb hby own_d1_33) rfl (tlt hc5).1 (by decide) (by decide) k) ?_
      show Wp p e below _ (T.setTop (mkF m 42 #[.val (.int x0)] []))
      exact J42 T _ _ _ X eT NF (by omega) (by omega) x0 hv5_
    ·
      have hv5_ := hv4.trans (if_neg hc5)
      refine Wp.via (fun _ k => XS.icmpNo X.here hx rfl (hb hby own_d1_33) rfl (flt hc5).1 k) ?_
      show Wp p e below _ (T.setTop (mkF m 36 #[.val (.int x0)] []))
      refine Wp.via (fun _ k => XS.iloadN X.here hx rfl (hb hby own_d1_36) rfl k) ?_
      show Wp p e below _ (T.setTop (mkF m 37 #[.val (.int x0)] [(.int x0)]))
      refine Wp.via (fun _ k => X.ldcInt hx hown (mvT hZ (hw _ (List.mem_of_getElem? (i := 24) rfl))) (g := (mkF m 37 #[.val (.int x0)] [(.int x0)])) rfl (hb hby own_d1_37) _ k) ?_
      show Wp p e below _ (T.setTop (mkF m 39 #[.val (.int x0)] [(.int (65533 : Int32)), (.int x0)]))
      by_cases hc6 : (65533 : Int32) < x0
      ·
        have hv6_ := hv5_.trans (if_pos hc6)
        refine Wp.via (fun _ k => XS.icmpNo X.here hx rfl (hb hby own_d1_39) rfl (tlt hc6).2.2.2 k) ?_
        show Wp p e below _ (T.setTop (mkF m 42 #[.val (.int x0)] []))
        exact J42 T _ _ _ X eT NF (by omega) (by omega) x0 hv6_
      ·
        have hv6_ := hv5_.trans (if_neg hc6)
        refine Wp.via (fun _ k => XS.icmpYes X.here hx rfl (pc0 := 39) (pc' := 54) rfl (hb hby own_d1_39) rfl (flt hc6).2.2.2 (by decide) (by decide) k) ?_
        show Wp p e below _ (T.setTop (mkF m 54 #[.val (.int x0)] []))
        refine Wp.via (fun _ k => XS.iconst X.here hx rfl (hb hby own_d1_54) k) ?_
        show Wp p e below _ (T.setTop (mkF m 55 #[.val (.int x0)] [(.int (1 : Int32))]))
        refine Wp.via (fun _ k => XS.goto X.here hx rfl (pc0 := 55) (pc' := 59) rfl (hb hby own_d1_55) (by decide) (by decide) k) ?_
        show Wp p e below _ (T.setTop (mkF m 59 #[.val (.int x0)] [(.int (1 : Int32))]))
        exact Wp.retI X hlk hx hret (by simp) (by first | rfl | decide) (hb hby own_d1_59) ⟨by rw [hv6_], NF, eT⟩ (by omega) (by omega)
  have hv : (f1_0 p0) = (if p0 = (9 : Int32) then (1 : Int32) else (if p0 = (10 : Int32) then (1 : Int32) else (if p0 = (13 : Int32) then (1 : Int32) else (if p0 < (32 : Int32) then (f1_30 p0) else (if (55295 : Int32) < p0 then (f1_30 p0) else (1 : Int32)))))) := rfl
  refine Wp.via (fun _ k => XS.iloadN X0.here hx rfl (hb hby own_d1_0) rfl k) ?_
  show Wp p e below _ (T0.setTop (mkF m 1 #[.val (.int p0)] [(.int p0)]))
  refine Wp.via (fun _ k => XS.bipush X0.here hx rfl (hb hby own_d1_1) k) ?_
  show Wp p e below _ (T0.setTop (mkF m 3 #[.val (.int p0)] [(.int (9 : Int32)), (.int p0)]))
  by_cases hc7 : p0 = (9 : Int32)
  ·
    have hv7_ := hv.trans (if_pos hc7)
    refine Wp.via (fun _ k => XS.icmpYes X0.here hx rfl (pc0 := 3) (pc' := 54) rfl (hb hby own_d1_3) rfl (teq hc7).1 (by decide) (by decide) k) ?_
    show Wp p e below _ (T0.setTop (mkF m 54 #[.val (.int p0)] []))
    refine Wp.via (fun _ k => XS.iconst X0.here hx rfl (hb hby own_d1_54) k) ?_
    show Wp p e below _ (T0.setTop (mkF m 55 #[.val (.int p0)] [(.int (1 : Int32))]))
    refine Wp.via (fun _ k => XS.goto X0.here hx rfl (pc0 := 55) (pc' := 59) rfl (hb hby own_d1_55) (by decide) (by decide) k) ?_
    show Wp p e below _ (T0.setTop (mkF m 59 #[.val (.int p0)] [(.int (1 : Int32))]))
    exact Wp.retI X0 hlk hx hret (by simp) (by first | rfl | decide) (hb hby own_d1_59) ⟨by rw [hv7_], NF0, e0⟩ (by decide) (by decide)
  ·
    have hv7_ := hv.trans (if_neg hc7)
    refine Wp.via (fun _ k => XS.icmpNo X0.here hx rfl (hb hby own_d1_3) rfl (feq hc7).1 k) ?_
    show Wp p e below _ (T0.setTop (mkF m 6 #[.val (.int p0)] []))
    refine Wp.via (fun _ k => XS.iloadN X0.here hx rfl (hb hby own_d1_6) rfl k) ?_
    show Wp p e below _ (T0.setTop (mkF m 7 #[.val (.int p0)] [(.int p0)]))
    refine Wp.via (fun _ k => XS.bipush X0.here hx rfl (hb hby own_d1_7) k) ?_
    show Wp p e below _ (T0.setTop (mkF m 9 #[.val (.int p0)] [(.int (10 : Int32)), (.int p0)]))
    by_cases hc8 : p0 = (10 : Int32)
    ·
      have hv8_ := hv7_.trans (if_pos hc8)
      refine Wp.via (fun _ k => XS.icmpYes X0.here hx rfl (pc0 := 9) (pc' := 54) rfl (hb hby own_d1_9) rfl (teq hc8).1 (by decide) (by decide) k) ?_
      show Wp p e below _ (T0.setTop (mkF m 54 #[.val (.int p0)] []))
      refine Wp.via (fun _ k => XS.iconst X0.here hx rfl (hb hby own_d1_54) k) ?_
      show Wp p e below _ (T0.setTop (mkF m 55 #[.val (.int p0)] [(.int (1 : Int32))]))
      refine Wp.via (fun _ k => XS.goto X0.here hx rfl (pc0 := 55) (pc' := 59) rfl (hb hby own_d1_55) (by decide) (by decide) k) ?_
      show Wp p e below _ (T0.setTop (mkF m 59 #[.val (.int p0)] [(.int (1 : Int32))]))
      exact Wp.retI X0 hlk hx hret (by simp) (by first | rfl | decide) (hb hby own_d1_59) ⟨by rw [hv8_], NF0, e0⟩ (by decide) (by decide)
    ·
      have hv8_ := hv7_.trans (if_neg hc8)
      refine Wp.via (fun _ k => XS.icmpNo X0.here hx rfl (hb hby own_d1_9) rfl (feq hc8).1 k) ?_
      show Wp p e below _ (T0.setTop (mkF m 12 #[.val (.int p0)] []))
      refine Wp.via (fun _ k => XS.iloadN X0.here hx rfl (hb hby own_d1_12) rfl k) ?_
      show Wp p e below _ (T0.setTop (mkF m 13 #[.val (.int p0)] [(.int p0)]))
      refine Wp.via (fun _ k => XS.bipush X0.here hx rfl (hb hby own_d1_13) k) ?_
      show Wp p e below _ (T0.setTop (mkF m 15 #[.val (.int p0)] [(.int (13 : Int32)), (.int p0)]))
      by_cases hc9 : p0 = (13 : Int32)
      ·
        have hv9_ := hv8_.trans (if_pos hc9)
        refine Wp.via (fun _ k => XS.icmpYes X0.here hx rfl (pc0 := 15) (pc' := 54) rfl (hb hby own_d1_15) rfl (teq hc9).1 (by decide) (by decide) k) ?_
        show Wp p e below _ (T0.setTop (mkF m 54 #[.val (.int p0)] []))
        refine Wp.via (fun _ k => XS.iconst X0.here hx rfl (hb hby own_d1_54) k) ?_
        show Wp p e below _ (T0.setTop (mkF m 55 #[.val (.int p0)] [(.int (1 : Int32))]))
        refine Wp.via (fun _ k => XS.goto X0.here hx rfl (pc0 := 55) (pc' := 59) rfl (hb hby own_d1_55) (by decide) (by decide) k) ?_
        show Wp p e below _ (T0.setTop (mkF m 59 #[.val (.int p0)] [(.int (1 : Int32))]))
        exact Wp.retI X0 hlk hx hret (by simp) (by first | rfl | decide) (hb hby own_d1_59) ⟨by rw [hv9_], NF0, e0⟩ (by decide) (by decide)
      ·
        have hv9_ := hv8_.trans (if_neg hc9)
        refine Wp.via (fun _ k => XS.icmpNo X0.here hx rfl (hb hby own_d1_15) rfl (feq hc9).1 k) ?_
        show Wp p e below _ (T0.setTop (mkF m 18 #[.val (.int p0)] []))
        refine Wp.via (fun _ k => XS.iloadN X0.here hx rfl (hb hby own_d1_18) rfl k) ?_
        show Wp p e below _ (T0.setTop (mkF m 19 #[.val (.int p0)] [(.int p0)]))
        refine Wp.via (fun _ k => XS.bipush X0.here hx rfl (hb hby own_d1_19) k) ?_
        show Wp p e below _ (T0.setTop (mkF m 21 #[.val (.int p0)] [(.int (32 : Int32)), (.int p0)]))
        by_cases hc10 : p0 < (32 : Int32)
        ·
          have hv10_ := hv9_.trans (if_pos hc10)
          refine Wp.via (fun _ k => XS.icmpYes X0.here hx rfl (pc0 := 21) (pc' := 30) rfl (hb hby own_d1_21) rfl (tlt hc10).1 (by decide) (by decide) k) ?_
          show Wp p e below _ (T0.setTop (mkF m 30 #[.val (.int p0)] []))
          exact J30 T0 _ _ _ X0 e0 NF0 (by decide) (by decide) p0 hv10_
        ·
          have hv10_ := hv9_.trans (if_neg hc10)
          refine Wp.via (fun _ k => XS.icmpNo X0.here hx rfl (hb hby own_d1_21) rfl (flt hc10).1 k) ?_
          show Wp p e below _ (T0.setTop (mkF m 24 #[.val (.int p0)] []))
          refine Wp.via (fun _ k => XS.iloadN X0.here hx rfl (hb hby own_d1_24) rfl k) ?_
          show Wp p e below _ (T0.setTop (mkF m 25 #[.val (.int p0)] [(.int p0)]))
          refine Wp.via (fun _ k => X0.ldcInt hx hown (mvT hZ (hw _ (List.mem_of_getElem? (i := 22) rfl))) (g := (mkF m 25 #[.val (.int p0)] [(.int p0)])) rfl (hb hby own_d1_25) _ k) ?_
          show Wp p e below _ (T0.setTop (mkF m 27 #[.val (.int p0)] [(.int (55295 : Int32)), (.int p0)]))
          by_cases hc11 : (55295 : Int32) < p0
          ·
            have hv11_ := hv10_.trans (if_pos hc11)
            refine Wp.via (fun _ k => XS.icmpNo X0.here hx rfl (hb hby own_d1_27) rfl (tlt hc11).2.2.2 k) ?_
            show Wp p e below _ (T0.setTop (mkF m 30 #[.val (.int p0)] []))
            exact J30 T0 _ _ _ X0 e0 NF0 (by decide) (by decide) p0 hv11_
          ·
            have hv11_ := hv10_.trans (if_neg hc11)
            refine Wp.via (fun _ k => XS.icmpYes X0.here hx rfl (pc0 := 27) (pc' := 54) rfl (hb hby own_d1_27) rfl (flt hc11).2.2.2 (by decide) (by decide) k) ?_
            show Wp p e below _ (T0.setTop (mkF m 54 #[.val (.int p0)] []))
            refine Wp.via (fun _ k => XS.iconst X0.here hx rfl (hb hby own_d1_54) k) ?_
            show Wp p e below _ (T0.setTop (mkF m 55 #[.val (.int p0)] [(.int (1 : Int32))]))
            refine Wp.via (fun _ k => XS.goto X0.here hx rfl (pc0 := 55) (pc' := 59) rfl (hb hby own_d1_55) (by decide) (by decide) k) ?_
            show Wp p e below _ (T0.setTop (mkF m 59 #[.val (.int p0)] [(.int (1 : Int32))]))
            exact Wp.retI X0 hlk hx hret (by simp) (by first | rfl | decide) (hb hby own_d1_59) ⟨by rw [hv11_], NF0, e0⟩ (by decide) (by decide)
def f2_58 (x0 : Int32) : Int32 := (if x0 = (65534 : Int32) then (1 : Int32) else (if x0 = (65535 : Int32) then (1 : Int32) else (0 : Int32)))
def f2_0 (p0 : Int32) : Int32 := (if p0 < (0 : Int32) then (1 : Int32) else (if (1114111 : Int32) < p0 then (1 : Int32) else (if p0 < (32 : Int32) then (if p0 = (9 : Int32) then (0 : Int32) else (if p0 = (10 : Int32) then (0 : Int32) else (if p0 = (13 : Int32) then (0 : Int32) else (1 : Int32)))) else (if p0 < (55296 : Int32) then (f2_58 p0) else (if (57343 : Int32) < p0 then (f2_58 p0) else (1 : Int32))))))
theorem own_d2_0 : decode method_2_code 0 = .ok (.iload_n 0, 1) := by decide +kernel
theorem own_d2_1 : decode method_2_code 1 = .ok (.ifCond .ge 5, 3) := by decide +kernel
theorem own_d2_4 : decode method_2_code 4 = .ok (.iconst 1, 1) := by decide +kernel
theorem own_d2_5 : decode method_2_code 5 = .ok (.ireturn, 1) := by decide +kernel
theorem own_d2_6 : decode method_2_code 6 = .ok (.iload_n 0, 1) := by decide +kernel
theorem own_d2_7 : decode method_2_code 7 = .ok (.ldc 7, 2) := by decide +kernel
theorem own_d2_9 : decode method_2_code 9 = .ok (.if_icmp .le 5, 3) := by decide +kernel
theorem own_d2_12 : decode method_2_code 12 = .ok (.iconst 1, 1) := by decide +kernel
theorem own_d2_13 : decode method_2_code 13 = .ok (.ireturn, 1) := by decide +kernel
theorem own_d2_14 : decode method_2_code 14 = .ok (.iload_n 0, 1) := by decide +kernel
theorem own_d2_15 : decode method_2_code 15 = .ok (.bipush 32, 2) := by decide +kernel
theorem own_d2_17 : decode method_2_code 17 = .ok (.if_icmp .ge 27, 3) := by decide +kernel
theorem own_d2_20 : decode method_2_code 20 = .ok (.iload_n 0, 1) := by decide +kernel
theorem own_d2_21 : decode method_2_code 21 = .ok (.bipush 9, 2) := by decide +kernel
theorem own_d2_23 : decode method_2_code 23 = .ok (.if_icmp .eq 19, 3) := by decide +kernel
theorem own_d2_26 : decode method_2_code 26 = .ok (.iload_n 0, 1) := by decide +kernel
theorem own_d2_27 : decode method_2_code 27 = .ok (.bipush 10, 2) := by decide +kernel
theorem own_d2_29 : decode method_2_code 29 = .ok (.if_icmp .eq 13, 3) := by decide +kernel
theorem own_d2_32 : decode method_2_code 32 = .ok (.iload_n 0, 1) := by decide +kernel
theorem own_d2_33 : decode method_2_code 33 = .ok (.bipush 13, 2) := by decide +kernel
theorem own_d2_35 : decode method_2_code 35 = .ok (.if_icmp .eq 7, 3) := by decide +kernel
theorem own_d2_38 : decode method_2_code 38 = .ok (.iconst 1, 1) := by decide +kernel
theorem own_d2_39 : decode method_2_code 39 = .ok (.goto 4, 3) := by decide +kernel
theorem own_d2_42 : decode method_2_code 42 = .ok (.iconst 0, 1) := by decide +kernel
theorem own_d2_43 : decode method_2_code 43 = .ok (.ireturn, 1) := by decide +kernel
theorem own_d2_44 : decode method_2_code 44 = .ok (.iload_n 0, 1) := by decide +kernel
theorem own_d2_45 : decode method_2_code 45 = .ok (.ldc 8, 2) := by decide +kernel
theorem own_d2_47 : decode method_2_code 47 = .ok (.if_icmp .lt 11, 3) := by decide +kernel
theorem own_d2_50 : decode method_2_code 50 = .ok (.iload_n 0, 1) := by decide +kernel
theorem own_d2_51 : decode method_2_code 51 = .ok (.ldc 9, 2) := by decide +kernel
theorem own_d2_53 : decode method_2_code 53 = .ok (.if_icmp .gt 5, 3) := by decide +kernel
theorem own_d2_56 : decode method_2_code 56 = .ok (.iconst 1, 1) := by decide +kernel
theorem own_d2_57 : decode method_2_code 57 = .ok (.ireturn, 1) := by decide +kernel
theorem own_d2_58 : decode method_2_code 58 = .ok (.iload_n 0, 1) := by decide +kernel
theorem own_d2_59 : decode method_2_code 59 = .ok (.ldc 10, 2) := by decide +kernel
theorem own_d2_61 : decode method_2_code 61 = .ok (.if_icmp .eq 9, 3) := by decide +kernel
theorem own_d2_64 : decode method_2_code 64 = .ok (.iload_n 0, 1) := by decide +kernel
theorem own_d2_65 : decode method_2_code 65 = .ok (.ldc 11, 2) := by decide +kernel
theorem own_d2_67 : decode method_2_code 67 = .ok (.if_icmp .ne 5, 3) := by decide +kernel
theorem own_d2_70 : decode method_2_code 70 = .ok (.iconst 1, 1) := by decide +kernel
theorem own_d2_71 : decode method_2_code 71 = .ok (.ireturn, 1) := by decide +kernel
theorem own_d2_72 : decode method_2_code 72 = .ok (.iconst 0, 1) := by decide +kernel
theorem own_d2_73 : decode method_2_code 73 = .ok (.ireturn, 1) := by decide +kernel
theorem own_pl2 : plainFor (⟨"com/example/antipolis/antipolis/value/XmlCharsIsCharPinLaw", "forbidden", "(I)Z"⟩ : MethodName) = true := plainFor_of_name (by first | (simp [plainName, overriddenIn]; done) | decide +kernel)
theorem own_ef2 (m : MethodId) (p0 : Int32) : entryFrame m #[(.int p0)] 1 = mkF m 0 #[.val (.int p0)] [] := by first | (simp [entryFrame, mkF, argsToLocals, Value.category]; done) | rfl
def Qo2 (Z : State) (p0 : Int32)  (h0 : Heap) (n0 : Nat) (v : Option Value) (h : Heap) (L : List Loc) : Prop := v = some (.int (f2_0 p0)) ∧ Fr n0 L ∧ h = h0
set_option maxRecDepth 65536 in
set_option maxHeartbeats 40000000 in
theorem rm2 (l : Launch) (Z : State) (aw : Array Value) (hw : ∀ d ∈ tables_1, d.before aw Z = true) (ws : List Jvm.Cond) (p0 : Int32)  (h0 : Heap) (n0 : Nat) (Z0 : n0 ≤ h0.size)  :
    MetFree l (⟨"com/example/antipolis/antipolis/value/XmlCharsIsCharPinLaw", "forbidden", "(I)Z"⟩ : MethodName) (head1 (Jvm.Cond.code (⟨"com/example/antipolis/antipolis/value/XmlCharsIsCharPinLaw", "forbidden", "(I)Z"⟩ : MethodName) method_2_code 1 (some .boolean) :: ws) ({ frames := 0, cells := 0, slots := 0, locals := 0 } : Room)) (fun a U => a = #[(.int p0)] ∧ Z.Warmed39 U.vm ∧ U.heap = h0) (fun _ _ _ _ _ => True) (fun _ U o U' => ∃ v L, o = .returned v ∧ (Qo2 Z p0 h0 n0) v U'.heap L ∧ FrameEnd U o U' L ({ frames := 0, cells := 0, slots := 0, locals := 0 } : Room).cells ({ frames := 0, cells := 0, slots := 0, locals := 0 } : Room).slots) := by
  refine ofWp (Q := Qo2 Z p0 h0 n0) own_pl2 (fun m => own_ef2 m p0) ?_
  intro p e s m below meth c T0 hx hby hml hown hnm hlk hret hZ X0 e0
  change s.vm.findClass "com/example/antipolis/antipolis/value/XmlCharsIsCharPinLaw" = some m.cls at hown
  have NF0 := Fr.nil n0
  have J58 : ∀ (T : State) (locs : List Loc) (cells slots : Nat) (X : Stand p l e ({ frames := 0, cells := 0, slots := 0, locals := 0 } : Room) s m #[(.int p0)] below meth c T locs cells slots) (eT : T.heap = h0) (NF : Fr n0 locs) (hC : cells ≤ 0) (hS : slots ≤ 0) (x0 : Int32) , (f2_0 p0) = (f2_58 x0) → Wp p e below (Gd s (Qo2 Z p0 h0 n0) ({ frames := 0, cells := 0, slots := 0, locals := 0 } : Room).cells ({ frames := 0, cells := 0, slots := 0, locals := 0 } : Room).slots) (T.setTop (mkF m 58 #[.val (.int x0)] [])) := by
    intro T locs cells slots X eT NF hC hS x0 hv
    have hv1 : (f2_0 p0) = (if x0 = (65534 : Int32) then (1 : Int32) else (if x0 = (65535 : Int32) then (1 : Int32) else (0 : Int32))) := hv
    refine Wp.via (fun _ k => XS.iloadN X.here hx rfl (hb hby own_d2_58) rfl k) ?_
    show Wp p e below _ (T.setTop (mkF m 59 #[.val (.int x0)] [(.int x0)]))
    refine Wp.via (fun _ k => X.ldcInt hx hown (mvT hZ (hw _ (List.mem_of_getElem? (i := 6) rfl))) (g := (mkF m 59 #[.val (.int x0)] [(.int x0)])) rfl (hb hby own_d2_59) _ k) ?_
    show Wp p e below _ (T.setTop (mkF m 61 #[.val (.int x0)] [(.int (65534 : Int32)), (.int x0)]))
    by_cases hc2 : x0 = (65534 : Int32)
    ·
      have hv2_ := hv1.trans (if_pos hc2)
      refine Wp.via (fun _ k => XS.icmpYes X.here hx rfl (pc0 := 61) (pc' := 70) rfl (hb hby own_d2_61) rfl (teq hc2).1 (by decide) (by decide) k) ?_
      show Wp p e below _ (T.setTop (mkF m 70 #[.val (.int x0)] []))
      refine Wp.via (fun _ k => XS.iconst X.here hx rfl (hb hby own_d2_70) k) ?_
      show Wp p e below _ (T.setTop (mkF m 71 #[.val (.int x0)] [(.int (1 : Int32))]))
      exact Wp.retI X hlk hx hret (by simp) (by first | rfl | decide) (hb hby own_d2_71) ⟨by rw [hv2_], NF, eT⟩ (by omega) (by omega)
    ·
      have hv2_ := hv1.trans (if_neg hc2)
      refine Wp.via (fun _ k => XS.icmpNo X.here hx rfl (hb hby own_d2_61) rfl (feq hc2).1 k) ?_
      show Wp p e below _ (T.setTop (mkF m 64 #[.val (.int x0)] []))
      refine Wp.via (fun _ k => XS.iloadN X.here hx rfl (hb hby own_d2_64) rfl k) ?_
      show Wp p e below _ (T.setTop (mkF m 65 #[.val (.int x0)] [(.int x0)]))
      refine Wp.via (fun _ k => X.ldcInt hx hown (mvT hZ (hw _ (List.mem_of_getElem? (i := 23) rfl))) (g := (mkF m 65 #[.val (.int x0)] [(.int x0)])) rfl (hb hby own_d2_65) _ k) ?_
      show Wp p e below _ (T.setTop (mkF m 67 #[.val (.int x0)] [(.int (65535 : Int32)), (.int x0)]))
      by_cases hc3 : x0 = (65535 : Int32)
      ·
        have hv3_ := hv2_.trans (if_pos hc3)
        refine Wp.via (fun _ k => XS.icmpNo X.here hx rfl (hb hby own_d2_67) rfl (teq hc3).2 k) ?_
        show Wp p e below _ (T.setTop (mkF m 70 #[.val (.int x0)] []))
        refine Wp.via (fun _ k => XS.iconst X.here hx rfl (hb hby own_d2_70) k) ?_
        show Wp p e below _ (T.setTop (mkF m 71 #[.val (.int x0)] [(.int (1 : Int32))]))
        exact Wp.retI X hlk hx hret (by simp) (by first | rfl | decide) (hb hby own_d2_71) ⟨by rw [hv3_], NF, eT⟩ (by omega) (by omega)
      ·
        have hv3_ := hv2_.trans (if_neg hc3)
        refine Wp.via (fun _ k => XS.icmpYes X.here hx rfl (pc0 := 67) (pc' := 72) rfl (hb hby own_d2_67) rfl (feq hc3).2 (by decide) (by decide) k) ?_
        show Wp p e below _ (T.setTop (mkF m 72 #[.val (.int x0)] []))
        refine Wp.via (fun _ k => XS.iconst X.here hx rfl (hb hby own_d2_72) k) ?_
        show Wp p e below _ (T.setTop (mkF m 73 #[.val (.int x0)] [(.int (0 : Int32))]))
        exact Wp.retI X hlk hx hret (by simp) (by first | rfl | decide) (hb hby own_d2_73) ⟨by rw [hv3_], NF, eT⟩ (by omega) (by omega)
  have hv : (f2_0 p0) = (if p0 < (0 : Int32) then (1 : Int32) else (if (1114111 : Int32) < p0 then (1 : Int32) else (if p0 < (32 : Int32) then (if p0 = (9 : Int32) then (0 : Int32) else (if p0 = (10 : Int32) then (0 : Int32) else (if p0 = (13 : Int32) then (0 : Int32) else (1 : Int32)))) else (if p0 < (55296 : Int32) then (f2_58 p0) else (if (57343 : Int32) < p0 then (f2_58 p0) else (1 : Int32)))))) := rfl
  refine Wp.via (fun _ k => XS.iloadN X0.here hx rfl (hb hby own_d2_0) rfl k) ?_
  show Wp p e below _ (T0.setTop (mkF m 1 #[.val (.int p0)] [(.int p0)]))
  by_cases hc4 : p0 < (0 : Int32)
  ·
    have hv4_ := hv.trans (if_pos hc4)
    refine Wp.via (fun _ k => XS.ifNo X0.here hx rfl (hb hby own_d2_1) rfl ((if0 _ _).trans (tlt hc4).2.1) k) ?_
    show Wp p e below _ (T0.setTop (mkF m 4 #[.val (.int p0)] []))
    refine Wp.via (fun _ k => XS.iconst X0.here hx rfl (hb hby own_d2_4) k) ?_
    show Wp p e below _ (T0.setTop (mkF m 5 #[.val (.int p0)] [(.int (1 : Int32))]))
    exact Wp.retI X0 hlk hx hret (by simp) (by first | rfl | decide) (hb hby own_d2_5) ⟨by rw [hv4_], NF0, e0⟩ (by decide) (by decide)
  ·
    have hv4_ := hv.trans (if_neg hc4)
    refine Wp.via (fun _ k => XS.ifYes X0.here hx rfl (pc0 := 1) (pc' := 6) rfl (hb hby own_d2_1) rfl ((if0 _ _).trans (flt hc4).2.1) (by decide) (by decide) k) ?_
    show Wp p e below _ (T0.setTop (mkF m 6 #[.val (.int p0)] []))
    refine Wp.via (fun _ k => XS.iloadN X0.here hx rfl (hb hby own_d2_6) rfl k) ?_
    show Wp p e below _ (T0.setTop (mkF m 7 #[.val (.int p0)] [(.int p0)]))
    refine Wp.via (fun _ k => X0.ldcInt hx hown (mvT hZ (hw _ (List.mem_of_getElem? (i := 8) rfl))) (g := (mkF m 7 #[.val (.int p0)] [(.int p0)])) rfl (hb hby own_d2_7) _ k) ?_
    show Wp p e below _ (T0.setTop (mkF m 9 #[.val (.int p0)] [(.int (1114111 : Int32)), (.int p0)]))
    by_cases hc5 : (1114111 : Int32) < p0
    ·
      have hv5_ := hv4_.trans (if_pos hc5)
      refine Wp.via (fun _ k => XS.icmpNo X0.here hx rfl (hb hby own_d2_9) rfl (tlt hc5).2.2.2 k) ?_
      show Wp p e below _ (T0.setTop (mkF m 12 #[.val (.int p0)] []))
      refine Wp.via (fun _ k => XS.iconst X0.here hx rfl (hb hby own_d2_12) k) ?_
      show Wp p e below _ (T0.setTop (mkF m 13 #[.val (.int p0)] [(.int (1 : Int32))]))
      exact Wp.retI X0 hlk hx hret (by simp) (by first | rfl | decide) (hb hby own_d2_13) ⟨by rw [hv5_], NF0, e0⟩ (by decide) (by decide)
    ·
      have hv5_ := hv4_.trans (if_neg hc5)
      refine Wp.via (fun _ k => XS.icmpYes X0.here hx rfl (pc0 := 9) (pc' := 14) rfl (hb hby own_d2_9) rfl (flt hc5).2.2.2 (by decide) (by decide) k) ?_
      show Wp p e below _ (T0.setTop (mkF m 14 #[.val (.int p0)] []))
      refine Wp.via (fun _ k => XS.iloadN X0.here hx rfl (hb hby own_d2_14) rfl k) ?_
      show Wp p e below _ (T0.setTop (mkF m 15 #[.val (.int p0)] [(.int p0)]))
      refine Wp.via (fun _ k => XS.bipush X0.here hx rfl (hb hby own_d2_15) k) ?_
      show Wp p e below _ (T0.setTop (mkF m 17 #[.val (.int p0)] [(.int (32 : Int32)), (.int p0)]))
      by_cases hc6 : p0 < (32 : Int32)
      ·
        have hv6_ := hv5_.trans (if_pos hc6)
        refine Wp.via (fun _ k => XS.icmpNo X0.here hx rfl (hb hby own_d2_17) rfl (tlt hc6).2.1 k) ?_
        show Wp p e below _ (T0.setTop (mkF m 20 #[.val (.int p0)] []))
        refine Wp.via (fun _ k => XS.iloadN X0.here hx rfl (hb hby own_d2_20) rfl k) ?_
        show Wp p e below _ (T0.setTop (mkF m 21 #[.val (.int p0)] [(.int p0)]))
        refine Wp.via (fun _ k => XS.bipush X0.here hx rfl (hb hby own_d2_21) k) ?_
        show Wp p e below _ (T0.setTop (mkF m 23 #[.val (.int p0)] [(.int (9 : Int32)), (.int p0)]))
        by_cases hc7 : p0 = (9 : Int32)
        ·
          have hv7_ := hv6_.trans (if_pos hc7)
          refine Wp.via (fun _ k => XS.icmpYes X0.here hx rfl (pc0 := 23) (pc' := 42) rfl (hb hby own_d2_23) rfl (teq hc7).1 (by decide) (by decide) k) ?_
          show Wp p e below _ (T0.setTop (mkF m 42 #[.val (.int p0)] []))
          refine Wp.via (fun _ k => XS.iconst X0.here hx rfl (hb hby own_d2_42) k) ?_
          show Wp p e below _ (T0.setTop (mkF m 43 #[.val (.int p0)] [(.int (0 : Int32))]))
          exact Wp.retI X0 hlk hx hret (by simp) (by first | rfl | decide) (hb hby own_d2_43) ⟨by rw [hv7_], NF0, e0⟩ (by decide) (by decide)
        ·
          have hv7_ := hv6_.trans (if_neg hc7)
          refine Wp.via (fun _ k => XS.icmpNo X0.here hx rfl (hb hby own_d2_23) rfl (feq hc7).1 k) ?_
          show Wp p e below _ (T0.setTop (mkF m 26 #[.val (.int p0)] []))
          refine Wp.via (fun _ k => XS.iloadN X0.here hx rfl (hb hby own_d2_26) rfl k) ?_
          show Wp p e below _ (T0.setTop (mkF m 27 #[.val (.int p0)] [(.int p0)]))
          refine Wp.via (fun _ k => XS.bipush X0.here hx rfl (hb hby own_d2_27) k) ?_
          show Wp p e below _ (T0.setTop (mkF m 29 #[.val (.int p0)] [(.int (10 : Int32)), (.int p0)]))
          by_cases hc8 : p0 = (10 : Int32)
          ·
            have hv8_ := hv7_.trans (if_pos hc8)
            refine Wp.via (fun _ k => XS.icmpYes X0.here hx rfl (pc0 := 29) (pc' := 42) rfl (hb hby own_d2_29) rfl (teq hc8).1 (by decide) (by decide) k) ?_
            show Wp p e below _ (T0.setTop (mkF m 42 #[.val (.int p0)] []))
            refine Wp.via (fun _ k => XS.iconst X0.here hx rfl (hb hby own_d2_42) k) ?_
            show Wp p e below _ (T0.setTop (mkF m 43 #[.val (.int p0)] [(.int (0 : Int32))]))
            exact Wp.retI X0 hlk hx hret (by simp) (by first | rfl | decide) (hb hby own_d2_43) ⟨by rw [hv8_], NF0, e0⟩ (by decide) (by decide)
          ·
            have hv8_ := hv7_.trans (if_neg hc8)
            refine Wp.via (fun _ k => XS.icmpNo X0.here hx rfl (hb hby own_d2_29) rfl (feq hc8).1 k) ?_
            show Wp p e below _ (T0.setTop (mkF m 32 #[.val (.int p0)] []))
            refine Wp.via (fun _ k => XS.iloadN X0.here hx rfl (hb hby own_d2_32) rfl k) ?_
            show Wp p e below _ (T0.setTop (mkF m 33 #[.val (.int p0)] [(.int p0)]))
            refine Wp.via (fun _ k => XS.bipush X0.here hx rfl (hb hby own_d2_33) k) ?_
            show Wp p e below _ (T0.setTop (mkF m 35 #[.val (.int p0)] [(.int (13 : Int32)), (.int p0)]))
            by_cases hc9 : p0 = (13 : Int32)
            ·
              have hv9_ := hv8_.trans (if_pos hc9)
              refine Wp.via (fun _ k => XS.icmpYes X0.here hx rfl (pc0 := 35) (pc' := 42) rfl (hb hby own_d2_35) rfl (teq hc9).1 (by decide) (by decide) k) ?_
              show Wp p e below _ (T0.setTop (mkF m 42 #[.val (.int p0)] []))
              refine Wp.via (fun _ k => XS.iconst X0.here hx rfl (hb hby own_d2_42) k) ?_
              show Wp p e below _ (T0.setTop (mkF m 43 #[.val (.int p0)] [(.int (0 : Int32))]))
              exact Wp.retI X0 hlk hx hret (by simp) (by first | rfl | decide) (hb hby own_d2_43) ⟨by rw [hv9_], NF0, e0⟩ (by decide) (by decide)
            ·
              have hv9_ := hv8_.trans (if_neg hc9)
              refine Wp.via (fun _ k => XS.icmpNo X0.here hx rfl (hb hby own_d2_35) rfl (feq hc9).1 k) ?_
              show Wp p e below _ (T0.setTop (mkF m 38 #[.val (.int p0)] []))
              refine Wp.via (fun _ k => XS.iconst X0.here hx rfl (hb hby own_d2_38) k) ?_
              show Wp p e below _ (T0.setTop (mkF m 39 #[.val (.int p0)] [(.int (1 : Int32))]))
              refine Wp.via (fun _ k => XS.goto X0.here hx rfl (pc0 := 39) (pc' := 43) rfl (hb hby own_d2_39) (by decide) (by decide) k) ?_
              show Wp p e below _ (T0.setTop (mkF m 43 #[.val (.int p0)] [(.int (1 : Int32))]))
              exact Wp.retI X0 hlk hx hret (by simp) (by first | rfl | decide) (hb hby own_d2_43) ⟨by rw [hv9_], NF0, e0⟩ (by decide) (by decide)
      ·
        have hv6_ := hv5_.trans (if_neg hc6)
        refine Wp.via (fun _ k => XS.icmpYes X0.here hx rfl (pc0 := 17) (pc' := 44) rfl (hb hby own_d2_17) rfl (flt hc6).2.1 (by decide) (by decide) k) ?_
        show Wp p e below _ (T0.setTop (mkF m 44 #[.val (.int p0)] []))
        refine Wp.via (fun _ k => XS.iloadN X0.here hx rfl (hb hby own_d2_44) rfl k) ?_
        show Wp p e below _ (T0.setTop (mkF m 45 #[.val (.int p0)] [(.int p0)]))
        refine Wp.via (fun _ k => X0.ldcInt hx hown (mvT hZ (hw _ (List.mem_of_getElem? (i := 2) rfl))) (g := (mkF m 45 #[.val (.int p0)] [(.int p0)])) rfl (hb hby own_d2_45) _ k) ?_
        show Wp p e below _ (T0.setTop (mkF m 47 #[.val (.int p0)] [(.int (55296 : Int32)), (.int p0)]))
        by_cases hc10 : p0 < (55296 : Int32)
        ·
          have hv10_ := hv6_.trans (if_pos hc10)
          refine Wp.via (fun _ k => XS.icmpYes X0.here hx rfl (pc0 := 47) (pc' := 58) rfl (hb hby own_d2_47) rfl (tlt hc10).1 (by decide) (by decide) k) ?_
          show Wp p e below _ (T0.setTop (mkF m 58 #[.val (.int p0)] []))
          exact J58 T0 _ _ _ X0 e0 NF0 (by decide) (by decide) p0 hv10_
        ·
          have hv10_ := hv6_.trans (if_neg hc10)
          refine Wp.via (fun _ k => XS.icmpNo X0.here hx rfl (hb hby own_d2_47) rfl (flt hc10).1 k) ?_
          show Wp p e below _ (T0.setTop (mkF m 50 #[.val (.int p0)] []))
          refine Wp.via (fun _ k => XS.iloadN X0.here hx rfl (hb hby own_d2_50) rfl k) ?_
          show Wp p e below _ (T0.setTop (mkF m 51 #[.val (.int p0)] [(.int p0)]))
          refine Wp.via (fun _ k => X0.ldcInt hx hown (mvT hZ (hw _ (List.mem_of_getElem? (i := 3) rfl))) (g := (mkF m 51 #[.val (.int p0)] [(.int p0)])) rfl (hb hby own_d2_51) _ k) ?_
          show Wp p e below _ (T0.setTop (mkF m 53 #[.val (.int p0)] [(.int (57343 : Int32)), (.int p0)]))
          by_cases hc11 : (57343 : Int32) < p0
          ·
            have hv11_ := hv10_.trans (if_pos hc11)
            refine Wp.via (fun _ k => XS.icmpYes X0.here hx rfl (pc0 := 53) (pc' := 58) rfl (hb hby own_d2_53) rfl (tlt hc11).2.2.1 (by decide) (by decide) k) ?_
            show Wp p e below _ (T0.setTop (mkF m 58 #[.val (.int p0)] []))
            exact J58 T0 _ _ _ X0 e0 NF0 (by decide) (by decide) p0 hv11_
          ·
            have hv11_ := hv10_.trans (if_neg hc11)
            refine Wp.via (fun _ k => XS.icmpNo X0.here hx rfl (hb hby own_d2_53) rfl (flt hc11).2.2.1 k) ?_
            show Wp p e below _ (T0.setTop (mkF m 56 #[.val (.int p0)] []))
            refine Wp.via (fun _ k => XS.iconst X0.here hx rfl (hb hby own_d2_56) k) ?_
            show Wp p e below _ (T0.setTop (mkF m 57 #[.val (.int p0)] [(.int (1 : Int32))]))
            exact Wp.retI X0 hlk hx hret (by simp) (by first | rfl | decide) (hb hby own_d2_57) ⟨by rw [hv11_], NF0, e0⟩ (by decide) (by decide)
theorem s_f1_42 (x0 : Int32) : ((f1_42 x0).toInt = 1 ∧ ((65536 ≤ x0.toInt ∧ x0.toInt ≤ 1114111))) ∨ ((f1_42 x0).toInt = 0 ∧ ¬ ((65536 ≤ x0.toInt ∧ x0.toInt ≤ 1114111))) := by
  have l_0 : (0 : Int32).toInt = 0 := by decide
  have l_1 : (1 : Int32).toInt = 1 := by decide
  have l_65536 : (65536 : Int32).toInt = 65536 := by decide
  have l_1114111 : (1114111 : Int32).toInt = 1114111 := by decide
  have rg := rng32 x0
  unfold f1_42
  simp only [Int32.lt_iff_toInt_lt, ← Int32.toInt_inj, l_0, l_1, l_65536, l_1114111]
  repeat' split
  all_goals omega
theorem s_f1_30 (x0 : Int32) : ((f1_30 x0).toInt = 1 ∧ ((57344 ≤ x0.toInt ∧ x0.toInt ≤ 65533) ∨ (65536 ≤ x0.toInt ∧ x0.toInt ≤ 1114111))) ∨ ((f1_30 x0).toInt = 0 ∧ ¬ ((57344 ≤ x0.toInt ∧ x0.toInt ≤ 65533) ∨ (65536 ≤ x0.toInt ∧ x0.toInt ≤ 1114111))) := by
  have k_f1_42 := s_f1_42 x0
  have l_0 : (0 : Int32).toInt = 0 := by decide
  have l_1 : (1 : Int32).toInt = 1 := by decide
  have l_57344 : (57344 : Int32).toInt = 57344 := by decide
  have l_65533 : (65533 : Int32).toInt = 65533 := by decide
  have rg := rng32 x0
  unfold f1_30
  simp only [Int32.lt_iff_toInt_lt, ← Int32.toInt_inj, l_0, l_1, l_57344, l_65533]
  repeat' split
  all_goals omega
theorem s_f1_0 (p0 : Int32) : ((f1_0 p0).toInt = 1 ∧ ((9 ≤ p0.toInt ∧ p0.toInt ≤ 10) ∨ (13 ≤ p0.toInt ∧ p0.toInt ≤ 13) ∨ (32 ≤ p0.toInt ∧ p0.toInt ≤ 55295) ∨ (57344 ≤ p0.toInt ∧ p0.toInt ≤ 65533) ∨ (65536 ≤ p0.toInt ∧ p0.toInt ≤ 1114111))) ∨ ((f1_0 p0).toInt = 0 ∧ ¬ ((9 ≤ p0.toInt ∧ p0.toInt ≤ 10) ∨ (13 ≤ p0.toInt ∧ p0.toInt ≤ 13) ∨ (32 ≤ p0.toInt ∧ p0.toInt ≤ 55295) ∨ (57344 ≤ p0.toInt ∧ p0.toInt ≤ 65533) ∨ (65536 ≤ p0.toInt ∧ p0.toInt ≤ 1114111))) := by
  have k_f1_30 := s_f1_30 p0
  have l_0 : (0 : Int32).toInt = 0 := by decide
  have l_1 : (1 : Int32).toInt = 1 := by decide
  have l_9 : (9 : Int32).toInt = 9 := by decide
  have l_10 : (10 : Int32).toInt = 10 := by decide
  have l_13 : (13 : Int32).toInt = 13 := by decide
  have l_32 : (32 : Int32).toInt = 32 := by decide
  have l_55295 : (55295 : Int32).toInt = 55295 := by decide
  have rg := rng32 p0
  unfold f1_0
  simp only [Int32.lt_iff_toInt_lt, ← Int32.toInt_inj, l_0, l_1, l_9, l_10, l_13, l_32, l_55295]
  repeat' split
  all_goals omega
theorem s_f2_58 (x0 : Int32) : ((f2_58 x0).toInt = 1 ∧ ((65534 ≤ x0.toInt ∧ x0.toInt ≤ 65535))) ∨ ((f2_58 x0).toInt = 0 ∧ ¬ ((65534 ≤ x0.toInt ∧ x0.toInt ≤ 65535))) := by
  have l_0 : (0 : Int32).toInt = 0 := by decide
  have l_1 : (1 : Int32).toInt = 1 := by decide
  have l_65534 : (65534 : Int32).toInt = 65534 := by decide
  have l_65535 : (65535 : Int32).toInt = 65535 := by decide
  have rg := rng32 x0
  unfold f2_58
  simp only [Int32.lt_iff_toInt_lt, ← Int32.toInt_inj, l_0, l_1, l_65534, l_65535]
  repeat' split
  all_goals omega
theorem s_f2_0 (p0 : Int32) : ((f2_0 p0).toInt = 1 ∧ (p0.toInt ≤ 8 ∨ (11 ≤ p0.toInt ∧ p0.toInt ≤ 12) ∨ (14 ≤ p0.toInt ∧ p0.toInt ≤ 31) ∨ (55296 ≤ p0.toInt ∧ p0.toInt ≤ 57343) ∨ (65534 ≤ p0.toInt ∧ p0.toInt ≤ 65535) ∨ 1114112 ≤ p0.toInt)) ∨ ((f2_0 p0).toInt = 0 ∧ ¬ (p0.toInt ≤ 8 ∨ (11 ≤ p0.toInt ∧ p0.toInt ≤ 12) ∨ (14 ≤ p0.toInt ∧ p0.toInt ≤ 31) ∨ (55296 ≤ p0.toInt ∧ p0.toInt ≤ 57343) ∨ (65534 ≤ p0.toInt ∧ p0.toInt ≤ 65535) ∨ 1114112 ≤ p0.toInt)) := by
  have k_f2_58 := s_f2_58 p0
  have l_0 : (0 : Int32).toInt = 0 := by decide
  have l_1 : (1 : Int32).toInt = 1 := by decide
  have l_9 : (9 : Int32).toInt = 9 := by decide
  have l_10 : (10 : Int32).toInt = 10 := by decide
  have l_13 : (13 : Int32).toInt = 13 := by decide
  have l_32 : (32 : Int32).toInt = 32 := by decide
  have l_55296 : (55296 : Int32).toInt = 55296 := by decide
  have l_57343 : (57343 : Int32).toInt = 57343 := by decide
  have l_1114111 : (1114111 : Int32).toInt = 1114111 := by decide
  have rg := rng32 p0
  unfold f2_0
  simp only [Int32.lt_iff_toInt_lt, ← Int32.toInt_inj, l_0, l_1, l_9, l_10, l_13, l_32, l_55296, l_57343, l_1114111]
  repeat' split
  all_goals omega
theorem own_ok (x : Int32) : (f1_0 x = 1 ∧ f2_0 x = 0) ∨ (f1_0 x = 0 ∧ f2_0 x = 1) := by
  have k1 := s_f1_0 x
  have k2 := s_f2_0 x
  have l0 : (0 : Int32).toInt = 0 := by decide
  have l1 : (1 : Int32).toInt = 1 := by decide
  have rg := rng32 x
  simp only [← Int32.toInt_inj, l0, l1]
  omega
def f0_159 (x0 : Int32) (x1 : Int32) (x3 : Int32) (x4 : Int32) (y0 : Int32) : Int32 := (if x4 = (0 : Int32) then (0 : Int32) else (if y0 = (0 : Int32) then (0 : Int32) else (1 : Int32)))
def f0_151 (x0 : Int32) (x1 : Int32) (x3 : Int32) (x4 : Int32) (y0 : Int32) (y1 : Int32) : Int32 := (if y1 = y0 then (f0_159 x0 x1 x3 x4 (1 : Int32)) else (f0_159 x0 x1 x3 x4 (0 : Int32)))
def f0_133 (x0 : Int32) (x1 : Int32) (x3 : Int32) (y0 : Int32) : Int32 := (if (f2_0 x3) = (0 : Int32) then (f0_151 x0 x1 x3 y0 (1 : Int32) (f1_0 x3)) else (f0_151 x0 x1 x3 y0 (0 : Int32) (f1_0 x3)))
def f0_125 (x0 : Int32) (x1 : Int32) (x3 : Int32) (y0 : Int32) (y1 : Int32) : Int32 := (if y1 = y0 then (f0_133 x0 x1 x3 (1 : Int32)) else (f0_133 x0 x1 x3 (0 : Int32)))
def f0_109 (p0 : Int32) (p1 : Int32) (dv : Int32) : Int32 := (if (f2_0 p0) = (0 : Int32) then (f0_125 p0 p1 dv (1 : Int32) (f1_0 p0)) else (f0_125 p0 p1 dv (0 : Int32) (f1_0 p0)))
theorem own_law (p0 p1 dv : Int32) : f0_109 p0 p1 dv = 1 := by
  rcases own_ok p0 with ⟨a1, a2⟩ | ⟨a1, a2⟩ <;> rcases own_ok dv with ⟨b1, b2⟩ | ⟨b1, b2⟩ <;> simp [f0_109, f0_125, f0_133, f0_151, f0_159, a1, a2, b1, b2]
theorem own_pd0 : parseMethodDescriptor "(I)Z" = some ⟨[.int], some .boolean⟩ := by decide +kernel
theorem own_pl0 : plainFor (⟨"com/example/antipolis/antipolis/value/XmlCharsIsCharPinLaw", "law", "(II)Z"⟩ : MethodName) = true := plainFor_of_name (by first | (simp [plainName, overriddenIn]; done) | decide +kernel)
theorem own_ef0 (m : MethodId) (p0 : Int32) (p1 : Int32) : entryFrame m #[(.int p0), (.int p1)] maxLocals = mkF m 0 #[.val (.int p0), .val (.int p1), .unset, .unset, .unset, .unset] [] := by first | (simp [entryFrame, mkF, argsToLocals, Value.category, maxLocals]; done) | rfl
def Qo0 (Z : State) (p0 : Int32) (p1 : Int32)  (h0 : Heap) (n0 : Nat) (v : Option Value) (h : Heap) (L : List Loc) : Prop := v = some (.int 1) ∧ Fr n0 L
set_option maxRecDepth 65536 in
set_option maxHeartbeats 40000000 in
theorem rm0 (l : Launch) (Z : State) (aw : Array Value) (hw : ∀ d ∈ tables_1, d.before aw Z = true) (ws : List Jvm.Cond) (p0 : Int32) (p1 : Int32)  (h0 : Heap) (n0 : Nat) (Z0 : n0 ≤ h0.size)  :
    MetFree l x (head1 (Jvm.Cond.code x code maxLocals ret :: ws) room_1) (fun a U => a = #[(.int p0), (.int p1)] ∧ Z.Warmed39 U.vm ∧ U.heap = h0) (fun _ _ _ _ _ => True) (fun _ U o U' => ∃ v L, o = .returned v ∧ (Qo0 Z p0 p1 h0 n0) v U'.heap L ∧ FrameEnd U o U' L 16 128) := by
  refine ofWp (Q := Qo0 Z p0 p1 h0 n0) own_pl0 (fun m => own_ef0 m p0 p1) ?_
  intro p e s m below meth c T0 hx hby hml hown hnm hlk hret hZ X0 e0
  change s.vm.findClass "com/example/antipolis/antipolis/value/XmlCharsIsCharPinLaw" = some m.cls at hown
  have NF0 := Fr.nil n0
  have J109 : ∀ (T : State) (hh : Heap) (locs : List Loc) (cells slots : Nat) (X : Stand p l e room_1 s m #[(.int p0), (.int p1)] below meth c T locs cells slots) (eT : T.heap = hh) (zh : n0 ≤ hh.size) (NF : Fr n0 locs) (hC : cells ≤ 16) (hS : slots ≤ 128) (ar : Addr) (dv : Int32), Wp p e below (Gd s (Qo0 Z p0 p1 h0 n0) 16 128) (T.setTop (mkF m 109 #[.val (.int p0), .val (.int p1), .val (.ref ar), .val (.int dv), .unset, .unset] [])) := by
    intro T hh locs cells slots X eT zh NF hC hS ar dv
    have J159 : ∀ (T : State) (locs : List Loc) (cells slots : Nat) (X : Stand p l e room_1 s m #[(.int p0), (.int p1)] below meth c T locs cells slots) (eT : T.heap = hh) (NF : Fr n0 locs) (hC : cells ≤ 16) (hS : slots ≤ 128) (x0 : Int32) (x1 : Int32) (x3 : Int32) (x4 : Int32) (y0 : Int32) , (f0_109 p0 p1 dv) = (f0_159 x0 x1 x3 x4 y0) → Wp p e below (Gd s (Qo0 Z p0 p1 h0 n0) 16 128) (T.setTop (mkF m 159 #[.val (.int x0), .val (.int x1), .val (.ref ar), .val (.int x3), .val (.int x4), .unset] [(.int y0)])) := by
      intro T locs cells slots X eT NF hC hS x0 x1 x3 x4 y0 hv
      have hv1 : (f0_109 p0 p1 dv) = (if x4 = (0 : Int32) then (0 : Int32) else (if y0 = (0 : Int32) then (0 : Int32) else (1 : Int32))) := hv
      refine Wp.via (fun _ k => XS.istore X.here hx rfl (hb hby at_159) rfl (l' := #[.val (.int x0), .val (.int x1), .val (.ref ar), .val (.int x3), .val (.int x4), .val (.int y0)]) rfl k) ?_
      show Wp p e below _ (T.setTop (mkF m 161 #[.val (.int x0), .val (.int x1), .val (.ref ar), .val (.int x3), .val (.int x4), .val (.int y0)] []))
      refine Wp.via (fun _ k => XS.iload X.here hx rfl (hb hby at_161) rfl k) ?_
      show Wp p e below _ (T.setTop (mkF m 163 #[.val (.int x0), .val (.int x1), .val (.ref ar), .val (.int x3), .val (.int x4), .val (.int y0)] [(.int x4)]))
      by_cases hc2 : x4 = (0 : Int32)
      ·
        have hv2_ := hv1.trans (if_pos hc2)
        refine Wp.via (fun _ k => XS.ifYes X.here hx rfl (pc0 := 163) (pc' := 175) rfl (hb hby at_163) rfl ((if0 _ _).trans (teq hc2).1) (by decide) (by decide) k) ?_
        show Wp p e below _ (T.setTop (mkF m 175 #[.val (.int x0), .val (.int x1), .val (.ref ar), .val (.int x3), .val (.int x4), .val (.int y0)] []))
        refine Wp.via (fun _ k => XS.iconst X.here hx rfl (hb hby at_175) k) ?_
        show Wp p e below _ (T.setTop (mkF m 176 #[.val (.int x0), .val (.int x1), .val (.ref ar), .val (.int x3), .val (.int x4), .val (.int y0)] [(.int (0 : Int32))]))
        exact Wp.retI X hlk hx hret (by simp) (by first | rfl | decide) (hb hby at_176) ⟨by rw [← hv2_, own_law], NF⟩ (by omega) (by omega)
      ·
        have hv2_ := hv1.trans (if_neg hc2)
        refine Wp.via (fun _ k => XS.ifNo X.here hx rfl (hb hby at_163) rfl ((if0 _ _).trans (feq hc2).1) k) ?_
        show Wp p e below _ (T.setTop (mkF m 166 #[.val (.int x0), .val (.int x1), .val (.ref ar), .val (.int x3), .val (.int x4), .val (.int y0)] []))
        refine Wp.via (fun _ k => XS.iload X.here hx rfl (hb hby at_166) rfl k) ?_
        show Wp p e below _ (T.setTop (mkF m 168 #[.val (.int x0), .val (.int x1), .val (.ref ar), .val (.int x3), .val (.int x4), .val (.int y0)] [(.int y0)]))
        by_cases hc3 : y0 = (0 : Int32)
        ·
          have hv3_ := hv2_.trans (if_pos hc3)
          refine Wp.via (fun _ k => XS.ifYes X.here hx rfl (pc0 := 168) (pc' := 175) rfl (hb hby at_168) rfl ((if0 _ _).trans (teq hc3).1) (by decide) (by decide) k) ?_
          show Wp p e below _ (T.setTop (mkF m 175 #[.val (.int x0), .val (.int x1), .val (.ref ar), .val (.int x3), .val (.int x4), .val (.int y0)] []))
          refine Wp.via (fun _ k => XS.iconst X.here hx rfl (hb hby at_175) k) ?_
          show Wp p e below _ (T.setTop (mkF m 176 #[.val (.int x0), .val (.int x1), .val (.ref ar), .val (.int x3), .val (.int x4), .val (.int y0)] [(.int (0 : Int32))]))
          exact Wp.retI X hlk hx hret (by simp) (by first | rfl | decide) (hb hby at_176) ⟨by rw [← hv3_, own_law], NF⟩ (by omega) (by omega)
        ·
          have hv3_ := hv2_.trans (if_neg hc3)
          refine Wp.via (fun _ k => XS.ifNo X.here hx rfl (hb hby at_168) rfl ((if0 _ _).trans (feq hc3).1) k) ?_
          show Wp p e below _ (T.setTop (mkF m 171 #[.val (.int x0), .val (.int x1), .val (.ref ar), .val (.int x3), .val (.int x4), .val (.int y0)] []))
          refine Wp.via (fun _ k => XS.iconst X.here hx rfl (hb hby at_171) k) ?_
          show Wp p e below _ (T.setTop (mkF m 172 #[.val (.int x0), .val (.int x1), .val (.ref ar), .val (.int x3), .val (.int x4), .val (.int y0)] [(.int (1 : Int32))]))
          refine Wp.via (fun _ k => XS.goto X.here hx rfl (pc0 := 172) (pc' := 176) rfl (hb hby at_172) (by decide) (by decide) k) ?_
          show Wp p e below _ (T.setTop (mkF m 176 #[.val (.int x0), .val (.int x1), .val (.ref ar), .val (.int x3), .val (.int x4), .val (.int y0)] [(.int (1 : Int32))]))
          exact Wp.retI X hlk hx hret (by simp) (by first | rfl | decide) (hb hby at_176) ⟨by rw [← hv3_, own_law], NF⟩ (by omega) (by omega)
    have J151 : ∀ (T : State) (locs : List Loc) (cells slots : Nat) (X : Stand p l e room_1 s m #[(.int p0), (.int p1)] below meth c T locs cells slots) (eT : T.heap = hh) (NF : Fr n0 locs) (hC : cells ≤ 16) (hS : slots ≤ 128) (x0 : Int32) (x1 : Int32) (x3 : Int32) (x4 : Int32) (y0 : Int32) (y1 : Int32) , (f0_109 p0 p1 dv) = (f0_151 x0 x1 x3 x4 y0 y1) → Wp p e below (Gd s (Qo0 Z p0 p1 h0 n0) 16 128) (T.setTop (mkF m 151 #[.val (.int x0), .val (.int x1), .val (.ref ar), .val (.int x3), .val (.int x4), .unset] [(.int y0), (.int y1)])) := by
      intro T locs cells slots X eT NF hC hS x0 x1 x3 x4 y0 y1 hv
      have hv4 : (f0_109 p0 p1 dv) = (if y1 = y0 then (f0_159 x0 x1 x3 x4 (1 : Int32)) else (f0_159 x0 x1 x3 x4 (0 : Int32))) := hv
      by_cases hc5 : y1 = y0
      ·
        have hv5_ := hv4.trans (if_pos hc5)
        refine Wp.via (fun _ k => XS.icmpNo X.here hx rfl (hb hby at_151) rfl (teq hc5).2 k) ?_
        show Wp p e below _ (T.setTop (mkF m 154 #[.val (.int x0), .val (.int x1), .val (.ref ar), .val (.int x3), .val (.int x4), .unset] []))
        refine Wp.via (fun _ k => XS.iconst X.here hx rfl (hb hby at_154) k) ?_
        show Wp p e below _ (T.setTop (mkF m 155 #[.val (.int x0), .val (.int x1), .val (.ref ar), .val (.int x3), .val (.int x4), .unset] [(.int (1 : Int32))]))
        refine Wp.via (fun _ k => XS.goto X.here hx rfl (pc0 := 155) (pc' := 159) rfl (hb hby at_155) (by decide) (by decide) k) ?_
        show Wp p e below _ (T.setTop (mkF m 159 #[.val (.int x0), .val (.int x1), .val (.ref ar), .val (.int x3), .val (.int x4), .unset] [(.int (1 : Int32))]))
        exact J159 T _ _ _ X eT NF (by omega) (by omega) x0 x1 x3 x4 (1 : Int32) hv5_
      ·
        have hv5_ := hv4.trans (if_neg hc5)
        refine Wp.via (fun _ k => XS.icmpYes X.here hx rfl (pc0 := 151) (pc' := 158) rfl (hb hby at_151) rfl (feq hc5).2 (by decide) (by decide) k) ?_
        show Wp p e below _ (T.setTop (mkF m 158 #[.val (.int x0), .val (.int x1), .val (.ref ar), .val (.int x3), .val (.int x4), .unset] []))
        refine Wp.via (fun _ k => XS.iconst X.here hx rfl (hb hby at_158) k) ?_
        show Wp p e below _ (T.setTop (mkF m 159 #[.val (.int x0), .val (.int x1), .val (.ref ar), .val (.int x3), .val (.int x4), .unset] [(.int (0 : Int32))]))
        exact J159 T _ _ _ X eT NF (by omega) (by omega) x0 x1 x3 x4 (0 : Int32) hv5_
    have J133 : ∀ (T : State) (locs : List Loc) (cells slots : Nat) (X : Stand p l e room_1 s m #[(.int p0), (.int p1)] below meth c T locs cells slots) (eT : T.heap = hh) (NF : Fr n0 locs) (hC : cells ≤ 16) (hS : slots ≤ 128) (x0 : Int32) (x1 : Int32) (x3 : Int32) (y0 : Int32) , (f0_109 p0 p1 dv) = (f0_133 x0 x1 x3 y0) → Wp p e below (Gd s (Qo0 Z p0 p1 h0 n0) 16 128) (T.setTop (mkF m 133 #[.val (.int x0), .val (.int x1), .val (.ref ar), .val (.int x3), .unset, .unset] [(.int y0)])) := by
      intro T locs cells slots X eT NF hC hS x0 x1 x3 y0 hv
      have hv6 : (f0_109 p0 p1 dv) = (if (f2_0 x3) = (0 : Int32) then (f0_151 x0 x1 x3 y0 (1 : Int32) (f1_0 x3)) else (f0_151 x0 x1 x3 y0 (0 : Int32) (f1_0 x3))) := hv
      refine Wp.via (fun _ k => XS.istore X.here hx rfl (hb hby at_133) rfl (l' := #[.val (.int x0), .val (.int x1), .val (.ref ar), .val (.int x3), .val (.int y0), .unset]) rfl k) ?_
      show Wp p e below _ (T.setTop (mkF m 135 #[.val (.int x0), .val (.int x1), .val (.ref ar), .val (.int x3), .val (.int y0), .unset] []))
      refine Wp.via (fun _ k => XS.iloadN X.here hx rfl (hb hby at_135) rfl k) ?_
      show Wp p e below _ (T.setTop (mkF m 136 #[.val (.int x0), .val (.int x1), .val (.ref ar), .val (.int x3), .val (.int y0), .unset] [(.int x3)]))
      obtain ⟨_, _, ⟨T7, L7, k7, n7⟩, -, X7, ⟨Lc7, hQ7, l7, y7, z7⟩, st7⟩ := Jvm.LawKit.callS X hx (y := (⟨"com/example/antipolis/antipolis/value/XmlChars", "isChar", "(I)Z"⟩ : MethodName)) hown (mvT hZ (hw _ (List.mem_of_getElem? (i := 12) rfl))) (mvT hZ (hw _ (List.mem_of_getElem? (i := 13) rfl))) (mvT hZ (hw _ (List.mem_of_getElem? (i := 14) rfl))) (mvT hZ (hw _ (List.mem_of_getElem? (i := 15) rfl))) (by decide) (backOf (W := 0) (rm1 l Z aw hw [] x3  hh n0 zh ) hZ (hw _ (List.mem_of_getElem? (i := 15) rfl)) (hw _ (List.mem_of_getElem? (i := 14) rfl)) (by decide) (by decide)) (g := (mkF m 136 #[.val (.int x0), .val (.int x1), .val (.ref ar), .val (.int x3), .val (.int y0), .unset] [(.int x3)])) rfl (by rw [hml]; rfl) (argsL := [(.int x3)]) (rest := []) (lenOf own_pd0 rfl) rfl (by show 2 * 0 + _ ≤ _; exact Nat.le_of_eq rfl) (hb hby at_136) (fun _ _ => ⟨rfl, eT, (show cells + 0 ≤ room_1.cells from Nat.le_trans (by omega : cells + 0 ≤ 16) (by decide)), (show slots + 0 ≤ room_1.slots from Nat.le_trans (by omega : slots + 0 ≤ 128) (by decide))⟩)
      dsimp only [Pt.U, Pt.locs, Pt.cells, Pt.slots] at X7 l7 y7 z7 st7 hQ7
      subst l7
      have hC7 : k7 ≤ 16 := by rw [y7]; show cells + 0 ≤ 16; omega
      have hS7 : n7 ≤ 128 := by rw [z7]; show slots + 0 ≤ 128; omega
      obtain ⟨rfl, N7, e7⟩ := hQ7
      have NF7 := Fr.app NF N7
      refine Wp.via st7 ?_
      show Wp p e below _ (T7.setTop (mkF m 139 #[.val (.int x0), .val (.int x1), .val (.ref ar), .val (.int x3), .val (.int y0), .unset] [(.int (f1_0 x3))]))
      refine Wp.via (fun _ k => XS.iloadN X7.here hx rfl (hb hby at_139) rfl k) ?_
      show Wp p e below _ (T7.setTop (mkF m 140 #[.val (.int x0), .val (.int x1), .val (.ref ar), .val (.int x3), .val (.int y0), .unset] [(.int x3), (.int (f1_0 x3))]))
      obtain ⟨_, _, ⟨T8, L8, k8, n8⟩, -, X8, ⟨Lc8, hQ8, l8, y8, z8⟩, st8⟩ := Jvm.LawKit.callS X7 hx (y := (⟨"com/example/antipolis/antipolis/value/XmlCharsIsCharPinLaw", "forbidden", "(I)Z"⟩ : MethodName)) hown (mvT hZ (hw _ (List.mem_of_getElem? (i := 18) rfl))) (mvT hZ (hw _ (List.mem_of_getElem? (i := 19) rfl))) (mvT hZ (hw _ (List.mem_of_getElem? (i := 20) rfl))) (mvT hZ (hw _ (List.mem_of_getElem? (i := 21) rfl))) (by decide) (backOf (W := 1) (rm2 l Z aw hw [] x3  hh n0 zh ) hZ (hw _ (List.mem_of_getElem? (i := 21) rfl)) (hw _ (List.mem_of_getElem? (i := 20) rfl)) (by decide) (by decide)) (g := (mkF m 140 #[.val (.int x0), .val (.int x1), .val (.ref ar), .val (.int x3), .val (.int y0), .unset] [(.int x3), (.int (f1_0 x3))])) rfl (by rw [hml]; rfl) (argsL := [(.int x3)]) (rest := [(.int (f1_0 x3))]) (lenOf own_pd0 rfl) rfl (by show 2 * 0 + _ ≤ _; exact Nat.le_of_eq rfl) (hb hby at_140) (fun _ _ => ⟨rfl, e7, (show k7 + 0 ≤ room_1.cells from Nat.le_trans (by omega : k7 + 0 ≤ 16) (by decide)), (show n7 + 0 ≤ room_1.slots from Nat.le_trans (by omega : n7 + 0 ≤ 128) (by decide))⟩)
      dsimp only [Pt.U, Pt.locs, Pt.cells, Pt.slots] at X8 l8 y8 z8 st8 hQ8
      subst l8
      have hC8 : k8 ≤ 16 := by rw [y8]; show k7 + 0 ≤ 16; omega
      have hS8 : n8 ≤ 128 := by rw [z8]; show n7 + 0 ≤ 128; omega
      obtain ⟨rfl, N8, e8⟩ := hQ8
      have NF8 := Fr.app NF7 N8
      refine Wp.via st8 ?_
      show Wp p e below _ (T8.setTop (mkF m 143 #[.val (.int x0), .val (.int x1), .val (.ref ar), .val (.int x3), .val (.int y0), .unset] [(.int (f2_0 x3)), (.int (f1_0 x3))]))
      by_cases hc9 : (f2_0 x3) = (0 : Int32)
      ·
        have hv9_ := hv6.trans (if_pos hc9)
        refine Wp.via (fun _ k => XS.ifNo X8.here hx rfl (hb hby at_143) rfl ((if0 _ _).trans (teq hc9).2) k) ?_
        show Wp p e below _ (T8.setTop (mkF m 146 #[.val (.int x0), .val (.int x1), .val (.ref ar), .val (.int x3), .val (.int y0), .unset] [(.int (f1_0 x3))]))
        refine Wp.via (fun _ k => XS.iconst X8.here hx rfl (hb hby at_146) k) ?_
        show Wp p e below _ (T8.setTop (mkF m 147 #[.val (.int x0), .val (.int x1), .val (.ref ar), .val (.int x3), .val (.int y0), .unset] [(.int (1 : Int32)), (.int (f1_0 x3))]))
        refine Wp.via (fun _ k => XS.goto X8.here hx rfl (pc0 := 147) (pc' := 151) rfl (hb hby at_147) (by decide) (by decide) k) ?_
        show Wp p e below _ (T8.setTop (mkF m 151 #[.val (.int x0), .val (.int x1), .val (.ref ar), .val (.int x3), .val (.int y0), .unset] [(.int (1 : Int32)), (.int (f1_0 x3))]))
        exact J151 T8 _ _ _ X8 e8 NF8 (by omega) (by omega) x0 x1 x3 y0 (1 : Int32) (f1_0 x3) hv9_
      ·
        have hv9_ := hv6.trans (if_neg hc9)
        refine Wp.via (fun _ k => XS.ifYes X8.here hx rfl (pc0 := 143) (pc' := 150) rfl (hb hby at_143) rfl ((if0 _ _).trans (feq hc9).2) (by decide) (by decide) k) ?_
        show Wp p e below _ (T8.setTop (mkF m 150 #[.val (.int x0), .val (.int x1), .val (.ref ar), .val (.int x3), .val (.int y0), .unset] [(.int (f1_0 x3))]))
        refine Wp.via (fun _ k => XS.iconst X8.here hx rfl (hb hby at_150) k) ?_
        show Wp p e below _ (T8.setTop (mkF m 151 #[.val (.int x0), .val (.int x1), .val (.ref ar), .val (.int x3), .val (.int y0), .unset] [(.int (0 : Int32)), (.int (f1_0 x3))]))
        exact J151 T8 _ _ _ X8 e8 NF8 (by omega) (by omega) x0 x1 x3 y0 (0 : Int32) (f1_0 x3) hv9_
    have J125 : ∀ (T : State) (locs : List Loc) (cells slots : Nat) (X : Stand p l e room_1 s m #[(.int p0), (.int p1)] below meth c T locs cells slots) (eT : T.heap = hh) (NF : Fr n0 locs) (hC : cells ≤ 16) (hS : slots ≤ 128) (x0 : Int32) (x1 : Int32) (x3 : Int32) (y0 : Int32) (y1 : Int32) , (f0_109 p0 p1 dv) = (f0_125 x0 x1 x3 y0 y1) → Wp p e below (Gd s (Qo0 Z p0 p1 h0 n0) 16 128) (T.setTop (mkF m 125 #[.val (.int x0), .val (.int x1), .val (.ref ar), .val (.int x3), .unset, .unset] [(.int y0), (.int y1)])) := by
      intro T locs cells slots X eT NF hC hS x0 x1 x3 y0 y1 hv
      have hv10 : (f0_109 p0 p1 dv) = (if y1 = y0 then (f0_133 x0 x1 x3 (1 : Int32)) else (f0_133 x0 x1 x3 (0 : Int32))) := hv
      by_cases hc11 : y1 = y0
      ·
        have hv11_ := hv10.trans (if_pos hc11)
        refine Wp.via (fun _ k => XS.icmpNo X.here hx rfl (hb hby at_125) rfl (teq hc11).2 k) ?_
        show Wp p e below _ (T.setTop (mkF m 128 #[.val (.int x0), .val (.int x1), .val (.ref ar), .val (.int x3), .unset, .unset] []))
        refine Wp.via (fun _ k => XS.iconst X.here hx rfl (hb hby at_128) k) ?_
        show Wp p e below _ (T.setTop (mkF m 129 #[.val (.int x0), .val (.int x1), .val (.ref ar), .val (.int x3), .unset, .unset] [(.int (1 : Int32))]))
        refine Wp.via (fun _ k => XS.goto X.here hx rfl (pc0 := 129) (pc' := 133) rfl (hb hby at_129) (by decide) (by decide) k) ?_
        show Wp p e below _ (T.setTop (mkF m 133 #[.val (.int x0), .val (.int x1), .val (.ref ar), .val (.int x3), .unset, .unset] [(.int (1 : Int32))]))
        exact J133 T _ _ _ X eT NF (by omega) (by omega) x0 x1 x3 (1 : Int32) hv11_
      ·
        have hv11_ := hv10.trans (if_neg hc11)
        refine Wp.via (fun _ k => XS.icmpYes X.here hx rfl (pc0 := 125) (pc' := 132) rfl (hb hby at_125) rfl (feq hc11).2 (by decide) (by decide) k) ?_
        show Wp p e below _ (T.setTop (mkF m 132 #[.val (.int x0), .val (.int x1), .val (.ref ar), .val (.int x3), .unset, .unset] []))
        refine Wp.via (fun _ k => XS.iconst X.here hx rfl (hb hby at_132) k) ?_
        show Wp p e below _ (T.setTop (mkF m 133 #[.val (.int x0), .val (.int x1), .val (.ref ar), .val (.int x3), .unset, .unset] [(.int (0 : Int32))]))
        exact J133 T _ _ _ X eT NF (by omega) (by omega) x0 x1 x3 (0 : Int32) hv11_
    have hv : (f0_109 p0 p1 dv) = (if (f2_0 p0) = (0 : Int32) then (f0_125 p0 p1 dv (1 : Int32) (f1_0 p0)) else (f0_125 p0 p1 dv (0 : Int32) (f1_0 p0))) := rfl
    refine Wp.via (fun _ k => XS.iloadN X.here hx rfl (hb hby at_109) rfl k) ?_
    show Wp p e below _ (T.setTop (mkF m 110 #[.val (.int p0), .val (.int p1), .val (.ref ar), .val (.int dv), .unset, .unset] [(.int p0)]))
    obtain ⟨_, _, ⟨T12, L12, k12, n12⟩, -, X12, ⟨Lc12, hQ12, l12, y12, z12⟩, st12⟩ := Jvm.LawKit.callS X hx (y := (⟨"com/example/antipolis/antipolis/value/XmlChars", "isChar", "(I)Z"⟩ : MethodName)) hown (mvT hZ (hw _ (List.mem_of_getElem? (i := 12) rfl))) (mvT hZ (hw _ (List.mem_of_getElem? (i := 13) rfl))) (mvT hZ (hw _ (List.mem_of_getElem? (i := 14) rfl))) (mvT hZ (hw _ (List.mem_of_getElem? (i := 15) rfl))) (by decide) (backOf (W := 0) (rm1 l Z aw hw [] p0  hh n0 zh ) hZ (hw _ (List.mem_of_getElem? (i := 15) rfl)) (hw _ (List.mem_of_getElem? (i := 14) rfl)) (by decide) (by decide)) (g := (mkF m 110 #[.val (.int p0), .val (.int p1), .val (.ref ar), .val (.int dv), .unset, .unset] [(.int p0)])) rfl (by rw [hml]; rfl) (argsL := [(.int p0)]) (rest := []) (lenOf own_pd0 rfl) rfl (by show 2 * 0 + _ ≤ _; exact Nat.le_of_eq rfl) (hb hby at_110) (fun _ _ => ⟨rfl, eT, (show cells + 0 ≤ room_1.cells from Nat.le_trans (by omega : cells + 0 ≤ 16) (by decide)), (show slots + 0 ≤ room_1.slots from Nat.le_trans (by omega : slots + 0 ≤ 128) (by decide))⟩)
    dsimp only [Pt.U, Pt.locs, Pt.cells, Pt.slots] at X12 l12 y12 z12 st12 hQ12
    subst l12
    have hC12 : k12 ≤ 16 := by rw [y12]; show cells + 0 ≤ 16; omega
    have hS12 : n12 ≤ 128 := by rw [z12]; show slots + 0 ≤ 128; omega
    obtain ⟨rfl, N12, e12⟩ := hQ12
    have NF12 := Fr.app NF N12
    refine Wp.via st12 ?_
    show Wp p e below _ (T12.setTop (mkF m 113 #[.val (.int p0), .val (.int p1), .val (.ref ar), .val (.int dv), .unset, .unset] [(.int (f1_0 p0))]))
    refine Wp.via (fun _ k => XS.iloadN X12.here hx rfl (hb hby at_113) rfl k) ?_
    show Wp p e below _ (T12.setTop (mkF m 114 #[.val (.int p0), .val (.int p1), .val (.ref ar), .val (.int dv), .unset, .unset] [(.int p0), (.int (f1_0 p0))]))
    obtain ⟨_, _, ⟨T13, L13, k13, n13⟩, -, X13, ⟨Lc13, hQ13, l13, y13, z13⟩, st13⟩ := Jvm.LawKit.callS X12 hx (y := (⟨"com/example/antipolis/antipolis/value/XmlCharsIsCharPinLaw", "forbidden", "(I)Z"⟩ : MethodName)) hown (mvT hZ (hw _ (List.mem_of_getElem? (i := 18) rfl))) (mvT hZ (hw _ (List.mem_of_getElem? (i := 19) rfl))) (mvT hZ (hw _ (List.mem_of_getElem? (i := 20) rfl))) (mvT hZ (hw _ (List.mem_of_getElem? (i := 21) rfl))) (by decide) (backOf (W := 1) (rm2 l Z aw hw [] p0  hh n0 zh ) hZ (hw _ (List.mem_of_getElem? (i := 21) rfl)) (hw _ (List.mem_of_getElem? (i := 20) rfl)) (by decide) (by decide)) (g := (mkF m 114 #[.val (.int p0), .val (.int p1), .val (.ref ar), .val (.int dv), .unset, .unset] [(.int p0), (.int (f1_0 p0))])) rfl (by rw [hml]; rfl) (argsL := [(.int p0)]) (rest := [(.int (f1_0 p0))]) (lenOf own_pd0 rfl) rfl (by show 2 * 0 + _ ≤ _; exact Nat.le_of_eq rfl) (hb hby at_114) (fun _ _ => ⟨rfl, e12, (show k12 + 0 ≤ room_1.cells from Nat.le_trans (by omega : k12 + 0 ≤ 16) (by decide)), (show n12 + 0 ≤ room_1.slots from Nat.le_trans (by omega : n12 + 0 ≤ 128) (by decide))⟩)
    dsimp only [Pt.U, Pt.locs, Pt.cells, Pt.slots] at X13 l13 y13 z13 st13 hQ13
    subst l13
    have hC13 : k13 ≤ 16 := by rw [y13]; show k12 + 0 ≤ 16; omega
    have hS13 : n13 ≤ 128 := by rw [z13]; show n12 + 0 ≤ 128; omega
    obtain ⟨rfl, N13, e13⟩ := hQ13
    have NF13 := Fr.app NF12 N13
    refine Wp.via st13 ?_
    show Wp p e below _ (T13.setTop (mkF m 117 #[.val (.int p0), .val (.int p1), .val (.ref ar), .val (.int dv), .unset, .unset] [(.int (f2_0 p0)), (.int (f1_0 p0))]))
    by_cases hc14 : (f2_0 p0) = (0 : Int32)
    ·
      have hv14_ := hv.trans (if_pos hc14)
      refine Wp.via (fun _ k => XS.ifNo X13.here hx rfl (hb hby at_117) rfl ((if0 _ _).trans (teq hc14).2) k) ?_
      show Wp p e below _ (T13.setTop (mkF m 120 #[.val (.int p0), .val (.int p1), .val (.ref ar), .val (.int dv), .unset, .unset] [(.int (f1_0 p0))]))
      refine Wp.via (fun _ k => XS.iconst X13.here hx rfl (hb hby at_120) k) ?_
      show Wp p e below _ (T13.setTop (mkF m 121 #[.val (.int p0), .val (.int p1), .val (.ref ar), .val (.int dv), .unset, .unset] [(.int (1 : Int32)), (.int (f1_0 p0))]))
      refine Wp.via (fun _ k => XS.goto X13.here hx rfl (pc0 := 121) (pc' := 125) rfl (hb hby at_121) (by decide) (by decide) k) ?_
      show Wp p e below _ (T13.setTop (mkF m 125 #[.val (.int p0), .val (.int p1), .val (.ref ar), .val (.int dv), .unset, .unset] [(.int (1 : Int32)), (.int (f1_0 p0))]))
      exact J125 T13 _ _ _ X13 e13 NF13 (by omega) (by omega) p0 p1 dv (1 : Int32) (f1_0 p0) hv14_
    ·
      have hv14_ := hv.trans (if_neg hc14)
      refine Wp.via (fun _ k => XS.ifYes X13.here hx rfl (pc0 := 117) (pc' := 124) rfl (hb hby at_117) rfl ((if0 _ _).trans (feq hc14).2) (by decide) (by decide) k) ?_
      show Wp p e below _ (T13.setTop (mkF m 124 #[.val (.int p0), .val (.int p1), .val (.ref ar), .val (.int dv), .unset, .unset] [(.int (f1_0 p0))]))
      refine Wp.via (fun _ k => XS.iconst X13.here hx rfl (hb hby at_124) k) ?_
      show Wp p e below _ (T13.setTop (mkF m 125 #[.val (.int p0), .val (.int p1), .val (.ref ar), .val (.int dv), .unset, .unset] [(.int (0 : Int32)), (.int (f1_0 p0))]))
      exact J125 T13 _ _ _ X13 e13 NF13 (by omega) (by omega) p0 p1 dv (0 : Int32) (f1_0 p0) hv14_
  refine Wp.via (fun _ k => XS.bipush X0.here hx rfl (hb hby at_0) k) ?_
  show Wp p e below _ (T0.setTop (mkF m 2 #[.val (.int p0), .val (.int p1), .unset, .unset, .unset, .unset] [(.int (16 : Int32))]))
  obtain ⟨T15, h15, kl15, X15, e15, E15, A15, st15⟩ := newP X0 hx hZ (hw _ (List.mem_of_getElem? (i := 0) rfl)) e0 (g := (mkF m 2 #[.val (.int p0), .val (.int p1), .unset, .unset, .unset, .unset] [(.int (16 : Int32))])) rfl (hb hby at_2) rfl (by decide) (cap := 16) (by decide) (by decide) (by decide) (by decide)
  obtain ⟨b15, g15⟩ : ∃ z, z = h0.size := ⟨_, rfl⟩
  rw [← g15] at A15 st15
  have gn_b15 : n0 ≤ b15 := Nat.le_trans Z0 (Nat.le_of_eq g15.symm)
  have sz_b15 : h0.size ≤ b15 := Nat.le_trans (Keep.refl h0 []).1 (Nat.le_of_eq g15.symm)
  have V15 : Av Z h15 b15 .int 16 (fun _ => (.int (0 : Int32))) := Av.new A15 rfl
  refine Wp.via st15 ?_
  have K15 := (Keep.refl h0 []).ext E15
  have zz16 : n0 ≤ h15.size := Nat.le_trans Z0 E15.1
  show Wp p e below _ (T15.setTop (mkF m 4 #[.val (.int p0), .val (.int p1), .unset, .unset, .unset, .unset] [(.ref b15)]))
  refine Wp.via (fun _ k => XS.dup X15.here hx rfl (hb hby at_4) rfl rfl k) ?_
  show Wp p e below _ (T15.setTop (mkF m 5 #[.val (.int p0), .val (.int p1), .unset, .unset, .unset, .unset] [(.ref b15), (.ref b15)]))
  refine Wp.via (fun _ k => XS.iconst X15.here hx rfl (hb hby at_5) k) ?_
  show Wp p e below _ (T15.setTop (mkF m 6 #[.val (.int p0), .val (.int p1), .unset, .unset, .unset, .unset] [(.int (0 : Int32)), (.ref b15), (.ref b15)]))
  refine Wp.via (fun _ k => XS.iconst X15.here hx rfl (hb hby at_6) k) ?_
  show Wp p e below _ (T15.setTop (mkF m 7 #[.val (.int p0), .val (.int p1), .unset, .unset, .unset, .unset] [(.int (0 : Int32)), (.int (0 : Int32)), (.ref b15), (.ref b15)]))
  obtain ⟨T17, h17, X17, e17, W17, V17, st17⟩ := avStI X15 hx hZ e15 V15 (i := 0) (by decide) rfl (by decide) (g := (mkF m 7 #[.val (.int p0), .val (.int p1), .unset, .unset, .unset, .unset] [(.int (0 : Int32)), (.int (0 : Int32)), (.ref b15), (.ref b15)])) rfl rfl (hb hby at_7)
  have NF17 := Fr.snoc X17 NF0 gn_b15
  refine Wp.via st17 ?_
  have K17 := K15.wr W17 (Or.inr sz_b15)
  have zz18 : n0 ≤ h17.size := by rw [W17.size]; exact zz16
  show Wp p e below _ (T17.setTop (mkF m 8 #[.val (.int p0), .val (.int p1), .unset, .unset, .unset, .unset] [(.ref b15)]))
  refine Wp.via (fun _ k => XS.dup X17.here hx rfl (hb hby at_8) rfl rfl k) ?_
  show Wp p e below _ (T17.setTop (mkF m 9 #[.val (.int p0), .val (.int p1), .unset, .unset, .unset, .unset] [(.ref b15), (.ref b15)]))
  refine Wp.via (fun _ k => XS.iconst X17.here hx rfl (hb hby at_9) k) ?_
  show Wp p e below _ (T17.setTop (mkF m 10 #[.val (.int p0), .val (.int p1), .unset, .unset, .unset, .unset] [(.int (1 : Int32)), (.ref b15), (.ref b15)]))
  refine Wp.via (fun _ k => XS.bipush X17.here hx rfl (hb hby at_10) k) ?_
  show Wp p e below _ (T17.setTop (mkF m 12 #[.val (.int p0), .val (.int p1), .unset, .unset, .unset, .unset] [(.int (9 : Int32)), (.int (1 : Int32)), (.ref b15), (.ref b15)]))
  obtain ⟨T19, h19, X19, e19, W19, V19, st19⟩ := avStI X17 hx hZ e17 V17 (i := 1) (by decide) rfl (by decide) (g := (mkF m 12 #[.val (.int p0), .val (.int p1), .unset, .unset, .unset, .unset] [(.int (9 : Int32)), (.int (1 : Int32)), (.ref b15), (.ref b15)])) rfl rfl (hb hby at_12)
  have NF19 := Fr.snoc X19 NF17 gn_b15
  refine Wp.via st19 ?_
  have K19 := K17.wr W19 (Or.inr sz_b15)
  have zz20 : n0 ≤ h19.size := by rw [W19.size]; exact zz18
  show Wp p e below _ (T19.setTop (mkF m 13 #[.val (.int p0), .val (.int p1), .unset, .unset, .unset, .unset] [(.ref b15)]))
  refine Wp.via (fun _ k => XS.dup X19.here hx rfl (hb hby at_13) rfl rfl k) ?_
  show Wp p e below _ (T19.setTop (mkF m 14 #[.val (.int p0), .val (.int p1), .unset, .unset, .unset, .unset] [(.ref b15), (.ref b15)]))
  refine Wp.via (fun _ k => XS.iconst X19.here hx rfl (hb hby at_14) k) ?_
  show Wp p e below _ (T19.setTop (mkF m 15 #[.val (.int p0), .val (.int p1), .unset, .unset, .unset, .unset] [(.int (2 : Int32)), (.ref b15), (.ref b15)]))
  refine Wp.via (fun _ k => XS.bipush X19.here hx rfl (hb hby at_15) k) ?_
  show Wp p e below _ (T19.setTop (mkF m 17 #[.val (.int p0), .val (.int p1), .unset, .unset, .unset, .unset] [(.int (10 : Int32)), (.int (2 : Int32)), (.ref b15), (.ref b15)]))
  obtain ⟨T21, h21, X21, e21, W21, V21, st21⟩ := avStI X19 hx hZ e19 V19 (i := 2) (by decide) rfl (by decide) (g := (mkF m 17 #[.val (.int p0), .val (.int p1), .unset, .unset, .unset, .unset] [(.int (10 : Int32)), (.int (2 : Int32)), (.ref b15), (.ref b15)])) rfl rfl (hb hby at_17)
  have NF21 := Fr.snoc X21 NF19 gn_b15
  refine Wp.via st21 ?_
  have K21 := K19.wr W21 (Or.inr sz_b15)
  have zz22 : n0 ≤ h21.size := by rw [W21.size]; exact zz20
  show Wp p e below _ (T21.setTop (mkF m 18 #[.val (.int p0), .val (.int p1), .unset, .unset, .unset, .unset] [(.ref b15)]))
  refine Wp.via (fun _ k => XS.dup X21.here hx rfl (hb hby at_18) rfl rfl k) ?_
  show Wp p e below _ (T21.setTop (mkF m 19 #[.val (.int p0), .val (.int p1), .unset, .unset, .unset, .unset] [(.ref b15), (.ref b15)]))
  refine Wp.via (fun _ k => XS.iconst X21.here hx rfl (hb hby at_19) k) ?_
  show Wp p e below _ (T21.setTop (mkF m 20 #[.val (.int p0), .val (.int p1), .unset, .unset, .unset, .unset] [(.int (3 : Int32)), (.ref b15), (.ref b15)]))
  refine Wp.via (fun _ k => XS.bipush X21.here hx rfl (hb hby at_20) k) ?_
  show Wp p e below _ (T21.setTop (mkF m 22 #[.val (.int p0), .val (.int p1), .unset, .unset, .unset, .unset] [(.int (13 : Int32)), (.int (3 : Int32)), (.ref b15), (.ref b15)]))
  obtain ⟨T23, h23, X23, e23, W23, V23, st23⟩ := avStI X21 hx hZ e21 V21 (i := 3) (by decide) rfl (by decide) (g := (mkF m 22 #[.val (.int p0), .val (.int p1), .unset, .unset, .unset, .unset] [(.int (13 : Int32)), (.int (3 : Int32)), (.ref b15), (.ref b15)])) rfl rfl (hb hby at_22)
  have NF23 := Fr.snoc X23 NF21 gn_b15
  refine Wp.via st23 ?_
  have K23 := K21.wr W23 (Or.inr sz_b15)
  have zz24 : n0 ≤ h23.size := by rw [W23.size]; exact zz22
  show Wp p e below _ (T23.setTop (mkF m 23 #[.val (.int p0), .val (.int p1), .unset, .unset, .unset, .unset] [(.ref b15)]))
  refine Wp.via (fun _ k => XS.dup X23.here hx rfl (hb hby at_23) rfl rfl k) ?_
  show Wp p e below _ (T23.setTop (mkF m 24 #[.val (.int p0), .val (.int p1), .unset, .unset, .unset, .unset] [(.ref b15), (.ref b15)]))
  refine Wp.via (fun _ k => XS.iconst X23.here hx rfl (hb hby at_24) k) ?_
  show Wp p e below _ (T23.setTop (mkF m 25 #[.val (.int p0), .val (.int p1), .unset, .unset, .unset, .unset] [(.int (4 : Int32)), (.ref b15), (.ref b15)]))
  refine Wp.via (fun _ k => XS.bipush X23.here hx rfl (hb hby at_25) k) ?_
  show Wp p e below _ (T23.setTop (mkF m 27 #[.val (.int p0), .val (.int p1), .unset, .unset, .unset, .unset] [(.int (32 : Int32)), (.int (4 : Int32)), (.ref b15), (.ref b15)]))
  obtain ⟨T25, h25, X25, e25, W25, V25, st25⟩ := avStI X23 hx hZ e23 V23 (i := 4) (by decide) rfl (by decide) (g := (mkF m 27 #[.val (.int p0), .val (.int p1), .unset, .unset, .unset, .unset] [(.int (32 : Int32)), (.int (4 : Int32)), (.ref b15), (.ref b15)])) rfl rfl (hb hby at_27)
  have NF25 := Fr.snoc X25 NF23 gn_b15
  refine Wp.via st25 ?_
  have K25 := K23.wr W25 (Or.inr sz_b15)
  have zz26 : n0 ≤ h25.size := by rw [W25.size]; exact zz24
  show Wp p e below _ (T25.setTop (mkF m 28 #[.val (.int p0), .val (.int p1), .unset, .unset, .unset, .unset] [(.ref b15)]))
  refine Wp.via (fun _ k => XS.dup X25.here hx rfl (hb hby at_28) rfl rfl k) ?_
  show Wp p e below _ (T25.setTop (mkF m 29 #[.val (.int p0), .val (.int p1), .unset, .unset, .unset, .unset] [(.ref b15), (.ref b15)]))
  refine Wp.via (fun _ k => XS.iconst X25.here hx rfl (hb hby at_29) k) ?_
  show Wp p e below _ (T25.setTop (mkF m 30 #[.val (.int p0), .val (.int p1), .unset, .unset, .unset, .unset] [(.int (5 : Int32)), (.ref b15), (.ref b15)]))
  refine Wp.via (fun _ k => X25.ldcInt hx hown (mvT hZ (hw _ (List.mem_of_getElem? (i := 1) rfl))) (g := (mkF m 30 #[.val (.int p0), .val (.int p1), .unset, .unset, .unset, .unset] [(.int (5 : Int32)), (.ref b15), (.ref b15)])) rfl (hb hby at_30) _ k) ?_
  show Wp p e below _ (T25.setTop (mkF m 32 #[.val (.int p0), .val (.int p1), .unset, .unset, .unset, .unset] [(.int (55295 : Int32)), (.int (5 : Int32)), (.ref b15), (.ref b15)]))
  obtain ⟨T27, h27, X27, e27, W27, V27, st27⟩ := avStI X25 hx hZ e25 V25 (i := 5) (by decide) rfl (by decide) (g := (mkF m 32 #[.val (.int p0), .val (.int p1), .unset, .unset, .unset, .unset] [(.int (55295 : Int32)), (.int (5 : Int32)), (.ref b15), (.ref b15)])) rfl rfl (hb hby at_32)
  have NF27 := Fr.snoc X27 NF25 gn_b15
  refine Wp.via st27 ?_
  have K27 := K25.wr W27 (Or.inr sz_b15)
  have zz28 : n0 ≤ h27.size := by rw [W27.size]; exact zz26
  show Wp p e below _ (T27.setTop (mkF m 33 #[.val (.int p0), .val (.int p1), .unset, .unset, .unset, .unset] [(.ref b15)]))
  refine Wp.via (fun _ k => XS.dup X27.here hx rfl (hb hby at_33) rfl rfl k) ?_
  show Wp p e below _ (T27.setTop (mkF m 34 #[.val (.int p0), .val (.int p1), .unset, .unset, .unset, .unset] [(.ref b15), (.ref b15)]))
  refine Wp.via (fun _ k => XS.bipush X27.here hx rfl (hb hby at_34) k) ?_
  show Wp p e below _ (T27.setTop (mkF m 36 #[.val (.int p0), .val (.int p1), .unset, .unset, .unset, .unset] [(.int (6 : Int32)), (.ref b15), (.ref b15)]))
  refine Wp.via (fun _ k => X27.ldcInt hx hown (mvT hZ (hw _ (List.mem_of_getElem? (i := 2) rfl))) (g := (mkF m 36 #[.val (.int p0), .val (.int p1), .unset, .unset, .unset, .unset] [(.int (6 : Int32)), (.ref b15), (.ref b15)])) rfl (hb hby at_36) _ k) ?_
  show Wp p e below _ (T27.setTop (mkF m 38 #[.val (.int p0), .val (.int p1), .unset, .unset, .unset, .unset] [(.int (55296 : Int32)), (.int (6 : Int32)), (.ref b15), (.ref b15)]))
  obtain ⟨T29, h29, X29, e29, W29, V29, st29⟩ := avStI X27 hx hZ e27 V27 (i := 6) (by decide) rfl (by decide) (g := (mkF m 38 #[.val (.int p0), .val (.int p1), .unset, .unset, .unset, .unset] [(.int (55296 : Int32)), (.int (6 : Int32)), (.ref b15), (.ref b15)])) rfl rfl (hb hby at_38)
  have NF29 := Fr.snoc X29 NF27 gn_b15
  refine Wp.via st29 ?_
  have K29 := K27.wr W29 (Or.inr sz_b15)
  have zz30 : n0 ≤ h29.size := by rw [W29.size]; exact zz28
  show Wp p e below _ (T29.setTop (mkF m 39 #[.val (.int p0), .val (.int p1), .unset, .unset, .unset, .unset] [(.ref b15)]))
  refine Wp.via (fun _ k => XS.dup X29.here hx rfl (hb hby at_39) rfl rfl k) ?_
  show Wp p e below _ (T29.setTop (mkF m 40 #[.val (.int p0), .val (.int p1), .unset, .unset, .unset, .unset] [(.ref b15), (.ref b15)]))
  refine Wp.via (fun _ k => XS.bipush X29.here hx rfl (hb hby at_40) k) ?_
  show Wp p e below _ (T29.setTop (mkF m 42 #[.val (.int p0), .val (.int p1), .unset, .unset, .unset, .unset] [(.int (7 : Int32)), (.ref b15), (.ref b15)]))
  refine Wp.via (fun _ k => X29.ldcInt hx hown (mvT hZ (hw _ (List.mem_of_getElem? (i := 3) rfl))) (g := (mkF m 42 #[.val (.int p0), .val (.int p1), .unset, .unset, .unset, .unset] [(.int (7 : Int32)), (.ref b15), (.ref b15)])) rfl (hb hby at_42) _ k) ?_
  show Wp p e below _ (T29.setTop (mkF m 44 #[.val (.int p0), .val (.int p1), .unset, .unset, .unset, .unset] [(.int (57343 : Int32)), (.int (7 : Int32)), (.ref b15), (.ref b15)]))
  obtain ⟨T31, h31, X31, e31, W31, V31, st31⟩ := avStI X29 hx hZ e29 V29 (i := 7) (by decide) rfl (by decide) (g := (mkF m 44 #[.val (.int p0), .val (.int p1), .unset, .unset, .unset, .unset] [(.int (57343 : Int32)), (.int (7 : Int32)), (.ref b15), (.ref b15)])) rfl rfl (hb hby at_44)
  have NF31 := Fr.snoc X31 NF29 gn_b15
  refine Wp.via st31 ?_
  have K31 := K29.wr W31 (Or.inr sz_b15)
  have zz32 : n0 ≤ h31.size := by rw [W31.size]; exact zz30
  show Wp p e below _ (T31.setTop (mkF m 45 #[.val (.int p0), .val (.int p1), .unset, .unset, .unset, .unset] [(.ref b15)]))
  refine Wp.via (fun _ k => XS.dup X31.here hx rfl (hb hby at_45) rfl rfl k) ?_
  show Wp p e below _ (T31.setTop (mkF m 46 #[.val (.int p0), .val (.int p1), .unset, .unset, .unset, .unset] [(.ref b15), (.ref b15)]))
  refine Wp.via (fun _ k => XS.bipush X31.here hx rfl (hb hby at_46) k) ?_
  show Wp p e below _ (T31.setTop (mkF m 48 #[.val (.int p0), .val (.int p1), .unset, .unset, .unset, .unset] [(.int (8 : Int32)), (.ref b15), (.ref b15)]))
  refine Wp.via (fun _ k => X31.ldcInt hx hown (mvT hZ (hw _ (List.mem_of_getElem? (i := 4) rfl))) (g := (mkF m 48 #[.val (.int p0), .val (.int p1), .unset, .unset, .unset, .unset] [(.int (8 : Int32)), (.ref b15), (.ref b15)])) rfl (hb hby at_48) _ k) ?_
  show Wp p e below _ (T31.setTop (mkF m 50 #[.val (.int p0), .val (.int p1), .unset, .unset, .unset, .unset] [(.int (57344 : Int32)), (.int (8 : Int32)), (.ref b15), (.ref b15)]))
  obtain ⟨T33, h33, X33, e33, W33, V33, st33⟩ := avStI X31 hx hZ e31 V31 (i := 8) (by decide) rfl (by decide) (g := (mkF m 50 #[.val (.int p0), .val (.int p1), .unset, .unset, .unset, .unset] [(.int (57344 : Int32)), (.int (8 : Int32)), (.ref b15), (.ref b15)])) rfl rfl (hb hby at_50)
  have NF33 := Fr.snoc X33 NF31 gn_b15
  refine Wp.via st33 ?_
  have K33 := K31.wr W33 (Or.inr sz_b15)
  have zz34 : n0 ≤ h33.size := by rw [W33.size]; exact zz32
  show Wp p e below _ (T33.setTop (mkF m 51 #[.val (.int p0), .val (.int p1), .unset, .unset, .unset, .unset] [(.ref b15)]))
  refine Wp.via (fun _ k => XS.dup X33.here hx rfl (hb hby at_51) rfl rfl k) ?_
  show Wp p e below _ (T33.setTop (mkF m 52 #[.val (.int p0), .val (.int p1), .unset, .unset, .unset, .unset] [(.ref b15), (.ref b15)]))
  refine Wp.via (fun _ k => XS.bipush X33.here hx rfl (hb hby at_52) k) ?_
  show Wp p e below _ (T33.setTop (mkF m 54 #[.val (.int p0), .val (.int p1), .unset, .unset, .unset, .unset] [(.int (9 : Int32)), (.ref b15), (.ref b15)]))
  refine Wp.via (fun _ k => X33.ldcInt hx hown (mvT hZ (hw _ (List.mem_of_getElem? (i := 5) rfl))) (g := (mkF m 54 #[.val (.int p0), .val (.int p1), .unset, .unset, .unset, .unset] [(.int (9 : Int32)), (.ref b15), (.ref b15)])) rfl (hb hby at_54) _ k) ?_
  show Wp p e below _ (T33.setTop (mkF m 56 #[.val (.int p0), .val (.int p1), .unset, .unset, .unset, .unset] [(.int (65533 : Int32)), (.int (9 : Int32)), (.ref b15), (.ref b15)]))
  obtain ⟨T35, h35, X35, e35, W35, V35, st35⟩ := avStI X33 hx hZ e33 V33 (i := 9) (by decide) rfl (by decide) (g := (mkF m 56 #[.val (.int p0), .val (.int p1), .unset, .unset, .unset, .unset] [(.int (65533 : Int32)), (.int (9 : Int32)), (.ref b15), (.ref b15)])) rfl rfl (hb hby at_56)
  have NF35 := Fr.snoc X35 NF33 gn_b15
  refine Wp.via st35 ?_
  have K35 := K33.wr W35 (Or.inr sz_b15)
  have zz36 : n0 ≤ h35.size := by rw [W35.size]; exact zz34
  show Wp p e below _ (T35.setTop (mkF m 57 #[.val (.int p0), .val (.int p1), .unset, .unset, .unset, .unset] [(.ref b15)]))
  refine Wp.via (fun _ k => XS.dup X35.here hx rfl (hb hby at_57) rfl rfl k) ?_
  show Wp p e below _ (T35.setTop (mkF m 58 #[.val (.int p0), .val (.int p1), .unset, .unset, .unset, .unset] [(.ref b15), (.ref b15)]))
  refine Wp.via (fun _ k => XS.bipush X35.here hx rfl (hb hby at_58) k) ?_
  show Wp p e below _ (T35.setTop (mkF m 60 #[.val (.int p0), .val (.int p1), .unset, .unset, .unset, .unset] [(.int (10 : Int32)), (.ref b15), (.ref b15)]))
  refine Wp.via (fun _ k => X35.ldcInt hx hown (mvT hZ (hw _ (List.mem_of_getElem? (i := 6) rfl))) (g := (mkF m 60 #[.val (.int p0), .val (.int p1), .unset, .unset, .unset, .unset] [(.int (10 : Int32)), (.ref b15), (.ref b15)])) rfl (hb hby at_60) _ k) ?_
  show Wp p e below _ (T35.setTop (mkF m 62 #[.val (.int p0), .val (.int p1), .unset, .unset, .unset, .unset] [(.int (65534 : Int32)), (.int (10 : Int32)), (.ref b15), (.ref b15)]))
  obtain ⟨T37, h37, X37, e37, W37, V37, st37⟩ := avStI X35 hx hZ e35 V35 (i := 10) (by decide) rfl (by decide) (g := (mkF m 62 #[.val (.int p0), .val (.int p1), .unset, .unset, .unset, .unset] [(.int (65534 : Int32)), (.int (10 : Int32)), (.ref b15), (.ref b15)])) rfl rfl (hb hby at_62)
  have NF37 := Fr.snoc X37 NF35 gn_b15
  refine Wp.via st37 ?_
  have K37 := K35.wr W37 (Or.inr sz_b15)
  have zz38 : n0 ≤ h37.size := by rw [W37.size]; exact zz36
  show Wp p e below _ (T37.setTop (mkF m 63 #[.val (.int p0), .val (.int p1), .unset, .unset, .unset, .unset] [(.ref b15)]))
  refine Wp.via (fun _ k => XS.dup X37.here hx rfl (hb hby at_63) rfl rfl k) ?_
  show Wp p e below _ (T37.setTop (mkF m 64 #[.val (.int p0), .val (.int p1), .unset, .unset, .unset, .unset] [(.ref b15), (.ref b15)]))
  refine Wp.via (fun _ k => XS.bipush X37.here hx rfl (hb hby at_64) k) ?_
  show Wp p e below _ (T37.setTop (mkF m 66 #[.val (.int p0), .val (.int p1), .unset, .unset, .unset, .unset] [(.int (11 : Int32)), (.ref b15), (.ref b15)]))
  refine Wp.via (fun _ k => X37.ldcInt hx hown (mvT hZ (hw _ (List.mem_of_getElem? (i := 7) rfl))) (g := (mkF m 66 #[.val (.int p0), .val (.int p1), .unset, .unset, .unset, .unset] [(.int (11 : Int32)), (.ref b15), (.ref b15)])) rfl (hb hby at_66) _ k) ?_
  show Wp p e below _ (T37.setTop (mkF m 68 #[.val (.int p0), .val (.int p1), .unset, .unset, .unset, .unset] [(.int (65536 : Int32)), (.int (11 : Int32)), (.ref b15), (.ref b15)]))
  obtain ⟨T39, h39, X39, e39, W39, V39, st39⟩ := avStI X37 hx hZ e37 V37 (i := 11) (by decide) rfl (by decide) (g := (mkF m 68 #[.val (.int p0), .val (.int p1), .unset, .unset, .unset, .unset] [(.int (65536 : Int32)), (.int (11 : Int32)), (.ref b15), (.ref b15)])) rfl rfl (hb hby at_68)
  have NF39 := Fr.snoc X39 NF37 gn_b15
  refine Wp.via st39 ?_
  have K39 := K37.wr W39 (Or.inr sz_b15)
  have zz40 : n0 ≤ h39.size := by rw [W39.size]; exact zz38
  show Wp p e below _ (T39.setTop (mkF m 69 #[.val (.int p0), .val (.int p1), .unset, .unset, .unset, .unset] [(.ref b15)]))
  refine Wp.via (fun _ k => XS.dup X39.here hx rfl (hb hby at_69) rfl rfl k) ?_
  show Wp p e below _ (T39.setTop (mkF m 70 #[.val (.int p0), .val (.int p1), .unset, .unset, .unset, .unset] [(.ref b15), (.ref b15)]))
  refine Wp.via (fun _ k => XS.bipush X39.here hx rfl (hb hby at_70) k) ?_
  show Wp p e below _ (T39.setTop (mkF m 72 #[.val (.int p0), .val (.int p1), .unset, .unset, .unset, .unset] [(.int (12 : Int32)), (.ref b15), (.ref b15)]))
  refine Wp.via (fun _ k => X39.ldcInt hx hown (mvT hZ (hw _ (List.mem_of_getElem? (i := 8) rfl))) (g := (mkF m 72 #[.val (.int p0), .val (.int p1), .unset, .unset, .unset, .unset] [(.int (12 : Int32)), (.ref b15), (.ref b15)])) rfl (hb hby at_72) _ k) ?_
  show Wp p e below _ (T39.setTop (mkF m 74 #[.val (.int p0), .val (.int p1), .unset, .unset, .unset, .unset] [(.int (1114111 : Int32)), (.int (12 : Int32)), (.ref b15), (.ref b15)]))
  obtain ⟨T41, h41, X41, e41, W41, V41, st41⟩ := avStI X39 hx hZ e39 V39 (i := 12) (by decide) rfl (by decide) (g := (mkF m 74 #[.val (.int p0), .val (.int p1), .unset, .unset, .unset, .unset] [(.int (1114111 : Int32)), (.int (12 : Int32)), (.ref b15), (.ref b15)])) rfl rfl (hb hby at_74)
  have NF41 := Fr.snoc X41 NF39 gn_b15
  refine Wp.via st41 ?_
  have K41 := K39.wr W41 (Or.inr sz_b15)
  have zz42 : n0 ≤ h41.size := by rw [W41.size]; exact zz40
  show Wp p e below _ (T41.setTop (mkF m 75 #[.val (.int p0), .val (.int p1), .unset, .unset, .unset, .unset] [(.ref b15)]))
  refine Wp.via (fun _ k => XS.dup X41.here hx rfl (hb hby at_75) rfl rfl k) ?_
  show Wp p e below _ (T41.setTop (mkF m 76 #[.val (.int p0), .val (.int p1), .unset, .unset, .unset, .unset] [(.ref b15), (.ref b15)]))
  refine Wp.via (fun _ k => XS.bipush X41.here hx rfl (hb hby at_76) k) ?_
  show Wp p e below _ (T41.setTop (mkF m 78 #[.val (.int p0), .val (.int p1), .unset, .unset, .unset, .unset] [(.int (13 : Int32)), (.ref b15), (.ref b15)]))
  refine Wp.via (fun _ k => X41.ldcInt hx hown (mvT hZ (hw _ (List.mem_of_getElem? (i := 9) rfl))) (g := (mkF m 78 #[.val (.int p0), .val (.int p1), .unset, .unset, .unset, .unset] [(.int (13 : Int32)), (.ref b15), (.ref b15)])) rfl (hb hby at_78) _ k) ?_
  show Wp p e below _ (T41.setTop (mkF m 80 #[.val (.int p0), .val (.int p1), .unset, .unset, .unset, .unset] [(.int (1114112 : Int32)), (.int (13 : Int32)), (.ref b15), (.ref b15)]))
  obtain ⟨T43, h43, X43, e43, W43, V43, st43⟩ := avStI X41 hx hZ e41 V41 (i := 13) (by decide) rfl (by decide) (g := (mkF m 80 #[.val (.int p0), .val (.int p1), .unset, .unset, .unset, .unset] [(.int (1114112 : Int32)), (.int (13 : Int32)), (.ref b15), (.ref b15)])) rfl rfl (hb hby at_80)
  have NF43 := Fr.snoc X43 NF41 gn_b15
  refine Wp.via st43 ?_
  have K43 := K41.wr W43 (Or.inr sz_b15)
  have zz44 : n0 ≤ h43.size := by rw [W43.size]; exact zz42
  show Wp p e below _ (T43.setTop (mkF m 81 #[.val (.int p0), .val (.int p1), .unset, .unset, .unset, .unset] [(.ref b15)]))
  refine Wp.via (fun _ k => XS.dup X43.here hx rfl (hb hby at_81) rfl rfl k) ?_
  show Wp p e below _ (T43.setTop (mkF m 82 #[.val (.int p0), .val (.int p1), .unset, .unset, .unset, .unset] [(.ref b15), (.ref b15)]))
  refine Wp.via (fun _ k => XS.bipush X43.here hx rfl (hb hby at_82) k) ?_
  show Wp p e below _ (T43.setTop (mkF m 84 #[.val (.int p0), .val (.int p1), .unset, .unset, .unset, .unset] [(.int (14 : Int32)), (.ref b15), (.ref b15)]))
  refine Wp.via (fun _ k => X43.ldcInt hx hown (mvT hZ (hw _ (List.mem_of_getElem? (i := 10) rfl))) (g := (mkF m 84 #[.val (.int p0), .val (.int p1), .unset, .unset, .unset, .unset] [(.int (14 : Int32)), (.ref b15), (.ref b15)])) rfl (hb hby at_84) _ k) ?_
  show Wp p e below _ (T43.setTop (mkF m 86 #[.val (.int p0), .val (.int p1), .unset, .unset, .unset, .unset] [(.int (-2147483648 : Int32)), (.int (14 : Int32)), (.ref b15), (.ref b15)]))
  obtain ⟨T45, h45, X45, e45, W45, V45, st45⟩ := avStI X43 hx hZ e43 V43 (i := 14) (by decide) rfl (by decide) (g := (mkF m 86 #[.val (.int p0), .val (.int p1), .unset, .unset, .unset, .unset] [(.int (-2147483648 : Int32)), (.int (14 : Int32)), (.ref b15), (.ref b15)])) rfl rfl (hb hby at_86)
  have NF45 := Fr.snoc X45 NF43 gn_b15
  refine Wp.via st45 ?_
  have K45 := K43.wr W45 (Or.inr sz_b15)
  have zz46 : n0 ≤ h45.size := by rw [W45.size]; exact zz44
  show Wp p e below _ (T45.setTop (mkF m 87 #[.val (.int p0), .val (.int p1), .unset, .unset, .unset, .unset] [(.ref b15)]))
  refine Wp.via (fun _ k => XS.dup X45.here hx rfl (hb hby at_87) rfl rfl k) ?_
  show Wp p e below _ (T45.setTop (mkF m 88 #[.val (.int p0), .val (.int p1), .unset, .unset, .unset, .unset] [(.ref b15), (.ref b15)]))
  refine Wp.via (fun _ k => XS.bipush X45.here hx rfl (hb hby at_88) k) ?_
  show Wp p e below _ (T45.setTop (mkF m 90 #[.val (.int p0), .val (.int p1), .unset, .unset, .unset, .unset] [(.int (15 : Int32)), (.ref b15), (.ref b15)]))
  refine Wp.via (fun _ k => X45.ldcInt hx hown (mvT hZ (hw _ (List.mem_of_getElem? (i := 11) rfl))) (g := (mkF m 90 #[.val (.int p0), .val (.int p1), .unset, .unset, .unset, .unset] [(.int (15 : Int32)), (.ref b15), (.ref b15)])) rfl (hb hby at_90) _ k) ?_
  show Wp p e below _ (T45.setTop (mkF m 92 #[.val (.int p0), .val (.int p1), .unset, .unset, .unset, .unset] [(.int (2147483647 : Int32)), (.int (15 : Int32)), (.ref b15), (.ref b15)]))
  obtain ⟨T47, h47, X47, e47, W47, V47, st47⟩ := avStI X45 hx hZ e45 V45 (i := 15) (by decide) rfl (by decide) (g := (mkF m 92 #[.val (.int p0), .val (.int p1), .unset, .unset, .unset, .unset] [(.int (2147483647 : Int32)), (.int (15 : Int32)), (.ref b15), (.ref b15)])) rfl rfl (hb hby at_92)
  have NF47 := Fr.snoc X47 NF45 gn_b15
  refine Wp.via st47 ?_
  have K47 := K45.wr W47 (Or.inr sz_b15)
  have zz48 : n0 ≤ h47.size := by rw [W47.size]; exact zz46
  show Wp p e below _ (T47.setTop (mkF m 93 #[.val (.int p0), .val (.int p1), .unset, .unset, .unset, .unset] [(.ref b15)]))
  refine Wp.via (fun _ k => XS.astoreN X47.here hx rfl (hb hby at_93) rfl rfl (l' := #[.val (.int p0), .val (.int p1), .val (.ref b15), .unset, .unset, .unset]) rfl k) ?_
  show Wp p e below _ (T47.setTop (mkF m 94 #[.val (.int p0), .val (.int p1), .val (.ref b15), .unset, .unset, .unset] []))
  refine Wp.via (fun _ k => XS.aloadN X47.here hx rfl (hb hby at_94) rfl rfl k) ?_
  show Wp p e below _ (T47.setTop (mkF m 95 #[.val (.int p0), .val (.int p1), .val (.ref b15), .unset, .unset, .unset] [(.ref b15)]))
  refine Wp.via (fun _ k => XS.iloadN X47.here hx rfl (hb hby at_95) rfl k) ?_
  show Wp p e below _ (T47.setTop (mkF m 96 #[.val (.int p0), .val (.int p1), .val (.ref b15), .unset, .unset, .unset] [(.int p1), (.ref b15)]))
  refine Wp.via (fun _ k => XS.bipush X47.here hx rfl (hb hby at_96) k) ?_
  show Wp p e below _ (T47.setTop (mkF m 98 #[.val (.int p0), .val (.int p1), .val (.ref b15), .unset, .unset, .unset] [(.int (15 : Int32)), (.int p1), (.ref b15)]))
  refine Wp.via (fun _ k => XS.iand X47.here hx rfl (hb hby at_98) rfl k) ?_
  show Wp p e below _ (T47.setTop (mkF m 99 #[.val (.int p0), .val (.int p1), .val (.ref b15), .unset, .unset, .unset] [(.int (p1 &&& (15 : Int32))), (.ref b15)]))
  have m1 : (p1 &&& (15 : Int32)).toInt = p1.toInt % (2 ^ 4 : Nat) := c_mask p1 _ 4 (by decide) (by decide)
  have m2 : ¬ (p1 &&& (15 : Int32)) < 0 := by rw [Int32.lt_iff_toInt_lt, m1]; show ¬ (p1.toInt % (2 ^ 4 : Nat) < 0); omega
  have m3 : (p1 &&& (15 : Int32)).toNatClampNeg < 16 := by simp only [Int32.toNatClampNeg, m1]; omega
  obtain ⟨ev, hev⟩ : ∃ z, (fun k => if k = 15 then (.int (2147483647 : Int32)) else (fun k => if k = 14 then (.int (-2147483648 : Int32)) else (fun k => if k = 13 then (.int (1114112 : Int32)) else (fun k => if k = 12 then (.int (1114111 : Int32)) else (fun k => if k = 11 then (.int (65536 : Int32)) else (fun k => if k = 10 then (.int (65534 : Int32)) else (fun k => if k = 9 then (.int (65533 : Int32)) else (fun k => if k = 8 then (.int (57344 : Int32)) else (fun k => if k = 7 then (.int (57343 : Int32)) else (fun k => if k = 6 then (.int (55296 : Int32)) else (fun k => if k = 5 then (.int (55295 : Int32)) else (fun k => if k = 4 then (.int (32 : Int32)) else (fun k => if k = 3 then (.int (13 : Int32)) else (fun k => if k = 2 then (.int (10 : Int32)) else (fun k => if k = 1 then (.int (9 : Int32)) else (fun k => if k = 0 then (.int (0 : Int32)) else (fun _ => (.int (0 : Int32))) k) k) k) k) k) k) k) k) k) k) k) k) k) k) k) k) (p1 &&& (15 : Int32)).toNatClampNeg = Value.int z := own_up (own_up (own_up (own_up (own_up (own_up (own_up (own_up (own_up (own_up (own_up (own_up (own_up (own_up (own_up (own_up ((fun _ => ⟨_, rfl⟩))))))))))))))))) _
  refine Wp.via (fun _ k => avLdI X47 hx hZ e47 V47 (i := _) m2 rfl m3 (w := (.int ev)) hev (g := (mkF m 99 #[.val (.int p0), .val (.int p1), .val (.ref b15), .unset, .unset, .unset] [(.int (p1 &&& (15 : Int32))), (.ref b15)])) rfl rfl (hb hby at_99) _ k) ?_
  show Wp p e below _ (T47.setTop (mkF m 100 #[.val (.int p0), .val (.int p1), .val (.ref b15), .unset, .unset, .unset] [(.int ev)]))
  refine Wp.via (fun _ k => XS.iloadN X47.here hx rfl (hb hby at_100) rfl k) ?_
  show Wp p e below _ (T47.setTop (mkF m 101 #[.val (.int p0), .val (.int p1), .val (.ref b15), .unset, .unset, .unset] [(.int p1), (.int ev)]))
  refine Wp.via (fun _ k => XS.iconst X47.here hx rfl (hb hby at_101) k) ?_
  show Wp p e below _ (T47.setTop (mkF m 102 #[.val (.int p0), .val (.int p1), .val (.ref b15), .unset, .unset, .unset] [(.int (4 : Int32)), (.int p1), (.int ev)]))
  refine Wp.via (fun _ k => XS.iushr X47.here hx rfl (hb hby at_102) rfl k) ?_
  show Wp p e below _ (T47.setTop (mkF m 103 #[.val (.int p0), .val (.int p1), .val (.ref b15), .unset, .unset, .unset] [(.int ((p1.toUInt32 >>> ((4 : Int32) &&& 31).toUInt32).toInt32)), (.int ev)]))
  refine Wp.via (fun _ k => XS.iconst X47.here hx rfl (hb hby at_103) k) ?_
  show Wp p e below _ (T47.setTop (mkF m 104 #[.val (.int p0), .val (.int p1), .val (.ref b15), .unset, .unset, .unset] [(.int (3 : Int32)), (.int ((p1.toUInt32 >>> ((4 : Int32) &&& 31).toUInt32).toInt32)), (.int ev)]))
  refine Wp.via (fun _ k => iremM X47 hx rfl (hb hby at_104) rfl (by decide) k) ?_
  show Wp p e below _ (T47.setTop (mkF m 105 #[.val (.int p0), .val (.int p1), .val (.ref b15), .unset, .unset, .unset] [(.int (((p1.toUInt32 >>> ((4 : Int32) &&& 31).toUInt32).toInt32) % (3 : Int32))), (.int ev)]))
  refine Wp.via (fun _ k => XS.iadd X47.here hx rfl (hb hby at_105) rfl k) ?_
  show Wp p e below _ (T47.setTop (mkF m 106 #[.val (.int p0), .val (.int p1), .val (.ref b15), .unset, .unset, .unset] [(.int (ev + (((p1.toUInt32 >>> ((4 : Int32) &&& 31).toUInt32).toInt32) % (3 : Int32))))]))
  refine Wp.via (fun _ k => XS.iconst X47.here hx rfl (hb hby at_106) k) ?_
  show Wp p e below _ (T47.setTop (mkF m 107 #[.val (.int p0), .val (.int p1), .val (.ref b15), .unset, .unset, .unset] [(.int (1 : Int32)), (.int (ev + (((p1.toUInt32 >>> ((4 : Int32) &&& 31).toUInt32).toInt32) % (3 : Int32))))]))
  refine Wp.via (fun _ k => XS.isub X47.here hx rfl (hb hby at_107) rfl k) ?_
  show Wp p e below _ (T47.setTop (mkF m 108 #[.val (.int p0), .val (.int p1), .val (.ref b15), .unset, .unset, .unset] [(.int ((ev + (((p1.toUInt32 >>> ((4 : Int32) &&& 31).toUInt32).toInt32) % (3 : Int32))) - (1 : Int32)))]))
  refine Wp.via (fun _ k => XS.istoreN X47.here hx rfl (hb hby at_108) rfl (l' := #[.val (.int p0), .val (.int p1), .val (.ref b15), .val (.int ((ev + (((p1.toUInt32 >>> ((4 : Int32) &&& 31).toUInt32).toInt32) % (3 : Int32))) - (1 : Int32))), .unset, .unset]) rfl k) ?_
  show Wp p e below _ (T47.setTop (mkF m 109 #[.val (.int p0), .val (.int p1), .val (.ref b15), .val (.int ((ev + (((p1.toUInt32 >>> ((4 : Int32) &&& 31).toUInt32).toInt32) % (3 : Int32))) - (1 : Int32))), .unset, .unset] []))
  exact J109 T47 _ _ _ _ X47 e47 zz48 NF47 (by decide) (by decide) _ _
set_option maxRecDepth 65536 in
set_option maxHeartbeats 40000000 in
theorem comes_1 {Post : Tables → Env → Array Value → State → Outcome → State → Prop} (hpost : ∀ tb e args s v u, (limb_1_1.after args s (.returned v) u = true ∧ limb_1_2.after args s (.returned v) u = true ∧ True) → FrameEnd s (.returned v) u (Jvm.fieldLocs frame_1_writes args s ++ Jvm.arrayLocs frame_1_arrays args s ++ Jvm.staticLocs frame_1_statics s) 16 128 → Post tb e args s (.returned v) u) :
    ArmFor flags0 classFile x code maxLocals ret World_1 tables_1 room_1 Calls_1 rest_1 Pre_1 Post := by
  intro l hfl _ _ p e ha hc hk s m args below hf hA hF happ hP
  obtain ⟨hcalls, hrest, hpre⟩ := hP
  obtain ⟨-, -, -, hnamed, -, -, -, hat⟩ := (Spec.applies_iff hf).mp happ
  obtain ⟨hg, hn⟩ := and_e (Cond.before_iff.mp (show (Jvm.Cond.and given_1 narrow_1).before args s = true from hpre))
  obtain ⟨g1, g2⟩ := and_e hg
  obtain ⟨g3, g4⟩ := and_e g2
  obtain ⟨w0, w1, rfl⟩ : ∃ w0 w1 : Value, args = #[w0, w1] := by
    have hs : args.size = 2 := by simpa [Cond.value, given_1] using g1
    obtain ⟨L⟩ := args
    match L, hs with
    | [w0, w1], _ => exact ⟨w0, w1, rfl⟩
  have hw := fun d (hd : d ∈ tables_1) => atoms_spec (ws := Jvm.Cond.code x code maxLocals ret :: tables_1) hat d (List.mem_cons_of_mem _ hd)
  obtain ⟨i0, ei0⟩ := is_v g3
  obtain rfl : w0 = (.int i0) := Option.some.inj ei0
  obtain ⟨i1, ei1⟩ := is_v g4
  obtain rfl : w1 = (.int i1) := Option.some.inj ei1
  obtain ⟨n, o, h1, h2, h3, _, L, rfl, ⟨rfl, N⟩, hq⟩ := rm0 l s _ hw tables_1 i0 i1 s.heap s.heap.size (Nat.le_refl _)  p e ha hc hk s m _ below hf ((Spec.applies_iff_loose hf).mp happ).1 ⟨rfl, State.Warmed39.refl s, rfl⟩ trivial
  refine ⟨n, _, h1, h2, h3, hpost _ _ _ _ _ _ ⟨Cond.after_iff.mpr rfl, Cond.after_iff.mpr (eq_i res_at (Term.int_eval (1)) rfl), trivial⟩ ⟨hq.1, hq.2.1, (hq.2.2.sift fun y hy => Or.inr (N y hy)).mono (by decide) (by decide)⟩⟩
theorem main_1_1 : Claimed_1_1 := comes_1 fun _ _ _ _ _ _ h hF => ⟨h.1, hF⟩
theorem main_1_2 : Claimed_1_2 := comes_1 fun _ _ _ _ _ _ h hF => ⟨h.2.1, hF⟩
end Jvm.Pilot.@@N@@
namespace Jvm.Pilot.@@N@@
open Jvm Jvm.ClassFile Sem Op Lib Jvm.Free Jvm.Stand Jvm.Pilot.@@N@@.Jvm.D
/-! MADE BY PROGRAM (witnessworld.py) out of the Statement's table words and the real class files: 9 classes; the members and pool entries that the words name. The judged class is class 1, her method 2. -/
namespace start1
open Jvm.ClassFile
def u (s : String) : CpInfo := .utf8 (stringToUtf16 s)
/-- a pool by its gaps: so many unusable entries, then the entry; so many at the end -/
def gap : Nat → List CpInfo → List CpInfo
  | 0, r => r
  | n + 1, r => .unusable :: gap n r
def poolList (es : List (Nat × CpInfo)) (last : Nat) : List CpInfo := es.foldr (fun e r => gap e.1 (e.2 :: r)) (gap last [])
def pool (es : List (Nat × CpInfo)) (last : Nat) : Array CpInfo := ⟨poolList es last⟩
def fileOf (pool : Array CpInfo) (this : Nat) (attrs : Array Attribute := #[]) (ms : Array MethodInfo := #[]) (fl : Nat := 33) (sup : Nat := 0) (ifs : Array Nat := #[]) (fds : Array FieldInfo := #[]) : ClassFile where
  minorVersion := 0
  majorVersion := 65
  constantPool := pool
  accessFlags := fl
  thisClass := this
  superClass := sup
  interfaces := ifs
  fields := fds
  methods := ms
  attributes := attrs
def plain (name : String) (sup : Option ClassId) : Class where
  name := name
  kind := .ordinary
  loader := none
  accessFlags := 33
  super := sup
  interfaces := #[]
  cf := none
  fields := #[]
  methods := #[]
  instanceTypes := #[]
  staticTypes := #[]
  resolved := #[]
  callSites := []
  init := .initialized
  statics := none
  mirror := none

def pool0 : Array CpInfo := pool [(5, u "<init>"), (0, u "()V"), (1, .class_ 10), (1, u "java/lang/Object")] 113

def k0m0 : Method := { name := "<init>", desc := "()V", sig := { parameters := [], returnType := none }, accessFlags := 1, code := none }
/-- java/lang/Object -/
def k0 : Class := { plain "java/lang/Object" none with
  accessFlags := 33
  interfaces := #[]
  cf := some (fileOf pool0 8 #[] #[{ accessFlags := 1, nameIndex := 5, descriptorIndex := 6, attributes := #[] }] 33 0 #[] #[])
  fields := #[]
  methods := #[k0m0]
  instanceTypes := #[]
  staticTypes := #[]
  resolved := Array.replicate 124 none
  statics := none }

def pool1 : Array CpInfo := pool [(2, .class_ 4), (1, u "java/lang/Object"), (0, u "<init>"), (0, u "()V"), (0, .integer 1114111), (0, .integer 55296), (0, .integer 57343), (0, .integer 65534), (0, .integer 65535), (0, .integer 55295), (0, .integer 57344), (0, .integer 65533), (0, .integer 65536), (0, .integer 1114112), (2, .integer 2147483648), (0, .integer 2147483647), (0, .methodref 22 23), (0, .class_ 24), (0, .nameAndType 25 26), (0, u "com/example/antipolis/antipolis/value/XmlChars"), (0, u "isChar"), (0, u "(I)Z"), (0, .methodref 28 29), (0, .class_ 30), (0, .nameAndType 31 26), (0, u "com/example/antipolis/antipolis/value/XmlCharsIsCharPinLaw"), (0, u "forbidden"), (3, u "law"), (0, u "(II)Z")] 4

def k1m0 : Method := { name := "<init>", desc := "()V", sig := { parameters := [], returnType := none }, accessFlags := 2, code := none }
def k1c1 : Code := { maxStack := 2, maxLocals := 1, code := method_2_code, exceptionTable := #[], attributes := #[] }
def k1m1 : Method := { name := "forbidden", desc := "(I)Z", sig := { parameters := [.int], returnType := some .boolean }, accessFlags := 10, code := some k1c1 }
def k1c2 : Code := { maxStack := 4, maxLocals := 6, code := code, exceptionTable := #[], attributes := #[] }
def k1m2 : Method := { name := "law", desc := "(II)Z", sig := { parameters := [.int, .int], returnType := some .boolean }, accessFlags := 9, code := some k1c2 }
/-- com/example/antipolis/antipolis/value/XmlCharsIsCharPinLaw -/
def k1 : Class := { plain "com/example/antipolis/antipolis/value/XmlCharsIsCharPinLaw" (some 0) with
  accessFlags := 49
  interfaces := #[]
  cf := some (fileOf pool1 28 #[] #[{ accessFlags := 2, nameIndex := 5, descriptorIndex := 6, attributes := #[] }, { accessFlags := 10, nameIndex := 31, descriptorIndex := 26, attributes := #[] }, { accessFlags := 9, nameIndex := 35, descriptorIndex := 36, attributes := #[] }] 49 2 #[] #[])
  fields := #[]
  methods := #[k1m0, k1m1, k1m2]
  instanceTypes := #[]
  staticTypes := #[]
  resolved := Array.replicate 41 none
  statics := none }

def pool2 : Array CpInfo := pool [(2, .class_ 4), (1, u "java/lang/Object"), (0, u "<init>"), (0, u "()V"), (0, .integer 55295), (0, .integer 57344), (0, .integer 65533), (0, .integer 65536), (0, .integer 1114111), (11, .class_ 25), (1, u "com/example/antipolis/antipolis/value/XmlChars"), (1, u "(I)Z"), (48, u "isChar")] 26

def k2m0 : Method := { name := "<init>", desc := "()V", sig := { parameters := [], returnType := none }, accessFlags := 2, code := none }
def k2c1 : Code := { maxStack := 2, maxLocals := 1, code := prog_60_method_3_code, exceptionTable := #[], attributes := #[] }
def k2m1 : Method := { name := "isChar", desc := "(I)Z", sig := { parameters := [.int], returnType := some .boolean }, accessFlags := 9, code := some k2c1 }
/-- com/example/antipolis/antipolis/value/XmlChars -/
def k2 : Class := { plain "com/example/antipolis/antipolis/value/XmlChars" (some 0) with
  accessFlags := 49
  interfaces := #[]
  cf := some (fileOf pool2 23 #[] #[{ accessFlags := 2, nameIndex := 5, descriptorIndex := 6, attributes := #[] }, { accessFlags := 9, nameIndex := 76, descriptorIndex := 27, attributes := #[] }] 49 2 #[] #[])
  fields := #[]
  methods := #[k2m0, k2m1]
  instanceTypes := #[]
  staticTypes := #[]
  resolved := Array.replicate 103 none
  statics := none }

def pool3 : Array CpInfo := pool [(1, u "java/lang/Cloneable"), (0, .class_ 1), (0, u "java/lang/Object"), (0, .class_ 3)] 3

/-- java/lang/Cloneable -/
def k3 : Class := { plain "java/lang/Cloneable" (some 0) with
  accessFlags := 1537
  interfaces := #[]
  cf := some (fileOf pool3 2 #[] #[] 1537 4 #[] #[])
  fields := #[]
  methods := #[]
  instanceTypes := #[]
  staticTypes := #[]
  resolved := Array.replicate 8 none
  statics := none }

def pool4 : Array CpInfo := pool [(1, u "java/io/Serializable"), (0, .class_ 1), (0, u "java/lang/Object"), (0, .class_ 3)] 3

/-- java/io/Serializable -/
def k4 : Class := { plain "java/io/Serializable" (some 0) with
  accessFlags := 1537
  interfaces := #[]
  cf := some (fileOf pool4 2 #[] #[] 1537 4 #[] #[])
  fields := #[]
  methods := #[]
  instanceTypes := #[]
  staticTypes := #[]
  resolved := Array.replicate 8 none
  statics := none }

/-- the primitive byte -/
def k5 : Class := { plain "byte" none with kind := .primitive 'B', accessFlags := 0x411 }
/-- [B -/
def k6 : Class := { plain "[B" (some 0) with kind := .array 5 .byte, interfaces := #[3, 4], accessFlags := 1041 }

/-- the primitive int -/
def k7 : Class := { plain "int" none with kind := .primitive 'I', accessFlags := 0x411 }
/-- [I -/
def k8 : Class := { plain "[I" (some 0) with kind := .array 7 .int, interfaces := #[3, 4], accessFlags := 1041 }

def heap : Heap := #[]
def classes : Array Class := #[k0, k1, k2, k3, k4, k5, k6, k7, k8]
def interned : List (Array UInt16 × Addr) := []
def slotsUsed : Nat := 0
def theMethod : MethodId := ⟨1, 2⟩
def args0 : Array Value := #[.int 5, .int 1]
def aboutOver (below : List Frame) : State where
  vm := { classes := classes, interned := interned.toArray }
  heap := heap
  slotsUsed := slotsUsed
  threads := #[{ frames := .invoking theMethod args0 :: below }]
def below0 : List Frame := [.native { method := ⟨0, 0⟩, args := #[] }]
def about1 : State := aboutOver below0
def p0 : Program := .bare "" "" ""
def e0 : Env := launch0.env 0 0 0
theorem w_frames : about1.frames = Frame.invoking theMethod args0 :: below0 := rfl
set_option maxRecDepth 65536 in
theorem w_args : argsFit about1.vm theMethod args0 = true := by decide +kernel
set_option maxRecDepth 65536 in
theorem w_heap : heapFits about1 = true := by decide +kernel
set_option maxRecDepth 65536 in
theorem w_runnable : about1.curStatus? = some .runnable := by decide +kernel
set_option maxRecDepth 65536 in
theorem w_alone : about1.alone = true := by decide +kernel
set_option maxRecDepth 65536 in
theorem w_named : about1.methodNamed? x = some theMethod := by decide +kernel
set_option maxRecDepth 65536 in
theorem w_hears : about1.hears theMethod below0 = true := by decide +kernel
set_option maxRecDepth 65536 in
theorem w_ripe : about1.ripe theMethod args0 below0 = true := by decide +kernel
theorem w_running : about1.status = .running := rfl
set_option maxRecDepth 65536 in
theorem w_room : about1.hasRoom e0.platform room_1 = true :=
  launch0.hasRoom_least _ room_1 (by decide +kernel) (by decide +kernel) (by decide +kernel) (by decide +kernel) (by decide +kernel) (by decide +kernel)
theorem allAtoms_all (ts : List Jvm.Cond) (a : Array Jvm.Value) (st : Jvm.State) : (allAtoms ts).before a st = ts.all (fun c => c.before a st) := by
  induction ts with
  | nil => rfl
  | cons c t ih =>
    show (Jvm.Cond.and c (allAtoms t)).before a st = _
    rw [Jvm.Cond.before_and, ih, List.all_cons]
def words1 : List Jvm.Cond := Jvm.Cond.code x code maxLocals ret :: tables_1
/-- a 'code' word, met by the world's own term for the bytes: nothing is compared byte by byte -/
theorem code_word {y : MethodName} {bytes : ByteArray} {mx : Nat} {rt : Option FieldType} {a : Array Value} {s : State} {m : MethodId} {meth : Method} {c : Code} (h1 : s.methodNamed? y = some m) (h2 : s.vm.method? m = some meth) (h3 : meth.code = some c) (h4 : c.code = bytes)
    (h5 : (c.maxLocals == mx && c.exceptionTable.isEmpty && decide (c.maxStack ≤ mostOperands) && decide (meth.sig.returnType = rt) && !meth.locks && decide (parseMethodDescriptor y.desc = some meth.sig)) = true) : (Jvm.Cond.code y bytes mx rt).before a s = true := by
  simp only [Bool.and_eq_true, beq_iff_eq, Bool.not_eq_true', decide_eq_true_eq] at h5
  obtain ⟨⟨⟨⟨⟨g1, g2⟩, g3⟩, g4⟩, g5⟩, g6⟩ := h5
  simp [Cond.before, Cond.holds, Cond.value, h1, h2, h3, h4, g1, g2, g3, g4, g5, g6]
def isCode : Jvm.Cond → Bool
  | .code _ _ _ _ => true
  | _ => false
theorem all_split {L : List Jvm.Cond} {P : Jvm.Cond → Bool} (h1 : L.all (fun c => isCode c || P c) = true) (h2 : ∀ c ∈ L.filter isCode, P c = true) : L.all P = true := by
  refine List.all_eq_true.mpr fun c hc => ?_
  have h := List.all_eq_true.mp h1 c hc
  rcases Bool.eq_false_or_eq_true (isCode c) with hi | hi
  · exact h2 c (List.mem_filter.mpr ⟨hc, hi⟩)
  · simpa [hi] using h
set_option maxRecDepth 65536 in
theorem w_c0 : (Jvm.Cond.code x code maxLocals ret).before args0 about1 = true := code_word (m := ⟨1, 2⟩) (meth := k1m2) (c := k1c2) (by decide +kernel) rfl rfl rfl (by decide +kernel)
set_option maxRecDepth 65536 in
theorem w_c1 : (Jvm.Cond.code ({ cls := "com/example/antipolis/antipolis/value/XmlChars", name := "isChar", desc := "(I)Z" } : Jvm.MethodName) prog_60_method_3_code (1 : Nat) (Option.some Jvm.ClassFile.FieldType.boolean)).before args0 about1 = true := code_word (m := ⟨2, 1⟩) (meth := k2m1) (c := k2c1) (by decide +kernel) rfl rfl rfl (by decide +kernel)
set_option maxRecDepth 65536 in
theorem w_c2 : (Jvm.Cond.code ({ cls := "com/example/antipolis/antipolis/value/XmlCharsIsCharPinLaw", name := "forbidden", desc := "(I)Z" } : Jvm.MethodName) method_2_code (1 : Nat) (Option.some Jvm.ClassFile.FieldType.boolean)).before args0 about1 = true := code_word (m := ⟨1, 1⟩) (meth := k1m1) (c := k1c1) (by decide +kernel) rfl rfl rfl (by decide +kernel)
def codes1 : List Jvm.Cond := [Jvm.Cond.code x code maxLocals ret, Jvm.Cond.code ({ cls := "com/example/antipolis/antipolis/value/XmlChars", name := "isChar", desc := "(I)Z" } : Jvm.MethodName) prog_60_method_3_code (1 : Nat) (Option.some Jvm.ClassFile.FieldType.boolean), Jvm.Cond.code ({ cls := "com/example/antipolis/antipolis/value/XmlCharsIsCharPinLaw", name := "forbidden", desc := "(I)Z" } : Jvm.MethodName) method_2_code (1 : Nat) (Option.some Jvm.ClassFile.FieldType.boolean)]
set_option maxRecDepth 65536 in
theorem codes_eq : words1.filter isCode = codes1 := rfl
theorem w_codes : ∀ c ∈ words1.filter isCode, c.before args0 about1 = true := by
  rw [codes_eq]
  intro c hc
  simp only [codes1, List.mem_cons, List.not_mem_nil, or_false] at hc
  rcases hc with rfl | rfl | rfl
  · exact w_c0
  · exact w_c1
  · exact w_c2
set_option maxRecDepth 65536 in
theorem w_t1 : (words1.take 24).all (fun c => isCode c || c.before args0 about1) = true := by decide +kernel
set_option maxRecDepth 65536 in
theorem w_t2 : (words1.drop 24).all (fun c => isCode c || c.before args0 about1) = true := by decide +kernel
theorem w_tables : (allAtoms (Jvm.Cond.code x code maxLocals ret :: tables_1)).before args0 about1 = true := by
  rw [allAtoms_all]
  show words1.all (fun c => c.before args0 about1) = true
  refine all_split ?_ w_codes
  rw [← List.take_append_drop 24 words1, List.all_append, w_t1, w_t2]
  rfl
set_option maxRecDepth 65536 in
theorem w_case : (Jvm.Cond.and given_1 narrow_1).before args0 about1 = true := by decide +kernel
theorem w_applies : (headSpec (Jvm.Cond.code x code maxLocals ret :: tables_1) room_1).applies x e0.platform about1 = true :=
  (Spec.applies_iff w_frames).mpr ⟨w_running, w_runnable, w_alone, w_named, w_hears, w_ripe, w_room, w_tables⟩
theorem atStart : AtStart classFile x code maxLocals ret World_1 tables_1 room_1 Calls_1 rest_1 Pre_1 launch0 p0 e0 about1 theMethod args0 below0 :=
  ⟨lists_1, trivial, launch0.admits_env _ _ _, launch0.least_env, fairChoices_fair.cas, fairChoices_fair.clock, w_frames, w_args, w_heap, w_applies, trivial, trivial, w_case⟩
end start1
theorem witness_1 : WitnessClaimed_1 := ⟨start1.p0, start1.e0, start1.about1, start1.theMethod, start1.args0, start1.below0, start1.atStart⟩
end Jvm.Pilot.@@N@@
