import JvmDerived
import JvmDerived.Pilot.@@N@@Statement
import JvmDerived.Pilot.@@N@@Code
set_option linter.unusedVariables false
set_option linter.unusedSimpArgs false
namespace Jvm.Pilot.@@N@@
open Jvm Jvm.ClassFile Sem Op Lib Jvm.Free Jvm.Stand Jvm.LawKit Jvm.RoadKit Bundle Jvm.Pilot.@@N@@.Jvm.D
/-! own kit: the rest of a walk as one predicate of the state where it stands -/
section OwnKit
variable {p : Program} {l : Launch} {e : Env} {R : Room} {s : State} {m : MethodId} {args : Array Value} {below : List Frame} {meth : Method} {c : Code} {T : State} {locs : List Loc} {cells slots : Nat}
def Wp (p : Program) (e : Env) (below : List Frame) (G : Outcome → State → Prop) (U : State) : Prop := ∃ s₂ o, Steps p.tables e below U s₂ ∧ s₂.status = .running ∧ Ended s₂ below o ∧ G o s₂
theorem Wp.via {G : Outcome → State → Prop} {A B : State} (k : ∀ t, Steps p.tables e below A t → Steps p.tables e below B t) (h : Wp p e below G A) : Wp p e below G B := by
  obtain ⟨s₂, o, h1, h2⟩ := h; exact ⟨s₂, o, k _ h1, h2⟩
theorem Wp.step {G : Outcome → State → Prop} {A B : State} (k : Steps p.tables e below B A) (h : Wp p e below G A) : Wp p e below G B := by
  obtain ⟨s₂, o, h1, h2⟩ := h; exact ⟨s₂, o, k.trans h1, h2⟩
def Gd (s : State) (Q : Option Value → Heap → List Loc → Prop) (C S : Nat) (o : Outcome) (t : State) : Prop := ∃ v L, o = .returned v ∧ Q v t.heap L ∧ FrameEnd s o t L C S
theorem Wp.ret (X : Stand p l e R s m args below meth c T locs cells slots) (hlk : meth.locks = false) (hx : p.tables.exec = Jvm.exec) {pc : Nat} {Ls : Array Slot} {w : Value} {t : FieldType} {i : Instr} {rest : List Value} {Q : Option Value → Heap → List Loc → Prop} {C S : Nat} (hret : meth.sig.returnType = some t) (hn : narrow t w = w)
    (hi : (i = .ireturn ∧ (t = .int ∨ t = .boolean ∨ t = .byte ∨ t = .char ∨ t = .short) ∧ ∃ z, w = .int z) ∨ (i = .lreturn ∧ t = .long ∧ ∃ z, w = .long z) ∨ (i = .dreturn ∧ t = .double ∧ ∃ z, w = .double z) ∨ (i = .freturn ∧ t = .float ∧ ∃ z, w = .float z) ∨ (i = .areturn ∧ t.isReference = true ∧ w.isRef = true))
    (hd : decode c.code pc = .ok (i, 1)) (hq : Q (some w) T.heap locs) (hC : cells ≤ C) (hS : slots ≤ S) : Wp p e below (Gd s Q C S) (T.setTop (mkF m pc Ls (w :: rest))) := by
  obtain ⟨fs, hr, hrun, hended, hW, hsame⟩ := X.leave (v := some w) (fun h => by rw [hret] at h; cases h) hlk
  exact ⟨_, _, retOut X hx hret hn hi hd hr, hrun, hended, _, _, rfl, hq, ⟨_, rfl⟩, hW, hsame.mono hC hS⟩
theorem Wp.retI (X : Stand p l e R s m args below meth c T locs cells slots) (hlk : meth.locks = false) (hx : p.tables.exec = Jvm.exec) {pc : Nat} {Ls : Array Slot} {z : Int32} {t : FieldType} {rest : List Value} {Q : Option Value → Heap → List Loc → Prop} {C S : Nat} (hret : meth.sig.returnType = some t) (ht : t = .int ∨ t = .boolean ∨ t = .byte ∨ t = .char ∨ t = .short) (hn : narrow t (.int z) = .int z)
    (hd : decode c.code pc = .ok (.ireturn, 1)) (hq : Q (some (.int z)) T.heap locs) (hC : cells ≤ C) (hS : slots ≤ S) : Wp p e below (Gd s Q C S) (T.setTop (mkF m pc Ls (.int z :: rest))) :=
  Wp.ret X hlk hx hret hn (Or.inl ⟨rfl, ht, z, rfl⟩) hd hq hC hS
theorem Wp.retJ (X : Stand p l e R s m args below meth c T locs cells slots) (hlk : meth.locks = false) (hx : p.tables.exec = Jvm.exec) {pc : Nat} {Ls : Array Slot} {z : Int64} {rest : List Value} {Q : Option Value → Heap → List Loc → Prop} {C S : Nat} (hret : meth.sig.returnType = some .long)
    (hd : decode c.code pc = .ok (.lreturn, 1)) (hq : Q (some (.long z)) T.heap locs) (hC : cells ≤ C) (hS : slots ≤ S) : Wp p e below (Gd s Q C S) (T.setTop (mkF m pc Ls (.long z :: rest))) :=
  Wp.ret X hlk hx hret rfl (Or.inr (Or.inl ⟨rfl, rfl, z, rfl⟩)) hd hq hC hS
theorem Wp.retA (X : Stand p l e R s m args below meth c T locs cells slots) (hlk : meth.locks = false) (hx : p.tables.exec = Jvm.exec) {pc : Nat} {Ls : Array Slot} {w : Value} {t : FieldType} {rest : List Value} {Q : Option Value → Heap → List Loc → Prop} {C S : Nat} (hret : meth.sig.returnType = some t) (ht : t.isReference = true) (hw : w.isRef = true)
    (hd : decode c.code pc = .ok (.areturn, 1)) (hq : Q (some w) T.heap locs) (hC : cells ≤ C) (hS : slots ≤ S) : Wp p e below (Gd s Q C S) (T.setTop (mkF m pc Ls (w :: rest))) :=
  Wp.ret X hlk hx hret (by cases t <;> simp [FieldType.isReference] at ht <;> cases w <;> simp [Value.isRef] at hw <;> rfl) (Or.inr (Or.inr (Or.inr (Or.inr ⟨rfl, ht, hw⟩)))) hd hq hC hS
theorem Wp.retV (X : Stand p l e R s m args below meth c T locs cells slots) (hlk : meth.locks = false) (hx : p.tables.exec = Jvm.exec) {pc : Nat} {Ls : Array Slot} {Q : Option Value → Heap → List Loc → Prop} {C S : Nat} (hret : meth.sig.returnType = none)
    (hd : decode c.code pc = .ok (.return_, 1)) (hq : Q none T.heap locs) (hC : cells ≤ C) (hS : slots ≤ S) : Wp p e below (Gd s Q C S) (T.setTop (mkF m pc Ls [])) := by
  obtain ⟨fs, hr, hrun, hended, hW, hsame⟩ := X.leave (v := none) (fun _ => rfl) hlk
  exact ⟨_, _, X.returnOut hx hret hd hr, hrun, hended, _, _, rfl, hq, ⟨_, rfl⟩, hW, hsame.mono hC hS⟩
/-- a body's contract out of its Wp at pc 0 -/
theorem ofWp {y : MethodName} {bytes : ByteArray} {maxL : Nat} {ret : Option FieldType} {ws : List Jvm.Cond} {rm : Room} {as' : Array Value} {Z : State} {h0 : Heap} {Q : Option Value → Heap → List Loc → Prop} {C S : Nat} {Ls : Array Slot} (hpl : plainFor y = true) (ef : ∀ m, entryFrame m as' maxL = mkF m 0 Ls [])
    (H : ∀ (p : Program) (e : Env) (s : State) (m : MethodId) (below : List Frame) (meth : Method) (c : Code) (T : State), p.tables.exec = Jvm.exec → c.code = bytes → c.maxLocals = maxL → s.vm.findClass y.cls = some m.cls → meth.name = y.name → meth.locks = false → meth.sig.returnType = ret → Z.Warmed39 s.vm → Stand p l e rm s m as' below meth c T [] 0 0 → T.heap = h0 → Wp p e below (Gd s Q C S) (T.setTop (mkF m 0 Ls []))) :
    MetFree l y (head1 (Jvm.Cond.code y bytes maxL ret :: ws) rm) (fun a U => a = as' ∧ Z.Warmed39 U.vm ∧ U.heap = h0) (fun _ _ _ _ _ => True) (fun _ U o U' => ∃ v L, o = .returned v ∧ Q v U'.heap L ∧ FrameEnd U o U' L C S) := by
  refine MetFree.of_bodySF hpl hisR ?_
  intro p e s m args below meth c s₁ Bd hml0 hP hK
  obtain ⟨rfl, hZ, hh⟩ := hP
  have e0 : s₁.heap = h0 := by rw [← hh, Bd.state]; rfl
  have X0 : Stand p l e rm s m args below meth c s₁ [] 0 0 := Stand.of_body Bd
  have W := H p e s m below meth c s₁ Bd.exec Bd.bytes hml0 (findClass_of_methodNamed Bd.named) (name_of_methodNamed Bd.named Bd.method).1 Bd.notSynchronized Bd.returns hZ X0 e0
  rw [← ef m] at W
  obtain ⟨s₂, o, g1, g2, g3, g4⟩ := W
  exact ⟨s₂, o, g1, g2, g3, g4⟩
end OwnKit

section AvKit
variable {p : Program} {l : Launch} {e : Env} {R : Room} {s : State} {m : MethodId} {args : Array Value} {below : List Frame} {meth : Method} {c : Code} {T : State} {locs : List Loc} {cells slots : Nat} {Z : State} {h h' : Heap} {a b : Addr} {ty : FieldType} {n : Nat} {f : Nat → Value} {sl : Nat} {v : Value}
/-- an array of n places; place k holds f k -/
def Av (Z : State) (h : Heap) (a : Addr) (ty : FieldType) (n : Nat) (f : Nat → Value) : Prop := ∃ c : Cell, Arr Z h a c ty ∧ c.slots.size = n ∧ ∀ k, k < n → c.slots[k]? = some (f k)
theorem Av.lt (F : Av Z h a ty n f) : a < h.size := by obtain ⟨c, A, -⟩ := F; exact A.lt
theorem Av.ext (F : Av Z h a ty n f) (E : Ext h h') : Av Z h' a ty n f := by obtain ⟨c, A, r⟩ := F; exact ⟨c, A.ext E, r⟩
theorem Av.other (F : Av Z h b ty n f) (W : Wr h h' a sl v) (q : b ≠ a) : Av Z h' b ty n f := by obtain ⟨c, A, r⟩ := F; exact ⟨c, A.other W q, r⟩
theorem Av.keep {ws : List Addr} (F : Av Z h a ty n f) (K : Keep h h' ws) (q : a ∉ ws) : Av Z h' a ty n f := by obtain ⟨c, A, r⟩ := F; exact ⟨c, ⟨K.2.1 a c A.1 q, A.2⟩, r⟩
theorem Av.cong {g : Nat → Value} (F : Av Z h a ty n f) (q : ∀ k, k < n → f k = g k) : Av Z h a ty n g := by obtain ⟨c, A, r, H⟩ := F; exact ⟨c, A, r, fun k hk => by rw [← q k hk]; exact H k hk⟩
theorem Av.new {k : ClassId} {z : Int32} (A : Arr Z h a (newA k ty z) ty) (hn : z.toNatClampNeg = n) : Av Z h a ty n (fun _ => defaultValue ty) := ⟨_, A, by rw [sz_new, hn], fun k hk => by simp [newA, hn, hk]⟩
theorem Av.set (F : Av Z h a ty n f) (W : Wr h h' a sl v) : Av Z h' a ty n (fun k => if k = sl then v else f k) := by
  obtain ⟨c, A, r, H⟩ := F
  refine ⟨_, A.same W, by rw [sz_set]; exact r, fun k hk => ?_⟩
  by_cases q : k = sl
  · subst q; simp [Cell.setSlot, r, hk]
  · show _ = some (if k = sl then v else f k)
    rw [if_neg q]; simp only [Cell.setSlot]; rw [Array.getElem?_setIfInBounds_ne (fun z => q z.symm)]; exact H k hk
theorem av_in {cl : Cell} {j : Int32} {i : Nat} (r : cl.slots.size = n) (hj0 : ¬ j < 0) (hji : j.toNatClampNeg = i) (hin : i < n) : ¬ (j < 0 ∨ cl.slots.size ≤ j.toNatClampNeg) := by
  rw [r, hji]; rintro (q | q)
  · exact hj0 q
  · omega
theorem avStI (X : Stand p l e R s m args below meth c T locs cells slots) (hx : p.tables.exec = Jvm.exec) (hZ : Z.Warmed39 s.vm) (eT : T.heap = h) (F : Av Z h a .int n f) {j x : Int32} {i : Nat} (hj0 : ¬ j < 0) (hji : j.toNatClampNeg = i) (hin : i < n) {g : JFrame} (hg : g.method = m) {rest : List Value} (hs : g.stack = .int x :: .int j :: .ref a :: rest) (hd : decode c.code g.pc = .ok (.iastore, 1)) :
    ∃ T' h', Stand p l e R s m args below meth c T' (locs ++ [⟨a, i⟩]) cells slots ∧ T'.heap = h' ∧ Wr h h' a i (.int x) ∧ Av Z h' a .int n (fun k => if k = i then .int x else f k) ∧ ∀ target, Steps p.tables e below (T'.setTop { g with pc := g.pc + 1, stack := rest }) target → Steps p.tables e below (T.setTop g) target := by
  obtain ⟨cl, A, r, H⟩ := F
  obtain ⟨T', h', X', e', W, st⟩ := stI X hx hZ eT A (av_in r hj0 hji hin) hg hs hd
  rw [hji] at X' W
  exact ⟨T', h', X', e', W, Av.set ⟨cl, A, r, H⟩ W, st⟩
theorem avStJ (X : Stand p l e R s m args below meth c T locs cells slots) (hx : p.tables.exec = Jvm.exec) (hZ : Z.Warmed39 s.vm) (eT : T.heap = h) (F : Av Z h a .long n f) {j : Int32} {x : Int64} {i : Nat} (hj0 : ¬ j < 0) (hji : j.toNatClampNeg = i) (hin : i < n) {g : JFrame} (hg : g.method = m) {rest : List Value} (hs : g.stack = .long x :: .int j :: .ref a :: rest) (hd : decode c.code g.pc = .ok (.lastore, 1)) :
    ∃ T' h', Stand p l e R s m args below meth c T' (locs ++ [⟨a, i⟩]) cells slots ∧ T'.heap = h' ∧ Wr h h' a i (.long x) ∧ Av Z h' a .long n (fun k => if k = i then .long x else f k) ∧ ∀ target, Steps p.tables e below (T'.setTop { g with pc := g.pc + 1, stack := rest }) target → Steps p.tables e below (T.setTop g) target := by
  obtain ⟨cl, A, r, H⟩ := F
  obtain ⟨T', h', X', e', W, st⟩ := stJ X hx hZ eT A (av_in r hj0 hji hin) hg hs hd
  rw [hji] at X' W
  exact ⟨T', h', X', e', W, Av.set ⟨cl, A, r, H⟩ W, st⟩
theorem avStB (X : Stand p l e R s m args below meth c T locs cells slots) (hx : p.tables.exec = Jvm.exec) (hZ : Z.Warmed39 s.vm) (eT : T.heap = h) (F : Av Z h a .byte n f) {j x : Int32} {i : Nat} (hj0 : ¬ j < 0) (hji : j.toNatClampNeg = i) (hin : i < n) {g : JFrame} (hg : g.method = m) {rest : List Value} (hs : g.stack = .int x :: .int j :: .ref a :: rest) (hd : decode c.code g.pc = .ok (.bastore, 1)) :
    ∃ T' h', Stand p l e R s m args below meth c T' (locs ++ [⟨a, i⟩]) cells slots ∧ T'.heap = h' ∧ Wr h h' a i (.int (nar .byte x)) ∧ Av Z h' a .byte n (fun k => if k = i then .int (nar .byte x) else f k) ∧ ∀ target, Steps p.tables e below (T'.setTop { g with pc := g.pc + 1, stack := rest }) target → Steps p.tables e below (T.setTop g) target := by
  obtain ⟨cl, A, r, H⟩ := F
  obtain ⟨T', h', X', e', W, st⟩ := stB X hx hZ eT A (av_in r hj0 hji hin) hg hs hd
  rw [hji] at X' W
  exact ⟨T', h', X', e', W, Av.set ⟨cl, A, r, H⟩ W, st⟩
theorem avLdI (X : Stand p l e R s m args below meth c T locs cells slots) (hx : p.tables.exec = Jvm.exec) (hZ : Z.Warmed39 s.vm) (eT : T.heap = h) (F : Av Z h a .int n f) {j : Int32} {i : Nat} (hj0 : ¬ j < 0) (hji : j.toNatClampNeg = i) (hin : i < n) {w : Value} (hw : f i = w) {g : JFrame} (hg : g.method = m) {rest : List Value} (hs : g.stack = .int j :: .ref a :: rest) (hd : decode c.code g.pc = .ok (.iaload, 1)) (target : State) (k : Steps p.tables e below (T.setTop { g with pc := g.pc + 1, stack := w :: rest }) target) : Steps p.tables e below (T.setTop g) target := by
  obtain ⟨cl, A, r, H⟩ := F
  exact X.iaload hx (by rw [eT]; exact A.1) (State.isArrayOf_alike hZ.alike A.2.1) A.2.2 (av_in r hj0 hji hin) (by rw [hji, H i hin, hw]) hg hs hd target k
theorem avLdJ (X : Stand p l e R s m args below meth c T locs cells slots) (hx : p.tables.exec = Jvm.exec) (hZ : Z.Warmed39 s.vm) (eT : T.heap = h) (F : Av Z h a .long n f) {j : Int32} {i : Nat} (hj0 : ¬ j < 0) (hji : j.toNatClampNeg = i) (hin : i < n) {w : Value} (hw : f i = w) {g : JFrame} (hg : g.method = m) {rest : List Value} (hs : g.stack = .int j :: .ref a :: rest) (hd : decode c.code g.pc = .ok (.laload, 1)) (target : State) (k : Steps p.tables e below (T.setTop { g with pc := g.pc + 1, stack := w :: rest }) target) : Steps p.tables e below (T.setTop g) target := by
  obtain ⟨cl, A, r, H⟩ := F
  exact X.laload hx (by rw [eT]; exact A.1) (State.isArrayOf_alike hZ.alike A.2.1) A.2.2 (av_in r hj0 hji hin) (by rw [hji, H i hin, hw]) hg hs hd target k
theorem avLdB (X : Stand p l e R s m args below meth c T locs cells slots) (hx : p.tables.exec = Jvm.exec) (hZ : Z.Warmed39 s.vm) (eT : T.heap = h) (F : Av Z h a .byte n f) {j : Int32} {i : Nat} (hj0 : ¬ j < 0) (hji : j.toNatClampNeg = i) (hin : i < n) {w : Value} (hw : f i = w) {g : JFrame} (hg : g.method = m) {rest : List Value} (hs : g.stack = .int j :: .ref a :: rest) (hd : decode c.code g.pc = .ok (.baload, 1)) (target : State) (k : Steps p.tables e below (T.setTop { g with pc := g.pc + 1, stack := w :: rest }) target) : Steps p.tables e below (T.setTop g) target := by
  obtain ⟨cl, A, r, H⟩ := F
  exact X.baloadBytes hx (by rw [eT]; exact A.1) (State.isArrayOf_alike hZ.alike A.2.1) A.2.2 (av_in r hj0 hji hin) (by rw [hji, H i hin, hw]) hg hs hd target k
theorem avLdA (X : Stand p l e R s m args below meth c T locs cells slots) (hx : p.tables.exec = Jvm.exec) (hZ : Z.Warmed39 s.vm) (eT : T.heap = h) (F : Av Z h a ty n f) (hty : ty.isReference = true) {j : Int32} {i : Nat} (hj0 : ¬ j < 0) (hji : j.toNatClampNeg = i) (hin : i < n) {w : Value} (hw : f i = w) {g : JFrame} (hg : g.method = m) {rest : List Value} (hs : g.stack = .int j :: .ref a :: rest) (hd : decode c.code g.pc = .ok (.aaload, 1)) (target : State) (k : Steps p.tables e below (T.setTop { g with pc := g.pc + 1, stack := w :: rest }) target) : Steps p.tables e below (T.setTop g) target := by
  obtain ⟨cl, A, r, H⟩ := F
  exact X.aaload hx (by rw [eT]; exact A.1) (State.isArrayOf_alike hZ.alike A.2.1) hty A.2.2 (av_in r hj0 hji hin) (by rw [hji, H i hin, hw]) hg hs hd target k
theorem avLen (X : Stand p l e R s m args below meth c T locs cells slots) (hx : p.tables.exec = Jvm.exec) (hZ : Z.Warmed39 s.vm) (eT : T.heap = h) (F : Av Z h a ty n f) {z : Int32} (hz : n.toInt32 = z) {g : JFrame} (hg : g.method = m) {rest : List Value} (hs : g.stack = .ref a :: rest) (hd : decode c.code g.pc = .ok (.arraylength, 1)) (target : State) (k : Steps p.tables e below (T.setTop { g with pc := g.pc + 1, stack := .int z :: rest }) target) : Steps p.tables e below (T.setTop g) target := by
  obtain ⟨cl, A, r, H⟩ := F
  exact X.arraylength hx (by rw [eT]; exact A.1) (State.isArrayOf_alike hZ.alike A.2.1) hg hs hd target (by rw [r, hz]; exact k)
end AvKit
def own_st (x b : Int32) : Int32 := (x <<< ((8 : Int32) &&& 31)) ||| (b &&& (255 : Int32))
def own_s (b0 b1 b2 b3 : Int32) : Int32 := own_st (own_st (own_st (own_st 0 b0) b1) b2) b3
theorem own_step (x b : Int32) : ((own_st x b).toInt - (x.toInt * 256 + b.toInt % 256)) % 4294967296 = 0 := by
  have m : (b &&& (255 : Int32)).toInt = b.toInt % (2 ^ 8 : Nat) := c_mask b _ 8 (by decide) (by decide)
  have s := c_ishl x 8 8 (by decide)
  have o := c_or (x <<< ((8 : Int32) &&& 31)) (b &&& 255) 8 (by decide) 256 (by decide) (by omega) (by omega) (by omega)
  show (((x <<< ((8 : Int32) &&& 31)) ||| (b &&& (255 : Int32))).toInt - (x.toInt * 256 + b.toInt % 256)) % 4294967296 = 0
  omega
theorem own_sum (b0 b1 b2 b3 : Int32) : ((own_s b0 b1 b2 b3).toInt - ((((b0.toInt % 256) * 256 + b1.toInt % 256) * 256 + b2.toInt % 256) * 256 + b3.toInt % 256)) % 4294967296 = 0 := by
  have z : (0 : Int32).toInt = 0 := by decide
  have a0 := own_step 0 b0
  have a1 := own_step (own_st 0 b0) b1
  have a2 := own_step (own_st (own_st 0 b0) b1) b2
  have a3 := own_step (own_st (own_st (own_st 0 b0) b1) b2) b3
  show ((own_st (own_st (own_st (own_st 0 b0) b1) b2) b3).toInt - _) % 4294967296 = 0
  omega
theorem own_b0 (q0 : Int64) : (nar .byte ((((q0.toUInt64 >>> ((56 : Int32) &&& 0x3f).toInt64.toUInt64).toInt64).toInt32).toInt8.toInt32)).toInt % 256 = (q0.toInt % 18446744073709551616) / 72057594037927936 % 256 := by
  have a := c_lushr q0 56 56 (by decide) (by decide)
  have b := c_l2i (((q0.toUInt64 >>> ((56 : Int32) &&& 0x3f).toInt64.toUInt64).toInt64))
  have d := c_i2b (((q0.toUInt64 >>> ((56 : Int32) &&& 0x3f).toInt64.toUInt64).toInt64).toInt32)
  have f := c_i2b (((q0.toUInt64 >>> ((56 : Int32) &&& 0x3f).toInt64.toUInt64).toInt64).toInt32).toInt8.toInt32
  show ((((q0.toUInt64 >>> ((56 : Int32) &&& 0x3f).toInt64.toUInt64).toInt64).toInt32).toInt8.toInt32.toInt8.toInt32).toInt % 256 = _
  omega
theorem own_b1 (q0 : Int64) : (nar .byte ((((q0.toUInt64 >>> ((48 : Int32) &&& 0x3f).toInt64.toUInt64).toInt64).toInt32).toInt8.toInt32)).toInt % 256 = (q0.toInt % 18446744073709551616) / 281474976710656 % 256 := by
  have a := c_lushr q0 48 48 (by decide) (by decide)
  have b := c_l2i (((q0.toUInt64 >>> ((48 : Int32) &&& 0x3f).toInt64.toUInt64).toInt64))
  have d := c_i2b (((q0.toUInt64 >>> ((48 : Int32) &&& 0x3f).toInt64.toUInt64).toInt64).toInt32)
  have f := c_i2b (((q0.toUInt64 >>> ((48 : Int32) &&& 0x3f).toInt64.toUInt64).toInt64).toInt32).toInt8.toInt32
  show ((((q0.toUInt64 >>> ((48 : Int32) &&& 0x3f).toInt64.toUInt64).toInt64).toInt32).toInt8.toInt32.toInt8.toInt32).toInt % 256 = _
  omega
theorem own_b2 (q0 : Int64) : (nar .byte ((((q0.toUInt64 >>> ((40 : Int32) &&& 0x3f).toInt64.toUInt64).toInt64).toInt32).toInt8.toInt32)).toInt % 256 = (q0.toInt % 18446744073709551616) / 1099511627776 % 256 := by
  have a := c_lushr q0 40 40 (by decide) (by decide)
  have b := c_l2i (((q0.toUInt64 >>> ((40 : Int32) &&& 0x3f).toInt64.toUInt64).toInt64))
  have d := c_i2b (((q0.toUInt64 >>> ((40 : Int32) &&& 0x3f).toInt64.toUInt64).toInt64).toInt32)
  have f := c_i2b (((q0.toUInt64 >>> ((40 : Int32) &&& 0x3f).toInt64.toUInt64).toInt64).toInt32).toInt8.toInt32
  show ((((q0.toUInt64 >>> ((40 : Int32) &&& 0x3f).toInt64.toUInt64).toInt64).toInt32).toInt8.toInt32.toInt8.toInt32).toInt % 256 = _
  omega
theorem own_b3 (q0 : Int64) : (nar .byte ((((q0.toUInt64 >>> ((32 : Int32) &&& 0x3f).toInt64.toUInt64).toInt64).toInt32).toInt8.toInt32)).toInt % 256 = (q0.toInt % 18446744073709551616) / 4294967296 % 256 := by
  have a := c_lushr q0 32 32 (by decide) (by decide)
  have b := c_l2i (((q0.toUInt64 >>> ((32 : Int32) &&& 0x3f).toInt64.toUInt64).toInt64))
  have d := c_i2b (((q0.toUInt64 >>> ((32 : Int32) &&& 0x3f).toInt64.toUInt64).toInt64).toInt32)
  have f := c_i2b (((q0.toUInt64 >>> ((32 : Int32) &&& 0x3f).toInt64.toUInt64).toInt64).toInt32).toInt8.toInt32
  show ((((q0.toUInt64 >>> ((32 : Int32) &&& 0x3f).toInt64.toUInt64).toInt64).toInt32).toInt8.toInt32.toInt8.toInt32).toInt % 256 = _
  omega
theorem own_b4 (q0 : Int64) : (nar .byte ((((q0.toUInt64 >>> ((24 : Int32) &&& 0x3f).toInt64.toUInt64).toInt64).toInt32).toInt8.toInt32)).toInt % 256 = (q0.toInt % 18446744073709551616) / 16777216 % 256 := by
  have a := c_lushr q0 24 24 (by decide) (by decide)
  have b := c_l2i (((q0.toUInt64 >>> ((24 : Int32) &&& 0x3f).toInt64.toUInt64).toInt64))
  have d := c_i2b (((q0.toUInt64 >>> ((24 : Int32) &&& 0x3f).toInt64.toUInt64).toInt64).toInt32)
  have f := c_i2b (((q0.toUInt64 >>> ((24 : Int32) &&& 0x3f).toInt64.toUInt64).toInt64).toInt32).toInt8.toInt32
  show ((((q0.toUInt64 >>> ((24 : Int32) &&& 0x3f).toInt64.toUInt64).toInt64).toInt32).toInt8.toInt32.toInt8.toInt32).toInt % 256 = _
  omega
theorem own_b5 (q0 : Int64) : (nar .byte ((((q0.toUInt64 >>> ((16 : Int32) &&& 0x3f).toInt64.toUInt64).toInt64).toInt32).toInt8.toInt32)).toInt % 256 = (q0.toInt % 18446744073709551616) / 65536 % 256 := by
  have a := c_lushr q0 16 16 (by decide) (by decide)
  have b := c_l2i (((q0.toUInt64 >>> ((16 : Int32) &&& 0x3f).toInt64.toUInt64).toInt64))
  have d := c_i2b (((q0.toUInt64 >>> ((16 : Int32) &&& 0x3f).toInt64.toUInt64).toInt64).toInt32)
  have f := c_i2b (((q0.toUInt64 >>> ((16 : Int32) &&& 0x3f).toInt64.toUInt64).toInt64).toInt32).toInt8.toInt32
  show ((((q0.toUInt64 >>> ((16 : Int32) &&& 0x3f).toInt64.toUInt64).toInt64).toInt32).toInt8.toInt32.toInt8.toInt32).toInt % 256 = _
  omega
theorem own_b6 (q0 : Int64) : (nar .byte ((((q0.toUInt64 >>> ((8 : Int32) &&& 0x3f).toInt64.toUInt64).toInt64).toInt32).toInt8.toInt32)).toInt % 256 = (q0.toInt % 18446744073709551616) / 256 % 256 := by
  have a := c_lushr q0 8 8 (by decide) (by decide)
  have b := c_l2i (((q0.toUInt64 >>> ((8 : Int32) &&& 0x3f).toInt64.toUInt64).toInt64))
  have d := c_i2b (((q0.toUInt64 >>> ((8 : Int32) &&& 0x3f).toInt64.toUInt64).toInt64).toInt32)
  have f := c_i2b (((q0.toUInt64 >>> ((8 : Int32) &&& 0x3f).toInt64.toUInt64).toInt64).toInt32).toInt8.toInt32
  show ((((q0.toUInt64 >>> ((8 : Int32) &&& 0x3f).toInt64.toUInt64).toInt64).toInt32).toInt8.toInt32.toInt8.toInt32).toInt % 256 = _
  omega
theorem own_b7 (q0 : Int64) : (nar .byte ((q0.toInt32).toInt8.toInt32)).toInt % 256 = (q0.toInt % 18446744073709551616) / 1 % 256 := by
  have b := c_l2i q0
  have d := c_i2b q0.toInt32
  have f := c_i2b q0.toInt32.toInt8.toInt32
  show (q0.toInt32.toInt8.toInt32.toInt8.toInt32).toInt % 256 = _
  omega
theorem own_eq0 (q0 : Int64) : own_s (nar .byte ((((q0.toUInt64 >>> ((56 : Int32) &&& 0x3f).toInt64.toUInt64).toInt64).toInt32).toInt8.toInt32)) (nar .byte ((((q0.toUInt64 >>> ((48 : Int32) &&& 0x3f).toInt64.toUInt64).toInt64).toInt32).toInt8.toInt32)) (nar .byte ((((q0.toUInt64 >>> ((40 : Int32) &&& 0x3f).toInt64.toUInt64).toInt64).toInt32).toInt8.toInt32)) (nar .byte ((((q0.toUInt64 >>> ((32 : Int32) &&& 0x3f).toInt64.toUInt64).toInt64).toInt32).toInt8.toInt32)) = (((q0.toUInt64 >>> ((32 : Int32) &&& 0x3f).toInt64.toUInt64).toInt64).toInt32) := by
  have b0 := own_b0 q0
  have b1 := own_b1 q0
  have b2 := own_b2 q0
  have b3 := own_b3 q0
  have t := own_sum (nar .byte ((((q0.toUInt64 >>> ((56 : Int32) &&& 0x3f).toInt64.toUInt64).toInt64).toInt32).toInt8.toInt32)) (nar .byte ((((q0.toUInt64 >>> ((48 : Int32) &&& 0x3f).toInt64.toUInt64).toInt64).toInt32).toInt8.toInt32)) (nar .byte ((((q0.toUInt64 >>> ((40 : Int32) &&& 0x3f).toInt64.toUInt64).toInt64).toInt32).toInt8.toInt32)) (nar .byte ((((q0.toUInt64 >>> ((32 : Int32) &&& 0x3f).toInt64.toUInt64).toInt64).toInt32).toInt8.toInt32))
  have u := c_lushr q0 32 32 (by decide) (by decide)
  have w := c_l2i ((q0.toUInt64 >>> ((32 : Int32) &&& 0x3f).toInt64.toUInt64).toInt64)
  have r1 := rng32 (own_s (nar .byte ((((q0.toUInt64 >>> ((56 : Int32) &&& 0x3f).toInt64.toUInt64).toInt64).toInt32).toInt8.toInt32)) (nar .byte ((((q0.toUInt64 >>> ((48 : Int32) &&& 0x3f).toInt64.toUInt64).toInt64).toInt32).toInt8.toInt32)) (nar .byte ((((q0.toUInt64 >>> ((40 : Int32) &&& 0x3f).toInt64.toUInt64).toInt64).toInt32).toInt8.toInt32)) (nar .byte ((((q0.toUInt64 >>> ((32 : Int32) &&& 0x3f).toInt64.toUInt64).toInt64).toInt32).toInt8.toInt32)))
  have r2 := rng32 (((q0.toUInt64 >>> ((32 : Int32) &&& 0x3f).toInt64.toUInt64).toInt64).toInt32)
  refine Int32.toInt_inj.mp ?_
  generalize (nar .byte ((((q0.toUInt64 >>> ((56 : Int32) &&& 0x3f).toInt64.toUInt64).toInt64).toInt32).toInt8.toInt32)) = x0 at *
  generalize (nar .byte ((((q0.toUInt64 >>> ((48 : Int32) &&& 0x3f).toInt64.toUInt64).toInt64).toInt32).toInt8.toInt32)) = x1 at *
  generalize (nar .byte ((((q0.toUInt64 >>> ((40 : Int32) &&& 0x3f).toInt64.toUInt64).toInt64).toInt32).toInt8.toInt32)) = x2 at *
  generalize (nar .byte ((((q0.toUInt64 >>> ((32 : Int32) &&& 0x3f).toInt64.toUInt64).toInt64).toInt32).toInt8.toInt32)) = x3 at *
  generalize own_s x0 x1 x2 x3 = y at *
  generalize (((q0.toUInt64 >>> ((32 : Int32) &&& 0x3f).toInt64.toUInt64).toInt64).toInt32) = z at *
  generalize ((q0.toUInt64 >>> ((32 : Int32) &&& 0x3f).toInt64.toUInt64).toInt64) = v at *
  omega
theorem own_eq1 (q0 : Int64) : own_s (nar .byte ((((q0.toUInt64 >>> ((48 : Int32) &&& 0x3f).toInt64.toUInt64).toInt64).toInt32).toInt8.toInt32)) (nar .byte ((((q0.toUInt64 >>> ((40 : Int32) &&& 0x3f).toInt64.toUInt64).toInt64).toInt32).toInt8.toInt32)) (nar .byte ((((q0.toUInt64 >>> ((32 : Int32) &&& 0x3f).toInt64.toUInt64).toInt64).toInt32).toInt8.toInt32)) (nar .byte ((((q0.toUInt64 >>> ((24 : Int32) &&& 0x3f).toInt64.toUInt64).toInt64).toInt32).toInt8.toInt32)) = (((q0.toUInt64 >>> ((24 : Int32) &&& 0x3f).toInt64.toUInt64).toInt64).toInt32) := by
  have b0 := own_b1 q0
  have b1 := own_b2 q0
  have b2 := own_b3 q0
  have b3 := own_b4 q0
  have t := own_sum (nar .byte ((((q0.toUInt64 >>> ((48 : Int32) &&& 0x3f).toInt64.toUInt64).toInt64).toInt32).toInt8.toInt32)) (nar .byte ((((q0.toUInt64 >>> ((40 : Int32) &&& 0x3f).toInt64.toUInt64).toInt64).toInt32).toInt8.toInt32)) (nar .byte ((((q0.toUInt64 >>> ((32 : Int32) &&& 0x3f).toInt64.toUInt64).toInt64).toInt32).toInt8.toInt32)) (nar .byte ((((q0.toUInt64 >>> ((24 : Int32) &&& 0x3f).toInt64.toUInt64).toInt64).toInt32).toInt8.toInt32))
  have u := c_lushr q0 24 24 (by decide) (by decide)
  have w := c_l2i ((q0.toUInt64 >>> ((24 : Int32) &&& 0x3f).toInt64.toUInt64).toInt64)
  have r1 := rng32 (own_s (nar .byte ((((q0.toUInt64 >>> ((48 : Int32) &&& 0x3f).toInt64.toUInt64).toInt64).toInt32).toInt8.toInt32)) (nar .byte ((((q0.toUInt64 >>> ((40 : Int32) &&& 0x3f).toInt64.toUInt64).toInt64).toInt32).toInt8.toInt32)) (nar .byte ((((q0.toUInt64 >>> ((32 : Int32) &&& 0x3f).toInt64.toUInt64).toInt64).toInt32).toInt8.toInt32)) (nar .byte ((((q0.toUInt64 >>> ((24 : Int32) &&& 0x3f).toInt64.toUInt64).toInt64).toInt32).toInt8.toInt32)))
  have r2 := rng32 (((q0.toUInt64 >>> ((24 : Int32) &&& 0x3f).toInt64.toUInt64).toInt64).toInt32)
  refine Int32.toInt_inj.mp ?_
  generalize (nar .byte ((((q0.toUInt64 >>> ((48 : Int32) &&& 0x3f).toInt64.toUInt64).toInt64).toInt32).toInt8.toInt32)) = x0 at *
  generalize (nar .byte ((((q0.toUInt64 >>> ((40 : Int32) &&& 0x3f).toInt64.toUInt64).toInt64).toInt32).toInt8.toInt32)) = x1 at *
  generalize (nar .byte ((((q0.toUInt64 >>> ((32 : Int32) &&& 0x3f).toInt64.toUInt64).toInt64).toInt32).toInt8.toInt32)) = x2 at *
  generalize (nar .byte ((((q0.toUInt64 >>> ((24 : Int32) &&& 0x3f).toInt64.toUInt64).toInt64).toInt32).toInt8.toInt32)) = x3 at *
  generalize own_s x0 x1 x2 x3 = y at *
  generalize (((q0.toUInt64 >>> ((24 : Int32) &&& 0x3f).toInt64.toUInt64).toInt64).toInt32) = z at *
  generalize ((q0.toUInt64 >>> ((24 : Int32) &&& 0x3f).toInt64.toUInt64).toInt64) = v at *
  omega
theorem own_eq2 (q0 : Int64) : own_s (nar .byte ((((q0.toUInt64 >>> ((40 : Int32) &&& 0x3f).toInt64.toUInt64).toInt64).toInt32).toInt8.toInt32)) (nar .byte ((((q0.toUInt64 >>> ((32 : Int32) &&& 0x3f).toInt64.toUInt64).toInt64).toInt32).toInt8.toInt32)) (nar .byte ((((q0.toUInt64 >>> ((24 : Int32) &&& 0x3f).toInt64.toUInt64).toInt64).toInt32).toInt8.toInt32)) (nar .byte ((((q0.toUInt64 >>> ((16 : Int32) &&& 0x3f).toInt64.toUInt64).toInt64).toInt32).toInt8.toInt32)) = (((q0.toUInt64 >>> ((16 : Int32) &&& 0x3f).toInt64.toUInt64).toInt64).toInt32) := by
  have b0 := own_b2 q0
  have b1 := own_b3 q0
  have b2 := own_b4 q0
  have b3 := own_b5 q0
  have t := own_sum (nar .byte ((((q0.toUInt64 >>> ((40 : Int32) &&& 0x3f).toInt64.toUInt64).toInt64).toInt32).toInt8.toInt32)) (nar .byte ((((q0.toUInt64 >>> ((32 : Int32) &&& 0x3f).toInt64.toUInt64).toInt64).toInt32).toInt8.toInt32)) (nar .byte ((((q0.toUInt64 >>> ((24 : Int32) &&& 0x3f).toInt64.toUInt64).toInt64).toInt32).toInt8.toInt32)) (nar .byte ((((q0.toUInt64 >>> ((16 : Int32) &&& 0x3f).toInt64.toUInt64).toInt64).toInt32).toInt8.toInt32))
  have u := c_lushr q0 16 16 (by decide) (by decide)
  have w := c_l2i ((q0.toUInt64 >>> ((16 : Int32) &&& 0x3f).toInt64.toUInt64).toInt64)
  have r1 := rng32 (own_s (nar .byte ((((q0.toUInt64 >>> ((40 : Int32) &&& 0x3f).toInt64.toUInt64).toInt64).toInt32).toInt8.toInt32)) (nar .byte ((((q0.toUInt64 >>> ((32 : Int32) &&& 0x3f).toInt64.toUInt64).toInt64).toInt32).toInt8.toInt32)) (nar .byte ((((q0.toUInt64 >>> ((24 : Int32) &&& 0x3f).toInt64.toUInt64).toInt64).toInt32).toInt8.toInt32)) (nar .byte ((((q0.toUInt64 >>> ((16 : Int32) &&& 0x3f).toInt64.toUInt64).toInt64).toInt32).toInt8.toInt32)))
  have r2 := rng32 (((q0.toUInt64 >>> ((16 : Int32) &&& 0x3f).toInt64.toUInt64).toInt64).toInt32)
  refine Int32.toInt_inj.mp ?_
  generalize (nar .byte ((((q0.toUInt64 >>> ((40 : Int32) &&& 0x3f).toInt64.toUInt64).toInt64).toInt32).toInt8.toInt32)) = x0 at *
  generalize (nar .byte ((((q0.toUInt64 >>> ((32 : Int32) &&& 0x3f).toInt64.toUInt64).toInt64).toInt32).toInt8.toInt32)) = x1 at *
  generalize (nar .byte ((((q0.toUInt64 >>> ((24 : Int32) &&& 0x3f).toInt64.toUInt64).toInt64).toInt32).toInt8.toInt32)) = x2 at *
  generalize (nar .byte ((((q0.toUInt64 >>> ((16 : Int32) &&& 0x3f).toInt64.toUInt64).toInt64).toInt32).toInt8.toInt32)) = x3 at *
  generalize own_s x0 x1 x2 x3 = y at *
  generalize (((q0.toUInt64 >>> ((16 : Int32) &&& 0x3f).toInt64.toUInt64).toInt64).toInt32) = z at *
  generalize ((q0.toUInt64 >>> ((16 : Int32) &&& 0x3f).toInt64.toUInt64).toInt64) = v at *
  omega
theorem own_eq3 (q0 : Int64) : own_s (nar .byte ((((q0.toUInt64 >>> ((32 : Int32) &&& 0x3f).toInt64.toUInt64).toInt64).toInt32).toInt8.toInt32)) (nar .byte ((((q0.toUInt64 >>> ((24 : Int32) &&& 0x3f).toInt64.toUInt64).toInt64).toInt32).toInt8.toInt32)) (nar .byte ((((q0.toUInt64 >>> ((16 : Int32) &&& 0x3f).toInt64.toUInt64).toInt64).toInt32).toInt8.toInt32)) (nar .byte ((((q0.toUInt64 >>> ((8 : Int32) &&& 0x3f).toInt64.toUInt64).toInt64).toInt32).toInt8.toInt32)) = (((q0.toUInt64 >>> ((8 : Int32) &&& 0x3f).toInt64.toUInt64).toInt64).toInt32) := by
  have b0 := own_b3 q0
  have b1 := own_b4 q0
  have b2 := own_b5 q0
  have b3 := own_b6 q0
  have t := own_sum (nar .byte ((((q0.toUInt64 >>> ((32 : Int32) &&& 0x3f).toInt64.toUInt64).toInt64).toInt32).toInt8.toInt32)) (nar .byte ((((q0.toUInt64 >>> ((24 : Int32) &&& 0x3f).toInt64.toUInt64).toInt64).toInt32).toInt8.toInt32)) (nar .byte ((((q0.toUInt64 >>> ((16 : Int32) &&& 0x3f).toInt64.toUInt64).toInt64).toInt32).toInt8.toInt32)) (nar .byte ((((q0.toUInt64 >>> ((8 : Int32) &&& 0x3f).toInt64.toUInt64).toInt64).toInt32).toInt8.toInt32))
  have u := c_lushr q0 8 8 (by decide) (by decide)
  have w := c_l2i ((q0.toUInt64 >>> ((8 : Int32) &&& 0x3f).toInt64.toUInt64).toInt64)
  have r1 := rng32 (own_s (nar .byte ((((q0.toUInt64 >>> ((32 : Int32) &&& 0x3f).toInt64.toUInt64).toInt64).toInt32).toInt8.toInt32)) (nar .byte ((((q0.toUInt64 >>> ((24 : Int32) &&& 0x3f).toInt64.toUInt64).toInt64).toInt32).toInt8.toInt32)) (nar .byte ((((q0.toUInt64 >>> ((16 : Int32) &&& 0x3f).toInt64.toUInt64).toInt64).toInt32).toInt8.toInt32)) (nar .byte ((((q0.toUInt64 >>> ((8 : Int32) &&& 0x3f).toInt64.toUInt64).toInt64).toInt32).toInt8.toInt32)))
  have r2 := rng32 (((q0.toUInt64 >>> ((8 : Int32) &&& 0x3f).toInt64.toUInt64).toInt64).toInt32)
  refine Int32.toInt_inj.mp ?_
  generalize (nar .byte ((((q0.toUInt64 >>> ((32 : Int32) &&& 0x3f).toInt64.toUInt64).toInt64).toInt32).toInt8.toInt32)) = x0 at *
  generalize (nar .byte ((((q0.toUInt64 >>> ((24 : Int32) &&& 0x3f).toInt64.toUInt64).toInt64).toInt32).toInt8.toInt32)) = x1 at *
  generalize (nar .byte ((((q0.toUInt64 >>> ((16 : Int32) &&& 0x3f).toInt64.toUInt64).toInt64).toInt32).toInt8.toInt32)) = x2 at *
  generalize (nar .byte ((((q0.toUInt64 >>> ((8 : Int32) &&& 0x3f).toInt64.toUInt64).toInt64).toInt32).toInt8.toInt32)) = x3 at *
  generalize own_s x0 x1 x2 x3 = y at *
  generalize (((q0.toUInt64 >>> ((8 : Int32) &&& 0x3f).toInt64.toUInt64).toInt64).toInt32) = z at *
  generalize ((q0.toUInt64 >>> ((8 : Int32) &&& 0x3f).toInt64.toUInt64).toInt64) = v at *
  omega
theorem own_eq4 (q0 : Int64) : own_s (nar .byte ((((q0.toUInt64 >>> ((24 : Int32) &&& 0x3f).toInt64.toUInt64).toInt64).toInt32).toInt8.toInt32)) (nar .byte ((((q0.toUInt64 >>> ((16 : Int32) &&& 0x3f).toInt64.toUInt64).toInt64).toInt32).toInt8.toInt32)) (nar .byte ((((q0.toUInt64 >>> ((8 : Int32) &&& 0x3f).toInt64.toUInt64).toInt64).toInt32).toInt8.toInt32)) (nar .byte ((q0.toInt32).toInt8.toInt32)) = (((q0.toUInt64 >>> ((0 : Int32) &&& 0x3f).toInt64.toUInt64).toInt64).toInt32) := by
  have b0 := own_b4 q0
  have b1 := own_b5 q0
  have b2 := own_b6 q0
  have b3 := own_b7 q0
  have t := own_sum (nar .byte ((((q0.toUInt64 >>> ((24 : Int32) &&& 0x3f).toInt64.toUInt64).toInt64).toInt32).toInt8.toInt32)) (nar .byte ((((q0.toUInt64 >>> ((16 : Int32) &&& 0x3f).toInt64.toUInt64).toInt64).toInt32).toInt8.toInt32)) (nar .byte ((((q0.toUInt64 >>> ((8 : Int32) &&& 0x3f).toInt64.toUInt64).toInt64).toInt32).toInt8.toInt32)) (nar .byte ((q0.toInt32).toInt8.toInt32))
  have u : ((q0.toUInt64 >>> ((0 : Int32) &&& 0x3f).toInt64.toUInt64).toInt64) = q0 := by
    have z : ((0 : Int32) &&& 0x3f).toInt64.toUInt64 = 0 := by decide
    rw [z]; simp
  have w := c_l2i ((q0.toUInt64 >>> ((0 : Int32) &&& 0x3f).toInt64.toUInt64).toInt64)
  rw [u] at w ⊢
  have r1 := rng32 (own_s (nar .byte ((((q0.toUInt64 >>> ((24 : Int32) &&& 0x3f).toInt64.toUInt64).toInt64).toInt32).toInt8.toInt32)) (nar .byte ((((q0.toUInt64 >>> ((16 : Int32) &&& 0x3f).toInt64.toUInt64).toInt64).toInt32).toInt8.toInt32)) (nar .byte ((((q0.toUInt64 >>> ((8 : Int32) &&& 0x3f).toInt64.toUInt64).toInt64).toInt32).toInt8.toInt32)) (nar .byte ((q0.toInt32).toInt8.toInt32)))
  have r2 := rng32 q0.toInt32
  refine Int32.toInt_inj.mp ?_
  generalize (nar .byte ((((q0.toUInt64 >>> ((24 : Int32) &&& 0x3f).toInt64.toUInt64).toInt64).toInt32).toInt8.toInt32)) = x0 at *
  generalize (nar .byte ((((q0.toUInt64 >>> ((16 : Int32) &&& 0x3f).toInt64.toUInt64).toInt64).toInt32).toInt8.toInt32)) = x1 at *
  generalize (nar .byte ((((q0.toUInt64 >>> ((8 : Int32) &&& 0x3f).toInt64.toUInt64).toInt64).toInt32).toInt8.toInt32)) = x2 at *
  generalize (nar .byte ((q0.toInt32).toInt8.toInt32)) = x3 at *
  generalize own_s x0 x1 x2 x3 = y at *
  generalize q0.toInt32 = z at *
  omega
theorem own_d1_0 : decode prog_51_method_9_code 0 = .ok (.iconst 0, 1) := by decide +kernel
theorem own_d1_1 : decode prog_51_method_9_code 1 = .ok (.istore_n 2, 1) := by decide +kernel
theorem own_d1_2 : decode prog_51_method_9_code 2 = .ok (.iload_n 1, 1) := by decide +kernel
theorem own_d1_3 : decode prog_51_method_9_code 3 = .ok (.istore_n 3, 1) := by decide +kernel
theorem own_d1_4 : decode prog_51_method_9_code 4 = .ok (.iload_n 3, 1) := by decide +kernel
theorem own_d1_5 : decode prog_51_method_9_code 5 = .ok (.iload_n 1, 1) := by decide +kernel
theorem own_d1_6 : decode prog_51_method_9_code 6 = .ok (.iconst 4, 1) := by decide +kernel
theorem own_d1_7 : decode prog_51_method_9_code 7 = .ok (.iadd, 1) := by decide +kernel
theorem own_d1_8 : decode prog_51_method_9_code 8 = .ok (.if_icmp .ge 22, 3) := by decide +kernel
theorem own_d1_11 : decode prog_51_method_9_code 11 = .ok (.iload_n 2, 1) := by decide +kernel
theorem own_d1_12 : decode prog_51_method_9_code 12 = .ok (.bipush 8, 2) := by decide +kernel
theorem own_d1_14 : decode prog_51_method_9_code 14 = .ok (.ishl, 1) := by decide +kernel
theorem own_d1_15 : decode prog_51_method_9_code 15 = .ok (.aload_n 0, 1) := by decide +kernel
theorem own_d1_16 : decode prog_51_method_9_code 16 = .ok (.iload_n 3, 1) := by decide +kernel
theorem own_d1_17 : decode prog_51_method_9_code 17 = .ok (.baload, 1) := by decide +kernel
theorem own_d1_18 : decode prog_51_method_9_code 18 = .ok (.sipush 255, 3) := by decide +kernel
theorem own_d1_21 : decode prog_51_method_9_code 21 = .ok (.iand, 1) := by decide +kernel
theorem own_d1_22 : decode prog_51_method_9_code 22 = .ok (.ior, 1) := by decide +kernel
theorem own_d1_23 : decode prog_51_method_9_code 23 = .ok (.istore_n 2, 1) := by decide +kernel
theorem own_d1_24 : decode prog_51_method_9_code 24 = .ok (.iinc 3 1, 3) := by decide +kernel
theorem own_d1_27 : decode prog_51_method_9_code 27 = .ok (.goto (-23), 3) := by decide +kernel
theorem own_d1_30 : decode prog_51_method_9_code 30 = .ok (.iload_n 2, 1) := by decide +kernel
theorem own_d1_31 : decode prog_51_method_9_code 31 = .ok (.ireturn, 1) := by decide +kernel
theorem own_pl1 : plainFor (⟨"com/example/inverso/inverso/index/CheckValue", "stored", "([BI)I"⟩ : MethodName) = true := plainFor_of_name (by first | (simp [plainName, overriddenIn]; done) | decide +kernel)
theorem own_ef1_0 (m : MethodId) (a0 : Addr) : entryFrame m #[(.ref a0), (.int (0 : Int32))] 4 = mkF m 0 #[.val (.ref a0), .val (.int (0 : Int32)), .unset, .unset] [] := by first | (simp [entryFrame, mkF, argsToLocals, Value.category]; done) | rfl
def Qo1_0 (Z : State) (a0 : Addr) (f : Nat → Value) (b0 b1 b2 b3 : Int32) (h0 : Heap) (n0 : Nat) (v : Option Value) (h : Heap) (L : List Loc) : Prop := v = some (.int (own_s b0 b1 b2 b3)) ∧ Fr n0 L ∧ h = h0
set_option maxRecDepth 65536 in
set_option maxHeartbeats 40000000 in
theorem rm1_0 (l : Launch) (Z : State) (aw : Array Value) (hw : ∀ d ∈ tables_1, d.before aw Z = true) (ws : List Jvm.Cond) (a0 : Addr) (f : Nat → Value) (b0 b1 b2 b3 : Int32) (h0 : Heap) (n0 : Nat) (Z0 : n0 ≤ h0.size) (V0 : Av Z h0 a0 .byte 8 f) (hb0 : f 0 = .int b0) (hb1 : f 1 = .int b1) (hb2 : f 2 = .int b2) (hb3 : f 3 = .int b3) :
    MetFree l (⟨"com/example/inverso/inverso/index/CheckValue", "stored", "([BI)I"⟩ : MethodName) (head1 (Jvm.Cond.code (⟨"com/example/inverso/inverso/index/CheckValue", "stored", "([BI)I"⟩ : MethodName) prog_51_method_9_code 4 (some .int) :: ws) ({ frames := 0, cells := 0, slots := 0, locals := 0 } : Room)) (fun a U => a = #[(.ref a0), (.int (0 : Int32))] ∧ Z.Warmed39 U.vm ∧ U.heap = h0) (fun _ _ _ _ _ => True) (fun _ U o U' => ∃ v L, o = .returned v ∧ (Qo1_0 Z a0 f b0 b1 b2 b3 h0 n0) v U'.heap L ∧ FrameEnd U o U' L ({ frames := 0, cells := 0, slots := 0, locals := 0 } : Room).cells ({ frames := 0, cells := 0, slots := 0, locals := 0 } : Room).slots) := by
  refine ofWp (Q := Qo1_0 Z a0 f b0 b1 b2 b3 h0 n0) own_pl1 (fun m => own_ef1_0 m a0) ?_
  intro p e s m below meth c T0 hx hby hml hown hnm hlk hret hZ X0 e0
  change s.vm.findClass "com/example/inverso/inverso/index/CheckValue" = some m.cls at hown
  have NF0 := Fr.nil n0
  refine Wp.via (fun _ k => XS.iconst X0.here hx rfl (hb hby own_d1_0) k) ?_
  show Wp p e below _ (T0.setTop (mkF m 1 #[.val (.ref a0), .val (.int (0 : Int32)), .unset, .unset] [(.int (0 : Int32))]))
  refine Wp.via (fun _ k => XS.istoreN X0.here hx rfl (hb hby own_d1_1) rfl (l' := #[.val (.ref a0), .val (.int (0 : Int32)), .val (.int (0 : Int32)), .unset]) rfl k) ?_
  show Wp p e below _ (T0.setTop (mkF m 2 #[.val (.ref a0), .val (.int (0 : Int32)), .val (.int (0 : Int32)), .unset] []))
  refine Wp.via (fun _ k => XS.iloadN X0.here hx rfl (hb hby own_d1_2) rfl k) ?_
  show Wp p e below _ (T0.setTop (mkF m 3 #[.val (.ref a0), .val (.int (0 : Int32)), .val (.int (0 : Int32)), .unset] [(.int (0 : Int32))]))
  refine Wp.via (fun _ k => XS.istoreN X0.here hx rfl (hb hby own_d1_3) rfl (l' := #[.val (.ref a0), .val (.int (0 : Int32)), .val (.int (0 : Int32)), .val (.int (0 : Int32))]) rfl k) ?_
  show Wp p e below _ (T0.setTop (mkF m 4 #[.val (.ref a0), .val (.int (0 : Int32)), .val (.int (0 : Int32)), .val (.int (0 : Int32))] []))
  refine Wp.via (fun _ k => XS.iloadN X0.here hx rfl (hb hby own_d1_4) rfl k) ?_
  show Wp p e below _ (T0.setTop (mkF m 5 #[.val (.ref a0), .val (.int (0 : Int32)), .val (.int (0 : Int32)), .val (.int (0 : Int32))] [(.int (0 : Int32))]))
  refine Wp.via (fun _ k => XS.iloadN X0.here hx rfl (hb hby own_d1_5) rfl k) ?_
  show Wp p e below _ (T0.setTop (mkF m 6 #[.val (.ref a0), .val (.int (0 : Int32)), .val (.int (0 : Int32)), .val (.int (0 : Int32))] [(.int (0 : Int32)), (.int (0 : Int32))]))
  refine Wp.via (fun _ k => XS.iconst X0.here hx rfl (hb hby own_d1_6) k) ?_
  show Wp p e below _ (T0.setTop (mkF m 7 #[.val (.ref a0), .val (.int (0 : Int32)), .val (.int (0 : Int32)), .val (.int (0 : Int32))] [(.int (4 : Int32)), (.int (0 : Int32)), (.int (0 : Int32))]))
  refine Wp.via (fun _ k => XS.iadd X0.here hx rfl (hb hby own_d1_7) rfl k) ?_
  show Wp p e below _ (T0.setTop (mkF m 8 #[.val (.ref a0), .val (.int (0 : Int32)), .val (.int (0 : Int32)), .val (.int (0 : Int32))] [(.int (4 : Int32)), (.int (0 : Int32))]))
  refine Wp.via (fun _ k => XS.icmpNo X0.here hx rfl (hb hby own_d1_8) rfl (tlt (by decide)).2.1 k) ?_
  show Wp p e below _ (T0.setTop (mkF m 11 #[.val (.ref a0), .val (.int (0 : Int32)), .val (.int (0 : Int32)), .val (.int (0 : Int32))] []))
  refine Wp.via (fun _ k => XS.iloadN X0.here hx rfl (hb hby own_d1_11) rfl k) ?_
  show Wp p e below _ (T0.setTop (mkF m 12 #[.val (.ref a0), .val (.int (0 : Int32)), .val (.int (0 : Int32)), .val (.int (0 : Int32))] [(.int (0 : Int32))]))
  refine Wp.via (fun _ k => XS.bipush X0.here hx rfl (hb hby own_d1_12) k) ?_
  show Wp p e below _ (T0.setTop (mkF m 14 #[.val (.ref a0), .val (.int (0 : Int32)), .val (.int (0 : Int32)), .val (.int (0 : Int32))] [(.int (8 : Int32)), (.int (0 : Int32))]))
  refine Wp.via (fun _ k => XS.ishl X0.here hx rfl (hb hby own_d1_14) rfl k) ?_
  show Wp p e below _ (T0.setTop (mkF m 15 #[.val (.ref a0), .val (.int (0 : Int32)), .val (.int (0 : Int32)), .val (.int (0 : Int32))] [(.int ((0 : Int32) <<< ((8 : Int32) &&& 31)))]))
  refine Wp.via (fun _ k => XS.aloadN X0.here hx rfl (hb hby own_d1_15) rfl rfl k) ?_
  show Wp p e below _ (T0.setTop (mkF m 16 #[.val (.ref a0), .val (.int (0 : Int32)), .val (.int (0 : Int32)), .val (.int (0 : Int32))] [(.ref a0), (.int ((0 : Int32) <<< ((8 : Int32) &&& 31)))]))
  refine Wp.via (fun _ k => XS.iloadN X0.here hx rfl (hb hby own_d1_16) rfl k) ?_
  show Wp p e below _ (T0.setTop (mkF m 17 #[.val (.ref a0), .val (.int (0 : Int32)), .val (.int (0 : Int32)), .val (.int (0 : Int32))] [(.int (0 : Int32)), (.ref a0), (.int ((0 : Int32) <<< ((8 : Int32) &&& 31)))]))
  refine Wp.via (fun _ k => avLdB X0 hx hZ e0 V0 (i := 0) (by decide) rfl (by decide) (w := (.int b0)) hb0 (g := (mkF m 17 #[.val (.ref a0), .val (.int (0 : Int32)), .val (.int (0 : Int32)), .val (.int (0 : Int32))] [(.int (0 : Int32)), (.ref a0), (.int ((0 : Int32) <<< ((8 : Int32) &&& 31)))])) rfl rfl (hb hby own_d1_17) _ k) ?_
  show Wp p e below _ (T0.setTop (mkF m 18 #[.val (.ref a0), .val (.int (0 : Int32)), .val (.int (0 : Int32)), .val (.int (0 : Int32))] [(.int b0), (.int ((0 : Int32) <<< ((8 : Int32) &&& 31)))]))
  refine Wp.via (fun _ k => XS.sipush X0.here hx rfl (hb hby own_d1_18) k) ?_
  show Wp p e below _ (T0.setTop (mkF m 21 #[.val (.ref a0), .val (.int (0 : Int32)), .val (.int (0 : Int32)), .val (.int (0 : Int32))] [(.int (255 : Int32)), (.int b0), (.int ((0 : Int32) <<< ((8 : Int32) &&& 31)))]))
  refine Wp.via (fun _ k => XS.iand X0.here hx rfl (hb hby own_d1_21) rfl k) ?_
  show Wp p e below _ (T0.setTop (mkF m 22 #[.val (.ref a0), .val (.int (0 : Int32)), .val (.int (0 : Int32)), .val (.int (0 : Int32))] [(.int (b0 &&& (255 : Int32))), (.int ((0 : Int32) <<< ((8 : Int32) &&& 31)))]))
  refine Wp.via (fun _ k => XS.ior X0.here hx rfl (hb hby own_d1_22) rfl k) ?_
  show Wp p e below _ (T0.setTop (mkF m 23 #[.val (.ref a0), .val (.int (0 : Int32)), .val (.int (0 : Int32)), .val (.int (0 : Int32))] [(.int (((0 : Int32) <<< ((8 : Int32) &&& 31)) ||| (b0 &&& (255 : Int32))))]))
  refine Wp.via (fun _ k => XS.istoreN X0.here hx rfl (hb hby own_d1_23) rfl (l' := #[.val (.ref a0), .val (.int (0 : Int32)), .val (.int (((0 : Int32) <<< ((8 : Int32) &&& 31)) ||| (b0 &&& (255 : Int32)))), .val (.int (0 : Int32))]) rfl k) ?_
  show Wp p e below _ (T0.setTop (mkF m 24 #[.val (.ref a0), .val (.int (0 : Int32)), .val (.int (((0 : Int32) <<< ((8 : Int32) &&& 31)) ||| (b0 &&& (255 : Int32)))), .val (.int (0 : Int32))] []))
  refine Wp.via (fun _ k => XS.iinc X0.here hx rfl (hb hby own_d1_24) rfl (l' := #[.val (.ref a0), .val (.int (0 : Int32)), .val (.int (((0 : Int32) <<< ((8 : Int32) &&& 31)) ||| (b0 &&& (255 : Int32)))), .val (.int (1 : Int32))]) rfl k) ?_
  show Wp p e below _ (T0.setTop (mkF m 27 #[.val (.ref a0), .val (.int (0 : Int32)), .val (.int (((0 : Int32) <<< ((8 : Int32) &&& 31)) ||| (b0 &&& (255 : Int32)))), .val (.int (1 : Int32))] []))
  refine Wp.via (fun _ k => XS.goto X0.here hx rfl (pc0 := 27) (pc' := 4) rfl (hb hby own_d1_27) (by decide) (by decide) k) ?_
  show Wp p e below _ (T0.setTop (mkF m 4 #[.val (.ref a0), .val (.int (0 : Int32)), .val (.int (((0 : Int32) <<< ((8 : Int32) &&& 31)) ||| (b0 &&& (255 : Int32)))), .val (.int (1 : Int32))] []))
  refine Wp.via (fun _ k => XS.iloadN X0.here hx rfl (hb hby own_d1_4) rfl k) ?_
  show Wp p e below _ (T0.setTop (mkF m 5 #[.val (.ref a0), .val (.int (0 : Int32)), .val (.int (((0 : Int32) <<< ((8 : Int32) &&& 31)) ||| (b0 &&& (255 : Int32)))), .val (.int (1 : Int32))] [(.int (1 : Int32))]))
  refine Wp.via (fun _ k => XS.iloadN X0.here hx rfl (hb hby own_d1_5) rfl k) ?_
  show Wp p e below _ (T0.setTop (mkF m 6 #[.val (.ref a0), .val (.int (0 : Int32)), .val (.int (((0 : Int32) <<< ((8 : Int32) &&& 31)) ||| (b0 &&& (255 : Int32)))), .val (.int (1 : Int32))] [(.int (0 : Int32)), (.int (1 : Int32))]))
  refine Wp.via (fun _ k => XS.iconst X0.here hx rfl (hb hby own_d1_6) k) ?_
  show Wp p e below _ (T0.setTop (mkF m 7 #[.val (.ref a0), .val (.int (0 : Int32)), .val (.int (((0 : Int32) <<< ((8 : Int32) &&& 31)) ||| (b0 &&& (255 : Int32)))), .val (.int (1 : Int32))] [(.int (4 : Int32)), (.int (0 : Int32)), (.int (1 : Int32))]))
  refine Wp.via (fun _ k => XS.iadd X0.here hx rfl (hb hby own_d1_7) rfl k) ?_
  show Wp p e below _ (T0.setTop (mkF m 8 #[.val (.ref a0), .val (.int (0 : Int32)), .val (.int (((0 : Int32) <<< ((8 : Int32) &&& 31)) ||| (b0 &&& (255 : Int32)))), .val (.int (1 : Int32))] [(.int (4 : Int32)), (.int (1 : Int32))]))
  refine Wp.via (fun _ k => XS.icmpNo X0.here hx rfl (hb hby own_d1_8) rfl (tlt (by decide)).2.1 k) ?_
  show Wp p e below _ (T0.setTop (mkF m 11 #[.val (.ref a0), .val (.int (0 : Int32)), .val (.int (((0 : Int32) <<< ((8 : Int32) &&& 31)) ||| (b0 &&& (255 : Int32)))), .val (.int (1 : Int32))] []))
  refine Wp.via (fun _ k => XS.iloadN X0.here hx rfl (hb hby own_d1_11) rfl k) ?_
  show Wp p e below _ (T0.setTop (mkF m 12 #[.val (.ref a0), .val (.int (0 : Int32)), .val (.int (((0 : Int32) <<< ((8 : Int32) &&& 31)) ||| (b0 &&& (255 : Int32)))), .val (.int (1 : Int32))] [(.int (((0 : Int32) <<< ((8 : Int32) &&& 31)) ||| (b0 &&& (255 : Int32))))]))
  refine Wp.via (fun _ k => XS.bipush X0.here hx rfl (hb hby own_d1_12) k) ?_
  show Wp p e below _ (T0.setTop (mkF m 14 #[.val (.ref a0), .val (.int (0 : Int32)), .val (.int (((0 : Int32) <<< ((8 : Int32) &&& 31)) ||| (b0 &&& (255 : Int32)))), .val (.int (1 : Int32))] [(.int (8 : Int32)), (.int (((0 : Int32) <<< ((8 : Int32) &&& 31)) ||| (b0 &&& (255 : Int32))))]))
  refine Wp.via (fun _ k => XS.ishl X0.here hx rfl (hb hby own_d1_14) rfl k) ?_
  show Wp p e below _ (T0.setTop (mkF m 15 #[.val (.ref a0), .val (.int (0 : Int32)), .val (.int (((0 : Int32) <<< ((8 : Int32) &&& 31)) ||| (b0 &&& (255 : Int32)))), .val (.int (1 : Int32))] [(.int ((((0 : Int32) <<< ((8 : Int32) &&& 31)) ||| (b0 &&& (255 : Int32))) <<< ((8 : Int32) &&& 31)))]))
  refine Wp.via (fun _ k => XS.aloadN X0.here hx rfl (hb hby own_d1_15) rfl rfl k) ?_
  show Wp p e below _ (T0.setTop (mkF m 16 #[.val (.ref a0), .val (.int (0 : Int32)), .val (.int (((0 : Int32) <<< ((8 : Int32) &&& 31)) ||| (b0 &&& (255 : Int32)))), .val (.int (1 : Int32))] [(.ref a0), (.int ((((0 : Int32) <<< ((8 : Int32) &&& 31)) ||| (b0 &&& (255 : Int32))) <<< ((8 : Int32) &&& 31)))]))
  refine Wp.via (fun _ k => XS.iloadN X0.here hx rfl (hb hby own_d1_16) rfl k) ?_
  show Wp p e below _ (T0.setTop (mkF m 17 #[.val (.ref a0), .val (.int (0 : Int32)), .val (.int (((0 : Int32) <<< ((8 : Int32) &&& 31)) ||| (b0 &&& (255 : Int32)))), .val (.int (1 : Int32))] [(.int (1 : Int32)), (.ref a0), (.int ((((0 : Int32) <<< ((8 : Int32) &&& 31)) ||| (b0 &&& (255 : Int32))) <<< ((8 : Int32) &&& 31)))]))
  refine Wp.via (fun _ k => avLdB X0 hx hZ e0 V0 (i := 1) (by decide) rfl (by decide) (w := (.int b1)) hb1 (g := (mkF m 17 #[.val (.ref a0), .val (.int (0 : Int32)), .val (.int (((0 : Int32) <<< ((8 : Int32) &&& 31)) ||| (b0 &&& (255 : Int32)))), .val (.int (1 : Int32))] [(.int (1 : Int32)), (.ref a0), (.int ((((0 : Int32) <<< ((8 : Int32) &&& 31)) ||| (b0 &&& (255 : Int32))) <<< ((8 : Int32) &&& 31)))])) rfl rfl (hb hby own_d1_17) _ k) ?_
  show Wp p e below _ (T0.setTop (mkF m 18 #[.val (.ref a0), .val (.int (0 : Int32)), .val (.int (((0 : Int32) <<< ((8 : Int32) &&& 31)) ||| (b0 &&& (255 : Int32)))), .val (.int (1 : Int32))] [(.int b1), (.int ((((0 : Int32) <<< ((8 : Int32) &&& 31)) ||| (b0 &&& (255 : Int32))) <<< ((8 : Int32) &&& 31)))]))
  refine Wp.via (fun _ k => XS.sipush X0.here hx rfl (hb hby own_d1_18) k) ?_
  show Wp p e below _ (T0.setTop (mkF m 21 #[.val (.ref a0), .val (.int (0 : Int32)), .val (.int (((0 : Int32) <<< ((8 : Int32) &&& 31)) ||| (b0 &&& (255 : Int32)))), .val (.int (1 : Int32))] [(.int (255 : Int32)), (.int b1), (.int ((((0 : Int32) <<< ((8 : Int32) &&& 31)) ||| (b0 &&& (255 : Int32))) <<< ((8 : Int32) &&& 31)))]))
  refine Wp.via (fun _ k => XS.iand X0.here hx rfl (hb hby own_d1_21) rfl k) ?_
  show Wp p e below _ (T0.setTop (mkF m 22 #[.val (.ref a0), .val (.int (0 : Int32)), .val (.int (((0 : Int32) <<< ((8 : Int32) &&& 31)) ||| (b0 &&& (255 : Int32)))), .val (.int (1 : Int32))] [(.int (b1 &&& (255 : Int32))), (.int ((((0 : Int32) <<< ((8 : Int32) &&& 31)) ||| (b0 &&& (255 : Int32))) <<< ((8 : Int32) &&& 31)))]))
  refine Wp.via (fun _ k => XS.ior X0.here hx rfl (hb hby own_d1_22) rfl k) ?_
  show Wp p e below _ (T0.setTop (mkF m 23 #[.val (.ref a0), .val (.int (0 : Int32)), .val (.int (((0 : Int32) <<< ((8 : Int32) &&& 31)) ||| (b0 &&& (255 : Int32)))), .val (.int (1 : Int32))] [(.int (((((0 : Int32) <<< ((8 : Int32) &&& 31)) ||| (b0 &&& (255 : Int32))) <<< ((8 : Int32) &&& 31)) ||| (b1 &&& (255 : Int32))))]))
  refine Wp.via (fun _ k => XS.istoreN X0.here hx rfl (hb hby own_d1_23) rfl (l' := #[.val (.ref a0), .val (.int (0 : Int32)), .val (.int (((((0 : Int32) <<< ((8 : Int32) &&& 31)) ||| (b0 &&& (255 : Int32))) <<< ((8 : Int32) &&& 31)) ||| (b1 &&& (255 : Int32)))), .val (.int (1 : Int32))]) rfl k) ?_
  show Wp p e below _ (T0.setTop (mkF m 24 #[.val (.ref a0), .val (.int (0 : Int32)), .val (.int (((((0 : Int32) <<< ((8 : Int32) &&& 31)) ||| (b0 &&& (255 : Int32))) <<< ((8 : Int32) &&& 31)) ||| (b1 &&& (255 : Int32)))), .val (.int (1 : Int32))] []))
  refine Wp.via (fun _ k => XS.iinc X0.here hx rfl (hb hby own_d1_24) rfl (l' := #[.val (.ref a0), .val (.int (0 : Int32)), .val (.int (((((0 : Int32) <<< ((8 : Int32) &&& 31)) ||| (b0 &&& (255 : Int32))) <<< ((8 : Int32) &&& 31)) ||| (b1 &&& (255 : Int32)))), .val (.int (2 : Int32))]) rfl k) ?_
  show Wp p e below _ (T0.setTop (mkF m 27 #[.val (.ref a0), .val (.int (0 : Int32)), .val (.int (((((0 : Int32) <<< ((8 : Int32) &&& 31)) ||| (b0 &&& (255 : Int32))) <<< ((8 : Int32) &&& 31)) ||| (b1 &&& (255 : Int32)))), .val (.int (2 : Int32))] []))
  refine Wp.via (fun _ k => XS.goto X0.here hx rfl (pc0 := 27) (pc' := 4) rfl (hb hby own_d1_27) (by decide) (by decide) k) ?_
  show Wp p e below _ (T0.setTop (mkF m 4 #[.val (.ref a0), .val (.int (0 : Int32)), .val (.int (((((0 : Int32) <<< ((8 : Int32) &&& 31)) ||| (b0 &&& (255 : Int32))) <<< ((8 : Int32) &&& 31)) ||| (b1 &&& (255 : Int32)))), .val (.int (2 : Int32))] []))
  refine Wp.via (fun _ k => XS.iloadN X0.here hx rfl (hb hby own_d1_4) rfl k) ?_
  show Wp p e below _ (T0.setTop (mkF m 5 #[.val (.ref a0), .val (.int (0 : Int32)), .val (.int (((((0 : Int32) <<< ((8 : Int32) &&& 31)) ||| (b0 &&& (255 : Int32))) <<< ((8 : Int32) &&& 31)) ||| (b1 &&& (255 : Int32)))), .val (.int (2 : Int32))] [(.int (2 : Int32))]))
  refine Wp.via (fun _ k => XS.iloadN X0.here hx rfl (hb hby own_d1_5) rfl k) ?_
  show Wp p e below _ (T0.setTop (mkF m 6 #[.val (.ref a0), .val (.int (0 : Int32)), .val (.int (((((0 : Int32) <<< ((8 : Int32) &&& 31)) ||| (b0 &&& (255 : Int32))) <<< ((8 : Int32) &&& 31)) ||| (b1 &&& (255 : Int32)))), .val (.int (2 : Int32))] [(.int (0 : Int32)), (.int (2 : Int32))]))
  refine Wp.via (fun _ k => XS.iconst X0.here hx rfl (hb hby own_d1_6) k) ?_
  show Wp p e below _ (T0.setTop (mkF m 7 #[.val (.ref a0), .val (.int (0 : Int32)), .val (.int (((((0 : Int32) <<< ((8 : Int32) &&& 31)) ||| (b0 &&& (255 : Int32))) <<< ((8 : Int32) &&& 31)) ||| (b1 &&& (255 : Int32)))), .val (.int (2 : Int32))] [(.int (4 : Int32)), (.int (0 : Int32)), (.int (2 : Int32))]))
  refine Wp.via (fun _ k => XS.iadd X0.here hx rfl (hb hby own_d1_7) rfl k) ?_
  show Wp p e below _ (T0.setTop (mkF m 8 #[.val (.ref a0), .val (.int (0 : Int32)), .val (.int (((((0 : Int32) <<< ((8 : Int32) &&& 31)) ||| (b0 &&& (255 : Int32))) <<< ((8 : Int32) &&& 31)) ||| (b1 &&& (255 : Int32)))), .val (.int (2 : Int32))] [(.int (4 : Int32)), (.int (2 : Int32))]))
  refine Wp.via (fun _ k => XS.icmpNo X0.here hx rfl (hb hby own_d1_8) rfl (tlt (by decide)).2.1 k) ?_
  show Wp p e below _ (T0.setTop (mkF m 11 #[.val (.ref a0), .val (.int (0 : Int32)), .val (.int (((((0 : Int32) <<< ((8 : Int32) &&& 31)) ||| (b0 &&& (255 : Int32))) <<< ((8 : Int32) &&& 31)) ||| (b1 &&& (255 : Int32)))), .val (.int (2 : Int32))] []))
  refine Wp.via (fun _ k => XS.iloadN X0.here hx rfl (hb hby own_d1_11) rfl k) ?_
  show Wp p e below _ (T0.setTop (mkF m 12 #[.val (.ref a0), .val (.int (0 : Int32)), .val (.int (((((0 : Int32) <<< ((8 : Int32) &&& 31)) ||| (b0 &&& (255 : Int32))) <<< ((8 : Int32) &&& 31)) ||| (b1 &&& (255 : Int32)))), .val (.int (2 : Int32))] [(.int (((((0 : Int32) <<< ((8 : Int32) &&& 31)) ||| (b0 &&& (255 : Int32))) <<< ((8 : Int32) &&& 31)) ||| (b1 &&& (255 : Int32))))]))
  refine Wp.via (fun _ k => XS.bipush X0.here hx rfl (hb hby own_d1_12) k) ?_
  show Wp p e below _ (T0.setTop (mkF m 14 #[.val (.ref a0), .val (.int (0 : Int32)), .val (.int (((((0 : Int32) <<< ((8 : Int32) &&& 31)) ||| (b0 &&& (255 : Int32))) <<< ((8 : Int32) &&& 31)) ||| (b1 &&& (255 : Int32)))), .val (.int (2 : Int32))] [(.int (8 : Int32)), (.int (((((0 : Int32) <<< ((8 : Int32) &&& 31)) ||| (b0 &&& (255 : Int32))) <<< ((8 : Int32) &&& 31)) ||| (b1 &&& (255 : Int32))))]))
  refine Wp.via (fun _ k => XS.ishl X0.here hx rfl (hb hby own_d1_14) rfl k) ?_
  show Wp p e below _ (T0.setTop (mkF m 15 #[.val (.ref a0), .val (.int (0 : Int32)), .val (.int (((((0 : Int32) <<< ((8 : Int32) &&& 31)) ||| (b0 &&& (255 : Int32))) <<< ((8 : Int32) &&& 31)) ||| (b1 &&& (255 : Int32)))), .val (.int (2 : Int32))] [(.int ((((((0 : Int32) <<< ((8 : Int32) &&& 31)) ||| (b0 &&& (255 : Int32))) <<< ((8 : Int32) &&& 31)) ||| (b1 &&& (255 : Int32))) <<< ((8 : Int32) &&& 31)))]))
  refine Wp.via (fun _ k => XS.aloadN X0.here hx rfl (hb hby own_d1_15) rfl rfl k) ?_
  show Wp p e below _ (T0.setTop (mkF m 16 #[.val (.ref a0), .val (.int (0 : Int32)), .val (.int (((((0 : Int32) <<< ((8 : Int32) &&& 31)) ||| (b0 &&& (255 : Int32))) <<< ((8 : Int32) &&& 31)) ||| (b1 &&& (255 : Int32)))), .val (.int (2 : Int32))] [(.ref a0), (.int ((((((0 : Int32) <<< ((8 : Int32) &&& 31)) ||| (b0 &&& (255 : Int32))) <<< ((8 : Int32) &&& 31)) ||| (b1 &&& (255 : Int32))) <<< ((8 : Int32) &&& 31)))]))
  refine Wp.via (fun _ k => XS.iloadN X0.here hx rfl (hb hby own_d1_16) rfl k) ?_
  show Wp p e below _ (T0.setTop (mkF m 17 #[.val (.ref a0), .val (.int (0 : Int32)), .val (.int (((((0 : Int32) <<< ((8 : Int32) &&& 31)) ||| (b0 &&& (255 : Int32))) <<< ((8 : Int32) &&& 31)) ||| (b1 &&& (255 : Int32)))), .val (.int (2 : Int32))] [(.int (2 : Int32)), (.ref a0), (.int ((((((0 : Int32) <<< ((8 : Int32) &&& 31)) ||| (b0 &&& (255 : Int32))) <<< ((8 : Int32) &&& 31)) ||| (b1 &&& (255 : Int32))) <<< ((8 : Int32) &&& 31)))]))
  refine Wp.via (fun _ k => avLdB X0 hx hZ e0 V0 (i := 2) (by decide) rfl (by decide) (w := (.int b2)) hb2 (g := (mkF m 17 #[.val (.ref a0), .val (.int (0 : Int32)), .val (.int (((((0 : Int32) <<< ((8 : Int32) &&& 31)) ||| (b0 &&& (255 : Int32))) <<< ((8 : Int32) &&& 31)) ||| (b1 &&& (255 : Int32)))), .val (.int (2 : Int32))] [(.int (2 : Int32)), (.ref a0), (.int ((((((0 : Int32) <<< ((8 : Int32) &&& 31)) ||| (b0 &&& (255 : Int32))) <<< ((8 : Int32) &&& 31)) ||| (b1 &&& (255 : Int32))) <<< ((8 : Int32) &&& 31)))])) rfl rfl (hb hby own_d1_17) _ k) ?_
  show Wp p e below _ (T0.setTop (mkF m 18 #[.val (.ref a0), .val (.int (0 : Int32)), .val (.int (((((0 : Int32) <<< ((8 : Int32) &&& 31)) ||| (b0 &&& (255 : Int32))) <<< ((8 : Int32) &&& 31)) ||| (b1 &&& (255 : Int32)))), .val (.int (2 : Int32))] [(.int b2), (.int ((((((0 : Int32) <<< ((8 : Int32) &&& 31)) ||| (b0 &&& (255 : Int32))) <<< ((8 : Int32) &&& 31)) ||| (b1 &&& (255 : Int32))) <<< ((8 : Int32) &&& 31)))]))
  refine Wp.via (fun _ k => XS.sipush X0.here hx rfl (hb hby own_d1_18) k) ?_
  show Wp p e below _ (T0.setTop (mkF m 21 #[.val (.ref a0), .val (.int (0 : Int32)), .val (.int (((((0 : Int32) <<< ((8 : Int32) &&& 31)) ||| (b0 &&& (255 : Int32))) <<< ((8 : Int32) &&& 31)) ||| (b1 &&& (255 : Int32)))), .val (.int (2 : Int32))] [(.int (255 : Int32)), (.int b2), (.int ((((((0 : Int32) <<< ((8 : Int32) &&& 31)) ||| (b0 &&& (255 : Int32))) <<< ((8 : Int32) &&& 31)) ||| (b1 &&& (255 : Int32))) <<< ((8 : Int32) &&& 31)))]))
  refine Wp.via (fun _ k => XS.iand X0.here hx rfl (hb hby own_d1_21) rfl k) ?_
  show Wp p e below _ (T0.setTop (mkF m 22 #[.val (.ref a0), .val (.int (0 : Int32)), .val (.int (((((0 : Int32) <<< ((8 : Int32) &&& 31)) ||| (b0 &&& (255 : Int32))) <<< ((8 : Int32) &&& 31)) ||| (b1 &&& (255 : Int32)))), .val (.int (2 : Int32))] [(.int (b2 &&& (255 : Int32))), (.int ((((((0 : Int32) <<< ((8 : Int32) &&& 31)) ||| (b0 &&& (255 : Int32))) <<< ((8 : Int32) &&& 31)) ||| (b1 &&& (255 : Int32))) <<< ((8 : Int32) &&& 31)))]))
  refine Wp.via (fun _ k => XS.ior X0.here hx rfl (hb hby own_d1_22) rfl k) ?_
  show Wp p e below _ (T0.setTop (mkF m 23 #[.val (.ref a0), .val (.int (0 : Int32)), .val (.int (((((0 : Int32) <<< ((8 : Int32) &&& 31)) ||| (b0 &&& (255 : Int32))) <<< ((8 : Int32) &&& 31)) ||| (b1 &&& (255 : Int32)))), .val (.int (2 : Int32))] [(.int (((((((0 : Int32) <<< ((8 : Int32) &&& 31)) ||| (b0 &&& (255 : Int32))) <<< ((8 : Int32) &&& 31)) ||| (b1 &&& (255 : Int32))) <<< ((8 : Int32) &&& 31)) ||| (b2 &&& (255 : Int32))))]))
  refine Wp.via (fun _ k => XS.istoreN X0.here hx rfl (hb hby own_d1_23) rfl (l' := #[.val (.ref a0), .val (.int (0 : Int32)), .val (.int (((((((0 : Int32) <<< ((8 : Int32) &&& 31)) ||| (b0 &&& (255 : Int32))) <<< ((8 : Int32) &&& 31)) ||| (b1 &&& (255 : Int32))) <<< ((8 : Int32) &&& 31)) ||| (b2 &&& (255 : Int32)))), .val (.int (2 : Int32))]) rfl k) ?_
  show Wp p e below _ (T0.setTop (mkF m 24 #[.val (.ref a0), .val (.int (0 : Int32)), .val (.int (((((((0 : Int32) <<< ((8 : Int32) &&& 31)) ||| (b0 &&& (255 : Int32))) <<< ((8 : Int32) &&& 31)) ||| (b1 &&& (255 : Int32))) <<< ((8 : Int32) &&& 31)) ||| (b2 &&& (255 : Int32)))), .val (.int (2 : Int32))] []))
  refine Wp.via (fun _ k => XS.iinc X0.here hx rfl (hb hby own_d1_24) rfl (l' := #[.val (.ref a0), .val (.int (0 : Int32)), .val (.int (((((((0 : Int32) <<< ((8 : Int32) &&& 31)) ||| (b0 &&& (255 : Int32))) <<< ((8 : Int32) &&& 31)) ||| (b1 &&& (255 : Int32))) <<< ((8 : Int32) &&& 31)) ||| (b2 &&& (255 : Int32)))), .val (.int (3 : Int32))]) rfl k) ?_
  show Wp p e below _ (T0.setTop (mkF m 27 #[.val (.ref a0), .val (.int (0 : Int32)), .val (.int (((((((0 : Int32) <<< ((8 : Int32) &&& 31)) ||| (b0 &&& (255 : Int32))) <<< ((8 : Int32) &&& 31)) ||| (b1 &&& (255 : Int32))) <<< ((8 : Int32) &&& 31)) ||| (b2 &&& (255 : Int32)))), .val (.int (3 : Int32))] []))
  refine Wp.via (fun _ k => XS.goto X0.here hx rfl (pc0 := 27) (pc' := 4) rfl (hb hby own_d1_27) (by decide) (by decide) k) ?_
  show Wp p e below _ (T0.setTop (mkF m 4 #[.val (.ref a0), .val (.int (0 : Int32)), .val (.int (((((((0 : Int32) <<< ((8 : Int32) &&& 31)) ||| (b0 &&& (255 : Int32))) <<< ((8 : Int32) &&& 31)) ||| (b1 &&& (255 : Int32))) <<< ((8 : Int32) &&& 31)) ||| (b2 &&& (255 : Int32)))), .val (.int (3 : Int32))] []))
  refine Wp.via (fun _ k => XS.iloadN X0.here hx rfl (hb hby own_d1_4) rfl k) ?_
  show Wp p e below _ (T0.setTop (mkF m 5 #[.val (.ref a0), .val (.int (0 : Int32)), .val (.int (((((((0 : Int32) <<< ((8 : Int32) &&& 31)) ||| (b0 &&& (255 : Int32))) <<< ((8 : Int32) &&& 31)) ||| (b1 &&& (255 : Int32))) <<< ((8 : Int32) &&& 31)) ||| (b2 &&& (255 : Int32)))), .val (.int (3 : Int32))] [(.int (3 : Int32))]))
  refine Wp.via (fun _ k => XS.iloadN X0.here hx rfl (hb hby own_d1_5) rfl k) ?_
  show Wp p e below _ (T0.setTop (mkF m 6 #[.val (.ref a0), .val (.int (0 : Int32)), .val (.int (((((((0 : Int32) <<< ((8 : Int32) &&& 31)) ||| (b0 &&& (255 : Int32))) <<< ((8 : Int32) &&& 31)) ||| (b1 &&& (255 : Int32))) <<< ((8 : Int32) &&& 31)) ||| (b2 &&& (255 : Int32)))), .val (.int (3 : Int32))] [(.int (0 : Int32)), (.int (3 : Int32))]))
  refine Wp.via (fun _ k => XS.iconst X0.here hx rfl (hb hby own_d1_6) k) ?_
  show Wp p e below _ (T0.setTop (mkF m 7 #[.val (.ref a0), .val (.int (0 : Int32)), .val (.int (((((((0 : Int32) <<< ((8 : Int32) &&& 31)) ||| (b0 &&& (255 : Int32))) <<< ((8 : Int32) &&& 31)) ||| (b1 &&& (255 : Int32))) <<< ((8 : Int32) &&& 31)) ||| (b2 &&& (255 : Int32)))), .val (.int (3 : Int32))] [(.int (4 : Int32)), (.int (0 : Int32)), (.int (3 : Int32))]))
  refine Wp.via (fun _ k => XS.iadd X0.here hx rfl (hb hby own_d1_7) rfl k) ?_
  show Wp p e below _ (T0.setTop (mkF m 8 #[.val (.ref a0), .val (.int (0 : Int32)), .val (.int (((((((0 : Int32) <<< ((8 : Int32) &&& 31)) ||| (b0 &&& (255 : Int32))) <<< ((8 : Int32) &&& 31)) ||| (b1 &&& (255 : Int32))) <<< ((8 : Int32) &&& 31)) ||| (b2 &&& (255 : Int32)))), .val (.int (3 : Int32))] [(.int (4 : Int32)), (.int (3 : Int32))]))
  refine Wp.via (fun _ k => XS.icmpNo X0.here hx rfl (hb hby own_d1_8) rfl (tlt (by decide)).2.1 k) ?_
  show Wp p e below _ (T0.setTop (mkF m 11 #[.val (.ref a0), .val (.int (0 : Int32)), .val (.int (((((((0 : Int32) <<< ((8 : Int32) &&& 31)) ||| (b0 &&& (255 : Int32))) <<< ((8 : Int32) &&& 31)) ||| (b1 &&& (255 : Int32))) <<< ((8 : Int32) &&& 31)) ||| (b2 &&& (255 : Int32)))), .val (.int (3 : Int32))] []))
  refine Wp.via (fun _ k => XS.iloadN X0.here hx rfl (hb hby own_d1_11) rfl k) ?_
  show Wp p e below _ (T0.setTop (mkF m 12 #[.val (.ref a0), .val (.int (0 : Int32)), .val (.int (((((((0 : Int32) <<< ((8 : Int32) &&& 31)) ||| (b0 &&& (255 : Int32))) <<< ((8 : Int32) &&& 31)) ||| (b1 &&& (255 : Int32))) <<< ((8 : Int32) &&& 31)) ||| (b2 &&& (255 : Int32)))), .val (.int (3 : Int32))] [(.int (((((((0 : Int32) <<< ((8 : Int32) &&& 31)) ||| (b0 &&& (255 : Int32))) <<< ((8 : Int32) &&& 31)) ||| (b1 &&& (255 : Int32))) <<< ((8 : Int32) &&& 31)) ||| (b2 &&& (255 : Int32))))]))
  refine Wp.via (fun _ k => XS.bipush X0.here hx rfl (hb hby own_d1_12) k) ?_
  show Wp p e below _ (T0.setTop (mkF m 14 #[.val (.ref a0), .val (.int (0 : Int32)), .val (.int (((((((0 : Int32) <<< ((8 : Int32) &&& 31)) ||| (b0 &&& (255 : Int32))) <<< ((8 : Int32) &&& 31)) ||| (b1 &&& (255 : Int32))) <<< ((8 : Int32) &&& 31)) ||| (b2 &&& (255 : Int32)))), .val (.int (3 : Int32))] [(.int (8 : Int32)), (.int (((((((0 : Int32) <<< ((8 : Int32) &&& 31)) ||| (b0 &&& (255 : Int32))) <<< ((8 : Int32) &&& 31)) ||| (b1 &&& (255 : Int32))) <<< ((8 : Int32) &&& 31)) ||| (b2 &&& (255 : Int32))))]))
  refine Wp.via (fun _ k => XS.ishl X0.here hx rfl (hb hby own_d1_14) rfl k) ?_
  show Wp p e below _ (T0.setTop (mkF m 15 #[.val (.ref a0), .val (.int (0 : Int32)), .val (.int (((((((0 : Int32) <<< ((8 : Int32) &&& 31)) ||| (b0 &&& (255 : Int32))) <<< ((8 : Int32) &&& 31)) ||| (b1 &&& (255 : Int32))) <<< ((8 : Int32) &&& 31)) ||| (b2 &&& (255 : Int32)))), .val (.int (3 : Int32))] [(.int ((((((((0 : Int32) <<< ((8 : Int32) &&& 31)) ||| (b0 &&& (255 : Int32))) <<< ((8 : Int32) &&& 31)) ||| (b1 &&& (255 : Int32))) <<< ((8 : Int32) &&& 31)) ||| (b2 &&& (255 : Int32))) <<< ((8 : Int32) &&& 31)))]))
  refine Wp.via (fun _ k => XS.aloadN X0.here hx rfl (hb hby own_d1_15) rfl rfl k) ?_
  show Wp p e below _ (T0.setTop (mkF m 16 #[.val (.ref a0), .val (.int (0 : Int32)), .val (.int (((((((0 : Int32) <<< ((8 : Int32) &&& 31)) ||| (b0 &&& (255 : Int32))) <<< ((8 : Int32) &&& 31)) ||| (b1 &&& (255 : Int32))) <<< ((8 : Int32) &&& 31)) ||| (b2 &&& (255 : Int32)))), .val (.int (3 : Int32))] [(.ref a0), (.int ((((((((0 : Int32) <<< ((8 : Int32) &&& 31)) ||| (b0 &&& (255 : Int32))) <<< ((8 : Int32) &&& 31)) ||| (b1 &&& (255 : Int32))) <<< ((8 : Int32) &&& 31)) ||| (b2 &&& (255 : Int32))) <<< ((8 : Int32) &&& 31)))]))
  refine Wp.via (fun _ k => XS.iloadN X0.here hx rfl (hb hby own_d1_16) rfl k) ?_
  show Wp p e below _ (T0.setTop (mkF m 17 #[.val (.ref a0), .val (.int (0 : Int32)), .val (.int (((((((0 : Int32) <<< ((8 : Int32) &&& 31)) ||| (b0 &&& (255 : Int32))) <<< ((8 : Int32) &&& 31)) ||| (b1 &&& (255 : Int32))) <<< ((8 : Int32) &&& 31)) ||| (b2 &&& (255 : Int32)))), .val (.int (3 : Int32))] [(.int (3 : Int32)), (.ref a0), (.int ((((((((0 : Int32) <<< ((8 : Int32) &&& 31)) ||| (b0 &&& (255 : Int32))) <<< ((8 : Int32) &&& 31)) ||| (b1 &&& (255 : Int32))) <<< ((8 : Int32) &&& 31)) ||| (b2 &&& (255 : Int32))) <<< ((8 : Int32) &&& 31)))]))
  refine Wp.via (fun _ k => avLdB X0 hx hZ e0 V0 (i := 3) (by decide) rfl (by decide) (w := (.int b3)) hb3 (g := (mkF m 17 #[.val (.ref a0), .val (.int (0 : Int32)), .val (.int (((((((0 : Int32) <<< ((8 : Int32) &&& 31)) ||| (b0 &&& (255 : Int32))) <<< ((8 : Int32) &&& 31)) ||| (b1 &&& (255 : Int32))) <<< ((8 : Int32) &&& 31)) ||| (b2 &&& (255 : Int32)))), .val (.int (3 : Int32))] [(.int (3 : Int32)), (.ref a0), (.int ((((((((0 : Int32) <<< ((8 : Int32) &&& 31)) ||| (b0 &&& (255 : Int32))) <<< ((8 : Int32) &&& 31)) ||| (b1 &&& (255 : Int32))) <<< ((8 : Int32) &&& 31)) ||| (b2 &&& (255 : Int32))) <<< ((8 : Int32) &&& 31)))])) rfl rfl (hb hby own_d1_17) _ k) ?_
  show Wp p e below _ (T0.setTop (mkF m 18 #[.val (.ref a0), .val (.int (0 : Int32)), .val (.int (((((((0 : Int32) <<< ((8 : Int32) &&& 31)) ||| (b0 &&& (255 : Int32))) <<< ((8 : Int32) &&& 31)) ||| (b1 &&& (255 : Int32))) <<< ((8 : Int32) &&& 31)) ||| (b2 &&& (255 : Int32)))), .val (.int (3 : Int32))] [(.int b3), (.int ((((((((0 : Int32) <<< ((8 : Int32) &&& 31)) ||| (b0 &&& (255 : Int32))) <<< ((8 : Int32) &&& 31)) ||| (b1 &&& (255 : Int32))) <<< ((8 : Int32) &&& 31)) ||| (b2 &&& (255 : Int32))) <<< ((8 : Int32) &&& 31)))]))
  refine Wp.via (fun _ k => XS.sipush X0.here hx rfl (hb hby own_d1_18) k) ?_
  show Wp p e below _ (T0.setTop (mkF m 21 #[.val (.ref a0), .val (.int (0 : Int32)), .val (.int (((((((0 : Int32) <<< ((8 : Int32) &&& 31)) ||| (b0 &&& (255 : Int32))) <<< ((8 : Int32) &&& 31)) ||| (b1 &&& (255 : Int32))) <<< ((8 : Int32) &&& 31)) ||| (b2 &&& (255 : Int32)))), .val (.int (3 : Int32))] [(.int (255 : Int32)), (.int b3), (.int ((((((((0 : Int32) <<< ((8 : Int32) &&& 31)) ||| (b0 &&& (255 : Int32))) <<< ((8 : Int32) &&& 31)) ||| (b1 &&& (255 : Int32))) <<< ((8 : Int32) &&& 31)) ||| (b2 &&& (255 : Int32))) <<< ((8 : Int32) &&& 31)))]))
  refine Wp.via (fun _ k => XS.iand X0.here hx rfl (hb hby own_d1_21) rfl k) ?_
  show Wp p e below _ (T0.setTop (mkF m 22 #[.val (.ref a0), .val (.int (0 : Int32)), .val (.int (((((((0 : Int32) <<< ((8 : Int32) &&& 31)) ||| (b0 &&& (255 : Int32))) <<< ((8 : Int32) &&& 31)) ||| (b1 &&& (255 : Int32))) <<< ((8 : Int32) &&& 31)) ||| (b2 &&& (255 : Int32)))), .val (.int (3 : Int32))] [(.int (b3 &&& (255 : Int32))), (.int ((((((((0 : Int32) <<< ((8 : Int32) &&& 31)) ||| (b0 &&& (255 : Int32))) <<< ((8 : Int32) &&& 31)) ||| (b1 &&& (255 : Int32))) <<< ((8 : Int32) &&& 31)) ||| (b2 &&& (255 : Int32))) <<< ((8 : Int32) &&& 31)))]))
  refine Wp.via (fun _ k => XS.ior X0.here hx rfl (hb hby own_d1_22) rfl k) ?_
  show Wp p e below _ (T0.setTop (mkF m 23 #[.val (.ref a0), .val (.int (0 : Int32)), .val (.int (((((((0 : Int32) <<< ((8 : Int32) &&& 31)) ||| (b0 &&& (255 : Int32))) <<< ((8 : Int32) &&& 31)) ||| (b1 &&& (255 : Int32))) <<< ((8 : Int32) &&& 31)) ||| (b2 &&& (255 : Int32)))), .val (.int (3 : Int32))] [(.int (((((((((0 : Int32) <<< ((8 : Int32) &&& 31)) ||| (b0 &&& (255 : Int32))) <<< ((8 : Int32) &&& 31)) ||| (b1 &&& (255 : Int32))) <<< ((8 : Int32) &&& 31)) ||| (b2 &&& (255 : Int32))) <<< ((8 : Int32) &&& 31)) ||| (b3 &&& (255 : Int32))))]))
  refine Wp.via (fun _ k => XS.istoreN X0.here hx rfl (hb hby own_d1_23) rfl (l' := #[.val (.ref a0), .val (.int (0 : Int32)), .val (.int (((((((((0 : Int32) <<< ((8 : Int32) &&& 31)) ||| (b0 &&& (255 : Int32))) <<< ((8 : Int32) &&& 31)) ||| (b1 &&& (255 : Int32))) <<< ((8 : Int32) &&& 31)) ||| (b2 &&& (255 : Int32))) <<< ((8 : Int32) &&& 31)) ||| (b3 &&& (255 : Int32)))), .val (.int (3 : Int32))]) rfl k) ?_
  show Wp p e below _ (T0.setTop (mkF m 24 #[.val (.ref a0), .val (.int (0 : Int32)), .val (.int (((((((((0 : Int32) <<< ((8 : Int32) &&& 31)) ||| (b0 &&& (255 : Int32))) <<< ((8 : Int32) &&& 31)) ||| (b1 &&& (255 : Int32))) <<< ((8 : Int32) &&& 31)) ||| (b2 &&& (255 : Int32))) <<< ((8 : Int32) &&& 31)) ||| (b3 &&& (255 : Int32)))), .val (.int (3 : Int32))] []))
  refine Wp.via (fun _ k => XS.iinc X0.here hx rfl (hb hby own_d1_24) rfl (l' := #[.val (.ref a0), .val (.int (0 : Int32)), .val (.int (((((((((0 : Int32) <<< ((8 : Int32) &&& 31)) ||| (b0 &&& (255 : Int32))) <<< ((8 : Int32) &&& 31)) ||| (b1 &&& (255 : Int32))) <<< ((8 : Int32) &&& 31)) ||| (b2 &&& (255 : Int32))) <<< ((8 : Int32) &&& 31)) ||| (b3 &&& (255 : Int32)))), .val (.int (4 : Int32))]) rfl k) ?_
  show Wp p e below _ (T0.setTop (mkF m 27 #[.val (.ref a0), .val (.int (0 : Int32)), .val (.int (((((((((0 : Int32) <<< ((8 : Int32) &&& 31)) ||| (b0 &&& (255 : Int32))) <<< ((8 : Int32) &&& 31)) ||| (b1 &&& (255 : Int32))) <<< ((8 : Int32) &&& 31)) ||| (b2 &&& (255 : Int32))) <<< ((8 : Int32) &&& 31)) ||| (b3 &&& (255 : Int32)))), .val (.int (4 : Int32))] []))
  refine Wp.via (fun _ k => XS.goto X0.here hx rfl (pc0 := 27) (pc' := 4) rfl (hb hby own_d1_27) (by decide) (by decide) k) ?_
  show Wp p e below _ (T0.setTop (mkF m 4 #[.val (.ref a0), .val (.int (0 : Int32)), .val (.int (((((((((0 : Int32) <<< ((8 : Int32) &&& 31)) ||| (b0 &&& (255 : Int32))) <<< ((8 : Int32) &&& 31)) ||| (b1 &&& (255 : Int32))) <<< ((8 : Int32) &&& 31)) ||| (b2 &&& (255 : Int32))) <<< ((8 : Int32) &&& 31)) ||| (b3 &&& (255 : Int32)))), .val (.int (4 : Int32))] []))
  refine Wp.via (fun _ k => XS.iloadN X0.here hx rfl (hb hby own_d1_4) rfl k) ?_
  show Wp p e below _ (T0.setTop (mkF m 5 #[.val (.ref a0), .val (.int (0 : Int32)), .val (.int (((((((((0 : Int32) <<< ((8 : Int32) &&& 31)) ||| (b0 &&& (255 : Int32))) <<< ((8 : Int32) &&& 31)) ||| (b1 &&& (255 : Int32))) <<< ((8 : Int32) &&& 31)) ||| (b2 &&& (255 : Int32))) <<< ((8 : Int32) &&& 31)) ||| (b3 &&& (255 : Int32)))), .val (.int (4 : Int32))] [(.int (4 : Int32))]))
  refine Wp.via (fun _ k => XS.iloadN X0.here hx rfl (hb hby own_d1_5) rfl k) ?_
  show Wp p e below _ (T0.setTop (mkF m 6 #[.val (.ref a0), .val (.int (0 : Int32)), .val (.int (((((((((0 : Int32) <<< ((8 : Int32) &&& 31)) ||| (b0 &&& (255 : Int32))) <<< ((8 : Int32) &&& 31)) ||| (b1 &&& (255 : Int32))) <<< ((8 : Int32) &&& 31)) ||| (b2 &&& (255 : Int32))) <<< ((8 : Int32) &&& 31)) ||| (b3 &&& (255 : Int32)))), .val (.int (4 : Int32))] [(.int (0 : Int32)), (.int (4 : Int32))]))
  refine Wp.via (fun _ k => XS.iconst X0.here hx rfl (hb hby own_d1_6) k) ?_
  show Wp p e below _ (T0.setTop (mkF m 7 #[.val (.ref a0), .val (.int (0 : Int32)), .val (.int (((((((((0 : Int32) <<< ((8 : Int32) &&& 31)) ||| (b0 &&& (255 : Int32))) <<< ((8 : Int32) &&& 31)) ||| (b1 &&& (255 : Int32))) <<< ((8 : Int32) &&& 31)) ||| (b2 &&& (255 : Int32))) <<< ((8 : Int32) &&& 31)) ||| (b3 &&& (255 : Int32)))), .val (.int (4 : Int32))] [(.int (4 : Int32)), (.int (0 : Int32)), (.int (4 : Int32))]))
  refine Wp.via (fun _ k => XS.iadd X0.here hx rfl (hb hby own_d1_7) rfl k) ?_
  show Wp p e below _ (T0.setTop (mkF m 8 #[.val (.ref a0), .val (.int (0 : Int32)), .val (.int (((((((((0 : Int32) <<< ((8 : Int32) &&& 31)) ||| (b0 &&& (255 : Int32))) <<< ((8 : Int32) &&& 31)) ||| (b1 &&& (255 : Int32))) <<< ((8 : Int32) &&& 31)) ||| (b2 &&& (255 : Int32))) <<< ((8 : Int32) &&& 31)) ||| (b3 &&& (255 : Int32)))), .val (.int (4 : Int32))] [(.int (4 : Int32)), (.int (4 : Int32))]))
  refine Wp.via (fun _ k => XS.icmpYes X0.here hx rfl (pc0 := 8) (pc' := 30) rfl (hb hby own_d1_8) rfl (flt (by decide)).2.1 (by decide) (by decide) k) ?_
  show Wp p e below _ (T0.setTop (mkF m 30 #[.val (.ref a0), .val (.int (0 : Int32)), .val (.int (((((((((0 : Int32) <<< ((8 : Int32) &&& 31)) ||| (b0 &&& (255 : Int32))) <<< ((8 : Int32) &&& 31)) ||| (b1 &&& (255 : Int32))) <<< ((8 : Int32) &&& 31)) ||| (b2 &&& (255 : Int32))) <<< ((8 : Int32) &&& 31)) ||| (b3 &&& (255 : Int32)))), .val (.int (4 : Int32))] []))
  refine Wp.via (fun _ k => XS.iloadN X0.here hx rfl (hb hby own_d1_30) rfl k) ?_
  show Wp p e below _ (T0.setTop (mkF m 31 #[.val (.ref a0), .val (.int (0 : Int32)), .val (.int (((((((((0 : Int32) <<< ((8 : Int32) &&& 31)) ||| (b0 &&& (255 : Int32))) <<< ((8 : Int32) &&& 31)) ||| (b1 &&& (255 : Int32))) <<< ((8 : Int32) &&& 31)) ||| (b2 &&& (255 : Int32))) <<< ((8 : Int32) &&& 31)) ||| (b3 &&& (255 : Int32)))), .val (.int (4 : Int32))] [(.int (((((((((0 : Int32) <<< ((8 : Int32) &&& 31)) ||| (b0 &&& (255 : Int32))) <<< ((8 : Int32) &&& 31)) ||| (b1 &&& (255 : Int32))) <<< ((8 : Int32) &&& 31)) ||| (b2 &&& (255 : Int32))) <<< ((8 : Int32) &&& 31)) ||| (b3 &&& (255 : Int32))))]))
  exact Wp.retI X0 hlk hx hret (by simp) rfl (hb hby own_d1_31) ⟨rfl, NF0, e0⟩ (by decide) (by decide)
theorem own_ef1_1 (m : MethodId) (a0 : Addr) : entryFrame m #[(.ref a0), (.int (1 : Int32))] 4 = mkF m 0 #[.val (.ref a0), .val (.int (1 : Int32)), .unset, .unset] [] := by first | (simp [entryFrame, mkF, argsToLocals, Value.category]; done) | rfl
def Qo1_1 (Z : State) (a0 : Addr) (f : Nat → Value) (b0 b1 b2 b3 : Int32) (h0 : Heap) (n0 : Nat) (v : Option Value) (h : Heap) (L : List Loc) : Prop := v = some (.int (own_s b0 b1 b2 b3)) ∧ Fr n0 L ∧ h = h0
set_option maxRecDepth 65536 in
set_option maxHeartbeats 40000000 in
theorem rm1_1 (l : Launch) (Z : State) (aw : Array Value) (hw : ∀ d ∈ tables_1, d.before aw Z = true) (ws : List Jvm.Cond) (a0 : Addr) (f : Nat → Value) (b0 b1 b2 b3 : Int32) (h0 : Heap) (n0 : Nat) (Z0 : n0 ≤ h0.size) (V0 : Av Z h0 a0 .byte 8 f) (hb0 : f 1 = .int b0) (hb1 : f 2 = .int b1) (hb2 : f 3 = .int b2) (hb3 : f 4 = .int b3) :
    MetFree l (⟨"com/example/inverso/inverso/index/CheckValue", "stored", "([BI)I"⟩ : MethodName) (head1 (Jvm.Cond.code (⟨"com/example/inverso/inverso/index/CheckValue", "stored", "([BI)I"⟩ : MethodName) prog_51_method_9_code 4 (some .int) :: ws) ({ frames := 0, cells := 0, slots := 0, locals := 0 } : Room)) (fun a U => a = #[(.ref a0), (.int (1 : Int32))] ∧ Z.Warmed39 U.vm ∧ U.heap = h0) (fun _ _ _ _ _ => True) (fun _ U o U' => ∃ v L, o = .returned v ∧ (Qo1_1 Z a0 f b0 b1 b2 b3 h0 n0) v U'.heap L ∧ FrameEnd U o U' L ({ frames := 0, cells := 0, slots := 0, locals := 0 } : Room).cells ({ frames := 0, cells := 0, slots := 0, locals := 0 } : Room).slots) := by
  refine ofWp (Q := Qo1_1 Z a0 f b0 b1 b2 b3 h0 n0) own_pl1 (fun m => own_ef1_1 m a0) ?_
  intro p e s m below meth c T0 hx hby hml hown hnm hlk hret hZ X0 e0
  change s.vm.findClass "com/example/inverso/inverso/index/CheckValue" = some m.cls at hown
  have NF0 := Fr.nil n0
  refine Wp.via (fun _ k => XS.iconst X0.here hx rfl (hb hby own_d1_0) k) ?_
  show Wp p e below _ (T0.setTop (mkF m 1 #[.val (.ref a0), .val (.int (1 : Int32)), .unset, .unset] [(.int (0 : Int32))]))
  refine Wp.via (fun _ k => XS.istoreN X0.here hx rfl (hb hby own_d1_1) rfl (l' := #[.val (.ref a0), .val (.int (1 : Int32)), .val (.int (0 : Int32)), .unset]) rfl k) ?_
  show Wp p e below _ (T0.setTop (mkF m 2 #[.val (.ref a0), .val (.int (1 : Int32)), .val (.int (0 : Int32)), .unset] []))
  refine Wp.via (fun _ k => XS.iloadN X0.here hx rfl (hb hby own_d1_2) rfl k) ?_
  show Wp p e below _ (T0.setTop (mkF m 3 #[.val (.ref a0), .val (.int (1 : Int32)), .val (.int (0 : Int32)), .unset] [(.int (1 : Int32))]))
  refine Wp.via (fun _ k => XS.istoreN X0.here hx rfl (hb hby own_d1_3) rfl (l' := #[.val (.ref a0), .val (.int (1 : Int32)), .val (.int (0 : Int32)), .val (.int (1 : Int32))]) rfl k) ?_
  show Wp p e below _ (T0.setTop (mkF m 4 #[.val (.ref a0), .val (.int (1 : Int32)), .val (.int (0 : Int32)), .val (.int (1 : Int32))] []))
  refine Wp.via (fun _ k => XS.iloadN X0.here hx rfl (hb hby own_d1_4) rfl k) ?_
  show Wp p e below _ (T0.setTop (mkF m 5 #[.val (.ref a0), .val (.int (1 : Int32)), .val (.int (0 : Int32)), .val (.int (1 : Int32))] [(.int (1 : Int32))]))
  refine Wp.via (fun _ k => XS.iloadN X0.here hx rfl (hb hby own_d1_5) rfl k) ?_
  show Wp p e below _ (T0.setTop (mkF m 6 #[.val (.ref a0), .val (.int (1 : Int32)), .val (.int (0 : Int32)), .val (.int (1 : Int32))] [(.int (1 : Int32)), (.int (1 : Int32))]))
  refine Wp.via (fun _ k => XS.iconst X0.here hx rfl (hb hby own_d1_6) k) ?_
  show Wp p e below _ (T0.setTop (mkF m 7 #[.val (.ref a0), .val (.int (1 : Int32)), .val (.int (0 : Int32)), .val (.int (1 : Int32))] [(.int (4 : Int32)), (.int (1 : Int32)), (.int (1 : Int32))]))
  refine Wp.via (fun _ k => XS.iadd X0.here hx rfl (hb hby own_d1_7) rfl k) ?_
  show Wp p e below _ (T0.setTop (mkF m 8 #[.val (.ref a0), .val (.int (1 : Int32)), .val (.int (0 : Int32)), .val (.int (1 : Int32))] [(.int (5 : Int32)), (.int (1 : Int32))]))
  refine Wp.via (fun _ k => XS.icmpNo X0.here hx rfl (hb hby own_d1_8) rfl (tlt (by decide)).2.1 k) ?_
  show Wp p e below _ (T0.setTop (mkF m 11 #[.val (.ref a0), .val (.int (1 : Int32)), .val (.int (0 : Int32)), .val (.int (1 : Int32))] []))
  refine Wp.via (fun _ k => XS.iloadN X0.here hx rfl (hb hby own_d1_11) rfl k) ?_
  show Wp p e below _ (T0.setTop (mkF m 12 #[.val (.ref a0), .val (.int (1 : Int32)), .val (.int (0 : Int32)), .val (.int (1 : Int32))] [(.int (0 : Int32))]))
  refine Wp.via (fun _ k => XS.bipush X0.here hx rfl (hb hby own_d1_12) k) ?_
  show Wp p e below _ (T0.setTop (mkF m 14 #[.val (.ref a0), .val (.int (1 : Int32)), .val (.int (0 : Int32)), .val (.int (1 : Int32))] [(.int (8 : Int32)), (.int (0 : Int32))]))
  refine Wp.via (fun _ k => XS.ishl X0.here hx rfl (hb hby own_d1_14) rfl k) ?_
  show Wp p e below _ (T0.setTop (mkF m 15 #[.val (.ref a0), .val (.int (1 : Int32)), .val (.int (0 : Int32)), .val (.int (1 : Int32))] [(.int ((0 : Int32) <<< ((8 : Int32) &&& 31)))]))
  refine Wp.via (fun _ k => XS.aloadN X0.here hx rfl (hb hby own_d1_15) rfl rfl k) ?_
  show Wp p e below _ (T0.setTop (mkF m 16 #[.val (.ref a0), .val (.int (1 : Int32)), .val (.int (0 : Int32)), .val (.int (1 : Int32))] [(.ref a0), (.int ((0 : Int32) <<< ((8 : Int32) &&& 31)))]))
  refine Wp.via (fun _ k => XS.iloadN X0.here hx rfl (hb hby own_d1_16) rfl k) ?_
  show Wp p e below _ (T0.setTop (mkF m 17 #[.val (.ref a0), .val (.int (1 : Int32)), .val (.int (0 : Int32)), .val (.int (1 : Int32))] [(.int (1 : Int32)), (.ref a0), (.int ((0 : Int32) <<< ((8 : Int32) &&& 31)))]))
  refine Wp.via (fun _ k => avLdB X0 hx hZ e0 V0 (i := 1) (by decide) rfl (by decide) (w := (.int b0)) hb0 (g := (mkF m 17 #[.val (.ref a0), .val (.int (1 : Int32)), .val (.int (0 : Int32)), .val (.int (1 : Int32))] [(.int (1 : Int32)), (.ref a0), (.int ((0 : Int32) <<< ((8 : Int32) &&& 31)))])) rfl rfl (hb hby own_d1_17) _ k) ?_
  show Wp p e below _ (T0.setTop (mkF m 18 #[.val (.ref a0), .val (.int (1 : Int32)), .val (.int (0 : Int32)), .val (.int (1 : Int32))] [(.int b0), (.int ((0 : Int32) <<< ((8 : Int32) &&& 31)))]))
  refine Wp.via (fun _ k => XS.sipush X0.here hx rfl (hb hby own_d1_18) k) ?_
  show Wp p e below _ (T0.setTop (mkF m 21 #[.val (.ref a0), .val (.int (1 : Int32)), .val (.int (0 : Int32)), .val (.int (1 : Int32))] [(.int (255 : Int32)), (.int b0), (.int ((0 : Int32) <<< ((8 : Int32) &&& 31)))]))
  refine Wp.via (fun _ k => XS.iand X0.here hx rfl (hb hby own_d1_21) rfl k) ?_
  show Wp p e below _ (T0.setTop (mkF m 22 #[.val (.ref a0), .val (.int (1 : Int32)), .val (.int (0 : Int32)), .val (.int (1 : Int32))] [(.int (b0 &&& (255 : Int32))), (.int ((0 : Int32) <<< ((8 : Int32) &&& 31)))]))
  refine Wp.via (fun _ k => XS.ior X0.here hx rfl (hb hby own_d1_22) rfl k) ?_
  show Wp p e below _ (T0.setTop (mkF m 23 #[.val (.ref a0), .val (.int (1 : Int32)), .val (.int (0 : Int32)), .val (.int (1 : Int32))] [(.int (((0 : Int32) <<< ((8 : Int32) &&& 31)) ||| (b0 &&& (255 : Int32))))]))
  refine Wp.via (fun _ k => XS.istoreN X0.here hx rfl (hb hby own_d1_23) rfl (l' := #[.val (.ref a0), .val (.int (1 : Int32)), .val (.int (((0 : Int32) <<< ((8 : Int32) &&& 31)) ||| (b0 &&& (255 : Int32)))), .val (.int (1 : Int32))]) rfl k) ?_
  show Wp p e below _ (T0.setTop (mkF m 24 #[.val (.ref a0), .val (.int (1 : Int32)), .val (.int (((0 : Int32) <<< ((8 : Int32) &&& 31)) ||| (b0 &&& (255 : Int32)))), .val (.int (1 : Int32))] []))
  refine Wp.via (fun _ k => XS.iinc X0.here hx rfl (hb hby own_d1_24) rfl (l' := #[.val (.ref a0), .val (.int (1 : Int32)), .val (.int (((0 : Int32) <<< ((8 : Int32) &&& 31)) ||| (b0 &&& (255 : Int32)))), .val (.int (2 : Int32))]) rfl k) ?_
  show Wp p e below _ (T0.setTop (mkF m 27 #[.val (.ref a0), .val (.int (1 : Int32)), .val (.int (((0 : Int32) <<< ((8 : Int32) &&& 31)) ||| (b0 &&& (255 : Int32)))), .val (.int (2 : Int32))] []))
  refine Wp.via (fun _ k => XS.goto X0.here hx rfl (pc0 := 27) (pc' := 4) rfl (hb hby own_d1_27) (by decide) (by decide) k) ?_
  show Wp p e below _ (T0.setTop (mkF m 4 #[.val (.ref a0), .val (.int (1 : Int32)), .val (.int (((0 : Int32) <<< ((8 : Int32) &&& 31)) ||| (b0 &&& (255 : Int32)))), .val (.int (2 : Int32))] []))
  refine Wp.via (fun _ k => XS.iloadN X0.here hx rfl (hb hby own_d1_4) rfl k) ?_
  show Wp p e below _ (T0.setTop (mkF m 5 #[.val (.ref a0), .val (.int (1 : Int32)), .val (.int (((0 : Int32) <<< ((8 : Int32) &&& 31)) ||| (b0 &&& (255 : Int32)))), .val (.int (2 : Int32))] [(.int (2 : Int32))]))
  refine Wp.via (fun _ k => XS.iloadN X0.here hx rfl (hb hby own_d1_5) rfl k) ?_
  show Wp p e below _ (T0.setTop (mkF m 6 #[.val (.ref a0), .val (.int (1 : Int32)), .val (.int (((0 : Int32) <<< ((8 : Int32) &&& 31)) ||| (b0 &&& (255 : Int32)))), .val (.int (2 : Int32))] [(.int (1 : Int32)), (.int (2 : Int32))]))
  refine Wp.via (fun _ k => XS.iconst X0.here hx rfl (hb hby own_d1_6) k) ?_
  show Wp p e below _ (T0.setTop (mkF m 7 #[.val (.ref a0), .val (.int (1 : Int32)), .val (.int (((0 : Int32) <<< ((8 : Int32) &&& 31)) ||| (b0 &&& (255 : Int32)))), .val (.int (2 : Int32))] [(.int (4 : Int32)), (.int (1 : Int32)), (.int (2 : Int32))]))
  refine Wp.via (fun _ k => XS.iadd X0.here hx rfl (hb hby own_d1_7) rfl k) ?_
  show Wp p e below _ (T0.setTop (mkF m 8 #[.val (.ref a0), .val (.int (1 : Int32)), .val (.int (((0 : Int32) <<< ((8 : Int32) &&& 31)) ||| (b0 &&& (255 : Int32)))), .val (.int (2 : Int32))] [(.int (5 : Int32)), (.int (2 : Int32))]))
  refine Wp.via (fun _ k => XS.icmpNo X0.here hx rfl (hb hby own_d1_8) rfl (tlt (by decide)).2.1 k) ?_
  show Wp p e below _ (T0.setTop (mkF m 11 #[.val (.ref a0), .val (.int (1 : Int32)), .val (.int (((0 : Int32) <<< ((8 : Int32) &&& 31)) ||| (b0 &&& (255 : Int32)))), .val (.int (2 : Int32))] []))
  refine Wp.via (fun _ k => XS.iloadN X0.here hx rfl (hb hby own_d1_11) rfl k) ?_
  show Wp p e below _ (T0.setTop (mkF m 12 #[.val (.ref a0), .val (.int (1 : Int32)), .val (.int (((0 : Int32) <<< ((8 : Int32) &&& 31)) ||| (b0 &&& (255 : Int32)))), .val (.int (2 : Int32))] [(.int (((0 : Int32) <<< ((8 : Int32) &&& 31)) ||| (b0 &&& (255 : Int32))))]))
  refine Wp.via (fun _ k => XS.bipush X0.here hx rfl (hb hby own_d1_12) k) ?_
  show Wp p e below _ (T0.setTop (mkF m 14 #[.val (.ref a0), .val (.int (1 : Int32)), .val (.int (((0 : Int32) <<< ((8 : Int32) &&& 31)) ||| (b0 &&& (255 : Int32)))), .val (.int (2 : Int32))] [(.int (8 : Int32)), (.int (((0 : Int32) <<< ((8 : Int32) &&& 31)) ||| (b0 &&& (255 : Int32))))]))
  refine Wp.via (fun _ k => XS.ishl X0.here hx rfl (hb hby own_d1_14) rfl k) ?_
  show Wp p e below _ (T0.setTop (mkF m 15 #[.val (.ref a0), .val (.int (1 : Int32)), .val (.int (((0 : Int32) <<< ((8 : Int32) &&& 31)) ||| (b0 &&& (255 : Int32)))), .val (.int (2 : Int32))] [(.int ((((0 : Int32) <<< ((8 : Int32) &&& 31)) ||| (b0 &&& (255 : Int32))) <<< ((8 : Int32) &&& 31)))]))
  refine Wp.via (fun _ k => XS.aloadN X0.here hx rfl (hb hby own_d1_15) rfl rfl k) ?_
  show Wp p e below _ (T0.setTop (mkF m 16 #[.val (.ref a0), .val (.int (1 : Int32)), .val (.int (((0 : Int32) <<< ((8 : Int32) &&& 31)) ||| (b0 &&& (255 : Int32)))), .val (.int (2 : Int32))] [(.ref a0), (.int ((((0 : Int32) <<< ((8 : Int32) &&& 31)) ||| (b0 &&& (255 : Int32))) <<< ((8 : Int32) &&& 31)))]))
  refine Wp.via (fun _ k => XS.iloadN X0.here hx rfl (hb hby own_d1_16) rfl k) ?_
  show Wp p e below _ (T0.setTop (mkF m 17 #[.val (.ref a0), .val (.int (1 : Int32)), .val (.int (((0 : Int32) <<< ((8 : Int32) &&& 31)) ||| (b0 &&& (255 : Int32)))), .val (.int (2 : Int32))] [(.int (2 : Int32)), (.ref a0), (.int ((((0 : Int32) <<< ((8 : Int32) &&& 31)) ||| (b0 &&& (255 : Int32))) <<< ((8 : Int32) &&& 31)))]))
  refine Wp.via (fun _ k => avLdB X0 hx hZ e0 V0 (i := 2) (by decide) rfl (by decide) (w := (.int b1)) hb1 (g := (mkF m 17 #[.val (.ref a0), .val (.int (1 : Int32)), .val (.int (((0 : Int32) <<< ((8 : Int32) &&& 31)) ||| (b0 &&& (255 : Int32)))), .val (.int (2 : Int32))] [(.int (2 : Int32)), (.ref a0), (.int ((((0 : Int32) <<< ((8 : Int32) &&& 31)) ||| (b0 &&& (255 : Int32))) <<< ((8 : Int32) &&& 31)))])) rfl rfl (hb hby own_d1_17) _ k) ?_
  show Wp p e below _ (T0.setTop (mkF m 18 #[.val (.ref a0), .val (.int (1 : Int32)), .val (.int (((0 : Int32) <<< ((8 : Int32) &&& 31)) ||| (b0 &&& (255 : Int32)))), .val (.int (2 : Int32))] [(.int b1), (.int ((((0 : Int32) <<< ((8 : Int32) &&& 31)) ||| (b0 &&& (255 : Int32))) <<< ((8 : Int32) &&& 31)))]))
  refine Wp.via (fun _ k => XS.sipush X0.here hx rfl (hb hby own_d1_18) k) ?_
  show Wp p e below _ (T0.setTop (mkF m 21 #[.val (.ref a0), .val (.int (1 : Int32)), .val (.int (((0 : Int32) <<< ((8 : Int32) &&& 31)) ||| (b0 &&& (255 : Int32)))), .val (.int (2 : Int32))] [(.int (255 : Int32)), (.int b1), (.int ((((0 : Int32) <<< ((8 : Int32) &&& 31)) ||| (b0 &&& (255 : Int32))) <<< ((8 : Int32) &&& 31)))]))
  refine Wp.via (fun _ k => XS.iand X0.here hx rfl (hb hby own_d1_21) rfl k) ?_
  show Wp p e below _ (T0.setTop (mkF m 22 #[.val (.ref a0), .val (.int (1 : Int32)), .val (.int (((0 : Int32) <<< ((8 : Int32) &&& 31)) ||| (b0 &&& (255 : Int32)))), .val (.int (2 : Int32))] [(.int (b1 &&& (255 : Int32))), (.int ((((0 : Int32) <<< ((8 : Int32) &&& 31)) ||| (b0 &&& (255 : Int32))) <<< ((8 : Int32) &&& 31)))]))
  refine Wp.via (fun _ k => XS.ior X0.here hx rfl (hb hby own_d1_22) rfl k) ?_
  show Wp p e below _ (T0.setTop (mkF m 23 #[.val (.ref a0), .val (.int (1 : Int32)), .val (.int (((0 : Int32) <<< ((8 : Int32) &&& 31)) ||| (b0 &&& (255 : Int32)))), .val (.int (2 : Int32))] [(.int (((((0 : Int32) <<< ((8 : Int32) &&& 31)) ||| (b0 &&& (255 : Int32))) <<< ((8 : Int32) &&& 31)) ||| (b1 &&& (255 : Int32))))]))
  refine Wp.via (fun _ k => XS.istoreN X0.here hx rfl (hb hby own_d1_23) rfl (l' := #[.val (.ref a0), .val (.int (1 : Int32)), .val (.int (((((0 : Int32) <<< ((8 : Int32) &&& 31)) ||| (b0 &&& (255 : Int32))) <<< ((8 : Int32) &&& 31)) ||| (b1 &&& (255 : Int32)))), .val (.int (2 : Int32))]) rfl k) ?_
  show Wp p e below _ (T0.setTop (mkF m 24 #[.val (.ref a0), .val (.int (1 : Int32)), .val (.int (((((0 : Int32) <<< ((8 : Int32) &&& 31)) ||| (b0 &&& (255 : Int32))) <<< ((8 : Int32) &&& 31)) ||| (b1 &&& (255 : Int32)))), .val (.int (2 : Int32))] []))
  refine Wp.via (fun _ k => XS.iinc X0.here hx rfl (hb hby own_d1_24) rfl (l' := #[.val (.ref a0), .val (.int (1 : Int32)), .val (.int (((((0 : Int32) <<< ((8 : Int32) &&& 31)) ||| (b0 &&& (255 : Int32))) <<< ((8 : Int32) &&& 31)) ||| (b1 &&& (255 : Int32)))), .val (.int (3 : Int32))]) rfl k) ?_
  show Wp p e below _ (T0.setTop (mkF m 27 #[.val (.ref a0), .val (.int (1 : Int32)), .val (.int (((((0 : Int32) <<< ((8 : Int32) &&& 31)) ||| (b0 &&& (255 : Int32))) <<< ((8 : Int32) &&& 31)) ||| (b1 &&& (255 : Int32)))), .val (.int (3 : Int32))] []))
  refine Wp.via (fun _ k => XS.goto X0.here hx rfl (pc0 := 27) (pc' := 4) rfl (hb hby own_d1_27) (by decide) (by decide) k) ?_
  show Wp p e below _ (T0.setTop (mkF m 4 #[.val (.ref a0), .val (.int (1 : Int32)), .val (.int (((((0 : Int32) <<< ((8 : Int32) &&& 31)) ||| (b0 &&& (255 : Int32))) <<< ((8 : Int32) &&& 31)) ||| (b1 &&& (255 : Int32)))), .val (.int (3 : Int32))] []))
  refine Wp.via (fun _ k => XS.iloadN X0.here hx rfl (hb hby own_d1_4) rfl k) ?_
  show Wp p e below _ (T0.setTop (mkF m 5 #[.val (.ref a0), .val (.int (1 : Int32)), .val (.int (((((0 : Int32) <<< ((8 : Int32) &&& 31)) ||| (b0 &&& (255 : Int32))) <<< ((8 : Int32) &&& 31)) ||| (b1 &&& (255 : Int32)))), .val (.int (3 : Int32))] [(.int (3 : Int32))]))
  refine Wp.via (fun _ k => XS.iloadN X0.here hx rfl (hb hby own_d1_5) rfl k) ?_
  show Wp p e below _ (T0.setTop (mkF m 6 #[.val (.ref a0), .val (.int (1 : Int32)), .val (.int (((((0 : Int32) <<< ((8 : Int32) &&& 31)) ||| (b0 &&& (255 : Int32))) <<< ((8 : Int32) &&& 31)) ||| (b1 &&& (255 : Int32)))), .val (.int (3 : Int32))] [(.int (1 : Int32)), (.int (3 : Int32))]))
  refine Wp.via (fun _ k => XS.iconst X0.here hx rfl (hb hby own_d1_6) k) ?_
  show Wp p e below _ (T0.setTop (mkF m 7 #[.val (.ref a0), .val (.int (1 : Int32)), .val (.int (((((0 : Int32) <<< ((8 : Int32) &&& 31)) ||| (b0 &&& (255 : Int32))) <<< ((8 : Int32) &&& 31)) ||| (b1 &&& (255 : Int32)))), .val (.int (3 : Int32))] [(.int (4 : Int32)), (.int (1 : Int32)), (.int (3 : Int32))]))
  refine Wp.via (fun _ k => XS.iadd X0.here hx rfl (hb hby own_d1_7) rfl k) ?_
  show Wp p e below _ (T0.setTop (mkF m 8 #[.val (.ref a0), .val (.int (1 : Int32)), .val (.int (((((0 : Int32) <<< ((8 : Int32) &&& 31)) ||| (b0 &&& (255 : Int32))) <<< ((8 : Int32) &&& 31)) ||| (b1 &&& (255 : Int32)))), .val (.int (3 : Int32))] [(.int (5 : Int32)), (.int (3 : Int32))]))
  refine Wp.via (fun _ k => XS.icmpNo X0.here hx rfl (hb hby own_d1_8) rfl (tlt (by decide)).2.1 k) ?_
  show Wp p e below _ (T0.setTop (mkF m 11 #[.val (.ref a0), .val (.int (1 : Int32)), .val (.int (((((0 : Int32) <<< ((8 : Int32) &&& 31)) ||| (b0 &&& (255 : Int32))) <<< ((8 : Int32) &&& 31)) ||| (b1 &&& (255 : Int32)))), .val (.int (3 : Int32))] []))
  refine Wp.via (fun _ k => XS.iloadN X0.here hx rfl (hb hby own_d1_11) rfl k) ?_
  show Wp p e below _ (T0.setTop (mkF m 12 #[.val (.ref a0), .val (.int (1 : Int32)), .val (.int (((((0 : Int32) <<< ((8 : Int32) &&& 31)) ||| (b0 &&& (255 : Int32))) <<< ((8 : Int32) &&& 31)) ||| (b1 &&& (255 : Int32)))), .val (.int (3 : Int32))] [(.int (((((0 : Int32) <<< ((8 : Int32) &&& 31)) ||| (b0 &&& (255 : Int32))) <<< ((8 : Int32) &&& 31)) ||| (b1 &&& (255 : Int32))))]))
  refine Wp.via (fun _ k => XS.bipush X0.here hx rfl (hb hby own_d1_12) k) ?_
  show Wp p e below _ (T0.setTop (mkF m 14 #[.val (.ref a0), .val (.int (1 : Int32)), .val (.int (((((0 : Int32) <<< ((8 : Int32) &&& 31)) ||| (b0 &&& (255 : Int32))) <<< ((8 : Int32) &&& 31)) ||| (b1 &&& (255 : Int32)))), .val (.int (3 : Int32))] [(.int (8 : Int32)), (.int (((((0 : Int32) <<< ((8 : Int32) &&& 31)) ||| (b0 &&& (255 : Int32))) <<< ((8 : Int32) &&& 31)) ||| (b1 &&& (255 : Int32))))]))
  refine Wp.via (fun _ k => XS.ishl X0.here hx rfl (hb hby own_d1_14) rfl k) ?_
  show Wp p e below _ (T0.setTop (mkF m 15 #[.val (.ref a0), .val (.int (1 : Int32)), .val (.int (((((0 : Int32) <<< ((8 : Int32) &&& 31)) ||| (b0 &&& (255 : Int32))) <<< ((8 : Int32) &&& 31)) ||| (b1 &&& (255 : Int32)))), .val (.int (3 : Int32))] [(.int ((((((0 : Int32) <<< ((8 : Int32) &&& 31)) ||| (b0 &&& (255 : Int32))) <<< ((8 : Int32) &&& 31)) ||| (b1 &&& (255 : Int32))) <<< ((8 : Int32) &&& 31)))]))
  refine Wp.via (fun _ k => XS.aloadN X0.here hx rfl (hb hby own_d1_15) rfl rfl k) ?_
  show Wp p e below _ (T0.setTop (mkF m 16 #[.val (.ref a0), .val (.int (1 : Int32)), .val (.int (((((0 : Int32) <<< ((8 : Int32) &&& 31)) ||| (b0 &&& (255 : Int32))) <<< ((8 : Int32) &&& 31)) ||| (b1 &&& (255 : Int32)))), .val (.int (3 : Int32))] [(.ref a0), (.int ((((((0 : Int32) <<< ((8 : Int32) &&& 31)) ||| (b0 &&& (255 : Int32))) <<< ((8 : Int32) &&& 31)) ||| (b1 &&& (255 : Int32))) <<< ((8 : Int32) &&& 31)))]))
  refine Wp.via (fun _ k => XS.iloadN X0.here hx rfl (hb hby own_d1_16) rfl k) ?_
  show Wp p e below _ (T0.setTop (mkF m 17 #[.val (.ref a0), .val (.int (1 : Int32)), .val (.int (((((0 : Int32) <<< ((8 : Int32) &&& 31)) ||| (b0 &&& (255 : Int32))) <<< ((8 : Int32) &&& 31)) ||| (b1 &&& (255 : Int32)))), .val (.int (3 : Int32))] [(.int (3 : Int32)), (.ref a0), (.int ((((((0 : Int32) <<< ((8 : Int32) &&& 31)) ||| (b0 &&& (255 : Int32))) <<< ((8 : Int32) &&& 31)) ||| (b1 &&& (255 : Int32))) <<< ((8 : Int32) &&& 31)))]))
  refine Wp.via (fun _ k => avLdB X0 hx hZ e0 V0 (i := 3) (by decide) rfl (by decide) (w := (.int b2)) hb2 (g := (mkF m 17 #[.val (.ref a0), .val (.int (1 : Int32)), .val (.int (((((0 : Int32) <<< ((8 : Int32) &&& 31)) ||| (b0 &&& (255 : Int32))) <<< ((8 : Int32) &&& 31)) ||| (b1 &&& (255 : Int32)))), .val (.int (3 : Int32))] [(.int (3 : Int32)), (.ref a0), (.int ((((((0 : Int32) <<< ((8 : Int32) &&& 31)) ||| (b0 &&& (255 : Int32))) <<< ((8 : Int32) &&& 31)) ||| (b1 &&& (255 : Int32))) <<< ((8 : Int32) &&& 31)))])) rfl rfl (hb hby own_d1_17) _ k) ?_
  show Wp p e below _ (T0.setTop (mkF m 18 #[.val (.ref a0), .val (.int (1 : Int32)), .val (.int (((((0 : Int32) <<< ((8 : Int32) &&& 31)) ||| (b0 &&& (255 : Int32))) <<< ((8 : Int32) &&& 31)) ||| (b1 &&& (255 : Int32)))), .val (.int (3 : Int32))] [(.int b2), (.int ((((((0 : Int32) <<< ((8 : Int32) &&& 31)) ||| (b0 &&& (255 : Int32))) <<< ((8 : Int32) &&& 31)) ||| (b1 &&& (255 : Int32))) <<< ((8 : Int32) &&& 31)))]))
  refine Wp.via (fun _ k => XS.sipush X0.here hx rfl (hb hby own_d1_18) k) ?_
  show Wp p e below _ (T0.setTop (mkF m 21 #[.val (.ref a0), .val (.int (1 : Int32)), .val (.int (((((0 : Int32) <<< ((8 : Int32) &&& 31)) ||| (b0 &&& (255 : Int32))) <<< ((8 : Int32) &&& 31)) ||| (b1 &&& (255 : Int32)))), .val (.int (3 : Int32))] [(.int (255 : Int32)), (.int b2), (.int ((((((0 : Int32) <<< ((8 : Int32) &&& 31)) ||| (b0 &&& (255 : Int32))) <<< ((8 : Int32) &&& 31)) ||| (b1 &&& (255 : Int32))) <<< ((8 : Int32) &&& 31)))]))
  refine Wp.via (fun _ k => XS.iand X0.here hx rfl (hb hby own_d1_21) rfl k) ?_
  show Wp p e below _ (T0.setTop (mkF m 22 #[.val (.ref a0), .val (.int (1 : Int32)), .val (.int (((((0 : Int32) <<< ((8 : Int32) &&& 31)) ||| (b0 &&& (255 : Int32))) <<< ((8 : Int32) &&& 31)) ||| (b1 &&& (255 : Int32)))), .val (.int (3 : Int32))] [(.int (b2 &&& (255 : Int32))), (.int ((((((0 : Int32) <<< ((8 : Int32) &&& 31)) ||| (b0 &&& (255 : Int32))) <<< ((8 : Int32) &&& 31)) ||| (b1 &&& (255 : Int32))) <<< ((8 : Int32) &&& 31)))]))
  refine Wp.via (fun _ k => XS.ior X0.here hx rfl (hb hby own_d1_22) rfl k) ?_
  show Wp p e below _ (T0.setTop (mkF m 23 #[.val (.ref a0), .val (.int (1 : Int32)), .val (.int (((((0 : Int32) <<< ((8 : Int32) &&& 31)) ||| (b0 &&& (255 : Int32))) <<< ((8 : Int32) &&& 31)) ||| (b1 &&& (255 : Int32)))), .val (.int (3 : Int32))] [(.int (((((((0 : Int32) <<< ((8 : Int32) &&& 31)) ||| (b0 &&& (255 : Int32))) <<< ((8 : Int32) &&& 31)) ||| (b1 &&& (255 : Int32))) <<< ((8 : Int32) &&& 31)) ||| (b2 &&& (255 : Int32))))]))
  refine Wp.via (fun _ k => XS.istoreN X0.here hx rfl (hb hby own_d1_23) rfl (l' := #[.val (.ref a0), .val (.int (1 : Int32)), .val (.int (((((((0 : Int32) <<< ((8 : Int32) &&& 31)) ||| (b0 &&& (255 : Int32))) <<< ((8 : Int32) &&& 31)) ||| (b1 &&& (255 : Int32))) <<< ((8 : Int32) &&& 31)) ||| (b2 &&& (255 : Int32)))), .val (.int (3 : Int32))]) rfl k) ?_
  show Wp p e below _ (T0.setTop (mkF m 24 #[.val (.ref a0), .val (.int (1 : Int32)), .val (.int (((((((0 : Int32) <<< ((8 : Int32) &&& 31)) ||| (b0 &&& (255 : Int32))) <<< ((8 : Int32) &&& 31)) ||| (b1 &&& (255 : Int32))) <<< ((8 : Int32) &&& 31)) ||| (b2 &&& (255 : Int32)))), .val (.int (3 : Int32))] []))
  refine Wp.via (fun _ k => XS.iinc X0.here hx rfl (hb hby own_d1_24) rfl (l' := #[.val (.ref a0), .val (.int (1 : Int32)), .val (.int (((((((0 : Int32) <<< ((8 : Int32) &&& 31)) ||| (b0 &&& (255 : Int32))) <<< ((8 : Int32) &&& 31)) ||| (b1 &&& (255 : Int32))) <<< ((8 : Int32) &&& 31)) ||| (b2 &&& (255 : Int32)))), .val (.int (4 : Int32))]) rfl k) ?_
  show Wp p e below _ (T0.setTop (mkF m 27 #[.val (.ref a0), .val (.int (1 : Int32)), .val (.int (((((((0 : Int32) <<< ((8 : Int32) &&& 31)) ||| (b0 &&& (255 : Int32))) <<< ((8 : Int32) &&& 31)) ||| (b1 &&& (255 : Int32))) <<< ((8 : Int32) &&& 31)) ||| (b2 &&& (255 : Int32)))), .val (.int (4 : Int32))] []))
  refine Wp.via (fun _ k => XS.goto X0.here hx rfl (pc0 := 27) (pc' := 4) rfl (hb hby own_d1_27) (by decide) (by decide) k) ?_
  show Wp p e below _ (T0.setTop (mkF m 4 #[.val (.ref a0), .val (.int (1 : Int32)), .val (.int (((((((0 : Int32) <<< ((8 : Int32) &&& 31)) ||| (b0 &&& (255 : Int32))) <<< ((8 : Int32) &&& 31)) ||| (b1 &&& (255 : Int32))) <<< ((8 : Int32) &&& 31)) ||| (b2 &&& (255 : Int32)))), .val (.int (4 : Int32))] []))
  refine Wp.via (fun _ k => XS.iloadN X0.here hx rfl (hb hby own_d1_4) rfl k) ?_
  show Wp p e below _ (T0.setTop (mkF m 5 #[.val (.ref a0), .val (.int (1 : Int32)), .val (.int (((((((0 : Int32) <<< ((8 : Int32) &&& 31)) ||| (b0 &&& (255 : Int32))) <<< ((8 : Int32) &&& 31)) ||| (b1 &&& (255 : Int32))) <<< ((8 : Int32) &&& 31)) ||| (b2 &&& (255 : Int32)))), .val (.int (4 : Int32))] [(.int (4 : Int32))]))
  refine Wp.via (fun _ k => XS.iloadN X0.here hx rfl (hb hby own_d1_5) rfl k) ?_
  show Wp p e below _ (T0.setTop (mkF m 6 #[.val (.ref a0), .val (.int (1 : Int32)), .val (.int (((((((0 : Int32) <<< ((8 : Int32) &&& 31)) ||| (b0 &&& (255 : Int32))) <<< ((8 : Int32) &&& 31)) ||| (b1 &&& (255 : Int32))) <<< ((8 : Int32) &&& 31)) ||| (b2 &&& (255 : Int32)))), .val (.int (4 : Int32))] [(.int (1 : Int32)), (.int (4 : Int32))]))
  refine Wp.via (fun _ k => XS.iconst X0.here hx rfl (hb hby own_d1_6) k) ?_
  show Wp p e below _ (T0.setTop (mkF m 7 #[.val (.ref a0), .val (.int (1 : Int32)), .val (.int (((((((0 : Int32) <<< ((8 : Int32) &&& 31)) ||| (b0 &&& (255 : Int32))) <<< ((8 : Int32) &&& 31)) ||| (b1 &&& (255 : Int32))) <<< ((8 : Int32) &&& 31)) ||| (b2 &&& (255 : Int32)))), .val (.int (4 : Int32))] [(.int (4 : Int32)), (.int (1 : Int32)), (.int (4 : Int32))]))
  refine Wp.via (fun _ k => XS.iadd X0.here hx rfl (hb hby own_d1_7) rfl k) ?_
  show Wp p e below _ (T0.setTop (mkF m 8 #[.val (.ref a0), .val (.int (1 : Int32)), .val (.int (((((((0 : Int32) <<< ((8 : Int32) &&& 31)) ||| (b0 &&& (255 : Int32))) <<< ((8 : Int32) &&& 31)) ||| (b1 &&& (255 : Int32))) <<< ((8 : Int32) &&& 31)) ||| (b2 &&& (255 : Int32)))), .val (.int (4 : Int32))] [(.int (5 : Int32)), (.int (4 : Int32))]))
  refine Wp.via (fun _ k => XS.icmpNo X0.here hx rfl (hb hby own_d1_8) rfl (tlt (by decide)).2.1 k) ?_
  show Wp p e below _ (T0.setTop (mkF m 11 #[.val (.ref a0), .val (.int (1 : Int32)), .val (.int (((((((0 : Int32) <<< ((8 : Int32) &&& 31)) ||| (b0 &&& (255 : Int32))) <<< ((8 : Int32) &&& 31)) ||| (b1 &&& (255 : Int32))) <<< ((8 : Int32) &&& 31)) ||| (b2 &&& (255 : Int32)))), .val (.int (4 : Int32))] []))
  refine Wp.via (fun _ k => XS.iloadN X0.here hx rfl (hb hby own_d1_11) rfl k) ?_
  show Wp p e below _ (T0.setTop (mkF m 12 #[.val (.ref a0), .val (.int (1 : Int32)), .val (.int (((((((0 : Int32) <<< ((8 : Int32) &&& 31)) ||| (b0 &&& (255 : Int32))) <<< ((8 : Int32) &&& 31)) ||| (b1 &&& (255 : Int32))) <<< ((8 : Int32) &&& 31)) ||| (b2 &&& (255 : Int32)))), .val (.int (4 : Int32))] [(.int (((((((0 : Int32) <<< ((8 : Int32) &&& 31)) ||| (b0 &&& (255 : Int32))) <<< ((8 : Int32) &&& 31)) ||| (b1 &&& (255 : Int32))) <<< ((8 : Int32) &&& 31)) ||| (b2 &&& (255 : Int32))))]))
  refine Wp.via (fun _ k => XS.bipush X0.here hx rfl (hb hby own_d1_12) k) ?_
  show Wp p e below _ (T0.setTop (mkF m 14 #[.val (.ref a0), .val (.int (1 : Int32)), .val (.int (((((((0 : Int32) <<< ((8 : Int32) &&& 31)) ||| (b0 &&& (255 : Int32))) <<< ((8 : Int32) &&& 31)) ||| (b1 &&& (255 : Int32))) <<< ((8 : Int32) &&& 31)) ||| (b2 &&& (255 : Int32)))), .val (.int (4 : Int32))] [(.int (8 : Int32)), (.int (((((((0 : Int32) <<< ((8 : Int32) &&& 31)) ||| (b0 &&& (255 : Int32))) <<< ((8 : Int32) &&& 31)) ||| (b1 &&& (255 : Int32))) <<< ((8 : Int32) &&& 31)) ||| (b2 &&& (255 : Int32))))]))
  refine Wp.via (fun _ k => XS.ishl X0.here hx rfl (hb hby own_d1_14) rfl k) ?_
  show Wp p e below _ (T0.setTop (mkF m 15 #[.val (.ref a0), .val (.int (1 : Int32)), .val (.int (((((((0 : Int32) <<< ((8 : Int32) &&& 31)) ||| (b0 &&& (255 : Int32))) <<< ((8 : Int32) &&& 31)) ||| (b1 &&& (255 : Int32))) <<< ((8 : Int32) &&& 31)) ||| (b2 &&& (255 : Int32)))), .val (.int (4 : Int32))] [(.int ((((((((0 : Int32) <<< ((8 : Int32) &&& 31)) ||| (b0 &&& (255 : Int32))) <<< ((8 : Int32) &&& 31)) ||| (b1 &&& (255 : Int32))) <<< ((8 : Int32) &&& 31)) ||| (b2 &&& (255 : Int32))) <<< ((8 : Int32) &&& 31)))]))
  refine Wp.via (fun _ k => XS.aloadN X0.here hx rfl (hb hby own_d1_15) rfl rfl k) ?_
  show Wp p e below _ (T0.setTop (mkF m 16 #[.val (.ref a0), .val (.int (1 : Int32)), .val (.int (((((((0 : Int32) <<< ((8 : Int32) &&& 31)) ||| (b0 &&& (255 : Int32))) <<< ((8 : Int32) &&& 31)) ||| (b1 &&& (255 : Int32))) <<< ((8 : Int32) &&& 31)) ||| (b2 &&& (255 : Int32)))), .val (.int (4 : Int32))] [(.ref a0), (.int ((((((((0 : Int32) <<< ((8 : Int32) &&& 31)) ||| (b0 &&& (255 : Int32))) <<< ((8 : Int32) &&& 31)) ||| (b1 &&& (255 : Int32))) <<< ((8 : Int32) &&& 31)) ||| (b2 &&& (255 : Int32))) <<< ((8 : Int32) &&& 31)))]))
  refine Wp.via (fun _ k => XS.iloadN X0.here hx rfl (hb hby own_d1_16) rfl k) ?_
  show Wp p e below _ (T0.setTop (mkF m 17 #[.val (.ref a0), .val (.int (1 : Int32)), .val (.int (((((((0 : Int32) <<< ((8 : Int32) &&& 31)) ||| (b0 &&& (255 : Int32))) <<< ((8 : Int32) &&& 31)) ||| (b1 &&& (255 : Int32))) <<< ((8 : Int32) &&& 31)) ||| (b2 &&& (255 : Int32)))), .val (.int (4 : Int32))] [(.int (4 : Int32)), (.ref a0), (.int ((((((((0 : Int32) <<< ((8 : Int32) &&& 31)) ||| (b0 &&& (255 : Int32))) <<< ((8 : Int32) &&& 31)) ||| (b1 &&& (255 : Int32))) <<< ((8 : Int32) &&& 31)) ||| (b2 &&& (255 : Int32))) <<< ((8 : Int32) &&& 31)))]))
  refine Wp.via (fun _ k => avLdB X0 hx hZ e0 V0 (i := 4) (by decide) rfl (by decide) (w := (.int b3)) hb3 (g := (mkF m 17 #[.val (.ref a0), .val (.int (1 : Int32)), .val (.int (((((((0 : Int32) <<< ((8 : Int32) &&& 31)) ||| (b0 &&& (255 : Int32))) <<< ((8 : Int32) &&& 31)) ||| (b1 &&& (255 : Int32))) <<< ((8 : Int32) &&& 31)) ||| (b2 &&& (255 : Int32)))), .val (.int (4 : Int32))] [(.int (4 : Int32)), (.ref a0), (.int ((((((((0 : Int32) <<< ((8 : Int32) &&& 31)) ||| (b0 &&& (255 : Int32))) <<< ((8 : Int32) &&& 31)) ||| (b1 &&& (255 : Int32))) <<< ((8 : Int32) &&& 31)) ||| (b2 &&& (255 : Int32))) <<< ((8 : Int32) &&& 31)))])) rfl rfl (hb hby own_d1_17) _ k) ?_
  show Wp p e below _ (T0.setTop (mkF m 18 #[.val (.ref a0), .val (.int (1 : Int32)), .val (.int (((((((0 : Int32) <<< ((8 : Int32) &&& 31)) ||| (b0 &&& (255 : Int32))) <<< ((8 : Int32) &&& 31)) ||| (b1 &&& (255 : Int32))) <<< ((8 : Int32) &&& 31)) ||| (b2 &&& (255 : Int32)))), .val (.int (4 : Int32))] [(.int b3), (.int ((((((((0 : Int32) <<< ((8 : Int32) &&& 31)) ||| (b0 &&& (255 : Int32))) <<< ((8 : Int32) &&& 31)) ||| (b1 &&& (255 : Int32))) <<< ((8 : Int32) &&& 31)) ||| (b2 &&& (255 : Int32))) <<< ((8 : Int32) &&& 31)))]))
  refine Wp.via (fun _ k => XS.sipush X0.here hx rfl (hb hby own_d1_18) k) ?_
  show Wp p e below _ (T0.setTop (mkF m 21 #[.val (.ref a0), .val (.int (1 : Int32)), .val (.int (((((((0 : Int32) <<< ((8 : Int32) &&& 31)) ||| (b0 &&& (255 : Int32))) <<< ((8 : Int32) &&& 31)) ||| (b1 &&& (255 : Int32))) <<< ((8 : Int32) &&& 31)) ||| (b2 &&& (255 : Int32)))), .val (.int (4 : Int32))] [(.int (255 : Int32)), (.int b3), (.int ((((((((0 : Int32) <<< ((8 : Int32) &&& 31)) ||| (b0 &&& (255 : Int32))) <<< ((8 : Int32) &&& 31)) ||| (b1 &&& (255 : Int32))) <<< ((8 : Int32) &&& 31)) ||| (b2 &&& (255 : Int32))) <<< ((8 : Int32) &&& 31)))]))
  refine Wp.via (fun _ k => XS.iand X0.here hx rfl (hb hby own_d1_21) rfl k) ?_
  show Wp p e below _ (T0.setTop (mkF m 22 #[.val (.ref a0), .val (.int (1 : Int32)), .val (.int (((((((0 : Int32) <<< ((8 : Int32) &&& 31)) ||| (b0 &&& (255 : Int32))) <<< ((8 : Int32) &&& 31)) ||| (b1 &&& (255 : Int32))) <<< ((8 : Int32) &&& 31)) ||| (b2 &&& (255 : Int32)))), .val (.int (4 : Int32))] [(.int (b3 &&& (255 : Int32))), (.int ((((((((0 : Int32) <<< ((8 : Int32) &&& 31)) ||| (b0 &&& (255 : Int32))) <<< ((8 : Int32) &&& 31)) ||| (b1 &&& (255 : Int32))) <<< ((8 : Int32) &&& 31)) ||| (b2 &&& (255 : Int32))) <<< ((8 : Int32) &&& 31)))]))
  refine Wp.via (fun _ k => XS.ior X0.here hx rfl (hb hby own_d1_22) rfl k) ?_
  show Wp p e below _ (T0.setTop (mkF m 23 #[.val (.ref a0), .val (.int (1 : Int32)), .val (.int (((((((0 : Int32) <<< ((8 : Int32) &&& 31)) ||| (b0 &&& (255 : Int32))) <<< ((8 : Int32) &&& 31)) ||| (b1 &&& (255 : Int32))) <<< ((8 : Int32) &&& 31)) ||| (b2 &&& (255 : Int32)))), .val (.int (4 : Int32))] [(.int (((((((((0 : Int32) <<< ((8 : Int32) &&& 31)) ||| (b0 &&& (255 : Int32))) <<< ((8 : Int32) &&& 31)) ||| (b1 &&& (255 : Int32))) <<< ((8 : Int32) &&& 31)) ||| (b2 &&& (255 : Int32))) <<< ((8 : Int32) &&& 31)) ||| (b3 &&& (255 : Int32))))]))
  refine Wp.via (fun _ k => XS.istoreN X0.here hx rfl (hb hby own_d1_23) rfl (l' := #[.val (.ref a0), .val (.int (1 : Int32)), .val (.int (((((((((0 : Int32) <<< ((8 : Int32) &&& 31)) ||| (b0 &&& (255 : Int32))) <<< ((8 : Int32) &&& 31)) ||| (b1 &&& (255 : Int32))) <<< ((8 : Int32) &&& 31)) ||| (b2 &&& (255 : Int32))) <<< ((8 : Int32) &&& 31)) ||| (b3 &&& (255 : Int32)))), .val (.int (4 : Int32))]) rfl k) ?_
  show Wp p e below _ (T0.setTop (mkF m 24 #[.val (.ref a0), .val (.int (1 : Int32)), .val (.int (((((((((0 : Int32) <<< ((8 : Int32) &&& 31)) ||| (b0 &&& (255 : Int32))) <<< ((8 : Int32) &&& 31)) ||| (b1 &&& (255 : Int32))) <<< ((8 : Int32) &&& 31)) ||| (b2 &&& (255 : Int32))) <<< ((8 : Int32) &&& 31)) ||| (b3 &&& (255 : Int32)))), .val (.int (4 : Int32))] []))
  refine Wp.via (fun _ k => XS.iinc X0.here hx rfl (hb hby own_d1_24) rfl (l' := #[.val (.ref a0), .val (.int (1 : Int32)), .val (.int (((((((((0 : Int32) <<< ((8 : Int32) &&& 31)) ||| (b0 &&& (255 : Int32))) <<< ((8 : Int32) &&& 31)) ||| (b1 &&& (255 : Int32))) <<< ((8 : Int32) &&& 31)) ||| (b2 &&& (255 : Int32))) <<< ((8 : Int32) &&& 31)) ||| (b3 &&& (255 : Int32)))), .val (.int (5 : Int32))]) rfl k) ?_
  show Wp p e below _ (T0.setTop (mkF m 27 #[.val (.ref a0), .val (.int (1 : Int32)), .val (.int (((((((((0 : Int32) <<< ((8 : Int32) &&& 31)) ||| (b0 &&& (255 : Int32))) <<< ((8 : Int32) &&& 31)) ||| (b1 &&& (255 : Int32))) <<< ((8 : Int32) &&& 31)) ||| (b2 &&& (255 : Int32))) <<< ((8 : Int32) &&& 31)) ||| (b3 &&& (255 : Int32)))), .val (.int (5 : Int32))] []))
  refine Wp.via (fun _ k => XS.goto X0.here hx rfl (pc0 := 27) (pc' := 4) rfl (hb hby own_d1_27) (by decide) (by decide) k) ?_
  show Wp p e below _ (T0.setTop (mkF m 4 #[.val (.ref a0), .val (.int (1 : Int32)), .val (.int (((((((((0 : Int32) <<< ((8 : Int32) &&& 31)) ||| (b0 &&& (255 : Int32))) <<< ((8 : Int32) &&& 31)) ||| (b1 &&& (255 : Int32))) <<< ((8 : Int32) &&& 31)) ||| (b2 &&& (255 : Int32))) <<< ((8 : Int32) &&& 31)) ||| (b3 &&& (255 : Int32)))), .val (.int (5 : Int32))] []))
  refine Wp.via (fun _ k => XS.iloadN X0.here hx rfl (hb hby own_d1_4) rfl k) ?_
  show Wp p e below _ (T0.setTop (mkF m 5 #[.val (.ref a0), .val (.int (1 : Int32)), .val (.int (((((((((0 : Int32) <<< ((8 : Int32) &&& 31)) ||| (b0 &&& (255 : Int32))) <<< ((8 : Int32) &&& 31)) ||| (b1 &&& (255 : Int32))) <<< ((8 : Int32) &&& 31)) ||| (b2 &&& (255 : Int32))) <<< ((8 : Int32) &&& 31)) ||| (b3 &&& (255 : Int32)))), .val (.int (5 : Int32))] [(.int (5 : Int32))]))
  refine Wp.via (fun _ k => XS.iloadN X0.here hx rfl (hb hby own_d1_5) rfl k) ?_
  show Wp p e below _ (T0.setTop (mkF m 6 #[.val (.ref a0), .val (.int (1 : Int32)), .val (.int (((((((((0 : Int32) <<< ((8 : Int32) &&& 31)) ||| (b0 &&& (255 : Int32))) <<< ((8 : Int32) &&& 31)) ||| (b1 &&& (255 : Int32))) <<< ((8 : Int32) &&& 31)) ||| (b2 &&& (255 : Int32))) <<< ((8 : Int32) &&& 31)) ||| (b3 &&& (255 : Int32)))), .val (.int (5 : Int32))] [(.int (1 : Int32)), (.int (5 : Int32))]))
  refine Wp.via (fun _ k => XS.iconst X0.here hx rfl (hb hby own_d1_6) k) ?_
  show Wp p e below _ (T0.setTop (mkF m 7 #[.val (.ref a0), .val (.int (1 : Int32)), .val (.int (((((((((0 : Int32) <<< ((8 : Int32) &&& 31)) ||| (b0 &&& (255 : Int32))) <<< ((8 : Int32) &&& 31)) ||| (b1 &&& (255 : Int32))) <<< ((8 : Int32) &&& 31)) ||| (b2 &&& (255 : Int32))) <<< ((8 : Int32) &&& 31)) ||| (b3 &&& (255 : Int32)))), .val (.int (5 : Int32))] [(.int (4 : Int32)), (.int (1 : Int32)), (.int (5 : Int32))]))
  refine Wp.via (fun _ k => XS.iadd X0.here hx rfl (hb hby own_d1_7) rfl k) ?_
  show Wp p e below _ (T0.setTop (mkF m 8 #[.val (.ref a0), .val (.int (1 : Int32)), .val (.int (((((((((0 : Int32) <<< ((8 : Int32) &&& 31)) ||| (b0 &&& (255 : Int32))) <<< ((8 : Int32) &&& 31)) ||| (b1 &&& (255 : Int32))) <<< ((8 : Int32) &&& 31)) ||| (b2 &&& (255 : Int32))) <<< ((8 : Int32) &&& 31)) ||| (b3 &&& (255 : Int32)))), .val (.int (5 : Int32))] [(.int (5 : Int32)), (.int (5 : Int32))]))
  refine Wp.via (fun _ k => XS.icmpYes X0.here hx rfl (pc0 := 8) (pc' := 30) rfl (hb hby own_d1_8) rfl (flt (by decide)).2.1 (by decide) (by decide) k) ?_
  show Wp p e below _ (T0.setTop (mkF m 30 #[.val (.ref a0), .val (.int (1 : Int32)), .val (.int (((((((((0 : Int32) <<< ((8 : Int32) &&& 31)) ||| (b0 &&& (255 : Int32))) <<< ((8 : Int32) &&& 31)) ||| (b1 &&& (255 : Int32))) <<< ((8 : Int32) &&& 31)) ||| (b2 &&& (255 : Int32))) <<< ((8 : Int32) &&& 31)) ||| (b3 &&& (255 : Int32)))), .val (.int (5 : Int32))] []))
  refine Wp.via (fun _ k => XS.iloadN X0.here hx rfl (hb hby own_d1_30) rfl k) ?_
  show Wp p e below _ (T0.setTop (mkF m 31 #[.val (.ref a0), .val (.int (1 : Int32)), .val (.int (((((((((0 : Int32) <<< ((8 : Int32) &&& 31)) ||| (b0 &&& (255 : Int32))) <<< ((8 : Int32) &&& 31)) ||| (b1 &&& (255 : Int32))) <<< ((8 : Int32) &&& 31)) ||| (b2 &&& (255 : Int32))) <<< ((8 : Int32) &&& 31)) ||| (b3 &&& (255 : Int32)))), .val (.int (5 : Int32))] [(.int (((((((((0 : Int32) <<< ((8 : Int32) &&& 31)) ||| (b0 &&& (255 : Int32))) <<< ((8 : Int32) &&& 31)) ||| (b1 &&& (255 : Int32))) <<< ((8 : Int32) &&& 31)) ||| (b2 &&& (255 : Int32))) <<< ((8 : Int32) &&& 31)) ||| (b3 &&& (255 : Int32))))]))
  exact Wp.retI X0 hlk hx hret (by simp) rfl (hb hby own_d1_31) ⟨rfl, NF0, e0⟩ (by decide) (by decide)
theorem own_ef1_2 (m : MethodId) (a0 : Addr) : entryFrame m #[(.ref a0), (.int (2 : Int32))] 4 = mkF m 0 #[.val (.ref a0), .val (.int (2 : Int32)), .unset, .unset] [] := by first | (simp [entryFrame, mkF, argsToLocals, Value.category]; done) | rfl
def Qo1_2 (Z : State) (a0 : Addr) (f : Nat → Value) (b0 b1 b2 b3 : Int32) (h0 : Heap) (n0 : Nat) (v : Option Value) (h : Heap) (L : List Loc) : Prop := v = some (.int (own_s b0 b1 b2 b3)) ∧ Fr n0 L ∧ h = h0
set_option maxRecDepth 65536 in
set_option maxHeartbeats 40000000 in
theorem rm1_2 (l : Launch) (Z : State) (aw : Array Value) (hw : ∀ d ∈ tables_1, d.before aw Z = true) (ws : List Jvm.Cond) (a0 : Addr) (f : Nat → Value) (b0 b1 b2 b3 : Int32) (h0 : Heap) (n0 : Nat) (Z0 : n0 ≤ h0.size) (V0 : Av Z h0 a0 .byte 8 f) (hb0 : f 2 = .int b0) (hb1 : f 3 = .int b1) (hb2 : f 4 = .int b2) (hb3 : f 5 = .int b3) :
    MetFree l (⟨"com/example/inverso/inverso/index/CheckValue", "stored", "([BI)I"⟩ : MethodName) (head1 (Jvm.Cond.code (⟨"com/example/inverso/inverso/index/CheckValue", "stored", "([BI)I"⟩ : MethodName) prog_51_method_9_code 4 (some .int) :: ws) ({ frames := 0, cells := 0, slots := 0, locals := 0 } : Room)) (fun a U => a = #[(.ref a0), (.int (2 : Int32))] ∧ Z.Warmed39 U.vm ∧ U.heap = h0) (fun _ _ _ _ _ => True) (fun _ U o U' => ∃ v L, o = .returned v ∧ (Qo1_2 Z a0 f b0 b1 b2 b3 h0 n0) v U'.heap L ∧ FrameEnd U o U' L ({ frames := 0, cells := 0, slots := 0, locals := 0 } : Room).cells ({ frames := 0, cells := 0, slots := 0, locals := 0 } : Room).slots) := by
  refine ofWp (Q := Qo1_2 Z a0 f b0 b1 b2 b3 h0 n0) own_pl1 (fun m => own_ef1_2 m a0) ?_
  intro p e s m below meth c T0 hx hby hml hown hnm hlk hret hZ X0 e0
  change s.vm.findClass "com/example/inverso/inverso/index/CheckValue" = some m.cls at hown
  have NF0 := Fr.nil n0
  refine Wp.via (fun _ k => XS.iconst X0.here hx rfl (hb hby own_d1_0) k) ?_
  show Wp p e below _ (T0.setTop (mkF m 1 #[.val (.ref a0), .val (.int (2 : Int32)), .unset, .unset] [(.int (0 : Int32))]))
  refine Wp.via (fun _ k => XS.istoreN X0.here hx rfl (hb hby own_d1_1) rfl (l' := #[.val (.ref a0), .val (.int (2 : Int32)), .val (.int (0 : Int32)), .unset]) rfl k) ?_
  show Wp p e below _ (T0.setTop (mkF m 2 #[.val (.ref a0), .val (.int (2 : Int32)), .val (.int (0 : Int32)), .unset] []))
  refine Wp.via (fun _ k => XS.iloadN X0.here hx rfl (hb hby own_d1_2) rfl k) ?_
  show Wp p e below _ (T0.setTop (mkF m 3 #[.val (.ref a0), .val (.int (2 : Int32)), .val (.int (0 : Int32)), .unset] [(.int (2 : Int32))]))
  refine Wp.via (fun _ k => XS.istoreN X0.here hx rfl (hb hby own_d1_3) rfl (l' := #[.val (.ref a0), .val (.int (2 : Int32)), .val (.int (0 : Int32)), .val (.int (2 : Int32))]) rfl k) ?_
  show Wp p e below _ (T0.setTop (mkF m 4 #[.val (.ref a0), .val (.int (2 : Int32)), .val (.int (0 : Int32)), .val (.int (2 : Int32))] []))
  refine Wp.via (fun _ k => XS.iloadN X0.here hx rfl (hb hby own_d1_4) rfl k) ?_
  show Wp p e below _ (T0.setTop (mkF m 5 #[.val (.ref a0), .val (.int (2 : Int32)), .val (.int (0 : Int32)), .val (.int (2 : Int32))] [(.int (2 : Int32))]))
  refine Wp.via (fun _ k => XS.iloadN X0.here hx rfl (hb hby own_d1_5) rfl k) ?_
  show Wp p e below _ (T0.setTop (mkF m 6 #[.val (.ref a0), .val (.int (2 : Int32)), .val (.int (0 : Int32)), .val (.int (2 : Int32))] [(.int (2 : Int32)), (.int (2 : Int32))]))
  refine Wp.via (fun _ k => XS.iconst X0.here hx rfl (hb hby own_d1_6) k) ?_
  show Wp p e below _ (T0.setTop (mkF m 7 #[.val (.ref a0), .val (.int (2 : Int32)), .val (.int (0 : Int32)), .val (.int (2 : Int32))] [(.int (4 : Int32)), (.int (2 : Int32)), (.int (2 : Int32))]))
  refine Wp.via (fun _ k => XS.iadd X0.here hx rfl (hb hby own_d1_7) rfl k) ?_
  show Wp p e below _ (T0.setTop (mkF m 8 #[.val (.ref a0), .val (.int (2 : Int32)), .val (.int (0 : Int32)), .val (.int (2 : Int32))] [(.int (6 : Int32)), (.int (2 : Int32))]))
  refine Wp.via (fun _ k => XS.icmpNo X0.here hx rfl (hb hby own_d1_8) rfl (tlt (by decide)).2.1 k) ?_
  show Wp p e below _ (T0.setTop (mkF m 11 #[.val (.ref a0), .val (.int (2 : Int32)), .val (.int (0 : Int32)), .val (.int (2 : Int32))] []))
  refine Wp.via (fun _ k => XS.iloadN X0.here hx rfl (hb hby own_d1_11) rfl k) ?_
  show Wp p e below _ (T0.setTop (mkF m 12 #[.val (.ref a0), .val (.int (2 : Int32)), .val (.int (0 : Int32)), .val (.int (2 : Int32))] [(.int (0 : Int32))]))
  refine Wp.via (fun _ k => XS.bipush X0.here hx rfl (hb hby own_d1_12) k) ?_
  show Wp p e below _ (T0.setTop (mkF m 14 #[.val (.ref a0), .val (.int (2 : Int32)), .val (.int (0 : Int32)), .val (.int (2 : Int32))] [(.int (8 : Int32)), (.int (0 : Int32))]))
  refine Wp.via (fun _ k => XS.ishl X0.here hx rfl (hb hby own_d1_14) rfl k) ?_
  show Wp p e below _ (T0.setTop (mkF m 15 #[.val (.ref a0), .val (.int (2 : Int32)), .val (.int (0 : Int32)), .val (.int (2 : Int32))] [(.int ((0 : Int32) <<< ((8 : Int32) &&& 31)))]))
  refine Wp.via (fun _ k => XS.aloadN X0.here hx rfl (hb hby own_d1_15) rfl rfl k) ?_
  show Wp p e below _ (T0.setTop (mkF m 16 #[.val (.ref a0), .val (.int (2 : Int32)), .val (.int (0 : Int32)), .val (.int (2 : Int32))] [(.ref a0), (.int ((0 : Int32) <<< ((8 : Int32) &&& 31)))]))
  refine Wp.via (fun _ k => XS.iloadN X0.here hx rfl (hb hby own_d1_16) rfl k) ?_
  show Wp p e below _ (T0.setTop (mkF m 17 #[.val (.ref a0), .val (.int (2 : Int32)), .val (.int (0 : Int32)), .val (.int (2 : Int32))] [(.int (2 : Int32)), (.ref a0), (.int ((0 : Int32) <<< ((8 : Int32) &&& 31)))]))
  refine Wp.via (fun _ k => avLdB X0 hx hZ e0 V0 (i := 2) (by decide) rfl (by decide) (w := (.int b0)) hb0 (g := (mkF m 17 #[.val (.ref a0), .val (.int (2 : Int32)), .val (.int (0 : Int32)), .val (.int (2 : Int32))] [(.int (2 : Int32)), (.ref a0), (.int ((0 : Int32) <<< ((8 : Int32) &&& 31)))])) rfl rfl (hb hby own_d1_17) _ k) ?_
  show Wp p e below _ (T0.setTop (mkF m 18 #[.val (.ref a0), .val (.int (2 : Int32)), .val (.int (0 : Int32)), .val (.int (2 : Int32))] [(.int b0), (.int ((0 : Int32) <<< ((8 : Int32) &&& 31)))]))
  refine Wp.via (fun _ k => XS.sipush X0.here hx rfl (hb hby own_d1_18) k) ?_
  show Wp p e below _ (T0.setTop (mkF m 21 #[.val (.ref a0), .val (.int (2 : Int32)), .val (.int (0 : Int32)), .val (.int (2 : Int32))] [(.int (255 : Int32)), (.int b0), (.int ((0 : Int32) <<< ((8 : Int32) &&& 31)))]))
  refine Wp.via (fun _ k => XS.iand X0.here hx rfl (hb hby own_d1_21) rfl k) ?_
  show Wp p e below _ (T0.setTop (mkF m 22 #[.val (.ref a0), .val (.int (2 : Int32)), .val (.int (0 : Int32)), .val (.int (2 : Int32))] [(.int (b0 &&& (255 : Int32))), (.int ((0 : Int32) <<< ((8 : Int32) &&& 31)))]))
  refine Wp.via (fun _ k => XS.ior X0.here hx rfl (hb hby own_d1_22) rfl k) ?_
  show Wp p e below _ (T0.setTop (mkF m 23 #[.val (.ref a0), .val (.int (2 : Int32)), .val (.int (0 : Int32)), .val (.int (2 : Int32))] [(.int (((0 : Int32) <<< ((8 : Int32) &&& 31)) ||| (b0 &&& (255 : Int32))))]))
  refine Wp.via (fun _ k => XS.istoreN X0.here hx rfl (hb hby own_d1_23) rfl (l' := #[.val (.ref a0), .val (.int (2 : Int32)), .val (.int (((0 : Int32) <<< ((8 : Int32) &&& 31)) ||| (b0 &&& (255 : Int32)))), .val (.int (2 : Int32))]) rfl k) ?_
  show Wp p e below _ (T0.setTop (mkF m 24 #[.val (.ref a0), .val (.int (2 : Int32)), .val (.int (((0 : Int32) <<< ((8 : Int32) &&& 31)) ||| (b0 &&& (255 : Int32)))), .val (.int (2 : Int32))] []))
  refine Wp.via (fun _ k => XS.iinc X0.here hx rfl (hb hby own_d1_24) rfl (l' := #[.val (.ref a0), .val (.int (2 : Int32)), .val (.int (((0 : Int32) <<< ((8 : Int32) &&& 31)) ||| (b0 &&& (255 : Int32)))), .val (.int (3 : Int32))]) rfl k) ?_
  show Wp p e below _ (T0.setTop (mkF m 27 #[.val (.ref a0), .val (.int (2 : Int32)), .val (.int (((0 : Int32) <<< ((8 : Int32) &&& 31)) ||| (b0 &&& (255 : Int32)))), .val (.int (3 : Int32))] []))
  refine Wp.via (fun _ k => XS.goto X0.here hx rfl (pc0 := 27) (pc' := 4) rfl (hb hby own_d1_27) (by decide) (by decide) k) ?_
  show Wp p e below _ (T0.setTop (mkF m 4 #[.val (.ref a0), .val (.int (2 : Int32)), .val (.int (((0 : Int32) <<< ((8 : Int32) &&& 31)) ||| (b0 &&& (255 : Int32)))), .val (.int (3 : Int32))] []))
  refine Wp.via (fun _ k => XS.iloadN X0.here hx rfl (hb hby own_d1_4) rfl k) ?_
  show Wp p e below _ (T0.setTop (mkF m 5 #[.val (.ref a0), .val (.int (2 : Int32)), .val (.int (((0 : Int32) <<< ((8 : Int32) &&& 31)) ||| (b0 &&& (255 : Int32)))), .val (.int (3 : Int32))] [(.int (3 : Int32))]))
  refine Wp.via (fun _ k => XS.iloadN X0.here hx rfl (hb hby own_d1_5) rfl k) ?_
  show Wp p e below _ (T0.setTop (mkF m 6 #[.val (.ref a0), .val (.int (2 : Int32)), .val (.int (((0 : Int32) <<< ((8 : Int32) &&& 31)) ||| (b0 &&& (255 : Int32)))), .val (.int (3 : Int32))] [(.int (2 : Int32)), (.int (3 : Int32))]))
  refine Wp.via (fun _ k => XS.iconst X0.here hx rfl (hb hby own_d1_6) k) ?_
  show Wp p e below _ (T0.setTop (mkF m 7 #[.val (.ref a0), .val (.int (2 : Int32)), .val (.int (((0 : Int32) <<< ((8 : Int32) &&& 31)) ||| (b0 &&& (255 : Int32)))), .val (.int (3 : Int32))] [(.int (4 : Int32)), (.int (2 : Int32)), (.int (3 : Int32))]))
  refine Wp.via (fun _ k => XS.iadd X0.here hx rfl (hb hby own_d1_7) rfl k) ?_
  show Wp p e below _ (T0.setTop (mkF m 8 #[.val (.ref a0), .val (.int (2 : Int32)), .val (.int (((0 : Int32) <<< ((8 : Int32) &&& 31)) ||| (b0 &&& (255 : Int32)))), .val (.int (3 : Int32))] [(.int (6 : Int32)), (.int (3 : Int32))]))
  refine Wp.via (fun _ k => XS.icmpNo X0.here hx rfl (hb hby own_d1_8) rfl (tlt (by decide)).2.1 k) ?_
  show Wp p e below _ (T0.setTop (mkF m 11 #[.val (.ref a0), .val (.int (2 : Int32)), .val (.int (((0 : Int32) <<< ((8 : Int32) &&& 31)) ||| (b0 &&& (255 : Int32)))), .val (.int (3 : Int32))] []))
  refine Wp.via (fun _ k => XS.iloadN X0.here hx rfl (hb hby own_d1_11) rfl k) ?_
  show Wp p e below _ (T0.setTop (mkF m 12 #[.val (.ref a0), .val (.int (2 : Int32)), .val (.int (((0 : Int32) <<< ((8 : Int32) &&& 31)) ||| (b0 &&& (255 : Int32)))), .val (.int (3 : Int32))] [(.int (((0 : Int32) <<< ((8 : Int32) &&& 31)) ||| (b0 &&& (255 : Int32))))]))
  refine Wp.via (fun _ k => XS.bipush X0.here hx rfl (hb hby own_d1_12) k) ?_
  show Wp p e below _ (T0.setTop (mkF m 14 #[.val (.ref a0), .val (.int (2 : Int32)), .val (.int (((0 : Int32) <<< ((8 : Int32) &&& 31)) ||| (b0 &&& (255 : Int32)))), .val (.int (3 : Int32))] [(.int (8 : Int32)), (.int (((0 : Int32) <<< ((8 : Int32) &&& 31)) ||| (b0 &&& (255 : Int32))))]))
  refine Wp.via (fun _ k => XS.ishl X0.here hx rfl (hb hby own_d1_14) rfl k) ?_
  show Wp p e below _ (T0.setTop (mkF m 15 #[.val (.ref a0), .val (.int (2 : Int32)), .val (.int (((0 : Int32) <<< ((8 : Int32) &&& 31)) ||| (b0 &&& (255 : Int32)))), .val (.int (3 : Int32))] [(.int ((((0 : Int32) <<< ((8 : Int32) &&& 31)) ||| (b0 &&& (255 : Int32))) <<< ((8 : Int32) &&& 31)))]))
  refine Wp.via (fun _ k => XS.aloadN X0.here hx rfl (hb hby own_d1_15) rfl rfl k) ?_
  show Wp p e below _ (T0.setTop (mkF m 16 #[.val (.ref a0), .val (.int (2 : Int32)), .val (.int (((0 : Int32) <<< ((8 : Int32) &&& 31)) ||| (b0 &&& (255 : Int32)))), .val (.int (3 : Int32))] [(.ref a0), (.int ((((0 : Int32) <<< ((8 : Int32) &&& 31)) ||| (b0 &&& (255 : Int32))) <<< ((8 : Int32) &&& 31)))]))
  refine Wp.via (fun _ k => XS.iloadN X0.here hx rfl (hb hby own_d1_16) rfl k) ?_
  show Wp p e below _ (T0.setTop (mkF m 17 #[.val (.ref a0), .val (.int (2 : Int32)), .val (.int (((0 : Int32) <<< ((8 : Int32) &&& 31)) ||| (b0 &&& (255 : Int32)))), .val (.int (3 : Int32))] [(.int (3 : Int32)), (.ref a0), (.int ((((0 : Int32) <<< ((8 : Int32) &&& 31)) ||| (b0 &&& (255 : Int32))) <<< ((8 : Int32) &&& 31)))]))
  refine Wp.via (fun _ k => avLdB X0 hx hZ e0 V0 (i := 3) (by decide) rfl (by decide) (w := (.int b1)) hb1 (g := (mkF m 17 #[.val (.ref a0), .val (.int (2 : Int32)), .val (.int (((0 : Int32) <<< ((8 : Int32) &&& 31)) ||| (b0 &&& (255 : Int32)))), .val (.int (3 : Int32))] [(.int (3 : Int32)), (.ref a0), (.int ((((0 : Int32) <<< ((8 : Int32) &&& 31)) ||| (b0 &&& (255 : Int32))) <<< ((8 : Int32) &&& 31)))])) rfl rfl (hb hby own_d1_17) _ k) ?_
  show Wp p e below _ (T0.setTop (mkF m 18 #[.val (.ref a0), .val (.int (2 : Int32)), .val (.int (((0 : Int32) <<< ((8 : Int32) &&& 31)) ||| (b0 &&& (255 : Int32)))), .val (.int (3 : Int32))] [(.int b1), (.int ((((0 : Int32) <<< ((8 : Int32) &&& 31)) ||| (b0 &&& (255 : Int32))) <<< ((8 : Int32) &&& 31)))]))
  refine Wp.via (fun _ k => XS.sipush X0.here hx rfl (hb hby own_d1_18) k) ?_
  show Wp p e below _ (T0.setTop (mkF m 21 #[.val (.ref a0), .val (.int (2 : Int32)), .val (.int (((0 : Int32) <<< ((8 : Int32) &&& 31)) ||| (b0 &&& (255 : Int32)))), .val (.int (3 : Int32))] [(.int (255 : Int32)), (.int b1), (.int ((((0 : Int32) <<< ((8 : Int32) &&& 31)) ||| (b0 &&& (255 : Int32))) <<< ((8 : Int32) &&& 31)))]))
  refine Wp.via (fun _ k => XS.iand X0.here hx rfl (hb hby own_d1_21) rfl k) ?_
  show Wp p e below _ (T0.setTop (mkF m 22 #[.val (.ref a0), .val (.int (2 : Int32)), .val (.int (((0 : Int32) <<< ((8 : Int32) &&& 31)) ||| (b0 &&& (255 : Int32)))), .val (.int (3 : Int32))] [(.int (b1 &&& (255 : Int32))), (.int ((((0 : Int32) <<< ((8 : Int32) &&& 31)) ||| (b0 &&& (255 : Int32))) <<< ((8 : Int32) &&& 31)))]))
  refine Wp.via (fun _ k => XS.ior X0.here hx rfl (hb hby own_d1_22) rfl k) ?_
  show Wp p e below _ (T0.setTop (mkF m 23 #[.val (.ref a0), .val (.int (2 : Int32)), .val (.int (((0 : Int32) <<< ((8 : Int32) &&& 31)) ||| (b0 &&& (255 : Int32)))), .val (.int (3 : Int32))] [(.int (((((0 : Int32) <<< ((8 : Int32) &&& 31)) ||| (b0 &&& (255 : Int32))) <<< ((8 : Int32) &&& 31)) ||| (b1 &&& (255 : Int32))))]))
  refine Wp.via (fun _ k => XS.istoreN X0.here hx rfl (hb hby own_d1_23) rfl (l' := #[.val (.ref a0), .val (.int (2 : Int32)), .val (.int (((((0 : Int32) <<< ((8 : Int32) &&& 31)) ||| (b0 &&& (255 : Int32))) <<< ((8 : Int32) &&& 31)) ||| (b1 &&& (255 : Int32)))), .val (.int (3 : Int32))]) rfl k) ?_
  show Wp p e below _ (T0.setTop (mkF m 24 #[.val (.ref a0), .val (.int (2 : Int32)), .val (.int (((((0 : Int32) <<< ((8 : Int32) &&& 31)) ||| (b0 &&& (255 : Int32))) <<< ((8 : Int32) &&& 31)) ||| (b1 &&& (255 : Int32)))), .val (.int (3 : Int32))] []))
  refine Wp.via (fun _ k => XS.iinc X0.here hx rfl (hb hby own_d1_24) rfl (l' := #[.val (.ref a0), .val (.int (2 : Int32)), .val (.int (((((0 : Int32) <<< ((8 : Int32) &&& 31)) ||| (b0 &&& (255 : Int32))) <<< ((8 : Int32) &&& 31)) ||| (b1 &&& (255 : Int32)))), .val (.int (4 : Int32))]) rfl k) ?_
  show Wp p e below _ (T0.setTop (mkF m 27 #[.val (.ref a0), .val (.int (2 : Int32)), .val (.int (((((0 : Int32) <<< ((8 : Int32) &&& 31)) ||| (b0 &&& (255 : Int32))) <<< ((8 : Int32) &&& 31)) ||| (b1 &&& (255 : Int32)))), .val (.int (4 : Int32))] []))
  refine Wp.via (fun _ k => XS.goto X0.here hx rfl (pc0 := 27) (pc' := 4) rfl (hb hby own_d1_27) (by decide) (by decide) k) ?_
  show Wp p e below _ (T0.setTop (mkF m 4 #[.val (.ref a0), .val (.int (2 : Int32)), .val (.int (((((0 : Int32) <<< ((8 : Int32) &&& 31)) ||| (b0 &&& (255 : Int32))) <<< ((8 : Int32) &&& 31)) ||| (b1 &&& (255 : Int32)))), .val (.int (4 : Int32))] []))
  refine Wp.via (fun _ k => XS.iloadN X0.here hx rfl (hb hby own_d1_4) rfl k) ?_
  show Wp p e below _ (T0.setTop (mkF m 5 #[.val (.ref a0), .val (.int (2 : Int32)), .val (.int (((((0 : Int32) <<< ((8 : Int32) &&& 31)) ||| (b0 &&& (255 : Int32))) <<< ((8 : Int32) &&& 31)) ||| (b1 &&& (255 : Int32)))), .val (.int (4 : Int32))] [(.int (4 : Int32))]))
  refine Wp.via (fun _ k => XS.iloadN X0.here hx rfl (hb hby own_d1_5) rfl k) ?_
  show Wp p e below _ (T0.setTop (mkF m 6 #[.val (.ref a0), .val (.int (2 : Int32)), .val (.int (((((0 : Int32) <<< ((8 : Int32) &&& 31)) ||| (b0 &&& (255 : Int32))) <<< ((8 : Int32) &&& 31)) ||| (b1 &&& (255 : Int32)))), .val (.int (4 : Int32))] [(.int (2 : Int32)), (.int (4 : Int32))]))
  refine Wp.via (fun _ k => XS.iconst X0.here hx rfl (hb hby own_d1_6) k) ?_
  show Wp p e below _ (T0.setTop (mkF m 7 #[.val (.ref a0), .val (.int (2 : Int32)), .val (.int (((((0 : Int32) <<< ((8 : Int32) &&& 31)) ||| (b0 &&& (255 : Int32))) <<< ((8 : Int32) &&& 31)) ||| (b1 &&& (255 : Int32)))), .val (.int (4 : Int32))] [(.int (4 : Int32)), (.int (2 : Int32)), (.int (4 : Int32))]))
  refine Wp.via (fun _ k => XS.iadd X0.here hx rfl (hb hby own_d1_7) rfl k) ?_
  show Wp p e below _ (T0.setTop (mkF m 8 #[.val (.ref a0), .val (.int (2 : Int32)), .val (.int (((((0 : Int32) <<< ((8 : Int32) &&& 31)) ||| (b0 &&& (255 : Int32))) <<< ((8 : Int32) &&& 31)) ||| (b1 &&& (255 : Int32)))), .val (.int (4 : Int32))] [(.int (6 : Int32)), (.int (4 : Int32))]))
  refine Wp.via (fun _ k => XS.icmpNo X0.here hx rfl (hb hby own_d1_8) rfl (tlt (by decide)).2.1 k) ?_
  show Wp p e below _ (T0.setTop (mkF m 11 #[.val (.ref a0), .val (.int (2 : Int32)), .val (.int (((((0 : Int32) <<< ((8 : Int32) &&& 31)) ||| (b0 &&& (255 : Int32))) <<< ((8 : Int32) &&& 31)) ||| (b1 &&& (255 : Int32)))), .val (.int (4 : Int32))] []))
  refine Wp.via (fun _ k => XS.iloadN X0.here hx rfl (hb hby own_d1_11) rfl k) ?_
  show Wp p e below _ (T0.setTop (mkF m 12 #[.val (.ref a0), .val (.int (2 : Int32)), .val (.int (((((0 : Int32) <<< ((8 : Int32) &&& 31)) ||| (b0 &&& (255 : Int32))) <<< ((8 : Int32) &&& 31)) ||| (b1 &&& (255 : Int32)))), .val (.int (4 : Int32))] [(.int (((((0 : Int32) <<< ((8 : Int32) &&& 31)) ||| (b0 &&& (255 : Int32))) <<< ((8 : Int32) &&& 31)) ||| (b1 &&& (255 : Int32))))]))
  refine Wp.via (fun _ k => XS.bipush X0.here hx rfl (hb hby own_d1_12) k) ?_
  show Wp p e below _ (T0.setTop (mkF m 14 #[.val (.ref a0), .val (.int (2 : Int32)), .val (.int (((((0 : Int32) <<< ((8 : Int32) &&& 31)) ||| (b0 &&& (255 : Int32))) <<< ((8 : Int32) &&& 31)) ||| (b1 &&& (255 : Int32)))), .val (.int (4 : Int32))] [(.int (8 : Int32)), (.int (((((0 : Int32) <<< ((8 : Int32) &&& 31)) ||| (b0 &&& (255 : Int32))) <<< ((8 : Int32) &&& 31)) ||| (b1 &&& (255 : Int32))))]))
  refine Wp.via (fun _ k => XS.ishl X0.here hx rfl (hb hby own_d1_14) rfl k) ?_
  show Wp p e below _ (T0.setTop (mkF m 15 #[.val (.ref a0), .val (.int (2 : Int32)), .val (.int (((((0 : Int32) <<< ((8 : Int32) &&& 31)) ||| (b0 &&& (255 : Int32))) <<< ((8 : Int32) &&& 31)) ||| (b1 &&& (255 : Int32)))), .val (.int (4 : Int32))] [(.int ((((((0 : Int32) <<< ((8 : Int32) &&& 31)) ||| (b0 &&& (255 : Int32))) <<< ((8 : Int32) &&& 31)) ||| (b1 &&& (255 : Int32))) <<< ((8 : Int32) &&& 31)))]))
  refine Wp.via (fun _ k => XS.aloadN X0.here hx rfl (hb hby own_d1_15) rfl rfl k) ?_
  show Wp p e below _ (T0.setTop (mkF m 16 #[.val (.ref a0), .val (.int (2 : Int32)), .val (.int (((((0 : Int32) <<< ((8 : Int32) &&& 31)) ||| (b0 &&& (255 : Int32))) <<< ((8 : Int32) &&& 31)) ||| (b1 &&& (255 : Int32)))), .val (.int (4 : Int32))] [(.ref a0), (.int ((((((0 : Int32) <<< ((8 : Int32) &&& 31)) ||| (b0 &&& (255 : Int32))) <<< ((8 : Int32) &&& 31)) ||| (b1 &&& (255 : Int32))) <<< ((8 : Int32) &&& 31)))]))
  refine Wp.via (fun _ k => XS.iloadN X0.here hx rfl (hb hby own_d1_16) rfl k) ?_
  show Wp p e below _ (T0.setTop (mkF m 17 #[.val (.ref a0), .val (.int (2 : Int32)), .val (.int (((((0 : Int32) <<< ((8 : Int32) &&& 31)) ||| (b0 &&& (255 : Int32))) <<< ((8 : Int32) &&& 31)) ||| (b1 &&& (255 : Int32)))), .val (.int (4 : Int32))] [(.int (4 : Int32)), (.ref a0), (.int ((((((0 : Int32) <<< ((8 : Int32) &&& 31)) ||| (b0 &&& (255 : Int32))) <<< ((8 : Int32) &&& 31)) ||| (b1 &&& (255 : Int32))) <<< ((8 : Int32) &&& 31)))]))
  refine Wp.via (fun _ k => avLdB X0 hx hZ e0 V0 (i := 4) (by decide) rfl (by decide) (w := (.int b2)) hb2 (g := (mkF m 17 #[.val (.ref a0), .val (.int (2 : Int32)), .val (.int (((((0 : Int32) <<< ((8 : Int32) &&& 31)) ||| (b0 &&& (255 : Int32))) <<< ((8 : Int32) &&& 31)) ||| (b1 &&& (255 : Int32)))), .val (.int (4 : Int32))] [(.int (4 : Int32)), (.ref a0), (.int ((((((0 : Int32) <<< ((8 : Int32) &&& 31)) ||| (b0 &&& (255 : Int32))) <<< ((8 : Int32) &&& 31)) ||| (b1 &&& (255 : Int32))) <<< ((8 : Int32) &&& 31)))])) rfl rfl (hb hby own_d1_17) _ k) ?_
  show Wp p e below _ (T0.setTop (mkF m 18 #[.val (.ref a0), .val (.int (2 : Int32)), .val (.int (((((0 : Int32) <<< ((8 : Int32) &&& 31)) ||| (b0 &&& (255 : Int32))) <<< ((8 : Int32) &&& 31)) ||| (b1 &&& (255 : Int32)))), .val (.int (4 : Int32))] [(.int b2), (.int ((((((0 : Int32) <<< ((8 : Int32) &&& 31)) ||| (b0 &&& (255 : Int32))) <<< ((8 : Int32) &&& 31)) ||| (b1 &&& (255 : Int32))) <<< ((8 : Int32) &&& 31)))]))
  refine Wp.via (fun _ k => XS.sipush X0.here hx rfl (hb hby own_d1_18) k) ?_
  show Wp p e below _ (T0.setTop (mkF m 21 #[.val (.ref a0), .val (.int (2 : Int32)), .val (.int (((((0 : Int32) <<< ((8 : Int32) &&& 31)) ||| (b0 &&& (255 : Int32))) <<< ((8 : Int32) &&& 31)) ||| (b1 &&& (255 : Int32)))), .val (.int (4 : Int32))] [(.int (255 : Int32)), (.int b2), (.int ((((((0 : Int32) <<< ((8 : Int32) &&& 31)) ||| (b0 &&& (255 : Int32))) <<< ((8 : Int32) &&& 31)) ||| (b1 &&& (255 : Int32))) <<< ((8 : Int32) &&& 31)))]))
  refine Wp.via (fun _ k => XS.iand X0.here hx rfl (hb hby own_d1_21) rfl k) ?_
  show Wp p e below _ (T0.setTop (mkF m 22 #[.val (.ref a0), .val (.int (2 : Int32)), .val (.int (((((0 : Int32) <<< ((8 : Int32) &&& 31)) ||| (b0 &&& (255 : Int32))) <<< ((8 : Int32) &&& 31)) ||| (b1 &&& (255 : Int32)))), .val (.int (4 : Int32))] [(.int (b2 &&& (255 : Int32))), (.int ((((((0 : Int32) <<< ((8 : Int32) &&& 31)) ||| (b0 &&& (255 : Int32))) <<< ((8 : Int32) &&& 31)) ||| (b1 &&& (255 : Int32))) <<< ((8 : Int32) &&& 31)))]))
  refine Wp.via (fun _ k => XS.ior X0.here hx rfl (hb hby own_d1_22) rfl k) ?_
  show Wp p e below _ (T0.setTop (mkF m 23 #[.val (.ref a0), .val (.int (2 : Int32)), .val (.int (((((0 : Int32) <<< ((8 : Int32) &&& 31)) ||| (b0 &&& (255 : Int32))) <<< ((8 : Int32) &&& 31)) ||| (b1 &&& (255 : Int32)))), .val (.int (4 : Int32))] [(.int (((((((0 : Int32) <<< ((8 : Int32) &&& 31)) ||| (b0 &&& (255 : Int32))) <<< ((8 : Int32) &&& 31)) ||| (b1 &&& (255 : Int32))) <<< ((8 : Int32) &&& 31)) ||| (b2 &&& (255 : Int32))))]))
  refine Wp.via (fun _ k => XS.istoreN X0.here hx rfl (hb hby own_d1_23) rfl (l' := #[.val (.ref a0), .val (.int (2 : Int32)), .val (.int (((((((0 : Int32) <<< ((8 : Int32) &&& 31)) ||| (b0 &&& (255 : Int32))) <<< ((8 : Int32) &&& 31)) ||| (b1 &&& (255 : Int32))) <<< ((8 : Int32) &&& 31)) ||| (b2 &&& (255 : Int32)))), .val (.int (4 : Int32))]) rfl k) ?_
  show Wp p e below _ (T0.setTop (mkF m 24 #[.val (.ref a0), .val (.int (2 : Int32)), .val (.int (((((((0 : Int32) <<< ((8 : Int32) &&& 31)) ||| (b0 &&& (255 : Int32))) <<< ((8 : Int32) &&& 31)) ||| (b1 &&& (255 : Int32))) <<< ((8 : Int32) &&& 31)) ||| (b2 &&& (255 : Int32)))), .val (.int (4 : Int32))] []))
  refine Wp.via (fun _ k => XS.iinc X0.here hx rfl (hb hby own_d1_24) rfl (l' := #[.val (.ref a0), .val (.int (2 : Int32)), .val (.int (((((((0 : Int32) <<< ((8 : Int32) &&& 31)) ||| (b0 &&& (255 : Int32))) <<< ((8 : Int32) &&& 31)) ||| (b1 &&& (255 : Int32))) <<< ((8 : Int32) &&& 31)) ||| (b2 &&& (255 : Int32)))), .val (.int (5 : Int32))]) rfl k) ?_
  show Wp p e below _ (T0.setTop (mkF m 27 #[.val (.ref a0), .val (.int (2 : Int32)), .val (.int (((((((0 : Int32) <<< ((8 : Int32) &&& 31)) ||| (b0 &&& (255 : Int32))) <<< ((8 : Int32) &&& 31)) ||| (b1 &&& (255 : Int32))) <<< ((8 : Int32) &&& 31)) ||| (b2 &&& (255 : Int32)))), .val (.int (5 : Int32))] []))
  refine Wp.via (fun _ k => XS.goto X0.here hx rfl (pc0 := 27) (pc' := 4) rfl (hb hby own_d1_27) (by decide) (by decide) k) ?_
  show Wp p e below _ (T0.setTop (mkF m 4 #[.val (.ref a0), .val (.int (2 : Int32)), .val (.int (((((((0 : Int32) <<< ((8 : Int32) &&& 31)) ||| (b0 &&& (255 : Int32))) <<< ((8 : Int32) &&& 31)) ||| (b1 &&& (255 : Int32))) <<< ((8 : Int32) &&& 31)) ||| (b2 &&& (255 : Int32)))), .val (.int (5 : Int32))] []))
  refine Wp.via (fun _ k => XS.iloadN X0.here hx rfl (hb hby own_d1_4) rfl k) ?_
  show Wp p e below _ (T0.setTop (mkF m 5 #[.val (.ref a0), .val (.int (2 : Int32)), .val (.int (((((((0 : Int32) <<< ((8 : Int32) &&& 31)) ||| (b0 &&& (255 : Int32))) <<< ((8 : Int32) &&& 31)) ||| (b1 &&& (255 : Int32))) <<< ((8 : Int32) &&& 31)) ||| (b2 &&& (255 : Int32)))), .val (.int (5 : Int32))] [(.int (5 : Int32))]))
  refine Wp.via (fun _ k => XS.iloadN X0.here hx rfl (hb hby own_d1_5) rfl k) ?_
  show Wp p e below _ (T0.setTop (mkF m 6 #[.val (.ref a0), .val (.int (2 : Int32)), .val (.int (((((((0 : Int32) <<< ((8 : Int32) &&& 31)) ||| (b0 &&& (255 : Int32))) <<< ((8 : Int32) &&& 31)) ||| (b1 &&& (255 : Int32))) <<< ((8 : Int32) &&& 31)) ||| (b2 &&& (255 : Int32)))), .val (.int (5 : Int32))] [(.int (2 : Int32)), (.int (5 : Int32))]))
  refine Wp.via (fun _ k => XS.iconst X0.here hx rfl (hb hby own_d1_6) k) ?_
  show Wp p e below _ (T0.setTop (mkF m 7 #[.val (.ref a0), .val (.int (2 : Int32)), .val (.int (((((((0 : Int32) <<< ((8 : Int32) &&& 31)) ||| (b0 &&& (255 : Int32))) <<< ((8 : Int32) &&& 31)) ||| (b1 &&& (255 : Int32))) <<< ((8 : Int32) &&& 31)) ||| (b2 &&& (255 : Int32)))), .val (.int (5 : Int32))] [(.int (4 : Int32)), (.int (2 : Int32)), (.int (5 : Int32))]))
  refine Wp.via (fun _ k => XS.iadd X0.here hx rfl (hb hby own_d1_7) rfl k) ?_
  show Wp p e below _ (T0.setTop (mkF m 8 #[.val (.ref a0), .val (.int (2 : Int32)), .val (.int (((((((0 : Int32) <<< ((8 : Int32) &&& 31)) ||| (b0 &&& (255 : Int32))) <<< ((8 : Int32) &&& 31)) ||| (b1 &&& (255 : Int32))) <<< ((8 : Int32) &&& 31)) ||| (b2 &&& (255 : Int32)))), .val (.int (5 : Int32))] [(.int (6 : Int32)), (.int (5 : Int32))]))
  refine Wp.via (fun _ k => XS.icmpNo X0.here hx rfl (hb hby own_d1_8) rfl (tlt (by decide)).2.1 k) ?_
  show Wp p e below _ (T0.setTop (mkF m 11 #[.val (.ref a0), .val (.int (2 : Int32)), .val (.int (((((((0 : Int32) <<< ((8 : Int32) &&& 31)) ||| (b0 &&& (255 : Int32))) <<< ((8 : Int32) &&& 31)) ||| (b1 &&& (255 : Int32))) <<< ((8 : Int32) &&& 31)) ||| (b2 &&& (255 : Int32)))), .val (.int (5 : Int32))] []))
  refine Wp.via (fun _ k => XS.iloadN X0.here hx rfl (hb hby own_d1_11) rfl k) ?_
  show Wp p e below _ (T0.setTop (mkF m 12 #[.val (.ref a0), .val (.int (2 : Int32)), .val (.int (((((((0 : Int32) <<< ((8 : Int32) &&& 31)) ||| (b0 &&& (255 : Int32))) <<< ((8 : Int32) &&& 31)) ||| (b1 &&& (255 : Int32))) <<< ((8 : Int32) &&& 31)) ||| (b2 &&& (255 : Int32)))), .val (.int (5 : Int32))] [(.int (((((((0 : Int32) <<< ((8 : Int32) &&& 31)) ||| (b0 &&& (255 : Int32))) <<< ((8 : Int32) &&& 31)) ||| (b1 &&& (255 : Int32))) <<< ((8 : Int32) &&& 31)) ||| (b2 &&& (255 : Int32))))]))
  refine Wp.via (fun _ k => XS.bipush X0.here hx rfl (hb hby own_d1_12) k) ?_
  show Wp p e below _ (T0.setTop (mkF m 14 #[.val (.ref a0), .val (.int (2 : Int32)), .val (.int (((((((0 : Int32) <<< ((8 : Int32) &&& 31)) ||| (b0 &&& (255 : Int32))) <<< ((8 : Int32) &&& 31)) ||| (b1 &&& (255 : Int32))) <<< ((8 : Int32) &&& 31)) ||| (b2 &&& (255 : Int32)))), .val (.int (5 : Int32))] [(.int (8 : Int32)), (.int (((((((0 : Int32) <<< ((8 : Int32) &&& 31)) ||| (b0 &&& (255 : Int32))) <<< ((8 : Int32) &&& 31)) ||| (b1 &&& (255 : Int32))) <<< ((8 : Int32) &&& 31)) ||| (b2 &&& (255 : Int32))))]))
  refine Wp.via (fun _ k => XS.ishl X0.here hx rfl (hb hby own_d1_14) rfl k) ?_
  show Wp p e below _ (T0.setTop (mkF m 15 #[.val (.ref a0), .val (.int (2 : Int32)), .val (.int (((((((0 : Int32) <<< ((8 : Int32) &&& 31)) ||| (b0 &&& (255 : Int32))) <<< ((8 : Int32) &&& 31)) ||| (b1 &&& (255 : Int32))) <<< ((8 : Int32) &&& 31)) ||| (b2 &&& (255 : Int32)))), .val (.int (5 : Int32))] [(.int ((((((((0 : Int32) <<< ((8 : Int32) &&& 31)) ||| (b0 &&& (255 : Int32))) <<< ((8 : Int32) &&& 31)) ||| (b1 &&& (255 : Int32))) <<< ((8 : Int32) &&& 31)) ||| (b2 &&& (255 : Int32))) <<< ((8 : Int32) &&& 31)))]))
  refine Wp.via (fun _ k => XS.aloadN X0.here hx rfl (hb hby own_d1_15) rfl rfl k) ?_
  show Wp p e below _ (T0.setTop (mkF m 16 #[.val (.ref a0), .val (.int (2 : Int32)), .val (.int (((((((0 : Int32) <<< ((8 : Int32) &&& 31)) ||| (b0 &&& (255 : Int32))) <<< ((8 : Int32) &&& 31)) ||| (b1 &&& (255 : Int32))) <<< ((8 : Int32) &&& 31)) ||| (b2 &&& (255 : Int32)))), .val (.int (5 : Int32))] [(.ref a0), (.int ((((((((0 : Int32) <<< ((8 : Int32) &&& 31)) ||| (b0 &&& (255 : Int32))) <<< ((8 : Int32) &&& 31)) ||| (b1 &&& (255 : Int32))) <<< ((8 : Int32) &&& 31)) ||| (b2 &&& (255 : Int32))) <<< ((8 : Int32) &&& 31)))]))
  refine Wp.via (fun _ k => XS.iloadN X0.here hx rfl (hb hby own_d1_16) rfl k) ?_
  show Wp p e below _ (T0.setTop (mkF m 17 #[.val (.ref a0), .val (.int (2 : Int32)), .val (.int (((((((0 : Int32) <<< ((8 : Int32) &&& 31)) ||| (b0 &&& (255 : Int32))) <<< ((8 : Int32) &&& 31)) ||| (b1 &&& (255 : Int32))) <<< ((8 : Int32) &&& 31)) ||| (b2 &&& (255 : Int32)))), .val (.int (5 : Int32))] [(.int (5 : Int32)), (.ref a0), (.int ((((((((0 : Int32) <<< ((8 : Int32) &&& 31)) ||| (b0 &&& (255 : Int32))) <<< ((8 : Int32) &&& 31)) ||| (b1 &&& (255 : Int32))) <<< ((8 : Int32) &&& 31)) ||| (b2 &&& (255 : Int32))) <<< ((8 : Int32) &&& 31)))]))
  refine Wp.via (fun _ k => avLdB X0 hx hZ e0 V0 (i := 5) (by decide) rfl (by decide) (w := (.int b3)) hb3 (g := (mkF m 17 #[.val (.ref a0), .val (.int (2 : Int32)), .val (.int (((((((0 : Int32) <<< ((8 : Int32) &&& 31)) ||| (b0 &&& (255 : Int32))) <<< ((8 : Int32) &&& 31)) ||| (b1 &&& (255 : Int32))) <<< ((8 : Int32) &&& 31)) ||| (b2 &&& (255 : Int32)))), .val (.int (5 : Int32))] [(.int (5 : Int32)), (.ref a0), (.int ((((((((0 : Int32) <<< ((8 : Int32) &&& 31)) ||| (b0 &&& (255 : Int32))) <<< ((8 : Int32) &&& 31)) ||| (b1 &&& (255 : Int32))) <<< ((8 : Int32) &&& 31)) ||| (b2 &&& (255 : Int32))) <<< ((8 : Int32) &&& 31)))])) rfl rfl (hb hby own_d1_17) _ k) ?_
  show Wp p e below _ (T0.setTop (mkF m 18 #[.val (.ref a0), .val (.int (2 : Int32)), .val (.int (((((((0 : Int32) <<< ((8 : Int32) &&& 31)) ||| (b0 &&& (255 : Int32))) <<< ((8 : Int32) &&& 31)) ||| (b1 &&& (255 : Int32))) <<< ((8 : Int32) &&& 31)) ||| (b2 &&& (255 : Int32)))), .val (.int (5 : Int32))] [(.int b3), (.int ((((((((0 : Int32) <<< ((8 : Int32) &&& 31)) ||| (b0 &&& (255 : Int32))) <<< ((8 : Int32) &&& 31)) ||| (b1 &&& (255 : Int32))) <<< ((8 : Int32) &&& 31)) ||| (b2 &&& (255 : Int32))) <<< ((8 : Int32) &&& 31)))]))
  refine Wp.via (fun _ k => XS.sipush X0.here hx rfl (hb hby own_d1_18) k) ?_
  show Wp p e below _ (T0.setTop (mkF m 21 #[.val (.ref a0), .val (.int (2 : Int32)), .val (.int (((((((0 : Int32) <<< ((8 : Int32) &&& 31)) ||| (b0 &&& (255 : Int32))) <<< ((8 : Int32) &&& 31)) ||| (b1 &&& (255 : Int32))) <<< ((8 : Int32) &&& 31)) ||| (b2 &&& (255 : Int32)))), .val (.int (5 : Int32))] [(.int (255 : Int32)), (.int b3), (.int ((((((((0 : Int32) <<< ((8 : Int32) &&& 31)) ||| (b0 &&& (255 : Int32))) <<< ((8 : Int32) &&& 31)) ||| (b1 &&& (255 : Int32))) <<< ((8 : Int32) &&& 31)) ||| (b2 &&& (255 : Int32))) <<< ((8 : Int32) &&& 31)))]))
  refine Wp.via (fun _ k => XS.iand X0.here hx rfl (hb hby own_d1_21) rfl k) ?_
  show Wp p e below _ (T0.setTop (mkF m 22 #[.val (.ref a0), .val (.int (2 : Int32)), .val (.int (((((((0 : Int32) <<< ((8 : Int32) &&& 31)) ||| (b0 &&& (255 : Int32))) <<< ((8 : Int32) &&& 31)) ||| (b1 &&& (255 : Int32))) <<< ((8 : Int32) &&& 31)) ||| (b2 &&& (255 : Int32)))), .val (.int (5 : Int32))] [(.int (b3 &&& (255 : Int32))), (.int ((((((((0 : Int32) <<< ((8 : Int32) &&& 31)) ||| (b0 &&& (255 : Int32))) <<< ((8 : Int32) &&& 31)) ||| (b1 &&& (255 : Int32))) <<< ((8 : Int32) &&& 31)) ||| (b2 &&& (255 : Int32))) <<< ((8 : Int32) &&& 31)))]))
  refine Wp.via (fun _ k => XS.ior X0.here hx rfl (hb hby own_d1_22) rfl k) ?_
  show Wp p e below _ (T0.setTop (mkF m 23 #[.val (.ref a0), .val (.int (2 : Int32)), .val (.int (((((((0 : Int32) <<< ((8 : Int32) &&& 31)) ||| (b0 &&& (255 : Int32))) <<< ((8 : Int32) &&& 31)) ||| (b1 &&& (255 : Int32))) <<< ((8 : Int32) &&& 31)) ||| (b2 &&& (255 : Int32)))), .val (.int (5 : Int32))] [(.int (((((((((0 : Int32) <<< ((8 : Int32) &&& 31)) ||| (b0 &&& (255 : Int32))) <<< ((8 : Int32) &&& 31)) ||| (b1 &&& (255 : Int32))) <<< ((8 : Int32) &&& 31)) ||| (b2 &&& (255 : Int32))) <<< ((8 : Int32) &&& 31)) ||| (b3 &&& (255 : Int32))))]))
  refine Wp.via (fun _ k => XS.istoreN X0.here hx rfl (hb hby own_d1_23) rfl (l' := #[.val (.ref a0), .val (.int (2 : Int32)), .val (.int (((((((((0 : Int32) <<< ((8 : Int32) &&& 31)) ||| (b0 &&& (255 : Int32))) <<< ((8 : Int32) &&& 31)) ||| (b1 &&& (255 : Int32))) <<< ((8 : Int32) &&& 31)) ||| (b2 &&& (255 : Int32))) <<< ((8 : Int32) &&& 31)) ||| (b3 &&& (255 : Int32)))), .val (.int (5 : Int32))]) rfl k) ?_
  show Wp p e below _ (T0.setTop (mkF m 24 #[.val (.ref a0), .val (.int (2 : Int32)), .val (.int (((((((((0 : Int32) <<< ((8 : Int32) &&& 31)) ||| (b0 &&& (255 : Int32))) <<< ((8 : Int32) &&& 31)) ||| (b1 &&& (255 : Int32))) <<< ((8 : Int32) &&& 31)) ||| (b2 &&& (255 : Int32))) <<< ((8 : Int32) &&& 31)) ||| (b3 &&& (255 : Int32)))), .val (.int (5 : Int32))] []))
  refine Wp.via (fun _ k => XS.iinc X0.here hx rfl (hb hby own_d1_24) rfl (l' := #[.val (.ref a0), .val (.int (2 : Int32)), .val (.int (((((((((0 : Int32) <<< ((8 : Int32) &&& 31)) ||| (b0 &&& (255 : Int32))) <<< ((8 : Int32) &&& 31)) ||| (b1 &&& (255 : Int32))) <<< ((8 : Int32) &&& 31)) ||| (b2 &&& (255 : Int32))) <<< ((8 : Int32) &&& 31)) ||| (b3 &&& (255 : Int32)))), .val (.int (6 : Int32))]) rfl k) ?_
  show Wp p e below _ (T0.setTop (mkF m 27 #[.val (.ref a0), .val (.int (2 : Int32)), .val (.int (((((((((0 : Int32) <<< ((8 : Int32) &&& 31)) ||| (b0 &&& (255 : Int32))) <<< ((8 : Int32) &&& 31)) ||| (b1 &&& (255 : Int32))) <<< ((8 : Int32) &&& 31)) ||| (b2 &&& (255 : Int32))) <<< ((8 : Int32) &&& 31)) ||| (b3 &&& (255 : Int32)))), .val (.int (6 : Int32))] []))
  refine Wp.via (fun _ k => XS.goto X0.here hx rfl (pc0 := 27) (pc' := 4) rfl (hb hby own_d1_27) (by decide) (by decide) k) ?_
  show Wp p e below _ (T0.setTop (mkF m 4 #[.val (.ref a0), .val (.int (2 : Int32)), .val (.int (((((((((0 : Int32) <<< ((8 : Int32) &&& 31)) ||| (b0 &&& (255 : Int32))) <<< ((8 : Int32) &&& 31)) ||| (b1 &&& (255 : Int32))) <<< ((8 : Int32) &&& 31)) ||| (b2 &&& (255 : Int32))) <<< ((8 : Int32) &&& 31)) ||| (b3 &&& (255 : Int32)))), .val (.int (6 : Int32))] []))
  refine Wp.via (fun _ k => XS.iloadN X0.here hx rfl (hb hby own_d1_4) rfl k) ?_
  show Wp p e below _ (T0.setTop (mkF m 5 #[.val (.ref a0), .val (.int (2 : Int32)), .val (.int (((((((((0 : Int32) <<< ((8 : Int32) &&& 31)) ||| (b0 &&& (255 : Int32))) <<< ((8 : Int32) &&& 31)) ||| (b1 &&& (255 : Int32))) <<< ((8 : Int32) &&& 31)) ||| (b2 &&& (255 : Int32))) <<< ((8 : Int32) &&& 31)) ||| (b3 &&& (255 : Int32)))), .val (.int (6 : Int32))] [(.int (6 : Int32))]))
  refine Wp.via (fun _ k => XS.iloadN X0.here hx rfl (hb hby own_d1_5) rfl k) ?_
  show Wp p e below _ (T0.setTop (mkF m 6 #[.val (.ref a0), .val (.int (2 : Int32)), .val (.int (((((((((0 : Int32) <<< ((8 : Int32) &&& 31)) ||| (b0 &&& (255 : Int32))) <<< ((8 : Int32) &&& 31)) ||| (b1 &&& (255 : Int32))) <<< ((8 : Int32) &&& 31)) ||| (b2 &&& (255 : Int32))) <<< ((8 : Int32) &&& 31)) ||| (b3 &&& (255 : Int32)))), .val (.int (6 : Int32))] [(.int (2 : Int32)), (.int (6 : Int32))]))
  refine Wp.via (fun _ k => XS.iconst X0.here hx rfl (hb hby own_d1_6) k) ?_
  show Wp p e below _ (T0.setTop (mkF m 7 #[.val (.ref a0), .val (.int (2 : Int32)), .val (.int (((((((((0 : Int32) <<< ((8 : Int32) &&& 31)) ||| (b0 &&& (255 : Int32))) <<< ((8 : Int32) &&& 31)) ||| (b1 &&& (255 : Int32))) <<< ((8 : Int32) &&& 31)) ||| (b2 &&& (255 : Int32))) <<< ((8 : Int32) &&& 31)) ||| (b3 &&& (255 : Int32)))), .val (.int (6 : Int32))] [(.int (4 : Int32)), (.int (2 : Int32)), (.int (6 : Int32))]))
  refine Wp.via (fun _ k => XS.iadd X0.here hx rfl (hb hby own_d1_7) rfl k) ?_
  show Wp p e below _ (T0.setTop (mkF m 8 #[.val (.ref a0), .val (.int (2 : Int32)), .val (.int (((((((((0 : Int32) <<< ((8 : Int32) &&& 31)) ||| (b0 &&& (255 : Int32))) <<< ((8 : Int32) &&& 31)) ||| (b1 &&& (255 : Int32))) <<< ((8 : Int32) &&& 31)) ||| (b2 &&& (255 : Int32))) <<< ((8 : Int32) &&& 31)) ||| (b3 &&& (255 : Int32)))), .val (.int (6 : Int32))] [(.int (6 : Int32)), (.int (6 : Int32))]))
  refine Wp.via (fun _ k => XS.icmpYes X0.here hx rfl (pc0 := 8) (pc' := 30) rfl (hb hby own_d1_8) rfl (flt (by decide)).2.1 (by decide) (by decide) k) ?_
  show Wp p e below _ (T0.setTop (mkF m 30 #[.val (.ref a0), .val (.int (2 : Int32)), .val (.int (((((((((0 : Int32) <<< ((8 : Int32) &&& 31)) ||| (b0 &&& (255 : Int32))) <<< ((8 : Int32) &&& 31)) ||| (b1 &&& (255 : Int32))) <<< ((8 : Int32) &&& 31)) ||| (b2 &&& (255 : Int32))) <<< ((8 : Int32) &&& 31)) ||| (b3 &&& (255 : Int32)))), .val (.int (6 : Int32))] []))
  refine Wp.via (fun _ k => XS.iloadN X0.here hx rfl (hb hby own_d1_30) rfl k) ?_
  show Wp p e below _ (T0.setTop (mkF m 31 #[.val (.ref a0), .val (.int (2 : Int32)), .val (.int (((((((((0 : Int32) <<< ((8 : Int32) &&& 31)) ||| (b0 &&& (255 : Int32))) <<< ((8 : Int32) &&& 31)) ||| (b1 &&& (255 : Int32))) <<< ((8 : Int32) &&& 31)) ||| (b2 &&& (255 : Int32))) <<< ((8 : Int32) &&& 31)) ||| (b3 &&& (255 : Int32)))), .val (.int (6 : Int32))] [(.int (((((((((0 : Int32) <<< ((8 : Int32) &&& 31)) ||| (b0 &&& (255 : Int32))) <<< ((8 : Int32) &&& 31)) ||| (b1 &&& (255 : Int32))) <<< ((8 : Int32) &&& 31)) ||| (b2 &&& (255 : Int32))) <<< ((8 : Int32) &&& 31)) ||| (b3 &&& (255 : Int32))))]))
  exact Wp.retI X0 hlk hx hret (by simp) rfl (hb hby own_d1_31) ⟨rfl, NF0, e0⟩ (by decide) (by decide)
theorem own_ef1_3 (m : MethodId) (a0 : Addr) : entryFrame m #[(.ref a0), (.int (3 : Int32))] 4 = mkF m 0 #[.val (.ref a0), .val (.int (3 : Int32)), .unset, .unset] [] := by first | (simp [entryFrame, mkF, argsToLocals, Value.category]; done) | rfl
def Qo1_3 (Z : State) (a0 : Addr) (f : Nat → Value) (b0 b1 b2 b3 : Int32) (h0 : Heap) (n0 : Nat) (v : Option Value) (h : Heap) (L : List Loc) : Prop := v = some (.int (own_s b0 b1 b2 b3)) ∧ Fr n0 L ∧ h = h0
set_option maxRecDepth 65536 in
set_option maxHeartbeats 40000000 in
theorem rm1_3 (l : Launch) (Z : State) (aw : Array Value) (hw : ∀ d ∈ tables_1, d.before aw Z = true) (ws : List Jvm.Cond) (a0 : Addr) (f : Nat → Value) (b0 b1 b2 b3 : Int32) (h0 : Heap) (n0 : Nat) (Z0 : n0 ≤ h0.size) (V0 : Av Z h0 a0 .byte 8 f) (hb0 : f 3 = .int b0) (hb1 : f 4 = .int b1) (hb2 : f 5 = .int b2) (hb3 : f 6 = .int b3) :
    MetFree l (⟨"com/example/inverso/inverso/index/CheckValue", "stored", "([BI)I"⟩ : MethodName) (head1 (Jvm.Cond.code (⟨"com/example/inverso/inverso/index/CheckValue", "stored", "([BI)I"⟩ : MethodName) prog_51_method_9_code 4 (some .int) :: ws) ({ frames := 0, cells := 0, slots := 0, locals := 0 } : Room)) (fun a U => a = #[(.ref a0), (.int (3 : Int32))] ∧ Z.Warmed39 U.vm ∧ U.heap = h0) (fun _ _ _ _ _ => True) (fun _ U o U' => ∃ v L, o = .returned v ∧ (Qo1_3 Z a0 f b0 b1 b2 b3 h0 n0) v U'.heap L ∧ FrameEnd U o U' L ({ frames := 0, cells := 0, slots := 0, locals := 0 } : Room).cells ({ frames := 0, cells := 0, slots := 0, locals := 0 } : Room).slots) := by
  refine ofWp (Q := Qo1_3 Z a0 f b0 b1 b2 b3 h0 n0) own_pl1 (fun m => own_ef1_3 m a0) ?_
  intro p e s m below meth c T0 hx hby hml hown hnm hlk hret hZ X0 e0
  change s.vm.findClass "com/example/inverso/inverso/index/CheckValue" = some m.cls at hown
  have NF0 := Fr.nil n0
  refine Wp.via (fun _ k => XS.iconst X0.here hx rfl (hb hby own_d1_0) k) ?_
  show Wp p e below _ (T0.setTop (mkF m 1 #[.val (.ref a0), .val (.int (3 : Int32)), .unset, .unset] [(.int (0 : Int32))]))
  refine Wp.via (fun _ k => XS.istoreN X0.here hx rfl (hb hby own_d1_1) rfl (l' := #[.val (.ref a0), .val (.int (3 : Int32)), .val (.int (0 : Int32)), .unset]) rfl k) ?_
  show Wp p e below _ (T0.setTop (mkF m 2 #[.val (.ref a0), .val (.int (3 : Int32)), .val (.int (0 : Int32)), .unset] []))
  refine Wp.via (fun _ k => XS.iloadN X0.here hx rfl (hb hby own_d1_2) rfl k) ?_
  show Wp p e below _ (T0.setTop (mkF m 3 #[.val (.ref a0), .val (.int (3 : Int32)), .val (.int (0 : Int32)), .unset] [(.int (3 : Int32))]))
  refine Wp.via (fun _ k => XS.istoreN X0.here hx rfl (hb hby own_d1_3) rfl (l' := #[.val (.ref a0), .val (.int (3 : Int32)), .val (.int (0 : Int32)), .val (.int (3 : Int32))]) rfl k) ?_
  show Wp p e below _ (T0.setTop (mkF m 4 #[.val (.ref a0), .val (.int (3 : Int32)), .val (.int (0 : Int32)), .val (.int (3 : Int32))] []))
  refine Wp.via (fun _ k => XS.iloadN X0.here hx rfl (hb hby own_d1_4) rfl k) ?_
  show Wp p e below _ (T0.setTop (mkF m 5 #[.val (.ref a0), .val (.int (3 : Int32)), .val (.int (0 : Int32)), .val (.int (3 : Int32))] [(.int (3 : Int32))]))
  refine Wp.via (fun _ k => XS.iloadN X0.here hx rfl (hb hby own_d1_5) rfl k) ?_
  show Wp p e below _ (T0.setTop (mkF m 6 #[.val (.ref a0), .val (.int (3 : Int32)), .val (.int (0 : Int32)), .val (.int (3 : Int32))] [(.int (3 : Int32)), (.int (3 : Int32))]))
  refine Wp.via (fun _ k => XS.iconst X0.here hx rfl (hb hby own_d1_6) k) ?_
  show Wp p e below _ (T0.setTop (mkF m 7 #[.val (.ref a0), .val (.int (3 : Int32)), .val (.int (0 : Int32)), .val (.int (3 : Int32))] [(.int (4 : Int32)), (.int (3 : Int32)), (.int (3 : Int32))]))
  refine Wp.via (fun _ k => XS.iadd X0.here hx rfl (hb hby own_d1_7) rfl k) ?_
  show Wp p e below _ (T0.setTop (mkF m 8 #[.val (.ref a0), .val (.int (3 : Int32)), .val (.int (0 : Int32)), .val (.int (3 : Int32))] [(.int (7 : Int32)), (.int (3 : Int32))]))
  refine Wp.via (fun _ k => XS.icmpNo X0.here hx rfl (hb hby own_d1_8) rfl (tlt (by decide)).2.1 k) ?_
  show Wp p e below _ (T0.setTop (mkF m 11 #[.val (.ref a0), .val (.int (3 : Int32)), .val (.int (0 : Int32)), .val (.int (3 : Int32))] []))
  refine Wp.via (fun _ k => XS.iloadN X0.here hx rfl (hb hby own_d1_11) rfl k) ?_
  show Wp p e below _ (T0.setTop (mkF m 12 #[.val (.ref a0), .val (.int (3 : Int32)), .val (.int (0 : Int32)), .val (.int (3 : Int32))] [(.int (0 : Int32))]))
  refine Wp.via (fun _ k => XS.bipush X0.here hx rfl (hb hby own_d1_12) k) ?_
  show Wp p e below _ (T0.setTop (mkF m 14 #[.val (.ref a0), .val (.int (3 : Int32)), .val (.int (0 : Int32)), .val (.int (3 : Int32))] [(.int (8 : Int32)), (.int (0 : Int32))]))
  refine Wp.via (fun _ k => XS.ishl X0.here hx rfl (hb hby own_d1_14) rfl k) ?_
  show Wp p e below _ (T0.setTop (mkF m 15 #[.val (.ref a0), .val (.int (3 : Int32)), .val (.int (0 : Int32)), .val (.int (3 : Int32))] [(.int ((0 : Int32) <<< ((8 : Int32) &&& 31)))]))
  refine Wp.via (fun _ k => XS.aloadN X0.here hx rfl (hb hby own_d1_15) rfl rfl k) ?_
  show Wp p e below _ (T0.setTop (mkF m 16 #[.val (.ref a0), .val (.int (3 : Int32)), .val (.int (0 : Int32)), .val (.int (3 : Int32))] [(.ref a0), (.int ((0 : Int32) <<< ((8 : Int32) &&& 31)))]))
  refine Wp.via (fun _ k => XS.iloadN X0.here hx rfl (hb hby own_d1_16) rfl k) ?_
  show Wp p e below _ (T0.setTop (mkF m 17 #[.val (.ref a0), .val (.int (3 : Int32)), .val (.int (0 : Int32)), .val (.int (3 : Int32))] [(.int (3 : Int32)), (.ref a0), (.int ((0 : Int32) <<< ((8 : Int32) &&& 31)))]))
  refine Wp.via (fun _ k => avLdB X0 hx hZ e0 V0 (i := 3) (by decide) rfl (by decide) (w := (.int b0)) hb0 (g := (mkF m 17 #[.val (.ref a0), .val (.int (3 : Int32)), .val (.int (0 : Int32)), .val (.int (3 : Int32))] [(.int (3 : Int32)), (.ref a0), (.int ((0 : Int32) <<< ((8 : Int32) &&& 31)))])) rfl rfl (hb hby own_d1_17) _ k) ?_
  show Wp p e below _ (T0.setTop (mkF m 18 #[.val (.ref a0), .val (.int (3 : Int32)), .val (.int (0 : Int32)), .val (.int (3 : Int32))] [(.int b0), (.int ((0 : Int32) <<< ((8 : Int32) &&& 31)))]))
  refine Wp.via (fun _ k => XS.sipush X0.here hx rfl (hb hby own_d1_18) k) ?_
  show Wp p e below _ (T0.setTop (mkF m 21 #[.val (.ref a0), .val (.int (3 : Int32)), .val (.int (0 : Int32)), .val (.int (3 : Int32))] [(.int (255 : Int32)), (.int b0), (.int ((0 : Int32) <<< ((8 : Int32) &&& 31)))]))
  refine Wp.via (fun _ k => XS.iand X0.here hx rfl (hb hby own_d1_21) rfl k) ?_
  show Wp p e below _ (T0.setTop (mkF m 22 #[.val (.ref a0), .val (.int (3 : Int32)), .val (.int (0 : Int32)), .val (.int (3 : Int32))] [(.int (b0 &&& (255 : Int32))), (.int ((0 : Int32) <<< ((8 : Int32) &&& 31)))]))
  refine Wp.via (fun _ k => XS.ior X0.here hx rfl (hb hby own_d1_22) rfl k) ?_
  show Wp p e below _ (T0.setTop (mkF m 23 #[.val (.ref a0), .val (.int (3 : Int32)), .val (.int (0 : Int32)), .val (.int (3 : Int32))] [(.int (((0 : Int32) <<< ((8 : Int32) &&& 31)) ||| (b0 &&& (255 : Int32))))]))
  refine Wp.via (fun _ k => XS.istoreN X0.here hx rfl (hb hby own_d1_23) rfl (l' := #[.val (.ref a0), .val (.int (3 : Int32)), .val (.int (((0 : Int32) <<< ((8 : Int32) &&& 31)) ||| (b0 &&& (255 : Int32)))), .val (.int (3 : Int32))]) rfl k) ?_
  show Wp p e below _ (T0.setTop (mkF m 24 #[.val (.ref a0), .val (.int (3 : Int32)), .val (.int (((0 : Int32) <<< ((8 : Int32) &&& 31)) ||| (b0 &&& (255 : Int32)))), .val (.int (3 : Int32))] []))
  refine Wp.via (fun _ k => XS.iinc X0.here hx rfl (hb hby own_d1_24) rfl (l' := #[.val (.ref a0), .val (.int (3 : Int32)), .val (.int (((0 : Int32) <<< ((8 : Int32) &&& 31)) ||| (b0 &&& (255 : Int32)))), .val (.int (4 : Int32))]) rfl k) ?_
  show Wp p e below _ (T0.setTop (mkF m 27 #[.val (.ref a0), .val (.int (3 : Int32)), .val (.int (((0 : Int32) <<< ((8 : Int32) &&& 31)) ||| (b0 &&& (255 : Int32)))), .val (.int (4 : Int32))] []))
  refine Wp.via (fun _ k => XS.goto X0.here hx rfl (pc0 := 27) (pc' := 4) rfl (hb hby own_d1_27) (by decide) (by decide) k) ?_
  show Wp p e below _ (T0.setTop (mkF m 4 #[.val (.ref a0), .val (.int (3 : Int32)), .val (.int (((0 : Int32) <<< ((8 : Int32) &&& 31)) ||| (b0 &&& (255 : Int32)))), .val (.int (4 : Int32))] []))
  refine Wp.via (fun _ k => XS.iloadN X0.here hx rfl (hb hby own_d1_4) rfl k) ?_
  show Wp p e below _ (T0.setTop (mkF m 5 #[.val (.ref a0), .val (.int (3 : Int32)), .val (.int (((0 : Int32) <<< ((8 : Int32) &&& 31)) ||| (b0 &&& (255 : Int32)))), .val (.int (4 : Int32))] [(.int (4 : Int32))]))
  refine Wp.via (fun _ k => XS.iloadN X0.here hx rfl (hb hby own_d1_5) rfl k) ?_
  show Wp p e below _ (T0.setTop (mkF m 6 #[.val (.ref a0), .val (.int (3 : Int32)), .val (.int (((0 : Int32) <<< ((8 : Int32) &&& 31)) ||| (b0 &&& (255 : Int32)))), .val (.int (4 : Int32))] [(.int (3 : Int32)), (.int (4 : Int32))]))
  refine Wp.via (fun _ k => XS.iconst X0.here hx rfl (hb hby own_d1_6) k) ?_
  show Wp p e below _ (T0.setTop (mkF m 7 #[.val (.ref a0), .val (.int (3 : Int32)), .val (.int (((0 : Int32) <<< ((8 : Int32) &&& 31)) ||| (b0 &&& (255 : Int32)))), .val (.int (4 : Int32))] [(.int (4 : Int32)), (.int (3 : Int32)), (.int (4 : Int32))]))
  refine Wp.via (fun _ k => XS.iadd X0.here hx rfl (hb hby own_d1_7) rfl k) ?_
  show Wp p e below _ (T0.setTop (mkF m 8 #[.val (.ref a0), .val (.int (3 : Int32)), .val (.int (((0 : Int32) <<< ((8 : Int32) &&& 31)) ||| (b0 &&& (255 : Int32)))), .val (.int (4 : Int32))] [(.int (7 : Int32)), (.int (4 : Int32))]))
  refine Wp.via (fun _ k => XS.icmpNo X0.here hx rfl (hb hby own_d1_8) rfl (tlt (by decide)).2.1 k) ?_
  show Wp p e below _ (T0.setTop (mkF m 11 #[.val (.ref a0), .val (.int (3 : Int32)), .val (.int (((0 : Int32) <<< ((8 : Int32) &&& 31)) ||| (b0 &&& (255 : Int32)))), .val (.int (4 : Int32))] []))
  refine Wp.via (fun _ k => XS.iloadN X0.here hx rfl (hb hby own_d1_11) rfl k) ?_
  show Wp p e below _ (T0.setTop (mkF m 12 #[.val (.ref a0), .val (.int (3 : Int32)), .val (.int (((0 : Int32) <<< ((8 : Int32) &&& 31)) ||| (b0 &&& (255 : Int32)))), .val (.int (4 : Int32))] [(.int (((0 : Int32) <<< ((8 : Int32) &&& 31)) ||| (b0 &&& (255 : Int32))))]))
  refine Wp.via (fun _ k => XS.bipush X0.here hx rfl (hb hby own_d1_12) k) ?_
  show Wp p e below _ (T0.setTop (mkF m 14 #[.val (.ref a0), .val (.int (3 : Int32)), .val (.int (((0 : Int32) <<< ((8 : Int32) &&& 31)) ||| (b0 &&& (255 : Int32)))), .val (.int (4 : Int32))] [(.int (8 : Int32)), (.int (((0 : Int32) <<< ((8 : Int32) &&& 31)) ||| (b0 &&& (255 : Int32))))]))
  refine Wp.via (fun _ k => XS.ishl X0.here hx rfl (hb hby own_d1_14) rfl k) ?_
  show Wp p e below _ (T0.setTop (mkF m 15 #[.val (.ref a0), .val (.int (3 : Int32)), .val (.int (((0 : Int32) <<< ((8 : Int32) &&& 31)) ||| (b0 &&& (255 : Int32)))), .val (.int (4 : Int32))] [(.int ((((0 : Int32) <<< ((8 : Int32) &&& 31)) ||| (b0 &&& (255 : Int32))) <<< ((8 : Int32) &&& 31)))]))
  refine Wp.via (fun _ k => XS.aloadN X0.here hx rfl (hb hby own_d1_15) rfl rfl k) ?_
  show Wp p e below _ (T0.setTop (mkF m 16 #[.val (.ref a0), .val (.int (3 : Int32)), .val (.int (((0 : Int32) <<< ((8 : Int32) &&& 31)) ||| (b0 &&& (255 : Int32)))), .val (.int (4 : Int32))] [(.ref a0), (.int ((((0 : Int32) <<< ((8 : Int32) &&& 31)) ||| (b0 &&& (255 : Int32))) <<< ((8 : Int32) &&& 31)))]))
  refine Wp.via (fun _ k => XS.iloadN X0.here hx rfl (hb hby own_d1_16) rfl k) ?_
  show Wp p e below _ (T0.setTop (mkF m 17 #[.val (.ref a0), .val (.int (3 : Int32)), .val (.int (((0 : Int32) <<< ((8 : Int32) &&& 31)) ||| (b0 &&& (255 : Int32)))), .val (.int (4 : Int32))] [(.int (4 : Int32)), (.ref a0), (.int ((((0 : Int32) <<< ((8 : Int32) &&& 31)) ||| (b0 &&& (255 : Int32))) <<< ((8 : Int32) &&& 31)))]))
  refine Wp.via (fun _ k => avLdB X0 hx hZ e0 V0 (i := 4) (by decide) rfl (by decide) (w := (.int b1)) hb1 (g := (mkF m 17 #[.val (.ref a0), .val (.int (3 : Int32)), .val (.int (((0 : Int32) <<< ((8 : Int32) &&& 31)) ||| (b0 &&& (255 : Int32)))), .val (.int (4 : Int32))] [(.int (4 : Int32)), (.ref a0), (.int ((((0 : Int32) <<< ((8 : Int32) &&& 31)) ||| (b0 &&& (255 : Int32))) <<< ((8 : Int32) &&& 31)))])) rfl rfl (hb hby own_d1_17) _ k) ?_
  show Wp p e below _ (T0.setTop (mkF m 18 #[.val (.ref a0), .val (.int (3 : Int32)), .val (.int (((0 : Int32) <<< ((8 : Int32) &&& 31)) ||| (b0 &&& (255 : Int32)))), .val (.int (4 : Int32))] [(.int b1), (.int ((((0 : Int32) <<< ((8 : Int32) &&& 31)) ||| (b0 &&& (255 : Int32))) <<< ((8 : Int32) &&& 31)))]))
  refine Wp.via (fun _ k => XS.sipush X0.here hx rfl (hb hby own_d1_18) k) ?_
  show Wp p e below _ (T0.setTop (mkF m 21 #[.val (.ref a0), .val (.int (3 : Int32)), .val (.int (((0 : Int32) <<< ((8 : Int32) &&& 31)) ||| (b0 &&& (255 : Int32)))), .val (.int (4 : Int32))] [(.int (255 : Int32)), (.int b1), (.int ((((0 : Int32) <<< ((8 : Int32) &&& 31)) ||| (b0 &&& (255 : Int32))) <<< ((8 : Int32) &&& 31)))]))
  refine Wp.via (fun _ k => XS.iand X0.here hx rfl (hb hby own_d1_21) rfl k) ?_
  show Wp p e below _ (T0.setTop (mkF m 22 #[.val (.ref a0), .val (.int (3 : Int32)), .val (.int (((0 : Int32) <<< ((8 : Int32) &&& 31)) ||| (b0 &&& (255 : Int32)))), .val (.int (4 : Int32))] [(.int (b1 &&& (255 : Int32))), (.int ((((0 : Int32) <<< ((8 : Int32) &&& 31)) ||| (b0 &&& (255 : Int32))) <<< ((8 : Int32) &&& 31)))]))
  refine Wp.via (fun _ k => XS.ior X0.here hx rfl (hb hby own_d1_22) rfl k) ?_
  show Wp p e below _ (T0.setTop (mkF m 23 #[.val (.ref a0), .val (.int (3 : Int32)), .val (.int (((0 : Int32) <<< ((8 : Int32) &&& 31)) ||| (b0 &&& (255 : Int32)))), .val (.int (4 : Int32))] [(.int (((((0 : Int32) <<< ((8 : Int32) &&& 31)) ||| (b0 &&& (255 : Int32))) <<< ((8 : Int32) &&& 31)) ||| (b1 &&& (255 : Int32))))]))
  refine Wp.via (fun _ k => XS.istoreN X0.here hx rfl (hb hby own_d1_23) rfl (l' := #[.val (.ref a0), .val (.int (3 : Int32)), .val (.int (((((0 : Int32) <<< ((8 : Int32) &&& 31)) ||| (b0 &&& (255 : Int32))) <<< ((8 : Int32) &&& 31)) ||| (b1 &&& (255 : Int32)))), .val (.int (4 : Int32))]) rfl k) ?_
  show Wp p e below _ (T0.setTop (mkF m 24 #[.val (.ref a0), .val (.int (3 : Int32)), .val (.int (((((0 : Int32) <<< ((8 : Int32) &&& 31)) ||| (b0 &&& (255 : Int32))) <<< ((8 : Int32) &&& 31)) ||| (b1 &&& (255 : Int32)))), .val (.int (4 : Int32))] []))
  refine Wp.via (fun _ k => XS.iinc X0.here hx rfl (hb hby own_d1_24) rfl (l' := #[.val (.ref a0), .val (.int (3 : Int32)), .val (.int (((((0 : Int32) <<< ((8 : Int32) &&& 31)) ||| (b0 &&& (255 : Int32))) <<< ((8 : Int32) &&& 31)) ||| (b1 &&& (255 : Int32)))), .val (.int (5 : Int32))]) rfl k) ?_
  show Wp p e below _ (T0.setTop (mkF m 27 #[.val (.ref a0), .val (.int (3 : Int32)), .val (.int (((((0 : Int32) <<< ((8 : Int32) &&& 31)) ||| (b0 &&& (255 : Int32))) <<< ((8 : Int32) &&& 31)) ||| (b1 &&& (255 : Int32)))), .val (.int (5 : Int32))] []))
  refine Wp.via (fun _ k => XS.goto X0.here hx rfl (pc0 := 27) (pc' := 4) rfl (hb hby own_d1_27) (by decide) (by decide) k) ?_
  show Wp p e below _ (T0.setTop (mkF m 4 #[.val (.ref a0), .val (.int (3 : Int32)), .val (.int (((((0 : Int32) <<< ((8 : Int32) &&& 31)) ||| (b0 &&& (255 : Int32))) <<< ((8 : Int32) &&& 31)) ||| (b1 &&& (255 : Int32)))), .val (.int (5 : Int32))] []))
  refine Wp.via (fun _ k => XS.iloadN X0.here hx rfl (hb hby own_d1_4) rfl k) ?_
  show Wp p e below _ (T0.setTop (mkF m 5 #[.val (.ref a0), .val (.int (3 : Int32)), .val (.int (((((0 : Int32) <<< ((8 : Int32) &&& 31)) ||| (b0 &&& (255 : Int32))) <<< ((8 : Int32) &&& 31)) ||| (b1 &&& (255 : Int32)))), .val (.int (5 : Int32))] [(.int (5 : Int32))]))
  refine Wp.via (fun _ k => XS.iloadN X0.here hx rfl (hb hby own_d1_5) rfl k) ?_
  show Wp p e below _ (T0.setTop (mkF m 6 #[.val (.ref a0), .val (.int (3 : Int32)), .val (.int (((((0 : Int32) <<< ((8 : Int32) &&& 31)) ||| (b0 &&& (255 : Int32))) <<< ((8 : Int32) &&& 31)) ||| (b1 &&& (255 : Int32)))), .val (.int (5 : Int32))] [(.int (3 : Int32)), (.int (5 : Int32))]))
  refine Wp.via (fun _ k => XS.iconst X0.here hx rfl (hb hby own_d1_6) k) ?_
  show Wp p e below _ (T0.setTop (mkF m 7 #[.val (.ref a0), .val (.int (3 : Int32)), .val (.int (((((0 : Int32) <<< ((8 : Int32) &&& 31)) ||| (b0 &&& (255 : Int32))) <<< ((8 : Int32) &&& 31)) ||| (b1 &&& (255 : Int32)))), .val (.int (5 : Int32))] [(.int (4 : Int32)), (.int (3 : Int32)), (.int (5 : Int32))]))
  refine Wp.via (fun _ k => XS.iadd X0.here hx rfl (hb hby own_d1_7) rfl k) ?_
  show Wp p e below _ (T0.setTop (mkF m 8 #[.val (.ref a0), .val (.int (3 : Int32)), .val (.int (((((0 : Int32) <<< ((8 : Int32) &&& 31)) ||| (b0 &&& (255 : Int32))) <<< ((8 : Int32) &&& 31)) ||| (b1 &&& (255 : Int32)))), .val (.int (5 : Int32))] [(.int (7 : Int32)), (.int (5 : Int32))]))
  refine Wp.via (fun _ k => XS.icmpNo X0.here hx rfl (hb hby own_d1_8) rfl (tlt (by decide)).2.1 k) ?_
  show Wp p e below _ (T0.setTop (mkF m 11 #[.val (.ref a0), .val (.int (3 : Int32)), .val (.int (((((0 : Int32) <<< ((8 : Int32) &&& 31)) ||| (b0 &&& (255 : Int32))) <<< ((8 : Int32) &&& 31)) ||| (b1 &&& (255 : Int32)))), .val (.int (5 : Int32))] []))
  refine Wp.via (fun _ k => XS.iloadN X0.here hx rfl (hb hby own_d1_11) rfl k) ?_
  show Wp p e below _ (T0.setTop (mkF m 12 #[.val (.ref a0), .val (.int (3 : Int32)), .val (.int (((((0 : Int32) <<< ((8 : Int32) &&& 31)) ||| (b0 &&& (255 : Int32))) <<< ((8 : Int32) &&& 31)) ||| (b1 &&& (255 : Int32)))), .val (.int (5 : Int32))] [(.int (((((0 : Int32) <<< ((8 : Int32) &&& 31)) ||| (b0 &&& (255 : Int32))) <<< ((8 : Int32) &&& 31)) ||| (b1 &&& (255 : Int32))))]))
  refine Wp.via (fun _ k => XS.bipush X0.here hx rfl (hb hby own_d1_12) k) ?_
  show Wp p e below _ (T0.setTop (mkF m 14 #[.val (.ref a0), .val (.int (3 : Int32)), .val (.int (((((0 : Int32) <<< ((8 : Int32) &&& 31)) ||| (b0 &&& (255 : Int32))) <<< ((8 : Int32) &&& 31)) ||| (b1 &&& (255 : Int32)))), .val (.int (5 : Int32))] [(.int (8 : Int32)), (.int (((((0 : Int32) <<< ((8 : Int32) &&& 31)) ||| (b0 &&& (255 : Int32))) <<< ((8 : Int32) &&& 31)) ||| (b1 &&& (255 : Int32))))]))
  refine Wp.via (fun _ k => XS.ishl X0.here hx rfl (hb hby own_d1_14) rfl k) ?_
  show Wp p e below _ (T0.setTop (mkF m 15 #[.val (.ref a0), .val (.int (3 : Int32)), .val (.int (((((0 : Int32) <<< ((8 : Int32) &&& 31)) ||| (b0 &&& (255 : Int32))) <<< ((8 : Int32) &&& 31)) ||| (b1 &&& (255 : Int32)))), .val (.int (5 : Int32))] [(.int ((((((0 : Int32) <<< ((8 : Int32) &&& 31)) ||| (b0 &&& (255 : Int32))) <<< ((8 : Int32) &&& 31)) ||| (b1 &&& (255 : Int32))) <<< ((8 : Int32) &&& 31)))]))
  refine Wp.via (fun _ k => XS.aloadN X0.here hx rfl (hb hby own_d1_15) rfl rfl k) ?_
  show Wp p e below _ (T0.setTop (mkF m 16 #[.val (.ref a0), .val (.int (3 : Int32)), .val (.int (((((0 : Int32) <<< ((8 : Int32) &&& 31)) ||| (b0 &&& (255 : Int32))) <<< ((8 : Int32) &&& 31)) ||| (b1 &&& (255 : Int32)))), .val (.int (5 : Int32))] [(.ref a0), (.int ((((((0 : Int32) <<< ((8 : Int32) &&& 31)) ||| (b0 &&& (255 : Int32))) <<< ((8 : Int32) &&& 31)) ||| (b1 &&& (255 : Int32))) <<< ((8 : Int32) &&& 31)))]))
  refine Wp.via (fun _ k => XS.iloadN X0.here hx rfl (hb hby own_d1_16) rfl k) ?_
  show Wp p e below _ (T0.setTop (mkF m 17 #[.val (.ref a0), .val (.int (3 : Int32)), .val (.int (((((0 : Int32) <<< ((8 : Int32) &&& 31)) ||| (b0 &&& (255 : Int32))) <<< ((8 : Int32) &&& 31)) ||| (b1 &&& (255 : Int32)))), .val (.int (5 : Int32))] [(.int (5 : Int32)), (.ref a0), (.int ((((((0 : Int32) <<< ((8 : Int32) &&& 31)) ||| (b0 &&& (255 : Int32))) <<< ((8 : Int32) &&& 31)) ||| (b1 &&& (255 : Int32))) <<< ((8 : Int32) &&& 31)))]))
  refine Wp.via (fun _ k => avLdB X0 hx hZ e0 V0 (i := 5) (by decide) rfl (by decide) (w := (.int b2)) hb2 (g := (mkF m 17 #[.val (.ref a0), .val (.int (3 : Int32)), .val (.int (((((0 : Int32) <<< ((8 : Int32) &&& 31)) ||| (b0 &&& (255 : Int32))) <<< ((8 : Int32) &&& 31)) ||| (b1 &&& (255 : Int32)))), .val (.int (5 : Int32))] [(.int (5 : Int32)), (.ref a0), (.int ((((((0 : Int32) <<< ((8 : Int32) &&& 31)) ||| (b0 &&& (255 : Int32))) <<< ((8 : Int32) &&& 31)) ||| (b1 &&& (255 : Int32))) <<< ((8 : Int32) &&& 31)))])) rfl rfl (hb hby own_d1_17) _ k) ?_
  show Wp p e below _ (T0.setTop (mkF m 18 #[.val (.ref a0), .val (.int (3 : Int32)), .val (.int (((((0 : Int32) <<< ((8 : Int32) &&& 31)) ||| (b0 &&& (255 : Int32))) <<< ((8 : Int32) &&& 31)) ||| (b1 &&& (255 : Int32)))), .val (.int (5 : Int32))] [(.int b2), (.int ((((((0 : Int32) <<< ((8 : Int32) &&& 31)) ||| (b0 &&& (255 : Int32))) <<< ((8 : Int32) &&& 31)) ||| (b1 &&& (255 : Int32))) <<< ((8 : Int32) &&& 31)))]))
  refine Wp.via (fun _ k => XS.sipush X0.here hx rfl (hb hby own_d1_18) k) ?_
  show Wp p e below _ (T0.setTop (mkF m 21 #[.val (.ref a0), .val (.int (3 : Int32)), .val (.int (((((0 : Int32) <<< ((8 : Int32) &&& 31)) ||| (b0 &&& (255 : Int32))) <<< ((8 : Int32) &&& 31)) ||| (b1 &&& (255 : Int32)))), .val (.int (5 : Int32))] [(.int (255 : Int32)), (.int b2), (.int ((((((0 : Int32) <<< ((8 : Int32) &&& 31)) ||| (b0 &&& (255 : Int32))) <<< ((8 : Int32) &&& 31)) ||| (b1 &&& (255 : Int32))) <<< ((8 : Int32) &&& 31)))]))
  refine Wp.via (fun _ k => XS.iand X0.here hx rfl (hb hby own_d1_21) rfl k) ?_
  show Wp p e below _ (T0.setTop (mkF m 22 #[.val (.ref a0), .val (.int (3 : Int32)), .val (.int (((((0 : Int32) <<< ((8 : Int32) &&& 31)) ||| (b0 &&& (255 : Int32))) <<< ((8 : Int32) &&& 31)) ||| (b1 &&& (255 : Int32)))), .val (.int (5 : Int32))] [(.int (b2 &&& (255 : Int32))), (.int ((((((0 : Int32) <<< ((8 : Int32) &&& 31)) ||| (b0 &&& (255 : Int32))) <<< ((8 : Int32) &&& 31)) ||| (b1 &&& (255 : Int32))) <<< ((8 : Int32) &&& 31)))]))
  refine Wp.via (fun _ k => XS.ior X0.here hx rfl (hb hby own_d1_22) rfl k) ?_
  show Wp p e below _ (T0.setTop (mkF m 23 #[.val (.ref a0), .val (.int (3 : Int32)), .val (.int (((((0 : Int32) <<< ((8 : Int32) &&& 31)) ||| (b0 &&& (255 : Int32))) <<< ((8 : Int32) &&& 31)) ||| (b1 &&& (255 : Int32)))), .val (.int (5 : Int32))] [(.int (((((((0 : Int32) <<< ((8 : Int32) &&& 31)) ||| (b0 &&& (255 : Int32))) <<< ((8 : Int32) &&& 31)) ||| (b1 &&& (255 : Int32))) <<< ((8 : Int32) &&& 31)) ||| (b2 &&& (255 : Int32))))]))
  refine Wp.via (fun _ k => XS.istoreN X0.here hx rfl (hb hby own_d1_23) rfl (l' := #[.val (.ref a0), .val (.int (3 : Int32)), .val (.int (((((((0 : Int32) <<< ((8 : Int32) &&& 31)) ||| (b0 &&& (255 : Int32))) <<< ((8 : Int32) &&& 31)) ||| (b1 &&& (255 : Int32))) <<< ((8 : Int32) &&& 31)) ||| (b2 &&& (255 : Int32)))), .val (.int (5 : Int32))]) rfl k) ?_
  show Wp p e below _ (T0.setTop (mkF m 24 #[.val (.ref a0), .val (.int (3 : Int32)), .val (.int (((((((0 : Int32) <<< ((8 : Int32) &&& 31)) ||| (b0 &&& (255 : Int32))) <<< ((8 : Int32) &&& 31)) ||| (b1 &&& (255 : Int32))) <<< ((8 : Int32) &&& 31)) ||| (b2 &&& (255 : Int32)))), .val (.int (5 : Int32))] []))
  refine Wp.via (fun _ k => XS.iinc X0.here hx rfl (hb hby own_d1_24) rfl (l' := #[.val (.ref a0), .val (.int (3 : Int32)), .val (.int (((((((0 : Int32) <<< ((8 : Int32) &&& 31)) ||| (b0 &&& (255 : Int32))) <<< ((8 : Int32) &&& 31)) ||| (b1 &&& (255 : Int32))) <<< ((8 : Int32) &&& 31)) ||| (b2 &&& (255 : Int32)))), .val (.int (6 : Int32))]) rfl k) ?_
  show Wp p e below _ (T0.setTop (mkF m 27 #[.val (.ref a0), .val (.int (3 : Int32)), .val (.int (((((((0 : Int32) <<< ((8 : Int32) &&& 31)) ||| (b0 &&& (255 : Int32))) <<< ((8 : Int32) &&& 31)) ||| (b1 &&& (255 : Int32))) <<< ((8 : Int32) &&& 31)) ||| (b2 &&& (255 : Int32)))), .val (.int (6 : Int32))] []))
  refine Wp.via (fun _ k => XS.goto X0.here hx rfl (pc0 := 27) (pc' := 4) rfl (hb hby own_d1_27) (by decide) (by decide) k) ?_
  show Wp p e below _ (T0.setTop (mkF m 4 #[.val (.ref a0), .val (.int (3 : Int32)), .val (.int (((((((0 : Int32) <<< ((8 : Int32) &&& 31)) ||| (b0 &&& (255 : Int32))) <<< ((8 : Int32) &&& 31)) ||| (b1 &&& (255 : Int32))) <<< ((8 : Int32) &&& 31)) ||| (b2 &&& (255 : Int32)))), .val (.int (6 : Int32))] []))
  refine Wp.via (fun _ k => XS.iloadN X0.here hx rfl (hb hby own_d1_4) rfl k) ?_
  show Wp p e below _ (T0.setTop (mkF m 5 #[.val (.ref a0), .val (.int (3 : Int32)), .val (.int (((((((0 : Int32) <<< ((8 : Int32) &&& 31)) ||| (b0 &&& (255 : Int32))) <<< ((8 : Int32) &&& 31)) ||| (b1 &&& (255 : Int32))) <<< ((8 : Int32) &&& 31)) ||| (b2 &&& (255 : Int32)))), .val (.int (6 : Int32))] [(.int (6 : Int32))]))
  refine Wp.via (fun _ k => XS.iloadN X0.here hx rfl (hb hby own_d1_5) rfl k) ?_
  show Wp p e below _ (T0.setTop (mkF m 6 #[.val (.ref a0), .val (.int (3 : Int32)), .val (.int (((((((0 : Int32) <<< ((8 : Int32) &&& 31)) ||| (b0 &&& (255 : Int32))) <<< ((8 : Int32) &&& 31)) ||| (b1 &&& (255 : Int32))) <<< ((8 : Int32) &&& 31)) ||| (b2 &&& (255 : Int32)))), .val (.int (6 : Int32))] [(.int (3 : Int32)), (.int (6 : Int32))]))
  refine Wp.via (fun _ k => XS.iconst X0.here hx rfl (hb hby own_d1_6) k) ?_
  show Wp p e below _ (T0.setTop (mkF m 7 #[.val (.ref a0), .val (.int (3 : Int32)), .val (.int (((((((0 : Int32) <<< ((8 : Int32) &&& 31)) ||| (b0 &&& (255 : Int32))) <<< ((8 : Int32) &&& 31)) ||| (b1 &&& (255 : Int32))) <<< ((8 : Int32) &&& 31)) ||| (b2 &&& (255 : Int32)))), .val (.int (6 : Int32))] [(.int (4 : Int32)), (.int (3 : Int32)), (.int (6 : Int32))]))
  refine Wp.via (fun _ k => XS.iadd X0.here hx rfl (hb hby own_d1_7) rfl k) ?_
  show Wp p e below _ (T0.setTop (mkF m 8 #[.val (.ref a0), .val (.int (3 : Int32)), .val (.int (((((((0 : Int32) <<< ((8 : Int32) &&& 31)) ||| (b0 &&& (255 : Int32))) <<< ((8 : Int32) &&& 31)) ||| (b1 &&& (255 : Int32))) <<< ((8 : Int32) &&& 31)) ||| (b2 &&& (255 : Int32)))), .val (.int (6 : Int32))] [(.int (7 : Int32)), (.int (6 : Int32))]))
  refine Wp.via (fun _ k => XS.icmpNo X0.here hx rfl (hb hby own_d1_8) rfl (tlt (by decide)).2.1 k) ?_
  show Wp p e below _ (T0.setTop (mkF m 11 #[.val (.ref a0), .val (.int (3 : Int32)), .val (.int (((((((0 : Int32) <<< ((8 : Int32) &&& 31)) ||| (b0 &&& (255 : Int32))) <<< ((8 : Int32) &&& 31)) ||| (b1 &&& (255 : Int32))) <<< ((8 : Int32) &&& 31)) ||| (b2 &&& (255 : Int32)))), .val (.int (6 : Int32))] []))
  refine Wp.via (fun _ k => XS.iloadN X0.here hx rfl (hb hby own_d1_11) rfl k) ?_
  show Wp p e below _ (T0.setTop (mkF m 12 #[.val (.ref a0), .val (.int (3 : Int32)), .val (.int (((((((0 : Int32) <<< ((8 : Int32) &&& 31)) ||| (b0 &&& (255 : Int32))) <<< ((8 : Int32) &&& 31)) ||| (b1 &&& (255 : Int32))) <<< ((8 : Int32) &&& 31)) ||| (b2 &&& (255 : Int32)))), .val (.int (6 : Int32))] [(.int (((((((0 : Int32) <<< ((8 : Int32) &&& 31)) ||| (b0 &&& (255 : Int32))) <<< ((8 : Int32) &&& 31)) ||| (b1 &&& (255 : Int32))) <<< ((8 : Int32) &&& 31)) ||| (b2 &&& (255 : Int32))))]))
  refine Wp.via (fun _ k => XS.bipush X0.here hx rfl (hb hby own_d1_12) k) ?_
  show Wp p e below _ (T0.setTop (mkF m 14 #[.val (.ref a0), .val (.int (3 : Int32)), .val (.int (((((((0 : Int32) <<< ((8 : Int32) &&& 31)) ||| (b0 &&& (255 : Int32))) <<< ((8 : Int32) &&& 31)) ||| (b1 &&& (255 : Int32))) <<< ((8 : Int32) &&& 31)) ||| (b2 &&& (255 : Int32)))), .val (.int (6 : Int32))] [(.int (8 : Int32)), (.int (((((((0 : Int32) <<< ((8 : Int32) &&& 31)) ||| (b0 &&& (255 : Int32))) <<< ((8 : Int32) &&& 31)) ||| (b1 &&& (255 : Int32))) <<< ((8 : Int32) &&& 31)) ||| (b2 &&& (255 : Int32))))]))
  refine Wp.via (fun _ k => XS.ishl X0.here hx rfl (hb hby own_d1_14) rfl k) ?_
  show Wp p e below _ (T0.setTop (mkF m 15 #[.val (.ref a0), .val (.int (3 : Int32)), .val (.int (((((((0 : Int32) <<< ((8 : Int32) &&& 31)) ||| (b0 &&& (255 : Int32))) <<< ((8 : Int32) &&& 31)) ||| (b1 &&& (255 : Int32))) <<< ((8 : Int32) &&& 31)) ||| (b2 &&& (255 : Int32)))), .val (.int (6 : Int32))] [(.int ((((((((0 : Int32) <<< ((8 : Int32) &&& 31)) ||| (b0 &&& (255 : Int32))) <<< ((8 : Int32) &&& 31)) ||| (b1 &&& (255 : Int32))) <<< ((8 : Int32) &&& 31)) ||| (b2 &&& (255 : Int32))) <<< ((8 : Int32) &&& 31)))]))
  refine Wp.via (fun _ k => XS.aloadN X0.here hx rfl (hb hby own_d1_15) rfl rfl k) ?_
  show Wp p e below _ (T0.setTop (mkF m 16 #[.val (.ref a0), .val (.int (3 : Int32)), .val (.int (((((((0 : Int32) <<< ((8 : Int32) &&& 31)) ||| (b0 &&& (255 : Int32))) <<< ((8 : Int32) &&& 31)) ||| (b1 &&& (255 : Int32))) <<< ((8 : Int32) &&& 31)) ||| (b2 &&& (255 : Int32)))), .val (.int (6 : Int32))] [(.ref a0), (.int ((((((((0 : Int32) <<< ((8 : Int32) &&& 31)) ||| (b0 &&& (255 : Int32))) <<< ((8 : Int32) &&& 31)) ||| (b1 &&& (255 : Int32))) <<< ((8 : Int32) &&& 31)) ||| (b2 &&& (255 : Int32))) <<< ((8 : Int32) &&& 31)))]))
  refine Wp.via (fun _ k => XS.iloadN X0.here hx rfl (hb hby own_d1_16) rfl k) ?_
  show Wp p e below _ (T0.setTop (mkF m 17 #[.val (.ref a0), .val (.int (3 : Int32)), .val (.int (((((((0 : Int32) <<< ((8 : Int32) &&& 31)) ||| (b0 &&& (255 : Int32))) <<< ((8 : Int32) &&& 31)) ||| (b1 &&& (255 : Int32))) <<< ((8 : Int32) &&& 31)) ||| (b2 &&& (255 : Int32)))), .val (.int (6 : Int32))] [(.int (6 : Int32)), (.ref a0), (.int ((((((((0 : Int32) <<< ((8 : Int32) &&& 31)) ||| (b0 &&& (255 : Int32))) <<< ((8 : Int32) &&& 31)) ||| (b1 &&& (255 : Int32))) <<< ((8 : Int32) &&& 31)) ||| (b2 &&& (255 : Int32))) <<< ((8 : Int32) &&& 31)))]))
  refine Wp.via (fun _ k => avLdB X0 hx hZ e0 V0 (i := 6) (by decide) rfl (by decide) (w := (.int b3)) hb3 (g := (mkF m 17 #[.val (.ref a0), .val (.int (3 : Int32)), .val (.int (((((((0 : Int32) <<< ((8 : Int32) &&& 31)) ||| (b0 &&& (255 : Int32))) <<< ((8 : Int32) &&& 31)) ||| (b1 &&& (255 : Int32))) <<< ((8 : Int32) &&& 31)) ||| (b2 &&& (255 : Int32)))), .val (.int (6 : Int32))] [(.int (6 : Int32)), (.ref a0), (.int ((((((((0 : Int32) <<< ((8 : Int32) &&& 31)) ||| (b0 &&& (255 : Int32))) <<< ((8 : Int32) &&& 31)) ||| (b1 &&& (255 : Int32))) <<< ((8 : Int32) &&& 31)) ||| (b2 &&& (255 : Int32))) <<< ((8 : Int32) &&& 31)))])) rfl rfl (hb hby own_d1_17) _ k) ?_
  show Wp p e below _ (T0.setTop (mkF m 18 #[.val (.ref a0), .val (.int (3 : Int32)), .val (.int (((((((0 : Int32) <<< ((8 : Int32) &&& 31)) ||| (b0 &&& (255 : Int32))) <<< ((8 : Int32) &&& 31)) ||| (b1 &&& (255 : Int32))) <<< ((8 : Int32) &&& 31)) ||| (b2 &&& (255 : Int32)))), .val (.int (6 : Int32))] [(.int b3), (.int ((((((((0 : Int32) <<< ((8 : Int32) &&& 31)) ||| (b0 &&& (255 : Int32))) <<< ((8 : Int32) &&& 31)) ||| (b1 &&& (255 : Int32))) <<< ((8 : Int32) &&& 31)) ||| (b2 &&& (255 : Int32))) <<< ((8 : Int32) &&& 31)))]))
  refine Wp.via (fun _ k => XS.sipush X0.here hx rfl (hb hby own_d1_18) k) ?_
  show Wp p e below _ (T0.setTop (mkF m 21 #[.val (.ref a0), .val (.int (3 : Int32)), .val (.int (((((((0 : Int32) <<< ((8 : Int32) &&& 31)) ||| (b0 &&& (255 : Int32))) <<< ((8 : Int32) &&& 31)) ||| (b1 &&& (255 : Int32))) <<< ((8 : Int32) &&& 31)) ||| (b2 &&& (255 : Int32)))), .val (.int (6 : Int32))] [(.int (255 : Int32)), (.int b3), (.int ((((((((0 : Int32) <<< ((8 : Int32) &&& 31)) ||| (b0 &&& (255 : Int32))) <<< ((8 : Int32) &&& 31)) ||| (b1 &&& (255 : Int32))) <<< ((8 : Int32) &&& 31)) ||| (b2 &&& (255 : Int32))) <<< ((8 : Int32) &&& 31)))]))
  refine Wp.via (fun _ k => XS.iand X0.here hx rfl (hb hby own_d1_21) rfl k) ?_
  show Wp p e below _ (T0.setTop (mkF m 22 #[.val (.ref a0), .val (.int (3 : Int32)), .val (.int (((((((0 : Int32) <<< ((8 : Int32) &&& 31)) ||| (b0 &&& (255 : Int32))) <<< ((8 : Int32) &&& 31)) ||| (b1 &&& (255 : Int32))) <<< ((8 : Int32) &&& 31)) ||| (b2 &&& (255 : Int32)))), .val (.int (6 : Int32))] [(.int (b3 &&& (255 : Int32))), (.int ((((((((0 : Int32) <<< ((8 : Int32) &&& 31)) ||| (b0 &&& (255 : Int32))) <<< ((8 : Int32) &&& 31)) ||| (b1 &&& (255 : Int32))) <<< ((8 : Int32) &&& 31)) ||| (b2 &&& (255 : Int32))) <<< ((8 : Int32) &&& 31)))]))
  refine Wp.via (fun _ k => XS.ior X0.here hx rfl (hb hby own_d1_22) rfl k) ?_
  show Wp p e below _ (T0.setTop (mkF m 23 #[.val (.ref a0), .val (.int (3 : Int32)), .val (.int (((((((0 : Int32) <<< ((8 : Int32) &&& 31)) ||| (b0 &&& (255 : Int32))) <<< ((8 : Int32) &&& 31)) ||| (b1 &&& (255 : Int32))) <<< ((8 : Int32) &&& 31)) ||| (b2 &&& (255 : Int32)))), .val (.int (6 : Int32))] [(.int (((((((((0 : Int32) <<< ((8 : Int32) &&& 31)) ||| (b0 &&& (255 : Int32))) <<< ((8 : Int32) &&& 31)) ||| (b1 &&& (255 : Int32))) <<< ((8 : Int32) &&& 31)) ||| (b2 &&& (255 : Int32))) <<< ((8 : Int32) &&& 31)) ||| (b3 &&& (255 : Int32))))]))
  refine Wp.via (fun _ k => XS.istoreN X0.here hx rfl (hb hby own_d1_23) rfl (l' := #[.val (.ref a0), .val (.int (3 : Int32)), .val (.int (((((((((0 : Int32) <<< ((8 : Int32) &&& 31)) ||| (b0 &&& (255 : Int32))) <<< ((8 : Int32) &&& 31)) ||| (b1 &&& (255 : Int32))) <<< ((8 : Int32) &&& 31)) ||| (b2 &&& (255 : Int32))) <<< ((8 : Int32) &&& 31)) ||| (b3 &&& (255 : Int32)))), .val (.int (6 : Int32))]) rfl k) ?_
  show Wp p e below _ (T0.setTop (mkF m 24 #[.val (.ref a0), .val (.int (3 : Int32)), .val (.int (((((((((0 : Int32) <<< ((8 : Int32) &&& 31)) ||| (b0 &&& (255 : Int32))) <<< ((8 : Int32) &&& 31)) ||| (b1 &&& (255 : Int32))) <<< ((8 : Int32) &&& 31)) ||| (b2 &&& (255 : Int32))) <<< ((8 : Int32) &&& 31)) ||| (b3 &&& (255 : Int32)))), .val (.int (6 : Int32))] []))
  refine Wp.via (fun _ k => XS.iinc X0.here hx rfl (hb hby own_d1_24) rfl (l' := #[.val (.ref a0), .val (.int (3 : Int32)), .val (.int (((((((((0 : Int32) <<< ((8 : Int32) &&& 31)) ||| (b0 &&& (255 : Int32))) <<< ((8 : Int32) &&& 31)) ||| (b1 &&& (255 : Int32))) <<< ((8 : Int32) &&& 31)) ||| (b2 &&& (255 : Int32))) <<< ((8 : Int32) &&& 31)) ||| (b3 &&& (255 : Int32)))), .val (.int (7 : Int32))]) rfl k) ?_
  show Wp p e below _ (T0.setTop (mkF m 27 #[.val (.ref a0), .val (.int (3 : Int32)), .val (.int (((((((((0 : Int32) <<< ((8 : Int32) &&& 31)) ||| (b0 &&& (255 : Int32))) <<< ((8 : Int32) &&& 31)) ||| (b1 &&& (255 : Int32))) <<< ((8 : Int32) &&& 31)) ||| (b2 &&& (255 : Int32))) <<< ((8 : Int32) &&& 31)) ||| (b3 &&& (255 : Int32)))), .val (.int (7 : Int32))] []))
  refine Wp.via (fun _ k => XS.goto X0.here hx rfl (pc0 := 27) (pc' := 4) rfl (hb hby own_d1_27) (by decide) (by decide) k) ?_
  show Wp p e below _ (T0.setTop (mkF m 4 #[.val (.ref a0), .val (.int (3 : Int32)), .val (.int (((((((((0 : Int32) <<< ((8 : Int32) &&& 31)) ||| (b0 &&& (255 : Int32))) <<< ((8 : Int32) &&& 31)) ||| (b1 &&& (255 : Int32))) <<< ((8 : Int32) &&& 31)) ||| (b2 &&& (255 : Int32))) <<< ((8 : Int32) &&& 31)) ||| (b3 &&& (255 : Int32)))), .val (.int (7 : Int32))] []))
  refine Wp.via (fun _ k => XS.iloadN X0.here hx rfl (hb hby own_d1_4) rfl k) ?_
  show Wp p e below _ (T0.setTop (mkF m 5 #[.val (.ref a0), .val (.int (3 : Int32)), .val (.int (((((((((0 : Int32) <<< ((8 : Int32) &&& 31)) ||| (b0 &&& (255 : Int32))) <<< ((8 : Int32) &&& 31)) ||| (b1 &&& (255 : Int32))) <<< ((8 : Int32) &&& 31)) ||| (b2 &&& (255 : Int32))) <<< ((8 : Int32) &&& 31)) ||| (b3 &&& (255 : Int32)))), .val (.int (7 : Int32))] [(.int (7 : Int32))]))
  refine Wp.via (fun _ k => XS.iloadN X0.here hx rfl (hb hby own_d1_5) rfl k) ?_
  show Wp p e below _ (T0.setTop (mkF m 6 #[.val (.ref a0), .val (.int (3 : Int32)), .val (.int (((((((((0 : Int32) <<< ((8 : Int32) &&& 31)) ||| (b0 &&& (255 : Int32))) <<< ((8 : Int32) &&& 31)) ||| (b1 &&& (255 : Int32))) <<< ((8 : Int32) &&& 31)) ||| (b2 &&& (255 : Int32))) <<< ((8 : Int32) &&& 31)) ||| (b3 &&& (255 : Int32)))), .val (.int (7 : Int32))] [(.int (3 : Int32)), (.int (7 : Int32))]))
  refine Wp.via (fun _ k => XS.iconst X0.here hx rfl (hb hby own_d1_6) k) ?_
  show Wp p e below _ (T0.setTop (mkF m 7 #[.val (.ref a0), .val (.int (3 : Int32)), .val (.int (((((((((0 : Int32) <<< ((8 : Int32) &&& 31)) ||| (b0 &&& (255 : Int32))) <<< ((8 : Int32) &&& 31)) ||| (b1 &&& (255 : Int32))) <<< ((8 : Int32) &&& 31)) ||| (b2 &&& (255 : Int32))) <<< ((8 : Int32) &&& 31)) ||| (b3 &&& (255 : Int32)))), .val (.int (7 : Int32))] [(.int (4 : Int32)), (.int (3 : Int32)), (.int (7 : Int32))]))
  refine Wp.via (fun _ k => XS.iadd X0.here hx rfl (hb hby own_d1_7) rfl k) ?_
  show Wp p e below _ (T0.setTop (mkF m 8 #[.val (.ref a0), .val (.int (3 : Int32)), .val (.int (((((((((0 : Int32) <<< ((8 : Int32) &&& 31)) ||| (b0 &&& (255 : Int32))) <<< ((8 : Int32) &&& 31)) ||| (b1 &&& (255 : Int32))) <<< ((8 : Int32) &&& 31)) ||| (b2 &&& (255 : Int32))) <<< ((8 : Int32) &&& 31)) ||| (b3 &&& (255 : Int32)))), .val (.int (7 : Int32))] [(.int (7 : Int32)), (.int (7 : Int32))]))
  refine Wp.via (fun _ k => XS.icmpYes X0.here hx rfl (pc0 := 8) (pc' := 30) rfl (hb hby own_d1_8) rfl (flt (by decide)).2.1 (by decide) (by decide) k) ?_
  show Wp p e below _ (T0.setTop (mkF m 30 #[.val (.ref a0), .val (.int (3 : Int32)), .val (.int (((((((((0 : Int32) <<< ((8 : Int32) &&& 31)) ||| (b0 &&& (255 : Int32))) <<< ((8 : Int32) &&& 31)) ||| (b1 &&& (255 : Int32))) <<< ((8 : Int32) &&& 31)) ||| (b2 &&& (255 : Int32))) <<< ((8 : Int32) &&& 31)) ||| (b3 &&& (255 : Int32)))), .val (.int (7 : Int32))] []))
  refine Wp.via (fun _ k => XS.iloadN X0.here hx rfl (hb hby own_d1_30) rfl k) ?_
  show Wp p e below _ (T0.setTop (mkF m 31 #[.val (.ref a0), .val (.int (3 : Int32)), .val (.int (((((((((0 : Int32) <<< ((8 : Int32) &&& 31)) ||| (b0 &&& (255 : Int32))) <<< ((8 : Int32) &&& 31)) ||| (b1 &&& (255 : Int32))) <<< ((8 : Int32) &&& 31)) ||| (b2 &&& (255 : Int32))) <<< ((8 : Int32) &&& 31)) ||| (b3 &&& (255 : Int32)))), .val (.int (7 : Int32))] [(.int (((((((((0 : Int32) <<< ((8 : Int32) &&& 31)) ||| (b0 &&& (255 : Int32))) <<< ((8 : Int32) &&& 31)) ||| (b1 &&& (255 : Int32))) <<< ((8 : Int32) &&& 31)) ||| (b2 &&& (255 : Int32))) <<< ((8 : Int32) &&& 31)) ||| (b3 &&& (255 : Int32))))]))
  exact Wp.retI X0 hlk hx hret (by simp) rfl (hb hby own_d1_31) ⟨rfl, NF0, e0⟩ (by decide) (by decide)
theorem own_ef1_4 (m : MethodId) (a0 : Addr) : entryFrame m #[(.ref a0), (.int (4 : Int32))] 4 = mkF m 0 #[.val (.ref a0), .val (.int (4 : Int32)), .unset, .unset] [] := by first | (simp [entryFrame, mkF, argsToLocals, Value.category]; done) | rfl
def Qo1_4 (Z : State) (a0 : Addr) (f : Nat → Value) (b0 b1 b2 b3 : Int32) (h0 : Heap) (n0 : Nat) (v : Option Value) (h : Heap) (L : List Loc) : Prop := v = some (.int (own_s b0 b1 b2 b3)) ∧ Fr n0 L ∧ h = h0
set_option maxRecDepth 65536 in
set_option maxHeartbeats 40000000 in
theorem rm1_4 (l : Launch) (Z : State) (aw : Array Value) (hw : ∀ d ∈ tables_1, d.before aw Z = true) (ws : List Jvm.Cond) (a0 : Addr) (f : Nat → Value) (b0 b1 b2 b3 : Int32) (h0 : Heap) (n0 : Nat) (Z0 : n0 ≤ h0.size) (V0 : Av Z h0 a0 .byte 8 f) (hb0 : f 4 = .int b0) (hb1 : f 5 = .int b1) (hb2 : f 6 = .int b2) (hb3 : f 7 = .int b3) :
    MetFree l (⟨"com/example/inverso/inverso/index/CheckValue", "stored", "([BI)I"⟩ : MethodName) (head1 (Jvm.Cond.code (⟨"com/example/inverso/inverso/index/CheckValue", "stored", "([BI)I"⟩ : MethodName) prog_51_method_9_code 4 (some .int) :: ws) ({ frames := 0, cells := 0, slots := 0, locals := 0 } : Room)) (fun a U => a = #[(.ref a0), (.int (4 : Int32))] ∧ Z.Warmed39 U.vm ∧ U.heap = h0) (fun _ _ _ _ _ => True) (fun _ U o U' => ∃ v L, o = .returned v ∧ (Qo1_4 Z a0 f b0 b1 b2 b3 h0 n0) v U'.heap L ∧ FrameEnd U o U' L ({ frames := 0, cells := 0, slots := 0, locals := 0 } : Room).cells ({ frames := 0, cells := 0, slots := 0, locals := 0 } : Room).slots) := by
  refine ofWp (Q := Qo1_4 Z a0 f b0 b1 b2 b3 h0 n0) own_pl1 (fun m => own_ef1_4 m a0) ?_
  intro p e s m below meth c T0 hx hby hml hown hnm hlk hret hZ X0 e0
  change s.vm.findClass "com/example/inverso/inverso/index/CheckValue" = some m.cls at hown
  have NF0 := Fr.nil n0
  refine Wp.via (fun _ k => XS.iconst X0.here hx rfl (hb hby own_d1_0) k) ?_
  show Wp p e below _ (T0.setTop (mkF m 1 #[.val (.ref a0), .val (.int (4 : Int32)), .unset, .unset] [(.int (0 : Int32))]))
  refine Wp.via (fun _ k => XS.istoreN X0.here hx rfl (hb hby own_d1_1) rfl (l' := #[.val (.ref a0), .val (.int (4 : Int32)), .val (.int (0 : Int32)), .unset]) rfl k) ?_
  show Wp p e below _ (T0.setTop (mkF m 2 #[.val (.ref a0), .val (.int (4 : Int32)), .val (.int (0 : Int32)), .unset] []))
  refine Wp.via (fun _ k => XS.iloadN X0.here hx rfl (hb hby own_d1_2) rfl k) ?_
  show Wp p e below _ (T0.setTop (mkF m 3 #[.val (.ref a0), .val (.int (4 : Int32)), .val (.int (0 : Int32)), .unset] [(.int (4 : Int32))]))
  refine Wp.via (fun _ k => XS.istoreN X0.here hx rfl (hb hby own_d1_3) rfl (l' := #[.val (.ref a0), .val (.int (4 : Int32)), .val (.int (0 : Int32)), .val (.int (4 : Int32))]) rfl k) ?_
  show Wp p e below _ (T0.setTop (mkF m 4 #[.val (.ref a0), .val (.int (4 : Int32)), .val (.int (0 : Int32)), .val (.int (4 : Int32))] []))
  refine Wp.via (fun _ k => XS.iloadN X0.here hx rfl (hb hby own_d1_4) rfl k) ?_
  show Wp p e below _ (T0.setTop (mkF m 5 #[.val (.ref a0), .val (.int (4 : Int32)), .val (.int (0 : Int32)), .val (.int (4 : Int32))] [(.int (4 : Int32))]))
  refine Wp.via (fun _ k => XS.iloadN X0.here hx rfl (hb hby own_d1_5) rfl k) ?_
  show Wp p e below _ (T0.setTop (mkF m 6 #[.val (.ref a0), .val (.int (4 : Int32)), .val (.int (0 : Int32)), .val (.int (4 : Int32))] [(.int (4 : Int32)), (.int (4 : Int32))]))
  refine Wp.via (fun _ k => XS.iconst X0.here hx rfl (hb hby own_d1_6) k) ?_
  show Wp p e below _ (T0.setTop (mkF m 7 #[.val (.ref a0), .val (.int (4 : Int32)), .val (.int (0 : Int32)), .val (.int (4 : Int32))] [(.int (4 : Int32)), (.int (4 : Int32)), (.int (4 : Int32))]))
  refine Wp.via (fun _ k => XS.iadd X0.here hx rfl (hb hby own_d1_7) rfl k) ?_
  show Wp p e below _ (T0.setTop (mkF m 8 #[.val (.ref a0), .val (.int (4 : Int32)), .val (.int (0 : Int32)), .val (.int (4 : Int32))] [(.int (8 : Int32)), (.int (4 : Int32))]))
  refine Wp.via (fun _ k => XS.icmpNo X0.here hx rfl (hb hby own_d1_8) rfl (tlt (by decide)).2.1 k) ?_
  show Wp p e below _ (T0.setTop (mkF m 11 #[.val (.ref a0), .val (.int (4 : Int32)), .val (.int (0 : Int32)), .val (.int (4 : Int32))] []))
  refine Wp.via (fun _ k => XS.iloadN X0.here hx rfl (hb hby own_d1_11) rfl k) ?_
  show Wp p e below _ (T0.setTop (mkF m 12 #[.val (.ref a0), .val (.int (4 : Int32)), .val (.int (0 : Int32)), .val (.int (4 : Int32))] [(.int (0 : Int32))]))
  refine Wp.via (fun _ k => XS.bipush X0.here hx rfl (hb hby own_d1_12) k) ?_
  show Wp p e below _ (T0.setTop (mkF m 14 #[.val (.ref a0), .val (.int (4 : Int32)), .val (.int (0 : Int32)), .val (.int (4 : Int32))] [(.int (8 : Int32)), (.int (0 : Int32))]))
  refine Wp.via (fun _ k => XS.ishl X0.here hx rfl (hb hby own_d1_14) rfl k) ?_
  show Wp p e below _ (T0.setTop (mkF m 15 #[.val (.ref a0), .val (.int (4 : Int32)), .val (.int (0 : Int32)), .val (.int (4 : Int32))] [(.int ((0 : Int32) <<< ((8 : Int32) &&& 31)))]))
  refine Wp.via (fun _ k => XS.aloadN X0.here hx rfl (hb hby own_d1_15) rfl rfl k) ?_
  show Wp p e below _ (T0.setTop (mkF m 16 #[.val (.ref a0), .val (.int (4 : Int32)), .val (.int (0 : Int32)), .val (.int (4 : Int32))] [(.ref a0), (.int ((0 : Int32) <<< ((8 : Int32) &&& 31)))]))
  refine Wp.via (fun _ k => XS.iloadN X0.here hx rfl (hb hby own_d1_16) rfl k) ?_
  show Wp p e below _ (T0.setTop (mkF m 17 #[.val (.ref a0), .val (.int (4 : Int32)), .val (.int (0 : Int32)), .val (.int (4 : Int32))] [(.int (4 : Int32)), (.ref a0), (.int ((0 : Int32) <<< ((8 : Int32) &&& 31)))]))
  refine Wp.via (fun _ k => avLdB X0 hx hZ e0 V0 (i := 4) (by decide) rfl (by decide) (w := (.int b0)) hb0 (g := (mkF m 17 #[.val (.ref a0), .val (.int (4 : Int32)), .val (.int (0 : Int32)), .val (.int (4 : Int32))] [(.int (4 : Int32)), (.ref a0), (.int ((0 : Int32) <<< ((8 : Int32) &&& 31)))])) rfl rfl (hb hby own_d1_17) _ k) ?_
  show Wp p e below _ (T0.setTop (mkF m 18 #[.val (.ref a0), .val (.int (4 : Int32)), .val (.int (0 : Int32)), .val (.int (4 : Int32))] [(.int b0), (.int ((0 : Int32) <<< ((8 : Int32) &&& 31)))]))
  refine Wp.via (fun _ k => XS.sipush X0.here hx rfl (hb hby own_d1_18) k) ?_
  show Wp p e below _ (T0.setTop (mkF m 21 #[.val (.ref a0), .val (.int (4 : Int32)), .val (.int (0 : Int32)), .val (.int (4 : Int32))] [(.int (255 : Int32)), (.int b0), (.int ((0 : Int32) <<< ((8 : Int32) &&& 31)))]))
  refine Wp.via (fun _ k => XS.iand X0.here hx rfl (hb hby own_d1_21) rfl k) ?_
  show Wp p e below _ (T0.setTop (mkF m 22 #[.val (.ref a0), .val (.int (4 : Int32)), .val (.int (0 : Int32)), .val (.int (4 : Int32))] [(.int (b0 &&& (255 : Int32))), (.int ((0 : Int32) <<< ((8 : Int32) &&& 31)))]))
  refine Wp.via (fun _ k => XS.ior X0.here hx rfl (hb hby own_d1_22) rfl k) ?_
  show Wp p e below _ (T0.setTop (mkF m 23 #[.val (.ref a0), .val (.int (4 : Int32)), .val (.int (0 : Int32)), .val (.int (4 : Int32))] [(.int (((0 : Int32) <<< ((8 : Int32) &&& 31)) ||| (b0 &&& (255 : Int32))))]))
  refine Wp.via (fun _ k => XS.istoreN X0.here hx rfl (hb hby own_d1_23) rfl (l' := #[.val (.ref a0), .val (.int (4 : Int32)), .val (.int (((0 : Int32) <<< ((8 : Int32) &&& 31)) ||| (b0 &&& (255 : Int32)))), .val (.int (4 : Int32))]) rfl k) ?_
  show Wp p e below _ (T0.setTop (mkF m 24 #[.val (.ref a0), .val (.int (4 : Int32)), .val (.int (((0 : Int32) <<< ((8 : Int32) &&& 31)) ||| (b0 &&& (255 : Int32)))), .val (.int (4 : Int32))] []))
  refine Wp.via (fun _ k => XS.iinc X0.here hx rfl (hb hby own_d1_24) rfl (l' := #[.val (.ref a0), .val (.int (4 : Int32)), .val (.int (((0 : Int32) <<< ((8 : Int32) &&& 31)) ||| (b0 &&& (255 : Int32)))), .val (.int (5 : Int32))]) rfl k) ?_
  show Wp p e below _ (T0.setTop (mkF m 27 #[.val (.ref a0), .val (.int (4 : Int32)), .val (.int (((0 : Int32) <<< ((8 : Int32) &&& 31)) ||| (b0 &&& (255 : Int32)))), .val (.int (5 : Int32))] []))
  refine Wp.via (fun _ k => XS.goto X0.here hx rfl (pc0 := 27) (pc' := 4) rfl (hb hby own_d1_27) (by decide) (by decide) k) ?_
  show Wp p e below _ (T0.setTop (mkF m 4 #[.val (.ref a0), .val (.int (4 : Int32)), .val (.int (((0 : Int32) <<< ((8 : Int32) &&& 31)) ||| (b0 &&& (255 : Int32)))), .val (.int (5 : Int32))] []))
  refine Wp.via (fun _ k => XS.iloadN X0.here hx rfl (hb hby own_d1_4) rfl k) ?_
  show Wp p e below _ (T0.setTop (mkF m 5 #[.val (.ref a0), .val (.int (4 : Int32)), .val (.int (((0 : Int32) <<< ((8 : Int32) &&& 31)) ||| (b0 &&& (255 : Int32)))), .val (.int (5 : Int32))] [(.int (5 : Int32))]))
  refine Wp.via (fun _ k => XS.iloadN X0.here hx rfl (hb hby own_d1_5) rfl k) ?_
  show Wp p e below _ (T0.setTop (mkF m 6 #[.val (.ref a0), .val (.int (4 : Int32)), .val (.int (((0 : Int32) <<< ((8 : Int32) &&& 31)) ||| (b0 &&& (255 : Int32)))), .val (.int (5 : Int32))] [(.int (4 : Int32)), (.int (5 : Int32))]))
  refine Wp.via (fun _ k => XS.iconst X0.here hx rfl (hb hby own_d1_6) k) ?_
  show Wp p e below _ (T0.setTop (mkF m 7 #[.val (.ref a0), .val (.int (4 : Int32)), .val (.int (((0 : Int32) <<< ((8 : Int32) &&& 31)) ||| (b0 &&& (255 : Int32)))), .val (.int (5 : Int32))] [(.int (4 : Int32)), (.int (4 : Int32)), (.int (5 : Int32))]))
  refine Wp.via (fun _ k => XS.iadd X0.here hx rfl (hb hby own_d1_7) rfl k) ?_
  show Wp p e below _ (T0.setTop (mkF m 8 #[.val (.ref a0), .val (.int (4 : Int32)), .val (.int (((0 : Int32) <<< ((8 : Int32) &&& 31)) ||| (b0 &&& (255 : Int32)))), .val (.int (5 : Int32))] [(.int (8 : Int32)), (.int (5 : Int32))]))
  refine Wp.via (fun _ k => XS.icmpNo X0.here hx rfl (hb hby own_d1_8) rfl (tlt (by decide)).2.1 k) ?_
  show Wp p e below _ (T0.setTop (mkF m 11 #[.val (.ref a0), .val (.int (4 : Int32)), .val (.int (((0 : Int32) <<< ((8 : Int32) &&& 31)) ||| (b0 &&& (255 : Int32)))), .val (.int (5 : Int32))] []))
  refine Wp.via (fun _ k => XS.iloadN X0.here hx rfl (hb hby own_d1_11) rfl k) ?_
  show Wp p e below _ (T0.setTop (mkF m 12 #[.val (.ref a0), .val (.int (4 : Int32)), .val (.int (((0 : Int32) <<< ((8 : Int32) &&& 31)) ||| (b0 &&& (255 : Int32)))), .val (.int (5 : Int32))] [(.int (((0 : Int32) <<< ((8 : Int32) &&& 31)) ||| (b0 &&& (255 : Int32))))]))
  refine Wp.via (fun _ k => XS.bipush X0.here hx rfl (hb hby own_d1_12) k) ?_
  show Wp p e below _ (T0.setTop (mkF m 14 #[.val (.ref a0), .val (.int (4 : Int32)), .val (.int (((0 : Int32) <<< ((8 : Int32) &&& 31)) ||| (b0 &&& (255 : Int32)))), .val (.int (5 : Int32))] [(.int (8 : Int32)), (.int (((0 : Int32) <<< ((8 : Int32) &&& 31)) ||| (b0 &&& (255 : Int32))))]))
  refine Wp.via (fun _ k => XS.ishl X0.here hx rfl (hb hby own_d1_14) rfl k) ?_
  show Wp p e below _ (T0.setTop (mkF m 15 #[.val (.ref a0), .val (.int (4 : Int32)), .val (.int (((0 : Int32) <<< ((8 : Int32) &&& 31)) ||| (b0 &&& (255 : Int32)))), .val (.int (5 : Int32))] [(.int ((((0 : Int32) <<< ((8 : Int32) &&& 31)) ||| (b0 &&& (255 : Int32))) <<< ((8 : Int32) &&& 31)))]))
  refine Wp.via (fun _ k => XS.aloadN X0.here hx rfl (hb hby own_d1_15) rfl rfl k) ?_
  show Wp p e below _ (T0.setTop (mkF m 16 #[.val (.ref a0), .val (.int (4 : Int32)), .val (.int (((0 : Int32) <<< ((8 : Int32) &&& 31)) ||| (b0 &&& (255 : Int32)))), .val (.int (5 : Int32))] [(.ref a0), (.int ((((0 : Int32) <<< ((8 : Int32) &&& 31)) ||| (b0 &&& (255 : Int32))) <<< ((8 : Int32) &&& 31)))]))
  refine Wp.via (fun _ k => XS.iloadN X0.here hx rfl (hb hby own_d1_16) rfl k) ?_
  show Wp p e below _ (T0.setTop (mkF m 17 #[.val (.ref a0), .val (.int (4 : Int32)), .val (.int (((0 : Int32) <<< ((8 : Int32) &&& 31)) ||| (b0 &&& (255 : Int32)))), .val (.int (5 : Int32))] [(.int (5 : Int32)), (.ref a0), (.int ((((0 : Int32) <<< ((8 : Int32) &&& 31)) ||| (b0 &&& (255 : Int32))) <<< ((8 : Int32) &&& 31)))]))
  refine Wp.via (fun _ k => avLdB X0 hx hZ e0 V0 (i := 5) (by decide) rfl (by decide) (w := (.int b1)) hb1 (g := (mkF m 17 #[.val (.ref a0), .val (.int (4 : Int32)), .val (.int (((0 : Int32) <<< ((8 : Int32) &&& 31)) ||| (b0 &&& (255 : Int32)))), .val (.int (5 : Int32))] [(.int (5 : Int32)), (.ref a0), (.int ((((0 : Int32) <<< ((8 : Int32) &&& 31)) ||| (b0 &&& (255 : Int32))) <<< ((8 : Int32) &&& 31)))])) rfl rfl (hb hby own_d1_17) _ k) ?_
  show Wp p e below _ (T0.setTop (mkF m 18 #[.val (.ref a0), .val (.int (4 : Int32)), .val (.int (((0 : Int32) <<< ((8 : Int32) &&& 31)) ||| (b0 &&& (255 : Int32)))), .val (.int (5 : Int32))] [(.int b1), (.int ((((0 : Int32) <<< ((8 : Int32) &&& 31)) ||| (b0 &&& (255 : Int32))) <<< ((8 : Int32) &&& 31)))]))
  refine Wp.via (fun _ k => XS.sipush X0.here hx rfl (hb hby own_d1_18) k) ?_
  show Wp p e below _ (T0.setTop (mkF m 21 #[.val (.ref a0), .val (.int (4 : Int32)), .val (.int (((0 : Int32) <<< ((8 : Int32) &&& 31)) ||| (b0 &&& (255 : Int32)))), .val (.int (5 : Int32))] [(.int (255 : Int32)), (.int b1), (.int ((((0 : Int32) <<< ((8 : Int32) &&& 31)) ||| (b0 &&& (255 : Int32))) <<< ((8 : Int32) &&& 31)))]))
  refine Wp.via (fun _ k => XS.iand X0.here hx rfl (hb hby own_d1_21) rfl k) ?_
  show Wp p e below _ (T0.setTop (mkF m 22 #[.val (.ref a0), .val (.int (4 : Int32)), .val (.int (((0 : Int32) <<< ((8 : Int32) &&& 31)) ||| (b0 &&& (255 : Int32)))), .val (.int (5 : Int32))] [(.int (b1 &&& (255 : Int32))), (.int ((((0 : Int32) <<< ((8 : Int32) &&& 31)) ||| (b0 &&& (255 : Int32))) <<< ((8 : Int32) &&& 31)))]))
  refine Wp.via (fun _ k => XS.ior X0.here hx rfl (hb hby own_d1_22) rfl k) ?_
  show Wp p e below _ (T0.setTop (mkF m 23 #[.val (.ref a0), .val (.int (4 : Int32)), .val (.int (((0 : Int32) <<< ((8 : Int32) &&& 31)) ||| (b0 &&& (255 : Int32)))), .val (.int (5 : Int32))] [(.int (((((0 : Int32) <<< ((8 : Int32) &&& 31)) ||| (b0 &&& (255 : Int32))) <<< ((8 : Int32) &&& 31)) ||| (b1 &&& (255 : Int32))))]))
  refine Wp.via (fun _ k => XS.istoreN X0.here hx rfl (hb hby own_d1_23) rfl (l' := #[.val (.ref a0), .val (.int (4 : Int32)), .val (.int (((((0 : Int32) <<< ((8 : Int32) &&& 31)) ||| (b0 &&& (255 : Int32))) <<< ((8 : Int32) &&& 31)) ||| (b1 &&& (255 : Int32)))), .val (.int (5 : Int32))]) rfl k) ?_
  show Wp p e below _ (T0.setTop (mkF m 24 #[.val (.ref a0), .val (.int (4 : Int32)), .val (.int (((((0 : Int32) <<< ((8 : Int32) &&& 31)) ||| (b0 &&& (255 : Int32))) <<< ((8 : Int32) &&& 31)) ||| (b1 &&& (255 : Int32)))), .val (.int (5 : Int32))] []))
  refine Wp.via (fun _ k => XS.iinc X0.here hx rfl (hb hby own_d1_24) rfl (l' := #[.val (.ref a0), .val (.int (4 : Int32)), .val (.int (((((0 : Int32) <<< ((8 : Int32) &&& 31)) ||| (b0 &&& (255 : Int32))) <<< ((8 : Int32) &&& 31)) ||| (b1 &&& (255 : Int32)))), .val (.int (6 : Int32))]) rfl k) ?_
  show Wp p e below _ (T0.setTop (mkF m 27 #[.val (.ref a0), .val (.int (4 : Int32)), .val (.int (((((0 : Int32) <<< ((8 : Int32) &&& 31)) ||| (b0 &&& (255 : Int32))) <<< ((8 : Int32) &&& 31)) ||| (b1 &&& (255 : Int32)))), .val (.int (6 : Int32))] []))
  refine Wp.via (fun _ k => XS.goto X0.here hx rfl (pc0 := 27) (pc' := 4) rfl (hb hby own_d1_27) (by decide) (by decide) k) ?_
  show Wp p e below _ (T0.setTop (mkF m 4 #[.val (.ref a0), .val (.int (4 : Int32)), .val (.int (((((0 : Int32) <<< ((8 : Int32) &&& 31)) ||| (b0 &&& (255 : Int32))) <<< ((8 : Int32) &&& 31)) ||| (b1 &&& (255 : Int32)))), .val (.int (6 : Int32))] []))
  refine Wp.via (fun _ k => XS.iloadN X0.here hx rfl (hb hby own_d1_4) rfl k) ?_
  show Wp p e below _ (T0.setTop (mkF m 5 #[.val (.ref a0), .val (.int (4 : Int32)), .val (.int (((((0 : Int32) <<< ((8 : Int32) &&& 31)) ||| (b0 &&& (255 : Int32))) <<< ((8 : Int32) &&& 31)) ||| (b1 &&& (255 : Int32)))), .val (.int (6 : Int32))] [(.int (6 : Int32))]))
  refine Wp.via (fun _ k => XS.iloadN X0.here hx rfl (hb hby own_d1_5) rfl k) ?_
  show Wp p e below _ (T0.setTop (mkF m 6 #[.val (.ref a0), .val (.int (4 : Int32)), .val (.int (((((0 : Int32) <<< ((8 : Int32) &&& 31)) ||| (b0 &&& (255 : Int32))) <<< ((8 : Int32) &&& 31)) ||| (b1 &&& (255 : Int32)))), .val (.int (6 : Int32))] [(.int (4 : Int32)), (.int (6 : Int32))]))
  refine Wp.via (fun _ k => XS.iconst X0.here hx rfl (hb hby own_d1_6) k) ?_
  show Wp p e below _ (T0.setTop (mkF m 7 #[.val (.ref a0), .val (.int (4 : Int32)), .val (.int (((((0 : Int32) <<< ((8 : Int32) &&& 31)) ||| (b0 &&& (255 : Int32))) <<< ((8 : Int32) &&& 31)) ||| (b1 &&& (255 : Int32)))), .val (.int (6 : Int32))] [(.int (4 : Int32)), (.int (4 : Int32)), (.int (6 : Int32))]))
  refine Wp.via (fun _ k => XS.iadd X0.here hx rfl (hb hby own_d1_7) rfl k) ?_
  show Wp p e below _ (T0.setTop (mkF m 8 #[.val (.ref a0), .val (.int (4 : Int32)), .val (.int (((((0 : Int32) <<< ((8 : Int32) &&& 31)) ||| (b0 &&& (255 : Int32))) <<< ((8 : Int32) &&& 31)) ||| (b1 &&& (255 : Int32)))), .val (.int (6 : Int32))] [(.int (8 : Int32)), (.int (6 : Int32))]))
  refine Wp.via (fun _ k => XS.icmpNo X0.here hx rfl (hb hby own_d1_8) rfl (tlt (by decide)).2.1 k) ?_
  show Wp p e below _ (T0.setTop (mkF m 11 #[.val (.ref a0), .val (.int (4 : Int32)), .val (.int (((((0 : Int32) <<< ((8 : Int32) &&& 31)) ||| (b0 &&& (255 : Int32))) <<< ((8 : Int32) &&& 31)) ||| (b1 &&& (255 : Int32)))), .val (.int (6 : Int32))] []))
  refine Wp.via (fun _ k => XS.iloadN X0.here hx rfl (hb hby own_d1_11) rfl k) ?_
  show Wp p e below _ (T0.setTop (mkF m 12 #[.val (.ref a0), .val (.int (4 : Int32)), .val (.int (((((0 : Int32) <<< ((8 : Int32) &&& 31)) ||| (b0 &&& (255 : Int32))) <<< ((8 : Int32) &&& 31)) ||| (b1 &&& (255 : Int32)))), .val (.int (6 : Int32))] [(.int (((((0 : Int32) <<< ((8 : Int32) &&& 31)) ||| (b0 &&& (255 : Int32))) <<< ((8 : Int32) &&& 31)) ||| (b1 &&& (255 : Int32))))]))
  refine Wp.via (fun _ k => XS.bipush X0.here hx rfl (hb hby own_d1_12) k) ?_
  show Wp p e below _ (T0.setTop (mkF m 14 #[.val (.ref a0), .val (.int (4 : Int32)), .val (.int (((((0 : Int32) <<< ((8 : Int32) &&& 31)) ||| (b0 &&& (255 : Int32))) <<< ((8 : Int32) &&& 31)) ||| (b1 &&& (255 : Int32)))), .val (.int (6 : Int32))] [(.int (8 : Int32)), (.int (((((0 : Int32) <<< ((8 : Int32) &&& 31)) ||| (b0 &&& (255 : Int32))) <<< ((8 : Int32) &&& 31)) ||| (b1 &&& (255 : Int32))))]))
  refine Wp.via (fun _ k => XS.ishl X0.here hx rfl (hb hby own_d1_14) rfl k) ?_
  show Wp p e below _ (T0.setTop (mkF m 15 #[.val (.ref a0), .val (.int (4 : Int32)), .val (.int (((((0 : Int32) <<< ((8 : Int32) &&& 31)) ||| (b0 &&& (255 : Int32))) <<< ((8 : Int32) &&& 31)) ||| (b1 &&& (255 : Int32)))), .val (.int (6 : Int32))] [(.int ((((((0 : Int32) <<< ((8 : Int32) &&& 31)) ||| (b0 &&& (255 : Int32))) <<< ((8 : Int32) &&& 31)) ||| (b1 &&& (255 : Int32))) <<< ((8 : Int32) &&& 31)))]))
  refine Wp.via (fun _ k => XS.aloadN X0.here hx rfl (hb hby own_d1_15) rfl rfl k) ?_
  show Wp p e below _ (T0.setTop (mkF m 16 #[.val (.ref a0), .val (.int (4 : Int32)), .val (.int (((((0 : Int32) <<< ((8 : Int32) &&& 31)) ||| (b0 &&& (255 : Int32))) <<< ((8 : Int32) &&& 31)) ||| (b1 &&& (255 : Int32)))), .val (.int (6 : Int32))] [(.ref a0), (.int ((((((0 : Int32) <<< ((8 : Int32) &&& 31)) ||| (b0 &&& (255 : Int32))) <<< ((8 : Int32) &&& 31)) ||| (b1 &&& (255 : Int32))) <<< ((8 : Int32) &&& 31)))]))
  refine Wp.via (fun _ k => XS.iloadN X0.here hx rfl (hb hby own_d1_16) rfl k) ?_
  show Wp p e below _ (T0.setTop (mkF m 17 #[.val (.ref a0), .val (.int (4 : Int32)), .val (.int (((((0 : Int32) <<< ((8 : Int32) &&& 31)) ||| (b0 &&& (255 : Int32))) <<< ((8 : Int32) &&& 31)) ||| (b1 &&& (255 : Int32)))), .val (.int (6 : Int32))] [(.int (6 : Int32)), (.ref a0), (.int ((((((0 : Int32) <<< ((8 : Int32) &&& 31)) ||| (b0 &&& (255 : Int32))) <<< ((8 : Int32) &&& 31)) ||| (b1 &&& (255 : Int32))) <<< ((8 : Int32) &&& 31)))]))
  refine Wp.via (fun _ k => avLdB X0 hx hZ e0 V0 (i := 6) (by decide) rfl (by decide) (w := (.int b2)) hb2 (g := (mkF m 17 #[.val (.ref a0), .val (.int (4 : Int32)), .val (.int (((((0 : Int32) <<< ((8 : Int32) &&& 31)) ||| (b0 &&& (255 : Int32))) <<< ((8 : Int32) &&& 31)) ||| (b1 &&& (255 : Int32)))), .val (.int (6 : Int32))] [(.int (6 : Int32)), (.ref a0), (.int ((((((0 : Int32) <<< ((8 : Int32) &&& 31)) ||| (b0 &&& (255 : Int32))) <<< ((8 : Int32) &&& 31)) ||| (b1 &&& (255 : Int32))) <<< ((8 : Int32) &&& 31)))])) rfl rfl (hb hby own_d1_17) _ k) ?_
  show Wp p e below _ (T0.setTop (mkF m 18 #[.val (.ref a0), .val (.int (4 : Int32)), .val (.int (((((0 : Int32) <<< ((8 : Int32) &&& 31)) ||| (b0 &&& (255 : Int32))) <<< ((8 : Int32) &&& 31)) ||| (b1 &&& (255 : Int32)))), .val (.int (6 : Int32))] [(.int b2), (.int ((((((0 : Int32) <<< ((8 : Int32) &&& 31)) ||| (b0 &&& (255 : Int32))) <<< ((8 : Int32) &&& 31)) ||| (b1 &&& (255 : Int32))) <<< ((8 : Int32) &&& 31)))]))
  refine Wp.via (fun _ k => XS.sipush X0.here hx rfl (hb hby own_d1_18) k) ?_
  show Wp p e below _ (T0.setTop (mkF m 21 #[.val (.ref a0), .val (.int (4 : Int32)), .val (.int (((((0 : Int32) <<< ((8 : Int32) &&& 31)) ||| (b0 &&& (255 : Int32))) <<< ((8 : Int32) &&& 31)) ||| (b1 &&& (255 : Int32)))), .val (.int (6 : Int32))] [(.int (255 : Int32)), (.int b2), (.int ((((((0 : Int32) <<< ((8 : Int32) &&& 31)) ||| (b0 &&& (255 : Int32))) <<< ((8 : Int32) &&& 31)) ||| (b1 &&& (255 : Int32))) <<< ((8 : Int32) &&& 31)))]))
  refine Wp.via (fun _ k => XS.iand X0.here hx rfl (hb hby own_d1_21) rfl k) ?_
  show Wp p e below _ (T0.setTop (mkF m 22 #[.val (.ref a0), .val (.int (4 : Int32)), .val (.int (((((0 : Int32) <<< ((8 : Int32) &&& 31)) ||| (b0 &&& (255 : Int32))) <<< ((8 : Int32) &&& 31)) ||| (b1 &&& (255 : Int32)))), .val (.int (6 : Int32))] [(.int (b2 &&& (255 : Int32))), (.int ((((((0 : Int32) <<< ((8 : Int32) &&& 31)) ||| (b0 &&& (255 : Int32))) <<< ((8 : Int32) &&& 31)) ||| (b1 &&& (255 : Int32))) <<< ((8 : Int32) &&& 31)))]))
  refine Wp.via (fun _ k => XS.ior X0.here hx rfl (hb hby own_d1_22) rfl k) ?_
  show Wp p e below _ (T0.setTop (mkF m 23 #[.val (.ref a0), .val (.int (4 : Int32)), .val (.int (((((0 : Int32) <<< ((8 : Int32) &&& 31)) ||| (b0 &&& (255 : Int32))) <<< ((8 : Int32) &&& 31)) ||| (b1 &&& (255 : Int32)))), .val (.int (6 : Int32))] [(.int (((((((0 : Int32) <<< ((8 : Int32) &&& 31)) ||| (b0 &&& (255 : Int32))) <<< ((8 : Int32) &&& 31)) ||| (b1 &&& (255 : Int32))) <<< ((8 : Int32) &&& 31)) ||| (b2 &&& (255 : Int32))))]))
  refine Wp.via (fun _ k => XS.istoreN X0.here hx rfl (hb hby own_d1_23) rfl (l' := #[.val (.ref a0), .val (.int (4 : Int32)), .val (.int (((((((0 : Int32) <<< ((8 : Int32) &&& 31)) ||| (b0 &&& (255 : Int32))) <<< ((8 : Int32) &&& 31)) ||| (b1 &&& (255 : Int32))) <<< ((8 : Int32) &&& 31)) ||| (b2 &&& (255 : Int32)))), .val (.int (6 : Int32))]) rfl k) ?_
  show Wp p e below _ (T0.setTop (mkF m 24 #[.val (.ref a0), .val (.int (4 : Int32)), .val (.int (((((((0 : Int32) <<< ((8 : Int32) &&& 31)) ||| (b0 &&& (255 : Int32))) <<< ((8 : Int32) &&& 31)) ||| (b1 &&& (255 : Int32))) <<< ((8 : Int32) &&& 31)) ||| (b2 &&& (255 : Int32)))), .val (.int (6 : Int32))] []))
  refine Wp.via (fun _ k => XS.iinc X0.here hx rfl (hb hby own_d1_24) rfl (l' := #[.val (.ref a0), .val (.int (4 : Int32)), .val (.int (((((((0 : Int32) <<< ((8 : Int32) &&& 31)) ||| (b0 &&& (255 : Int32))) <<< ((8 : Int32) &&& 31)) ||| (b1 &&& (255 : Int32))) <<< ((8 : Int32) &&& 31)) ||| (b2 &&& (255 : Int32)))), .val (.int (7 : Int32))]) rfl k) ?_
  show Wp p e below _ (T0.setTop (mkF m 27 #[.val (.ref a0), .val (.int (4 : Int32)), .val (.int (((((((0 : Int32) <<< ((8 : Int32) &&& 31)) ||| (b0 &&& (255 : Int32))) <<< ((8 : Int32) &&& 31)) ||| (b1 &&& (255 : Int32))) <<< ((8 : Int32) &&& 31)) ||| (b2 &&& (255 : Int32)))), .val (.int (7 : Int32))] []))
  refine Wp.via (fun _ k => XS.goto X0.here hx rfl (pc0 := 27) (pc' := 4) rfl (hb hby own_d1_27) (by decide) (by decide) k) ?_
  show Wp p e below _ (T0.setTop (mkF m 4 #[.val (.ref a0), .val (.int (4 : Int32)), .val (.int (((((((0 : Int32) <<< ((8 : Int32) &&& 31)) ||| (b0 &&& (255 : Int32))) <<< ((8 : Int32) &&& 31)) ||| (b1 &&& (255 : Int32))) <<< ((8 : Int32) &&& 31)) ||| (b2 &&& (255 : Int32)))), .val (.int (7 : Int32))] []))
  refine Wp.via (fun _ k => XS.iloadN X0.here hx rfl (hb hby own_d1_4) rfl k) ?_
  show Wp p e below _ (T0.setTop (mkF m 5 #[.val (.ref a0), .val (.int (4 : Int32)), .val (.int (((((((0 : Int32) <<< ((8 : Int32) &&& 31)) ||| (b0 &&& (255 : Int32))) <<< ((8 : Int32) &&& 31)) ||| (b1 &&& (255 : Int32))) <<< ((8 : Int32) &&& 31)) ||| (b2 &&& (255 : Int32)))), .val (.int (7 : Int32))] [(.int (7 : Int32))]))
  refine Wp.via (fun _ k => XS.iloadN X0.here hx rfl (hb hby own_d1_5) rfl k) ?_
  show Wp p e below _ (T0.setTop (mkF m 6 #[.val (.ref a0), .val (.int (4 : Int32)), .val (.int (((((((0 : Int32) <<< ((8 : Int32) &&& 31)) ||| (b0 &&& (255 : Int32))) <<< ((8 : Int32) &&& 31)) ||| (b1 &&& (255 : Int32))) <<< ((8 : Int32) &&& 31)) ||| (b2 &&& (255 : Int32)))), .val (.int (7 : Int32))] [(.int (4 : Int32)), (.int (7 : Int32))]))
  refine Wp.via (fun _ k => XS.iconst X0.here hx rfl (hb hby own_d1_6) k) ?_
  show Wp p e below _ (T0.setTop (mkF m 7 #[.val (.ref a0), .val (.int (4 : Int32)), .val (.int (((((((0 : Int32) <<< ((8 : Int32) &&& 31)) ||| (b0 &&& (255 : Int32))) <<< ((8 : Int32) &&& 31)) ||| (b1 &&& (255 : Int32))) <<< ((8 : Int32) &&& 31)) ||| (b2 &&& (255 : Int32)))), .val (.int (7 : Int32))] [(.int (4 : Int32)), (.int (4 : Int32)), (.int (7 : Int32))]))
  refine Wp.via (fun _ k => XS.iadd X0.here hx rfl (hb hby own_d1_7) rfl k) ?_
  show Wp p e below _ (T0.setTop (mkF m 8 #[.val (.ref a0), .val (.int (4 : Int32)), .val (.int (((((((0 : Int32) <<< ((8 : Int32) &&& 31)) ||| (b0 &&& (255 : Int32))) <<< ((8 : Int32) &&& 31)) ||| (b1 &&& (255 : Int32))) <<< ((8 : Int32) &&& 31)) ||| (b2 &&& (255 : Int32)))), .val (.int (7 : Int32))] [(.int (8 : Int32)), (.int (7 : Int32))]))
  refine Wp.via (fun _ k => XS.icmpNo X0.here hx rfl (hb hby own_d1_8) rfl (tlt (by decide)).2.1 k) ?_
  show Wp p e below _ (T0.setTop (mkF m 11 #[.val (.ref a0), .val (.int (4 : Int32)), .val (.int (((((((0 : Int32) <<< ((8 : Int32) &&& 31)) ||| (b0 &&& (255 : Int32))) <<< ((8 : Int32) &&& 31)) ||| (b1 &&& (255 : Int32))) <<< ((8 : Int32) &&& 31)) ||| (b2 &&& (255 : Int32)))), .val (.int (7 : Int32))] []))
  refine Wp.via (fun _ k => XS.iloadN X0.here hx rfl (hb hby own_d1_11) rfl k) ?_
  show Wp p e below _ (T0.setTop (mkF m 12 #[.val (.ref a0), .val (.int (4 : Int32)), .val (.int (((((((0 : Int32) <<< ((8 : Int32) &&& 31)) ||| (b0 &&& (255 : Int32))) <<< ((8 : Int32) &&& 31)) ||| (b1 &&& (255 : Int32))) <<< ((8 : Int32) &&& 31)) ||| (b2 &&& (255 : Int32)))), .val (.int (7 : Int32))] [(.int (((((((0 : Int32) <<< ((8 : Int32) &&& 31)) ||| (b0 &&& (255 : Int32))) <<< ((8 : Int32) &&& 31)) ||| (b1 &&& (255 : Int32))) <<< ((8 : Int32) &&& 31)) ||| (b2 &&& (255 : Int32))))]))
  refine Wp.via (fun _ k => XS.bipush X0.here hx rfl (hb hby own_d1_12) k) ?_
  show Wp p e below _ (T0.setTop (mkF m 14 #[.val (.ref a0), .val (.int (4 : Int32)), .val (.int (((((((0 : Int32) <<< ((8 : Int32) &&& 31)) ||| (b0 &&& (255 : Int32))) <<< ((8 : Int32) &&& 31)) ||| (b1 &&& (255 : Int32))) <<< ((8 : Int32) &&& 31)) ||| (b2 &&& (255 : Int32)))), .val (.int (7 : Int32))] [(.int (8 : Int32)), (.int (((((((0 : Int32) <<< ((8 : Int32) &&& 31)) ||| (b0 &&& (255 : Int32))) <<< ((8 : Int32) &&& 31)) ||| (b1 &&& (255 : Int32))) <<< ((8 : Int32) &&& 31)) ||| (b2 &&& (255 : Int32))))]))
  refine Wp.via (fun _ k => XS.ishl X0.here hx rfl (hb hby own_d1_14) rfl k) ?_
  show Wp p e below _ (T0.setTop (mkF m 15 #[.val (.ref a0), .val (.int (4 : Int32)), .val (.int (((((((0 : Int32) <<< ((8 : Int32) &&& 31)) ||| (b0 &&& (255 : Int32))) <<< ((8 : Int32) &&& 31)) ||| (b1 &&& (255 : Int32))) <<< ((8 : Int32) &&& 31)) ||| (b2 &&& (255 : Int32)))), .val (.int (7 : Int32))] [(.int ((((((((0 : Int32) <<< ((8 : Int32) &&& 31)) ||| (b0 &&& (255 : Int32))) <<< ((8 : Int32) &&& 31)) ||| (b1 &&& (255 : Int32))) <<< ((8 : Int32) &&& 31)) ||| (b2 &&& (255 : Int32))) <<< ((8 : Int32) &&& 31)))]))
  refine Wp.via (fun _ k => XS.aloadN X0.here hx rfl (hb hby own_d1_15) rfl rfl k) ?_
  show Wp p e below _ (T0.setTop (mkF m 16 #[.val (.ref a0), .val (.int (4 : Int32)), .val (.int (((((((0 : Int32) <<< ((8 : Int32) &&& 31)) ||| (b0 &&& (255 : Int32))) <<< ((8 : Int32) &&& 31)) ||| (b1 &&& (255 : Int32))) <<< ((8 : Int32) &&& 31)) ||| (b2 &&& (255 : Int32)))), .val (.int (7 : Int32))] [(.ref a0), (.int ((((((((0 : Int32) <<< ((8 : Int32) &&& 31)) ||| (b0 &&& (255 : Int32))) <<< ((8 : Int32) &&& 31)) ||| (b1 &&& (255 : Int32))) <<< ((8 : Int32) &&& 31)) ||| (b2 &&& (255 : Int32))) <<< ((8 : Int32) &&& 31)))]))
  refine Wp.via (fun _ k => XS.iloadN X0.here hx rfl (hb hby own_d1_16) rfl k) ?_
  show Wp p e below _ (T0.setTop (mkF m 17 #[.val (.ref a0), .val (.int (4 : Int32)), .val (.int (((((((0 : Int32) <<< ((8 : Int32) &&& 31)) ||| (b0 &&& (255 : Int32))) <<< ((8 : Int32) &&& 31)) ||| (b1 &&& (255 : Int32))) <<< ((8 : Int32) &&& 31)) ||| (b2 &&& (255 : Int32)))), .val (.int (7 : Int32))] [(.int (7 : Int32)), (.ref a0), (.int ((((((((0 : Int32) <<< ((8 : Int32) &&& 31)) ||| (b0 &&& (255 : Int32))) <<< ((8 : Int32) &&& 31)) ||| (b1 &&& (255 : Int32))) <<< ((8 : Int32) &&& 31)) ||| (b2 &&& (255 : Int32))) <<< ((8 : Int32) &&& 31)))]))
  refine Wp.via (fun _ k => avLdB X0 hx hZ e0 V0 (i := 7) (by decide) rfl (by decide) (w := (.int b3)) hb3 (g := (mkF m 17 #[.val (.ref a0), .val (.int (4 : Int32)), .val (.int (((((((0 : Int32) <<< ((8 : Int32) &&& 31)) ||| (b0 &&& (255 : Int32))) <<< ((8 : Int32) &&& 31)) ||| (b1 &&& (255 : Int32))) <<< ((8 : Int32) &&& 31)) ||| (b2 &&& (255 : Int32)))), .val (.int (7 : Int32))] [(.int (7 : Int32)), (.ref a0), (.int ((((((((0 : Int32) <<< ((8 : Int32) &&& 31)) ||| (b0 &&& (255 : Int32))) <<< ((8 : Int32) &&& 31)) ||| (b1 &&& (255 : Int32))) <<< ((8 : Int32) &&& 31)) ||| (b2 &&& (255 : Int32))) <<< ((8 : Int32) &&& 31)))])) rfl rfl (hb hby own_d1_17) _ k) ?_
  show Wp p e below _ (T0.setTop (mkF m 18 #[.val (.ref a0), .val (.int (4 : Int32)), .val (.int (((((((0 : Int32) <<< ((8 : Int32) &&& 31)) ||| (b0 &&& (255 : Int32))) <<< ((8 : Int32) &&& 31)) ||| (b1 &&& (255 : Int32))) <<< ((8 : Int32) &&& 31)) ||| (b2 &&& (255 : Int32)))), .val (.int (7 : Int32))] [(.int b3), (.int ((((((((0 : Int32) <<< ((8 : Int32) &&& 31)) ||| (b0 &&& (255 : Int32))) <<< ((8 : Int32) &&& 31)) ||| (b1 &&& (255 : Int32))) <<< ((8 : Int32) &&& 31)) ||| (b2 &&& (255 : Int32))) <<< ((8 : Int32) &&& 31)))]))
  refine Wp.via (fun _ k => XS.sipush X0.here hx rfl (hb hby own_d1_18) k) ?_
  show Wp p e below _ (T0.setTop (mkF m 21 #[.val (.ref a0), .val (.int (4 : Int32)), .val (.int (((((((0 : Int32) <<< ((8 : Int32) &&& 31)) ||| (b0 &&& (255 : Int32))) <<< ((8 : Int32) &&& 31)) ||| (b1 &&& (255 : Int32))) <<< ((8 : Int32) &&& 31)) ||| (b2 &&& (255 : Int32)))), .val (.int (7 : Int32))] [(.int (255 : Int32)), (.int b3), (.int ((((((((0 : Int32) <<< ((8 : Int32) &&& 31)) ||| (b0 &&& (255 : Int32))) <<< ((8 : Int32) &&& 31)) ||| (b1 &&& (255 : Int32))) <<< ((8 : Int32) &&& 31)) ||| (b2 &&& (255 : Int32))) <<< ((8 : Int32) &&& 31)))]))
  refine Wp.via (fun _ k => XS.iand X0.here hx rfl (hb hby own_d1_21) rfl k) ?_
  show Wp p e below _ (T0.setTop (mkF m 22 #[.val (.ref a0), .val (.int (4 : Int32)), .val (.int (((((((0 : Int32) <<< ((8 : Int32) &&& 31)) ||| (b0 &&& (255 : Int32))) <<< ((8 : Int32) &&& 31)) ||| (b1 &&& (255 : Int32))) <<< ((8 : Int32) &&& 31)) ||| (b2 &&& (255 : Int32)))), .val (.int (7 : Int32))] [(.int (b3 &&& (255 : Int32))), (.int ((((((((0 : Int32) <<< ((8 : Int32) &&& 31)) ||| (b0 &&& (255 : Int32))) <<< ((8 : Int32) &&& 31)) ||| (b1 &&& (255 : Int32))) <<< ((8 : Int32) &&& 31)) ||| (b2 &&& (255 : Int32))) <<< ((8 : Int32) &&& 31)))]))
  refine Wp.via (fun _ k => XS.ior X0.here hx rfl (hb hby own_d1_22) rfl k) ?_
  show Wp p e below _ (T0.setTop (mkF m 23 #[.val (.ref a0), .val (.int (4 : Int32)), .val (.int (((((((0 : Int32) <<< ((8 : Int32) &&& 31)) ||| (b0 &&& (255 : Int32))) <<< ((8 : Int32) &&& 31)) ||| (b1 &&& (255 : Int32))) <<< ((8 : Int32) &&& 31)) ||| (b2 &&& (255 : Int32)))), .val (.int (7 : Int32))] [(.int (((((((((0 : Int32) <<< ((8 : Int32) &&& 31)) ||| (b0 &&& (255 : Int32))) <<< ((8 : Int32) &&& 31)) ||| (b1 &&& (255 : Int32))) <<< ((8 : Int32) &&& 31)) ||| (b2 &&& (255 : Int32))) <<< ((8 : Int32) &&& 31)) ||| (b3 &&& (255 : Int32))))]))
  refine Wp.via (fun _ k => XS.istoreN X0.here hx rfl (hb hby own_d1_23) rfl (l' := #[.val (.ref a0), .val (.int (4 : Int32)), .val (.int (((((((((0 : Int32) <<< ((8 : Int32) &&& 31)) ||| (b0 &&& (255 : Int32))) <<< ((8 : Int32) &&& 31)) ||| (b1 &&& (255 : Int32))) <<< ((8 : Int32) &&& 31)) ||| (b2 &&& (255 : Int32))) <<< ((8 : Int32) &&& 31)) ||| (b3 &&& (255 : Int32)))), .val (.int (7 : Int32))]) rfl k) ?_
  show Wp p e below _ (T0.setTop (mkF m 24 #[.val (.ref a0), .val (.int (4 : Int32)), .val (.int (((((((((0 : Int32) <<< ((8 : Int32) &&& 31)) ||| (b0 &&& (255 : Int32))) <<< ((8 : Int32) &&& 31)) ||| (b1 &&& (255 : Int32))) <<< ((8 : Int32) &&& 31)) ||| (b2 &&& (255 : Int32))) <<< ((8 : Int32) &&& 31)) ||| (b3 &&& (255 : Int32)))), .val (.int (7 : Int32))] []))
  refine Wp.via (fun _ k => XS.iinc X0.here hx rfl (hb hby own_d1_24) rfl (l' := #[.val (.ref a0), .val (.int (4 : Int32)), .val (.int (((((((((0 : Int32) <<< ((8 : Int32) &&& 31)) ||| (b0 &&& (255 : Int32))) <<< ((8 : Int32) &&& 31)) ||| (b1 &&& (255 : Int32))) <<< ((8 : Int32) &&& 31)) ||| (b2 &&& (255 : Int32))) <<< ((8 : Int32) &&& 31)) ||| (b3 &&& (255 : Int32)))), .val (.int (8 : Int32))]) rfl k) ?_
  show Wp p e below _ (T0.setTop (mkF m 27 #[.val (.ref a0), .val (.int (4 : Int32)), .val (.int (((((((((0 : Int32) <<< ((8 : Int32) &&& 31)) ||| (b0 &&& (255 : Int32))) <<< ((8 : Int32) &&& 31)) ||| (b1 &&& (255 : Int32))) <<< ((8 : Int32) &&& 31)) ||| (b2 &&& (255 : Int32))) <<< ((8 : Int32) &&& 31)) ||| (b3 &&& (255 : Int32)))), .val (.int (8 : Int32))] []))
  refine Wp.via (fun _ k => XS.goto X0.here hx rfl (pc0 := 27) (pc' := 4) rfl (hb hby own_d1_27) (by decide) (by decide) k) ?_
  show Wp p e below _ (T0.setTop (mkF m 4 #[.val (.ref a0), .val (.int (4 : Int32)), .val (.int (((((((((0 : Int32) <<< ((8 : Int32) &&& 31)) ||| (b0 &&& (255 : Int32))) <<< ((8 : Int32) &&& 31)) ||| (b1 &&& (255 : Int32))) <<< ((8 : Int32) &&& 31)) ||| (b2 &&& (255 : Int32))) <<< ((8 : Int32) &&& 31)) ||| (b3 &&& (255 : Int32)))), .val (.int (8 : Int32))] []))
  refine Wp.via (fun _ k => XS.iloadN X0.here hx rfl (hb hby own_d1_4) rfl k) ?_
  show Wp p e below _ (T0.setTop (mkF m 5 #[.val (.ref a0), .val (.int (4 : Int32)), .val (.int (((((((((0 : Int32) <<< ((8 : Int32) &&& 31)) ||| (b0 &&& (255 : Int32))) <<< ((8 : Int32) &&& 31)) ||| (b1 &&& (255 : Int32))) <<< ((8 : Int32) &&& 31)) ||| (b2 &&& (255 : Int32))) <<< ((8 : Int32) &&& 31)) ||| (b3 &&& (255 : Int32)))), .val (.int (8 : Int32))] [(.int (8 : Int32))]))
  refine Wp.via (fun _ k => XS.iloadN X0.here hx rfl (hb hby own_d1_5) rfl k) ?_
  show Wp p e below _ (T0.setTop (mkF m 6 #[.val (.ref a0), .val (.int (4 : Int32)), .val (.int (((((((((0 : Int32) <<< ((8 : Int32) &&& 31)) ||| (b0 &&& (255 : Int32))) <<< ((8 : Int32) &&& 31)) ||| (b1 &&& (255 : Int32))) <<< ((8 : Int32) &&& 31)) ||| (b2 &&& (255 : Int32))) <<< ((8 : Int32) &&& 31)) ||| (b3 &&& (255 : Int32)))), .val (.int (8 : Int32))] [(.int (4 : Int32)), (.int (8 : Int32))]))
  refine Wp.via (fun _ k => XS.iconst X0.here hx rfl (hb hby own_d1_6) k) ?_
  show Wp p e below _ (T0.setTop (mkF m 7 #[.val (.ref a0), .val (.int (4 : Int32)), .val (.int (((((((((0 : Int32) <<< ((8 : Int32) &&& 31)) ||| (b0 &&& (255 : Int32))) <<< ((8 : Int32) &&& 31)) ||| (b1 &&& (255 : Int32))) <<< ((8 : Int32) &&& 31)) ||| (b2 &&& (255 : Int32))) <<< ((8 : Int32) &&& 31)) ||| (b3 &&& (255 : Int32)))), .val (.int (8 : Int32))] [(.int (4 : Int32)), (.int (4 : Int32)), (.int (8 : Int32))]))
  refine Wp.via (fun _ k => XS.iadd X0.here hx rfl (hb hby own_d1_7) rfl k) ?_
  show Wp p e below _ (T0.setTop (mkF m 8 #[.val (.ref a0), .val (.int (4 : Int32)), .val (.int (((((((((0 : Int32) <<< ((8 : Int32) &&& 31)) ||| (b0 &&& (255 : Int32))) <<< ((8 : Int32) &&& 31)) ||| (b1 &&& (255 : Int32))) <<< ((8 : Int32) &&& 31)) ||| (b2 &&& (255 : Int32))) <<< ((8 : Int32) &&& 31)) ||| (b3 &&& (255 : Int32)))), .val (.int (8 : Int32))] [(.int (8 : Int32)), (.int (8 : Int32))]))
  refine Wp.via (fun _ k => XS.icmpYes X0.here hx rfl (pc0 := 8) (pc' := 30) rfl (hb hby own_d1_8) rfl (flt (by decide)).2.1 (by decide) (by decide) k) ?_
  show Wp p e below _ (T0.setTop (mkF m 30 #[.val (.ref a0), .val (.int (4 : Int32)), .val (.int (((((((((0 : Int32) <<< ((8 : Int32) &&& 31)) ||| (b0 &&& (255 : Int32))) <<< ((8 : Int32) &&& 31)) ||| (b1 &&& (255 : Int32))) <<< ((8 : Int32) &&& 31)) ||| (b2 &&& (255 : Int32))) <<< ((8 : Int32) &&& 31)) ||| (b3 &&& (255 : Int32)))), .val (.int (8 : Int32))] []))
  refine Wp.via (fun _ k => XS.iloadN X0.here hx rfl (hb hby own_d1_30) rfl k) ?_
  show Wp p e below _ (T0.setTop (mkF m 31 #[.val (.ref a0), .val (.int (4 : Int32)), .val (.int (((((((((0 : Int32) <<< ((8 : Int32) &&& 31)) ||| (b0 &&& (255 : Int32))) <<< ((8 : Int32) &&& 31)) ||| (b1 &&& (255 : Int32))) <<< ((8 : Int32) &&& 31)) ||| (b2 &&& (255 : Int32))) <<< ((8 : Int32) &&& 31)) ||| (b3 &&& (255 : Int32)))), .val (.int (8 : Int32))] [(.int (((((((((0 : Int32) <<< ((8 : Int32) &&& 31)) ||| (b0 &&& (255 : Int32))) <<< ((8 : Int32) &&& 31)) ||| (b1 &&& (255 : Int32))) <<< ((8 : Int32) &&& 31)) ||| (b2 &&& (255 : Int32))) <<< ((8 : Int32) &&& 31)) ||| (b3 &&& (255 : Int32))))]))
  exact Wp.retI X0 hlk hx hret (by simp) rfl (hb hby own_d1_31) ⟨rfl, NF0, e0⟩ (by decide) (by decide)
theorem own_pd0 : parseMethodDescriptor "([BI)I" = some ⟨[(.array .byte), .int], some .int⟩ := by decide +kernel
theorem own_pl0 : plainFor (⟨"com/example/inverso/inverso/index/CheckValueStoredPinLaw", "law", "(JI)Z"⟩ : MethodName) = true := plainFor_of_name (by first | (simp [plainName, overriddenIn]; done) | decide +kernel)
theorem own_ef0 (m : MethodId) (q0 : Int64) (p1 : Int32) : entryFrame m #[(.long q0), (.int p1)] maxLocals = mkF m 0 #[.val (.long q0), .second, .val (.int p1), .unset, .unset, .unset, .unset] [] := by first | (simp [entryFrame, mkF, argsToLocals, Value.category, maxLocals]; done) | rfl
def Qo0 (Z : State) (q0 : Int64) (p1 : Int32)  (h0 : Heap) (n0 : Nat) (v : Option Value) (h : Heap) (L : List Loc) : Prop := v = some (.int 1) ∧ Fr n0 L
set_option maxRecDepth 65536 in
set_option maxHeartbeats 40000000 in
theorem rm0 (l : Launch) (Z : State) (aw : Array Value) (hw : ∀ d ∈ tables_1, d.before aw Z = true) (ws : List Jvm.Cond) (q0 : Int64) (p1 : Int32)  (h0 : Heap) (n0 : Nat) (Z0 : n0 ≤ h0.size)  :
    MetFree l x (head1 (Jvm.Cond.code x code maxLocals ret :: ws) room_1) (fun a U => a = #[(.long q0), (.int p1)] ∧ Z.Warmed39 U.vm ∧ U.heap = h0) (fun _ _ _ _ _ => True) (fun _ U o U' => ∃ v L, o = .returned v ∧ (Qo0 Z q0 p1 h0 n0) v U'.heap L ∧ FrameEnd U o U' L 16 128) := by
  refine ofWp (Q := Qo0 Z q0 p1 h0 n0) own_pl0 (fun m => own_ef0 m q0 p1) ?_
  intro p e s m below meth c T0 hx hby hml hown hnm hlk hret hZ X0 e0
  change s.vm.findClass "com/example/inverso/inverso/index/CheckValueStoredPinLaw" = some m.cls at hown
  have NF0 := Fr.nil n0
  refine Wp.via (fun _ k => XS.bipush X0.here hx rfl (hb hby at_0) k) ?_
  show Wp p e below _ (T0.setTop (mkF m 2 #[.val (.long q0), .second, .val (.int p1), .unset, .unset, .unset, .unset] [(.int (8 : Int32))]))
  obtain ⟨T1, h1, kl1, X1, e1, E1, A1, st1⟩ := newP X0 hx hZ (hw _ (List.mem_of_getElem? (i := 0) rfl)) e0 (g := (mkF m 2 #[.val (.long q0), .second, .val (.int p1), .unset, .unset, .unset, .unset] [(.int (8 : Int32))])) rfl (hb hby at_2) rfl (by decide) (cap := 8) (by decide) (by decide) (by decide) (by decide)
  obtain ⟨b1, g1⟩ : ∃ z, z = h0.size := ⟨_, rfl⟩
  rw [← g1] at A1 st1
  have gn_b1 : n0 ≤ b1 := Nat.le_trans Z0 (Nat.le_of_eq g1.symm)
  have sz_b1 : h0.size ≤ b1 := Nat.le_trans (Keep.refl h0 []).1 (Nat.le_of_eq g1.symm)
  have V1 : Av Z h1 b1 .byte 8 (fun _ => (.int (0 : Int32))) := Av.new A1 rfl
  refine Wp.via st1 ?_
  have K1 := (Keep.refl h0 []).ext E1
  have zz2 : n0 ≤ h1.size := Nat.le_trans Z0 E1.1
  show Wp p e below _ (T1.setTop (mkF m 4 #[.val (.long q0), .second, .val (.int p1), .unset, .unset, .unset, .unset] [(.ref b1)]))
  refine Wp.via (fun _ k => XS.astoreN X1.here hx rfl (hb hby at_4) rfl rfl (l' := #[.val (.long q0), .second, .val (.int p1), .val (.ref b1), .unset, .unset, .unset]) rfl k) ?_
  show Wp p e below _ (T1.setTop (mkF m 5 #[.val (.long q0), .second, .val (.int p1), .val (.ref b1), .unset, .unset, .unset] []))
  refine Wp.via (fun _ k => XS.aloadN X1.here hx rfl (hb hby at_5) rfl rfl k) ?_
  show Wp p e below _ (T1.setTop (mkF m 6 #[.val (.long q0), .second, .val (.int p1), .val (.ref b1), .unset, .unset, .unset] [(.ref b1)]))
  refine Wp.via (fun _ k => XS.iconst X1.here hx rfl (hb hby at_6) k) ?_
  show Wp p e below _ (T1.setTop (mkF m 7 #[.val (.long q0), .second, .val (.int p1), .val (.ref b1), .unset, .unset, .unset] [(.int (0 : Int32)), (.ref b1)]))
  refine Wp.via (fun _ k => XS.lloadN X1.here hx rfl (hb hby at_7) rfl k) ?_
  show Wp p e below _ (T1.setTop (mkF m 8 #[.val (.long q0), .second, .val (.int p1), .val (.ref b1), .unset, .unset, .unset] [(.long q0), (.int (0 : Int32)), (.ref b1)]))
  refine Wp.via (fun _ k => XS.bipush X1.here hx rfl (hb hby at_8) k) ?_
  show Wp p e below _ (T1.setTop (mkF m 10 #[.val (.long q0), .second, .val (.int p1), .val (.ref b1), .unset, .unset, .unset] [(.int (56 : Int32)), (.long q0), (.int (0 : Int32)), (.ref b1)]))
  refine Wp.via (fun _ k => XS.lushr X1.here hx rfl (hb hby at_10) rfl k) ?_
  show Wp p e below _ (T1.setTop (mkF m 11 #[.val (.long q0), .second, .val (.int p1), .val (.ref b1), .unset, .unset, .unset] [(.long ((q0.toUInt64 >>> ((56 : Int32) &&& 0x3f).toInt64.toUInt64).toInt64)), (.int (0 : Int32)), (.ref b1)]))
  refine Wp.via (fun _ k => XS.l2i X1.here hx rfl (hb hby at_11) rfl k) ?_
  show Wp p e below _ (T1.setTop (mkF m 12 #[.val (.long q0), .second, .val (.int p1), .val (.ref b1), .unset, .unset, .unset] [(.int (((q0.toUInt64 >>> ((56 : Int32) &&& 0x3f).toInt64.toUInt64).toInt64).toInt32)), (.int (0 : Int32)), (.ref b1)]))
  refine Wp.via (fun _ k => XS.i2b X1.here hx rfl (hb hby at_12) rfl k) ?_
  show Wp p e below _ (T1.setTop (mkF m 13 #[.val (.long q0), .second, .val (.int p1), .val (.ref b1), .unset, .unset, .unset] [(.int ((((q0.toUInt64 >>> ((56 : Int32) &&& 0x3f).toInt64.toUInt64).toInt64).toInt32).toInt8.toInt32)), (.int (0 : Int32)), (.ref b1)]))
  obtain ⟨T3, h3, X3, e3, W3, V3, st3⟩ := avStB X1 hx hZ e1 V1 (i := 0) (by decide) rfl (by decide) (g := (mkF m 13 #[.val (.long q0), .second, .val (.int p1), .val (.ref b1), .unset, .unset, .unset] [(.int ((((q0.toUInt64 >>> ((56 : Int32) &&& 0x3f).toInt64.toUInt64).toInt64).toInt32).toInt8.toInt32)), (.int (0 : Int32)), (.ref b1)])) rfl rfl (hb hby at_13)
  have NF3 := Fr.snoc X3 NF0 gn_b1
  refine Wp.via st3 ?_
  have K3 := K1.wr W3 (Or.inr sz_b1)
  have zz4 : n0 ≤ h3.size := by rw [W3.size]; exact zz2
  show Wp p e below _ (T3.setTop (mkF m 14 #[.val (.long q0), .second, .val (.int p1), .val (.ref b1), .unset, .unset, .unset] []))
  refine Wp.via (fun _ k => XS.aloadN X3.here hx rfl (hb hby at_14) rfl rfl k) ?_
  show Wp p e below _ (T3.setTop (mkF m 15 #[.val (.long q0), .second, .val (.int p1), .val (.ref b1), .unset, .unset, .unset] [(.ref b1)]))
  refine Wp.via (fun _ k => XS.iconst X3.here hx rfl (hb hby at_15) k) ?_
  show Wp p e below _ (T3.setTop (mkF m 16 #[.val (.long q0), .second, .val (.int p1), .val (.ref b1), .unset, .unset, .unset] [(.int (1 : Int32)), (.ref b1)]))
  refine Wp.via (fun _ k => XS.lloadN X3.here hx rfl (hb hby at_16) rfl k) ?_
  show Wp p e below _ (T3.setTop (mkF m 17 #[.val (.long q0), .second, .val (.int p1), .val (.ref b1), .unset, .unset, .unset] [(.long q0), (.int (1 : Int32)), (.ref b1)]))
  refine Wp.via (fun _ k => XS.bipush X3.here hx rfl (hb hby at_17) k) ?_
  show Wp p e below _ (T3.setTop (mkF m 19 #[.val (.long q0), .second, .val (.int p1), .val (.ref b1), .unset, .unset, .unset] [(.int (48 : Int32)), (.long q0), (.int (1 : Int32)), (.ref b1)]))
  refine Wp.via (fun _ k => XS.lushr X3.here hx rfl (hb hby at_19) rfl k) ?_
  show Wp p e below _ (T3.setTop (mkF m 20 #[.val (.long q0), .second, .val (.int p1), .val (.ref b1), .unset, .unset, .unset] [(.long ((q0.toUInt64 >>> ((48 : Int32) &&& 0x3f).toInt64.toUInt64).toInt64)), (.int (1 : Int32)), (.ref b1)]))
  refine Wp.via (fun _ k => XS.l2i X3.here hx rfl (hb hby at_20) rfl k) ?_
  show Wp p e below _ (T3.setTop (mkF m 21 #[.val (.long q0), .second, .val (.int p1), .val (.ref b1), .unset, .unset, .unset] [(.int (((q0.toUInt64 >>> ((48 : Int32) &&& 0x3f).toInt64.toUInt64).toInt64).toInt32)), (.int (1 : Int32)), (.ref b1)]))
  refine Wp.via (fun _ k => XS.i2b X3.here hx rfl (hb hby at_21) rfl k) ?_
  show Wp p e below _ (T3.setTop (mkF m 22 #[.val (.long q0), .second, .val (.int p1), .val (.ref b1), .unset, .unset, .unset] [(.int ((((q0.toUInt64 >>> ((48 : Int32) &&& 0x3f).toInt64.toUInt64).toInt64).toInt32).toInt8.toInt32)), (.int (1 : Int32)), (.ref b1)]))
  obtain ⟨T5, h5, X5, e5, W5, V5, st5⟩ := avStB X3 hx hZ e3 V3 (i := 1) (by decide) rfl (by decide) (g := (mkF m 22 #[.val (.long q0), .second, .val (.int p1), .val (.ref b1), .unset, .unset, .unset] [(.int ((((q0.toUInt64 >>> ((48 : Int32) &&& 0x3f).toInt64.toUInt64).toInt64).toInt32).toInt8.toInt32)), (.int (1 : Int32)), (.ref b1)])) rfl rfl (hb hby at_22)
  have NF5 := Fr.snoc X5 NF3 gn_b1
  refine Wp.via st5 ?_
  have K5 := K3.wr W5 (Or.inr sz_b1)
  have zz6 : n0 ≤ h5.size := by rw [W5.size]; exact zz4
  show Wp p e below _ (T5.setTop (mkF m 23 #[.val (.long q0), .second, .val (.int p1), .val (.ref b1), .unset, .unset, .unset] []))
  refine Wp.via (fun _ k => XS.aloadN X5.here hx rfl (hb hby at_23) rfl rfl k) ?_
  show Wp p e below _ (T5.setTop (mkF m 24 #[.val (.long q0), .second, .val (.int p1), .val (.ref b1), .unset, .unset, .unset] [(.ref b1)]))
  refine Wp.via (fun _ k => XS.iconst X5.here hx rfl (hb hby at_24) k) ?_
  show Wp p e below _ (T5.setTop (mkF m 25 #[.val (.long q0), .second, .val (.int p1), .val (.ref b1), .unset, .unset, .unset] [(.int (2 : Int32)), (.ref b1)]))
  refine Wp.via (fun _ k => XS.lloadN X5.here hx rfl (hb hby at_25) rfl k) ?_
  show Wp p e below _ (T5.setTop (mkF m 26 #[.val (.long q0), .second, .val (.int p1), .val (.ref b1), .unset, .unset, .unset] [(.long q0), (.int (2 : Int32)), (.ref b1)]))
  refine Wp.via (fun _ k => XS.bipush X5.here hx rfl (hb hby at_26) k) ?_
  show Wp p e below _ (T5.setTop (mkF m 28 #[.val (.long q0), .second, .val (.int p1), .val (.ref b1), .unset, .unset, .unset] [(.int (40 : Int32)), (.long q0), (.int (2 : Int32)), (.ref b1)]))
  refine Wp.via (fun _ k => XS.lushr X5.here hx rfl (hb hby at_28) rfl k) ?_
  show Wp p e below _ (T5.setTop (mkF m 29 #[.val (.long q0), .second, .val (.int p1), .val (.ref b1), .unset, .unset, .unset] [(.long ((q0.toUInt64 >>> ((40 : Int32) &&& 0x3f).toInt64.toUInt64).toInt64)), (.int (2 : Int32)), (.ref b1)]))
  refine Wp.via (fun _ k => XS.l2i X5.here hx rfl (hb hby at_29) rfl k) ?_
  show Wp p e below _ (T5.setTop (mkF m 30 #[.val (.long q0), .second, .val (.int p1), .val (.ref b1), .unset, .unset, .unset] [(.int (((q0.toUInt64 >>> ((40 : Int32) &&& 0x3f).toInt64.toUInt64).toInt64).toInt32)), (.int (2 : Int32)), (.ref b1)]))
  refine Wp.via (fun _ k => XS.i2b X5.here hx rfl (hb hby at_30) rfl k) ?_
  show Wp p e below _ (T5.setTop (mkF m 31 #[.val (.long q0), .second, .val (.int p1), .val (.ref b1), .unset, .unset, .unset] [(.int ((((q0.toUInt64 >>> ((40 : Int32) &&& 0x3f).toInt64.toUInt64).toInt64).toInt32).toInt8.toInt32)), (.int (2 : Int32)), (.ref b1)]))
  obtain ⟨T7, h7, X7, e7, W7, V7, st7⟩ := avStB X5 hx hZ e5 V5 (i := 2) (by decide) rfl (by decide) (g := (mkF m 31 #[.val (.long q0), .second, .val (.int p1), .val (.ref b1), .unset, .unset, .unset] [(.int ((((q0.toUInt64 >>> ((40 : Int32) &&& 0x3f).toInt64.toUInt64).toInt64).toInt32).toInt8.toInt32)), (.int (2 : Int32)), (.ref b1)])) rfl rfl (hb hby at_31)
  have NF7 := Fr.snoc X7 NF5 gn_b1
  refine Wp.via st7 ?_
  have K7 := K5.wr W7 (Or.inr sz_b1)
  have zz8 : n0 ≤ h7.size := by rw [W7.size]; exact zz6
  show Wp p e below _ (T7.setTop (mkF m 32 #[.val (.long q0), .second, .val (.int p1), .val (.ref b1), .unset, .unset, .unset] []))
  refine Wp.via (fun _ k => XS.aloadN X7.here hx rfl (hb hby at_32) rfl rfl k) ?_
  show Wp p e below _ (T7.setTop (mkF m 33 #[.val (.long q0), .second, .val (.int p1), .val (.ref b1), .unset, .unset, .unset] [(.ref b1)]))
  refine Wp.via (fun _ k => XS.iconst X7.here hx rfl (hb hby at_33) k) ?_
  show Wp p e below _ (T7.setTop (mkF m 34 #[.val (.long q0), .second, .val (.int p1), .val (.ref b1), .unset, .unset, .unset] [(.int (3 : Int32)), (.ref b1)]))
  refine Wp.via (fun _ k => XS.lloadN X7.here hx rfl (hb hby at_34) rfl k) ?_
  show Wp p e below _ (T7.setTop (mkF m 35 #[.val (.long q0), .second, .val (.int p1), .val (.ref b1), .unset, .unset, .unset] [(.long q0), (.int (3 : Int32)), (.ref b1)]))
  refine Wp.via (fun _ k => XS.bipush X7.here hx rfl (hb hby at_35) k) ?_
  show Wp p e below _ (T7.setTop (mkF m 37 #[.val (.long q0), .second, .val (.int p1), .val (.ref b1), .unset, .unset, .unset] [(.int (32 : Int32)), (.long q0), (.int (3 : Int32)), (.ref b1)]))
  refine Wp.via (fun _ k => XS.lushr X7.here hx rfl (hb hby at_37) rfl k) ?_
  show Wp p e below _ (T7.setTop (mkF m 38 #[.val (.long q0), .second, .val (.int p1), .val (.ref b1), .unset, .unset, .unset] [(.long ((q0.toUInt64 >>> ((32 : Int32) &&& 0x3f).toInt64.toUInt64).toInt64)), (.int (3 : Int32)), (.ref b1)]))
  refine Wp.via (fun _ k => XS.l2i X7.here hx rfl (hb hby at_38) rfl k) ?_
  show Wp p e below _ (T7.setTop (mkF m 39 #[.val (.long q0), .second, .val (.int p1), .val (.ref b1), .unset, .unset, .unset] [(.int (((q0.toUInt64 >>> ((32 : Int32) &&& 0x3f).toInt64.toUInt64).toInt64).toInt32)), (.int (3 : Int32)), (.ref b1)]))
  refine Wp.via (fun _ k => XS.i2b X7.here hx rfl (hb hby at_39) rfl k) ?_
  show Wp p e below _ (T7.setTop (mkF m 40 #[.val (.long q0), .second, .val (.int p1), .val (.ref b1), .unset, .unset, .unset] [(.int ((((q0.toUInt64 >>> ((32 : Int32) &&& 0x3f).toInt64.toUInt64).toInt64).toInt32).toInt8.toInt32)), (.int (3 : Int32)), (.ref b1)]))
  obtain ⟨T9, h9, X9, e9, W9, V9, st9⟩ := avStB X7 hx hZ e7 V7 (i := 3) (by decide) rfl (by decide) (g := (mkF m 40 #[.val (.long q0), .second, .val (.int p1), .val (.ref b1), .unset, .unset, .unset] [(.int ((((q0.toUInt64 >>> ((32 : Int32) &&& 0x3f).toInt64.toUInt64).toInt64).toInt32).toInt8.toInt32)), (.int (3 : Int32)), (.ref b1)])) rfl rfl (hb hby at_40)
  have NF9 := Fr.snoc X9 NF7 gn_b1
  refine Wp.via st9 ?_
  have K9 := K7.wr W9 (Or.inr sz_b1)
  have zz10 : n0 ≤ h9.size := by rw [W9.size]; exact zz8
  show Wp p e below _ (T9.setTop (mkF m 41 #[.val (.long q0), .second, .val (.int p1), .val (.ref b1), .unset, .unset, .unset] []))
  refine Wp.via (fun _ k => XS.aloadN X9.here hx rfl (hb hby at_41) rfl rfl k) ?_
  show Wp p e below _ (T9.setTop (mkF m 42 #[.val (.long q0), .second, .val (.int p1), .val (.ref b1), .unset, .unset, .unset] [(.ref b1)]))
  refine Wp.via (fun _ k => XS.iconst X9.here hx rfl (hb hby at_42) k) ?_
  show Wp p e below _ (T9.setTop (mkF m 43 #[.val (.long q0), .second, .val (.int p1), .val (.ref b1), .unset, .unset, .unset] [(.int (4 : Int32)), (.ref b1)]))
  refine Wp.via (fun _ k => XS.lloadN X9.here hx rfl (hb hby at_43) rfl k) ?_
  show Wp p e below _ (T9.setTop (mkF m 44 #[.val (.long q0), .second, .val (.int p1), .val (.ref b1), .unset, .unset, .unset] [(.long q0), (.int (4 : Int32)), (.ref b1)]))
  refine Wp.via (fun _ k => XS.bipush X9.here hx rfl (hb hby at_44) k) ?_
  show Wp p e below _ (T9.setTop (mkF m 46 #[.val (.long q0), .second, .val (.int p1), .val (.ref b1), .unset, .unset, .unset] [(.int (24 : Int32)), (.long q0), (.int (4 : Int32)), (.ref b1)]))
  refine Wp.via (fun _ k => XS.lushr X9.here hx rfl (hb hby at_46) rfl k) ?_
  show Wp p e below _ (T9.setTop (mkF m 47 #[.val (.long q0), .second, .val (.int p1), .val (.ref b1), .unset, .unset, .unset] [(.long ((q0.toUInt64 >>> ((24 : Int32) &&& 0x3f).toInt64.toUInt64).toInt64)), (.int (4 : Int32)), (.ref b1)]))
  refine Wp.via (fun _ k => XS.l2i X9.here hx rfl (hb hby at_47) rfl k) ?_
  show Wp p e below _ (T9.setTop (mkF m 48 #[.val (.long q0), .second, .val (.int p1), .val (.ref b1), .unset, .unset, .unset] [(.int (((q0.toUInt64 >>> ((24 : Int32) &&& 0x3f).toInt64.toUInt64).toInt64).toInt32)), (.int (4 : Int32)), (.ref b1)]))
  refine Wp.via (fun _ k => XS.i2b X9.here hx rfl (hb hby at_48) rfl k) ?_
  show Wp p e below _ (T9.setTop (mkF m 49 #[.val (.long q0), .second, .val (.int p1), .val (.ref b1), .unset, .unset, .unset] [(.int ((((q0.toUInt64 >>> ((24 : Int32) &&& 0x3f).toInt64.toUInt64).toInt64).toInt32).toInt8.toInt32)), (.int (4 : Int32)), (.ref b1)]))
  obtain ⟨T11, h11, X11, e11, W11, V11, st11⟩ := avStB X9 hx hZ e9 V9 (i := 4) (by decide) rfl (by decide) (g := (mkF m 49 #[.val (.long q0), .second, .val (.int p1), .val (.ref b1), .unset, .unset, .unset] [(.int ((((q0.toUInt64 >>> ((24 : Int32) &&& 0x3f).toInt64.toUInt64).toInt64).toInt32).toInt8.toInt32)), (.int (4 : Int32)), (.ref b1)])) rfl rfl (hb hby at_49)
  have NF11 := Fr.snoc X11 NF9 gn_b1
  refine Wp.via st11 ?_
  have K11 := K9.wr W11 (Or.inr sz_b1)
  have zz12 : n0 ≤ h11.size := by rw [W11.size]; exact zz10
  show Wp p e below _ (T11.setTop (mkF m 50 #[.val (.long q0), .second, .val (.int p1), .val (.ref b1), .unset, .unset, .unset] []))
  refine Wp.via (fun _ k => XS.aloadN X11.here hx rfl (hb hby at_50) rfl rfl k) ?_
  show Wp p e below _ (T11.setTop (mkF m 51 #[.val (.long q0), .second, .val (.int p1), .val (.ref b1), .unset, .unset, .unset] [(.ref b1)]))
  refine Wp.via (fun _ k => XS.iconst X11.here hx rfl (hb hby at_51) k) ?_
  show Wp p e below _ (T11.setTop (mkF m 52 #[.val (.long q0), .second, .val (.int p1), .val (.ref b1), .unset, .unset, .unset] [(.int (5 : Int32)), (.ref b1)]))
  refine Wp.via (fun _ k => XS.lloadN X11.here hx rfl (hb hby at_52) rfl k) ?_
  show Wp p e below _ (T11.setTop (mkF m 53 #[.val (.long q0), .second, .val (.int p1), .val (.ref b1), .unset, .unset, .unset] [(.long q0), (.int (5 : Int32)), (.ref b1)]))
  refine Wp.via (fun _ k => XS.bipush X11.here hx rfl (hb hby at_53) k) ?_
  show Wp p e below _ (T11.setTop (mkF m 55 #[.val (.long q0), .second, .val (.int p1), .val (.ref b1), .unset, .unset, .unset] [(.int (16 : Int32)), (.long q0), (.int (5 : Int32)), (.ref b1)]))
  refine Wp.via (fun _ k => XS.lushr X11.here hx rfl (hb hby at_55) rfl k) ?_
  show Wp p e below _ (T11.setTop (mkF m 56 #[.val (.long q0), .second, .val (.int p1), .val (.ref b1), .unset, .unset, .unset] [(.long ((q0.toUInt64 >>> ((16 : Int32) &&& 0x3f).toInt64.toUInt64).toInt64)), (.int (5 : Int32)), (.ref b1)]))
  refine Wp.via (fun _ k => XS.l2i X11.here hx rfl (hb hby at_56) rfl k) ?_
  show Wp p e below _ (T11.setTop (mkF m 57 #[.val (.long q0), .second, .val (.int p1), .val (.ref b1), .unset, .unset, .unset] [(.int (((q0.toUInt64 >>> ((16 : Int32) &&& 0x3f).toInt64.toUInt64).toInt64).toInt32)), (.int (5 : Int32)), (.ref b1)]))
  refine Wp.via (fun _ k => XS.i2b X11.here hx rfl (hb hby at_57) rfl k) ?_
  show Wp p e below _ (T11.setTop (mkF m 58 #[.val (.long q0), .second, .val (.int p1), .val (.ref b1), .unset, .unset, .unset] [(.int ((((q0.toUInt64 >>> ((16 : Int32) &&& 0x3f).toInt64.toUInt64).toInt64).toInt32).toInt8.toInt32)), (.int (5 : Int32)), (.ref b1)]))
  obtain ⟨T13, h13, X13, e13, W13, V13, st13⟩ := avStB X11 hx hZ e11 V11 (i := 5) (by decide) rfl (by decide) (g := (mkF m 58 #[.val (.long q0), .second, .val (.int p1), .val (.ref b1), .unset, .unset, .unset] [(.int ((((q0.toUInt64 >>> ((16 : Int32) &&& 0x3f).toInt64.toUInt64).toInt64).toInt32).toInt8.toInt32)), (.int (5 : Int32)), (.ref b1)])) rfl rfl (hb hby at_58)
  have NF13 := Fr.snoc X13 NF11 gn_b1
  refine Wp.via st13 ?_
  have K13 := K11.wr W13 (Or.inr sz_b1)
  have zz14 : n0 ≤ h13.size := by rw [W13.size]; exact zz12
  show Wp p e below _ (T13.setTop (mkF m 59 #[.val (.long q0), .second, .val (.int p1), .val (.ref b1), .unset, .unset, .unset] []))
  refine Wp.via (fun _ k => XS.aloadN X13.here hx rfl (hb hby at_59) rfl rfl k) ?_
  show Wp p e below _ (T13.setTop (mkF m 60 #[.val (.long q0), .second, .val (.int p1), .val (.ref b1), .unset, .unset, .unset] [(.ref b1)]))
  refine Wp.via (fun _ k => XS.bipush X13.here hx rfl (hb hby at_60) k) ?_
  show Wp p e below _ (T13.setTop (mkF m 62 #[.val (.long q0), .second, .val (.int p1), .val (.ref b1), .unset, .unset, .unset] [(.int (6 : Int32)), (.ref b1)]))
  refine Wp.via (fun _ k => XS.lloadN X13.here hx rfl (hb hby at_62) rfl k) ?_
  show Wp p e below _ (T13.setTop (mkF m 63 #[.val (.long q0), .second, .val (.int p1), .val (.ref b1), .unset, .unset, .unset] [(.long q0), (.int (6 : Int32)), (.ref b1)]))
  refine Wp.via (fun _ k => XS.bipush X13.here hx rfl (hb hby at_63) k) ?_
  show Wp p e below _ (T13.setTop (mkF m 65 #[.val (.long q0), .second, .val (.int p1), .val (.ref b1), .unset, .unset, .unset] [(.int (8 : Int32)), (.long q0), (.int (6 : Int32)), (.ref b1)]))
  refine Wp.via (fun _ k => XS.lushr X13.here hx rfl (hb hby at_65) rfl k) ?_
  show Wp p e below _ (T13.setTop (mkF m 66 #[.val (.long q0), .second, .val (.int p1), .val (.ref b1), .unset, .unset, .unset] [(.long ((q0.toUInt64 >>> ((8 : Int32) &&& 0x3f).toInt64.toUInt64).toInt64)), (.int (6 : Int32)), (.ref b1)]))
  refine Wp.via (fun _ k => XS.l2i X13.here hx rfl (hb hby at_66) rfl k) ?_
  show Wp p e below _ (T13.setTop (mkF m 67 #[.val (.long q0), .second, .val (.int p1), .val (.ref b1), .unset, .unset, .unset] [(.int (((q0.toUInt64 >>> ((8 : Int32) &&& 0x3f).toInt64.toUInt64).toInt64).toInt32)), (.int (6 : Int32)), (.ref b1)]))
  refine Wp.via (fun _ k => XS.i2b X13.here hx rfl (hb hby at_67) rfl k) ?_
  show Wp p e below _ (T13.setTop (mkF m 68 #[.val (.long q0), .second, .val (.int p1), .val (.ref b1), .unset, .unset, .unset] [(.int ((((q0.toUInt64 >>> ((8 : Int32) &&& 0x3f).toInt64.toUInt64).toInt64).toInt32).toInt8.toInt32)), (.int (6 : Int32)), (.ref b1)]))
  obtain ⟨T15, h15, X15, e15, W15, V15, st15⟩ := avStB X13 hx hZ e13 V13 (i := 6) (by decide) rfl (by decide) (g := (mkF m 68 #[.val (.long q0), .second, .val (.int p1), .val (.ref b1), .unset, .unset, .unset] [(.int ((((q0.toUInt64 >>> ((8 : Int32) &&& 0x3f).toInt64.toUInt64).toInt64).toInt32).toInt8.toInt32)), (.int (6 : Int32)), (.ref b1)])) rfl rfl (hb hby at_68)
  have NF15 := Fr.snoc X15 NF13 gn_b1
  refine Wp.via st15 ?_
  have K15 := K13.wr W15 (Or.inr sz_b1)
  have zz16 : n0 ≤ h15.size := by rw [W15.size]; exact zz14
  show Wp p e below _ (T15.setTop (mkF m 69 #[.val (.long q0), .second, .val (.int p1), .val (.ref b1), .unset, .unset, .unset] []))
  refine Wp.via (fun _ k => XS.aloadN X15.here hx rfl (hb hby at_69) rfl rfl k) ?_
  show Wp p e below _ (T15.setTop (mkF m 70 #[.val (.long q0), .second, .val (.int p1), .val (.ref b1), .unset, .unset, .unset] [(.ref b1)]))
  refine Wp.via (fun _ k => XS.bipush X15.here hx rfl (hb hby at_70) k) ?_
  show Wp p e below _ (T15.setTop (mkF m 72 #[.val (.long q0), .second, .val (.int p1), .val (.ref b1), .unset, .unset, .unset] [(.int (7 : Int32)), (.ref b1)]))
  refine Wp.via (fun _ k => XS.lloadN X15.here hx rfl (hb hby at_72) rfl k) ?_
  show Wp p e below _ (T15.setTop (mkF m 73 #[.val (.long q0), .second, .val (.int p1), .val (.ref b1), .unset, .unset, .unset] [(.long q0), (.int (7 : Int32)), (.ref b1)]))
  refine Wp.via (fun _ k => XS.l2i X15.here hx rfl (hb hby at_73) rfl k) ?_
  show Wp p e below _ (T15.setTop (mkF m 74 #[.val (.long q0), .second, .val (.int p1), .val (.ref b1), .unset, .unset, .unset] [(.int (q0.toInt32)), (.int (7 : Int32)), (.ref b1)]))
  refine Wp.via (fun _ k => XS.i2b X15.here hx rfl (hb hby at_74) rfl k) ?_
  show Wp p e below _ (T15.setTop (mkF m 75 #[.val (.long q0), .second, .val (.int p1), .val (.ref b1), .unset, .unset, .unset] [(.int ((q0.toInt32).toInt8.toInt32)), (.int (7 : Int32)), (.ref b1)]))
  obtain ⟨T17, h17, X17, e17, W17, V17, st17⟩ := avStB X15 hx hZ e15 V15 (i := 7) (by decide) rfl (by decide) (g := (mkF m 75 #[.val (.long q0), .second, .val (.int p1), .val (.ref b1), .unset, .unset, .unset] [(.int ((q0.toInt32).toInt8.toInt32)), (.int (7 : Int32)), (.ref b1)])) rfl rfl (hb hby at_75)
  have NF17 := Fr.snoc X17 NF15 gn_b1
  refine Wp.via st17 ?_
  have K17 := K15.wr W17 (Or.inr sz_b1)
  have zz18 : n0 ≤ h17.size := by rw [W17.size]; exact zz16
  show Wp p e below _ (T17.setTop (mkF m 76 #[.val (.long q0), .second, .val (.int p1), .val (.ref b1), .unset, .unset, .unset] []))
  refine Wp.via (fun _ k => XS.iloadN X17.here hx rfl (hb hby at_76) rfl k) ?_
  show Wp p e below _ (T17.setTop (mkF m 77 #[.val (.long q0), .second, .val (.int p1), .val (.ref b1), .unset, .unset, .unset] [(.int p1)]))
  refine Wp.via (fun _ k => X17.ldcInt hx hown (mvT hZ (hw _ (List.mem_of_getElem? (i := 1) rfl))) (g := (mkF m 77 #[.val (.long q0), .second, .val (.int p1), .val (.ref b1), .unset, .unset, .unset] [(.int p1)])) rfl (hb hby at_77) _ k) ?_
  show Wp p e below _ (T17.setTop (mkF m 79 #[.val (.long q0), .second, .val (.int p1), .val (.ref b1), .unset, .unset, .unset] [(.int (2147483647 : Int32)), (.int p1)]))
  refine Wp.via (fun _ k => XS.iand X17.here hx rfl (hb hby at_79) rfl k) ?_
  show Wp p e below _ (T17.setTop (mkF m 80 #[.val (.long q0), .second, .val (.int p1), .val (.ref b1), .unset, .unset, .unset] [(.int (p1 &&& (2147483647 : Int32)))]))
  refine Wp.via (fun _ k => XS.iconst X17.here hx rfl (hb hby at_80) k) ?_
  show Wp p e below _ (T17.setTop (mkF m 81 #[.val (.long q0), .second, .val (.int p1), .val (.ref b1), .unset, .unset, .unset] [(.int (5 : Int32)), (.int (p1 &&& (2147483647 : Int32)))]))
  refine Wp.via (fun _ k => iremM X17 hx rfl (hb hby at_81) rfl (by decide) k) ?_
  show Wp p e below _ (T17.setTop (mkF m 82 #[.val (.long q0), .second, .val (.int p1), .val (.ref b1), .unset, .unset, .unset] [(.int ((p1 &&& (2147483647 : Int32)) % (5 : Int32)))]))
  refine Wp.via (fun _ k => XS.istore X17.here hx rfl (hb hby at_82) rfl (l' := #[.val (.long q0), .second, .val (.int p1), .val (.ref b1), .val (.int ((p1 &&& (2147483647 : Int32)) % (5 : Int32))), .unset, .unset]) rfl k) ?_
  show Wp p e below _ (T17.setTop (mkF m 84 #[.val (.long q0), .second, .val (.int p1), .val (.ref b1), .val (.int ((p1 &&& (2147483647 : Int32)) % (5 : Int32))), .unset, .unset] []))
  have J84 : ∀ (T : State) (locs : List Loc) (cells slots : Nat) (X : Stand p l e room_1 s m #[(.long q0), (.int p1)] below meth c T locs cells slots) (eT : T.heap = h17) (NF : Fr n0 locs) (hC : cells = 1) (hS : slots = 8) (av : Int32), (av = 0 ∨ av = 1 ∨ av = 2 ∨ av = 3 ∨ av = 4) → Wp p e below (Gd s (Qo0 Z q0 p1 h0 n0) 16 128) (T.setTop (mkF m 84 #[.val (.long q0), .second, .val (.int p1), .val (.ref b1), .val (.int av), .unset, .unset] [])) := by
    intro T locs cells slots X eT NF hC hS av hav
    subst hC hS
    rcases hav with rfl | rfl | rfl | rfl | rfl
    ·
      show Wp p e below _ (T.setTop (mkF m 84 #[.val (.long q0), .second, .val (.int p1), .val (.ref b1), .val (.int (0 : Int32)), .unset, .unset] []))
      refine Wp.via (fun _ k => XS.lloadN X.here hx rfl (hb hby at_84) rfl k) ?_
      show Wp p e below _ (T.setTop (mkF m 85 #[.val (.long q0), .second, .val (.int p1), .val (.ref b1), .val (.int (0 : Int32)), .unset, .unset] [(.long q0)]))
      refine Wp.via (fun _ k => XS.bipush X.here hx rfl (hb hby at_85) k) ?_
      show Wp p e below _ (T.setTop (mkF m 87 #[.val (.long q0), .second, .val (.int p1), .val (.ref b1), .val (.int (0 : Int32)), .unset, .unset] [(.int (32 : Int32)), (.long q0)]))
      refine Wp.via (fun _ k => XS.bipush X.here hx rfl (hb hby at_87) k) ?_
      show Wp p e below _ (T.setTop (mkF m 89 #[.val (.long q0), .second, .val (.int p1), .val (.ref b1), .val (.int (0 : Int32)), .unset, .unset] [(.int (8 : Int32)), (.int (32 : Int32)), (.long q0)]))
      refine Wp.via (fun _ k => XS.iload X.here hx rfl (hb hby at_89) rfl k) ?_
      show Wp p e below _ (T.setTop (mkF m 91 #[.val (.long q0), .second, .val (.int p1), .val (.ref b1), .val (.int (0 : Int32)), .unset, .unset] [(.int (0 : Int32)), (.int (8 : Int32)), (.int (32 : Int32)), (.long q0)]))
      refine Wp.via (fun _ k => XS.imul X.here hx rfl (hb hby at_91) rfl k) ?_
      show Wp p e below _ (T.setTop (mkF m 92 #[.val (.long q0), .second, .val (.int p1), .val (.ref b1), .val (.int (0 : Int32)), .unset, .unset] [(.int (0 : Int32)), (.int (32 : Int32)), (.long q0)]))
      refine Wp.via (fun _ k => XS.isub X.here hx rfl (hb hby at_92) rfl k) ?_
      show Wp p e below _ (T.setTop (mkF m 93 #[.val (.long q0), .second, .val (.int p1), .val (.ref b1), .val (.int (0 : Int32)), .unset, .unset] [(.int (32 : Int32)), (.long q0)]))
      refine Wp.via (fun _ k => XS.lushr X.here hx rfl (hb hby at_93) rfl k) ?_
      show Wp p e below _ (T.setTop (mkF m 94 #[.val (.long q0), .second, .val (.int p1), .val (.ref b1), .val (.int (0 : Int32)), .unset, .unset] [(.long ((q0.toUInt64 >>> ((32 : Int32) &&& 0x3f).toInt64.toUInt64).toInt64))]))
      refine Wp.via (fun _ k => XS.l2i X.here hx rfl (hb hby at_94) rfl k) ?_
      show Wp p e below _ (T.setTop (mkF m 95 #[.val (.long q0), .second, .val (.int p1), .val (.ref b1), .val (.int (0 : Int32)), .unset, .unset] [(.int (((q0.toUInt64 >>> ((32 : Int32) &&& 0x3f).toInt64.toUInt64).toInt64).toInt32))]))
      refine Wp.via (fun _ k => XS.istore X.here hx rfl (hb hby at_95) rfl (l' := #[.val (.long q0), .second, .val (.int p1), .val (.ref b1), .val (.int (0 : Int32)), .val (.int (((q0.toUInt64 >>> ((32 : Int32) &&& 0x3f).toInt64.toUInt64).toInt64).toInt32)), .unset]) rfl k) ?_
      show Wp p e below _ (T.setTop (mkF m 97 #[.val (.long q0), .second, .val (.int p1), .val (.ref b1), .val (.int (0 : Int32)), .val (.int (((q0.toUInt64 >>> ((32 : Int32) &&& 0x3f).toInt64.toUInt64).toInt64).toInt32)), .unset] []))
      refine Wp.via (fun _ k => XS.aloadN X.here hx rfl (hb hby at_97) rfl rfl k) ?_
      show Wp p e below _ (T.setTop (mkF m 98 #[.val (.long q0), .second, .val (.int p1), .val (.ref b1), .val (.int (0 : Int32)), .val (.int (((q0.toUInt64 >>> ((32 : Int32) &&& 0x3f).toInt64.toUInt64).toInt64).toInt32)), .unset] [(.ref b1)]))
      refine Wp.via (fun _ k => XS.iload X.here hx rfl (hb hby at_98) rfl k) ?_
      show Wp p e below _ (T.setTop (mkF m 100 #[.val (.long q0), .second, .val (.int p1), .val (.ref b1), .val (.int (0 : Int32)), .val (.int (((q0.toUInt64 >>> ((32 : Int32) &&& 0x3f).toInt64.toUInt64).toInt64).toInt32)), .unset] [(.int (0 : Int32)), (.ref b1)]))
      obtain ⟨_, _, ⟨T19, L19, k19, n19⟩, -, X19, ⟨Lc19, hQ19, l19, y19, z19⟩, st19⟩ := Jvm.LawKit.callS X hx (y := (⟨"com/example/inverso/inverso/index/CheckValue", "stored", "([BI)I"⟩ : MethodName)) hown (mvT hZ (hw _ (List.mem_of_getElem? (i := 2) rfl))) (mvT hZ (hw _ (List.mem_of_getElem? (i := 3) rfl))) (mvT hZ (hw _ (List.mem_of_getElem? (i := 4) rfl))) (mvT hZ (hw _ (List.mem_of_getElem? (i := 5) rfl))) (by decide) (backOf (W := 0) (rm1_0 l Z aw hw [] b1 (fun k => if k = 7 then (.int (nar .byte ((q0.toInt32).toInt8.toInt32))) else (fun k => if k = 6 then (.int (nar .byte ((((q0.toUInt64 >>> ((8 : Int32) &&& 0x3f).toInt64.toUInt64).toInt64).toInt32).toInt8.toInt32))) else (fun k => if k = 5 then (.int (nar .byte ((((q0.toUInt64 >>> ((16 : Int32) &&& 0x3f).toInt64.toUInt64).toInt64).toInt32).toInt8.toInt32))) else (fun k => if k = 4 then (.int (nar .byte ((((q0.toUInt64 >>> ((24 : Int32) &&& 0x3f).toInt64.toUInt64).toInt64).toInt32).toInt8.toInt32))) else (fun k => if k = 3 then (.int (nar .byte ((((q0.toUInt64 >>> ((32 : Int32) &&& 0x3f).toInt64.toUInt64).toInt64).toInt32).toInt8.toInt32))) else (fun k => if k = 2 then (.int (nar .byte ((((q0.toUInt64 >>> ((40 : Int32) &&& 0x3f).toInt64.toUInt64).toInt64).toInt32).toInt8.toInt32))) else (fun k => if k = 1 then (.int (nar .byte ((((q0.toUInt64 >>> ((48 : Int32) &&& 0x3f).toInt64.toUInt64).toInt64).toInt32).toInt8.toInt32))) else (fun k => if k = 0 then (.int (nar .byte ((((q0.toUInt64 >>> ((56 : Int32) &&& 0x3f).toInt64.toUInt64).toInt64).toInt32).toInt8.toInt32))) else (fun _ => (.int (0 : Int32))) k) k) k) k) k) k) k) k) (nar .byte ((((q0.toUInt64 >>> ((56 : Int32) &&& 0x3f).toInt64.toUInt64).toInt64).toInt32).toInt8.toInt32)) (nar .byte ((((q0.toUInt64 >>> ((48 : Int32) &&& 0x3f).toInt64.toUInt64).toInt64).toInt32).toInt8.toInt32)) (nar .byte ((((q0.toUInt64 >>> ((40 : Int32) &&& 0x3f).toInt64.toUInt64).toInt64).toInt32).toInt8.toInt32)) (nar .byte ((((q0.toUInt64 >>> ((32 : Int32) &&& 0x3f).toInt64.toUInt64).toInt64).toInt32).toInt8.toInt32)) h17 n0 zz18 V17 rfl rfl rfl rfl) hZ (hw _ (List.mem_of_getElem? (i := 5) rfl)) (hw _ (List.mem_of_getElem? (i := 4) rfl)) (by decide) (by decide)) (g := (mkF m 100 #[.val (.long q0), .second, .val (.int p1), .val (.ref b1), .val (.int (0 : Int32)), .val (.int (((q0.toUInt64 >>> ((32 : Int32) &&& 0x3f).toInt64.toUInt64).toInt64).toInt32)), .unset] [(.int (0 : Int32)), (.ref b1)])) rfl (by rw [hml]; rfl) (argsL := [(.ref b1), (.int (0 : Int32))]) (rest := []) (lenOf own_pd0 rfl) rfl (by show 2 * 0 + _ ≤ _; exact Nat.le_of_eq rfl) (hb hby at_100) (fun _ _ => ⟨rfl, eT, (by decide : 1 + 0 ≤ _), (by decide : 8 + 0 ≤ _)⟩)
      dsimp only [Pt.U, Pt.locs, Pt.cells, Pt.slots] at X19 l19 y19 z19 st19 hQ19
      subst l19 y19 z19
      obtain ⟨rfl, N19, e19⟩ := hQ19
      have NF19 := Fr.app NF N19
      refine Wp.via st19 ?_
      show Wp p e below _ (T19.setTop (mkF m 103 #[.val (.long q0), .second, .val (.int p1), .val (.ref b1), .val (.int (0 : Int32)), .val (.int (((q0.toUInt64 >>> ((32 : Int32) &&& 0x3f).toInt64.toUInt64).toInt64).toInt32)), .unset] [(.int (own_s (nar .byte ((((q0.toUInt64 >>> ((56 : Int32) &&& 0x3f).toInt64.toUInt64).toInt64).toInt32).toInt8.toInt32)) (nar .byte ((((q0.toUInt64 >>> ((48 : Int32) &&& 0x3f).toInt64.toUInt64).toInt64).toInt32).toInt8.toInt32)) (nar .byte ((((q0.toUInt64 >>> ((40 : Int32) &&& 0x3f).toInt64.toUInt64).toInt64).toInt32).toInt8.toInt32)) (nar .byte ((((q0.toUInt64 >>> ((32 : Int32) &&& 0x3f).toInt64.toUInt64).toInt64).toInt32).toInt8.toInt32))))]))
      refine Wp.via (fun _ k => XS.istore X19.here hx rfl (hb hby at_103) rfl (l' := #[.val (.long q0), .second, .val (.int p1), .val (.ref b1), .val (.int (0 : Int32)), .val (.int (((q0.toUInt64 >>> ((32 : Int32) &&& 0x3f).toInt64.toUInt64).toInt64).toInt32)), .val (.int (own_s (nar .byte ((((q0.toUInt64 >>> ((56 : Int32) &&& 0x3f).toInt64.toUInt64).toInt64).toInt32).toInt8.toInt32)) (nar .byte ((((q0.toUInt64 >>> ((48 : Int32) &&& 0x3f).toInt64.toUInt64).toInt64).toInt32).toInt8.toInt32)) (nar .byte ((((q0.toUInt64 >>> ((40 : Int32) &&& 0x3f).toInt64.toUInt64).toInt64).toInt32).toInt8.toInt32)) (nar .byte ((((q0.toUInt64 >>> ((32 : Int32) &&& 0x3f).toInt64.toUInt64).toInt64).toInt32).toInt8.toInt32))))]) rfl k) ?_
      show Wp p e below _ (T19.setTop (mkF m 105 #[.val (.long q0), .second, .val (.int p1), .val (.ref b1), .val (.int (0 : Int32)), .val (.int (((q0.toUInt64 >>> ((32 : Int32) &&& 0x3f).toInt64.toUInt64).toInt64).toInt32)), .val (.int (own_s (nar .byte ((((q0.toUInt64 >>> ((56 : Int32) &&& 0x3f).toInt64.toUInt64).toInt64).toInt32).toInt8.toInt32)) (nar .byte ((((q0.toUInt64 >>> ((48 : Int32) &&& 0x3f).toInt64.toUInt64).toInt64).toInt32).toInt8.toInt32)) (nar .byte ((((q0.toUInt64 >>> ((40 : Int32) &&& 0x3f).toInt64.toUInt64).toInt64).toInt32).toInt8.toInt32)) (nar .byte ((((q0.toUInt64 >>> ((32 : Int32) &&& 0x3f).toInt64.toUInt64).toInt64).toInt32).toInt8.toInt32))))] []))
      refine Wp.via (fun _ k => XS.iload X19.here hx rfl (hb hby at_105) rfl k) ?_
      show Wp p e below _ (T19.setTop (mkF m 107 #[.val (.long q0), .second, .val (.int p1), .val (.ref b1), .val (.int (0 : Int32)), .val (.int (((q0.toUInt64 >>> ((32 : Int32) &&& 0x3f).toInt64.toUInt64).toInt64).toInt32)), .val (.int (own_s (nar .byte ((((q0.toUInt64 >>> ((56 : Int32) &&& 0x3f).toInt64.toUInt64).toInt64).toInt32).toInt8.toInt32)) (nar .byte ((((q0.toUInt64 >>> ((48 : Int32) &&& 0x3f).toInt64.toUInt64).toInt64).toInt32).toInt8.toInt32)) (nar .byte ((((q0.toUInt64 >>> ((40 : Int32) &&& 0x3f).toInt64.toUInt64).toInt64).toInt32).toInt8.toInt32)) (nar .byte ((((q0.toUInt64 >>> ((32 : Int32) &&& 0x3f).toInt64.toUInt64).toInt64).toInt32).toInt8.toInt32))))] [(.int (own_s (nar .byte ((((q0.toUInt64 >>> ((56 : Int32) &&& 0x3f).toInt64.toUInt64).toInt64).toInt32).toInt8.toInt32)) (nar .byte ((((q0.toUInt64 >>> ((48 : Int32) &&& 0x3f).toInt64.toUInt64).toInt64).toInt32).toInt8.toInt32)) (nar .byte ((((q0.toUInt64 >>> ((40 : Int32) &&& 0x3f).toInt64.toUInt64).toInt64).toInt32).toInt8.toInt32)) (nar .byte ((((q0.toUInt64 >>> ((32 : Int32) &&& 0x3f).toInt64.toUInt64).toInt64).toInt32).toInt8.toInt32))))]))
      refine Wp.via (fun _ k => XS.iload X19.here hx rfl (hb hby at_107) rfl k) ?_
      show Wp p e below _ (T19.setTop (mkF m 109 #[.val (.long q0), .second, .val (.int p1), .val (.ref b1), .val (.int (0 : Int32)), .val (.int (((q0.toUInt64 >>> ((32 : Int32) &&& 0x3f).toInt64.toUInt64).toInt64).toInt32)), .val (.int (own_s (nar .byte ((((q0.toUInt64 >>> ((56 : Int32) &&& 0x3f).toInt64.toUInt64).toInt64).toInt32).toInt8.toInt32)) (nar .byte ((((q0.toUInt64 >>> ((48 : Int32) &&& 0x3f).toInt64.toUInt64).toInt64).toInt32).toInt8.toInt32)) (nar .byte ((((q0.toUInt64 >>> ((40 : Int32) &&& 0x3f).toInt64.toUInt64).toInt64).toInt32).toInt8.toInt32)) (nar .byte ((((q0.toUInt64 >>> ((32 : Int32) &&& 0x3f).toInt64.toUInt64).toInt64).toInt32).toInt8.toInt32))))] [(.int (((q0.toUInt64 >>> ((32 : Int32) &&& 0x3f).toInt64.toUInt64).toInt64).toInt32)), (.int (own_s (nar .byte ((((q0.toUInt64 >>> ((56 : Int32) &&& 0x3f).toInt64.toUInt64).toInt64).toInt32).toInt8.toInt32)) (nar .byte ((((q0.toUInt64 >>> ((48 : Int32) &&& 0x3f).toInt64.toUInt64).toInt64).toInt32).toInt8.toInt32)) (nar .byte ((((q0.toUInt64 >>> ((40 : Int32) &&& 0x3f).toInt64.toUInt64).toInt64).toInt32).toInt8.toInt32)) (nar .byte ((((q0.toUInt64 >>> ((32 : Int32) &&& 0x3f).toInt64.toUInt64).toInt64).toInt32).toInt8.toInt32))))]))
      refine Wp.via (fun _ k => XS.icmpNo X19.here hx rfl (hb hby at_109) rfl (teq (own_eq0 q0)).2 k) ?_
      show Wp p e below _ (T19.setTop (mkF m 112 #[.val (.long q0), .second, .val (.int p1), .val (.ref b1), .val (.int (0 : Int32)), .val (.int (((q0.toUInt64 >>> ((32 : Int32) &&& 0x3f).toInt64.toUInt64).toInt64).toInt32)), .val (.int (own_s (nar .byte ((((q0.toUInt64 >>> ((56 : Int32) &&& 0x3f).toInt64.toUInt64).toInt64).toInt32).toInt8.toInt32)) (nar .byte ((((q0.toUInt64 >>> ((48 : Int32) &&& 0x3f).toInt64.toUInt64).toInt64).toInt32).toInt8.toInt32)) (nar .byte ((((q0.toUInt64 >>> ((40 : Int32) &&& 0x3f).toInt64.toUInt64).toInt64).toInt32).toInt8.toInt32)) (nar .byte ((((q0.toUInt64 >>> ((32 : Int32) &&& 0x3f).toInt64.toUInt64).toInt64).toInt32).toInt8.toInt32))))] []))
      refine Wp.via (fun _ k => XS.iconst X19.here hx rfl (hb hby at_112) k) ?_
      show Wp p e below _ (T19.setTop (mkF m 113 #[.val (.long q0), .second, .val (.int p1), .val (.ref b1), .val (.int (0 : Int32)), .val (.int (((q0.toUInt64 >>> ((32 : Int32) &&& 0x3f).toInt64.toUInt64).toInt64).toInt32)), .val (.int (own_s (nar .byte ((((q0.toUInt64 >>> ((56 : Int32) &&& 0x3f).toInt64.toUInt64).toInt64).toInt32).toInt8.toInt32)) (nar .byte ((((q0.toUInt64 >>> ((48 : Int32) &&& 0x3f).toInt64.toUInt64).toInt64).toInt32).toInt8.toInt32)) (nar .byte ((((q0.toUInt64 >>> ((40 : Int32) &&& 0x3f).toInt64.toUInt64).toInt64).toInt32).toInt8.toInt32)) (nar .byte ((((q0.toUInt64 >>> ((32 : Int32) &&& 0x3f).toInt64.toUInt64).toInt64).toInt32).toInt8.toInt32))))] [(.int (1 : Int32))]))
      refine Wp.via (fun _ k => XS.goto X19.here hx rfl (pc0 := 113) (pc' := 117) rfl (hb hby at_113) (by decide) (by decide) k) ?_
      show Wp p e below _ (T19.setTop (mkF m 117 #[.val (.long q0), .second, .val (.int p1), .val (.ref b1), .val (.int (0 : Int32)), .val (.int (((q0.toUInt64 >>> ((32 : Int32) &&& 0x3f).toInt64.toUInt64).toInt64).toInt32)), .val (.int (own_s (nar .byte ((((q0.toUInt64 >>> ((56 : Int32) &&& 0x3f).toInt64.toUInt64).toInt64).toInt32).toInt8.toInt32)) (nar .byte ((((q0.toUInt64 >>> ((48 : Int32) &&& 0x3f).toInt64.toUInt64).toInt64).toInt32).toInt8.toInt32)) (nar .byte ((((q0.toUInt64 >>> ((40 : Int32) &&& 0x3f).toInt64.toUInt64).toInt64).toInt32).toInt8.toInt32)) (nar .byte ((((q0.toUInt64 >>> ((32 : Int32) &&& 0x3f).toInt64.toUInt64).toInt64).toInt32).toInt8.toInt32))))] [(.int (1 : Int32))]))
      exact Wp.retI X19 hlk hx hret (by simp) (by first | rfl | decide) (hb hby at_117) ⟨rfl, NF19⟩ (by decide) (by decide)
    ·
      show Wp p e below _ (T.setTop (mkF m 84 #[.val (.long q0), .second, .val (.int p1), .val (.ref b1), .val (.int (1 : Int32)), .unset, .unset] []))
      refine Wp.via (fun _ k => XS.lloadN X.here hx rfl (hb hby at_84) rfl k) ?_
      show Wp p e below _ (T.setTop (mkF m 85 #[.val (.long q0), .second, .val (.int p1), .val (.ref b1), .val (.int (1 : Int32)), .unset, .unset] [(.long q0)]))
      refine Wp.via (fun _ k => XS.bipush X.here hx rfl (hb hby at_85) k) ?_
      show Wp p e below _ (T.setTop (mkF m 87 #[.val (.long q0), .second, .val (.int p1), .val (.ref b1), .val (.int (1 : Int32)), .unset, .unset] [(.int (32 : Int32)), (.long q0)]))
      refine Wp.via (fun _ k => XS.bipush X.here hx rfl (hb hby at_87) k) ?_
      show Wp p e below _ (T.setTop (mkF m 89 #[.val (.long q0), .second, .val (.int p1), .val (.ref b1), .val (.int (1 : Int32)), .unset, .unset] [(.int (8 : Int32)), (.int (32 : Int32)), (.long q0)]))
      refine Wp.via (fun _ k => XS.iload X.here hx rfl (hb hby at_89) rfl k) ?_
      show Wp p e below _ (T.setTop (mkF m 91 #[.val (.long q0), .second, .val (.int p1), .val (.ref b1), .val (.int (1 : Int32)), .unset, .unset] [(.int (1 : Int32)), (.int (8 : Int32)), (.int (32 : Int32)), (.long q0)]))
      refine Wp.via (fun _ k => XS.imul X.here hx rfl (hb hby at_91) rfl k) ?_
      show Wp p e below _ (T.setTop (mkF m 92 #[.val (.long q0), .second, .val (.int p1), .val (.ref b1), .val (.int (1 : Int32)), .unset, .unset] [(.int (8 : Int32)), (.int (32 : Int32)), (.long q0)]))
      refine Wp.via (fun _ k => XS.isub X.here hx rfl (hb hby at_92) rfl k) ?_
      show Wp p e below _ (T.setTop (mkF m 93 #[.val (.long q0), .second, .val (.int p1), .val (.ref b1), .val (.int (1 : Int32)), .unset, .unset] [(.int (24 : Int32)), (.long q0)]))
      refine Wp.via (fun _ k => XS.lushr X.here hx rfl (hb hby at_93) rfl k) ?_
      show Wp p e below _ (T.setTop (mkF m 94 #[.val (.long q0), .second, .val (.int p1), .val (.ref b1), .val (.int (1 : Int32)), .unset, .unset] [(.long ((q0.toUInt64 >>> ((24 : Int32) &&& 0x3f).toInt64.toUInt64).toInt64))]))
      refine Wp.via (fun _ k => XS.l2i X.here hx rfl (hb hby at_94) rfl k) ?_
      show Wp p e below _ (T.setTop (mkF m 95 #[.val (.long q0), .second, .val (.int p1), .val (.ref b1), .val (.int (1 : Int32)), .unset, .unset] [(.int (((q0.toUInt64 >>> ((24 : Int32) &&& 0x3f).toInt64.toUInt64).toInt64).toInt32))]))
      refine Wp.via (fun _ k => XS.istore X.here hx rfl (hb hby at_95) rfl (l' := #[.val (.long q0), .second, .val (.int p1), .val (.ref b1), .val (.int (1 : Int32)), .val (.int (((q0.toUInt64 >>> ((24 : Int32) &&& 0x3f).toInt64.toUInt64).toInt64).toInt32)), .unset]) rfl k) ?_
      show Wp p e below _ (T.setTop (mkF m 97 #[.val (.long q0), .second, .val (.int p1), .val (.ref b1), .val (.int (1 : Int32)), .val (.int (((q0.toUInt64 >>> ((24 : Int32) &&& 0x3f).toInt64.toUInt64).toInt64).toInt32)), .unset] []))
      refine Wp.via (fun _ k => XS.aloadN X.here hx rfl (hb hby at_97) rfl rfl k) ?_
      show Wp p e below _ (T.setTop (mkF m 98 #[.val (.long q0), .second, .val (.int p1), .val (.ref b1), .val (.int (1 : Int32)), .val (.int (((q0.toUInt64 >>> ((24 : Int32) &&& 0x3f).toInt64.toUInt64).toInt64).toInt32)), .unset] [(.ref b1)]))
      refine Wp.via (fun _ k => XS.iload X.here hx rfl (hb hby at_98) rfl k) ?_
      show Wp p e below _ (T.setTop (mkF m 100 #[.val (.long q0), .second, .val (.int p1), .val (.ref b1), .val (.int (1 : Int32)), .val (.int (((q0.toUInt64 >>> ((24 : Int32) &&& 0x3f).toInt64.toUInt64).toInt64).toInt32)), .unset] [(.int (1 : Int32)), (.ref b1)]))
      obtain ⟨_, _, ⟨T20, L20, k20, n20⟩, -, X20, ⟨Lc20, hQ20, l20, y20, z20⟩, st20⟩ := Jvm.LawKit.callS X hx (y := (⟨"com/example/inverso/inverso/index/CheckValue", "stored", "([BI)I"⟩ : MethodName)) hown (mvT hZ (hw _ (List.mem_of_getElem? (i := 2) rfl))) (mvT hZ (hw _ (List.mem_of_getElem? (i := 3) rfl))) (mvT hZ (hw _ (List.mem_of_getElem? (i := 4) rfl))) (mvT hZ (hw _ (List.mem_of_getElem? (i := 5) rfl))) (by decide) (backOf (W := 0) (rm1_1 l Z aw hw [] b1 (fun k => if k = 7 then (.int (nar .byte ((q0.toInt32).toInt8.toInt32))) else (fun k => if k = 6 then (.int (nar .byte ((((q0.toUInt64 >>> ((8 : Int32) &&& 0x3f).toInt64.toUInt64).toInt64).toInt32).toInt8.toInt32))) else (fun k => if k = 5 then (.int (nar .byte ((((q0.toUInt64 >>> ((16 : Int32) &&& 0x3f).toInt64.toUInt64).toInt64).toInt32).toInt8.toInt32))) else (fun k => if k = 4 then (.int (nar .byte ((((q0.toUInt64 >>> ((24 : Int32) &&& 0x3f).toInt64.toUInt64).toInt64).toInt32).toInt8.toInt32))) else (fun k => if k = 3 then (.int (nar .byte ((((q0.toUInt64 >>> ((32 : Int32) &&& 0x3f).toInt64.toUInt64).toInt64).toInt32).toInt8.toInt32))) else (fun k => if k = 2 then (.int (nar .byte ((((q0.toUInt64 >>> ((40 : Int32) &&& 0x3f).toInt64.toUInt64).toInt64).toInt32).toInt8.toInt32))) else (fun k => if k = 1 then (.int (nar .byte ((((q0.toUInt64 >>> ((48 : Int32) &&& 0x3f).toInt64.toUInt64).toInt64).toInt32).toInt8.toInt32))) else (fun k => if k = 0 then (.int (nar .byte ((((q0.toUInt64 >>> ((56 : Int32) &&& 0x3f).toInt64.toUInt64).toInt64).toInt32).toInt8.toInt32))) else (fun _ => (.int (0 : Int32))) k) k) k) k) k) k) k) k) (nar .byte ((((q0.toUInt64 >>> ((48 : Int32) &&& 0x3f).toInt64.toUInt64).toInt64).toInt32).toInt8.toInt32)) (nar .byte ((((q0.toUInt64 >>> ((40 : Int32) &&& 0x3f).toInt64.toUInt64).toInt64).toInt32).toInt8.toInt32)) (nar .byte ((((q0.toUInt64 >>> ((32 : Int32) &&& 0x3f).toInt64.toUInt64).toInt64).toInt32).toInt8.toInt32)) (nar .byte ((((q0.toUInt64 >>> ((24 : Int32) &&& 0x3f).toInt64.toUInt64).toInt64).toInt32).toInt8.toInt32)) h17 n0 zz18 V17 rfl rfl rfl rfl) hZ (hw _ (List.mem_of_getElem? (i := 5) rfl)) (hw _ (List.mem_of_getElem? (i := 4) rfl)) (by decide) (by decide)) (g := (mkF m 100 #[.val (.long q0), .second, .val (.int p1), .val (.ref b1), .val (.int (1 : Int32)), .val (.int (((q0.toUInt64 >>> ((24 : Int32) &&& 0x3f).toInt64.toUInt64).toInt64).toInt32)), .unset] [(.int (1 : Int32)), (.ref b1)])) rfl (by rw [hml]; rfl) (argsL := [(.ref b1), (.int (1 : Int32))]) (rest := []) (lenOf own_pd0 rfl) rfl (by show 2 * 0 + _ ≤ _; exact Nat.le_of_eq rfl) (hb hby at_100) (fun _ _ => ⟨rfl, eT, (by decide : 1 + 0 ≤ _), (by decide : 8 + 0 ≤ _)⟩)
      dsimp only [Pt.U, Pt.locs, Pt.cells, Pt.slots] at X20 l20 y20 z20 st20 hQ20
      subst l20 y20 z20
      obtain ⟨rfl, N20, e20⟩ := hQ20
      have NF20 := Fr.app NF N20
      refine Wp.via st20 ?_
      show Wp p e below _ (T20.setTop (mkF m 103 #[.val (.long q0), .second, .val (.int p1), .val (.ref b1), .val (.int (1 : Int32)), .val (.int (((q0.toUInt64 >>> ((24 : Int32) &&& 0x3f).toInt64.toUInt64).toInt64).toInt32)), .unset] [(.int (own_s (nar .byte ((((q0.toUInt64 >>> ((48 : Int32) &&& 0x3f).toInt64.toUInt64).toInt64).toInt32).toInt8.toInt32)) (nar .byte ((((q0.toUInt64 >>> ((40 : Int32) &&& 0x3f).toInt64.toUInt64).toInt64).toInt32).toInt8.toInt32)) (nar .byte ((((q0.toUInt64 >>> ((32 : Int32) &&& 0x3f).toInt64.toUInt64).toInt64).toInt32).toInt8.toInt32)) (nar .byte ((((q0.toUInt64 >>> ((24 : Int32) &&& 0x3f).toInt64.toUInt64).toInt64).toInt32).toInt8.toInt32))))]))
      refine Wp.via (fun _ k => XS.istore X20.here hx rfl (hb hby at_103) rfl (l' := #[.val (.long q0), .second, .val (.int p1), .val (.ref b1), .val (.int (1 : Int32)), .val (.int (((q0.toUInt64 >>> ((24 : Int32) &&& 0x3f).toInt64.toUInt64).toInt64).toInt32)), .val (.int (own_s (nar .byte ((((q0.toUInt64 >>> ((48 : Int32) &&& 0x3f).toInt64.toUInt64).toInt64).toInt32).toInt8.toInt32)) (nar .byte ((((q0.toUInt64 >>> ((40 : Int32) &&& 0x3f).toInt64.toUInt64).toInt64).toInt32).toInt8.toInt32)) (nar .byte ((((q0.toUInt64 >>> ((32 : Int32) &&& 0x3f).toInt64.toUInt64).toInt64).toInt32).toInt8.toInt32)) (nar .byte ((((q0.toUInt64 >>> ((24 : Int32) &&& 0x3f).toInt64.toUInt64).toInt64).toInt32).toInt8.toInt32))))]) rfl k) ?_
      show Wp p e below _ (T20.setTop (mkF m 105 #[.val (.long q0), .second, .val (.int p1), .val (.ref b1), .val (.int (1 : Int32)), .val (.int (((q0.toUInt64 >>> ((24 : Int32) &&& 0x3f).toInt64.toUInt64).toInt64).toInt32)), .val (.int (own_s (nar .byte ((((q0.toUInt64 >>> ((48 : Int32) &&& 0x3f).toInt64.toUInt64).toInt64).toInt32).toInt8.toInt32)) (nar .byte ((((q0.toUInt64 >>> ((40 : Int32) &&& 0x3f).toInt64.toUInt64).toInt64).toInt32).toInt8.toInt32)) (nar .byte ((((q0.toUInt64 >>> ((32 : Int32) &&& 0x3f).toInt64.toUInt64).toInt64).toInt32).toInt8.toInt32)) (nar .byte ((((q0.toUInt64 >>> ((24 : Int32) &&& 0x3f).toInt64.toUInt64).toInt64).toInt32).toInt8.toInt32))))] []))
      refine Wp.via (fun _ k => XS.iload X20.here hx rfl (hb hby at_105) rfl k) ?_
      show Wp p e below _ (T20.setTop (mkF m 107 #[.val (.long q0), .second, .val (.int p1), .val (.ref b1), .val (.int (1 : Int32)), .val (.int (((q0.toUInt64 >>> ((24 : Int32) &&& 0x3f).toInt64.toUInt64).toInt64).toInt32)), .val (.int (own_s (nar .byte ((((q0.toUInt64 >>> ((48 : Int32) &&& 0x3f).toInt64.toUInt64).toInt64).toInt32).toInt8.toInt32)) (nar .byte ((((q0.toUInt64 >>> ((40 : Int32) &&& 0x3f).toInt64.toUInt64).toInt64).toInt32).toInt8.toInt32)) (nar .byte ((((q0.toUInt64 >>> ((32 : Int32) &&& 0x3f).toInt64.toUInt64).toInt64).toInt32).toInt8.toInt32)) (nar .byte ((((q0.toUInt64 >>> ((24 : Int32) &&& 0x3f).toInt64.toUInt64).toInt64).toInt32).toInt8.toInt32))))] [(.int (own_s (nar .byte ((((q0.toUInt64 >>> ((48 : Int32) &&& 0x3f).toInt64.toUInt64).toInt64).toInt32).toInt8.toInt32)) (nar .byte ((((q0.toUInt64 >>> ((40 : Int32) &&& 0x3f).toInt64.toUInt64).toInt64).toInt32).toInt8.toInt32)) (nar .byte ((((q0.toUInt64 >>> ((32 : Int32) &&& 0x3f).toInt64.toUInt64).toInt64).toInt32).toInt8.toInt32)) (nar .byte ((((q0.toUInt64 >>> ((24 : Int32) &&& 0x3f).toInt64.toUInt64).toInt64).toInt32).toInt8.toInt32))))]))
      refine Wp.via (fun _ k => XS.iload X20.here hx rfl (hb hby at_107) rfl k) ?_
      show Wp p e below _ (T20.setTop (mkF m 109 #[.val (.long q0), .second, .val (.int p1), .val (.ref b1), .val (.int (1 : Int32)), .val (.int (((q0.toUInt64 >>> ((24 : Int32) &&& 0x3f).toInt64.toUInt64).toInt64).toInt32)), .val (.int (own_s (nar .byte ((((q0.toUInt64 >>> ((48 : Int32) &&& 0x3f).toInt64.toUInt64).toInt64).toInt32).toInt8.toInt32)) (nar .byte ((((q0.toUInt64 >>> ((40 : Int32) &&& 0x3f).toInt64.toUInt64).toInt64).toInt32).toInt8.toInt32)) (nar .byte ((((q0.toUInt64 >>> ((32 : Int32) &&& 0x3f).toInt64.toUInt64).toInt64).toInt32).toInt8.toInt32)) (nar .byte ((((q0.toUInt64 >>> ((24 : Int32) &&& 0x3f).toInt64.toUInt64).toInt64).toInt32).toInt8.toInt32))))] [(.int (((q0.toUInt64 >>> ((24 : Int32) &&& 0x3f).toInt64.toUInt64).toInt64).toInt32)), (.int (own_s (nar .byte ((((q0.toUInt64 >>> ((48 : Int32) &&& 0x3f).toInt64.toUInt64).toInt64).toInt32).toInt8.toInt32)) (nar .byte ((((q0.toUInt64 >>> ((40 : Int32) &&& 0x3f).toInt64.toUInt64).toInt64).toInt32).toInt8.toInt32)) (nar .byte ((((q0.toUInt64 >>> ((32 : Int32) &&& 0x3f).toInt64.toUInt64).toInt64).toInt32).toInt8.toInt32)) (nar .byte ((((q0.toUInt64 >>> ((24 : Int32) &&& 0x3f).toInt64.toUInt64).toInt64).toInt32).toInt8.toInt32))))]))
      refine Wp.via (fun _ k => XS.icmpNo X20.here hx rfl (hb hby at_109) rfl (teq (own_eq1 q0)).2 k) ?_
      show Wp p e below _ (T20.setTop (mkF m 112 #[.val (.long q0), .second, .val (.int p1), .val (.ref b1), .val (.int (1 : Int32)), .val (.int (((q0.toUInt64 >>> ((24 : Int32) &&& 0x3f).toInt64.toUInt64).toInt64).toInt32)), .val (.int (own_s (nar .byte ((((q0.toUInt64 >>> ((48 : Int32) &&& 0x3f).toInt64.toUInt64).toInt64).toInt32).toInt8.toInt32)) (nar .byte ((((q0.toUInt64 >>> ((40 : Int32) &&& 0x3f).toInt64.toUInt64).toInt64).toInt32).toInt8.toInt32)) (nar .byte ((((q0.toUInt64 >>> ((32 : Int32) &&& 0x3f).toInt64.toUInt64).toInt64).toInt32).toInt8.toInt32)) (nar .byte ((((q0.toUInt64 >>> ((24 : Int32) &&& 0x3f).toInt64.toUInt64).toInt64).toInt32).toInt8.toInt32))))] []))
      refine Wp.via (fun _ k => XS.iconst X20.here hx rfl (hb hby at_112) k) ?_
      show Wp p e below _ (T20.setTop (mkF m 113 #[.val (.long q0), .second, .val (.int p1), .val (.ref b1), .val (.int (1 : Int32)), .val (.int (((q0.toUInt64 >>> ((24 : Int32) &&& 0x3f).toInt64.toUInt64).toInt64).toInt32)), .val (.int (own_s (nar .byte ((((q0.toUInt64 >>> ((48 : Int32) &&& 0x3f).toInt64.toUInt64).toInt64).toInt32).toInt8.toInt32)) (nar .byte ((((q0.toUInt64 >>> ((40 : Int32) &&& 0x3f).toInt64.toUInt64).toInt64).toInt32).toInt8.toInt32)) (nar .byte ((((q0.toUInt64 >>> ((32 : Int32) &&& 0x3f).toInt64.toUInt64).toInt64).toInt32).toInt8.toInt32)) (nar .byte ((((q0.toUInt64 >>> ((24 : Int32) &&& 0x3f).toInt64.toUInt64).toInt64).toInt32).toInt8.toInt32))))] [(.int (1 : Int32))]))
      refine Wp.via (fun _ k => XS.goto X20.here hx rfl (pc0 := 113) (pc' := 117) rfl (hb hby at_113) (by decide) (by decide) k) ?_
      show Wp p e below _ (T20.setTop (mkF m 117 #[.val (.long q0), .second, .val (.int p1), .val (.ref b1), .val (.int (1 : Int32)), .val (.int (((q0.toUInt64 >>> ((24 : Int32) &&& 0x3f).toInt64.toUInt64).toInt64).toInt32)), .val (.int (own_s (nar .byte ((((q0.toUInt64 >>> ((48 : Int32) &&& 0x3f).toInt64.toUInt64).toInt64).toInt32).toInt8.toInt32)) (nar .byte ((((q0.toUInt64 >>> ((40 : Int32) &&& 0x3f).toInt64.toUInt64).toInt64).toInt32).toInt8.toInt32)) (nar .byte ((((q0.toUInt64 >>> ((32 : Int32) &&& 0x3f).toInt64.toUInt64).toInt64).toInt32).toInt8.toInt32)) (nar .byte ((((q0.toUInt64 >>> ((24 : Int32) &&& 0x3f).toInt64.toUInt64).toInt64).toInt32).toInt8.toInt32))))] [(.int (1 : Int32))]))
      exact Wp.retI X20 hlk hx hret (by simp) (by first | rfl | decide) (hb hby at_117) ⟨rfl, NF20⟩ (by decide) (by decide)
    ·
      show Wp p e below _ (T.setTop (mkF m 84 #[.val (.long q0), .second, .val (.int p1), .val (.ref b1), .val (.int (2 : Int32)), .unset, .unset] []))
      refine Wp.via (fun _ k => XS.lloadN X.here hx rfl (hb hby at_84) rfl k) ?_
      show Wp p e below _ (T.setTop (mkF m 85 #[.val (.long q0), .second, .val (.int p1), .val (.ref b1), .val (.int (2 : Int32)), .unset, .unset] [(.long q0)]))
      refine Wp.via (fun _ k => XS.bipush X.here hx rfl (hb hby at_85) k) ?_
      show Wp p e below _ (T.setTop (mkF m 87 #[.val (.long q0), .second, .val (.int p1), .val (.ref b1), .val (.int (2 : Int32)), .unset, .unset] [(.int (32 : Int32)), (.long q0)]))
      refine Wp.via (fun _ k => XS.bipush X.here hx rfl (hb hby at_87) k) ?_
      show Wp p e below _ (T.setTop (mkF m 89 #[.val (.long q0), .second, .val (.int p1), .val (.ref b1), .val (.int (2 : Int32)), .unset, .unset] [(.int (8 : Int32)), (.int (32 : Int32)), (.long q0)]))
      refine Wp.via (fun _ k => XS.iload X.here hx rfl (hb hby at_89) rfl k) ?_
      show Wp p e below _ (T.setTop (mkF m 91 #[.val (.long q0), .second, .val (.int p1), .val (.ref b1), .val (.int (2 : Int32)), .unset, .unset] [(.int (2 : Int32)), (.int (8 : Int32)), (.int (32 : Int32)), (.long q0)]))
      refine Wp.via (fun _ k => XS.imul X.here hx rfl (hb hby at_91) rfl k) ?_
      show Wp p e below _ (T.setTop (mkF m 92 #[.val (.long q0), .second, .val (.int p1), .val (.ref b1), .val (.int (2 : Int32)), .unset, .unset] [(.int (16 : Int32)), (.int (32 : Int32)), (.long q0)]))
      refine Wp.via (fun _ k => XS.isub X.here hx rfl (hb hby at_92) rfl k) ?_
      show Wp p e below _ (T.setTop (mkF m 93 #[.val (.long q0), .second, .val (.int p1), .val (.ref b1), .val (.int (2 : Int32)), .unset, .unset] [(.int (16 : Int32)), (.long q0)]))
      refine Wp.via (fun _ k => XS.lushr X.here hx rfl (hb hby at_93) rfl k) ?_
      show Wp p e below _ (T.setTop (mkF m 94 #[.val (.long q0), .second, .val (.int p1), .val (.ref b1), .val (.int (2 : Int32)), .unset, .unset] [(.long ((q0.toUInt64 >>> ((16 : Int32) &&& 0x3f).toInt64.toUInt64).toInt64))]))
      refine Wp.via (fun _ k => XS.l2i X.here hx rfl (hb hby at_94) rfl k) ?_
      show Wp p e below _ (T.setTop (mkF m 95 #[.val (.long q0), .second, .val (.int p1), .val (.ref b1), .val (.int (2 : Int32)), .unset, .unset] [(.int (((q0.toUInt64 >>> ((16 : Int32) &&& 0x3f).toInt64.toUInt64).toInt64).toInt32))]))
      refine Wp.via (fun _ k => XS.istore X.here hx rfl (hb hby at_95) rfl (l' := #[.val (.long q0), .second, .val (.int p1), .val (.ref b1), .val (.int (2 : Int32)), .val (.int (((q0.toUInt64 >>> ((16 : Int32) &&& 0x3f).toInt64.toUInt64).toInt64).toInt32)), .unset]) rfl k) ?_
      show Wp p e below _ (T.setTop (mkF m 97 #[.val (.long q0), .second, .val (.int p1), .val (.ref b1), .val (.int (2 : Int32)), .val (.int (((q0.toUInt64 >>> ((16 : Int32) &&& 0x3f).toInt64.toUInt64).toInt64).toInt32)), .unset] []))
      refine Wp.via (fun _ k => XS.aloadN X.here hx rfl (hb hby at_97) rfl rfl k) ?_
      show Wp p e below _ (T.setTop (mkF m 98 #[.val (.long q0), .second, .val (.int p1), .val (.ref b1), .val (.int (2 : Int32)), .val (.int (((q0.toUInt64 >>> ((16 : Int32) &&& 0x3f).toInt64.toUInt64).toInt64).toInt32)), .unset] [(.ref b1)]))
      refine Wp.via (fun _ k => XS.iload X.here hx rfl (hb hby at_98) rfl k) ?_
      show Wp p e below _ (T.setTop (mkF m 100 #[.val (.long q0), .second, .val (.int p1), .val (.ref b1), .val (.int (2 : Int32)), .val (.int (((q0.toUInt64 >>> ((16 : Int32) &&& 0x3f).toInt64.toUInt64).toInt64).toInt32)), .unset] [(.int (2 : Int32)), (.ref b1)]))
      obtain ⟨_, _, ⟨T21, L21, k21, n21⟩, -, X21, ⟨Lc21, hQ21, l21, y21, z21⟩, st21⟩ := Jvm.LawKit.callS X hx (y := (⟨"com/example/inverso/inverso/index/CheckValue", "stored", "([BI)I"⟩ : MethodName)) hown (mvT hZ (hw _ (List.mem_of_getElem? (i := 2) rfl))) (mvT hZ (hw _ (List.mem_of_getElem? (i := 3) rfl))) (mvT hZ (hw _ (List.mem_of_getElem? (i := 4) rfl))) (mvT hZ (hw _ (List.mem_of_getElem? (i := 5) rfl))) (by decide) (backOf (W := 0) (rm1_2 l Z aw hw [] b1 (fun k => if k = 7 then (.int (nar .byte ((q0.toInt32).toInt8.toInt32))) else (fun k => if k = 6 then (.int (nar .byte ((((q0.toUInt64 >>> ((8 : Int32) &&& 0x3f).toInt64.toUInt64).toInt64).toInt32).toInt8.toInt32))) else (fun k => if k = 5 then (.int (nar .byte ((((q0.toUInt64 >>> ((16 : Int32) &&& 0x3f).toInt64.toUInt64).toInt64).toInt32).toInt8.toInt32))) else (fun k => if k = 4 then (.int (nar .byte ((((q0.toUInt64 >>> ((24 : Int32) &&& 0x3f).toInt64.toUInt64).toInt64).toInt32).toInt8.toInt32))) else (fun k => if k = 3 then (.int (nar .byte ((((q0.toUInt64 >>> ((32 : Int32) &&& 0x3f).toInt64.toUInt64).toInt64).toInt32).toInt8.toInt32))) else (fun k => if k = 2 then (.int (nar .byte ((((q0.toUInt64 >>> ((40 : Int32) &&& 0x3f).toInt64.toUInt64).toInt64).toInt32).toInt8.toInt32))) else (fun k => if k = 1 then (.int (nar .byte ((((q0.toUInt64 >>> ((48 : Int32) &&& 0x3f).toInt64.toUInt64).toInt64).toInt32).toInt8.toInt32))) else (fun k => if k = 0 then (.int (nar .byte ((((q0.toUInt64 >>> ((56 : Int32) &&& 0x3f).toInt64.toUInt64).toInt64).toInt32).toInt8.toInt32))) else (fun _ => (.int (0 : Int32))) k) k) k) k) k) k) k) k) (nar .byte ((((q0.toUInt64 >>> ((40 : Int32) &&& 0x3f).toInt64.toUInt64).toInt64).toInt32).toInt8.toInt32)) (nar .byte ((((q0.toUInt64 >>> ((32 : Int32) &&& 0x3f).toInt64.toUInt64).toInt64).toInt32).toInt8.toInt32)) (nar .byte ((((q0.toUInt64 >>> ((24 : Int32) &&& 0x3f).toInt64.toUInt64).toInt64).toInt32).toInt8.toInt32)) (nar .byte ((((q0.toUInt64 >>> ((16 : Int32) &&& 0x3f).toInt64.toUInt64).toInt64).toInt32).toInt8.toInt32)) h17 n0 zz18 V17 rfl rfl rfl rfl) hZ (hw _ (List.mem_of_getElem? (i := 5) rfl)) (hw _ (List.mem_of_getElem? (i := 4) rfl)) (by decide) (by decide)) (g := (mkF m 100 #[.val (.long q0), .second, .val (.int p1), .val (.ref b1), .val (.int (2 : Int32)), .val (.int (((q0.toUInt64 >>> ((16 : Int32) &&& 0x3f).toInt64.toUInt64).toInt64).toInt32)), .unset] [(.int (2 : Int32)), (.ref b1)])) rfl (by rw [hml]; rfl) (argsL := [(.ref b1), (.int (2 : Int32))]) (rest := []) (lenOf own_pd0 rfl) rfl (by show 2 * 0 + _ ≤ _; exact Nat.le_of_eq rfl) (hb hby at_100) (fun _ _ => ⟨rfl, eT, (by decide : 1 + 0 ≤ _), (by decide : 8 + 0 ≤ _)⟩)
      dsimp only [Pt.U, Pt.locs, Pt.cells, Pt.slots] at X21 l21 y21 z21 st21 hQ21
      subst l21 y21 z21
      obtain ⟨rfl, N21, e21⟩ := hQ21
      have NF21 := Fr.app NF N21
      refine Wp.via st21 ?_
      show Wp p e below _ (T21.setTop (mkF m 103 #[.val (.long q0), .second, .val (.int p1), .val (.ref b1), .val (.int (2 : Int32)), .val (.int (((q0.toUInt64 >>> ((16 : Int32) &&& 0x3f).toInt64.toUInt64).toInt64).toInt32)), .unset] [(.int (own_s (nar .byte ((((q0.toUInt64 >>> ((40 : Int32) &&& 0x3f).toInt64.toUInt64).toInt64).toInt32).toInt8.toInt32)) (nar .byte ((((q0.toUInt64 >>> ((32 : Int32) &&& 0x3f).toInt64.toUInt64).toInt64).toInt32).toInt8.toInt32)) (nar .byte ((((q0.toUInt64 >>> ((24 : Int32) &&& 0x3f).toInt64.toUInt64).toInt64).toInt32).toInt8.toInt32)) (nar .byte ((((q0.toUInt64 >>> ((16 : Int32) &&& 0x3f).toInt64.toUInt64).toInt64).toInt32).toInt8.toInt32))))]))
      refine Wp.via (fun _ k => XS.istore X21.here hx rfl (hb hby at_103) rfl (l' := #[.val (.long q0), .second, .val (.int p1), .val (.ref b1), .val (.int (2 : Int32)), .val (.int (((q0.toUInt64 >>> ((16 : Int32) &&& 0x3f).toInt64.toUInt64).toInt64).toInt32)), .val (.int (own_s (nar .byte ((((q0.toUInt64 >>> ((40 : Int32) &&& 0x3f).toInt64.toUInt64).toInt64).toInt32).toInt8.toInt32)) (nar .byte ((((q0.toUInt64 >>> ((32 : Int32) &&& 0x3f).toInt64.toUInt64).toInt64).toInt32).toInt8.toInt32)) (nar .byte ((((q0.toUInt64 >>> ((24 : Int32) &&& 0x3f).toInt64.toUInt64).toInt64).toInt32).toInt8.toInt32)) (nar .byte ((((q0.toUInt64 >>> ((16 : Int32) &&& 0x3f).toInt64.toUInt64).toInt64).toInt32).toInt8.toInt32))))]) rfl k) ?_
      show Wp p e below _ (T21.setTop (mkF m 105 #[.val (.long q0), .second, .val (.int p1), .val (.ref b1), .val (.int (2 : Int32)), .val (.int (((q0.toUInt64 >>> ((16 : Int32) &&& 0x3f).toInt64.toUInt64).toInt64).toInt32)), .val (.int (own_s (nar .byte ((((q0.toUInt64 >>> ((40 : Int32) &&& 0x3f).toInt64.toUInt64).toInt64).toInt32).toInt8.toInt32)) (nar .byte ((((q0.toUInt64 >>> ((32 : Int32) &&& 0x3f).toInt64.toUInt64).toInt64).toInt32).toInt8.toInt32)) (nar .byte ((((q0.toUInt64 >>> ((24 : Int32) &&& 0x3f).toInt64.toUInt64).toInt64).toInt32).toInt8.toInt32)) (nar .byte ((((q0.toUInt64 >>> ((16 : Int32) &&& 0x3f).toInt64.toUInt64).toInt64).toInt32).toInt8.toInt32))))] []))
      refine Wp.via (fun _ k => XS.iload X21.here hx rfl (hb hby at_105) rfl k) ?_
      show Wp p e below _ (T21.setTop (mkF m 107 #[.val (.long q0), .second, .val (.int p1), .val (.ref b1), .val (.int (2 : Int32)), .val (.int (((q0.toUInt64 >>> ((16 : Int32) &&& 0x3f).toInt64.toUInt64).toInt64).toInt32)), .val (.int (own_s (nar .byte ((((q0.toUInt64 >>> ((40 : Int32) &&& 0x3f).toInt64.toUInt64).toInt64).toInt32).toInt8.toInt32)) (nar .byte ((((q0.toUInt64 >>> ((32 : Int32) &&& 0x3f).toInt64.toUInt64).toInt64).toInt32).toInt8.toInt32)) (nar .byte ((((q0.toUInt64 >>> ((24 : Int32) &&& 0x3f).toInt64.toUInt64).toInt64).toInt32).toInt8.toInt32)) (nar .byte ((((q0.toUInt64 >>> ((16 : Int32) &&& 0x3f).toInt64.toUInt64).toInt64).toInt32).toInt8.toInt32))))] [(.int (own_s (nar .byte ((((q0.toUInt64 >>> ((40 : Int32) &&& 0x3f).toInt64.toUInt64).toInt64).toInt32).toInt8.toInt32)) (nar .byte ((((q0.toUInt64 >>> ((32 : Int32) &&& 0x3f).toInt64.toUInt64).toInt64).toInt32).toInt8.toInt32)) (nar .byte ((((q0.toUInt64 >>> ((24 : Int32) &&& 0x3f).toInt64.toUInt64).toInt64).toInt32).toInt8.toInt32)) (nar .byte ((((q0.toUInt64 >>> ((16 : Int32) &&& 0x3f).toInt64.toUInt64).toInt64).toInt32).toInt8.toInt32))))]))
      refine Wp.via (fun _ k => XS.iload X21.here hx rfl (hb hby at_107) rfl k) ?_
      show Wp p e below _ (T21.setTop (mkF m 109 #[.val (.long q0), .second, .val (.int p1), .val (.ref b1), .val (.int (2 : Int32)), .val (.int (((q0.toUInt64 >>> ((16 : Int32) &&& 0x3f).toInt64.toUInt64).toInt64).toInt32)), .val (.int (own_s (nar .byte ((((q0.toUInt64 >>> ((40 : Int32) &&& 0x3f).toInt64.toUInt64).toInt64).toInt32).toInt8.toInt32)) (nar .byte ((((q0.toUInt64 >>> ((32 : Int32) &&& 0x3f).toInt64.toUInt64).toInt64).toInt32).toInt8.toInt32)) (nar .byte ((((q0.toUInt64 >>> ((24 : Int32) &&& 0x3f).toInt64.toUInt64).toInt64).toInt32).toInt8.toInt32)) (nar .byte ((((q0.toUInt64 >>> ((16 : Int32) &&& 0x3f).toInt64.toUInt64).toInt64).toInt32).toInt8.toInt32))))] [(.int (((q0.toUInt64 >>> ((16 : Int32) &&& 0x3f).toInt64.toUInt64).toInt64).toInt32)), (.int (own_s (nar .byte ((((q0.toUInt64 >>> ((40 : Int32) &&& 0x3f).toInt64.toUInt64).toInt64).toInt32).toInt8.toInt32)) (nar .byte ((((q0.toUInt64 >>> ((32 : Int32) &&& 0x3f).toInt64.toUInt64).toInt64).toInt32).toInt8.toInt32)) (nar .byte ((((q0.toUInt64 >>> ((24 : Int32) &&& 0x3f).toInt64.toUInt64).toInt64).toInt32).toInt8.toInt32)) (nar .byte ((((q0.toUInt64 >>> ((16 : Int32) &&& 0x3f).toInt64.toUInt64).toInt64).toInt32).toInt8.toInt32))))]))
      refine Wp.via (fun _ k => XS.icmpNo X21.here hx rfl (hb hby at_109) rfl (teq (own_eq2 q0)).2 k) ?_
      show Wp p e below _ (T21.setTop (mkF m 112 #[.val (.long q0), .second, .val (.int p1), .val (.ref b1), .val (.int (2 : Int32)), .val (.int (((q0.toUInt64 >>> ((16 : Int32) &&& 0x3f).toInt64.toUInt64).toInt64).toInt32)), .val (.int (own_s (nar .byte ((((q0.toUInt64 >>> ((40 : Int32) &&& 0x3f).toInt64.toUInt64).toInt64).toInt32).toInt8.toInt32)) (nar .byte ((((q0.toUInt64 >>> ((32 : Int32) &&& 0x3f).toInt64.toUInt64).toInt64).toInt32).toInt8.toInt32)) (nar .byte ((((q0.toUInt64 >>> ((24 : Int32) &&& 0x3f).toInt64.toUInt64).toInt64).toInt32).toInt8.toInt32)) (nar .byte ((((q0.toUInt64 >>> ((16 : Int32) &&& 0x3f).toInt64.toUInt64).toInt64).toInt32).toInt8.toInt32))))] []))
      refine Wp.via (fun _ k => XS.iconst X21.here hx rfl (hb hby at_112) k) ?_
      show Wp p e below _ (T21.setTop (mkF m 113 #[.val (.long q0), .second, .val (.int p1), .val (.ref b1), .val (.int (2 : Int32)), .val (.int (((q0.toUInt64 >>> ((16 : Int32) &&& 0x3f).toInt64.toUInt64).toInt64).toInt32)), .val (.int (own_s (nar .byte ((((q0.toUInt64 >>> ((40 : Int32) &&& 0x3f).toInt64.toUInt64).toInt64).toInt32).toInt8.toInt32)) (nar .byte ((((q0.toUInt64 >>> ((32 : Int32) &&& 0x3f).toInt64.toUInt64).toInt64).toInt32).toInt8.toInt32)) (nar .byte ((((q0.toUInt64 >>> ((24 : Int32) &&& 0x3f).toInt64.toUInt64).toInt64).toInt32).toInt8.toInt32)) (nar .byte ((((q0.toUInt64 >>> ((16 : Int32) &&& 0x3f).toInt64.toUInt64).toInt64).toInt32).toInt8.toInt32))))] [(.int (1 : Int32))]))
      refine Wp.via (fun _ k => XS.goto X21.here hx rfl (pc0 := 113) (pc' := 117) rfl (hb hby at_113) (by decide) (by decide) k) ?_
      show Wp p e below _ (T21.setTop (mkF m 117 #[.val (.long q0), .second, .val (.int p1), .val (.ref b1), .val (.int (2 : Int32)), .val (.int (((q0.toUInt64 >>> ((16 : Int32) &&& 0x3f).toInt64.toUInt64).toInt64).toInt32)), .val (.int (own_s (nar .byte ((((q0.toUInt64 >>> ((40 : Int32) &&& 0x3f).toInt64.toUInt64).toInt64).toInt32).toInt8.toInt32)) (nar .byte ((((q0.toUInt64 >>> ((32 : Int32) &&& 0x3f).toInt64.toUInt64).toInt64).toInt32).toInt8.toInt32)) (nar .byte ((((q0.toUInt64 >>> ((24 : Int32) &&& 0x3f).toInt64.toUInt64).toInt64).toInt32).toInt8.toInt32)) (nar .byte ((((q0.toUInt64 >>> ((16 : Int32) &&& 0x3f).toInt64.toUInt64).toInt64).toInt32).toInt8.toInt32))))] [(.int (1 : Int32))]))
      exact Wp.retI X21 hlk hx hret (by simp) (by first | rfl | decide) (hb hby at_117) ⟨rfl, NF21⟩ (by decide) (by decide)
    ·
      show Wp p e below _ (T.setTop (mkF m 84 #[.val (.long q0), .second, .val (.int p1), .val (.ref b1), .val (.int (3 : Int32)), .unset, .unset] []))
      refine Wp.via (fun _ k => XS.lloadN X.here hx rfl (hb hby at_84) rfl k) ?_
      show Wp p e below _ (T.setTop (mkF m 85 #[.val (.long q0), .second, .val (.int p1), .val (.ref b1), .val (.int (3 : Int32)), .unset, .unset] [(.long q0)]))
      refine Wp.via (fun _ k => XS.bipush X.here hx rfl (hb hby at_85) k) ?_
      show Wp p e below _ (T.setTop (mkF m 87 #[.val (.long q0), .second, .val (.int p1), .val (.ref b1), .val (.int (3 : Int32)), .unset, .unset] [(.int (32 : Int32)), (.long q0)]))
      refine Wp.via (fun _ k => XS.bipush X.here hx rfl (hb hby at_87) k) ?_
      show Wp p e below _ (T.setTop (mkF m 89 #[.val (.long q0), .second, .val (.int p1), .val (.ref b1), .val (.int (3 : Int32)), .unset, .unset] [(.int (8 : Int32)), (.int (32 : Int32)), (.long q0)]))
      refine Wp.via (fun _ k => XS.iload X.here hx rfl (hb hby at_89) rfl k) ?_
      show Wp p e below _ (T.setTop (mkF m 91 #[.val (.long q0), .second, .val (.int p1), .val (.ref b1), .val (.int (3 : Int32)), .unset, .unset] [(.int (3 : Int32)), (.int (8 : Int32)), (.int (32 : Int32)), (.long q0)]))
      refine Wp.via (fun _ k => XS.imul X.here hx rfl (hb hby at_91) rfl k) ?_
      show Wp p e below _ (T.setTop (mkF m 92 #[.val (.long q0), .second, .val (.int p1), .val (.ref b1), .val (.int (3 : Int32)), .unset, .unset] [(.int (24 : Int32)), (.int (32 : Int32)), (.long q0)]))
      refine Wp.via (fun _ k => XS.isub X.here hx rfl (hb hby at_92) rfl k) ?_
      show Wp p e below _ (T.setTop (mkF m 93 #[.val (.long q0), .second, .val (.int p1), .val (.ref b1), .val (.int (3 : Int32)), .unset, .unset] [(.int (8 : Int32)), (.long q0)]))
      refine Wp.via (fun _ k => XS.lushr X.here hx rfl (hb hby at_93) rfl k) ?_
      show Wp p e below _ (T.setTop (mkF m 94 #[.val (.long q0), .second, .val (.int p1), .val (.ref b1), .val (.int (3 : Int32)), .unset, .unset] [(.long ((q0.toUInt64 >>> ((8 : Int32) &&& 0x3f).toInt64.toUInt64).toInt64))]))
      refine Wp.via (fun _ k => XS.l2i X.here hx rfl (hb hby at_94) rfl k) ?_
      show Wp p e below _ (T.setTop (mkF m 95 #[.val (.long q0), .second, .val (.int p1), .val (.ref b1), .val (.int (3 : Int32)), .unset, .unset] [(.int (((q0.toUInt64 >>> ((8 : Int32) &&& 0x3f).toInt64.toUInt64).toInt64).toInt32))]))
      refine Wp.via (fun _ k => XS.istore X.here hx rfl (hb hby at_95) rfl (l' := #[.val (.long q0), .second, .val (.int p1), .val (.ref b1), .val (.int (3 : Int32)), .val (.int (((q0.toUInt64 >>> ((8 : Int32) &&& 0x3f).toInt64.toUInt64).toInt64).toInt32)), .unset]) rfl k) ?_
      show Wp p e below _ (T.setTop (mkF m 97 #[.val (.long q0), .second, .val (.int p1), .val (.ref b1), .val (.int (3 : Int32)), .val (.int (((q0.toUInt64 >>> ((8 : Int32) &&& 0x3f).toInt64.toUInt64).toInt64).toInt32)), .unset] []))
      refine Wp.via (fun _ k => XS.aloadN X.here hx rfl (hb hby at_97) rfl rfl k) ?_
      show Wp p e below _ (T.setTop (mkF m 98 #[.val (.long q0), .second, .val (.int p1), .val (.ref b1), .val (.int (3 : Int32)), .val (.int (((q0.toUInt64 >>> ((8 : Int32) &&& 0x3f).toInt64.toUInt64).toInt64).toInt32)), .unset] [(.ref b1)]))
      refine Wp.via (fun _ k => XS.iload X.here hx rfl (hb hby at_98) rfl k) ?_
      show Wp p e below _ (T.setTop (mkF m 100 #[.val (.long q0), .second, .val (.int p1), .val (.ref b1), .val (.int (3 : Int32)), .val (.int (((q0.toUInt64 >>> ((8 : Int32) &&& 0x3f).toInt64.toUInt64).toInt64).toInt32)), .unset] [(.int (3 : Int32)), (.ref b1)]))
      obtain ⟨_, _, ⟨T22, L22, k22, n22⟩, -, X22, ⟨Lc22, hQ22, l22, y22, z22⟩, st22⟩ := Jvm.LawKit.callS X hx (y := (⟨"com/example/inverso/inverso/index/CheckValue", "stored", "([BI)I"⟩ : MethodName)) hown (mvT hZ (hw _ (List.mem_of_getElem? (i := 2) rfl))) (mvT hZ (hw _ (List.mem_of_getElem? (i := 3) rfl))) (mvT hZ (hw _ (List.mem_of_getElem? (i := 4) rfl))) (mvT hZ (hw _ (List.mem_of_getElem? (i := 5) rfl))) (by decide) (backOf (W := 0) (rm1_3 l Z aw hw [] b1 (fun k => if k = 7 then (.int (nar .byte ((q0.toInt32).toInt8.toInt32))) else (fun k => if k = 6 then (.int (nar .byte ((((q0.toUInt64 >>> ((8 : Int32) &&& 0x3f).toInt64.toUInt64).toInt64).toInt32).toInt8.toInt32))) else (fun k => if k = 5 then (.int (nar .byte ((((q0.toUInt64 >>> ((16 : Int32) &&& 0x3f).toInt64.toUInt64).toInt64).toInt32).toInt8.toInt32))) else (fun k => if k = 4 then (.int (nar .byte ((((q0.toUInt64 >>> ((24 : Int32) &&& 0x3f).toInt64.toUInt64).toInt64).toInt32).toInt8.toInt32))) else (fun k => if k = 3 then (.int (nar .byte ((((q0.toUInt64 >>> ((32 : Int32) &&& 0x3f).toInt64.toUInt64).toInt64).toInt32).toInt8.toInt32))) else (fun k => if k = 2 then (.int (nar .byte ((((q0.toUInt64 >>> ((40 : Int32) &&& 0x3f).toInt64.toUInt64).toInt64).toInt32).toInt8.toInt32))) else (fun k => if k = 1 then (.int (nar .byte ((((q0.toUInt64 >>> ((48 : Int32) &&& 0x3f).toInt64.toUInt64).toInt64).toInt32).toInt8.toInt32))) else (fun k => if k = 0 then (.int (nar .byte ((((q0.toUInt64 >>> ((56 : Int32) &&& 0x3f).toInt64.toUInt64).toInt64).toInt32).toInt8.toInt32))) else (fun _ => (.int (0 : Int32))) k) k) k) k) k) k) k) k) (nar .byte ((((q0.toUInt64 >>> ((32 : Int32) &&& 0x3f).toInt64.toUInt64).toInt64).toInt32).toInt8.toInt32)) (nar .byte ((((q0.toUInt64 >>> ((24 : Int32) &&& 0x3f).toInt64.toUInt64).toInt64).toInt32).toInt8.toInt32)) (nar .byte ((((q0.toUInt64 >>> ((16 : Int32) &&& 0x3f).toInt64.toUInt64).toInt64).toInt32).toInt8.toInt32)) (nar .byte ((((q0.toUInt64 >>> ((8 : Int32) &&& 0x3f).toInt64.toUInt64).toInt64).toInt32).toInt8.toInt32)) h17 n0 zz18 V17 rfl rfl rfl rfl) hZ (hw _ (List.mem_of_getElem? (i := 5) rfl)) (hw _ (List.mem_of_getElem? (i := 4) rfl)) (by decide) (by decide)) (g := (mkF m 100 #[.val (.long q0), .second, .val (.int p1), .val (.ref b1), .val (.int (3 : Int32)), .val (.int (((q0.toUInt64 >>> ((8 : Int32) &&& 0x3f).toInt64.toUInt64).toInt64).toInt32)), .unset] [(.int (3 : Int32)), (.ref b1)])) rfl (by rw [hml]; rfl) (argsL := [(.ref b1), (.int (3 : Int32))]) (rest := []) (lenOf own_pd0 rfl) rfl (by show 2 * 0 + _ ≤ _; exact Nat.le_of_eq rfl) (hb hby at_100) (fun _ _ => ⟨rfl, eT, (by decide : 1 + 0 ≤ _), (by decide : 8 + 0 ≤ _)⟩)
      dsimp only [Pt.U, Pt.locs, Pt.cells, Pt.slots] at X22 l22 y22 z22 st22 hQ22
      subst l22 y22 z22
      obtain ⟨rfl, N22, e22⟩ := hQ22
      have NF22 := Fr.app NF N22
      refine Wp.via st22 ?_
      show Wp p e below _ (T22.setTop (mkF m 103 #[.val (.long q0), .second, .val (.int p1), .val (.ref b1), .val (.int (3 : Int32)), .val (.int (((q0.toUInt64 >>> ((8 : Int32) &&& 0x3f).toInt64.toUInt64).toInt64).toInt32)), .unset] [(.int (own_s (nar .byte ((((q0.toUInt64 >>> ((32 : Int32) &&& 0x3f).toInt64.toUInt64).toInt64).toInt32).toInt8.toInt32)) (nar .byte ((((q0.toUInt64 >>> ((24 : Int32) &&& 0x3f).toInt64.toUInt64).toInt64).toInt32).toInt8.toInt32)) (nar .byte ((((q0.toUInt64 >>> ((16 : Int32) &&& 0x3f).toInt64.toUInt64).toInt64).toInt32).toInt8.toInt32)) (nar .byte ((((q0.toUInt64 >>> ((8 : Int32) &&& 0x3f).toInt64.toUInt64).toInt64).toInt32).toInt8.toInt32))))]))
      refine Wp.via (fun _ k => XS.istore X22.here hx rfl (hb hby at_103) rfl (l' := #[.val (.long q0), .second, .val (.int p1), .val (.ref b1), .val (.int (3 : Int32)), .val (.int (((q0.toUInt64 >>> ((8 : Int32) &&& 0x3f).toInt64.toUInt64).toInt64).toInt32)), .val (.int (own_s (nar .byte ((((q0.toUInt64 >>> ((32 : Int32) &&& 0x3f).toInt64.toUInt64).toInt64).toInt32).toInt8.toInt32)) (nar .byte ((((q0.toUInt64 >>> ((24 : Int32) &&& 0x3f).toInt64.toUInt64).toInt64).toInt32).toInt8.toInt32)) (nar .byte ((((q0.toUInt64 >>> ((16 : Int32) &&& 0x3f).toInt64.toUInt64).toInt64).toInt32).toInt8.toInt32)) (nar .byte ((((q0.toUInt64 >>> ((8 : Int32) &&& 0x3f).toInt64.toUInt64).toInt64).toInt32).toInt8.toInt32))))]) rfl k) ?_
      show Wp p e below _ (T22.setTop (mkF m 105 #[.val (.long q0), .second, .val (.int p1), .val (.ref b1), .val (.int (3 : Int32)), .val (.int (((q0.toUInt64 >>> ((8 : Int32) &&& 0x3f).toInt64.toUInt64).toInt64).toInt32)), .val (.int (own_s (nar .byte ((((q0.toUInt64 >>> ((32 : Int32) &&& 0x3f).toInt64.toUInt64).toInt64).toInt32).toInt8.toInt32)) (nar .byte ((((q0.toUInt64 >>> ((24 : Int32) &&& 0x3f).toInt64.toUInt64).toInt64).toInt32).toInt8.toInt32)) (nar .byte ((((q0.toUInt64 >>> ((16 : Int32) &&& 0x3f).toInt64.toUInt64).toInt64).toInt32).toInt8.toInt32)) (nar .byte ((((q0.toUInt64 >>> ((8 : Int32) &&& 0x3f).toInt64.toUInt64).toInt64).toInt32).toInt8.toInt32))))] []))
      refine Wp.via (fun _ k => XS.iload X22.here hx rfl (hb hby at_105) rfl k) ?_
      show Wp p e below _ (T22.setTop (mkF m 107 #[.val (.long q0), .second, .val (.int p1), .val (.ref b1), .val (.int (3 : Int32)), .val (.int (((q0.toUInt64 >>> ((8 : Int32) &&& 0x3f).toInt64.toUInt64).toInt64).toInt32)), .val (.int (own_s (nar .byte ((((q0.toUInt64 >>> ((32 : Int32) &&& 0x3f).toInt64.toUInt64).toInt64).toInt32).toInt8.toInt32)) (nar .byte ((((q0.toUInt64 >>> ((24 : Int32) &&& 0x3f).toInt64.toUInt64).toInt64).toInt32).toInt8.toInt32)) (nar .byte ((((q0.toUInt64 >>> ((16 : Int32) &&& 0x3f).toInt64.toUInt64).toInt64).toInt32).toInt8.toInt32)) (nar .byte ((((q0.toUInt64 >>> ((8 : Int32) &&& 0x3f).toInt64.toUInt64).toInt64).toInt32).toInt8.toInt32))))] [(.int (own_s (nar .byte ((((q0.toUInt64 >>> ((32 : Int32) &&& 0x3f).toInt64.toUInt64).toInt64).toInt32).toInt8.toInt32)) (nar .byte ((((q0.toUInt64 >>> ((24 : Int32) &&& 0x3f).toInt64.toUInt64).toInt64).toInt32).toInt8.toInt32)) (nar .byte ((((q0.toUInt64 >>> ((16 : Int32) &&& 0x3f).toInt64.toUInt64).toInt64).toInt32).toInt8.toInt32)) (nar .byte ((((q0.toUInt64 >>> ((8 : Int32) &&& 0x3f).toInt64.toUInt64).toInt64).toInt32).toInt8.toInt32))))]))
      refine Wp.via (fun _ k => XS.iload X22.here hx rfl (hb hby at_107) rfl k) ?_
      show Wp p e below _ (T22.setTop (mkF m 109 #[.val (.long q0), .second, .val (.int p1), .val (.ref b1), .val (.int (3 : Int32)), .val (.int (((q0.toUInt64 >>> ((8 : Int32) &&& 0x3f).toInt64.toUInt64).toInt64).toInt32)), .val (.int (own_s (nar .byte ((((q0.toUInt64 >>> ((32 : Int32) &&& 0x3f).toInt64.toUInt64).toInt64).toInt32).toInt8.toInt32)) (nar .byte ((((q0.toUInt64 >>> ((24 : Int32) &&& 0x3f).toInt64.toUInt64).toInt64).toInt32).toInt8.toInt32)) (nar .byte ((((q0.toUInt64 >>> ((16 : Int32) &&& 0x3f).toInt64.toUInt64).toInt64).toInt32).toInt8.toInt32)) (nar .byte ((((q0.toUInt64 >>> ((8 : Int32) &&& 0x3f).toInt64.toUInt64).toInt64).toInt32).toInt8.toInt32))))] [(.int (((q0.toUInt64 >>> ((8 : Int32) &&& 0x3f).toInt64.toUInt64).toInt64).toInt32)), (.int (own_s (nar .byte ((((q0.toUInt64 >>> ((32 : Int32) &&& 0x3f).toInt64.toUInt64).toInt64).toInt32).toInt8.toInt32)) (nar .byte ((((q0.toUInt64 >>> ((24 : Int32) &&& 0x3f).toInt64.toUInt64).toInt64).toInt32).toInt8.toInt32)) (nar .byte ((((q0.toUInt64 >>> ((16 : Int32) &&& 0x3f).toInt64.toUInt64).toInt64).toInt32).toInt8.toInt32)) (nar .byte ((((q0.toUInt64 >>> ((8 : Int32) &&& 0x3f).toInt64.toUInt64).toInt64).toInt32).toInt8.toInt32))))]))
      refine Wp.via (fun _ k => XS.icmpNo X22.here hx rfl (hb hby at_109) rfl (teq (own_eq3 q0)).2 k) ?_
      show Wp p e below _ (T22.setTop (mkF m 112 #[.val (.long q0), .second, .val (.int p1), .val (.ref b1), .val (.int (3 : Int32)), .val (.int (((q0.toUInt64 >>> ((8 : Int32) &&& 0x3f).toInt64.toUInt64).toInt64).toInt32)), .val (.int (own_s (nar .byte ((((q0.toUInt64 >>> ((32 : Int32) &&& 0x3f).toInt64.toUInt64).toInt64).toInt32).toInt8.toInt32)) (nar .byte ((((q0.toUInt64 >>> ((24 : Int32) &&& 0x3f).toInt64.toUInt64).toInt64).toInt32).toInt8.toInt32)) (nar .byte ((((q0.toUInt64 >>> ((16 : Int32) &&& 0x3f).toInt64.toUInt64).toInt64).toInt32).toInt8.toInt32)) (nar .byte ((((q0.toUInt64 >>> ((8 : Int32) &&& 0x3f).toInt64.toUInt64).toInt64).toInt32).toInt8.toInt32))))] []))
      refine Wp.via (fun _ k => XS.iconst X22.here hx rfl (hb hby at_112) k) ?_
      show Wp p e below _ (T22.setTop (mkF m 113 #[.val (.long q0), .second, .val (.int p1), .val (.ref b1), .val (.int (3 : Int32)), .val (.int (((q0.toUInt64 >>> ((8 : Int32) &&& 0x3f).toInt64.toUInt64).toInt64).toInt32)), .val (.int (own_s (nar .byte ((((q0.toUInt64 >>> ((32 : Int32) &&& 0x3f).toInt64.toUInt64).toInt64).toInt32).toInt8.toInt32)) (nar .byte ((((q0.toUInt64 >>> ((24 : Int32) &&& 0x3f).toInt64.toUInt64).toInt64).toInt32).toInt8.toInt32)) (nar .byte ((((q0.toUInt64 >>> ((16 : Int32) &&& 0x3f).toInt64.toUInt64).toInt64).toInt32).toInt8.toInt32)) (nar .byte ((((q0.toUInt64 >>> ((8 : Int32) &&& 0x3f).toInt64.toUInt64).toInt64).toInt32).toInt8.toInt32))))] [(.int (1 : Int32))]))
      refine Wp.via (fun _ k => XS.goto X22.here hx rfl (pc0 := 113) (pc' := 117) rfl (hb hby at_113) (by decide) (by decide) k) ?_
      show Wp p e below _ (T22.setTop (mkF m 117 #[.val (.long q0), .second, .val (.int p1), .val (.ref b1), .val (.int (3 : Int32)), .val (.int (((q0.toUInt64 >>> ((8 : Int32) &&& 0x3f).toInt64.toUInt64).toInt64).toInt32)), .val (.int (own_s (nar .byte ((((q0.toUInt64 >>> ((32 : Int32) &&& 0x3f).toInt64.toUInt64).toInt64).toInt32).toInt8.toInt32)) (nar .byte ((((q0.toUInt64 >>> ((24 : Int32) &&& 0x3f).toInt64.toUInt64).toInt64).toInt32).toInt8.toInt32)) (nar .byte ((((q0.toUInt64 >>> ((16 : Int32) &&& 0x3f).toInt64.toUInt64).toInt64).toInt32).toInt8.toInt32)) (nar .byte ((((q0.toUInt64 >>> ((8 : Int32) &&& 0x3f).toInt64.toUInt64).toInt64).toInt32).toInt8.toInt32))))] [(.int (1 : Int32))]))
      exact Wp.retI X22 hlk hx hret (by simp) (by first | rfl | decide) (hb hby at_117) ⟨rfl, NF22⟩ (by decide) (by decide)
    ·
      show Wp p e below _ (T.setTop (mkF m 84 #[.val (.long q0), .second, .val (.int p1), .val (.ref b1), .val (.int (4 : Int32)), .unset, .unset] []))
      refine Wp.via (fun _ k => XS.lloadN X.here hx rfl (hb hby at_84) rfl k) ?_
      show Wp p e below _ (T.setTop (mkF m 85 #[.val (.long q0), .second, .val (.int p1), .val (.ref b1), .val (.int (4 : Int32)), .unset, .unset] [(.long q0)]))
      refine Wp.via (fun _ k => XS.bipush X.here hx rfl (hb hby at_85) k) ?_
      show Wp p e below _ (T.setTop (mkF m 87 #[.val (.long q0), .second, .val (.int p1), .val (.ref b1), .val (.int (4 : Int32)), .unset, .unset] [(.int (32 : Int32)), (.long q0)]))
      refine Wp.via (fun _ k => XS.bipush X.here hx rfl (hb hby at_87) k) ?_
      show Wp p e below _ (T.setTop (mkF m 89 #[.val (.long q0), .second, .val (.int p1), .val (.ref b1), .val (.int (4 : Int32)), .unset, .unset] [(.int (8 : Int32)), (.int (32 : Int32)), (.long q0)]))
      refine Wp.via (fun _ k => XS.iload X.here hx rfl (hb hby at_89) rfl k) ?_
      show Wp p e below _ (T.setTop (mkF m 91 #[.val (.long q0), .second, .val (.int p1), .val (.ref b1), .val (.int (4 : Int32)), .unset, .unset] [(.int (4 : Int32)), (.int (8 : Int32)), (.int (32 : Int32)), (.long q0)]))
      refine Wp.via (fun _ k => XS.imul X.here hx rfl (hb hby at_91) rfl k) ?_
      show Wp p e below _ (T.setTop (mkF m 92 #[.val (.long q0), .second, .val (.int p1), .val (.ref b1), .val (.int (4 : Int32)), .unset, .unset] [(.int (32 : Int32)), (.int (32 : Int32)), (.long q0)]))
      refine Wp.via (fun _ k => XS.isub X.here hx rfl (hb hby at_92) rfl k) ?_
      show Wp p e below _ (T.setTop (mkF m 93 #[.val (.long q0), .second, .val (.int p1), .val (.ref b1), .val (.int (4 : Int32)), .unset, .unset] [(.int (0 : Int32)), (.long q0)]))
      refine Wp.via (fun _ k => XS.lushr X.here hx rfl (hb hby at_93) rfl k) ?_
      show Wp p e below _ (T.setTop (mkF m 94 #[.val (.long q0), .second, .val (.int p1), .val (.ref b1), .val (.int (4 : Int32)), .unset, .unset] [(.long ((q0.toUInt64 >>> ((0 : Int32) &&& 0x3f).toInt64.toUInt64).toInt64))]))
      refine Wp.via (fun _ k => XS.l2i X.here hx rfl (hb hby at_94) rfl k) ?_
      show Wp p e below _ (T.setTop (mkF m 95 #[.val (.long q0), .second, .val (.int p1), .val (.ref b1), .val (.int (4 : Int32)), .unset, .unset] [(.int (((q0.toUInt64 >>> ((0 : Int32) &&& 0x3f).toInt64.toUInt64).toInt64).toInt32))]))
      refine Wp.via (fun _ k => XS.istore X.here hx rfl (hb hby at_95) rfl (l' := #[.val (.long q0), .second, .val (.int p1), .val (.ref b1), .val (.int (4 : Int32)), .val (.int (((q0.toUInt64 >>> ((0 : Int32) &&& 0x3f).toInt64.toUInt64).toInt64).toInt32)), .unset]) rfl k) ?_
      show Wp p e below _ (T.setTop (mkF m 97 #[.val (.long q0), .second, .val (.int p1), .val (.ref b1), .val (.int (4 : Int32)), .val (.int (((q0.toUInt64 >>> ((0 : Int32) &&& 0x3f).toInt64.toUInt64).toInt64).toInt32)), .unset] []))
      refine Wp.via (fun _ k => XS.aloadN X.here hx rfl (hb hby at_97) rfl rfl k) ?_
      show Wp p e below _ (T.setTop (mkF m 98 #[.val (.long q0), .second, .val (.int p1), .val (.ref b1), .val (.int (4 : Int32)), .val (.int (((q0.toUInt64 >>> ((0 : Int32) &&& 0x3f).toInt64.toUInt64).toInt64).toInt32)), .unset] [(.ref b1)]))
      refine Wp.via (fun _ k => XS.iload X.here hx rfl (hb hby at_98) rfl k) ?_
      show Wp p e below _ (T.setTop (mkF m 100 #[.val (.long q0), .second, .val (.int p1), .val (.ref b1), .val (.int (4 : Int32)), .val (.int (((q0.toUInt64 >>> ((0 : Int32) &&& 0x3f).toInt64.toUInt64).toInt64).toInt32)), .unset] [(.int (4 : Int32)), (.ref b1)]))
      obtain ⟨_, _, ⟨T23, L23, k23, n23⟩, -, X23, ⟨Lc23, hQ23, l23, y23, z23⟩, st23⟩ := Jvm.LawKit.callS X hx (y := (⟨"com/example/inverso/inverso/index/CheckValue", "stored", "([BI)I"⟩ : MethodName)) hown (mvT hZ (hw _ (List.mem_of_getElem? (i := 2) rfl))) (mvT hZ (hw _ (List.mem_of_getElem? (i := 3) rfl))) (mvT hZ (hw _ (List.mem_of_getElem? (i := 4) rfl))) (mvT hZ (hw _ (List.mem_of_getElem? (i := 5) rfl))) (by decide) (backOf (W := 0) (rm1_4 l Z aw hw [] b1 (fun k => if k = 7 then (.int (nar .byte ((q0.toInt32).toInt8.toInt32))) else (fun k => if k = 6 then (.int (nar .byte ((((q0.toUInt64 >>> ((8 : Int32) &&& 0x3f).toInt64.toUInt64).toInt64).toInt32).toInt8.toInt32))) else (fun k => if k = 5 then (.int (nar .byte ((((q0.toUInt64 >>> ((16 : Int32) &&& 0x3f).toInt64.toUInt64).toInt64).toInt32).toInt8.toInt32))) else (fun k => if k = 4 then (.int (nar .byte ((((q0.toUInt64 >>> ((24 : Int32) &&& 0x3f).toInt64.toUInt64).toInt64).toInt32).toInt8.toInt32))) else (fun k => if k = 3 then (.int (nar .byte ((((q0.toUInt64 >>> ((32 : Int32) &&& 0x3f).toInt64.toUInt64).toInt64).toInt32).toInt8.toInt32))) else (fun k => if k = 2 then (.int (nar .byte ((((q0.toUInt64 >>> ((40 : Int32) &&& 0x3f).toInt64.toUInt64).toInt64).toInt32).toInt8.toInt32))) else (fun k => if k = 1 then (.int (nar .byte ((((q0.toUInt64 >>> ((48 : Int32) &&& 0x3f).toInt64.toUInt64).toInt64).toInt32).toInt8.toInt32))) else (fun k => if k = 0 then (.int (nar .byte ((((q0.toUInt64 >>> ((56 : Int32) &&& 0x3f).toInt64.toUInt64).toInt64).toInt32).toInt8.toInt32))) else (fun _ => (.int (0 : Int32))) k) k) k) k) k) k) k) k) (nar .byte ((((q0.toUInt64 >>> ((24 : Int32) &&& 0x3f).toInt64.toUInt64).toInt64).toInt32).toInt8.toInt32)) (nar .byte ((((q0.toUInt64 >>> ((16 : Int32) &&& 0x3f).toInt64.toUInt64).toInt64).toInt32).toInt8.toInt32)) (nar .byte ((((q0.toUInt64 >>> ((8 : Int32) &&& 0x3f).toInt64.toUInt64).toInt64).toInt32).toInt8.toInt32)) (nar .byte ((q0.toInt32).toInt8.toInt32)) h17 n0 zz18 V17 rfl rfl rfl rfl) hZ (hw _ (List.mem_of_getElem? (i := 5) rfl)) (hw _ (List.mem_of_getElem? (i := 4) rfl)) (by decide) (by decide)) (g := (mkF m 100 #[.val (.long q0), .second, .val (.int p1), .val (.ref b1), .val (.int (4 : Int32)), .val (.int (((q0.toUInt64 >>> ((0 : Int32) &&& 0x3f).toInt64.toUInt64).toInt64).toInt32)), .unset] [(.int (4 : Int32)), (.ref b1)])) rfl (by rw [hml]; rfl) (argsL := [(.ref b1), (.int (4 : Int32))]) (rest := []) (lenOf own_pd0 rfl) rfl (by show 2 * 0 + _ ≤ _; exact Nat.le_of_eq rfl) (hb hby at_100) (fun _ _ => ⟨rfl, eT, (by decide : 1 + 0 ≤ _), (by decide : 8 + 0 ≤ _)⟩)
      dsimp only [Pt.U, Pt.locs, Pt.cells, Pt.slots] at X23 l23 y23 z23 st23 hQ23
      subst l23 y23 z23
      obtain ⟨rfl, N23, e23⟩ := hQ23
      have NF23 := Fr.app NF N23
      refine Wp.via st23 ?_
      show Wp p e below _ (T23.setTop (mkF m 103 #[.val (.long q0), .second, .val (.int p1), .val (.ref b1), .val (.int (4 : Int32)), .val (.int (((q0.toUInt64 >>> ((0 : Int32) &&& 0x3f).toInt64.toUInt64).toInt64).toInt32)), .unset] [(.int (own_s (nar .byte ((((q0.toUInt64 >>> ((24 : Int32) &&& 0x3f).toInt64.toUInt64).toInt64).toInt32).toInt8.toInt32)) (nar .byte ((((q0.toUInt64 >>> ((16 : Int32) &&& 0x3f).toInt64.toUInt64).toInt64).toInt32).toInt8.toInt32)) (nar .byte ((((q0.toUInt64 >>> ((8 : Int32) &&& 0x3f).toInt64.toUInt64).toInt64).toInt32).toInt8.toInt32)) (nar .byte ((q0.toInt32).toInt8.toInt32))))]))
      refine Wp.via (fun _ k => XS.istore X23.here hx rfl (hb hby at_103) rfl (l' := #[.val (.long q0), .second, .val (.int p1), .val (.ref b1), .val (.int (4 : Int32)), .val (.int (((q0.toUInt64 >>> ((0 : Int32) &&& 0x3f).toInt64.toUInt64).toInt64).toInt32)), .val (.int (own_s (nar .byte ((((q0.toUInt64 >>> ((24 : Int32) &&& 0x3f).toInt64.toUInt64).toInt64).toInt32).toInt8.toInt32)) (nar .byte ((((q0.toUInt64 >>> ((16 : Int32) &&& 0x3f).toInt64.toUInt64).toInt64).toInt32).toInt8.toInt32)) (nar .byte ((((q0.toUInt64 >>> ((8 : Int32) &&& 0x3f).toInt64.toUInt64).toInt64).toInt32).toInt8.toInt32)) (nar .byte ((q0.toInt32).toInt8.toInt32))))]) rfl k) ?_
      show Wp p e below _ (T23.setTop (mkF m 105 #[.val (.long q0), .second, .val (.int p1), .val (.ref b1), .val (.int (4 : Int32)), .val (.int (((q0.toUInt64 >>> ((0 : Int32) &&& 0x3f).toInt64.toUInt64).toInt64).toInt32)), .val (.int (own_s (nar .byte ((((q0.toUInt64 >>> ((24 : Int32) &&& 0x3f).toInt64.toUInt64).toInt64).toInt32).toInt8.toInt32)) (nar .byte ((((q0.toUInt64 >>> ((16 : Int32) &&& 0x3f).toInt64.toUInt64).toInt64).toInt32).toInt8.toInt32)) (nar .byte ((((q0.toUInt64 >>> ((8 : Int32) &&& 0x3f).toInt64.toUInt64).toInt64).toInt32).toInt8.toInt32)) (nar .byte ((q0.toInt32).toInt8.toInt32))))] []))
      refine Wp.via (fun _ k => XS.iload X23.here hx rfl (hb hby at_105) rfl k) ?_
      show Wp p e below _ (T23.setTop (mkF m 107 #[.val (.long q0), .second, .val (.int p1), .val (.ref b1), .val (.int (4 : Int32)), .val (.int (((q0.toUInt64 >>> ((0 : Int32) &&& 0x3f).toInt64.toUInt64).toInt64).toInt32)), .val (.int (own_s (nar .byte ((((q0.toUInt64 >>> ((24 : Int32) &&& 0x3f).toInt64.toUInt64).toInt64).toInt32).toInt8.toInt32)) (nar .byte ((((q0.toUInt64 >>> ((16 : Int32) &&& 0x3f).toInt64.toUInt64).toInt64).toInt32).toInt8.toInt32)) (nar .byte ((((q0.toUInt64 >>> ((8 : Int32) &&& 0x3f).toInt64.toUInt64).toInt64).toInt32).toInt8.toInt32)) (nar .byte ((q0.toInt32).toInt8.toInt32))))] [(.int (own_s (nar .byte ((((q0.toUInt64 >>> ((24 : Int32) &&& 0x3f).toInt64.toUInt64).toInt64).toInt32).toInt8.toInt32)) (nar .byte ((((q0.toUInt64 >>> ((16 : Int32) &&& 0x3f).toInt64.toUInt64).toInt64).toInt32).toInt8.toInt32)) (nar .byte ((((q0.toUInt64 >>> ((8 : Int32) &&& 0x3f).toInt64.toUInt64).toInt64).toInt32).toInt8.toInt32)) (nar .byte ((q0.toInt32).toInt8.toInt32))))]))
      refine Wp.via (fun _ k => XS.iload X23.here hx rfl (hb hby at_107) rfl k) ?_
      show Wp p e below _ (T23.setTop (mkF m 109 #[.val (.long q0), .second, .val (.int p1), .val (.ref b1), .val (.int (4 : Int32)), .val (.int (((q0.toUInt64 >>> ((0 : Int32) &&& 0x3f).toInt64.toUInt64).toInt64).toInt32)), .val (.int (own_s (nar .byte ((((q0.toUInt64 >>> ((24 : Int32) &&& 0x3f).toInt64.toUInt64).toInt64).toInt32).toInt8.toInt32)) (nar .byte ((((q0.toUInt64 >>> ((16 : Int32) &&& 0x3f).toInt64.toUInt64).toInt64).toInt32).toInt8.toInt32)) (nar .byte ((((q0.toUInt64 >>> ((8 : Int32) &&& 0x3f).toInt64.toUInt64).toInt64).toInt32).toInt8.toInt32)) (nar .byte ((q0.toInt32).toInt8.toInt32))))] [(.int (((q0.toUInt64 >>> ((0 : Int32) &&& 0x3f).toInt64.toUInt64).toInt64).toInt32)), (.int (own_s (nar .byte ((((q0.toUInt64 >>> ((24 : Int32) &&& 0x3f).toInt64.toUInt64).toInt64).toInt32).toInt8.toInt32)) (nar .byte ((((q0.toUInt64 >>> ((16 : Int32) &&& 0x3f).toInt64.toUInt64).toInt64).toInt32).toInt8.toInt32)) (nar .byte ((((q0.toUInt64 >>> ((8 : Int32) &&& 0x3f).toInt64.toUInt64).toInt64).toInt32).toInt8.toInt32)) (nar .byte ((q0.toInt32).toInt8.toInt32))))]))
      refine Wp.via (fun _ k => XS.icmpNo X23.here hx rfl (hb hby at_109) rfl (teq (own_eq4 q0)).2 k) ?_
      show Wp p e below _ (T23.setTop (mkF m 112 #[.val (.long q0), .second, .val (.int p1), .val (.ref b1), .val (.int (4 : Int32)), .val (.int (((q0.toUInt64 >>> ((0 : Int32) &&& 0x3f).toInt64.toUInt64).toInt64).toInt32)), .val (.int (own_s (nar .byte ((((q0.toUInt64 >>> ((24 : Int32) &&& 0x3f).toInt64.toUInt64).toInt64).toInt32).toInt8.toInt32)) (nar .byte ((((q0.toUInt64 >>> ((16 : Int32) &&& 0x3f).toInt64.toUInt64).toInt64).toInt32).toInt8.toInt32)) (nar .byte ((((q0.toUInt64 >>> ((8 : Int32) &&& 0x3f).toInt64.toUInt64).toInt64).toInt32).toInt8.toInt32)) (nar .byte ((q0.toInt32).toInt8.toInt32))))] []))
      refine Wp.via (fun _ k => XS.iconst X23.here hx rfl (hb hby at_112) k) ?_
      show Wp p e below _ (T23.setTop (mkF m 113 #[.val (.long q0), .second, .val (.int p1), .val (.ref b1), .val (.int (4 : Int32)), .val (.int (((q0.toUInt64 >>> ((0 : Int32) &&& 0x3f).toInt64.toUInt64).toInt64).toInt32)), .val (.int (own_s (nar .byte ((((q0.toUInt64 >>> ((24 : Int32) &&& 0x3f).toInt64.toUInt64).toInt64).toInt32).toInt8.toInt32)) (nar .byte ((((q0.toUInt64 >>> ((16 : Int32) &&& 0x3f).toInt64.toUInt64).toInt64).toInt32).toInt8.toInt32)) (nar .byte ((((q0.toUInt64 >>> ((8 : Int32) &&& 0x3f).toInt64.toUInt64).toInt64).toInt32).toInt8.toInt32)) (nar .byte ((q0.toInt32).toInt8.toInt32))))] [(.int (1 : Int32))]))
      refine Wp.via (fun _ k => XS.goto X23.here hx rfl (pc0 := 113) (pc' := 117) rfl (hb hby at_113) (by decide) (by decide) k) ?_
      show Wp p e below _ (T23.setTop (mkF m 117 #[.val (.long q0), .second, .val (.int p1), .val (.ref b1), .val (.int (4 : Int32)), .val (.int (((q0.toUInt64 >>> ((0 : Int32) &&& 0x3f).toInt64.toUInt64).toInt64).toInt32)), .val (.int (own_s (nar .byte ((((q0.toUInt64 >>> ((24 : Int32) &&& 0x3f).toInt64.toUInt64).toInt64).toInt32).toInt8.toInt32)) (nar .byte ((((q0.toUInt64 >>> ((16 : Int32) &&& 0x3f).toInt64.toUInt64).toInt64).toInt32).toInt8.toInt32)) (nar .byte ((((q0.toUInt64 >>> ((8 : Int32) &&& 0x3f).toInt64.toUInt64).toInt64).toInt32).toInt8.toInt32)) (nar .byte ((q0.toInt32).toInt8.toInt32))))] [(.int (1 : Int32))]))
      exact Wp.retI X23 hlk hx hret (by simp) (by first | rfl | decide) (hb hby at_117) ⟨rfl, NF23⟩ (by decide) (by decide)
  have m1 : (p1 &&& (2147483647 : Int32)).toInt = p1.toInt % (2 ^ 31 : Nat) := c_mask p1 _ 31 (by decide) (by decide)
  have m2 := (c_irem (p1 &&& (2147483647 : Int32)) 5 5 (by decide)).1 (by omega)
  exact J84 T17 _ _ _ X17 e17 NF17 rfl rfl _ (by
    have l0 : (0 : Int32).toInt = 0 := by decide
    have l1 : (1 : Int32).toInt = 1 := by decide
    have l2 : (2 : Int32).toInt = 2 := by decide
    have l3 : (3 : Int32).toInt = 3 := by decide
    have l4 : (4 : Int32).toInt = 4 := by decide
    simp only [← Int32.toInt_inj, l0, l1, l2, l3, l4]
    omega)
set_option maxRecDepth 65536 in
set_option maxHeartbeats 40000000 in
theorem comes_1 {Post : Tables → Env → Array Value → State → Outcome → State → Prop} (hpost : ∀ tb e args s v u, (limb_1_1.after args s (.returned v) u = true ∧ limb_1_2.after args s (.returned v) u = true ∧ True) → FrameEnd s (.returned v) u (Jvm.fieldLocs frame_1_writes args s ++ Jvm.arrayLocs frame_1_arrays args s ++ Jvm.staticLocs frame_1_statics s) 16 128 → Post tb e args s (.returned v) u) :
    ArmFor flags0 classFile x code maxLocals ret World_1 tables_1 room_1 Calls_1 rest_1 Pre_1 Post := by
  intro l hfl _ _ p e ha hc hk s m args below hf hA hF happ hP
  obtain ⟨hcalls, hrest, hpre⟩ := hP
  obtain ⟨-, -, -, hnamed, -, -, -, hat⟩ := (Spec.applies_iff hf).mp happ
  obtain ⟨hg, hn⟩ := and_e (Cond.before_iff.mp (show (Jvm.Cond.and given_1 narrow_1).before args s = true from hpre))
  obtain ⟨g1, g2⟩ := and_e hg
  obtain ⟨g3, g4⟩ := and_e g2
  obtain ⟨w0, w1, rfl⟩ : ∃ w0 w1 : Value, args = #[w0, w1] := by
    have hs : args.size = 2 := by simpa [Cond.value, given_1] using g1
    obtain ⟨L⟩ := args
    match L, hs with
    | [w0, w1], _ => exact ⟨w0, w1, rfl⟩
  have hw := fun d (hd : d ∈ tables_1) => atoms_spec (ws := Jvm.Cond.code x code maxLocals ret :: tables_1) hat d (List.mem_cons_of_mem _ hd)
  obtain ⟨i0, ei0⟩ := isL_v g3
  obtain rfl : w0 = (.long i0) := Option.some.inj ei0
  obtain ⟨i1, ei1⟩ := is_v g4
  obtain rfl : w1 = (.int i1) := Option.some.inj ei1
  obtain ⟨n, o, h1, h2, h3, _, L, rfl, ⟨rfl, N⟩, hq⟩ := rm0 l s _ hw tables_1 i0 i1 s.heap s.heap.size (Nat.le_refl _)  p e ha hc hk s m _ below hf ((Spec.applies_iff_loose hf).mp happ).1 ⟨rfl, State.Warmed39.refl s, rfl⟩ trivial
  refine ⟨n, _, h1, h2, h3, hpost _ _ _ _ _ _ ⟨Cond.after_iff.mpr rfl, Cond.after_iff.mpr (eq_i res_at (Term.int_eval (1)) rfl), trivial⟩ ⟨hq.1, hq.2.1, (hq.2.2.sift fun y hy => Or.inr (N y hy)).mono (by decide) (by decide)⟩⟩
theorem main_1_1 : Claimed_1_1 := comes_1 fun _ _ _ _ _ _ h hF => ⟨h.1, hF⟩
theorem main_1_2 : Claimed_1_2 := comes_1 fun _ _ _ _ _ _ h hF => ⟨h.2.1, hF⟩
end Jvm.Pilot.@@N@@
namespace Jvm.Pilot.@@N@@
open Jvm Jvm.ClassFile Sem Op Lib Jvm.Free Jvm.Stand Jvm.Pilot.@@N@@.Jvm.D
/-! MADE BY PROGRAM (witnessworld.py) out of the Statement's table words and the real class files: 9 classes; the members and pool entries that the words name. The judged class is class 1, her method 1. -/
namespace start1
open Jvm.ClassFile
def u (s : String) : CpInfo := .utf8 (stringToUtf16 s)
/-- a pool by its gaps: so many unusable entries, then the entry; so many at the end -/
def gap : Nat → List CpInfo → List CpInfo
  | 0, r => r
  | n + 1, r => .unusable :: gap n r
def poolList (es : List (Nat × CpInfo)) (last : Nat) : List CpInfo := es.foldr (fun e r => gap e.1 (e.2 :: r)) (gap last [])
def pool (es : List (Nat × CpInfo)) (last : Nat) : Array CpInfo := ⟨poolList es last⟩
def fileOf (pool : Array CpInfo) (this : Nat) (attrs : Array Attribute := #[]) (ms : Array MethodInfo := #[]) (fl : Nat := 33) (sup : Nat := 0) (ifs : Array Nat := #[]) (fds : Array FieldInfo := #[]) : ClassFile where
  minorVersion := 0
  majorVersion := 65
  constantPool := pool
  accessFlags := fl
  thisClass := this
  superClass := sup
  interfaces := ifs
  fields := fds
  methods := ms
  attributes := attrs
def plain (name : String) (sup : Option ClassId) : Class where
  name := name
  kind := .ordinary
  loader := none
  accessFlags := 33
  super := sup
  interfaces := #[]
  cf := none
  fields := #[]
  methods := #[]
  instanceTypes := #[]
  staticTypes := #[]
  resolved := #[]
  callSites := []
  init := .initialized
  statics := none
  mirror := none

def pool0 : Array CpInfo := pool [(5, u "<init>"), (0, u "()V"), (1, .class_ 10), (1, u "java/lang/Object")] 113

def k0m0 : Method := { name := "<init>", desc := "()V", sig := { parameters := [], returnType := none }, accessFlags := 1, code := none }
/-- java/lang/Object -/
def k0 : Class := { plain "java/lang/Object" none with
  accessFlags := 33
  interfaces := #[]
  cf := some (fileOf pool0 8 #[] #[{ accessFlags := 1, nameIndex := 5, descriptorIndex := 6, attributes := #[] }] 33 0 #[] #[])
  fields := #[]
  methods := #[k0m0]
  instanceTypes := #[]
  staticTypes := #[]
  resolved := Array.replicate 124 none
  statics := none }

def pool1 : Array CpInfo := pool [(2, .class_ 4), (1, u "java/lang/Object"), (0, u "<init>"), (0, u "()V"), (0, .integer 2147483647), (0, .methodref 9 10), (0, .class_ 11), (0, .nameAndType 12 13), (0, u "com/example/inverso/inverso/index/CheckValue"), (0, u "stored"), (0, u "([BI)I"), (0, .class_ 15), (0, u "com/example/inverso/inverso/index/CheckValueStoredPinLaw"), (2, u "law"), (0, u "(JI)Z")] 5

def k1m0 : Method := { name := "<init>", desc := "()V", sig := { parameters := [], returnType := none }, accessFlags := 2, code := none }
def k1c1 : Code := { maxStack := 5, maxLocals := 7, code := code, exceptionTable := #[], attributes := #[] }
def k1m1 : Method := { name := "law", desc := "(JI)Z", sig := { parameters := [.long, .int], returnType := some .boolean }, accessFlags := 9, code := some k1c1 }
/-- com/example/inverso/inverso/index/CheckValueStoredPinLaw -/
def k1 : Class := { plain "com/example/inverso/inverso/index/CheckValueStoredPinLaw" (some 0) with
  accessFlags := 49
  interfaces := #[]
  cf := some (fileOf pool1 14 #[] #[{ accessFlags := 2, nameIndex := 5, descriptorIndex := 6, attributes := #[] }, { accessFlags := 9, nameIndex := 18, descriptorIndex := 19, attributes := #[] }] 49 2 #[] #[])
  fields := #[]
  methods := #[k1m0, k1m1]
  instanceTypes := #[]
  staticTypes := #[]
  resolved := Array.replicate 25 none
  statics := none }

def pool2 : Array CpInfo := pool [(2, .class_ 4), (1, u "java/lang/Object"), (0, u "<init>"), (0, u "()V"), (10, .class_ 19), (1, u "com/example/inverso/inverso/index/CheckValue"), (38, u "stored"), (0, u "([BI)I"), (5, u "BYTES"), (0, u "I"), (19, .class_ 87), (0, u "com/example/inverso/inverso/index/CheckValue$Writer")] 16

def k2m0 : Method := { name := "<init>", desc := "()V", sig := { parameters := [], returnType := none }, accessFlags := 2, code := none }
def k2c1 : Code := { maxStack := 3, maxLocals := 4, code := prog_51_method_9_code, exceptionTable := #[], attributes := #[] }
def k2m1 : Method := { name := "stored", desc := "([BI)I", sig := { parameters := [(.array .byte), .int], returnType := some .int }, accessFlags := 8, code := some k2c1 }
/-- com/example/inverso/inverso/index/CheckValue -/
def k2 : Class := { plain "com/example/inverso/inverso/index/CheckValue" (some 0) with
  accessFlags := 48
  interfaces := #[]
  cf := some (fileOf pool2 17 #[.nestMembers #[86]] #[{ accessFlags := 2, nameIndex := 5, descriptorIndex := 6, attributes := #[] }, { accessFlags := 8, nameIndex := 58, descriptorIndex := 59, attributes := #[] }] 48 2 #[] #[{ accessFlags := 24, nameIndex := 65, descriptorIndex := 66, attributes := #[] }])
  fields := #[{ name := "BYTES", type := .int, accessFlags := 24, slot := 0, constantValue := 0 }]
  methods := #[k2m0, k2m1]
  instanceTypes := #[]
  staticTypes := #[.int]
  resolved := Array.replicate 104 none
  statics := none }

def pool3 : Array CpInfo := pool [(1, u "java/lang/Cloneable"), (0, .class_ 1), (0, u "java/lang/Object"), (0, .class_ 3)] 3

/-- java/lang/Cloneable -/
def k3 : Class := { plain "java/lang/Cloneable" (some 0) with
  accessFlags := 1537
  interfaces := #[]
  cf := some (fileOf pool3 2 #[] #[] 1537 4 #[] #[])
  fields := #[]
  methods := #[]
  instanceTypes := #[]
  staticTypes := #[]
  resolved := Array.replicate 8 none
  statics := none }

def pool4 : Array CpInfo := pool [(1, u "java/io/Serializable"), (0, .class_ 1), (0, u "java/lang/Object"), (0, .class_ 3)] 3

/-- java/io/Serializable -/
def k4 : Class := { plain "java/io/Serializable" (some 0) with
  accessFlags := 1537
  interfaces := #[]
  cf := some (fileOf pool4 2 #[] #[] 1537 4 #[] #[])
  fields := #[]
  methods := #[]
  instanceTypes := #[]
  staticTypes := #[]
  resolved := Array.replicate 8 none
  statics := none }

/-- the primitive byte -/
def k5 : Class := { plain "byte" none with kind := .primitive 'B', accessFlags := 0x411 }
/-- [B -/
def k6 : Class := { plain "[B" (some 0) with kind := .array 5 .byte, interfaces := #[3, 4], accessFlags := 1041 }

/-- the primitive int -/
def k7 : Class := { plain "int" none with kind := .primitive 'I', accessFlags := 0x411 }
/-- [I -/
def k8 : Class := { plain "[I" (some 0) with kind := .array 7 .int, interfaces := #[3, 4], accessFlags := 1041 }

def heap : Heap := #[]
def classes : Array Class := #[k0, k1, k2, k3, k4, k5, k6, k7, k8]
def interned : List (Array UInt16 × Addr) := []
def slotsUsed : Nat := 0
def theMethod : MethodId := ⟨1, 1⟩
def args0 : Array Value := #[.long 7, .int 1]
def aboutOver (below : List Frame) : State where
  vm := { classes := classes, interned := interned.toArray }
  heap := heap
  slotsUsed := slotsUsed
  threads := #[{ frames := .invoking theMethod args0 :: below }]
def below0 : List Frame := [.native { method := ⟨0, 0⟩, args := #[] }]
def about1 : State := aboutOver below0
def p0 : Program := .bare "" "" ""
def e0 : Env := launch0.env 0 0 0
theorem w_frames : about1.frames = Frame.invoking theMethod args0 :: below0 := rfl
set_option maxRecDepth 65536 in
theorem w_args : argsFit about1.vm theMethod args0 = true := by decide +kernel
set_option maxRecDepth 65536 in
theorem w_heap : heapFits about1 = true := by decide +kernel
set_option maxRecDepth 65536 in
theorem w_runnable : about1.curStatus? = some .runnable := by decide +kernel
set_option maxRecDepth 65536 in
theorem w_alone : about1.alone = true := by decide +kernel
set_option maxRecDepth 65536 in
theorem w_named : about1.methodNamed? x = some theMethod := by decide +kernel
set_option maxRecDepth 65536 in
theorem w_hears : about1.hears theMethod below0 = true := by decide +kernel
set_option maxRecDepth 65536 in
theorem w_ripe : about1.ripe theMethod args0 below0 = true := by decide +kernel
theorem w_running : about1.status = .running := rfl
set_option maxRecDepth 65536 in
theorem w_room : about1.hasRoom e0.platform room_1 = true :=
  launch0.hasRoom_least _ room_1 (by decide +kernel) (by decide +kernel) (by decide +kernel) (by decide +kernel) (by decide +kernel) (by decide +kernel)
theorem allAtoms_all (ts : List Jvm.Cond) (a : Array Jvm.Value) (st : Jvm.State) : (allAtoms ts).before a st = ts.all (fun c => c.before a st) := by
  induction ts with
  | nil => rfl
  | cons c t ih =>
    show (Jvm.Cond.and c (allAtoms t)).before a st = _
    rw [Jvm.Cond.before_and, ih, List.all_cons]
def words1 : List Jvm.Cond := Jvm.Cond.code x code maxLocals ret :: tables_1
/-- a 'code' word, met by the world's own term for the bytes: nothing is compared byte by byte -/
theorem code_word {y : MethodName} {bytes : ByteArray} {mx : Nat} {rt : Option FieldType} {a : Array Value} {s : State} {m : MethodId} {meth : Method} {c : Code} (h1 : s.methodNamed? y = some m) (h2 : s.vm.method? m = some meth) (h3 : meth.code = some c) (h4 : c.code = bytes)
    (h5 : (c.maxLocals == mx && c.exceptionTable.isEmpty && decide (c.maxStack ≤ mostOperands) && decide (meth.sig.returnType = rt) && !meth.locks && decide (parseMethodDescriptor y.desc = some meth.sig)) = true) : (Jvm.Cond.code y bytes mx rt).before a s = true := by
  simp only [Bool.and_eq_true, beq_iff_eq, Bool.not_eq_true', decide_eq_true_eq] at h5
  obtain ⟨⟨⟨⟨⟨g1, g2⟩, g3⟩, g4⟩, g5⟩, g6⟩ := h5
  simp [Cond.before, Cond.holds, Cond.value, h1, h2, h3, h4, g1, g2, g3, g4, g5, g6]
def isCode : Jvm.Cond → Bool
  | .code _ _ _ _ => true
  | _ => false
theorem all_split {L : List Jvm.Cond} {P : Jvm.Cond → Bool} (h1 : L.all (fun c => isCode c || P c) = true) (h2 : ∀ c ∈ L.filter isCode, P c = true) : L.all P = true := by
  refine List.all_eq_true.mpr fun c hc => ?_
  have h := List.all_eq_true.mp h1 c hc
  rcases Bool.eq_false_or_eq_true (isCode c) with hi | hi
  · exact h2 c (List.mem_filter.mpr ⟨hc, hi⟩)
  · simpa [hi] using h
set_option maxRecDepth 65536 in
theorem w_c0 : (Jvm.Cond.code x code maxLocals ret).before args0 about1 = true := code_word (m := ⟨1, 1⟩) (meth := k1m1) (c := k1c1) (by decide +kernel) rfl rfl rfl (by decide +kernel)
set_option maxRecDepth 65536 in
theorem w_c1 : (Jvm.Cond.code ({ cls := "com/example/inverso/inverso/index/CheckValue", name := "stored", desc := "([BI)I" } : Jvm.MethodName) prog_51_method_9_code (4 : Nat) (Option.some Jvm.ClassFile.FieldType.int)).before args0 about1 = true := code_word (m := ⟨2, 1⟩) (meth := k2m1) (c := k2c1) (by decide +kernel) rfl rfl rfl (by decide +kernel)
def codes1 : List Jvm.Cond := [Jvm.Cond.code x code maxLocals ret, Jvm.Cond.code ({ cls := "com/example/inverso/inverso/index/CheckValue", name := "stored", desc := "([BI)I" } : Jvm.MethodName) prog_51_method_9_code (4 : Nat) (Option.some Jvm.ClassFile.FieldType.int)]
set_option maxRecDepth 65536 in
theorem codes_eq : words1.filter isCode = codes1 := rfl
theorem w_codes : ∀ c ∈ words1.filter isCode, c.before args0 about1 = true := by
  rw [codes_eq]
  intro c hc
  simp only [codes1, List.mem_cons, List.not_mem_nil, or_false] at hc
  rcases hc with rfl | rfl
  · exact w_c0
  · exact w_c1
set_option maxRecDepth 65536 in
theorem w_t1 : words1.all (fun c => isCode c || c.before args0 about1) = true := by decide +kernel
theorem w_tables : (allAtoms (Jvm.Cond.code x code maxLocals ret :: tables_1)).before args0 about1 = true := by
  rw [allAtoms_all]
  show words1.all (fun c => c.before args0 about1) = true
  refine all_split ?_ w_codes
  rw [w_t1]
set_option maxRecDepth 65536 in
theorem w_case : (Jvm.Cond.and given_1 narrow_1).before args0 about1 = true := by decide +kernel
theorem w_applies : (headSpec (Jvm.Cond.code x code maxLocals ret :: tables_1) room_1).applies x e0.platform about1 = true :=
  (Spec.applies_iff w_frames).mpr ⟨w_running, w_runnable, w_alone, w_named, w_hears, w_ripe, w_room, w_tables⟩
theorem atStart : AtStart classFile x code maxLocals ret World_1 tables_1 room_1 Calls_1 rest_1 Pre_1 launch0 p0 e0 about1 theMethod args0 below0 :=
  ⟨lists_1, trivial, launch0.admits_env _ _ _, launch0.least_env, fairChoices_fair.cas, fairChoices_fair.clock, w_frames, w_args, w_heap, w_applies, trivial, trivial, w_case⟩
end start1
theorem witness_1 : WitnessClaimed_1 := ⟨start1.p0, start1.e0, start1.about1, start1.theMethod, start1.args0, start1.below0, start1.atStart⟩
end Jvm.Pilot.@@N@@
