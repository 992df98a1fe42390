import JvmDerived
import JvmDerived.Pilot.@@N@@Statement
import JvmDerived.Pilot.@@N@@Code
set_option linter.unusedVariables false
set_option linter.unusedSimpArgs false
namespace Jvm.Pilot.@@N@@
open Jvm Jvm.ClassFile Sem Op Lib Jvm.Free Jvm.Stand Jvm.LawKit Jvm.RoadKit Bundle Jvm.Pilot.@@N@@.Jvm.D
/-! own kit: the rest of a walk as one predicate of the state where it stands -/
section OwnKit
variable {p : Program} {l : Launch} {e : Env} {R : Room} {s : State} {m : MethodId} {args : Array Value} {below : List Frame} {meth : Method} {c : Code} {T : State} {locs : List Loc} {cells slots : Nat}
def Wp (p : Program) (e : Env) (below : List Frame) (G : Outcome → State → Prop) (U : State) : Prop := ∃ s₂ o, Steps p.tables e below U s₂ ∧ s₂.status = .running ∧ Ended s₂ below o ∧ G o s₂
theorem Wp.via {G : Outcome → State → Prop} {A B : State} (k : ∀ t, Steps p.tables e below A t → Steps p.tables e below B t) (h : Wp p e below G A) : Wp p e below G B := by
  obtain ⟨s₂, o, h1, h2⟩ := h; exact ⟨s₂, o, k _ h1, h2⟩
theorem Wp.step {G : Outcome → State → Prop} {A B : State} (k : Steps p.tables e below B A) (h : Wp p e below G A) : Wp p e below G B := by
  obtain ⟨s₂, o, h1, h2⟩ := h; exact ⟨s₂, o, k.trans h1, h2⟩
def Gd (s : State) (Q : Option Value → Heap → List Loc → Prop) (C S : Nat) (o : Outcome) (t : State) : Prop := ∃ v L, o = .returned v ∧ Q v t.heap L ∧ FrameEnd s o t L C S
theorem Wp.ret (X : Stand p l e R s m args below meth c T locs cells slots) (hlk : meth.locks = false) (hx : p.tables.exec = Jvm.exec) {pc : Nat} {Ls : Array Slot} {w : Value} {t : FieldType} {i : Instr} {rest : List Value} {Q : Option Value → Heap → List Loc → Prop} {C S : Nat} (hret : meth.sig.returnType = some t) (hn : narrow t w = w)
    (hi : (i = .ireturn ∧ (t = .int ∨ t = .boolean ∨ t = .byte ∨ t = .char ∨ t = .short) ∧ ∃ z, w = .int z) ∨ (i = .lreturn ∧ t = .long ∧ ∃ z, w = .long z) ∨ (i = .dreturn ∧ t = .double ∧ ∃ z, w = .double z) ∨ (i = .freturn ∧ t = .float ∧ ∃ z, w = .float z) ∨ (i = .areturn ∧ t.isReference = true ∧ w.isRef = true))
    (hd : decode c.code pc = .ok (i, 1)) (hq : Q (some w) T.heap locs) (hC : cells ≤ C) (hS : slots ≤ S) : Wp p e below (Gd s Q C S) (T.setTop (mkF m pc Ls (w :: rest))) := by
  obtain ⟨fs, hr, hrun, hended, hW, hsame⟩ := X.leave (v := some w) (fun h => by rw [hret] at h; cases h) hlk
  exact ⟨_, _, retOut X hx hret hn hi hd hr, hrun, hended, _, _, rfl, hq, ⟨_, rfl⟩, hW, hsame.mono hC hS⟩
theorem Wp.retI (X : Stand p l e R s m args below meth c T locs cells slots) (hlk : meth.locks = false) (hx : p.tables.exec = Jvm.exec) {pc : Nat} {Ls : Array Slot} {z : Int32} {t : FieldType} {rest : List Value} {Q : Option Value → Heap → List Loc → Prop} {C S : Nat} (hret : meth.sig.returnType = some t) (ht : t = .int ∨ t = .boolean ∨ t = .byte ∨ t = .char ∨ t = .short) (hn : narrow t (.int z) = .int z)
    (hd : decode c.code pc = .ok (.ireturn, 1)) (hq : Q (some (.int z)) T.heap locs) (hC : cells ≤ C) (hS : slots ≤ S) : Wp p e below (Gd s Q C S) (T.setTop (mkF m pc Ls (.int z :: rest))) :=
  Wp.ret X hlk hx hret hn (Or.inl ⟨rfl, ht, z, rfl⟩) hd hq hC hS
theorem Wp.retJ (X : Stand p l e R s m args below meth c T locs cells slots) (hlk : meth.locks = false) (hx : p.tables.exec = Jvm.exec) {pc : Nat} {Ls : Array Slot} {z : Int64} {rest : List Value} {Q : Option Value → Heap → List Loc → Prop} {C S : Nat} (hret : meth.sig.returnType = some .long)
    (hd : decode c.code pc = .ok (.lreturn, 1)) (hq : Q (some (.long z)) T.heap locs) (hC : cells ≤ C) (hS : slots ≤ S) : Wp p e below (Gd s Q C S) (T.setTop (mkF m pc Ls (.long z :: rest))) :=
  Wp.ret X hlk hx hret rfl (Or.inr (Or.inl ⟨rfl, rfl, z, rfl⟩)) hd hq hC hS
theorem Wp.retA (X : Stand p l e R s m args below meth c T locs cells slots) (hlk : meth.locks = false) (hx : p.tables.exec = Jvm.exec) {pc : Nat} {Ls : Array Slot} {w : Value} {t : FieldType} {rest : List Value} {Q : Option Value → Heap → List Loc → Prop} {C S : Nat} (hret : meth.sig.returnType = some t) (ht : t.isReference = true) (hw : w.isRef = true)
    (hd : decode c.code pc = .ok (.areturn, 1)) (hq : Q (some w) T.heap locs) (hC : cells ≤ C) (hS : slots ≤ S) : Wp p e below (Gd s Q C S) (T.setTop (mkF m pc Ls (w :: rest))) :=
  Wp.ret X hlk hx hret (by cases t <;> simp [FieldType.isReference] at ht <;> cases w <;> simp [Value.isRef] at hw <;> rfl) (Or.inr (Or.inr (Or.inr (Or.inr ⟨rfl, ht, hw⟩)))) hd hq hC hS
theorem Wp.retV (X : Stand p l e R s m args below meth c T locs cells slots) (hlk : meth.locks = false) (hx : p.tables.exec = Jvm.exec) {pc : Nat} {Ls : Array Slot} {Q : Option Value → Heap → List Loc → Prop} {C S : Nat} (hret : meth.sig.returnType = none)
    (hd : decode c.code pc = .ok (.return_, 1)) (hq : Q none T.heap locs) (hC : cells ≤ C) (hS : slots ≤ S) : Wp p e below (Gd s Q C S) (T.setTop (mkF m pc Ls [])) := by
  obtain ⟨fs, hr, hrun, hended, hW, hsame⟩ := X.leave (v := none) (fun _ => rfl) hlk
  exact ⟨_, _, X.returnOut hx hret hd hr, hrun, hended, _, _, rfl, hq, ⟨_, rfl⟩, hW, hsame.mono hC hS⟩
/-- a body's contract out of its Wp at pc 0 -/
theorem ofWp {y : MethodName} {bytes : ByteArray} {maxL : Nat} {ret : Option FieldType} {ws : List Jvm.Cond} {rm : Room} {as' : Array Value} {Z : State} {h0 : Heap} {Q : Option Value → Heap → List Loc → Prop} {C S : Nat} {Ls : Array Slot} (hpl : plainFor y = true) (ef : ∀ m, entryFrame m as' maxL = mkF m 0 Ls [])
    (H : ∀ (p : Program) (e : Env) (s : State) (m : MethodId) (below : List Frame) (meth : Method) (c : Code) (T : State), p.tables.exec = Jvm.exec → c.code = bytes → c.maxLocals = maxL → s.vm.findClass y.cls = some m.cls → meth.name = y.name → meth.locks = false → meth.sig.returnType = ret → Z.Warmed39 s.vm → Stand p l e rm s m as' below meth c T [] 0 0 → T.heap = h0 → Wp p e below (Gd s Q C S) (T.setTop (mkF m 0 Ls []))) :
    MetFree l y (head1 (Jvm.Cond.code y bytes maxL ret :: ws) rm) (fun a U => a = as' ∧ Z.Warmed39 U.vm ∧ U.heap = h0) (fun _ _ _ _ _ => True) (fun _ U o U' => ∃ v L, o = .returned v ∧ Q v U'.heap L ∧ FrameEnd U o U' L C S) := by
  refine MetFree.of_bodySF hpl hisR ?_
  intro p e s m args below meth c s₁ Bd hml0 hP hK
  obtain ⟨rfl, hZ, hh⟩ := hP
  have e0 : s₁.heap = h0 := by rw [← hh, Bd.state]; rfl
  have X0 : Stand p l e rm s m args below meth c s₁ [] 0 0 := Stand.of_body Bd
  have W := H p e s m below meth c s₁ Bd.exec Bd.bytes hml0 (findClass_of_methodNamed Bd.named) (name_of_methodNamed Bd.named Bd.method).1 Bd.notSynchronized Bd.returns hZ X0 e0
  rw [← ef m] at W
  obtain ⟨s₂, o, g1, g2, g3, g4⟩ := W
  exact ⟨s₂, o, g1, g2, g3, g4⟩
end OwnKit
def f1_16 (x0 : Int32) (w1 : Int64) (x3 : Int32) (y0 : Int32) (v1 : Int64) : Int64 := (((((v1 + (y0.toInt64)) + w1) + (8 : Int64)) - (1 : Int64)) / (8 : Int64))
def f1_0 (p0 : Int32) (q1 : Int64) (p2 : Int32) : Int64 := (if p2 = (0 : Int32) then (f1_16 p0 q1 p2 (0 : Int32) ((2 : Int64) * (p0.toInt64))) else (f1_16 p0 q1 p2 (10 : Int32) ((2 : Int64) * (p0.toInt64))))
theorem own_d1_0 : decode prog_140_method_5_code 0 = .ok (.ldc2_w 44, 3) := by decide +kernel
theorem own_d1_3 : decode prog_140_method_5_code 3 = .ok (.iload_n 0, 1) := by decide +kernel
theorem own_d1_4 : decode prog_140_method_5_code 4 = .ok (.i2l, 1) := by decide +kernel
theorem own_d1_5 : decode prog_140_method_5_code 5 = .ok (.lmul, 1) := by decide +kernel
theorem own_d1_6 : decode prog_140_method_5_code 6 = .ok (.iload_n 3, 1) := by decide +kernel
theorem own_d1_7 : decode prog_140_method_5_code 7 = .ok (.ifCond .eq 8, 3) := by decide +kernel
theorem own_d1_10 : decode prog_140_method_5_code 10 = .ok (.bipush 10, 2) := by decide +kernel
theorem own_d1_12 : decode prog_140_method_5_code 12 = .ok (.goto 4, 3) := by decide +kernel
theorem own_d1_15 : decode prog_140_method_5_code 15 = .ok (.iconst 0, 1) := by decide +kernel
theorem own_d1_16 : decode prog_140_method_5_code 16 = .ok (.i2l, 1) := by decide +kernel
theorem own_d1_17 : decode prog_140_method_5_code 17 = .ok (.ladd, 1) := by decide +kernel
theorem own_d1_18 : decode prog_140_method_5_code 18 = .ok (.lload_n 1, 1) := by decide +kernel
theorem own_d1_19 : decode prog_140_method_5_code 19 = .ok (.ladd, 1) := by decide +kernel
theorem own_d1_20 : decode prog_140_method_5_code 20 = .ok (.lstore 4, 2) := by decide +kernel
theorem own_d1_22 : decode prog_140_method_5_code 22 = .ok (.lload 4, 2) := by decide +kernel
theorem own_d1_24 : decode prog_140_method_5_code 24 = .ok (.ldc2_w 50, 3) := by decide +kernel
theorem own_d1_27 : decode prog_140_method_5_code 27 = .ok (.ladd, 1) := by decide +kernel
theorem own_d1_28 : decode prog_140_method_5_code 28 = .ok (.lconst 1, 1) := by decide +kernel
theorem own_d1_29 : decode prog_140_method_5_code 29 = .ok (.lsub, 1) := by decide +kernel
theorem own_d1_30 : decode prog_140_method_5_code 30 = .ok (.ldc2_w 50, 3) := by decide +kernel
theorem own_d1_33 : decode prog_140_method_5_code 33 = .ok (.ldiv, 1) := by decide +kernel
theorem own_d1_34 : decode prog_140_method_5_code 34 = .ok (.lreturn, 1) := by decide +kernel
theorem own_pl1 : plainFor (⟨"com/example/inverso/inverso/index/RiceList", "minimumLength", "(IJZ)J"⟩ : MethodName) = true := plainFor_of_name (by first | (simp [plainName, overriddenIn]; done) | decide +kernel)
theorem own_ef1 (m : MethodId) (p0 : Int32) (q1 : Int64) (p2 : Int32) : entryFrame m #[(.int p0), (.long q1), (.int p2)] 6 = mkF m 0 #[.val (.int p0), .val (.long q1), .second, .val (.int p2), .unset, .unset] [] := by first | (simp [entryFrame, mkF, argsToLocals, Value.category]; done) | rfl
def Qo1 (Z : State) (p0 : Int32) (q1 : Int64) (p2 : Int32)  (h0 : Heap) (n0 : Nat) (v : Option Value) (h : Heap) (L : List Loc) : Prop := v = some (.long (f1_0 p0 q1 p2)) ∧ Fr n0 L ∧ h = h0
set_option maxRecDepth 65536 in
set_option maxHeartbeats 40000000 in
theorem rm1 (l : Launch) (Z : State) (aw : Array Value) (hw : ∀ d ∈ tables_1, d.before aw Z = true) (ws : List Jvm.Cond) (p0 : Int32) (q1 : Int64) (p2 : Int32)  (h0 : Heap) (n0 : Nat) (Z0 : n0 ≤ h0.size)  :
    MetFree l (⟨"com/example/inverso/inverso/index/RiceList", "minimumLength", "(IJZ)J"⟩ : MethodName) (head1 (Jvm.Cond.code (⟨"com/example/inverso/inverso/index/RiceList", "minimumLength", "(IJZ)J"⟩ : MethodName) prog_140_method_5_code 6 (some .long) :: ws) ({ frames := 0, cells := 0, slots := 0, locals := 0 } : Room)) (fun a U => a = #[(.int p0), (.long q1), (.int p2)] ∧ Z.Warmed39 U.vm ∧ U.heap = h0) (fun _ _ _ _ _ => True) (fun _ U o U' => ∃ v L, o = .returned v ∧ (Qo1 Z p0 q1 p2 h0 n0) v U'.heap L ∧ FrameEnd U o U' L ({ frames := 0, cells := 0, slots := 0, locals := 0 } : Room).cells ({ frames := 0, cells := 0, slots := 0, locals := 0 } : Room).slots) := by
  refine ofWp (Q := Qo1 Z p0 q1 p2 h0 n0) own_pl1 (fun m => own_ef1 m p0 q1 p2) ?_
  intro p e s m below meth c T0 hx hby hml hown hnm hlk hret hZ X0 e0
  change s.vm.findClass "com/example/inverso/inverso/index/RiceList" = some m.cls at hown
  have NF0 := Fr.nil n0
  have J16 : ∀ (T : State) (locs : List Loc) (cells slots : Nat) (X : Stand p l e ({ frames := 0, cells := 0, slots := 0, locals := 0 } : Room) s m #[(.int p0), (.long q1), (.int p2)] below meth c T locs cells slots) (eT : T.heap = h0) (NF : Fr n0 locs) (hC : cells ≤ 0) (hS : slots ≤ 0) (x0 : Int32) (w1 : Int64) (x3 : Int32) (y0 : Int32) (v1 : Int64) , (f1_0 p0 q1 p2) = (f1_16 x0 w1 x3 y0 v1) → Wp p e below (Gd s (Qo1 Z p0 q1 p2 h0 n0) ({ frames := 0, cells := 0, slots := 0, locals := 0 } : Room).cells ({ frames := 0, cells := 0, slots := 0, locals := 0 } : Room).slots) (T.setTop (mkF m 16 #[.val (.int x0), .val (.long w1), .second, .val (.int x3), .unset, .unset] [(.int y0), (.long v1)])) := by
    intro T locs cells slots X eT NF hC hS x0 w1 x3 y0 v1 hv
    have hv1 : (f1_0 p0 q1 p2) = (((((v1 + (y0.toInt64)) + w1) + (8 : Int64)) - (1 : Int64)) / (8 : Int64)) := hv
    refine Wp.via (fun _ k => XS.i2l X.here hx rfl (hb hby own_d1_16) rfl k) ?_
    show Wp p e below _ (T.setTop (mkF m 17 #[.val (.int x0), .val (.long w1), .second, .val (.int x3), .unset, .unset] [(.long (y0.toInt64)), (.long v1)]))
    refine Wp.via (fun _ k => XS.ladd X.here hx rfl (hb hby own_d1_17) rfl k) ?_
    show Wp p e below _ (T.setTop (mkF m 18 #[.val (.int x0), .val (.long w1), .second, .val (.int x3), .unset, .unset] [(.long (v1 + (y0.toInt64)))]))
    refine Wp.via (fun _ k => XS.lloadN X.here hx rfl (hb hby own_d1_18) rfl k) ?_
    show Wp p e below _ (T.setTop (mkF m 19 #[.val (.int x0), .val (.long w1), .second, .val (.int x3), .unset, .unset] [(.long w1), (.long (v1 + (y0.toInt64)))]))
    refine Wp.via (fun _ k => XS.ladd X.here hx rfl (hb hby own_d1_19) rfl k) ?_
    show Wp p e below _ (T.setTop (mkF m 20 #[.val (.int x0), .val (.long w1), .second, .val (.int x3), .unset, .unset] [(.long ((v1 + (y0.toInt64)) + w1))]))
    refine Wp.via (fun _ k => XS.lstore X.here hx rfl (hb hby own_d1_20) rfl (l' := #[.val (.int x0), .val (.long w1), .second, .val (.int x3), .val (.long ((v1 + (y0.toInt64)) + w1)), .second]) rfl k) ?_
    show Wp p e below _ (T.setTop (mkF m 22 #[.val (.int x0), .val (.long w1), .second, .val (.int x3), .val (.long ((v1 + (y0.toInt64)) + w1)), .second] []))
    refine Wp.via (fun _ k => XS.lload X.here hx rfl (hb hby own_d1_22) rfl k) ?_
    show Wp p e below _ (T.setTop (mkF m 24 #[.val (.int x0), .val (.long w1), .second, .val (.int x3), .val (.long ((v1 + (y0.toInt64)) + w1)), .second] [(.long ((v1 + (y0.toInt64)) + w1))]))
    refine Wp.via (fun _ k => X.ldc2Long hx hown (mvT hZ (hw _ (List.mem_of_getElem? (i := 7) rfl))) (g := (mkF m 24 #[.val (.int x0), .val (.long w1), .second, .val (.int x3), .val (.long ((v1 + (y0.toInt64)) + w1)), .second] [(.long ((v1 + (y0.toInt64)) + w1))])) rfl (hb hby own_d1_24) _ k) ?_
    show Wp p e below _ (T.setTop (mkF m 27 #[.val (.int x0), .val (.long w1), .second, .val (.int x3), .val (.long ((v1 + (y0.toInt64)) + w1)), .second] [(.long (8 : Int64)), (.long ((v1 + (y0.toInt64)) + w1))]))
    refine Wp.via (fun _ k => XS.ladd X.here hx rfl (hb hby own_d1_27) rfl k) ?_
    show Wp p e below _ (T.setTop (mkF m 28 #[.val (.int x0), .val (.long w1), .second, .val (.int x3), .val (.long ((v1 + (y0.toInt64)) + w1)), .second] [(.long (((v1 + (y0.toInt64)) + w1) + (8 : Int64)))]))
    refine Wp.via (fun _ k => XS.lconst X.here hx rfl (hb hby own_d1_28) k) ?_
    show Wp p e below _ (T.setTop (mkF m 29 #[.val (.int x0), .val (.long w1), .second, .val (.int x3), .val (.long ((v1 + (y0.toInt64)) + w1)), .second] [(.long (1 : Int64)), (.long (((v1 + (y0.toInt64)) + w1) + (8 : Int64)))]))
    refine Wp.via (fun _ k => XS.lsub X.here hx rfl (hb hby own_d1_29) rfl k) ?_
    show Wp p e below _ (T.setTop (mkF m 30 #[.val (.int x0), .val (.long w1), .second, .val (.int x3), .val (.long ((v1 + (y0.toInt64)) + w1)), .second] [(.long ((((v1 + (y0.toInt64)) + w1) + (8 : Int64)) - (1 : Int64)))]))
    refine Wp.via (fun _ k => X.ldc2Long hx hown (mvT hZ (hw _ (List.mem_of_getElem? (i := 7) rfl))) (g := (mkF m 30 #[.val (.int x0), .val (.long w1), .second, .val (.int x3), .val (.long ((v1 + (y0.toInt64)) + w1)), .second] [(.long ((((v1 + (y0.toInt64)) + w1) + (8 : Int64)) - (1 : Int64)))])) rfl (hb hby own_d1_30) _ k) ?_
    show Wp p e below _ (T.setTop (mkF m 33 #[.val (.int x0), .val (.long w1), .second, .val (.int x3), .val (.long ((v1 + (y0.toInt64)) + w1)), .second] [(.long (8 : Int64)), (.long ((((v1 + (y0.toInt64)) + w1) + (8 : Int64)) - (1 : Int64)))]))
    refine Wp.via (fun _ k => XS.ldiv X.here hx rfl (hb hby own_d1_33) rfl (by decide) k) ?_
    show Wp p e below _ (T.setTop (mkF m 34 #[.val (.int x0), .val (.long w1), .second, .val (.int x3), .val (.long ((v1 + (y0.toInt64)) + w1)), .second] [(.long (((((v1 + (y0.toInt64)) + w1) + (8 : Int64)) - (1 : Int64)) / (8 : Int64)))]))
    exact Wp.retJ X hlk hx hret (hb hby own_d1_34) ⟨by rw [hv1], NF, eT⟩ (by omega) (by omega)
  have hv : (f1_0 p0 q1 p2) = (if p2 = (0 : Int32) then (f1_16 p0 q1 p2 (0 : Int32) ((2 : Int64) * (p0.toInt64))) else (f1_16 p0 q1 p2 (10 : Int32) ((2 : Int64) * (p0.toInt64)))) := rfl
  refine Wp.via (fun _ k => X0.ldc2Long hx hown (mvT hZ (hw _ (List.mem_of_getElem? (i := 6) rfl))) (g := (mkF m 0 #[.val (.int p0), .val (.long q1), .second, .val (.int p2), .unset, .unset] [])) rfl (hb hby own_d1_0) _ k) ?_
  show Wp p e below _ (T0.setTop (mkF m 3 #[.val (.int p0), .val (.long q1), .second, .val (.int p2), .unset, .unset] [(.long (2 : Int64))]))
  refine Wp.via (fun _ k => XS.iloadN X0.here hx rfl (hb hby own_d1_3) rfl k) ?_
  show Wp p e below _ (T0.setTop (mkF m 4 #[.val (.int p0), .val (.long q1), .second, .val (.int p2), .unset, .unset] [(.int p0), (.long (2 : Int64))]))
  refine Wp.via (fun _ k => XS.i2l X0.here hx rfl (hb hby own_d1_4) rfl k) ?_
  show Wp p e below _ (T0.setTop (mkF m 5 #[.val (.int p0), .val (.long q1), .second, .val (.int p2), .unset, .unset] [(.long (p0.toInt64)), (.long (2 : Int64))]))
  refine Wp.via (fun _ k => XS.lmul X0.here hx rfl (hb hby own_d1_5) rfl k) ?_
  show Wp p e below _ (T0.setTop (mkF m 6 #[.val (.int p0), .val (.long q1), .second, .val (.int p2), .unset, .unset] [(.long ((2 : Int64) * (p0.toInt64)))]))
  refine Wp.via (fun _ k => XS.iloadN X0.here hx rfl (hb hby own_d1_6) rfl k) ?_
  show Wp p e below _ (T0.setTop (mkF m 7 #[.val (.int p0), .val (.long q1), .second, .val (.int p2), .unset, .unset] [(.int p2), (.long ((2 : Int64) * (p0.toInt64)))]))
  by_cases hc2 : p2 = (0 : Int32)
  ·
    have hv2_ := hv.trans (if_pos hc2)
    refine Wp.via (fun _ k => XS.ifYes X0.here hx rfl (pc0 := 7) (pc' := 15) rfl (hb hby own_d1_7) rfl ((if0 _ _).trans (teq hc2).1) (by decide) (by decide) k) ?_
    show Wp p e below _ (T0.setTop (mkF m 15 #[.val (.int p0), .val (.long q1), .second, .val (.int p2), .unset, .unset] [(.long ((2 : Int64) * (p0.toInt64)))]))
    refine Wp.via (fun _ k => XS.iconst X0.here hx rfl (hb hby own_d1_15) k) ?_
    show Wp p e below _ (T0.setTop (mkF m 16 #[.val (.int p0), .val (.long q1), .second, .val (.int p2), .unset, .unset] [(.int (0 : Int32)), (.long ((2 : Int64) * (p0.toInt64)))]))
    exact J16 T0 _ _ _ X0 e0 NF0 (by decide) (by decide) p0 q1 p2 (0 : Int32) ((2 : Int64) * (p0.toInt64)) hv2_
  ·
    have hv2_ := hv.trans (if_neg hc2)
    refine Wp.via (fun _ k => XS.ifNo X0.here hx rfl (hb hby own_d1_7) rfl ((if0 _ _).trans (feq hc2).1) k) ?_
    show Wp p e below _ (T0.setTop (mkF m 10 #[.val (.int p0), .val (.long q1), .second, .val (.int p2), .unset, .unset] [(.long ((2 : Int64) * (p0.toInt64)))]))
    refine Wp.via (fun _ k => XS.bipush X0.here hx rfl (hb hby own_d1_10) k) ?_
    show Wp p e below _ (T0.setTop (mkF m 12 #[.val (.int p0), .val (.long q1), .second, .val (.int p2), .unset, .unset] [(.int (10 : Int32)), (.long ((2 : Int64) * (p0.toInt64)))]))
    refine Wp.via (fun _ k => XS.goto X0.here hx rfl (pc0 := 12) (pc' := 16) rfl (hb hby own_d1_12) (by decide) (by decide) k) ?_
    show Wp p e below _ (T0.setTop (mkF m 16 #[.val (.int p0), .val (.long q1), .second, .val (.int p2), .unset, .unset] [(.int (10 : Int32)), (.long ((2 : Int64) * (p0.toInt64)))]))
    exact J16 T0 _ _ _ X0 e0 NF0 (by decide) (by decide) p0 q1 p2 (10 : Int32) ((2 : Int64) * (p0.toInt64)) hv2_
def f0_62 (x0 : Int32) (w1 : Int64) (x3 : Int32) (x4 : Int32) (w5 : Int64) (x7 : Int32) (w8 : Int64) (w10 : Int64) : Int32 := (if (lcmpW ((8 : Int64) * w8) w10) < (0 : Int32) then (0 : Int32) else (if (lcmpW (((8 : Int64) * w8) - w10) (8 : Int64)) < (0 : Int32) then (1 : Int32) else (0 : Int32)))
def f0_24 (x0 : Int32) (w1 : Int64) (x3 : Int32) (x4 : Int32) (w5 : Int64) (y0 : Int32) : Int32 := (if y0 = (0 : Int32) then (f0_62 x0 w1 x3 x4 w5 y0 (f1_0 x4 w5 y0) (((2 : Int64) * (x4.toInt64)) + w5)) else (f0_62 x0 w1 x3 x4 w5 y0 (f1_0 x4 w5 y0) ((((2 : Int64) * (x4.toInt64)) + w5) + (10 : Int64))))
def f0_0 (p0 : Int32) (q1 : Int64) (p2 : Int32) : Int32 := (if (p2 &&& (1 : Int32)) = (0 : Int32) then (f0_24 p0 q1 p2 (p0 &&& (2147483647 : Int32)) (q1 &&& (4611686018427387903 : Int64)) (0 : Int32)) else (f0_24 p0 q1 p2 (p0 &&& (2147483647 : Int32)) (q1 &&& (4611686018427387903 : Int64)) (1 : Int32)))
theorem own_f1 (x4 : Int32) (w5 : Int64) (y0 : Int32) (h4 : 0 ≤ x4.toInt) (h5 : 0 ≤ w5.toInt) (h6 : w5.toInt < 4611686018427387904) :
    (f1_0 x4 w5 y0).toInt = (2 * x4.toInt + (if y0 = 0 then 0 else 10) + w5.toInt + 7) / 8 := by
  have e2 : (2 : Int64).toInt = 2 := by decide
  have e1 : (1 : Int64).toInt = 1 := by decide
  have e8 : (8 : Int64).toInt = 8 := by decide
  have z0 : ((0 : Int32).toInt64).toInt = 0 := by decide
  have z1 : ((10 : Int32).toInt64).toInt = 10 := by decide
  have a1 := c_lmul 2 x4.toInt64
  rw [e2, c_i2l] at a1
  have b0 := rng32 x4
  have b1 := rng64 (2 * x4.toInt64)
  unfold f1_0 f1_16
  split
  · have a2 := c_ladd (2 * x4.toInt64) (0 : Int32).toInt64
    have b2 := rng64 (2 * x4.toInt64 + (0 : Int32).toInt64)
    have a3 := c_ladd (2 * x4.toInt64 + (0 : Int32).toInt64) w5
    have b3 := rng64 (2 * x4.toInt64 + (0 : Int32).toInt64 + w5)
    have a4 := c_ladd (2 * x4.toInt64 + (0 : Int32).toInt64 + w5) 8
    have b4 := rng64 (2 * x4.toInt64 + (0 : Int32).toInt64 + w5 + 8)
    have a5 := c_lsub (2 * x4.toInt64 + (0 : Int32).toInt64 + w5 + 8) 1
    have b5 := rng64 (2 * x4.toInt64 + (0 : Int32).toInt64 + w5 + 8 - 1)
    have a6 := (c_ldiv (2 * x4.toInt64 + (0 : Int32).toInt64 + w5 + 8 - 1) 8 8 e8 (by decide)).1
    rw [a6 (by omega)]
    omega
  · have a2 := c_ladd (2 * x4.toInt64) (10 : Int32).toInt64
    have b2 := rng64 (2 * x4.toInt64 + (10 : Int32).toInt64)
    have a3 := c_ladd (2 * x4.toInt64 + (10 : Int32).toInt64) w5
    have b3 := rng64 (2 * x4.toInt64 + (10 : Int32).toInt64 + w5)
    have a4 := c_ladd (2 * x4.toInt64 + (10 : Int32).toInt64 + w5) 8
    have b4 := rng64 (2 * x4.toInt64 + (10 : Int32).toInt64 + w5 + 8)
    have a5 := c_lsub (2 * x4.toInt64 + (10 : Int32).toInt64 + w5 + 8) 1
    have b5 := rng64 (2 * x4.toInt64 + (10 : Int32).toInt64 + w5 + 8 - 1)
    have a6 := (c_ldiv (2 * x4.toInt64 + (10 : Int32).toInt64 + w5 + 8 - 1) 8 8 e8 (by decide)).1
    rw [a6 (by omega)]
    omega
theorem own_24 (x0 : Int32) (w1 : Int64) (x3 x4 : Int32) (w5 : Int64) (y0 : Int32) (h4 : 0 ≤ x4.toInt) (h5 : 0 ≤ w5.toInt) (h6 : w5.toInt < 4611686018427387904) : f0_24 x0 w1 x3 x4 w5 y0 = 1 := by
  have r := own_f1 x4 w5 y0 h4 h5 h6
  have e2 : (2 : Int64).toInt = 2 := by decide
  have e8 : (8 : Int64).toInt = 8 := by decide
  have e10 : (10 : Int64).toInt = 10 := by decide
  have a1 := c_lmul 2 x4.toInt64
  have a2 := c_ladd (2 * x4.toInt64) w5
  have a3 := c_ladd (2 * x4.toInt64 + w5) 10
  have a4 := c_lmul 8 (f1_0 x4 w5 y0)
  rw [e2, c_i2l] at a1
  rw [e10] at a3
  rw [e8] at a4
  have b0 := rng32 x4
  have b1 := rng64 (2 * x4.toInt64)
  have b2 := rng64 (2 * x4.toInt64 + w5)
  have b3 := rng64 (2 * x4.toInt64 + w5 + 10)
  have b4 := rng64 (8 * f1_0 x4 w5 y0)
  have a5 := c_lsub (8 * f1_0 x4 w5 y0) (2 * x4.toInt64 + w5)
  have b5 := rng64 (8 * f1_0 x4 w5 y0 - (2 * x4.toInt64 + w5))
  have a6 := c_lsub (8 * f1_0 x4 w5 y0) (2 * x4.toInt64 + w5 + 10)
  have b6 := rng64 (8 * f1_0 x4 w5 y0 - (2 * x4.toInt64 + w5 + 10))
  unfold f0_24 f0_62
  simp only [lw_lt, Int64.lt_iff_toInt_lt, e8]
  split
  · rename_i hy
    rw [if_pos hy] at r
    rw [if_neg (by omega), if_pos (by omega)]
  · rename_i hy
    rw [if_neg hy] at r
    rw [if_neg (by omega), if_pos (by omega)]
theorem own_law (p0 : Int32) (q1 : Int64) (p2 : Int32) : f0_0 p0 q1 p2 = 1 := by
  have m1 : (p0 &&& (2147483647 : Int32)).toInt = p0.toInt % (2 ^ 31 : Nat) := c_mask p0 _ 31 (by decide) (by decide)
  have m2 : (q1 &&& (4611686018427387903 : Int64)).toInt = q1.toInt % (2 ^ 62 : Nat) := c_maskL q1 _ 62 (by decide) (by decide)
  unfold f0_0
  split <;> exact own_24 _ _ _ _ _ _ (by omega) (by omega) (by omega)

theorem own_pd0 : parseMethodDescriptor "(IJZ)J" = some ⟨[.int, .long, .boolean], some .long⟩ := by decide +kernel
theorem own_pl0 : plainFor (⟨"com/example/inverso/inverso/index/RiceListMinimumLengthPinLaw", "law", "(IJI)Z"⟩ : MethodName) = true := plainFor_of_name (by first | (simp [plainName, overriddenIn]; done) | decide +kernel)
theorem own_ef0 (m : MethodId) (p0 : Int32) (q1 : Int64) (p2 : Int32) : entryFrame m #[(.int p0), (.long q1), (.int p2)] maxLocals = mkF m 0 #[.val (.int p0), .val (.long q1), .second, .val (.int p2), .unset, .unset, .unset, .unset, .unset, .unset, .unset, .unset, .unset, .unset] [] := by first | (simp [entryFrame, mkF, argsToLocals, Value.category, maxLocals]; done) | rfl
def Qo0 (Z : State) (p0 : Int32) (q1 : Int64) (p2 : Int32)  (h0 : Heap) (n0 : Nat) (v : Option Value) (h : Heap) (L : List Loc) : Prop := v = some (.int 1) ∧ Fr n0 L
set_option maxRecDepth 65536 in
set_option maxHeartbeats 40000000 in
theorem rm0 (l : Launch) (Z : State) (aw : Array Value) (hw : ∀ d ∈ tables_1, d.before aw Z = true) (ws : List Jvm.Cond) (p0 : Int32) (q1 : Int64) (p2 : Int32)  (h0 : Heap) (n0 : Nat) (Z0 : n0 ≤ h0.size)  :
    MetFree l x (head1 (Jvm.Cond.code x code maxLocals ret :: ws) room_1) (fun a U => a = #[(.int p0), (.long q1), (.int p2)] ∧ Z.Warmed39 U.vm ∧ U.heap = h0) (fun _ _ _ _ _ => True) (fun _ U o U' => ∃ v L, o = .returned v ∧ (Qo0 Z p0 q1 p2 h0 n0) v U'.heap L ∧ FrameEnd U o U' L 0 0) := by
  refine ofWp (Q := Qo0 Z p0 q1 p2 h0 n0) own_pl0 (fun m => own_ef0 m p0 q1 p2) ?_
  intro p e s m below meth c T0 hx hby hml hown hnm hlk hret hZ X0 e0
  change s.vm.findClass "com/example/inverso/inverso/index/RiceListMinimumLengthPinLaw" = some m.cls at hown
  have NF0 := Fr.nil n0
  have J62 : ∀ (T : State) (locs : List Loc) (cells slots : Nat) (X : Stand p l e room_1 s m #[(.int p0), (.long q1), (.int p2)] below meth c T locs cells slots) (eT : T.heap = h0) (NF : Fr n0 locs) (hC : cells ≤ 0) (hS : slots ≤ 0) (x0 : Int32) (w1 : Int64) (x3 : Int32) (x4 : Int32) (w5 : Int64) (x7 : Int32) (w8 : Int64) (w10 : Int64) , (f0_0 p0 q1 p2) = (f0_62 x0 w1 x3 x4 w5 x7 w8 w10) → Wp p e below (Gd s (Qo0 Z p0 q1 p2 h0 n0) 0 0) (T.setTop (mkF m 62 #[.val (.int x0), .val (.long w1), .second, .val (.int x3), .val (.int x4), .val (.long w5), .second, .val (.int x7), .val (.long w8), .second, .val (.long w10), .second, .unset, .unset] [])) := by
    intro T locs cells slots X eT NF hC hS x0 w1 x3 x4 w5 x7 w8 w10 hv
    have hv1 : (f0_0 p0 q1 p2) = (if (lcmpW ((8 : Int64) * w8) w10) < (0 : Int32) then (0 : Int32) else (if (lcmpW (((8 : Int64) * w8) - w10) (8 : Int64)) < (0 : Int32) then (1 : Int32) else (0 : Int32))) := hv
    refine Wp.via (fun _ k => X.ldc2Long hx hown (mvT hZ (hw _ (List.mem_of_getElem? (i := 10) rfl))) (g := (mkF m 62 #[.val (.int x0), .val (.long w1), .second, .val (.int x3), .val (.int x4), .val (.long w5), .second, .val (.int x7), .val (.long w8), .second, .val (.long w10), .second, .unset, .unset] [])) rfl (hb hby at_62) _ k) ?_
    show Wp p e below _ (T.setTop (mkF m 65 #[.val (.int x0), .val (.long w1), .second, .val (.int x3), .val (.int x4), .val (.long w5), .second, .val (.int x7), .val (.long w8), .second, .val (.long w10), .second, .unset, .unset] [(.long (8 : Int64))]))
    refine Wp.via (fun _ k => XS.lload X.here hx rfl (hb hby at_65) rfl k) ?_
    show Wp p e below _ (T.setTop (mkF m 67 #[.val (.int x0), .val (.long w1), .second, .val (.int x3), .val (.int x4), .val (.long w5), .second, .val (.int x7), .val (.long w8), .second, .val (.long w10), .second, .unset, .unset] [(.long w8), (.long (8 : Int64))]))
    refine Wp.via (fun _ k => XS.lmul X.here hx rfl (hb hby at_67) rfl k) ?_
    show Wp p e below _ (T.setTop (mkF m 68 #[.val (.int x0), .val (.long w1), .second, .val (.int x3), .val (.int x4), .val (.long w5), .second, .val (.int x7), .val (.long w8), .second, .val (.long w10), .second, .unset, .unset] [(.long ((8 : Int64) * w8))]))
    refine Wp.via (fun _ k => XS.lstore X.here hx rfl (hb hby at_68) rfl (l' := #[.val (.int x0), .val (.long w1), .second, .val (.int x3), .val (.int x4), .val (.long w5), .second, .val (.int x7), .val (.long w8), .second, .val (.long w10), .second, .val (.long ((8 : Int64) * w8)), .second]) rfl k) ?_
    show Wp p e below _ (T.setTop (mkF m 70 #[.val (.int x0), .val (.long w1), .second, .val (.int x3), .val (.int x4), .val (.long w5), .second, .val (.int x7), .val (.long w8), .second, .val (.long w10), .second, .val (.long ((8 : Int64) * w8)), .second] []))
    refine Wp.via (fun _ k => XS.lload X.here hx rfl (hb hby at_70) rfl k) ?_
    show Wp p e below _ (T.setTop (mkF m 72 #[.val (.int x0), .val (.long w1), .second, .val (.int x3), .val (.int x4), .val (.long w5), .second, .val (.int x7), .val (.long w8), .second, .val (.long w10), .second, .val (.long ((8 : Int64) * w8)), .second] [(.long ((8 : Int64) * w8))]))
    refine Wp.via (fun _ k => XS.lload X.here hx rfl (hb hby at_72) rfl k) ?_
    show Wp p e below _ (T.setTop (mkF m 74 #[.val (.int x0), .val (.long w1), .second, .val (.int x3), .val (.int x4), .val (.long w5), .second, .val (.int x7), .val (.long w8), .second, .val (.long w10), .second, .val (.long ((8 : Int64) * w8)), .second] [(.long w10), (.long ((8 : Int64) * w8))]))
    refine Wp.via (fun _ k => XS.lcmp X.here hx rfl (hb hby at_74) rfl k) ?_
    show Wp p e below _ (T.setTop (mkF m 75 #[.val (.int x0), .val (.long w1), .second, .val (.int x3), .val (.int x4), .val (.long w5), .second, .val (.int x7), .val (.long w8), .second, .val (.long w10), .second, .val (.long ((8 : Int64) * w8)), .second] [(.int (lcmpW ((8 : Int64) * w8) w10))]))
    by_cases hc2 : (lcmpW ((8 : Int64) * w8) w10) < (0 : Int32)
    ·
      have hv2_ := hv1.trans (if_pos hc2)
      refine Wp.via (fun _ k => XS.ifYes X.here hx rfl (pc0 := 75) (pc' := 94) rfl (hb hby at_75) rfl ((if0 _ _).trans (tlt hc2).1) (by decide) (by decide) k) ?_
      show Wp p e below _ (T.setTop (mkF m 94 #[.val (.int x0), .val (.long w1), .second, .val (.int x3), .val (.int x4), .val (.long w5), .second, .val (.int x7), .val (.long w8), .second, .val (.long w10), .second, .val (.long ((8 : Int64) * w8)), .second] []))
      refine Wp.via (fun _ k => XS.iconst X.here hx rfl (hb hby at_94) k) ?_
      show Wp p e below _ (T.setTop (mkF m 95 #[.val (.int x0), .val (.long w1), .second, .val (.int x3), .val (.int x4), .val (.long w5), .second, .val (.int x7), .val (.long w8), .second, .val (.long w10), .second, .val (.long ((8 : Int64) * w8)), .second] [(.int (0 : Int32))]))
      exact Wp.retI X hlk hx hret (by simp) (by first | rfl | decide) (hb hby at_95) ⟨by rw [← hv2_, own_law], NF⟩ (by omega) (by omega)
    ·
      have hv2_ := hv1.trans (if_neg hc2)
      refine Wp.via (fun _ k => XS.ifNo X.here hx rfl (hb hby at_75) rfl ((if0 _ _).trans (flt hc2).1) k) ?_
      show Wp p e below _ (T.setTop (mkF m 78 #[.val (.int x0), .val (.long w1), .second, .val (.int x3), .val (.int x4), .val (.long w5), .second, .val (.int x7), .val (.long w8), .second, .val (.long w10), .second, .val (.long ((8 : Int64) * w8)), .second] []))
      refine Wp.via (fun _ k => XS.lload X.here hx rfl (hb hby at_78) rfl k) ?_
      show Wp p e below _ (T.setTop (mkF m 80 #[.val (.int x0), .val (.long w1), .second, .val (.int x3), .val (.int x4), .val (.long w5), .second, .val (.int x7), .val (.long w8), .second, .val (.long w10), .second, .val (.long ((8 : Int64) * w8)), .second] [(.long ((8 : Int64) * w8))]))
      refine Wp.via (fun _ k => XS.lload X.here hx rfl (hb hby at_80) rfl k) ?_
      show Wp p e below _ (T.setTop (mkF m 82 #[.val (.int x0), .val (.long w1), .second, .val (.int x3), .val (.int x4), .val (.long w5), .second, .val (.int x7), .val (.long w8), .second, .val (.long w10), .second, .val (.long ((8 : Int64) * w8)), .second] [(.long w10), (.long ((8 : Int64) * w8))]))
      refine Wp.via (fun _ k => XS.lsub X.here hx rfl (hb hby at_82) rfl k) ?_
      show Wp p e below _ (T.setTop (mkF m 83 #[.val (.int x0), .val (.long w1), .second, .val (.int x3), .val (.int x4), .val (.long w5), .second, .val (.int x7), .val (.long w8), .second, .val (.long w10), .second, .val (.long ((8 : Int64) * w8)), .second] [(.long (((8 : Int64) * w8) - w10))]))
      refine Wp.via (fun _ k => X.ldc2Long hx hown (mvT hZ (hw _ (List.mem_of_getElem? (i := 10) rfl))) (g := (mkF m 83 #[.val (.int x0), .val (.long w1), .second, .val (.int x3), .val (.int x4), .val (.long w5), .second, .val (.int x7), .val (.long w8), .second, .val (.long w10), .second, .val (.long ((8 : Int64) * w8)), .second] [(.long (((8 : Int64) * w8) - w10))])) rfl (hb hby at_83) _ k) ?_
      show Wp p e below _ (T.setTop (mkF m 86 #[.val (.int x0), .val (.long w1), .second, .val (.int x3), .val (.int x4), .val (.long w5), .second, .val (.int x7), .val (.long w8), .second, .val (.long w10), .second, .val (.long ((8 : Int64) * w8)), .second] [(.long (8 : Int64)), (.long (((8 : Int64) * w8) - w10))]))
      refine Wp.via (fun _ k => XS.lcmp X.here hx rfl (hb hby at_86) rfl k) ?_
      show Wp p e below _ (T.setTop (mkF m 87 #[.val (.int x0), .val (.long w1), .second, .val (.int x3), .val (.int x4), .val (.long w5), .second, .val (.int x7), .val (.long w8), .second, .val (.long w10), .second, .val (.long ((8 : Int64) * w8)), .second] [(.int (lcmpW (((8 : Int64) * w8) - w10) (8 : Int64)))]))
      by_cases hc3 : (lcmpW (((8 : Int64) * w8) - w10) (8 : Int64)) < (0 : Int32)
      ·
        have hv3_ := hv2_.trans (if_pos hc3)
        refine Wp.via (fun _ k => XS.ifNo X.here hx rfl (hb hby at_87) rfl ((if0 _ _).trans (tlt hc3).2.1) k) ?_
        show Wp p e below _ (T.setTop (mkF m 90 #[.val (.int x0), .val (.long w1), .second, .val (.int x3), .val (.int x4), .val (.long w5), .second, .val (.int x7), .val (.long w8), .second, .val (.long w10), .second, .val (.long ((8 : Int64) * w8)), .second] []))
        refine Wp.via (fun _ k => XS.iconst X.here hx rfl (hb hby at_90) k) ?_
        show Wp p e below _ (T.setTop (mkF m 91 #[.val (.int x0), .val (.long w1), .second, .val (.int x3), .val (.int x4), .val (.long w5), .second, .val (.int x7), .val (.long w8), .second, .val (.long w10), .second, .val (.long ((8 : Int64) * w8)), .second] [(.int (1 : Int32))]))
        refine Wp.via (fun _ k => XS.goto X.here hx rfl (pc0 := 91) (pc' := 95) rfl (hb hby at_91) (by decide) (by decide) k) ?_
        show Wp p e below _ (T.setTop (mkF m 95 #[.val (.int x0), .val (.long w1), .second, .val (.int x3), .val (.int x4), .val (.long w5), .second, .val (.int x7), .val (.long w8), .second, .val (.long w10), .second, .val (.long ((8 : Int64) * w8)), .second] [(.int (1 : Int32))]))
        exact Wp.retI X hlk hx hret (by simp) (by first | rfl | decide) (hb hby at_95) ⟨by rw [← hv3_, own_law], NF⟩ (by omega) (by omega)
      ·
        have hv3_ := hv2_.trans (if_neg hc3)
        refine Wp.via (fun _ k => XS.ifYes X.here hx rfl (pc0 := 87) (pc' := 94) rfl (hb hby at_87) rfl ((if0 _ _).trans (flt hc3).2.1) (by decide) (by decide) k) ?_
        show Wp p e below _ (T.setTop (mkF m 94 #[.val (.int x0), .val (.long w1), .second, .val (.int x3), .val (.int x4), .val (.long w5), .second, .val (.int x7), .val (.long w8), .second, .val (.long w10), .second, .val (.long ((8 : Int64) * w8)), .second] []))
        refine Wp.via (fun _ k => XS.iconst X.here hx rfl (hb hby at_94) k) ?_
        show Wp p e below _ (T.setTop (mkF m 95 #[.val (.int x0), .val (.long w1), .second, .val (.int x3), .val (.int x4), .val (.long w5), .second, .val (.int x7), .val (.long w8), .second, .val (.long w10), .second, .val (.long ((8 : Int64) * w8)), .second] [(.int (0 : Int32))]))
        exact Wp.retI X hlk hx hret (by simp) (by first | rfl | decide) (hb hby at_95) ⟨by rw [← hv3_, own_law], NF⟩ (by omega) (by omega)
  have J24 : ∀ (T : State) (locs : List Loc) (cells slots : Nat) (X : Stand p l e room_1 s m #[(.int p0), (.long q1), (.int p2)] below meth c T locs cells slots) (eT : T.heap = h0) (NF : Fr n0 locs) (hC : cells ≤ 0) (hS : slots ≤ 0) (x0 : Int32) (w1 : Int64) (x3 : Int32) (x4 : Int32) (w5 : Int64) (y0 : Int32) , (f0_0 p0 q1 p2) = (f0_24 x0 w1 x3 x4 w5 y0) → Wp p e below (Gd s (Qo0 Z p0 q1 p2 h0 n0) 0 0) (T.setTop (mkF m 24 #[.val (.int x0), .val (.long w1), .second, .val (.int x3), .val (.int x4), .val (.long w5), .second, .unset, .unset, .unset, .unset, .unset, .unset, .unset] [(.int y0)])) := by
    intro T locs cells slots X eT NF hC hS x0 w1 x3 x4 w5 y0 hv
    have hv4 : (f0_0 p0 q1 p2) = (if y0 = (0 : Int32) then (f0_62 x0 w1 x3 x4 w5 y0 (f1_0 x4 w5 y0) (((2 : Int64) * (x4.toInt64)) + w5)) else (f0_62 x0 w1 x3 x4 w5 y0 (f1_0 x4 w5 y0) ((((2 : Int64) * (x4.toInt64)) + w5) + (10 : Int64)))) := hv
    refine Wp.via (fun _ k => XS.istore X.here hx rfl (hb hby at_24) rfl (l' := #[.val (.int x0), .val (.long w1), .second, .val (.int x3), .val (.int x4), .val (.long w5), .second, .val (.int y0), .unset, .unset, .unset, .unset, .unset, .unset]) rfl k) ?_
    show Wp p e below _ (T.setTop (mkF m 26 #[.val (.int x0), .val (.long w1), .second, .val (.int x3), .val (.int x4), .val (.long w5), .second, .val (.int y0), .unset, .unset, .unset, .unset, .unset, .unset] []))
    refine Wp.via (fun _ k => XS.iload X.here hx rfl (hb hby at_26) rfl k) ?_
    show Wp p e below _ (T.setTop (mkF m 28 #[.val (.int x0), .val (.long w1), .second, .val (.int x3), .val (.int x4), .val (.long w5), .second, .val (.int y0), .unset, .unset, .unset, .unset, .unset, .unset] [(.int x4)]))
    refine Wp.via (fun _ k => XS.lload X.here hx rfl (hb hby at_28) rfl k) ?_
    show Wp p e below _ (T.setTop (mkF m 30 #[.val (.int x0), .val (.long w1), .second, .val (.int x3), .val (.int x4), .val (.long w5), .second, .val (.int y0), .unset, .unset, .unset, .unset, .unset, .unset] [(.long w5), (.int x4)]))
    refine Wp.via (fun _ k => XS.iload X.here hx rfl (hb hby at_30) rfl k) ?_
    show Wp p e below _ (T.setTop (mkF m 32 #[.val (.int x0), .val (.long w1), .second, .val (.int x3), .val (.int x4), .val (.long w5), .second, .val (.int y0), .unset, .unset, .unset, .unset, .unset, .unset] [(.int y0), (.long w5), (.int x4)]))
    obtain ⟨_, _, ⟨T5, L5, k5, n5⟩, -, X5, ⟨Lc5, hQ5, l5, y5, z5⟩, st5⟩ := Jvm.LawKit.callS X hx (y := (⟨"com/example/inverso/inverso/index/RiceList", "minimumLength", "(IJZ)J"⟩ : MethodName)) hown (mvT hZ (hw _ (List.mem_of_getElem? (i := 2) rfl))) (mvT hZ (hw _ (List.mem_of_getElem? (i := 3) rfl))) (mvT hZ (hw _ (List.mem_of_getElem? (i := 4) rfl))) (mvT hZ (hw _ (List.mem_of_getElem? (i := 5) rfl))) (by decide) (backOf (W := 0) (rm1 l Z aw hw [] x4 w5 y0  h0 n0 Z0 ) hZ (hw _ (List.mem_of_getElem? (i := 5) rfl)) (hw _ (List.mem_of_getElem? (i := 4) rfl)) (by decide) (by decide)) (g := (mkF m 32 #[.val (.int x0), .val (.long w1), .second, .val (.int x3), .val (.int x4), .val (.long w5), .second, .val (.int y0), .unset, .unset, .unset, .unset, .unset, .unset] [(.int y0), (.long w5), (.int x4)])) rfl (by rw [hml]; rfl) (argsL := [(.int x4), (.long w5), (.int y0)]) (rest := []) (lenOf own_pd0 rfl) rfl (by show 2 * 0 + _ ≤ _; exact Nat.le_of_eq rfl) (hb hby at_32) (fun _ _ => ⟨rfl, eT, (show cells + 0 ≤ room_1.cells from Nat.le_trans (by omega : cells + 0 ≤ 0) (by decide)), (show slots + 0 ≤ room_1.slots from Nat.le_trans (by omega : slots + 0 ≤ 0) (by decide))⟩)
    dsimp only [Pt.U, Pt.locs, Pt.cells, Pt.slots] at X5 l5 y5 z5 st5 hQ5
    subst l5 y5 z5
    obtain ⟨rfl, N5, e5⟩ := hQ5
    have NF5 := Fr.app NF N5
    refine Wp.via st5 ?_
    show Wp p e below _ (T5.setTop (mkF m 35 #[.val (.int x0), .val (.long w1), .second, .val (.int x3), .val (.int x4), .val (.long w5), .second, .val (.int y0), .unset, .unset, .unset, .unset, .unset, .unset] [(.long (f1_0 x4 w5 y0))]))
    refine Wp.via (fun _ k => XS.lstore X5.here hx rfl (hb hby at_35) rfl (l' := #[.val (.int x0), .val (.long w1), .second, .val (.int x3), .val (.int x4), .val (.long w5), .second, .val (.int y0), .val (.long (f1_0 x4 w5 y0)), .second, .unset, .unset, .unset, .unset]) rfl k) ?_
    show Wp p e below _ (T5.setTop (mkF m 37 #[.val (.int x0), .val (.long w1), .second, .val (.int x3), .val (.int x4), .val (.long w5), .second, .val (.int y0), .val (.long (f1_0 x4 w5 y0)), .second, .unset, .unset, .unset, .unset] []))
    refine Wp.via (fun _ k => X5.ldc2Long hx hown (mvT hZ (hw _ (List.mem_of_getElem? (i := 8) rfl))) (g := (mkF m 37 #[.val (.int x0), .val (.long w1), .second, .val (.int x3), .val (.int x4), .val (.long w5), .second, .val (.int y0), .val (.long (f1_0 x4 w5 y0)), .second, .unset, .unset, .unset, .unset] [])) rfl (hb hby at_37) _ k) ?_
    show Wp p e below _ (T5.setTop (mkF m 40 #[.val (.int x0), .val (.long w1), .second, .val (.int x3), .val (.int x4), .val (.long w5), .second, .val (.int y0), .val (.long (f1_0 x4 w5 y0)), .second, .unset, .unset, .unset, .unset] [(.long (2 : Int64))]))
    refine Wp.via (fun _ k => XS.iload X5.here hx rfl (hb hby at_40) rfl k) ?_
    show Wp p e below _ (T5.setTop (mkF m 42 #[.val (.int x0), .val (.long w1), .second, .val (.int x3), .val (.int x4), .val (.long w5), .second, .val (.int y0), .val (.long (f1_0 x4 w5 y0)), .second, .unset, .unset, .unset, .unset] [(.int x4), (.long (2 : Int64))]))
    refine Wp.via (fun _ k => XS.i2l X5.here hx rfl (hb hby at_42) rfl k) ?_
    show Wp p e below _ (T5.setTop (mkF m 43 #[.val (.int x0), .val (.long w1), .second, .val (.int x3), .val (.int x4), .val (.long w5), .second, .val (.int y0), .val (.long (f1_0 x4 w5 y0)), .second, .unset, .unset, .unset, .unset] [(.long (x4.toInt64)), (.long (2 : Int64))]))
    refine Wp.via (fun _ k => XS.lmul X5.here hx rfl (hb hby at_43) rfl k) ?_
    show Wp p e below _ (T5.setTop (mkF m 44 #[.val (.int x0), .val (.long w1), .second, .val (.int x3), .val (.int x4), .val (.long w5), .second, .val (.int y0), .val (.long (f1_0 x4 w5 y0)), .second, .unset, .unset, .unset, .unset] [(.long ((2 : Int64) * (x4.toInt64)))]))
    refine Wp.via (fun _ k => XS.lload X5.here hx rfl (hb hby at_44) rfl k) ?_
    show Wp p e below _ (T5.setTop (mkF m 46 #[.val (.int x0), .val (.long w1), .second, .val (.int x3), .val (.int x4), .val (.long w5), .second, .val (.int y0), .val (.long (f1_0 x4 w5 y0)), .second, .unset, .unset, .unset, .unset] [(.long w5), (.long ((2 : Int64) * (x4.toInt64)))]))
    refine Wp.via (fun _ k => XS.ladd X5.here hx rfl (hb hby at_46) rfl k) ?_
    show Wp p e below _ (T5.setTop (mkF m 47 #[.val (.int x0), .val (.long w1), .second, .val (.int x3), .val (.int x4), .val (.long w5), .second, .val (.int y0), .val (.long (f1_0 x4 w5 y0)), .second, .unset, .unset, .unset, .unset] [(.long (((2 : Int64) * (x4.toInt64)) + w5))]))
    refine Wp.via (fun _ k => XS.lstore X5.here hx rfl (hb hby at_47) rfl (l' := #[.val (.int x0), .val (.long w1), .second, .val (.int x3), .val (.int x4), .val (.long w5), .second, .val (.int y0), .val (.long (f1_0 x4 w5 y0)), .second, .val (.long (((2 : Int64) * (x4.toInt64)) + w5)), .second, .unset, .unset]) rfl k) ?_
    show Wp p e below _ (T5.setTop (mkF m 49 #[.val (.int x0), .val (.long w1), .second, .val (.int x3), .val (.int x4), .val (.long w5), .second, .val (.int y0), .val (.long (f1_0 x4 w5 y0)), .second, .val (.long (((2 : Int64) * (x4.toInt64)) + w5)), .second, .unset, .unset] []))
    refine Wp.via (fun _ k => XS.iload X5.here hx rfl (hb hby at_49) rfl k) ?_
    show Wp p e below _ (T5.setTop (mkF m 51 #[.val (.int x0), .val (.long w1), .second, .val (.int x3), .val (.int x4), .val (.long w5), .second, .val (.int y0), .val (.long (f1_0 x4 w5 y0)), .second, .val (.long (((2 : Int64) * (x4.toInt64)) + w5)), .second, .unset, .unset] [(.int y0)]))
    by_cases hc6 : y0 = (0 : Int32)
    ·
      have hv6_ := hv4.trans (if_pos hc6)
      refine Wp.via (fun _ k => XS.ifYes X5.here hx rfl (pc0 := 51) (pc' := 62) rfl (hb hby at_51) rfl ((if0 _ _).trans (teq hc6).1) (by decide) (by decide) k) ?_
      show Wp p e below _ (T5.setTop (mkF m 62 #[.val (.int x0), .val (.long w1), .second, .val (.int x3), .val (.int x4), .val (.long w5), .second, .val (.int y0), .val (.long (f1_0 x4 w5 y0)), .second, .val (.long (((2 : Int64) * (x4.toInt64)) + w5)), .second, .unset, .unset] []))
      exact J62 T5 _ _ _ X5 e5 NF5 (by omega) (by omega) x0 w1 x3 x4 w5 y0 (f1_0 x4 w5 y0) (((2 : Int64) * (x4.toInt64)) + w5) hv6_
    ·
      have hv6_ := hv4.trans (if_neg hc6)
      refine Wp.via (fun _ k => XS.ifNo X5.here hx rfl (hb hby at_51) rfl ((if0 _ _).trans (feq hc6).1) k) ?_
      show Wp p e below _ (T5.setTop (mkF m 54 #[.val (.int x0), .val (.long w1), .second, .val (.int x3), .val (.int x4), .val (.long w5), .second, .val (.int y0), .val (.long (f1_0 x4 w5 y0)), .second, .val (.long (((2 : Int64) * (x4.toInt64)) + w5)), .second, .unset, .unset] []))
      refine Wp.via (fun _ k => XS.lload X5.here hx rfl (hb hby at_54) rfl k) ?_
      show Wp p e below _ (T5.setTop (mkF m 56 #[.val (.int x0), .val (.long w1), .second, .val (.int x3), .val (.int x4), .val (.long w5), .second, .val (.int y0), .val (.long (f1_0 x4 w5 y0)), .second, .val (.long (((2 : Int64) * (x4.toInt64)) + w5)), .second, .unset, .unset] [(.long (((2 : Int64) * (x4.toInt64)) + w5))]))
      refine Wp.via (fun _ k => X5.ldc2Long hx hown (mvT hZ (hw _ (List.mem_of_getElem? (i := 9) rfl))) (g := (mkF m 56 #[.val (.int x0), .val (.long w1), .second, .val (.int x3), .val (.int x4), .val (.long w5), .second, .val (.int y0), .val (.long (f1_0 x4 w5 y0)), .second, .val (.long (((2 : Int64) * (x4.toInt64)) + w5)), .second, .unset, .unset] [(.long (((2 : Int64) * (x4.toInt64)) + w5))])) rfl (hb hby at_56) _ k) ?_
      show Wp p e below _ (T5.setTop (mkF m 59 #[.val (.int x0), .val (.long w1), .second, .val (.int x3), .val (.int x4), .val (.long w5), .second, .val (.int y0), .val (.long (f1_0 x4 w5 y0)), .second, .val (.long (((2 : Int64) * (x4.toInt64)) + w5)), .second, .unset, .unset] [(.long (10 : Int64)), (.long (((2 : Int64) * (x4.toInt64)) + w5))]))
      refine Wp.via (fun _ k => XS.ladd X5.here hx rfl (hb hby at_59) rfl k) ?_
      show Wp p e below _ (T5.setTop (mkF m 60 #[.val (.int x0), .val (.long w1), .second, .val (.int x3), .val (.int x4), .val (.long w5), .second, .val (.int y0), .val (.long (f1_0 x4 w5 y0)), .second, .val (.long (((2 : Int64) * (x4.toInt64)) + w5)), .second, .unset, .unset] [(.long ((((2 : Int64) * (x4.toInt64)) + w5) + (10 : Int64)))]))
      refine Wp.via (fun _ k => XS.lstore X5.here hx rfl (hb hby at_60) rfl (l' := #[.val (.int x0), .val (.long w1), .second, .val (.int x3), .val (.int x4), .val (.long w5), .second, .val (.int y0), .val (.long (f1_0 x4 w5 y0)), .second, .val (.long ((((2 : Int64) * (x4.toInt64)) + w5) + (10 : Int64))), .second, .unset, .unset]) rfl k) ?_
      show Wp p e below _ (T5.setTop (mkF m 62 #[.val (.int x0), .val (.long w1), .second, .val (.int x3), .val (.int x4), .val (.long w5), .second, .val (.int y0), .val (.long (f1_0 x4 w5 y0)), .second, .val (.long ((((2 : Int64) * (x4.toInt64)) + w5) + (10 : Int64))), .second, .unset, .unset] []))
      exact J62 T5 _ _ _ X5 e5 NF5 (by omega) (by omega) x0 w1 x3 x4 w5 y0 (f1_0 x4 w5 y0) ((((2 : Int64) * (x4.toInt64)) + w5) + (10 : Int64)) hv6_
  have hv : (f0_0 p0 q1 p2) = (if (p2 &&& (1 : Int32)) = (0 : Int32) then (f0_24 p0 q1 p2 (p0 &&& (2147483647 : Int32)) (q1 &&& (4611686018427387903 : Int64)) (0 : Int32)) else (f0_24 p0 q1 p2 (p0 &&& (2147483647 : Int32)) (q1 &&& (4611686018427387903 : Int64)) (1 : Int32))) := rfl
  refine Wp.via (fun _ k => XS.iloadN X0.here hx rfl (hb hby at_0) rfl k) ?_
  show Wp p e below _ (T0.setTop (mkF m 1 #[.val (.int p0), .val (.long q1), .second, .val (.int p2), .unset, .unset, .unset, .unset, .unset, .unset, .unset, .unset, .unset, .unset] [(.int p0)]))
  refine Wp.via (fun _ k => X0.ldcInt hx hown (mvT hZ (hw _ (List.mem_of_getElem? (i := 0) rfl))) (g := (mkF m 1 #[.val (.int p0), .val (.long q1), .second, .val (.int p2), .unset, .unset, .unset, .unset, .unset, .unset, .unset, .unset, .unset, .unset] [(.int p0)])) rfl (hb hby at_1) _ k) ?_
  show Wp p e below _ (T0.setTop (mkF m 3 #[.val (.int p0), .val (.long q1), .second, .val (.int p2), .unset, .unset, .unset, .unset, .unset, .unset, .unset, .unset, .unset, .unset] [(.int (2147483647 : Int32)), (.int p0)]))
  refine Wp.via (fun _ k => XS.iand X0.here hx rfl (hb hby at_3) rfl k) ?_
  show Wp p e below _ (T0.setTop (mkF m 4 #[.val (.int p0), .val (.long q1), .second, .val (.int p2), .unset, .unset, .unset, .unset, .unset, .unset, .unset, .unset, .unset, .unset] [(.int (p0 &&& (2147483647 : Int32)))]))
  refine Wp.via (fun _ k => XS.istore X0.here hx rfl (hb hby at_4) rfl (l' := #[.val (.int p0), .val (.long q1), .second, .val (.int p2), .val (.int (p0 &&& (2147483647 : Int32))), .unset, .unset, .unset, .unset, .unset, .unset, .unset, .unset, .unset]) rfl k) ?_
  show Wp p e below _ (T0.setTop (mkF m 6 #[.val (.int p0), .val (.long q1), .second, .val (.int p2), .val (.int (p0 &&& (2147483647 : Int32))), .unset, .unset, .unset, .unset, .unset, .unset, .unset, .unset, .unset] []))
  refine Wp.via (fun _ k => XS.lloadN X0.here hx rfl (hb hby at_6) rfl k) ?_
  show Wp p e below _ (T0.setTop (mkF m 7 #[.val (.int p0), .val (.long q1), .second, .val (.int p2), .val (.int (p0 &&& (2147483647 : Int32))), .unset, .unset, .unset, .unset, .unset, .unset, .unset, .unset, .unset] [(.long q1)]))
  refine Wp.via (fun _ k => X0.ldc2Long hx hown (mvT hZ (hw _ (List.mem_of_getElem? (i := 1) rfl))) (g := (mkF m 7 #[.val (.int p0), .val (.long q1), .second, .val (.int p2), .val (.int (p0 &&& (2147483647 : Int32))), .unset, .unset, .unset, .unset, .unset, .unset, .unset, .unset, .unset] [(.long q1)])) rfl (hb hby at_7) _ k) ?_
  show Wp p e below _ (T0.setTop (mkF m 10 #[.val (.int p0), .val (.long q1), .second, .val (.int p2), .val (.int (p0 &&& (2147483647 : Int32))), .unset, .unset, .unset, .unset, .unset, .unset, .unset, .unset, .unset] [(.long (4611686018427387903 : Int64)), (.long q1)]))
  refine Wp.via (fun _ k => XS.land X0.here hx rfl (hb hby at_10) rfl k) ?_
  show Wp p e below _ (T0.setTop (mkF m 11 #[.val (.int p0), .val (.long q1), .second, .val (.int p2), .val (.int (p0 &&& (2147483647 : Int32))), .unset, .unset, .unset, .unset, .unset, .unset, .unset, .unset, .unset] [(.long (q1 &&& (4611686018427387903 : Int64)))]))
  refine Wp.via (fun _ k => XS.lstore X0.here hx rfl (hb hby at_11) rfl (l' := #[.val (.int p0), .val (.long q1), .second, .val (.int p2), .val (.int (p0 &&& (2147483647 : Int32))), .val (.long (q1 &&& (4611686018427387903 : Int64))), .second, .unset, .unset, .unset, .unset, .unset, .unset, .unset]) rfl k) ?_
  show Wp p e below _ (T0.setTop (mkF m 13 #[.val (.int p0), .val (.long q1), .second, .val (.int p2), .val (.int (p0 &&& (2147483647 : Int32))), .val (.long (q1 &&& (4611686018427387903 : Int64))), .second, .unset, .unset, .unset, .unset, .unset, .unset, .unset] []))
  refine Wp.via (fun _ k => XS.iloadN X0.here hx rfl (hb hby at_13) rfl k) ?_
  show Wp p e below _ (T0.setTop (mkF m 14 #[.val (.int p0), .val (.long q1), .second, .val (.int p2), .val (.int (p0 &&& (2147483647 : Int32))), .val (.long (q1 &&& (4611686018427387903 : Int64))), .second, .unset, .unset, .unset, .unset, .unset, .unset, .unset] [(.int p2)]))
  refine Wp.via (fun _ k => XS.iconst X0.here hx rfl (hb hby at_14) k) ?_
  show Wp p e below _ (T0.setTop (mkF m 15 #[.val (.int p0), .val (.long q1), .second, .val (.int p2), .val (.int (p0 &&& (2147483647 : Int32))), .val (.long (q1 &&& (4611686018427387903 : Int64))), .second, .unset, .unset, .unset, .unset, .unset, .unset, .unset] [(.int (1 : Int32)), (.int p2)]))
  refine Wp.via (fun _ k => XS.iand X0.here hx rfl (hb hby at_15) rfl k) ?_
  show Wp p e below _ (T0.setTop (mkF m 16 #[.val (.int p0), .val (.long q1), .second, .val (.int p2), .val (.int (p0 &&& (2147483647 : Int32))), .val (.long (q1 &&& (4611686018427387903 : Int64))), .second, .unset, .unset, .unset, .unset, .unset, .unset, .unset] [(.int (p2 &&& (1 : Int32)))]))
  by_cases hc7 : (p2 &&& (1 : Int32)) = (0 : Int32)
  ·
    have hv7_ := hv.trans (if_pos hc7)
    refine Wp.via (fun _ k => XS.ifYes X0.here hx rfl (pc0 := 16) (pc' := 23) rfl (hb hby at_16) rfl ((if0 _ _).trans (teq hc7).1) (by decide) (by decide) k) ?_
    show Wp p e below _ (T0.setTop (mkF m 23 #[.val (.int p0), .val (.long q1), .second, .val (.int p2), .val (.int (p0 &&& (2147483647 : Int32))), .val (.long (q1 &&& (4611686018427387903 : Int64))), .second, .unset, .unset, .unset, .unset, .unset, .unset, .unset] []))
    refine Wp.via (fun _ k => XS.iconst X0.here hx rfl (hb hby at_23) k) ?_
    show Wp p e below _ (T0.setTop (mkF m 24 #[.val (.int p0), .val (.long q1), .second, .val (.int p2), .val (.int (p0 &&& (2147483647 : Int32))), .val (.long (q1 &&& (4611686018427387903 : Int64))), .second, .unset, .unset, .unset, .unset, .unset, .unset, .unset] [(.int (0 : Int32))]))
    exact J24 T0 _ _ _ X0 e0 NF0 (by decide) (by decide) p0 q1 p2 (p0 &&& (2147483647 : Int32)) (q1 &&& (4611686018427387903 : Int64)) (0 : Int32) hv7_
  ·
    have hv7_ := hv.trans (if_neg hc7)
    refine Wp.via (fun _ k => XS.ifNo X0.here hx rfl (hb hby at_16) rfl ((if0 _ _).trans (feq hc7).1) k) ?_
    show Wp p e below _ (T0.setTop (mkF m 19 #[.val (.int p0), .val (.long q1), .second, .val (.int p2), .val (.int (p0 &&& (2147483647 : Int32))), .val (.long (q1 &&& (4611686018427387903 : Int64))), .second, .unset, .unset, .unset, .unset, .unset, .unset, .unset] []))
    refine Wp.via (fun _ k => XS.iconst X0.here hx rfl (hb hby at_19) k) ?_
    show Wp p e below _ (T0.setTop (mkF m 20 #[.val (.int p0), .val (.long q1), .second, .val (.int p2), .val (.int (p0 &&& (2147483647 : Int32))), .val (.long (q1 &&& (4611686018427387903 : Int64))), .second, .unset, .unset, .unset, .unset, .unset, .unset, .unset] [(.int (1 : Int32))]))
    refine Wp.via (fun _ k => XS.goto X0.here hx rfl (pc0 := 20) (pc' := 24) rfl (hb hby at_20) (by decide) (by decide) k) ?_
    show Wp p e below _ (T0.setTop (mkF m 24 #[.val (.int p0), .val (.long q1), .second, .val (.int p2), .val (.int (p0 &&& (2147483647 : Int32))), .val (.long (q1 &&& (4611686018427387903 : Int64))), .second, .unset, .unset, .unset, .unset, .unset, .unset, .unset] [(.int (1 : Int32))]))
    exact J24 T0 _ _ _ X0 e0 NF0 (by decide) (by decide) p0 q1 p2 (p0 &&& (2147483647 : Int32)) (q1 &&& (4611686018427387903 : Int64)) (1 : Int32) hv7_
set_option maxRecDepth 65536 in
set_option maxHeartbeats 40000000 in
theorem comes_1 {Post : Tables → Env → Array Value → State → Outcome → State → Prop} (hpost : ∀ tb e args s v u, (limb_1_1.after args s (.returned v) u = true ∧ limb_1_2.after args s (.returned v) u = true ∧ True) → FrameEnd s (.returned v) u (Jvm.fieldLocs frame_1_writes args s ++ Jvm.arrayLocs frame_1_arrays args s ++ Jvm.staticLocs frame_1_statics s) 0 0 → Post tb e args s (.returned v) u) :
    ArmFor flags0 classFile x code maxLocals ret World_1 tables_1 room_1 Calls_1 rest_1 Pre_1 Post := by
  intro l hfl _ _ p e ha hc hk s m args below hf hA hF happ hP
  obtain ⟨hcalls, hrest, hpre⟩ := hP
  obtain ⟨-, -, -, hnamed, -, -, -, hat⟩ := (Spec.applies_iff hf).mp happ
  obtain ⟨hg, hn⟩ := and_e (Cond.before_iff.mp (show (Jvm.Cond.and given_1 narrow_1).before args s = true from hpre))
  obtain ⟨g1, g2⟩ := and_e hg
  obtain ⟨g3, g4⟩ := and_e g2
  obtain ⟨g5, g6⟩ := and_e g4
  obtain ⟨w0, w1, w2, rfl⟩ : ∃ w0 w1 w2 : Value, args = #[w0, w1, w2] := by
    have hs : args.size = 3 := by simpa [Cond.value, given_1] using g1
    obtain ⟨L⟩ := args
    match L, hs with
    | [w0, w1, w2], _ => exact ⟨w0, w1, w2, rfl⟩
  have hw := fun d (hd : d ∈ tables_1) => atoms_spec (ws := Jvm.Cond.code x code maxLocals ret :: tables_1) hat d (List.mem_cons_of_mem _ hd)
  obtain ⟨i0, ei0⟩ := is_v g3
  obtain rfl : w0 = (.int i0) := Option.some.inj ei0
  obtain ⟨i1, ei1⟩ := isL_v g5
  obtain rfl : w1 = (.long i1) := Option.some.inj ei1
  obtain ⟨i2, ei2⟩ := is_v g6
  obtain rfl : w2 = (.int i2) := Option.some.inj ei2
  obtain ⟨n, o, h1, h2, h3, _, L, rfl, ⟨rfl, N⟩, hq⟩ := rm0 l s _ hw tables_1 i0 i1 i2 s.heap s.heap.size (Nat.le_refl _)  p e ha hc hk s m _ below hf ((Spec.applies_iff_loose hf).mp happ).1 ⟨rfl, State.Warmed39.refl s, rfl⟩ trivial
  refine ⟨n, _, h1, h2, h3, hpost _ _ _ _ _ _ ⟨Cond.after_iff.mpr rfl, Cond.after_iff.mpr (eq_i res_at (Term.int_eval (1)) rfl), trivial⟩ ⟨hq.1, hq.2.1, (hq.2.2.sift fun y hy => Or.inr (N y hy)).mono (by decide) (by decide)⟩⟩
theorem main_1_1 : Claimed_1_1 := comes_1 fun _ _ _ _ _ _ h hF => ⟨h.1, hF⟩
theorem main_1_2 : Claimed_1_2 := comes_1 fun _ _ _ _ _ _ h hF => ⟨h.2.1, hF⟩
end Jvm.Pilot.@@N@@
namespace Jvm.Pilot.@@N@@
open Jvm Jvm.ClassFile Sem Op Lib Jvm.Free Jvm.Stand Jvm.Pilot.@@N@@.Jvm.D
/-! MADE BY PROGRAM (witnessworld.py) out of the Statement's table words and the real class files: 10 classes; the members and pool entries that the words name. The judged class is class 1, her method 1. -/
namespace start1
open Jvm.ClassFile
def u (s : String) : CpInfo := .utf8 (stringToUtf16 s)
/-- a pool by its gaps: so many unusable entries, then the entry; so many at the end -/
def gap : Nat → List CpInfo → List CpInfo
  | 0, r => r
  | n + 1, r => .unusable :: gap n r
def poolList (es : List (Nat × CpInfo)) (last : Nat) : List CpInfo := es.foldr (fun e r => gap e.1 (e.2 :: r)) (gap last [])
def pool (es : List (Nat × CpInfo)) (last : Nat) : Array CpInfo := ⟨poolList es last⟩
def fileOf (pool : Array CpInfo) (this : Nat) (attrs : Array Attribute := #[]) (ms : Array MethodInfo := #[]) (fl : Nat := 33) (sup : Nat := 0) (ifs : Array Nat := #[]) (fds : Array FieldInfo := #[]) : ClassFile where
  minorVersion := 0
  majorVersion := 65
  constantPool := pool
  accessFlags := fl
  thisClass := this
  superClass := sup
  interfaces := ifs
  fields := fds
  methods := ms
  attributes := attrs
def plain (name : String) (sup : Option ClassId) : Class where
  name := name
  kind := .ordinary
  loader := none
  accessFlags := 33
  super := sup
  interfaces := #[]
  cf := none
  fields := #[]
  methods := #[]
  instanceTypes := #[]
  staticTypes := #[]
  resolved := #[]
  callSites := []
  init := .initialized
  statics := none
  mirror := none

def pool0 : Array CpInfo := pool [(5, u "<init>"), (0, u "()V"), (1, .class_ 10), (1, u "java/lang/Object")] 113

def k0m0 : Method := { name := "<init>", desc := "()V", sig := { parameters := [], returnType := none }, accessFlags := 1, code := none }
/-- java/lang/Object -/
def k0 : Class := { plain "java/lang/Object" none with
  accessFlags := 33
  interfaces := #[]
  cf := some (fileOf pool0 8 #[] #[{ accessFlags := 1, nameIndex := 5, descriptorIndex := 6, attributes := #[] }] 33 0 #[] #[])
  fields := #[]
  methods := #[k0m0]
  instanceTypes := #[]
  staticTypes := #[]
  resolved := Array.replicate 124 none
  statics := none }

def pool1 : Array CpInfo := pool [(2, .class_ 4), (1, u "java/lang/Object"), (0, u "<init>"), (0, u "()V"), (0, .integer 2147483647), (0, .long 4611686018427387903), (1, .methodref 11 12), (0, .class_ 13), (0, .nameAndType 14 15), (0, u "com/example/inverso/inverso/index/RiceList"), (0, u "minimumLength"), (0, u "(IJZ)J"), (0, .long 2), (1, .long 10), (1, .long 8), (1, .class_ 23), (0, u "com/example/inverso/inverso/index/RiceListMinimumLengthPinLaw"), (2, u "law"), (0, u "(IJI)Z")] 3

def k1m0 : Method := { name := "<init>", desc := "()V", sig := { parameters := [], returnType := none }, accessFlags := 2, code := none }
def k1c1 : Code := { maxStack := 4, maxLocals := 14, code := code, exceptionTable := #[], attributes := #[] }
def k1m1 : Method := { name := "law", desc := "(IJI)Z", sig := { parameters := [.int, .long, .int], returnType := some .boolean }, accessFlags := 9, code := some k1c1 }
/-- com/example/inverso/inverso/index/RiceListMinimumLengthPinLaw -/
def k1 : Class := { plain "com/example/inverso/inverso/index/RiceListMinimumLengthPinLaw" (some 0) with
  accessFlags := 49
  interfaces := #[]
  cf := some (fileOf pool1 22 #[] #[{ accessFlags := 2, nameIndex := 5, descriptorIndex := 6, attributes := #[] }, { accessFlags := 9, nameIndex := 26, descriptorIndex := 27, attributes := #[] }] 49 2 #[] #[])
  fields := #[]
  methods := #[k1m0, k1m1]
  instanceTypes := #[]
  staticTypes := #[]
  resolved := Array.replicate 31 none
  statics := none }

def pool2 : Array CpInfo := pool [(1, .class_ 2), (0, u "com/example/inverso/inverso/index/ListReader"), (0, .class_ 4), (0, u "java/lang/Object")] 11

/-- com/example/inverso/inverso/index/ListReader -/
def k2 : Class := { plain "com/example/inverso/inverso/index/ListReader" (some 0) with
  accessFlags := 1536
  interfaces := #[]
  cf := some (fileOf pool2 1 #[] #[] 1536 3 #[] #[])
  fields := #[]
  methods := #[]
  instanceTypes := #[]
  staticTypes := #[]
  resolved := Array.replicate 16 none
  statics := none }

def pool3 : Array CpInfo := pool [(2, .class_ 4), (1, u "java/lang/Object"), (8, .class_ 15), (1, u "com/example/inverso/inverso/index/RiceList"), (0, u "in"), (0, u "Lcom/example/inverso/inverso/index/RiceCode$Reader;"), (2, u "documentParameter"), (3, u "I"), (2, u "countParameter"), (9, u "positionParameter"), (6, .long 2), (5, .long 8), (20, .class_ 72), (0, u "com/example/inverso/inverso/index/ListReader"), (0, u "PARAMETER_BITS"), (11, u "minimumLength"), (0, u "(IJZ)J"), (9, .class_ 97), (0, u "com/example/inverso/inverso/index/RiceList$Coder")] 3

def k3c0 : Code := { maxStack := 4, maxLocals := 6, code := prog_140_method_5_code, exceptionTable := #[], attributes := #[] }
def k3m0 : Method := { name := "minimumLength", desc := "(IJZ)J", sig := { parameters := [.int, .long, .boolean], returnType := some .long }, accessFlags := 8, code := some k3c0 }
/-- com/example/inverso/inverso/index/RiceList -/
def k3 : Class := { plain "com/example/inverso/inverso/index/RiceList" (some 0) with
  accessFlags := 48
  interfaces := #[2]
  cf := some (fileOf pool3 13 #[.nestMembers #[96]] #[{ accessFlags := 8, nameIndex := 85, descriptorIndex := 86, attributes := #[] }] 48 2 #[71] #[{ accessFlags := 24, nameIndex := 73, descriptorIndex := 24, attributes := #[] }, { accessFlags := 18, nameIndex := 16, descriptorIndex := 17, attributes := #[] }, { accessFlags := 18, nameIndex := 20, descriptorIndex := 24, attributes := #[] }, { accessFlags := 18, nameIndex := 27, descriptorIndex := 24, attributes := #[] }, { accessFlags := 18, nameIndex := 37, descriptorIndex := 24, attributes := #[] }])
  fields := #[{ name := "PARAMETER_BITS", type := .int, accessFlags := 24, slot := 0, constantValue := 0 }, { name := "in", type := (.object "com/example/inverso/inverso/index/RiceCode$Reader"), accessFlags := 18, slot := 0, constantValue := 0 }, { name := "documentParameter", type := .int, accessFlags := 18, slot := 1, constantValue := 0 }, { name := "countParameter", type := .int, accessFlags := 18, slot := 2, constantValue := 0 }, { name := "positionParameter", type := .int, accessFlags := 18, slot := 3, constantValue := 0 }]
  methods := #[k3m0]
  instanceTypes := #[(.object "com/example/inverso/inverso/index/RiceCode$Reader"), .int, .int, .int]
  staticTypes := #[.int]
  resolved := Array.replicate 101 none
  statics := none }

def pool4 : Array CpInfo := pool [(1, u "java/lang/Cloneable"), (0, .class_ 1), (0, u "java/lang/Object"), (0, .class_ 3)] 3

/-- java/lang/Cloneable -/
def k4 : Class := { plain "java/lang/Cloneable" (some 0) with
  accessFlags := 1537
  interfaces := #[]
  cf := some (fileOf pool4 2 #[] #[] 1537 4 #[] #[])
  fields := #[]
  methods := #[]
  instanceTypes := #[]
  staticTypes := #[]
  resolved := Array.replicate 8 none
  statics := none }

def pool5 : Array CpInfo := pool [(1, u "java/io/Serializable"), (0, .class_ 1), (0, u "java/lang/Object"), (0, .class_ 3)] 3

/-- java/io/Serializable -/
def k5 : Class := { plain "java/io/Serializable" (some 0) with
  accessFlags := 1537
  interfaces := #[]
  cf := some (fileOf pool5 2 #[] #[] 1537 4 #[] #[])
  fields := #[]
  methods := #[]
  instanceTypes := #[]
  staticTypes := #[]
  resolved := Array.replicate 8 none
  statics := none }

/-- the primitive byte -/
def k6 : Class := { plain "byte" none with kind := .primitive 'B', accessFlags := 0x411 }
/-- [B -/
def k7 : Class := { plain "[B" (some 0) with kind := .array 6 .byte, interfaces := #[4, 5], accessFlags := 1041 }

/-- the primitive int -/
def k8 : Class := { plain "int" none with kind := .primitive 'I', accessFlags := 0x411 }
/-- [I -/
def k9 : Class := { plain "[I" (some 0) with kind := .array 8 .int, interfaces := #[4, 5], accessFlags := 1041 }

def heap : Heap := #[]
def classes : Array Class := #[k0, k1, k2, k3, k4, k5, k6, k7, k8, k9]
def interned : List (Array UInt16 × Addr) := []
def slotsUsed : Nat := 0
def theMethod : MethodId := ⟨1, 1⟩
def args0 : Array Value := #[.int 5, .long 7, .int 1]
def aboutOver (below : List Frame) : State where
  vm := { classes := classes, interned := interned.toArray }
  heap := heap
  slotsUsed := slotsUsed
  threads := #[{ frames := .invoking theMethod args0 :: below }]
def below0 : List Frame := [.native { method := ⟨0, 0⟩, args := #[] }]
def about1 : State := aboutOver below0
def p0 : Program := .bare "" "" ""
def e0 : Env := launch0.env 0 0 0
theorem w_frames : about1.frames = Frame.invoking theMethod args0 :: below0 := rfl
set_option maxRecDepth 65536 in
theorem w_args : argsFit about1.vm theMethod args0 = true := by decide +kernel
set_option maxRecDepth 65536 in
theorem w_heap : heapFits about1 = true := by decide +kernel
set_option maxRecDepth 65536 in
theorem w_runnable : about1.curStatus? = some .runnable := by decide +kernel
set_option maxRecDepth 65536 in
theorem w_alone : about1.alone = true := by decide +kernel
set_option maxRecDepth 65536 in
theorem w_named : about1.methodNamed? x = some theMethod := by decide +kernel
set_option maxRecDepth 65536 in
theorem w_hears : about1.hears theMethod below0 = true := by decide +kernel
set_option maxRecDepth 65536 in
theorem w_ripe : about1.ripe theMethod args0 below0 = true := by decide +kernel
theorem w_running : about1.status = .running := rfl
set_option maxRecDepth 65536 in
theorem w_room : about1.hasRoom e0.platform room_1 = true :=
  launch0.hasRoom_least _ room_1 (by decide +kernel) (by decide +kernel) (by decide +kernel) (by decide +kernel) (by decide +kernel) (by decide +kernel)
theorem allAtoms_all (ts : List Jvm.Cond) (a : Array Jvm.Value) (st : Jvm.State) : (allAtoms ts).before a st = ts.all (fun c => c.before a st) := by
  induction ts with
  | nil => rfl
  | cons c t ih =>
    show (Jvm.Cond.and c (allAtoms t)).before a st = _
    rw [Jvm.Cond.before_and, ih, List.all_cons]
def words1 : List Jvm.Cond := Jvm.Cond.code x code maxLocals ret :: tables_1
/-- a 'code' word, met by the world's own term for the bytes: nothing is compared byte by byte -/
theorem code_word {y : MethodName} {bytes : ByteArray} {mx : Nat} {rt : Option FieldType} {a : Array Value} {s : State} {m : MethodId} {meth : Method} {c : Code} (h1 : s.methodNamed? y = some m) (h2 : s.vm.method? m = some meth) (h3 : meth.code = some c) (h4 : c.code = bytes)
    (h5 : (c.maxLocals == mx && c.exceptionTable.isEmpty && decide (c.maxStack ≤ mostOperands) && decide (meth.sig.returnType = rt) && !meth.locks && decide (parseMethodDescriptor y.desc = some meth.sig)) = true) : (Jvm.Cond.code y bytes mx rt).before a s = true := by
  simp only [Bool.and_eq_true, beq_iff_eq, Bool.not_eq_true', decide_eq_true_eq] at h5
  obtain ⟨⟨⟨⟨⟨g1, g2⟩, g3⟩, g4⟩, g5⟩, g6⟩ := h5
  simp [Cond.before, Cond.holds, Cond.value, h1, h2, h3, h4, g1, g2, g3, g4, g5, g6]
def isCode : Jvm.Cond → Bool
  | .code _ _ _ _ => true
  | _ => false
theorem all_split {L : List Jvm.Cond} {P : Jvm.Cond → Bool} (h1 : L.all (fun c => isCode c || P c) = true) (h2 : ∀ c ∈ L.filter isCode, P c = true) : L.all P = true := by
  refine List.all_eq_true.mpr fun c hc => ?_
  have h := List.all_eq_true.mp h1 c hc
  rcases Bool.eq_false_or_eq_true (isCode c) with hi | hi
  · exact h2 c (List.mem_filter.mpr ⟨hc, hi⟩)
  · simpa [hi] using h
set_option maxRecDepth 65536 in
theorem w_c0 : (Jvm.Cond.code x code maxLocals ret).before args0 about1 = true := code_word (m := ⟨1, 1⟩) (meth := k1m1) (c := k1c1) (by decide +kernel) rfl rfl rfl (by decide +kernel)
set_option maxRecDepth 65536 in
theorem w_c1 : (Jvm.Cond.code ({ cls := "com/example/inverso/inverso/index/RiceList", name := "minimumLength", desc := "(IJZ)J" } : Jvm.MethodName) prog_140_method_5_code (6 : Nat) (Option.some Jvm.ClassFile.FieldType.long)).before args0 about1 = true := code_word (m := ⟨3, 0⟩) (meth := k3m0) (c := k3c0) (by decide +kernel) rfl rfl rfl (by decide +kernel)
def codes1 : List Jvm.Cond := [Jvm.Cond.code x code maxLocals ret, Jvm.Cond.code ({ cls := "com/example/inverso/inverso/index/RiceList", name := "minimumLength", desc := "(IJZ)J" } : Jvm.MethodName) prog_140_method_5_code (6 : Nat) (Option.some Jvm.ClassFile.FieldType.long)]
set_option maxRecDepth 65536 in
theorem codes_eq : words1.filter isCode = codes1 := rfl
theorem w_codes : ∀ c ∈ words1.filter isCode, c.before args0 about1 = true := by
  rw [codes_eq]
  intro c hc
  simp only [codes1, List.mem_cons, List.not_mem_nil, or_false] at hc
  rcases hc with rfl | rfl
  · exact w_c0
  · exact w_c1
set_option maxRecDepth 65536 in
theorem w_t1 : words1.all (fun c => isCode c || c.before args0 about1) = true := by decide +kernel
theorem w_tables : (allAtoms (Jvm.Cond.code x code maxLocals ret :: tables_1)).before args0 about1 = true := by
  rw [allAtoms_all]
  show words1.all (fun c => c.before args0 about1) = true
  refine all_split ?_ w_codes
  rw [w_t1]
set_option maxRecDepth 65536 in
theorem w_case : (Jvm.Cond.and given_1 narrow_1).before args0 about1 = true := by decide +kernel
theorem w_applies : (headSpec (Jvm.Cond.code x code maxLocals ret :: tables_1) room_1).applies x e0.platform about1 = true :=
  (Spec.applies_iff w_frames).mpr ⟨w_running, w_runnable, w_alone, w_named, w_hears, w_ripe, w_room, w_tables⟩
theorem atStart : AtStart classFile x code maxLocals ret World_1 tables_1 room_1 Calls_1 rest_1 Pre_1 launch0 p0 e0 about1 theMethod args0 below0 :=
  ⟨lists_1, trivial, launch0.admits_env _ _ _, launch0.least_env, fairChoices_fair.cas, fairChoices_fair.clock, w_frames, w_args, w_heap, w_applies, trivial, trivial, w_case⟩
end start1
theorem witness_1 : WitnessClaimed_1 := ⟨start1.p0, start1.e0, start1.about1, start1.theMethod, start1.args0, start1.below0, start1.atStart⟩
end Jvm.Pilot.@@N@@
