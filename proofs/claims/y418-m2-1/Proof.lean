import JvmDerived
import JvmDerived.Pilot.@@N@@Statement
import JvmDerived.Pilot.@@N@@Code
set_option linter.unusedVariables false
set_option linter.unusedSimpArgs false
namespace Jvm.Pilot.@@N@@
open Jvm Jvm.ClassFile Sem Op Lib Jvm.Free Jvm.Stand Jvm.LawKit Jvm.RoadKit Bundle Jvm.Pilot.@@N@@.Jvm.D
/-! own kit: the rest of a walk as one predicate of the state where it stands -/
section OwnKit
variable {p : Program} {l : Launch} {e : Env} {R : Room} {s : State} {m : MethodId} {args : Array Value} {below : List Frame} {meth : Method} {c : Code} {T : State} {locs : List Loc} {cells slots : Nat}
def Wp (p : Program) (e : Env) (below : List Frame) (G : Outcome → State → Prop) (U : State) : Prop := ∃ s₂ o, Steps p.tables e below U s₂ ∧ s₂.status = .running ∧ Ended s₂ below o ∧ G o s₂
theorem Wp.via {G : Outcome → State → Prop} {A B : State} (k : ∀ t, Steps p.tables e below A t → Steps p.tables e below B t) (h : Wp p e below G A) : Wp p e below G B := by
  obtain ⟨s₂, o, h1, h2⟩ := h; exact ⟨s₂, o, k _ h1, h2⟩
theorem Wp.step {G : Outcome → State → Prop} {A B : State} (k : Steps p.tables e below B A) (h : Wp p e below G A) : Wp p e below G B := by
  obtain ⟨s₂, o, h1, h2⟩ := h; exact ⟨s₂, o, k.trans h1, h2⟩
def Gd (s : State) (Q : Option Value → Heap → List Loc → Prop) (C S : Nat) (o : Outcome) (t : State) : Prop := ∃ v L, o = .returned v ∧ Q v t.heap L ∧ FrameEnd s o t L C S
theorem Wp.ret (X : Stand p l e R s m args below meth c T locs cells slots) (hlk : meth.locks = false) (hx : p.tables.exec = Jvm.exec) {pc : Nat} {Ls : Array Slot} {w : Value} {t : FieldType} {i : Instr} {rest : List Value} {Q : Option Value → Heap → List Loc → Prop} {C S : Nat} (hret : meth.sig.returnType = some t) (hn : narrow t w = w)
    (hi : (i = .ireturn ∧ (t = .int ∨ t = .boolean ∨ t = .byte ∨ t = .char ∨ t = .short) ∧ ∃ z, w = .int z) ∨ (i = .lreturn ∧ t = .long ∧ ∃ z, w = .long z) ∨ (i = .dreturn ∧ t = .double ∧ ∃ z, w = .double z) ∨ (i = .freturn ∧ t = .float ∧ ∃ z, w = .float z) ∨ (i = .areturn ∧ t.isReference = true ∧ w.isRef = true))
    (hd : decode c.code pc = .ok (i, 1)) (hq : Q (some w) T.heap locs) (hC : cells ≤ C) (hS : slots ≤ S) : Wp p e below (Gd s Q C S) (T.setTop (mkF m pc Ls (w :: rest))) := by
  obtain ⟨fs, hr, hrun, hended, hW, hsame⟩ := X.leave (v := some w) (fun h => by rw [hret] at h; cases h) hlk
  exact ⟨_, _, retOut X hx hret hn hi hd hr, hrun, hended, _, _, rfl, hq, ⟨_, rfl⟩, hW, hsame.mono hC hS⟩
theorem Wp.retI (X : Stand p l e R s m args below meth c T locs cells slots) (hlk : meth.locks = false) (hx : p.tables.exec = Jvm.exec) {pc : Nat} {Ls : Array Slot} {z : Int32} {t : FieldType} {rest : List Value} {Q : Option Value → Heap → List Loc → Prop} {C S : Nat} (hret : meth.sig.returnType = some t) (ht : t = .int ∨ t = .boolean ∨ t = .byte ∨ t = .char ∨ t = .short) (hn : narrow t (.int z) = .int z)
    (hd : decode c.code pc = .ok (.ireturn, 1)) (hq : Q (some (.int z)) T.heap locs) (hC : cells ≤ C) (hS : slots ≤ S) : Wp p e below (Gd s Q C S) (T.setTop (mkF m pc Ls (.int z :: rest))) :=
  Wp.ret X hlk hx hret hn (Or.inl ⟨rfl, ht, z, rfl⟩) hd hq hC hS
theorem Wp.retJ (X : Stand p l e R s m args below meth c T locs cells slots) (hlk : meth.locks = false) (hx : p.tables.exec = Jvm.exec) {pc : Nat} {Ls : Array Slot} {z : Int64} {rest : List Value} {Q : Option Value → Heap → List Loc → Prop} {C S : Nat} (hret : meth.sig.returnType = some .long)
    (hd : decode c.code pc = .ok (.lreturn, 1)) (hq : Q (some (.long z)) T.heap locs) (hC : cells ≤ C) (hS : slots ≤ S) : Wp p e below (Gd s Q C S) (T.setTop (mkF m pc Ls (.long z :: rest))) :=
  Wp.ret X hlk hx hret rfl (Or.inr (Or.inl ⟨rfl, rfl, z, rfl⟩)) hd hq hC hS
theorem Wp.retA (X : Stand p l e R s m args below meth c T locs cells slots) (hlk : meth.locks = false) (hx : p.tables.exec = Jvm.exec) {pc : Nat} {Ls : Array Slot} {w : Value} {t : FieldType} {rest : List Value} {Q : Option Value → Heap → List Loc → Prop} {C S : Nat} (hret : meth.sig.returnType = some t) (ht : t.isReference = true) (hw : w.isRef = true)
    (hd : decode c.code pc = .ok (.areturn, 1)) (hq : Q (some w) T.heap locs) (hC : cells ≤ C) (hS : slots ≤ S) : Wp p e below (Gd s Q C S) (T.setTop (mkF m pc Ls (w :: rest))) :=
  Wp.ret X hlk hx hret (by cases t <;> simp [FieldType.isReference] at ht <;> cases w <;> simp [Value.isRef] at hw <;> rfl) (Or.inr (Or.inr (Or.inr (Or.inr ⟨rfl, ht, hw⟩)))) hd hq hC hS
theorem Wp.retV (X : Stand p l e R s m args below meth c T locs cells slots) (hlk : meth.locks = false) (hx : p.tables.exec = Jvm.exec) {pc : Nat} {Ls : Array Slot} {Q : Option Value → Heap → List Loc → Prop} {C S : Nat} (hret : meth.sig.returnType = none)
    (hd : decode c.code pc = .ok (.return_, 1)) (hq : Q none T.heap locs) (hC : cells ≤ C) (hS : slots ≤ S) : Wp p e below (Gd s Q C S) (T.setTop (mkF m pc Ls [])) := by
  obtain ⟨fs, hr, hrun, hended, hW, hsame⟩ := X.leave (v := none) (fun _ => rfl) hlk
  exact ⟨_, _, X.returnOut hx hret hd hr, hrun, hended, _, _, rfl, hq, ⟨_, rfl⟩, hW, hsame.mono hC hS⟩
/-- a body's contract out of its Wp at pc 0 -/
theorem ofWp {y : MethodName} {bytes : ByteArray} {maxL : Nat} {ret : Option FieldType} {ws : List Jvm.Cond} {rm : Room} {as' : Array Value} {Z : State} {h0 : Heap} {Q : Option Value → Heap → List Loc → Prop} {C S : Nat} {Ls : Array Slot} (hpl : plainFor y = true) (ef : ∀ m, entryFrame m as' maxL = mkF m 0 Ls [])
    (H : ∀ (p : Program) (e : Env) (s : State) (m : MethodId) (below : List Frame) (meth : Method) (c : Code) (T : State), p.tables.exec = Jvm.exec → c.code = bytes → c.maxLocals = maxL → s.vm.findClass y.cls = some m.cls → meth.name = y.name → meth.locks = false → meth.sig.returnType = ret → Z.Warmed39 s.vm → Stand p l e rm s m as' below meth c T [] 0 0 → T.heap = h0 → Wp p e below (Gd s Q C S) (T.setTop (mkF m 0 Ls []))) :
    MetFree l y (head1 (Jvm.Cond.code y bytes maxL ret :: ws) rm) (fun a U => a = as' ∧ Z.Warmed39 U.vm ∧ U.heap = h0) (fun _ _ _ _ _ => True) (fun _ U o U' => ∃ v L, o = .returned v ∧ Q v U'.heap L ∧ FrameEnd U o U' L C S) := by
  refine MetFree.of_bodySF hpl hisR ?_
  intro p e s m args below meth c s₁ Bd hml0 hP hK
  obtain ⟨rfl, hZ, hh⟩ := hP
  have e0 : s₁.heap = h0 := by rw [← hh, Bd.state]; rfl
  have X0 : Stand p l e rm s m args below meth c s₁ [] 0 0 := Stand.of_body Bd
  have W := H p e s m below meth c s₁ Bd.exec Bd.bytes hml0 (findClass_of_methodNamed Bd.named) (name_of_methodNamed Bd.named Bd.method).1 Bd.notSynchronized Bd.returns hZ X0 e0
  rw [← ef m] at W
  obtain ⟨s₂, o, g1, g2, g3, g4⟩ := W
  exact ⟨s₂, o, g1, g2, g3, g4⟩
end OwnKit
def f1_0 (q0 : Int64) (q1 : Int64) : Int64 := (if (lcmpW q0 q1) < (0 : Int32) then q1 else q0)
theorem own_d1_0 : decode jdk_29_method_66_code 0 = .ok (.lload_n 0, 1) := by decide +kernel
theorem own_d1_1 : decode jdk_29_method_66_code 1 = .ok (.lload_n 2, 1) := by decide +kernel
theorem own_d1_2 : decode jdk_29_method_66_code 2 = .ok (.lcmp, 1) := by decide +kernel
theorem own_d1_3 : decode jdk_29_method_66_code 3 = .ok (.ifCond .lt 7, 3) := by decide +kernel
theorem own_d1_6 : decode jdk_29_method_66_code 6 = .ok (.lload_n 0, 1) := by decide +kernel
theorem own_d1_7 : decode jdk_29_method_66_code 7 = .ok (.goto 4, 3) := by decide +kernel
theorem own_d1_10 : decode jdk_29_method_66_code 10 = .ok (.lload_n 2, 1) := by decide +kernel
theorem own_d1_11 : decode jdk_29_method_66_code 11 = .ok (.lreturn, 1) := by decide +kernel
theorem own_pl1 : plainFor (⟨"java/lang/Math", "max", "(JJ)J"⟩ : MethodName) = true := Jvm.Free.JP.mathPlain rfl (by decide +kernel)
theorem own_ef1 (m : MethodId) (q0 : Int64) (q1 : Int64) : entryFrame m #[(.long q0), (.long q1)] 4 = mkF m 0 #[.val (.long q0), .second, .val (.long q1), .second] [] := by first | (simp [entryFrame, mkF, argsToLocals, Value.category]; done) | rfl
def Qo1 (Z : State) (q0 : Int64) (q1 : Int64)  (h0 : Heap) (n0 : Nat) (v : Option Value) (h : Heap) (L : List Loc) : Prop := v = some (.long (f1_0 q0 q1)) ∧ Fr n0 L ∧ h = h0
set_option maxRecDepth 65536 in
set_option maxHeartbeats 40000000 in
theorem rm1 (l : Launch) (Z : State) (aw : Array Value) (hw : ∀ d ∈ tables_1, d.before aw Z = true) (ws : List Jvm.Cond) (q0 : Int64) (q1 : Int64)  (h0 : Heap) (n0 : Nat) (Z0 : n0 ≤ h0.size)  :
    MetFree l (⟨"java/lang/Math", "max", "(JJ)J"⟩ : MethodName) (head1 (Jvm.Cond.code (⟨"java/lang/Math", "max", "(JJ)J"⟩ : MethodName) jdk_29_method_66_code 4 (some .long) :: ws) ({ frames := 0, cells := 0, slots := 0, locals := 0 } : Room)) (fun a U => a = #[(.long q0), (.long q1)] ∧ Z.Warmed39 U.vm ∧ U.heap = h0) (fun _ _ _ _ _ => True) (fun _ U o U' => ∃ v L, o = .returned v ∧ (Qo1 Z q0 q1 h0 n0) v U'.heap L ∧ FrameEnd U o U' L ({ frames := 0, cells := 0, slots := 0, locals := 0 } : Room).cells ({ frames := 0, cells := 0, slots := 0, locals := 0 } : Room).slots) := by
  refine ofWp (Q := Qo1 Z q0 q1 h0 n0) own_pl1 (fun m => own_ef1 m q0 q1) ?_
  intro p e s m below meth c T0 hx hby hml hown hnm hlk hret hZ X0 e0
  change s.vm.findClass "java/lang/Math" = some m.cls at hown
  have NF0 := Fr.nil n0
  have hv : (f1_0 q0 q1) = (if (lcmpW q0 q1) < (0 : Int32) then q1 else q0) := rfl
  refine Wp.via (fun _ k => XS.lloadN X0.here hx rfl (hb hby own_d1_0) rfl k) ?_
  show Wp p e below _ (T0.setTop (mkF m 1 #[.val (.long q0), .second, .val (.long q1), .second] [(.long q0)]))
  refine Wp.via (fun _ k => XS.lloadN X0.here hx rfl (hb hby own_d1_1) rfl k) ?_
  show Wp p e below _ (T0.setTop (mkF m 2 #[.val (.long q0), .second, .val (.long q1), .second] [(.long q1), (.long q0)]))
  refine Wp.via (fun _ k => XS.lcmp X0.here hx rfl (hb hby own_d1_2) rfl k) ?_
  show Wp p e below _ (T0.setTop (mkF m 3 #[.val (.long q0), .second, .val (.long q1), .second] [(.int (lcmpW q0 q1))]))
  by_cases hc1 : (lcmpW q0 q1) < (0 : Int32)
  ·
    have hv1_ := hv.trans (if_pos hc1)
    refine Wp.via (fun _ k => XS.ifYes X0.here hx rfl (pc0 := 3) (pc' := 10) rfl (hb hby own_d1_3) rfl ((if0 _ _).trans (tlt hc1).1) (by decide) (by decide) k) ?_
    show Wp p e below _ (T0.setTop (mkF m 10 #[.val (.long q0), .second, .val (.long q1), .second] []))
    refine Wp.via (fun _ k => XS.lloadN X0.here hx rfl (hb hby own_d1_10) rfl k) ?_
    show Wp p e below _ (T0.setTop (mkF m 11 #[.val (.long q0), .second, .val (.long q1), .second] [(.long q1)]))
    exact Wp.retJ X0 hlk hx hret (hb hby own_d1_11) ⟨by rw [hv1_], NF0, e0⟩ (by decide) (by decide)
  ·
    have hv1_ := hv.trans (if_neg hc1)
    refine Wp.via (fun _ k => XS.ifNo X0.here hx rfl (hb hby own_d1_3) rfl ((if0 _ _).trans (flt hc1).1) k) ?_
    show Wp p e below _ (T0.setTop (mkF m 6 #[.val (.long q0), .second, .val (.long q1), .second] []))
    refine Wp.via (fun _ k => XS.lloadN X0.here hx rfl (hb hby own_d1_6) rfl k) ?_
    show Wp p e below _ (T0.setTop (mkF m 7 #[.val (.long q0), .second, .val (.long q1), .second] [(.long q0)]))
    refine Wp.via (fun _ k => XS.goto X0.here hx rfl (pc0 := 7) (pc' := 11) rfl (hb hby own_d1_7) (by decide) (by decide) k) ?_
    show Wp p e below _ (T0.setTop (mkF m 11 #[.val (.long q0), .second, .val (.long q1), .second] [(.long q0)]))
    exact Wp.retJ X0 hlk hx hret (hb hby own_d1_11) ⟨by rw [hv1_], NF0, e0⟩ (by decide) (by decide)
theorem own_pd0 : parseMethodDescriptor "()V" = some ⟨[], none⟩ := by decide +kernel
theorem own_d3_0 : decode prog_8_method_1_code 0 = .ok (.aload_n 0, 1) := by decide +kernel
theorem own_d3_1 : decode prog_8_method_1_code 1 = .ok (.invokespecial 3, 3) := by decide +kernel
theorem own_d3_4 : decode prog_8_method_1_code 4 = .ok (.aload_n 0, 1) := by decide +kernel
theorem own_d3_5 : decode prog_8_method_1_code 5 = .ok (.iload_n 1, 1) := by decide +kernel
theorem own_d3_6 : decode prog_8_method_1_code 6 = .ok (.putfield 9, 3) := by decide +kernel
theorem own_d3_9 : decode prog_8_method_1_code 9 = .ok (.aload_n 0, 1) := by decide +kernel
theorem own_d3_10 : decode prog_8_method_1_code 10 = .ok (.iload_n 2, 1) := by decide +kernel
theorem own_d3_11 : decode prog_8_method_1_code 11 = .ok (.putfield 15, 3) := by decide +kernel
theorem own_d3_14 : decode prog_8_method_1_code 14 = .ok (.aload_n 0, 1) := by decide +kernel
theorem own_d3_15 : decode prog_8_method_1_code 15 = .ok (.lload_n 3, 1) := by decide +kernel
theorem own_d3_16 : decode prog_8_method_1_code 16 = .ok (.putfield 18, 3) := by decide +kernel
theorem own_d3_19 : decode prog_8_method_1_code 19 = .ok (.aload_n 0, 1) := by decide +kernel
theorem own_d3_20 : decode prog_8_method_1_code 20 = .ok (.lload 5, 2) := by decide +kernel
theorem own_d3_22 : decode prog_8_method_1_code 22 = .ok (.putfield 22, 3) := by decide +kernel
theorem own_d3_25 : decode prog_8_method_1_code 25 = .ok (.return_, 1) := by decide +kernel
theorem own_pl3 : plainFor (⟨"com/example/exact1/exact1/core/Acquisition", "<init>", "(ZZJJ)V"⟩ : MethodName) = true := plainFor_of_name (by first | (simp [plainName, overriddenIn]; done) | decide +kernel)
theorem own_ef3 (m : MethodId) (a0 : Addr) (p1 : Int32) (p2 : Int32) (q3 : Int64) (q4 : Int64) : entryFrame m #[(.ref a0), (.int p1), (.int p2), (.long q3), (.long q4)] 7 = mkF m 0 #[.val (.ref a0), .val (.int p1), .val (.int p2), .val (.long q3), .second, .val (.long q4), .second] [] := by first | (simp [entryFrame, mkF, argsToLocals, Value.category]; done) | rfl
def Qo3 (Z : State) (a0 : Addr) (p1 : Int32) (p2 : Int32) (q3 : Int64) (q4 : Int64)  (h0 : Heap) (n0 : Nat) (v : Option Value) (h : Heap) (L : List Loc) : Prop := v = none ∧ Fr n0 L ∧ Keep h0 h [a0] ∧ Exa Z h a0 "com/example/exact1/exact1/core/Acquisition" ∧ Fld Z h a0 "com/example/exact1/exact1/core/Acquisition" "granted" "Z" (.int p1) ∧ Fld Z h a0 "com/example/exact1/exact1/core/Acquisition" "reentry" "Z" (.int p2) ∧ Fld Z h a0 "com/example/exact1/exact1/core/Acquisition" "token" "J" (.long q3) ∧ Fld Z h a0 "com/example/exact1/exact1/core/Acquisition" "expiresInMillis" "J" (.long q4)
set_option maxRecDepth 65536 in
set_option maxHeartbeats 40000000 in
theorem rm3 (l : Launch) (Z : State) (aw : Array Value) (hw : ∀ d ∈ tables_1, d.before aw Z = true) (ws : List Jvm.Cond) (a0 : Addr) (p1 : Int32) (p2 : Int32) (q3 : Int64) (q4 : Int64)  (h0 : Heap) (n0 : Nat) (Z0 : n0 ≤ h0.size) (E0 : Exa Z h0 a0 "com/example/exact1/exact1/core/Acquisition") (gn : n0 ≤ a0) (F_granted : Fld Z h0 a0 "com/example/exact1/exact1/core/Acquisition" "granted" "Z" (.int (0 : Int32))) (F_reentry : Fld Z h0 a0 "com/example/exact1/exact1/core/Acquisition" "reentry" "Z" (.int (0 : Int32))) (F_token : Fld Z h0 a0 "com/example/exact1/exact1/core/Acquisition" "token" "J" (.long (0 : Int64))) (F_expiresInMillis : Fld Z h0 a0 "com/example/exact1/exact1/core/Acquisition" "expiresInMillis" "J" (.long (0 : Int64))) (hn1 : narrow .boolean (.int p1) = .int p1) (hn2 : narrow .boolean (.int p2) = .int p2) (hf1 : fits .boolean (.int p1) = true) (hf2 : fits .boolean (.int p2) = true) :
    MetFree l (⟨"com/example/exact1/exact1/core/Acquisition", "<init>", "(ZZJJ)V"⟩ : MethodName) (head1 (Jvm.Cond.code (⟨"com/example/exact1/exact1/core/Acquisition", "<init>", "(ZZJJ)V"⟩ : MethodName) prog_8_method_1_code 7 none :: ws) ({ frames := 1, cells := 0, slots := 0, locals := 12 } : Room)) (fun a U => a = #[(.ref a0), (.int p1), (.int p2), (.long q3), (.long q4)] ∧ Z.Warmed39 U.vm ∧ U.heap = h0) (fun _ _ _ _ _ => True) (fun _ U o U' => ∃ v L, o = .returned v ∧ (Qo3 Z a0 p1 p2 q3 q4 h0 n0) v U'.heap L ∧ FrameEnd U o U' L ({ frames := 1, cells := 0, slots := 0, locals := 12 } : Room).cells ({ frames := 1, cells := 0, slots := 0, locals := 12 } : Room).slots) := by
  refine ofWp (Q := Qo3 Z a0 p1 p2 q3 q4 h0 n0) own_pl3 (fun m => own_ef3 m a0 p1 p2 q3 q4) ?_
  intro p e s m below meth c T0 hx hby hml hown hnm hlk hret hZ X0 e0
  change s.vm.findClass "com/example/exact1/exact1/core/Acquisition" = some m.cls at hown
  have NF0 := Fr.nil n0
  refine Wp.via (fun _ k => XS.aloadN X0.here hx rfl (hb hby own_d3_0) rfl rfl k) ?_
  show Wp p e below _ (T0.setTop (mkF m 1 #[.val (.ref a0), .val (.int p1), .val (.int p2), .val (.long q3), .second, .val (.long q4), .second] [(.ref a0)]))
  obtain ⟨T1, X1, e1, st1⟩ := initO X0 hx hZ hown (hw _ (List.mem_of_getElem? (i := 14) rfl)) (hw _ (List.mem_of_getElem? (i := 15) rfl)) (hw _ (List.mem_of_getElem? (i := 16) rfl)) e0 (g := (mkF m 1 #[.val (.ref a0), .val (.int p1), .val (.int p2), .val (.long q3), .second, .val (.long q4), .second] [(.ref a0)])) rfl (by rw [hml]; rfl) rfl (hb hby own_d3_1) (by decide) (W := 0) (by show 2 * 0 + _ ≤ _; exact Nat.le_of_eq rfl) (by decide)
  refine Wp.via st1 ?_
  show Wp p e below _ (T1.setTop (mkF m 4 #[.val (.ref a0), .val (.int p1), .val (.int p2), .val (.long q3), .second, .val (.long q4), .second] []))
  refine Wp.via (fun _ k => XS.aloadN X1.here hx rfl (hb hby own_d3_4) rfl rfl k) ?_
  show Wp p e below _ (T1.setTop (mkF m 5 #[.val (.ref a0), .val (.int p1), .val (.int p2), .val (.long q3), .second, .val (.long q4), .second] [(.ref a0)]))
  refine Wp.via (fun _ k => XS.iloadN X1.here hx rfl (hb hby own_d3_5) rfl k) ?_
  show Wp p e below _ (T1.setTop (mkF m 6 #[.val (.ref a0), .val (.int p1), .val (.int p2), .val (.long q3), .second, .val (.long q4), .second] [(.int p1), (.ref a0)]))
  obtain ⟨T2, h2, X2, e2, W2, st2⟩ := putF X1 hx hZ hown (host := "") (Or.inl (hw _ (List.mem_of_getElem? (i := 17) rfl))) Via.refl e1 F_granted E0 (Or.inr ⟨(hw _ (List.mem_of_getElem? (i := 18) rfl)), rfl, hnm⟩) (hw _ (List.mem_of_getElem? (i := 10) rfl)) (ty := .boolean) (by decide) hn1 hf1 (g := (mkF m 6 #[.val (.ref a0), .val (.int p1), .val (.int p2), .val (.long q3), .second, .val (.long q4), .second] [(.int p1), (.ref a0)])) rfl rfl (hb hby own_d3_6)
  have NF2 := Fr.snoc X2 NF0 gn
  refine Wp.via st2 ?_
  have K2 := (Keep.refl h0 [a0]).wr W2 (Or.inl (by simp))
  have zz3 : n0 ≤ h2.size := by rw [W2.size]; exact Z0
  have c4 := E0.wr W2
  have c5 := F_granted.same W2
  have c6 := F_reentry.other W2 (Or.inr (slot_ne (Or.inr (hw _ (List.mem_of_getElem? (i := 20) rfl))) (Or.inr (hw _ (List.mem_of_getElem? (i := 18) rfl))) (by decide) (t := .boolean) (t' := .boolean) (by decide) (by decide)))
  have c7 := F_token.other W2 (Or.inr (slot_ne (Or.inr (hw _ (List.mem_of_getElem? (i := 22) rfl))) (Or.inr (hw _ (List.mem_of_getElem? (i := 18) rfl))) (by decide) (t := .long) (t' := .boolean) (by decide) (by decide)))
  have c8 := F_expiresInMillis.other W2 (Or.inr (slot_ne (Or.inr (hw _ (List.mem_of_getElem? (i := 24) rfl))) (Or.inr (hw _ (List.mem_of_getElem? (i := 18) rfl))) (by decide) (t := .long) (t' := .boolean) (by decide) (by decide)))
  show Wp p e below _ (T2.setTop (mkF m 9 #[.val (.ref a0), .val (.int p1), .val (.int p2), .val (.long q3), .second, .val (.long q4), .second] []))
  refine Wp.via (fun _ k => XS.aloadN X2.here hx rfl (hb hby own_d3_9) rfl rfl k) ?_
  show Wp p e below _ (T2.setTop (mkF m 10 #[.val (.ref a0), .val (.int p1), .val (.int p2), .val (.long q3), .second, .val (.long q4), .second] [(.ref a0)]))
  refine Wp.via (fun _ k => XS.iloadN X2.here hx rfl (hb hby own_d3_10) rfl k) ?_
  show Wp p e below _ (T2.setTop (mkF m 11 #[.val (.ref a0), .val (.int p1), .val (.int p2), .val (.long q3), .second, .val (.long q4), .second] [(.int p2), (.ref a0)]))
  obtain ⟨T9, h9, X9, e9, W9, st9⟩ := putF X2 hx hZ hown (host := "") (Or.inl (hw _ (List.mem_of_getElem? (i := 19) rfl))) Via.refl e2 c6 c4 (Or.inr ⟨(hw _ (List.mem_of_getElem? (i := 20) rfl)), rfl, hnm⟩) (hw _ (List.mem_of_getElem? (i := 10) rfl)) (ty := .boolean) (by decide) hn2 hf2 (g := (mkF m 11 #[.val (.ref a0), .val (.int p1), .val (.int p2), .val (.long q3), .second, .val (.long q4), .second] [(.int p2), (.ref a0)])) rfl rfl (hb hby own_d3_11)
  have NF9 := Fr.snoc X9 NF2 gn
  refine Wp.via st9 ?_
  have K9 := K2.wr W9 (Or.inl (by simp))
  have zz10 : n0 ≤ h9.size := by rw [W9.size]; exact zz3
  have c11 := c4.wr W9
  have c12 := c5.other W9 (Or.inr (slot_ne (Or.inr (hw _ (List.mem_of_getElem? (i := 18) rfl))) (Or.inr (hw _ (List.mem_of_getElem? (i := 20) rfl))) (by decide) (t := .boolean) (t' := .boolean) (by decide) (by decide)))
  have c13 := c6.same W9
  have c14 := c7.other W9 (Or.inr (slot_ne (Or.inr (hw _ (List.mem_of_getElem? (i := 22) rfl))) (Or.inr (hw _ (List.mem_of_getElem? (i := 20) rfl))) (by decide) (t := .long) (t' := .boolean) (by decide) (by decide)))
  have c15 := c8.other W9 (Or.inr (slot_ne (Or.inr (hw _ (List.mem_of_getElem? (i := 24) rfl))) (Or.inr (hw _ (List.mem_of_getElem? (i := 20) rfl))) (by decide) (t := .long) (t' := .boolean) (by decide) (by decide)))
  show Wp p e below _ (T9.setTop (mkF m 14 #[.val (.ref a0), .val (.int p1), .val (.int p2), .val (.long q3), .second, .val (.long q4), .second] []))
  refine Wp.via (fun _ k => XS.aloadN X9.here hx rfl (hb hby own_d3_14) rfl rfl k) ?_
  show Wp p e below _ (T9.setTop (mkF m 15 #[.val (.ref a0), .val (.int p1), .val (.int p2), .val (.long q3), .second, .val (.long q4), .second] [(.ref a0)]))
  refine Wp.via (fun _ k => XS.lloadN X9.here hx rfl (hb hby own_d3_15) rfl k) ?_
  show Wp p e below _ (T9.setTop (mkF m 16 #[.val (.ref a0), .val (.int p1), .val (.int p2), .val (.long q3), .second, .val (.long q4), .second] [(.long q3), (.ref a0)]))
  obtain ⟨T16, h16, X16, e16, W16, st16⟩ := putF X9 hx hZ hown (host := "") (Or.inl (hw _ (List.mem_of_getElem? (i := 21) rfl))) Via.refl e9 c14 c11 (Or.inr ⟨(hw _ (List.mem_of_getElem? (i := 22) rfl)), rfl, hnm⟩) (hw _ (List.mem_of_getElem? (i := 10) rfl)) (ty := .long) (by decide) rfl rfl (g := (mkF m 16 #[.val (.ref a0), .val (.int p1), .val (.int p2), .val (.long q3), .second, .val (.long q4), .second] [(.long q3), (.ref a0)])) rfl rfl (hb hby own_d3_16)
  have NF16 := Fr.snoc X16 NF9 gn
  refine Wp.via st16 ?_
  have K16 := K9.wr W16 (Or.inl (by simp))
  have zz17 : n0 ≤ h16.size := by rw [W16.size]; exact zz10
  have c18 := c11.wr W16
  have c19 := c12.other W16 (Or.inr (slot_ne (Or.inr (hw _ (List.mem_of_getElem? (i := 18) rfl))) (Or.inr (hw _ (List.mem_of_getElem? (i := 22) rfl))) (by decide) (t := .boolean) (t' := .long) (by decide) (by decide)))
  have c20 := c13.other W16 (Or.inr (slot_ne (Or.inr (hw _ (List.mem_of_getElem? (i := 20) rfl))) (Or.inr (hw _ (List.mem_of_getElem? (i := 22) rfl))) (by decide) (t := .boolean) (t' := .long) (by decide) (by decide)))
  have c21 := c14.same W16
  have c22 := c15.other W16 (Or.inr (slot_ne (Or.inr (hw _ (List.mem_of_getElem? (i := 24) rfl))) (Or.inr (hw _ (List.mem_of_getElem? (i := 22) rfl))) (by decide) (t := .long) (t' := .long) (by decide) (by decide)))
  show Wp p e below _ (T16.setTop (mkF m 19 #[.val (.ref a0), .val (.int p1), .val (.int p2), .val (.long q3), .second, .val (.long q4), .second] []))
  refine Wp.via (fun _ k => XS.aloadN X16.here hx rfl (hb hby own_d3_19) rfl rfl k) ?_
  show Wp p e below _ (T16.setTop (mkF m 20 #[.val (.ref a0), .val (.int p1), .val (.int p2), .val (.long q3), .second, .val (.long q4), .second] [(.ref a0)]))
  refine Wp.via (fun _ k => XS.lload X16.here hx rfl (hb hby own_d3_20) rfl k) ?_
  show Wp p e below _ (T16.setTop (mkF m 22 #[.val (.ref a0), .val (.int p1), .val (.int p2), .val (.long q3), .second, .val (.long q4), .second] [(.long q4), (.ref a0)]))
  obtain ⟨T23, h23, X23, e23, W23, st23⟩ := putF X16 hx hZ hown (host := "") (Or.inl (hw _ (List.mem_of_getElem? (i := 23) rfl))) Via.refl e16 c22 c18 (Or.inr ⟨(hw _ (List.mem_of_getElem? (i := 24) rfl)), rfl, hnm⟩) (hw _ (List.mem_of_getElem? (i := 10) rfl)) (ty := .long) (by decide) rfl rfl (g := (mkF m 22 #[.val (.ref a0), .val (.int p1), .val (.int p2), .val (.long q3), .second, .val (.long q4), .second] [(.long q4), (.ref a0)])) rfl rfl (hb hby own_d3_22)
  have NF23 := Fr.snoc X23 NF16 gn
  refine Wp.via st23 ?_
  have K23 := K16.wr W23 (Or.inl (by simp))
  have zz24 : n0 ≤ h23.size := by rw [W23.size]; exact zz17
  have c25 := c18.wr W23
  have c26 := c19.other W23 (Or.inr (slot_ne (Or.inr (hw _ (List.mem_of_getElem? (i := 18) rfl))) (Or.inr (hw _ (List.mem_of_getElem? (i := 24) rfl))) (by decide) (t := .boolean) (t' := .long) (by decide) (by decide)))
  have c27 := c20.other W23 (Or.inr (slot_ne (Or.inr (hw _ (List.mem_of_getElem? (i := 20) rfl))) (Or.inr (hw _ (List.mem_of_getElem? (i := 24) rfl))) (by decide) (t := .boolean) (t' := .long) (by decide) (by decide)))
  have c28 := c21.other W23 (Or.inr (slot_ne (Or.inr (hw _ (List.mem_of_getElem? (i := 22) rfl))) (Or.inr (hw _ (List.mem_of_getElem? (i := 24) rfl))) (by decide) (t := .long) (t' := .long) (by decide) (by decide)))
  have c29 := c22.same W23
  show Wp p e below _ (T23.setTop (mkF m 25 #[.val (.ref a0), .val (.int p1), .val (.int p2), .val (.long q3), .second, .val (.long q4), .second] []))
  exact Wp.retV X23 hlk hx hret (hb hby own_d3_25) (by rw [e23]; exact ⟨rfl, NF23, K23, c25, c26, c27, c28, c29⟩) (by decide) (by decide)
theorem own_pd1 : parseMethodDescriptor "(ZZJJ)V" = some ⟨[.boolean, .boolean, .long, .long], none⟩ := by decide +kernel
theorem own_d2_0 : decode prog_8_method_2_code 0 = .ok (.new 10, 3) := by decide +kernel
theorem own_d2_3 : decode prog_8_method_2_code 3 = .ok (.dup, 1) := by decide +kernel
theorem own_d2_4 : decode prog_8_method_2_code 4 = .ok (.iconst 1, 1) := by decide +kernel
theorem own_d2_5 : decode prog_8_method_2_code 5 = .ok (.iconst 0, 1) := by decide +kernel
theorem own_d2_6 : decode prog_8_method_2_code 6 = .ok (.lload_n 0, 1) := by decide +kernel
theorem own_d2_7 : decode prog_8_method_2_code 7 = .ok (.lconst 0, 1) := by decide +kernel
theorem own_d2_8 : decode prog_8_method_2_code 8 = .ok (.invokespecial 25, 3) := by decide +kernel
theorem own_d2_11 : decode prog_8_method_2_code 11 = .ok (.areturn, 1) := by decide +kernel
theorem own_pl2 : plainFor (⟨"com/example/exact1/exact1/core/Acquisition", "granted", "(J)Lcom/example/exact1/exact1/core/Acquisition;"⟩ : MethodName) = true := plainFor_of_name (by first | (simp [plainName, overriddenIn]; done) | decide +kernel)
theorem own_ef2 (m : MethodId) (q0 : Int64) : entryFrame m #[(.long q0)] 2 = mkF m 0 #[.val (.long q0), .second] [] := by first | (simp [entryFrame, mkF, argsToLocals, Value.category]; done) | rfl
def Qo2 (Z : State) (q0 : Int64)  (h0 : Heap) (n0 : Nat) (v : Option Value) (h : Heap) (L : List Loc) : Prop := ∃ b, v = some (.ref b) ∧ Fr n0 L ∧ Keep h0 h [] ∧ n0 ≤ b ∧ h0.size ≤ b ∧ Exa Z h b "com/example/exact1/exact1/core/Acquisition" ∧ Fld Z h b "com/example/exact1/exact1/core/Acquisition" "granted" "Z" (.int (1 : Int32)) ∧ Fld Z h b "com/example/exact1/exact1/core/Acquisition" "reentry" "Z" (.int (0 : Int32)) ∧ Fld Z h b "com/example/exact1/exact1/core/Acquisition" "token" "J" (.long q0) ∧ Fld Z h b "com/example/exact1/exact1/core/Acquisition" "expiresInMillis" "J" (.long (0 : Int64))
set_option maxRecDepth 65536 in
set_option maxHeartbeats 40000000 in
theorem rm2 (l : Launch) (Z : State) (aw : Array Value) (hw : ∀ d ∈ tables_1, d.before aw Z = true) (ws : List Jvm.Cond) (q0 : Int64)  (h0 : Heap) (n0 : Nat) (Z0 : n0 ≤ h0.size)  :
    MetFree l (⟨"com/example/exact1/exact1/core/Acquisition", "granted", "(J)Lcom/example/exact1/exact1/core/Acquisition;"⟩ : MethodName) (head1 (Jvm.Cond.code (⟨"com/example/exact1/exact1/core/Acquisition", "granted", "(J)Lcom/example/exact1/exact1/core/Acquisition;"⟩ : MethodName) prog_8_method_2_code 2 (some (.object "com/example/exact1/exact1/core/Acquisition")) :: ws) ({ frames := 2, cells := 1, slots := 4, locals := 40 } : Room)) (fun a U => a = #[(.long q0)] ∧ Z.Warmed39 U.vm ∧ U.heap = h0) (fun _ _ _ _ _ => True) (fun _ U o U' => ∃ v L, o = .returned v ∧ (Qo2 Z q0 h0 n0) v U'.heap L ∧ FrameEnd U o U' L ({ frames := 2, cells := 1, slots := 4, locals := 40 } : Room).cells ({ frames := 2, cells := 1, slots := 4, locals := 40 } : Room).slots) := by
  refine ofWp (Q := Qo2 Z q0 h0 n0) own_pl2 (fun m => own_ef2 m q0) ?_
  intro p e s m below meth c T0 hx hby hml hown hnm hlk hret hZ X0 e0
  change s.vm.findClass "com/example/exact1/exact1/core/Acquisition" = some m.cls at hown
  have NF0 := Fr.nil n0
  obtain ⟨T1, h1, X1, e1, E1, A1, D1, -, st1⟩ := newO X0 hx hZ hown (hw _ (List.mem_of_getElem? (i := 9) rfl)) (hw _ (List.mem_of_getElem? (i := 10) rfl)) (hw _ (List.mem_of_getElem? (i := 7) rfl)) e0 (g := (mkF m 0 #[.val (.long q0), .second] [])) rfl (hb hby own_d2_0) (by decide) (by decide)
  obtain ⟨b1, g1⟩ : ∃ z, z = h0.size := ⟨_, rfl⟩
  rw [← g1] at A1 D1 st1
  have gn_b1 : n0 ≤ b1 := Nat.le_trans Z0 (Nat.le_of_eq g1.symm)
  have sz_b1 : h0.size ≤ b1 := Nat.le_trans (Keep.refl h0 []).1 (Nat.le_of_eq g1.symm)
  have F1_granted : Fld Z h1 b1 "com/example/exact1/exact1/core/Acquisition" "granted" "Z" (.int (0 : Int32)) := D1 (Or.inr (hw _ (List.mem_of_getElem? (i := 18) rfl))) (ty := .boolean) (by decide)
  have F1_reentry : Fld Z h1 b1 "com/example/exact1/exact1/core/Acquisition" "reentry" "Z" (.int (0 : Int32)) := D1 (Or.inr (hw _ (List.mem_of_getElem? (i := 20) rfl))) (ty := .boolean) (by decide)
  have F1_token : Fld Z h1 b1 "com/example/exact1/exact1/core/Acquisition" "token" "J" (.long (0 : Int64)) := D1 (Or.inr (hw _ (List.mem_of_getElem? (i := 22) rfl))) (ty := .long) (by decide)
  have F1_expiresInMillis : Fld Z h1 b1 "com/example/exact1/exact1/core/Acquisition" "expiresInMillis" "J" (.long (0 : Int64)) := D1 (Or.inr (hw _ (List.mem_of_getElem? (i := 24) rfl))) (ty := .long) (by decide)
  refine Wp.via st1 ?_
  have K1 := (Keep.refl h0 []).ext E1
  have zz2 : n0 ≤ h1.size := Nat.le_trans Z0 E1.1
  show Wp p e below _ (T1.setTop (mkF m 3 #[.val (.long q0), .second] [(.ref b1)]))
  refine Wp.via (fun _ k => XS.dup X1.here hx rfl (hb hby own_d2_3) rfl rfl k) ?_
  show Wp p e below _ (T1.setTop (mkF m 4 #[.val (.long q0), .second] [(.ref b1), (.ref b1)]))
  refine Wp.via (fun _ k => XS.iconst X1.here hx rfl (hb hby own_d2_4) k) ?_
  show Wp p e below _ (T1.setTop (mkF m 5 #[.val (.long q0), .second] [(.int (1 : Int32)), (.ref b1), (.ref b1)]))
  refine Wp.via (fun _ k => XS.iconst X1.here hx rfl (hb hby own_d2_5) k) ?_
  show Wp p e below _ (T1.setTop (mkF m 6 #[.val (.long q0), .second] [(.int (0 : Int32)), (.int (1 : Int32)), (.ref b1), (.ref b1)]))
  refine Wp.via (fun _ k => XS.lloadN X1.here hx rfl (hb hby own_d2_6) rfl k) ?_
  show Wp p e below _ (T1.setTop (mkF m 7 #[.val (.long q0), .second] [(.long q0), (.int (0 : Int32)), (.int (1 : Int32)), (.ref b1), (.ref b1)]))
  refine Wp.via (fun _ k => XS.lconst X1.here hx rfl (hb hby own_d2_7) k) ?_
  show Wp p e below _ (T1.setTop (mkF m 8 #[.val (.long q0), .second] [(.long (0 : Int64)), (.long q0), (.int (0 : Int32)), (.int (1 : Int32)), (.ref b1), (.ref b1)]))
  obtain ⟨_, _, ⟨T3, L3, k3, n3⟩, -, X3, ⟨Lc3, hQ3, l3, y3, z3⟩, st3⟩ := X1.specialBack hx (y := (⟨"com/example/exact1/exact1/core/Acquisition", "<init>", "(ZZJJ)V"⟩ : MethodName)) rfl hown (mvT hZ (hw _ (List.mem_of_getElem? (i := 11) rfl))) (mvT hZ (hw _ (List.mem_of_getElem? (i := 12) rfl))) (mvT hZ (hw _ (List.mem_of_getElem? (i := 13) rfl))) (by decide) (backOf (W := 1) (rm3 l Z aw hw [] b1 (1 : Int32) (0 : Int32) q0 (0 : Int64)  h1 n0 zz2 A1 gn_b1 F1_granted F1_reentry F1_token F1_expiresInMillis rfl rfl rfl rfl) hZ (hw _ (List.mem_of_getElem? (i := 13) rfl)) (hw _ (List.mem_of_getElem? (i := 7) rfl)) (by decide) (by decide)) (g := (mkF m 8 #[.val (.long q0), .second] [(.long (0 : Int64)), (.long q0), (.int (0 : Int32)), (.int (1 : Int32)), (.ref b1), (.ref b1)])) rfl (by rw [hml]; rfl) (Steps.refl _) (a := b1) (argsL := [(.int (1 : Int32)), (.int (0 : Int32)), (.long q0), (.long (0 : Int64))]) (rest := [(.ref b1)]) (lenOf own_pd1 rfl) rfl (by show 2 * 0 + _ ≤ _; exact Nat.le_of_eq rfl) (hb hby own_d2_8) (fun _ _ => ⟨rfl, e1, (by decide : 1 + 0 ≤ _), (by decide : 4 + 0 ≤ _)⟩)
  dsimp only [Pt.U, Pt.locs, Pt.cells, Pt.slots] at X3 l3 y3 z3 st3 hQ3
  subst l3 y3 z3
  obtain ⟨rfl, N3, Kc3, Ec3, G1, G2, G3, G4⟩ := hQ3
  have NF3 := Fr.app NF0 N3
  refine Wp.step st3 ?_
  have c4 := A1.keep Kc3
  have K3' := K1.trans Kc3 (allS (Or.inr sz_b1) all0)
  have zz5 : n0 ≤ T3.heap.size := Nat.le_trans zz2 Kc3.1
  show Wp p e below _ (T3.setTop (mkF m 11 #[.val (.long q0), .second] [(.ref b1)]))
  exact Wp.retA X3 hlk hx hret rfl rfl (hb hby own_d2_11) ⟨b1, rfl, NF3, K3', gn_b1, sz_b1, c4, G1, G2, G3, G4⟩ (by decide) (by decide)
theorem own_d5_0 : decode prog_8_method_5_code 0 = .ok (.aload_n 0, 1) := by decide +kernel
theorem own_d5_1 : decode prog_8_method_5_code 1 = .ok (.getfield 9, 3) := by decide +kernel
theorem own_d5_4 : decode prog_8_method_5_code 4 = .ok (.ireturn, 1) := by decide +kernel
theorem own_pl5 : plainFor (⟨"com/example/exact1/exact1/core/Acquisition", "isGranted", "()Z"⟩ : MethodName) = true := plainFor_of_name (by first | (simp [plainName, overriddenIn]; done) | decide +kernel)
theorem own_ef5 (m : MethodId) (a0 : Addr) : entryFrame m #[(.ref a0)] 1 = mkF m 0 #[.val (.ref a0)] [] := by first | (simp [entryFrame, mkF, argsToLocals, Value.category]; done) | rfl
def Qo5 (Z : State) (a0 : Addr) (w : Int32) (h0 : Heap) (n0 : Nat) (v : Option Value) (h : Heap) (L : List Loc) : Prop := v = some (.int w) ∧ Fr n0 L ∧ h = h0
set_option maxRecDepth 65536 in
set_option maxHeartbeats 40000000 in
theorem rm5 (l : Launch) (Z : State) (aw : Array Value) (hw : ∀ d ∈ tables_1, d.before aw Z = true) (ws : List Jvm.Cond) (a0 : Addr) (w : Int32) (h0 : Heap) (n0 : Nat) (Z0 : n0 ≤ h0.size) (F0 : Fld Z h0 a0 "com/example/exact1/exact1/core/Acquisition" "granted" "Z" (.int w)) (hnw : narrow .boolean (.int w) = .int w) :
    MetFree l (⟨"com/example/exact1/exact1/core/Acquisition", "isGranted", "()Z"⟩ : MethodName) (head1 (Jvm.Cond.code (⟨"com/example/exact1/exact1/core/Acquisition", "isGranted", "()Z"⟩ : MethodName) prog_8_method_5_code 1 (some .boolean) :: ws) ({ frames := 0, cells := 0, slots := 0, locals := 0 } : Room)) (fun a U => a = #[(.ref a0)] ∧ Z.Warmed39 U.vm ∧ U.heap = h0) (fun _ _ _ _ _ => True) (fun _ U o U' => ∃ v L, o = .returned v ∧ (Qo5 Z a0 w h0 n0) v U'.heap L ∧ FrameEnd U o U' L ({ frames := 0, cells := 0, slots := 0, locals := 0 } : Room).cells ({ frames := 0, cells := 0, slots := 0, locals := 0 } : Room).slots) := by
  refine ofWp (Q := Qo5 Z a0 w h0 n0) own_pl5 (fun m => own_ef5 m a0) ?_
  intro p e s m below meth c T0 hx hby hml hown hnm hlk hret hZ X0 e0
  change s.vm.findClass "com/example/exact1/exact1/core/Acquisition" = some m.cls at hown
  have NF0 := Fr.nil n0
  refine Wp.via (fun _ k => XS.aloadN X0.here hx rfl (hb hby own_d5_0) rfl rfl k) ?_
  show Wp p e below _ (T0.setTop (mkF m 1 #[.val (.ref a0)] [(.ref a0)]))
  obtain ⟨T1, X1, e1, st1⟩ := getF X0 hx hZ hown (host := "") (Or.inl (hw _ (List.mem_of_getElem? (i := 17) rfl))) Via.refl e0 F0 (g := (mkF m 1 #[.val (.ref a0)] [(.ref a0)])) rfl rfl (hb hby own_d5_1)
  refine Wp.via st1 ?_
  show Wp p e below _ (T1.setTop (mkF m 4 #[.val (.ref a0)] [(.int w)]))
  exact Wp.retI X1 hlk hx hret (by simp) hnw (hb hby own_d5_4) ⟨rfl, NF0, e1⟩ (by decide) (by decide)
theorem own_d6_0 : decode prog_8_method_6_code 0 = .ok (.aload_n 0, 1) := by decide +kernel
theorem own_d6_1 : decode prog_8_method_6_code 1 = .ok (.getfield 9, 3) := by decide +kernel
theorem own_d6_4 : decode prog_8_method_6_code 4 = .ok (.ifCond .eq 14, 3) := by decide +kernel
theorem own_d6_7 : decode prog_8_method_6_code 7 = .ok (.aload_n 0, 1) := by decide +kernel
theorem own_d6_8 : decode prog_8_method_6_code 8 = .ok (.getfield 15, 3) := by decide +kernel
theorem own_d6_11 : decode prog_8_method_6_code 11 = .ok (.ifCond .ne 7, 3) := by decide +kernel
theorem own_d6_14 : decode prog_8_method_6_code 14 = .ok (.iconst 1, 1) := by decide +kernel
theorem own_d6_15 : decode prog_8_method_6_code 15 = .ok (.goto 4, 3) := by decide +kernel
theorem own_d6_18 : decode prog_8_method_6_code 18 = .ok (.iconst 0, 1) := by decide +kernel
theorem own_d6_19 : decode prog_8_method_6_code 19 = .ok (.ireturn, 1) := by decide +kernel
theorem own_pl6 : plainFor (⟨"com/example/exact1/exact1/core/Acquisition", "isNewGrant", "()Z"⟩ : MethodName) = true := plainFor_of_name (by first | (simp [plainName, overriddenIn]; done) | decide +kernel)
theorem own_ef6 (m : MethodId) (a0 : Addr) : entryFrame m #[(.ref a0)] 1 = mkF m 0 #[.val (.ref a0)] [] := by first | (simp [entryFrame, mkF, argsToLocals, Value.category]; done) | rfl
def Qo6 (Z : State) (a0 : Addr) (w u r : Int32) (h0 : Heap) (n0 : Nat) (v : Option Value) (h : Heap) (L : List Loc) : Prop := v = some (.int r) ∧ Fr n0 L ∧ h = h0
set_option maxRecDepth 65536 in
set_option maxHeartbeats 40000000 in
theorem rm6 (l : Launch) (Z : State) (aw : Array Value) (hw : ∀ d ∈ tables_1, d.before aw Z = true) (ws : List Jvm.Cond) (a0 : Addr) (w u r : Int32) (h0 : Heap) (n0 : Nat) (Z0 : n0 ≤ h0.size) (F0 : Fld Z h0 a0 "com/example/exact1/exact1/core/Acquisition" "granted" "Z" (.int w)) (F1 : Fld Z h0 a0 "com/example/exact1/exact1/core/Acquisition" "reentry" "Z" (.int u)) (hr : (if w = 0 then 0 else if u = 0 then 1 else 0) = r) :
    MetFree l (⟨"com/example/exact1/exact1/core/Acquisition", "isNewGrant", "()Z"⟩ : MethodName) (head1 (Jvm.Cond.code (⟨"com/example/exact1/exact1/core/Acquisition", "isNewGrant", "()Z"⟩ : MethodName) prog_8_method_6_code 1 (some .boolean) :: ws) ({ frames := 0, cells := 0, slots := 0, locals := 0 } : Room)) (fun a U => a = #[(.ref a0)] ∧ Z.Warmed39 U.vm ∧ U.heap = h0) (fun _ _ _ _ _ => True) (fun _ U o U' => ∃ v L, o = .returned v ∧ (Qo6 Z a0 w u r h0 n0) v U'.heap L ∧ FrameEnd U o U' L ({ frames := 0, cells := 0, slots := 0, locals := 0 } : Room).cells ({ frames := 0, cells := 0, slots := 0, locals := 0 } : Room).slots) := by
  refine ofWp (Q := Qo6 Z a0 w u r h0 n0) own_pl6 (fun m => own_ef6 m a0) ?_
  intro p e s m below meth c T0 hx hby hml hown hnm hlk hret hZ X0 e0
  change s.vm.findClass "com/example/exact1/exact1/core/Acquisition" = some m.cls at hown
  have NF0 := Fr.nil n0
  refine Wp.via (fun _ k => XS.aloadN X0.here hx rfl (hb hby own_d6_0) rfl rfl k) ?_
  show Wp p e below _ (T0.setTop (mkF m 1 #[.val (.ref a0)] [(.ref a0)]))
  obtain ⟨T1, X1, e1, st1⟩ := getF X0 hx hZ hown (host := "") (Or.inl (hw _ (List.mem_of_getElem? (i := 17) rfl))) Via.refl e0 F0 (g := (mkF m 1 #[.val (.ref a0)] [(.ref a0)])) rfl rfl (hb hby own_d6_1)
  refine Wp.via st1 ?_
  show Wp p e below _ (T1.setTop (mkF m 4 #[.val (.ref a0)] [(.int w)]))
  by_cases c1 : w = (0 : Int32)
  ·
    refine Wp.via (fun _ k => XS.ifYes X1.here hx rfl (pc0 := 4) (pc' := 18) rfl (hb hby own_d6_4) rfl ((if0 _ _).trans (teq c1).1) (by decide) (by decide) k) ?_
    show Wp p e below _ (T1.setTop (mkF m 18 #[.val (.ref a0)] []))
    refine Wp.via (fun _ k => XS.iconst X1.here hx rfl (hb hby own_d6_18) k) ?_
    show Wp p e below _ (T1.setTop (mkF m 19 #[.val (.ref a0)] [(.int (0 : Int32))]))
    exact Wp.retI X1 hlk hx hret (by simp) (by first | rfl | decide) (hb hby own_d6_19) ⟨by rw [← hr, if_pos c1], NF0, e1⟩ (by decide) (by decide)
  ·
    refine Wp.via (fun _ k => XS.ifNo X1.here hx rfl (hb hby own_d6_4) rfl ((if0 _ _).trans (feq c1).1) k) ?_
    show Wp p e below _ (T1.setTop (mkF m 7 #[.val (.ref a0)] []))
    refine Wp.via (fun _ k => XS.aloadN X1.here hx rfl (hb hby own_d6_7) rfl rfl k) ?_
    show Wp p e below _ (T1.setTop (mkF m 8 #[.val (.ref a0)] [(.ref a0)]))
    obtain ⟨T2, X2, e2, st2⟩ := getF X1 hx hZ hown (host := "") (Or.inl (hw _ (List.mem_of_getElem? (i := 19) rfl))) Via.refl e1 F1 (g := (mkF m 8 #[.val (.ref a0)] [(.ref a0)])) rfl rfl (hb hby own_d6_8)
    refine Wp.via st2 ?_
    show Wp p e below _ (T2.setTop (mkF m 11 #[.val (.ref a0)] [(.int u)]))
    by_cases c2 : u = (0 : Int32)
    ·
      refine Wp.via (fun _ k => XS.ifNo X2.here hx rfl (hb hby own_d6_11) rfl ((if0 _ _).trans (teq c2).2) k) ?_
      show Wp p e below _ (T2.setTop (mkF m 14 #[.val (.ref a0)] []))
      refine Wp.via (fun _ k => XS.iconst X2.here hx rfl (hb hby own_d6_14) k) ?_
      show Wp p e below _ (T2.setTop (mkF m 15 #[.val (.ref a0)] [(.int (1 : Int32))]))
      refine Wp.via (fun _ k => XS.goto X2.here hx rfl (pc0 := 15) (pc' := 19) rfl (hb hby own_d6_15) (by decide) (by decide) k) ?_
      show Wp p e below _ (T2.setTop (mkF m 19 #[.val (.ref a0)] [(.int (1 : Int32))]))
      exact Wp.retI X2 hlk hx hret (by simp) (by first | rfl | decide) (hb hby own_d6_19) ⟨by rw [← hr, if_neg c1, if_pos c2], NF0, e2⟩ (by decide) (by decide)
    ·
      refine Wp.via (fun _ k => XS.ifYes X2.here hx rfl (pc0 := 11) (pc' := 18) rfl (hb hby own_d6_11) rfl ((if0 _ _).trans (feq c2).2) (by decide) (by decide) k) ?_
      show Wp p e below _ (T2.setTop (mkF m 18 #[.val (.ref a0)] []))
      refine Wp.via (fun _ k => XS.iconst X2.here hx rfl (hb hby own_d6_18) k) ?_
      show Wp p e below _ (T2.setTop (mkF m 19 #[.val (.ref a0)] [(.int (0 : Int32))]))
      exact Wp.retI X2 hlk hx hret (by simp) (by first | rfl | decide) (hb hby own_d6_19) ⟨by rw [← hr, if_neg c1, if_neg c2], NF0, e2⟩ (by decide) (by decide)
theorem own_d7_0 : decode prog_8_method_7_code 0 = .ok (.aload_n 0, 1) := by decide +kernel
theorem own_d7_1 : decode prog_8_method_7_code 1 = .ok (.getfield 18, 3) := by decide +kernel
theorem own_d7_4 : decode prog_8_method_7_code 4 = .ok (.lreturn, 1) := by decide +kernel
theorem own_pl7 : plainFor (⟨"com/example/exact1/exact1/core/Acquisition", "token", "()J"⟩ : MethodName) = true := plainFor_of_name (by first | (simp [plainName, overriddenIn]; done) | decide +kernel)
theorem own_ef7 (m : MethodId) (a0 : Addr) : entryFrame m #[(.ref a0)] 1 = mkF m 0 #[.val (.ref a0)] [] := by first | (simp [entryFrame, mkF, argsToLocals, Value.category]; done) | rfl
def Qo7 (Z : State) (a0 : Addr) (w : Int64) (h0 : Heap) (n0 : Nat) (v : Option Value) (h : Heap) (L : List Loc) : Prop := v = some (.long w) ∧ Fr n0 L ∧ h = h0
set_option maxRecDepth 65536 in
set_option maxHeartbeats 40000000 in
theorem rm7 (l : Launch) (Z : State) (aw : Array Value) (hw : ∀ d ∈ tables_1, d.before aw Z = true) (ws : List Jvm.Cond) (a0 : Addr) (w : Int64) (h0 : Heap) (n0 : Nat) (Z0 : n0 ≤ h0.size) (F0 : Fld Z h0 a0 "com/example/exact1/exact1/core/Acquisition" "token" "J" (.long w)) :
    MetFree l (⟨"com/example/exact1/exact1/core/Acquisition", "token", "()J"⟩ : MethodName) (head1 (Jvm.Cond.code (⟨"com/example/exact1/exact1/core/Acquisition", "token", "()J"⟩ : MethodName) prog_8_method_7_code 1 (some .long) :: ws) ({ frames := 0, cells := 0, slots := 0, locals := 0 } : Room)) (fun a U => a = #[(.ref a0)] ∧ Z.Warmed39 U.vm ∧ U.heap = h0) (fun _ _ _ _ _ => True) (fun _ U o U' => ∃ v L, o = .returned v ∧ (Qo7 Z a0 w h0 n0) v U'.heap L ∧ FrameEnd U o U' L ({ frames := 0, cells := 0, slots := 0, locals := 0 } : Room).cells ({ frames := 0, cells := 0, slots := 0, locals := 0 } : Room).slots) := by
  refine ofWp (Q := Qo7 Z a0 w h0 n0) own_pl7 (fun m => own_ef7 m a0) ?_
  intro p e s m below meth c T0 hx hby hml hown hnm hlk hret hZ X0 e0
  change s.vm.findClass "com/example/exact1/exact1/core/Acquisition" = some m.cls at hown
  have NF0 := Fr.nil n0
  refine Wp.via (fun _ k => XS.aloadN X0.here hx rfl (hb hby own_d7_0) rfl rfl k) ?_
  show Wp p e below _ (T0.setTop (mkF m 1 #[.val (.ref a0)] [(.ref a0)]))
  obtain ⟨T1, X1, e1, st1⟩ := getF X0 hx hZ hown (host := "") (Or.inl (hw _ (List.mem_of_getElem? (i := 21) rfl))) Via.refl e0 F0 (g := (mkF m 1 #[.val (.ref a0)] [(.ref a0)])) rfl rfl (hb hby own_d7_1)
  refine Wp.via st1 ?_
  show Wp p e below _ (T1.setTop (mkF m 4 #[.val (.ref a0)] [(.long w)]))
  exact Wp.retJ X1 hlk hx hret (hb hby own_d7_4) ⟨rfl, NF0, e1⟩ (by decide) (by decide)
theorem own_d8_0 : decode prog_8_method_8_code 0 = .ok (.aload_n 0, 1) := by decide +kernel
theorem own_d8_1 : decode prog_8_method_8_code 1 = .ok (.getfield 22, 3) := by decide +kernel
theorem own_d8_4 : decode prog_8_method_8_code 4 = .ok (.lreturn, 1) := by decide +kernel
theorem own_pl8 : plainFor (⟨"com/example/exact1/exact1/core/Acquisition", "expiresInMillis", "()J"⟩ : MethodName) = true := plainFor_of_name (by first | (simp [plainName, overriddenIn]; done) | decide +kernel)
theorem own_ef8 (m : MethodId) (a0 : Addr) : entryFrame m #[(.ref a0)] 1 = mkF m 0 #[.val (.ref a0)] [] := by first | (simp [entryFrame, mkF, argsToLocals, Value.category]; done) | rfl
def Qo8 (Z : State) (a0 : Addr) (w : Int64) (h0 : Heap) (n0 : Nat) (v : Option Value) (h : Heap) (L : List Loc) : Prop := v = some (.long w) ∧ Fr n0 L ∧ h = h0
set_option maxRecDepth 65536 in
set_option maxHeartbeats 40000000 in
theorem rm8 (l : Launch) (Z : State) (aw : Array Value) (hw : ∀ d ∈ tables_1, d.before aw Z = true) (ws : List Jvm.Cond) (a0 : Addr) (w : Int64) (h0 : Heap) (n0 : Nat) (Z0 : n0 ≤ h0.size) (F0 : Fld Z h0 a0 "com/example/exact1/exact1/core/Acquisition" "expiresInMillis" "J" (.long w)) :
    MetFree l (⟨"com/example/exact1/exact1/core/Acquisition", "expiresInMillis", "()J"⟩ : MethodName) (head1 (Jvm.Cond.code (⟨"com/example/exact1/exact1/core/Acquisition", "expiresInMillis", "()J"⟩ : MethodName) prog_8_method_8_code 1 (some .long) :: ws) ({ frames := 0, cells := 0, slots := 0, locals := 0 } : Room)) (fun a U => a = #[(.ref a0)] ∧ Z.Warmed39 U.vm ∧ U.heap = h0) (fun _ _ _ _ _ => True) (fun _ U o U' => ∃ v L, o = .returned v ∧ (Qo8 Z a0 w h0 n0) v U'.heap L ∧ FrameEnd U o U' L ({ frames := 0, cells := 0, slots := 0, locals := 0 } : Room).cells ({ frames := 0, cells := 0, slots := 0, locals := 0 } : Room).slots) := by
  refine ofWp (Q := Qo8 Z a0 w h0 n0) own_pl8 (fun m => own_ef8 m a0) ?_
  intro p e s m below meth c T0 hx hby hml hown hnm hlk hret hZ X0 e0
  change s.vm.findClass "com/example/exact1/exact1/core/Acquisition" = some m.cls at hown
  have NF0 := Fr.nil n0
  refine Wp.via (fun _ k => XS.aloadN X0.here hx rfl (hb hby own_d8_0) rfl rfl k) ?_
  show Wp p e below _ (T0.setTop (mkF m 1 #[.val (.ref a0)] [(.ref a0)]))
  obtain ⟨T1, X1, e1, st1⟩ := getF X0 hx hZ hown (host := "") (Or.inl (hw _ (List.mem_of_getElem? (i := 23) rfl))) Via.refl e0 F0 (g := (mkF m 1 #[.val (.ref a0)] [(.ref a0)])) rfl rfl (hb hby own_d8_1)
  refine Wp.via st1 ?_
  show Wp p e below _ (T1.setTop (mkF m 4 #[.val (.ref a0)] [(.long w)]))
  exact Wp.retJ X1 hlk hx hret (hb hby own_d8_4) ⟨rfl, NF0, e1⟩ (by decide) (by decide)
theorem own_pd2 : parseMethodDescriptor "(JJ)J" = some ⟨[.long, .long], some .long⟩ := by decide +kernel
theorem own_pd3 : parseMethodDescriptor "(J)Lcom/example/exact1/exact1/core/Acquisition;" = some ⟨[.long], some (.object "com/example/exact1/exact1/core/Acquisition")⟩ := by decide +kernel
theorem own_pd4 : parseMethodDescriptor "()Z" = some ⟨[], some .boolean⟩ := by decide +kernel
theorem own_pd5 : parseMethodDescriptor "()J" = some ⟨[], some .long⟩ := by decide +kernel
theorem own_pl0 : plainFor (⟨"com/example/exact1/exact1/core/AcquisitionGrantedPinLaw", "law", "(JI)Z"⟩ : MethodName) = true := plainFor_of_name (by first | (simp [plainName, overriddenIn]; done) | decide +kernel)
theorem own_ef0 (m : MethodId) (q0 : Int64) (p1 : Int32) : entryFrame m #[(.long q0), (.int p1)] maxLocals = mkF m 0 #[.val (.long q0), .second, .val (.int p1), .unset, .unset, .unset, .unset, .unset, .unset, .unset, .unset, .unset] [] := by first | (simp [entryFrame, mkF, argsToLocals, Value.category, maxLocals]; done) | rfl
def Qo0 (Z : State) (q0 : Int64) (p1 : Int32)  (h0 : Heap) (n0 : Nat) (v : Option Value) (h : Heap) (L : List Loc) : Prop := v = some (.int 1) ∧ Fr n0 L
set_option maxRecDepth 65536 in
set_option maxHeartbeats 40000000 in
theorem rm0 (l : Launch) (Z : State) (aw : Array Value) (hw : ∀ d ∈ tables_1, d.before aw Z = true) (ws : List Jvm.Cond) (q0 : Int64) (p1 : Int32)  (h0 : Heap) (n0 : Nat) (Z0 : n0 ≤ h0.size)  :
    MetFree l x (head1 (Jvm.Cond.code x code maxLocals ret :: ws) room_1) (fun a U => a = #[(.long q0), (.int p1)] ∧ Z.Warmed39 U.vm ∧ U.heap = h0) (fun _ _ _ _ _ => True) (fun _ U o U' => ∃ v L, o = .returned v ∧ (Qo0 Z q0 p1 h0 n0) v U'.heap L ∧ FrameEnd U o U' L 16 128) := by
  refine ofWp (Q := Qo0 Z q0 p1 h0 n0) own_pl0 (fun m => own_ef0 m q0 p1) ?_
  intro p e s m below meth c T0 hx hby hml hown hnm hlk hret hZ X0 e0
  change s.vm.findClass "com/example/exact1/exact1/core/AcquisitionGrantedPinLaw" = some m.cls at hown
  have NF0 := Fr.nil n0
  have J23 : ∀ (T : State) (locs : List Loc) (cells slots : Nat) (X : Stand p l e room_1 s m #[(.long q0), (.int p1)] below meth c T locs cells slots) (eT : T.heap = h0) (NF : Fr n0 locs) (hC : cells = 0) (hS : slots = 0) (tk : Int64),  Wp p e below (Gd s (Qo0 Z q0 p1 h0 n0) 16 128) (T.setTop (mkF m 23 #[.val (.long q0), .second, .val (.int p1), .val (.long tk), .second, .unset, .unset, .unset, .unset, .unset, .unset, .unset] [])) := by
    intro T locs cells slots X eT NF hC hS tk
    subst hC hS
    refine Wp.via (fun _ k => XS.lloadN X.here hx rfl (hb hby at_23) rfl k) ?_
    show Wp p e below _ (T.setTop (mkF m 24 #[.val (.long q0), .second, .val (.int p1), .val (.long tk), .second, .unset, .unset, .unset, .unset, .unset, .unset, .unset] [(.long tk)]))
    obtain ⟨_, _, ⟨T1, L1, k1, n1⟩, -, X1, ⟨Lc1, hQ1, l1, y1, z1⟩, st1⟩ := Jvm.LawKit.callS X hx (y := (⟨"com/example/exact1/exact1/core/Acquisition", "granted", "(J)Lcom/example/exact1/exact1/core/Acquisition;"⟩ : MethodName)) hown (mvT hZ (hw _ (List.mem_of_getElem? (i := 5) rfl))) (mvT hZ (hw _ (List.mem_of_getElem? (i := 6) rfl))) (mvT hZ (hw _ (List.mem_of_getElem? (i := 7) rfl))) (mvT hZ (hw _ (List.mem_of_getElem? (i := 8) rfl))) (by decide) (backOf (W := 0) (rm2 l Z aw hw [] tk  h0 n0 Z0 ) hZ (hw _ (List.mem_of_getElem? (i := 8) rfl)) (hw _ (List.mem_of_getElem? (i := 7) rfl)) (by decide) (by decide)) (g := (mkF m 24 #[.val (.long q0), .second, .val (.int p1), .val (.long tk), .second, .unset, .unset, .unset, .unset, .unset, .unset, .unset] [(.long tk)])) rfl (by rw [hml]; rfl) (argsL := [(.long tk)]) (rest := []) (lenOf own_pd3 rfl) rfl (by show 2 * 0 + _ ≤ _; exact Nat.le_of_eq rfl) (hb hby at_24) (fun _ _ => ⟨rfl, eT, (by decide : 0 + 1 ≤ _), (by decide : 0 + 4 ≤ _)⟩)
    dsimp only [Pt.U, Pt.locs, Pt.cells, Pt.slots] at X1 l1 y1 z1 st1 hQ1
    subst l1 y1 z1
    obtain ⟨b, rfl, N1, Kc1, gn_b, sz_b, A, G1, G2, G3, G4⟩ := hQ1
    have NF1 := Fr.app NF N1
    refine Wp.via st1 ?_
    have K1' := (Keep.refl h0 []).trans Kc1 all0
    have zz2 : n0 ≤ T1.heap.size := Nat.le_trans Z0 Kc1.1
    show Wp p e below _ (T1.setTop (mkF m 27 #[.val (.long q0), .second, .val (.int p1), .val (.long tk), .second, .unset, .unset, .unset, .unset, .unset, .unset, .unset] [(.ref b)]))
    refine Wp.via (fun _ k => XS.astore X1.here hx rfl (hb hby at_27) rfl rfl (l' := #[.val (.long q0), .second, .val (.int p1), .val (.long tk), .second, .val (.ref b), .unset, .unset, .unset, .unset, .unset, .unset]) rfl k) ?_
    show Wp p e below _ (T1.setTop (mkF m 29 #[.val (.long q0), .second, .val (.int p1), .val (.long tk), .second, .val (.ref b), .unset, .unset, .unset, .unset, .unset, .unset] []))
    refine Wp.via (fun _ k => XS.aload X1.here hx rfl (hb hby at_29) rfl rfl k) ?_
    show Wp p e below _ (T1.setTop (mkF m 31 #[.val (.long q0), .second, .val (.int p1), .val (.long tk), .second, .val (.ref b), .unset, .unset, .unset, .unset, .unset, .unset] [(.ref b)]))
    obtain ⟨cq3, kq3, q3a, q3b, q3c⟩ := isOf hZ rfl A
    obtain ⟨_, _, ⟨T3, L3, k3, n3⟩, -, X3, ⟨Lc3, hQ3, l3, y3, z3⟩, st3⟩ := X1.virtualBack hx (y := (⟨"com/example/exact1/exact1/core/Acquisition", "isGranted", "()Z"⟩ : MethodName)) (z := (⟨"com/example/exact1/exact1/core/Acquisition", "isGranted", "()Z"⟩ : MethodName)) hown (mvT hZ (hw _ (List.mem_of_getElem? (i := 25) rfl))) (mvT hZ (hw _ (List.mem_of_getElem? (i := 26) rfl))) (notFace_of_selects (args := #[]) (mvT hZ (hw _ (List.mem_of_getElem? (i := 28) rfl)))) (mvT hZ (hw _ (List.mem_of_getElem? (i := 28) rfl))) (mvT hZ (hw _ (List.mem_of_getElem? (i := 27) rfl))) (by decide) (backOf (W := 0) (rm5 l Z aw hw [] b (1 : Int32) T1.heap n0 zz2 G1 rfl) hZ (hw _ (List.mem_of_getElem? (i := 29) rfl)) (hw _ (List.mem_of_getElem? (i := 7) rfl)) (by decide) (by decide)) q3a q3c (g := (mkF m 31 #[.val (.long q0), .second, .val (.int p1), .val (.long tk), .second, .val (.ref b), .unset, .unset, .unset, .unset, .unset, .unset] [(.ref b)])) rfl (by rw [hml]; rfl) (Steps.refl _) (argsL := []) (rest := []) (lenOf own_pd4 rfl) rfl (by show 2 * 0 + _ ≤ _; exact Nat.le_of_eq rfl) (hb hby at_31) (fun _ _ => ⟨rfl, rfl, (by decide : 1 + 0 ≤ _), (by decide : 4 + 0 ≤ _)⟩)
    dsimp only [Pt.U, Pt.locs, Pt.cells, Pt.slots] at X3 l3 y3 z3 st3 hQ3
    subst l3 y3 z3
    obtain ⟨rfl, N3, e3⟩ := hQ3
    have NF3 := Fr.app NF1 N3
    refine Wp.step st3 ?_
    show Wp p e below _ (T3.setTop (mkF m 34 #[.val (.long q0), .second, .val (.int p1), .val (.long tk), .second, .val (.ref b), .unset, .unset, .unset, .unset, .unset, .unset] [(.int (1 : Int32))]))
    refine Wp.via (fun _ k => XS.istore X3.here hx rfl (hb hby at_34) rfl (l' := #[.val (.long q0), .second, .val (.int p1), .val (.long tk), .second, .val (.ref b), .val (.int (1 : Int32)), .unset, .unset, .unset, .unset, .unset]) rfl k) ?_
    show Wp p e below _ (T3.setTop (mkF m 36 #[.val (.long q0), .second, .val (.int p1), .val (.long tk), .second, .val (.ref b), .val (.int (1 : Int32)), .unset, .unset, .unset, .unset, .unset] []))
    refine Wp.via (fun _ k => XS.aload X3.here hx rfl (hb hby at_36) rfl rfl k) ?_
    show Wp p e below _ (T3.setTop (mkF m 38 #[.val (.long q0), .second, .val (.int p1), .val (.long tk), .second, .val (.ref b), .val (.int (1 : Int32)), .unset, .unset, .unset, .unset, .unset] [(.ref b)]))
    obtain ⟨cq4, kq4, q4a, q4b, q4c⟩ := isOf hZ e3 A
    obtain ⟨_, _, ⟨T4, L4, k4, n4⟩, -, X4, ⟨Lc4, hQ4, l4, y4, z4⟩, st4⟩ := X3.virtualBack hx (y := (⟨"com/example/exact1/exact1/core/Acquisition", "isNewGrant", "()Z"⟩ : MethodName)) (z := (⟨"com/example/exact1/exact1/core/Acquisition", "isNewGrant", "()Z"⟩ : MethodName)) hown (mvT hZ (hw _ (List.mem_of_getElem? (i := 30) rfl))) (mvT hZ (hw _ (List.mem_of_getElem? (i := 31) rfl))) (notFace_of_selects (args := #[]) (mvT hZ (hw _ (List.mem_of_getElem? (i := 33) rfl)))) (mvT hZ (hw _ (List.mem_of_getElem? (i := 33) rfl))) (mvT hZ (hw _ (List.mem_of_getElem? (i := 32) rfl))) (by decide) (backOf (W := 0) (rm6 l Z aw hw [] b (1 : Int32) (0 : Int32) (1 : Int32) T1.heap n0 zz2 G1 G2 (by decide)) hZ (hw _ (List.mem_of_getElem? (i := 34) rfl)) (hw _ (List.mem_of_getElem? (i := 7) rfl)) (by decide) (by decide)) q4a q4c (g := (mkF m 38 #[.val (.long q0), .second, .val (.int p1), .val (.long tk), .second, .val (.ref b), .val (.int (1 : Int32)), .unset, .unset, .unset, .unset, .unset] [(.ref b)])) rfl (by rw [hml]; rfl) (Steps.refl _) (argsL := []) (rest := []) (lenOf own_pd4 rfl) rfl (by show 2 * 0 + _ ≤ _; exact Nat.le_of_eq rfl) (hb hby at_38) (fun _ _ => ⟨rfl, e3, (by decide : 1 + 0 ≤ _), (by decide : 4 + 0 ≤ _)⟩)
    dsimp only [Pt.U, Pt.locs, Pt.cells, Pt.slots] at X4 l4 y4 z4 st4 hQ4
    subst l4 y4 z4
    obtain ⟨rfl, N4, e4⟩ := hQ4
    have NF4 := Fr.app NF3 N4
    refine Wp.step st4 ?_
    show Wp p e below _ (T4.setTop (mkF m 41 #[.val (.long q0), .second, .val (.int p1), .val (.long tk), .second, .val (.ref b), .val (.int (1 : Int32)), .unset, .unset, .unset, .unset, .unset] [(.int (1 : Int32))]))
    refine Wp.via (fun _ k => XS.istore X4.here hx rfl (hb hby at_41) rfl (l' := #[.val (.long q0), .second, .val (.int p1), .val (.long tk), .second, .val (.ref b), .val (.int (1 : Int32)), .val (.int (1 : Int32)), .unset, .unset, .unset, .unset]) rfl k) ?_
    show Wp p e below _ (T4.setTop (mkF m 43 #[.val (.long q0), .second, .val (.int p1), .val (.long tk), .second, .val (.ref b), .val (.int (1 : Int32)), .val (.int (1 : Int32)), .unset, .unset, .unset, .unset] []))
    refine Wp.via (fun _ k => XS.aload X4.here hx rfl (hb hby at_43) rfl rfl k) ?_
    show Wp p e below _ (T4.setTop (mkF m 45 #[.val (.long q0), .second, .val (.int p1), .val (.long tk), .second, .val (.ref b), .val (.int (1 : Int32)), .val (.int (1 : Int32)), .unset, .unset, .unset, .unset] [(.ref b)]))
    obtain ⟨cq5, kq5, q5a, q5b, q5c⟩ := isOf hZ e4 A
    obtain ⟨_, _, ⟨T5, L5, k5, n5⟩, -, X5, ⟨Lc5, hQ5, l5, y5, z5⟩, st5⟩ := X4.virtualBack hx (y := (⟨"com/example/exact1/exact1/core/Acquisition", "token", "()J"⟩ : MethodName)) (z := (⟨"com/example/exact1/exact1/core/Acquisition", "token", "()J"⟩ : MethodName)) hown (mvT hZ (hw _ (List.mem_of_getElem? (i := 35) rfl))) (mvT hZ (hw _ (List.mem_of_getElem? (i := 36) rfl))) (notFace_of_selects (args := #[]) (mvT hZ (hw _ (List.mem_of_getElem? (i := 38) rfl)))) (mvT hZ (hw _ (List.mem_of_getElem? (i := 38) rfl))) (mvT hZ (hw _ (List.mem_of_getElem? (i := 37) rfl))) (by decide) (backOf (W := 0) (rm7 l Z aw hw [] b tk T1.heap n0 zz2 G3) hZ (hw _ (List.mem_of_getElem? (i := 39) rfl)) (hw _ (List.mem_of_getElem? (i := 7) rfl)) (by decide) (by decide)) q5a q5c (g := (mkF m 45 #[.val (.long q0), .second, .val (.int p1), .val (.long tk), .second, .val (.ref b), .val (.int (1 : Int32)), .val (.int (1 : Int32)), .unset, .unset, .unset, .unset] [(.ref b)])) rfl (by rw [hml]; rfl) (Steps.refl _) (argsL := []) (rest := []) (lenOf own_pd5 rfl) rfl (by show 2 * 0 + _ ≤ _; exact Nat.le_of_eq rfl) (hb hby at_45) (fun _ _ => ⟨rfl, e4, (by decide : 1 + 0 ≤ _), (by decide : 4 + 0 ≤ _)⟩)
    dsimp only [Pt.U, Pt.locs, Pt.cells, Pt.slots] at X5 l5 y5 z5 st5 hQ5
    subst l5 y5 z5
    obtain ⟨rfl, N5, e5⟩ := hQ5
    have NF5 := Fr.app NF4 N5
    refine Wp.step st5 ?_
    show Wp p e below _ (T5.setTop (mkF m 48 #[.val (.long q0), .second, .val (.int p1), .val (.long tk), .second, .val (.ref b), .val (.int (1 : Int32)), .val (.int (1 : Int32)), .unset, .unset, .unset, .unset] [(.long tk)]))
    refine Wp.via (fun _ k => XS.lstore X5.here hx rfl (hb hby at_48) rfl (l' := #[.val (.long q0), .second, .val (.int p1), .val (.long tk), .second, .val (.ref b), .val (.int (1 : Int32)), .val (.int (1 : Int32)), .val (.long tk), .second, .unset, .unset]) rfl k) ?_
    show Wp p e below _ (T5.setTop (mkF m 50 #[.val (.long q0), .second, .val (.int p1), .val (.long tk), .second, .val (.ref b), .val (.int (1 : Int32)), .val (.int (1 : Int32)), .val (.long tk), .second, .unset, .unset] []))
    refine Wp.via (fun _ k => XS.aload X5.here hx rfl (hb hby at_50) rfl rfl k) ?_
    show Wp p e below _ (T5.setTop (mkF m 52 #[.val (.long q0), .second, .val (.int p1), .val (.long tk), .second, .val (.ref b), .val (.int (1 : Int32)), .val (.int (1 : Int32)), .val (.long tk), .second, .unset, .unset] [(.ref b)]))
    obtain ⟨cq6, kq6, q6a, q6b, q6c⟩ := isOf hZ e5 A
    obtain ⟨_, _, ⟨T6, L6, k6, n6⟩, -, X6, ⟨Lc6, hQ6, l6, y6, z6⟩, st6⟩ := X5.virtualBack hx (y := (⟨"com/example/exact1/exact1/core/Acquisition", "expiresInMillis", "()J"⟩ : MethodName)) (z := (⟨"com/example/exact1/exact1/core/Acquisition", "expiresInMillis", "()J"⟩ : MethodName)) hown (mvT hZ (hw _ (List.mem_of_getElem? (i := 40) rfl))) (mvT hZ (hw _ (List.mem_of_getElem? (i := 41) rfl))) (notFace_of_selects (args := #[]) (mvT hZ (hw _ (List.mem_of_getElem? (i := 43) rfl)))) (mvT hZ (hw _ (List.mem_of_getElem? (i := 43) rfl))) (mvT hZ (hw _ (List.mem_of_getElem? (i := 42) rfl))) (by decide) (backOf (W := 0) (rm8 l Z aw hw [] b (0 : Int64) T1.heap n0 zz2 G4) hZ (hw _ (List.mem_of_getElem? (i := 44) rfl)) (hw _ (List.mem_of_getElem? (i := 7) rfl)) (by decide) (by decide)) q6a q6c (g := (mkF m 52 #[.val (.long q0), .second, .val (.int p1), .val (.long tk), .second, .val (.ref b), .val (.int (1 : Int32)), .val (.int (1 : Int32)), .val (.long tk), .second, .unset, .unset] [(.ref b)])) rfl (by rw [hml]; rfl) (Steps.refl _) (argsL := []) (rest := []) (lenOf own_pd5 rfl) rfl (by show 2 * 0 + _ ≤ _; exact Nat.le_of_eq rfl) (hb hby at_52) (fun _ _ => ⟨rfl, e5, (by decide : 1 + 0 ≤ _), (by decide : 4 + 0 ≤ _)⟩)
    dsimp only [Pt.U, Pt.locs, Pt.cells, Pt.slots] at X6 l6 y6 z6 st6 hQ6
    subst l6 y6 z6
    obtain ⟨rfl, N6, e6⟩ := hQ6
    have NF6 := Fr.app NF5 N6
    refine Wp.step st6 ?_
    show Wp p e below _ (T6.setTop (mkF m 55 #[.val (.long q0), .second, .val (.int p1), .val (.long tk), .second, .val (.ref b), .val (.int (1 : Int32)), .val (.int (1 : Int32)), .val (.long tk), .second, .unset, .unset] [(.long (0 : Int64))]))
    refine Wp.via (fun _ k => XS.lstore X6.here hx rfl (hb hby at_55) rfl (l' := #[.val (.long q0), .second, .val (.int p1), .val (.long tk), .second, .val (.ref b), .val (.int (1 : Int32)), .val (.int (1 : Int32)), .val (.long tk), .second, .val (.long (0 : Int64)), .second]) rfl k) ?_
    show Wp p e below _ (T6.setTop (mkF m 57 #[.val (.long q0), .second, .val (.int p1), .val (.long tk), .second, .val (.ref b), .val (.int (1 : Int32)), .val (.int (1 : Int32)), .val (.long tk), .second, .val (.long (0 : Int64)), .second] []))
    refine Wp.via (fun _ k => XS.iload X6.here hx rfl (hb hby at_57) rfl k) ?_
    show Wp p e below _ (T6.setTop (mkF m 59 #[.val (.long q0), .second, .val (.int p1), .val (.long tk), .second, .val (.ref b), .val (.int (1 : Int32)), .val (.int (1 : Int32)), .val (.long tk), .second, .val (.long (0 : Int64)), .second] [(.int (1 : Int32))]))
    refine Wp.via (fun _ k => XS.ifNo X6.here hx rfl (hb hby at_59) rfl ((if0 _ _).trans (feq (by decide)).1) k) ?_
    show Wp p e below _ (T6.setTop (mkF m 62 #[.val (.long q0), .second, .val (.int p1), .val (.long tk), .second, .val (.ref b), .val (.int (1 : Int32)), .val (.int (1 : Int32)), .val (.long tk), .second, .val (.long (0 : Int64)), .second] []))
    refine Wp.via (fun _ k => XS.iload X6.here hx rfl (hb hby at_62) rfl k) ?_
    show Wp p e below _ (T6.setTop (mkF m 64 #[.val (.long q0), .second, .val (.int p1), .val (.long tk), .second, .val (.ref b), .val (.int (1 : Int32)), .val (.int (1 : Int32)), .val (.long tk), .second, .val (.long (0 : Int64)), .second] [(.int (1 : Int32))]))
    refine Wp.via (fun _ k => XS.ifNo X6.here hx rfl (hb hby at_64) rfl ((if0 _ _).trans (feq (by decide)).1) k) ?_
    show Wp p e below _ (T6.setTop (mkF m 67 #[.val (.long q0), .second, .val (.int p1), .val (.long tk), .second, .val (.ref b), .val (.int (1 : Int32)), .val (.int (1 : Int32)), .val (.long tk), .second, .val (.long (0 : Int64)), .second] []))
    refine Wp.via (fun _ k => XS.lload X6.here hx rfl (hb hby at_67) rfl k) ?_
    show Wp p e below _ (T6.setTop (mkF m 69 #[.val (.long q0), .second, .val (.int p1), .val (.long tk), .second, .val (.ref b), .val (.int (1 : Int32)), .val (.int (1 : Int32)), .val (.long tk), .second, .val (.long (0 : Int64)), .second] [(.long tk)]))
    refine Wp.via (fun _ k => XS.lloadN X6.here hx rfl (hb hby at_69) rfl k) ?_
    show Wp p e below _ (T6.setTop (mkF m 70 #[.val (.long q0), .second, .val (.int p1), .val (.long tk), .second, .val (.ref b), .val (.int (1 : Int32)), .val (.int (1 : Int32)), .val (.long tk), .second, .val (.long (0 : Int64)), .second] [(.long tk), (.long tk)]))
    refine Wp.via (fun _ k => XS.lcmp X6.here hx rfl (hb hby at_70) rfl k) ?_
    show Wp p e below _ (T6.setTop (mkF m 71 #[.val (.long q0), .second, .val (.int p1), .val (.long tk), .second, .val (.ref b), .val (.int (1 : Int32)), .val (.int (1 : Int32)), .val (.long tk), .second, .val (.long (0 : Int64)), .second] [(.int (lcmpW tk tk))]))
    refine Wp.via (fun _ k => XS.ifNo X6.here hx rfl (hb hby at_71) rfl ((if0 _ _).trans (teq ((lw_eq _ _).mpr rfl)).2) k) ?_
    show Wp p e below _ (T6.setTop (mkF m 74 #[.val (.long q0), .second, .val (.int p1), .val (.long tk), .second, .val (.ref b), .val (.int (1 : Int32)), .val (.int (1 : Int32)), .val (.long tk), .second, .val (.long (0 : Int64)), .second] []))
    refine Wp.via (fun _ k => XS.lload X6.here hx rfl (hb hby at_74) rfl k) ?_
    show Wp p e below _ (T6.setTop (mkF m 76 #[.val (.long q0), .second, .val (.int p1), .val (.long tk), .second, .val (.ref b), .val (.int (1 : Int32)), .val (.int (1 : Int32)), .val (.long tk), .second, .val (.long (0 : Int64)), .second] [(.long (0 : Int64))]))
    refine Wp.via (fun _ k => XS.lconst X6.here hx rfl (hb hby at_76) k) ?_
    show Wp p e below _ (T6.setTop (mkF m 77 #[.val (.long q0), .second, .val (.int p1), .val (.long tk), .second, .val (.ref b), .val (.int (1 : Int32)), .val (.int (1 : Int32)), .val (.long tk), .second, .val (.long (0 : Int64)), .second] [(.long (0 : Int64)), (.long (0 : Int64))]))
    refine Wp.via (fun _ k => XS.lcmp X6.here hx rfl (hb hby at_77) rfl k) ?_
    show Wp p e below _ (T6.setTop (mkF m 78 #[.val (.long q0), .second, .val (.int p1), .val (.long tk), .second, .val (.ref b), .val (.int (1 : Int32)), .val (.int (1 : Int32)), .val (.long tk), .second, .val (.long (0 : Int64)), .second] [(.int (lcmpW (0 : Int64) (0 : Int64)))]))
    refine Wp.via (fun _ k => XS.ifNo X6.here hx rfl (hb hby at_78) rfl ((if0 _ _).trans (teq ((lw_eq _ _).mpr rfl)).2) k) ?_
    show Wp p e below _ (T6.setTop (mkF m 81 #[.val (.long q0), .second, .val (.int p1), .val (.long tk), .second, .val (.ref b), .val (.int (1 : Int32)), .val (.int (1 : Int32)), .val (.long tk), .second, .val (.long (0 : Int64)), .second] []))
    refine Wp.via (fun _ k => XS.iconst X6.here hx rfl (hb hby at_81) k) ?_
    show Wp p e below _ (T6.setTop (mkF m 82 #[.val (.long q0), .second, .val (.int p1), .val (.long tk), .second, .val (.ref b), .val (.int (1 : Int32)), .val (.int (1 : Int32)), .val (.long tk), .second, .val (.long (0 : Int64)), .second] [(.int (1 : Int32))]))
    refine Wp.via (fun _ k => XS.goto X6.here hx rfl (pc0 := 82) (pc' := 86) rfl (hb hby at_82) (by decide) (by decide) k) ?_
    show Wp p e below _ (T6.setTop (mkF m 86 #[.val (.long q0), .second, .val (.int p1), .val (.long tk), .second, .val (.ref b), .val (.int (1 : Int32)), .val (.int (1 : Int32)), .val (.long tk), .second, .val (.long (0 : Int64)), .second] [(.int (1 : Int32))]))
    exact Wp.retI X6 hlk hx hret (by simp) (by first | rfl | decide) (hb hby at_86) ⟨rfl, NF6⟩ (by decide) (by decide)
  refine Wp.via (fun _ k => XS.iloadN X0.here hx rfl (hb hby at_0) rfl k) ?_
  show Wp p e below _ (T0.setTop (mkF m 1 #[.val (.long q0), .second, .val (.int p1), .unset, .unset, .unset, .unset, .unset, .unset, .unset, .unset, .unset] [(.int p1)]))
  refine Wp.via (fun _ k => XS.iconst X0.here hx rfl (hb hby at_1) k) ?_
  show Wp p e below _ (T0.setTop (mkF m 2 #[.val (.long q0), .second, .val (.int p1), .unset, .unset, .unset, .unset, .unset, .unset, .unset, .unset, .unset] [(.int (1 : Int32)), (.int p1)]))
  refine Wp.via (fun _ k => XS.iand X0.here hx rfl (hb hby at_2) rfl k) ?_
  show Wp p e below _ (T0.setTop (mkF m 3 #[.val (.long q0), .second, .val (.int p1), .unset, .unset, .unset, .unset, .unset, .unset, .unset, .unset, .unset] [(.int (p1 &&& (1 : Int32)))]))
  by_cases c1 : (p1 &&& (1 : Int32)) = (0 : Int32)
  ·
    refine Wp.via (fun _ k => XS.ifYes X0.here hx rfl (pc0 := 3) (pc' := 13) rfl (hb hby at_3) rfl ((if0 _ _).trans (teq c1).1) (by decide) (by decide) k) ?_
    show Wp p e below _ (T0.setTop (mkF m 13 #[.val (.long q0), .second, .val (.int p1), .unset, .unset, .unset, .unset, .unset, .unset, .unset, .unset, .unset] []))
    refine Wp.via (fun _ k => XS.lconst X0.here hx rfl (hb hby at_13) k) ?_
    show Wp p e below _ (T0.setTop (mkF m 14 #[.val (.long q0), .second, .val (.int p1), .unset, .unset, .unset, .unset, .unset, .unset, .unset, .unset, .unset] [(.long (1 : Int64))]))
    refine Wp.via (fun _ k => XS.lloadN X0.here hx rfl (hb hby at_14) rfl k) ?_
    show Wp p e below _ (T0.setTop (mkF m 15 #[.val (.long q0), .second, .val (.int p1), .unset, .unset, .unset, .unset, .unset, .unset, .unset, .unset, .unset] [(.long q0), (.long (1 : Int64))]))
    refine Wp.via (fun _ k => X0.ldc2Long hx hown (mvT hZ (hw _ (List.mem_of_getElem? (i := 0) rfl))) (g := (mkF m 15 #[.val (.long q0), .second, .val (.int p1), .unset, .unset, .unset, .unset, .unset, .unset, .unset, .unset, .unset] [(.long q0), (.long (1 : Int64))])) rfl (hb hby at_15) _ k) ?_
    show Wp p e below _ (T0.setTop (mkF m 18 #[.val (.long q0), .second, .val (.int p1), .unset, .unset, .unset, .unset, .unset, .unset, .unset, .unset, .unset] [(.long (9223372036854775807 : Int64)), (.long q0), (.long (1 : Int64))]))
    refine Wp.via (fun _ k => XS.land X0.here hx rfl (hb hby at_18) rfl k) ?_
    show Wp p e below _ (T0.setTop (mkF m 19 #[.val (.long q0), .second, .val (.int p1), .unset, .unset, .unset, .unset, .unset, .unset, .unset, .unset, .unset] [(.long (q0 &&& (9223372036854775807 : Int64))), (.long (1 : Int64))]))
    obtain ⟨_, _, ⟨T7, L7, k7, n7⟩, -, X7, ⟨Lc7, hQ7, l7, y7, z7⟩, st7⟩ := Jvm.LawKit.callS X0 hx (y := (⟨"java/lang/Math", "max", "(JJ)J"⟩ : MethodName)) hown (mvT hZ (hw _ (List.mem_of_getElem? (i := 1) rfl))) (mvT hZ (hw _ (List.mem_of_getElem? (i := 2) rfl))) (mvT hZ (hw _ (List.mem_of_getElem? (i := 3) rfl))) (mvT hZ (hw _ (List.mem_of_getElem? (i := 4) rfl))) (by decide) (backOf (W := 0) (rm1 l Z aw hw [] (1 : Int64) (q0 &&& (9223372036854775807 : Int64))  h0 n0 Z0 ) hZ (hw _ (List.mem_of_getElem? (i := 4) rfl)) (hw _ (List.mem_of_getElem? (i := 3) rfl)) (by decide) (by decide)) (g := (mkF m 19 #[.val (.long q0), .second, .val (.int p1), .unset, .unset, .unset, .unset, .unset, .unset, .unset, .unset, .unset] [(.long (q0 &&& (9223372036854775807 : Int64))), (.long (1 : Int64))])) rfl (by rw [hml]; rfl) (argsL := [(.long (1 : Int64)), (.long (q0 &&& (9223372036854775807 : Int64)))]) (rest := []) (lenOf own_pd2 rfl) rfl (by show 2 * 0 + _ ≤ _; exact Nat.le_of_eq rfl) (hb hby at_19) (fun _ _ => ⟨rfl, e0, (by decide : 0 + 0 ≤ _), (by decide : 0 + 0 ≤ _)⟩)
    dsimp only [Pt.U, Pt.locs, Pt.cells, Pt.slots] at X7 l7 y7 z7 st7 hQ7
    subst l7 y7 z7
    obtain ⟨rfl, N7, e7⟩ := hQ7
    have NF7 := Fr.app NF0 N7
    refine Wp.via st7 ?_
    show Wp p e below _ (T7.setTop (mkF m 22 #[.val (.long q0), .second, .val (.int p1), .unset, .unset, .unset, .unset, .unset, .unset, .unset, .unset, .unset] [(.long (f1_0 (1 : Int64) (q0 &&& (9223372036854775807 : Int64))))]))
    refine Wp.via (fun _ k => XS.lstoreN X7.here hx rfl (hb hby at_22) rfl (l' := #[.val (.long q0), .second, .val (.int p1), .val (.long (f1_0 (1 : Int64) (q0 &&& (9223372036854775807 : Int64)))), .second, .unset, .unset, .unset, .unset, .unset, .unset, .unset]) rfl k) ?_
    show Wp p e below _ (T7.setTop (mkF m 23 #[.val (.long q0), .second, .val (.int p1), .val (.long (f1_0 (1 : Int64) (q0 &&& (9223372036854775807 : Int64)))), .second, .unset, .unset, .unset, .unset, .unset, .unset, .unset] []))
    exact J23 T7 _ _ _ X7 e7 NF7 rfl rfl _
  ·
    refine Wp.via (fun _ k => XS.ifNo X0.here hx rfl (hb hby at_3) rfl ((if0 _ _).trans (feq c1).1) k) ?_
    show Wp p e below _ (T0.setTop (mkF m 6 #[.val (.long q0), .second, .val (.int p1), .unset, .unset, .unset, .unset, .unset, .unset, .unset, .unset, .unset] []))
    refine Wp.via (fun _ k => X0.ldc2Long hx hown (mvT hZ (hw _ (List.mem_of_getElem? (i := 45) rfl))) (g := (mkF m 6 #[.val (.long q0), .second, .val (.int p1), .unset, .unset, .unset, .unset, .unset, .unset, .unset, .unset, .unset] [])) rfl (hb hby at_6) _ k) ?_
    show Wp p e below _ (T0.setTop (mkF m 9 #[.val (.long q0), .second, .val (.int p1), .unset, .unset, .unset, .unset, .unset, .unset, .unset, .unset, .unset] [(.long (-1 : Int64))]))
    refine Wp.via (fun _ k => XS.lstoreN X0.here hx rfl (hb hby at_9) rfl (l' := #[.val (.long q0), .second, .val (.int p1), .val (.long (-1 : Int64)), .second, .unset, .unset, .unset, .unset, .unset, .unset, .unset]) rfl k) ?_
    show Wp p e below _ (T0.setTop (mkF m 10 #[.val (.long q0), .second, .val (.int p1), .val (.long (-1 : Int64)), .second, .unset, .unset, .unset, .unset, .unset, .unset, .unset] []))
    refine Wp.via (fun _ k => XS.goto X0.here hx rfl (pc0 := 10) (pc' := 23) rfl (hb hby at_10) (by decide) (by decide) k) ?_
    show Wp p e below _ (T0.setTop (mkF m 23 #[.val (.long q0), .second, .val (.int p1), .val (.long (-1 : Int64)), .second, .unset, .unset, .unset, .unset, .unset, .unset, .unset] []))
    exact J23 T0 _ _ _ X0 e0 NF0 rfl rfl _
set_option maxRecDepth 65536 in
set_option maxHeartbeats 40000000 in
theorem comes_1 {Post : Tables → Env → Array Value → State → Outcome → State → Prop} (hpost : ∀ tb e args s v u, (limb_1_1.after args s (.returned v) u = true ∧ limb_1_2.after args s (.returned v) u = true ∧ True) → FrameEnd s (.returned v) u (Jvm.fieldLocs frame_1_writes args s ++ Jvm.arrayLocs frame_1_arrays args s ++ Jvm.staticLocs frame_1_statics s) 16 128 → Post tb e args s (.returned v) u) :
    ArmFor flags0 classFile x code maxLocals ret World_1 tables_1 room_1 Calls_1 rest_1 Pre_1 Post := by
  intro l hfl _ _ p e ha hc hk s m args below hf hA hF happ hP
  obtain ⟨hcalls, hrest, hpre⟩ := hP
  obtain ⟨-, -, -, hnamed, -, -, -, hat⟩ := (Spec.applies_iff hf).mp happ
  obtain ⟨hg, hn⟩ := and_e (Cond.before_iff.mp (show (Jvm.Cond.and given_1 narrow_1).before args s = true from hpre))
  obtain ⟨g1, g2⟩ := and_e hg
  obtain ⟨g3, g4⟩ := and_e g2
  obtain ⟨w0, w1, rfl⟩ : ∃ w0 w1 : Value, args = #[w0, w1] := by
    have hs : args.size = 2 := by simpa [Cond.value, given_1] using g1
    obtain ⟨L⟩ := args
    match L, hs with
    | [w0, w1], _ => exact ⟨w0, w1, rfl⟩
  have hw := fun d (hd : d ∈ tables_1) => atoms_spec (ws := Jvm.Cond.code x code maxLocals ret :: tables_1) hat d (List.mem_cons_of_mem _ hd)
  obtain ⟨i0, ei0⟩ := isL_v g3
  obtain rfl : w0 = (.long i0) := Option.some.inj ei0
  obtain ⟨i1, ei1⟩ := is_v g4
  obtain rfl : w1 = (.int i1) := Option.some.inj ei1
  obtain ⟨n, o, h1, h2, h3, _, L, rfl, ⟨rfl, N⟩, hq⟩ := rm0 l s _ hw tables_1 i0 i1 s.heap s.heap.size (Nat.le_refl _)  p e ha hc hk s m _ below hf ((Spec.applies_iff_loose hf).mp happ).1 ⟨rfl, State.Warmed39.refl s, rfl⟩ trivial
  refine ⟨n, _, h1, h2, h3, hpost _ _ _ _ _ _ ⟨Cond.after_iff.mpr rfl, Cond.after_iff.mpr (eq_i res_at (Term.int_eval (1)) rfl), trivial⟩ ⟨hq.1, hq.2.1, (hq.2.2.sift fun y hy => Or.inr (N y hy)).mono (by decide) (by decide)⟩⟩
theorem main_1_1 : Claimed_1_1 := comes_1 fun _ _ _ _ _ _ h hF => ⟨h.1, hF⟩
theorem main_1_2 : Claimed_1_2 := comes_1 fun _ _ _ _ _ _ h hF => ⟨h.2.1, hF⟩
end Jvm.Pilot.@@N@@
namespace Jvm.Pilot.@@N@@
open Jvm Jvm.ClassFile Sem Op Lib Jvm.Free Jvm.Stand Jvm.Pilot.@@N@@.Jvm.D
/-! MADE BY PROGRAM (witnessworld.py) out of the Statement's table words and the real class files: 10 classes; the members and pool entries that the words name. The judged class is class 1, her method 1. -/
namespace start1
open Jvm.ClassFile
def u (s : String) : CpInfo := .utf8 (stringToUtf16 s)
/-- a pool by its gaps: so many unusable entries, then the entry; so many at the end -/
def gap : Nat → List CpInfo → List CpInfo
  | 0, r => r
  | n + 1, r => .unusable :: gap n r
def poolList (es : List (Nat × CpInfo)) (last : Nat) : List CpInfo := es.foldr (fun e r => gap e.1 (e.2 :: r)) (gap last [])
def pool (es : List (Nat × CpInfo)) (last : Nat) : Array CpInfo := ⟨poolList es last⟩
def fileOf (pool : Array CpInfo) (this : Nat) (attrs : Array Attribute := #[]) (ms : Array MethodInfo := #[]) (fl : Nat := 33) (sup : Nat := 0) (ifs : Array Nat := #[]) (fds : Array FieldInfo := #[]) : ClassFile where
  minorVersion := 0
  majorVersion := 65
  constantPool := pool
  accessFlags := fl
  thisClass := this
  superClass := sup
  interfaces := ifs
  fields := fds
  methods := ms
  attributes := attrs
def plain (name : String) (sup : Option ClassId) : Class where
  name := name
  kind := .ordinary
  loader := none
  accessFlags := 33
  super := sup
  interfaces := #[]
  cf := none
  fields := #[]
  methods := #[]
  instanceTypes := #[]
  staticTypes := #[]
  resolved := #[]
  callSites := []
  init := .initialized
  statics := none
  mirror := none

def pool0 : Array CpInfo := pool [(5, u "<init>"), (0, u "()V"), (1, .class_ 10), (1, u "java/lang/Object")] 113

def k0c0 : Code := { maxStack := 0, maxLocals := 1, code := object_method_1_code, exceptionTable := #[], attributes := #[] }
def k0m0 : Method := { name := "<init>", desc := "()V", sig := { parameters := [], returnType := none }, accessFlags := 1, code := some k0c0 }
/-- java/lang/Object -/
def k0 : Class := { plain "java/lang/Object" none with
  accessFlags := 33
  interfaces := #[]
  cf := some (fileOf pool0 8 #[] #[{ accessFlags := 1, nameIndex := 5, descriptorIndex := 6, attributes := #[] }] 33 0 #[] #[])
  fields := #[]
  methods := #[k0m0]
  instanceTypes := #[]
  staticTypes := #[]
  resolved := Array.replicate 124 none
  statics := none }

def pool1 : Array CpInfo := pool [(2, .class_ 4), (1, u "java/lang/Object"), (0, u "<init>"), (0, u "()V"), (0, .class_ 8), (0, u "com/example/exact1/exact1/core/Acquisition"), (0, .long 18446744073709551615), (3, .long 9223372036854775807), (1, .methodref 16 17), (0, .class_ 18), (0, .nameAndType 19 20), (0, u "java/lang/Math"), (0, u "max"), (0, u "(JJ)J"), (0, .methodref 7 22), (0, .nameAndType 23 24), (0, u "granted"), (0, u "(J)Lcom/example/exact1/exact1/core/Acquisition;"), (0, .methodref 7 26), (0, .nameAndType 27 28), (0, u "isGranted"), (0, u "()Z"), (0, .methodref 7 30), (0, .nameAndType 31 28), (0, u "isNewGrant"), (0, .methodref 7 33), (0, .nameAndType 34 35), (0, u "token"), (0, u "()J"), (0, .methodref 7 37), (0, .nameAndType 38 35), (0, u "expiresInMillis"), (0, .class_ 40), (0, u "com/example/exact1/exact1/core/AcquisitionGrantedPinLaw"), (2, u "law"), (0, u "(JI)Z")] 3

def k1m0 : Method := { name := "<init>", desc := "()V", sig := { parameters := [], returnType := none }, accessFlags := 1, code := none }
def k1c1 : Code := { maxStack := 6, maxLocals := 12, code := code, exceptionTable := #[], attributes := #[] }
def k1m1 : Method := { name := "law", desc := "(JI)Z", sig := { parameters := [.long, .int], returnType := some .boolean }, accessFlags := 9, code := some k1c1 }
/-- com/example/exact1/exact1/core/AcquisitionGrantedPinLaw -/
def k1 : Class := { plain "com/example/exact1/exact1/core/AcquisitionGrantedPinLaw" (some 0) with
  accessFlags := 49
  interfaces := #[]
  cf := some (fileOf pool1 39 #[] #[{ accessFlags := 1, nameIndex := 5, descriptorIndex := 6, attributes := #[] }, { accessFlags := 9, nameIndex := 43, descriptorIndex := 44, attributes := #[] }] 49 2 #[] #[])
  fields := #[]
  methods := #[k1m0, k1m1]
  instanceTypes := #[]
  staticTypes := #[]
  resolved := Array.replicate 48 none
  statics := none }

def pool2 : Array CpInfo := pool [(1, .class_ 2), (0, u "java/lang/Math"), (1, .class_ 6), (1, u "java/lang/Object"), (0, u "<init>"), (0, u "()V"), (89, .class_ 100), (1, u "java/lang/Math$RandomNumberGeneratorHolder"), (20, u "(JJ)J"), (50, u "negativeZeroFloatBits"), (0, u "J"), (2, u "negativeZeroDoubleBits"), (21, u "max"), (46, u "$assertionsDisabled"), (0, u "Z"), (91, u "twoToTheDoubleScaleDown"), (0, u "D"), (4, u "twoToTheDoubleScaleUp"), (9, u "E"), (3, u "PI"), (2, u "TAU"), (2, u "DEGREES_TO_RADIANS"), (0, u "RADIANS_TO_DEGREES")] 94

def k2m0 : Method := { name := "<init>", desc := "()V", sig := { parameters := [], returnType := none }, accessFlags := 2, code := none }
def k2c1 : Code := { maxStack := 4, maxLocals := 4, code := jdk_29_method_66_code, exceptionTable := #[], attributes := #[] }
def k2m1 : Method := { name := "max", desc := "(JJ)J", sig := { parameters := [.long, .long], returnType := some .long }, accessFlags := 9, code := some k2c1 }
/-- java/lang/Math -/
def k2 : Class := { plain "java/lang/Math" (some 0) with
  accessFlags := 49
  interfaces := #[]
  cf := some (fileOf pool2 1 #[.nestMembers #[98]] #[{ accessFlags := 2, nameIndex := 7, descriptorIndex := 8, attributes := #[] }, { accessFlags := 9, nameIndex := 198, descriptorIndex := 121, attributes := #[] }] 49 4 #[] #[{ accessFlags := 25, nameIndex := 354, descriptorIndex := 339, attributes := #[] }, { accessFlags := 25, nameIndex := 358, descriptorIndex := 339, attributes := #[] }, { accessFlags := 25, nameIndex := 361, descriptorIndex := 339, attributes := #[] }, { accessFlags := 26, nameIndex := 364, descriptorIndex := 339, attributes := #[] }, { accessFlags := 26, nameIndex := 365, descriptorIndex := 339, attributes := #[] }, { accessFlags := 26, nameIndex := 172, descriptorIndex := 173, attributes := #[] }, { accessFlags := 26, nameIndex := 176, descriptorIndex := 173, attributes := #[] }, { accessFlags := 8, nameIndex := 344, descriptorIndex := 339, attributes := #[] }, { accessFlags := 8, nameIndex := 338, descriptorIndex := 339, attributes := #[] }, { accessFlags := 4120, nameIndex := 245, descriptorIndex := 246, attributes := #[] }])
  fields := #[{ name := "E", type := .double, accessFlags := 25, slot := 0, constantValue := 0 }, { name := "PI", type := .double, accessFlags := 25, slot := 1, constantValue := 0 }, { name := "TAU", type := .double, accessFlags := 25, slot := 2, constantValue := 0 }, { name := "DEGREES_TO_RADIANS", type := .double, accessFlags := 26, slot := 3, constantValue := 0 }, { name := "RADIANS_TO_DEGREES", type := .double, accessFlags := 26, slot := 4, constantValue := 0 }, { name := "negativeZeroFloatBits", type := .long, accessFlags := 26, slot := 5, constantValue := 0 }, { name := "negativeZeroDoubleBits", type := .long, accessFlags := 26, slot := 6, constantValue := 0 }, { name := "twoToTheDoubleScaleUp", type := .double, accessFlags := 8, slot := 7, constantValue := 0 }, { name := "twoToTheDoubleScaleDown", type := .double, accessFlags := 8, slot := 8, constantValue := 0 }, { name := "$assertionsDisabled", type := .boolean, accessFlags := 4120, slot := 9, constantValue := 0 }]
  methods := #[k2m0, k2m1]
  instanceTypes := #[]
  staticTypes := #[.double, .double, .double, .double, .double, .long, .long, .double, .double, .boolean]
  resolved := Array.replicate 460 none
  statics := none }

def pool3 : Array CpInfo := pool [(3, .methodref 4 5), (0, .class_ 6), (0, .nameAndType 7 8), (0, u "java/lang/Object"), (0, u "<init>"), (0, u "()V"), (0, .fieldref 10 11), (0, .class_ 12), (0, .nameAndType 13 14), (0, u "com/example/exact1/exact1/core/Acquisition"), (0, u "granted"), (0, u "Z"), (0, .fieldref 10 16), (0, .nameAndType 17 14), (0, u "reentry"), (0, .fieldref 10 19), (0, .nameAndType 20 21), (0, u "token"), (0, u "J"), (0, .fieldref 10 23), (0, .nameAndType 24 21), (0, u "expiresInMillis"), (0, .methodref 10 26), (0, .nameAndType 7 27), (0, u "(ZZJJ)V"), (2, u "NO_EXPIRY"), (3, u "NO_TOKEN"), (2, u "(J)Lcom/example/exact1/exact1/core/Acquisition;"), (2, u "isGranted"), (0, u "()Z"), (0, u "isNewGrant"), (1, u "()J")] 2

def k3c0 : Code := { maxStack := 3, maxLocals := 7, code := prog_8_method_1_code, exceptionTable := #[], attributes := #[] }
def k3m0 : Method := { name := "<init>", desc := "(ZZJJ)V", sig := { parameters := [.boolean, .boolean, .long, .long], returnType := none }, accessFlags := 2, code := some k3c0 }
def k3c1 : Code := { maxStack := 8, maxLocals := 2, code := prog_8_method_2_code, exceptionTable := #[], attributes := #[] }
def k3m1 : Method := { name := "granted", desc := "(J)Lcom/example/exact1/exact1/core/Acquisition;", sig := { parameters := [.long], returnType := some (.object "com/example/exact1/exact1/core/Acquisition") }, accessFlags := 9, code := some k3c1 }
def k3c2 : Code := { maxStack := 1, maxLocals := 1, code := prog_8_method_5_code, exceptionTable := #[], attributes := #[] }
def k3m2 : Method := { name := "isGranted", desc := "()Z", sig := { parameters := [], returnType := some .boolean }, accessFlags := 1, code := some k3c2 }
def k3c3 : Code := { maxStack := 1, maxLocals := 1, code := prog_8_method_6_code, exceptionTable := #[], attributes := #[] }
def k3m3 : Method := { name := "isNewGrant", desc := "()Z", sig := { parameters := [], returnType := some .boolean }, accessFlags := 1, code := some k3c3 }
def k3c4 : Code := { maxStack := 2, maxLocals := 1, code := prog_8_method_7_code, exceptionTable := #[], attributes := #[] }
def k3m4 : Method := { name := "token", desc := "()J", sig := { parameters := [], returnType := some .long }, accessFlags := 1, code := some k3c4 }
def k3c5 : Code := { maxStack := 2, maxLocals := 1, code := prog_8_method_8_code, exceptionTable := #[], attributes := #[] }
def k3m5 : Method := { name := "expiresInMillis", desc := "()J", sig := { parameters := [], returnType := some .long }, accessFlags := 1, code := some k3c5 }
/-- com/example/exact1/exact1/core/Acquisition -/
def k3 : Class := { plain "com/example/exact1/exact1/core/Acquisition" (some 0) with
  accessFlags := 49
  interfaces := #[]
  cf := some (fileOf pool3 10 #[] #[{ accessFlags := 2, nameIndex := 7, descriptorIndex := 27, attributes := #[] }, { accessFlags := 9, nameIndex := 13, descriptorIndex := 37, attributes := #[] }, { accessFlags := 1, nameIndex := 40, descriptorIndex := 41, attributes := #[] }, { accessFlags := 1, nameIndex := 42, descriptorIndex := 41, attributes := #[] }, { accessFlags := 1, nameIndex := 20, descriptorIndex := 44, attributes := #[] }, { accessFlags := 1, nameIndex := 24, descriptorIndex := 44, attributes := #[] }] 49 4 #[] #[{ accessFlags := 25, nameIndex := 30, descriptorIndex := 21, attributes := #[] }, { accessFlags := 25, nameIndex := 34, descriptorIndex := 21, attributes := #[] }, { accessFlags := 18, nameIndex := 13, descriptorIndex := 14, attributes := #[] }, { accessFlags := 18, nameIndex := 17, descriptorIndex := 14, attributes := #[] }, { accessFlags := 18, nameIndex := 20, descriptorIndex := 21, attributes := #[] }, { accessFlags := 18, nameIndex := 24, descriptorIndex := 21, attributes := #[] }])
  fields := #[{ name := "NO_EXPIRY", type := .long, accessFlags := 25, slot := 0, constantValue := 0 }, { name := "NO_TOKEN", type := .long, accessFlags := 25, slot := 1, constantValue := 0 }, { name := "granted", type := .boolean, accessFlags := 18, slot := 0, constantValue := 0 }, { name := "reentry", type := .boolean, accessFlags := 18, slot := 1, constantValue := 0 }, { name := "token", type := .long, accessFlags := 18, slot := 2, constantValue := 0 }, { name := "expiresInMillis", type := .long, accessFlags := 18, slot := 3, constantValue := 0 }]
  methods := #[k3m0, k3m1, k3m2, k3m3, k3m4, k3m5]
  instanceTypes := #[.boolean, .boolean, .long, .long]
  staticTypes := #[.long, .long]
  resolved := Array.replicate 47 none
  statics := none }

def pool4 : Array CpInfo := pool [(1, u "java/lang/Cloneable"), (0, .class_ 1), (0, u "java/lang/Object"), (0, .class_ 3)] 3

/-- java/lang/Cloneable -/
def k4 : Class := { plain "java/lang/Cloneable" (some 0) with
  accessFlags := 1537
  interfaces := #[]
  cf := some (fileOf pool4 2 #[] #[] 1537 4 #[] #[])
  fields := #[]
  methods := #[]
  instanceTypes := #[]
  staticTypes := #[]
  resolved := Array.replicate 8 none
  statics := none }

def pool5 : Array CpInfo := pool [(1, u "java/io/Serializable"), (0, .class_ 1), (0, u "java/lang/Object"), (0, .class_ 3)] 3

/-- java/io/Serializable -/
def k5 : Class := { plain "java/io/Serializable" (some 0) with
  accessFlags := 1537
  interfaces := #[]
  cf := some (fileOf pool5 2 #[] #[] 1537 4 #[] #[])
  fields := #[]
  methods := #[]
  instanceTypes := #[]
  staticTypes := #[]
  resolved := Array.replicate 8 none
  statics := none }

/-- the primitive byte -/
def k6 : Class := { plain "byte" none with kind := .primitive 'B', accessFlags := 0x411 }
/-- [B -/
def k7 : Class := { plain "[B" (some 0) with kind := .array 6 .byte, interfaces := #[4, 5], accessFlags := 1041 }

/-- the primitive int -/
def k8 : Class := { plain "int" none with kind := .primitive 'I', accessFlags := 0x411 }
/-- [I -/
def k9 : Class := { plain "[I" (some 0) with kind := .array 8 .int, interfaces := #[4, 5], accessFlags := 1041 }

def heap : Heap := #[]
def classes : Array Class := #[k0, k1, k2, k3, k4, k5, k6, k7, k8, k9]
def interned : List (Array UInt16 × Addr) := []
def slotsUsed : Nat := 0
def theMethod : MethodId := ⟨1, 1⟩
def args0 : Array Value := #[.long 7, .int 1]
def aboutOver (below : List Frame) : State where
  vm := { classes := classes, interned := interned.toArray }
  heap := heap
  slotsUsed := slotsUsed
  threads := #[{ frames := .invoking theMethod args0 :: below }]
def below0 : List Frame := [.native { method := ⟨0, 0⟩, args := #[] }]
def about1 : State := aboutOver below0
def p0 : Program := .bare "" "" ""
def e0 : Env := launch0.env 0 0 0
theorem w_frames : about1.frames = Frame.invoking theMethod args0 :: below0 := rfl
set_option maxRecDepth 65536 in
theorem w_args : argsFit about1.vm theMethod args0 = true := by decide +kernel
set_option maxRecDepth 65536 in
theorem w_heap : heapFits about1 = true := by decide +kernel
set_option maxRecDepth 65536 in
theorem w_runnable : about1.curStatus? = some .runnable := by decide +kernel
set_option maxRecDepth 65536 in
theorem w_alone : about1.alone = true := by decide +kernel
set_option maxRecDepth 65536 in
theorem w_named : about1.methodNamed? x = some theMethod := by decide +kernel
set_option maxRecDepth 65536 in
theorem w_hears : about1.hears theMethod below0 = true := by decide +kernel
set_option maxRecDepth 65536 in
theorem w_ripe : about1.ripe theMethod args0 below0 = true := by decide +kernel
theorem w_running : about1.status = .running := rfl
set_option maxRecDepth 65536 in
theorem w_room : about1.hasRoom e0.platform room_1 = true :=
  launch0.hasRoom_least _ room_1 (by decide +kernel) (by decide +kernel) (by decide +kernel) (by decide +kernel) (by decide +kernel) (by decide +kernel)
theorem allAtoms_all (ts : List Jvm.Cond) (a : Array Jvm.Value) (st : Jvm.State) : (allAtoms ts).before a st = ts.all (fun c => c.before a st) := by
  induction ts with
  | nil => rfl
  | cons c t ih =>
    show (Jvm.Cond.and c (allAtoms t)).before a st = _
    rw [Jvm.Cond.before_and, ih, List.all_cons]
def words1 : List Jvm.Cond := Jvm.Cond.code x code maxLocals ret :: tables_1
/-- a 'code' word, met by the world's own term for the bytes: nothing is compared byte by byte -/
theorem code_word {y : MethodName} {bytes : ByteArray} {mx : Nat} {rt : Option FieldType} {a : Array Value} {s : State} {m : MethodId} {meth : Method} {c : Code} (h1 : s.methodNamed? y = some m) (h2 : s.vm.method? m = some meth) (h3 : meth.code = some c) (h4 : c.code = bytes)
    (h5 : (c.maxLocals == mx && c.exceptionTable.isEmpty && decide (c.maxStack ≤ mostOperands) && decide (meth.sig.returnType = rt) && !meth.locks && decide (parseMethodDescriptor y.desc = some meth.sig)) = true) : (Jvm.Cond.code y bytes mx rt).before a s = true := by
  simp only [Bool.and_eq_true, beq_iff_eq, Bool.not_eq_true', decide_eq_true_eq] at h5
  obtain ⟨⟨⟨⟨⟨g1, g2⟩, g3⟩, g4⟩, g5⟩, g6⟩ := h5
  simp [Cond.before, Cond.holds, Cond.value, h1, h2, h3, h4, g1, g2, g3, g4, g5, g6]
def isCode : Jvm.Cond → Bool
  | .code _ _ _ _ => true
  | _ => false
theorem all_split {L : List Jvm.Cond} {P : Jvm.Cond → Bool} (h1 : L.all (fun c => isCode c || P c) = true) (h2 : ∀ c ∈ L.filter isCode, P c = true) : L.all P = true := by
  refine List.all_eq_true.mpr fun c hc => ?_
  have h := List.all_eq_true.mp h1 c hc
  rcases Bool.eq_false_or_eq_true (isCode c) with hi | hi
  · exact h2 c (List.mem_filter.mpr ⟨hc, hi⟩)
  · simpa [hi] using h
set_option maxRecDepth 65536 in
theorem w_c0 : (Jvm.Cond.code x code maxLocals ret).before args0 about1 = true := code_word (m := ⟨1, 1⟩) (meth := k1m1) (c := k1c1) (by decide +kernel) rfl rfl rfl (by decide +kernel)
set_option maxRecDepth 65536 in
theorem w_c1 : (Jvm.Cond.code ({ cls := "java/lang/Math", name := "max", desc := "(JJ)J" } : Jvm.MethodName) jdk_29_method_66_code (4 : Nat) (Option.some Jvm.ClassFile.FieldType.long)).before args0 about1 = true := code_word (m := ⟨2, 1⟩) (meth := k2m1) (c := k2c1) (by decide +kernel) rfl rfl rfl (by decide +kernel)
set_option maxRecDepth 65536 in
theorem w_c2 : (Jvm.Cond.code ({ cls := "com/example/exact1/exact1/core/Acquisition", name := "granted", desc := "(J)Lcom/example/exact1/exact1/core/Acquisition;" } : Jvm.MethodName) prog_8_method_2_code (2 : Nat) (Option.some (Jvm.ClassFile.FieldType.object "com/example/exact1/exact1/core/Acquisition"))).before args0 about1 = true := code_word (m := ⟨3, 1⟩) (meth := k3m1) (c := k3c1) (by decide +kernel) rfl rfl rfl (by decide +kernel)
set_option maxRecDepth 65536 in
theorem w_c3 : (Jvm.Cond.code ({ cls := "com/example/exact1/exact1/core/Acquisition", name := "<init>", desc := "(ZZJJ)V" } : Jvm.MethodName) prog_8_method_1_code (7 : Nat) (Option.none : Option Jvm.ClassFile.FieldType)).before args0 about1 = true := code_word (m := ⟨3, 0⟩) (meth := k3m0) (c := k3c0) (by decide +kernel) rfl rfl rfl (by decide +kernel)
set_option maxRecDepth 65536 in
theorem w_c4 : (Jvm.Cond.code ({ cls := "java/lang/Object", name := "<init>", desc := "()V" } : Jvm.MethodName) object_method_1_code (1 : Nat) (Option.none : Option Jvm.ClassFile.FieldType)).before args0 about1 = true := code_word (m := ⟨0, 0⟩) (meth := k0m0) (c := k0c0) (by decide +kernel) rfl rfl rfl (by decide +kernel)
set_option maxRecDepth 65536 in
theorem w_c5 : (Jvm.Cond.code ({ cls := "com/example/exact1/exact1/core/Acquisition", name := "isGranted", desc := "()Z" } : Jvm.MethodName) prog_8_method_5_code (1 : Nat) (Option.some Jvm.ClassFile.FieldType.boolean)).before args0 about1 = true := code_word (m := ⟨3, 2⟩) (meth := k3m2) (c := k3c2) (by decide +kernel) rfl rfl rfl (by decide +kernel)
set_option maxRecDepth 65536 in
theorem w_c6 : (Jvm.Cond.code ({ cls := "com/example/exact1/exact1/core/Acquisition", name := "isNewGrant", desc := "()Z" } : Jvm.MethodName) prog_8_method_6_code (1 : Nat) (Option.some Jvm.ClassFile.FieldType.boolean)).before args0 about1 = true := code_word (m := ⟨3, 3⟩) (meth := k3m3) (c := k3c3) (by decide +kernel) rfl rfl rfl (by decide +kernel)
set_option maxRecDepth 65536 in
theorem w_c7 : (Jvm.Cond.code ({ cls := "com/example/exact1/exact1/core/Acquisition", name := "token", desc := "()J" } : Jvm.MethodName) prog_8_method_7_code (1 : Nat) (Option.some Jvm.ClassFile.FieldType.long)).before args0 about1 = true := code_word (m := ⟨3, 4⟩) (meth := k3m4) (c := k3c4) (by decide +kernel) rfl rfl rfl (by decide +kernel)
set_option maxRecDepth 65536 in
theorem w_c8 : (Jvm.Cond.code ({ cls := "com/example/exact1/exact1/core/Acquisition", name := "expiresInMillis", desc := "()J" } : Jvm.MethodName) prog_8_method_8_code (1 : Nat) (Option.some Jvm.ClassFile.FieldType.long)).before args0 about1 = true := code_word (m := ⟨3, 5⟩) (meth := k3m5) (c := k3c5) (by decide +kernel) rfl rfl rfl (by decide +kernel)
def codes1 : List Jvm.Cond := [Jvm.Cond.code x code maxLocals ret, Jvm.Cond.code ({ cls := "java/lang/Math", name := "max", desc := "(JJ)J" } : Jvm.MethodName) jdk_29_method_66_code (4 : Nat) (Option.some Jvm.ClassFile.FieldType.long), Jvm.Cond.code ({ cls := "com/example/exact1/exact1/core/Acquisition", name := "granted", desc := "(J)Lcom/example/exact1/exact1/core/Acquisition;" } : Jvm.MethodName) prog_8_method_2_code (2 : Nat) (Option.some (Jvm.ClassFile.FieldType.object "com/example/exact1/exact1/core/Acquisition")), Jvm.Cond.code ({ cls := "com/example/exact1/exact1/core/Acquisition", name := "<init>", desc := "(ZZJJ)V" } : Jvm.MethodName) prog_8_method_1_code (7 : Nat) (Option.none : Option Jvm.ClassFile.FieldType), Jvm.Cond.code ({ cls := "java/lang/Object", name := "<init>", desc := "()V" } : Jvm.MethodName) object_method_1_code (1 : Nat) (Option.none : Option Jvm.ClassFile.FieldType), Jvm.Cond.code ({ cls := "com/example/exact1/exact1/core/Acquisition", name := "isGranted", desc := "()Z" } : Jvm.MethodName) prog_8_method_5_code (1 : Nat) (Option.some Jvm.ClassFile.FieldType.boolean), Jvm.Cond.code ({ cls := "com/example/exact1/exact1/core/Acquisition", name := "isNewGrant", desc := "()Z" } : Jvm.MethodName) prog_8_method_6_code (1 : Nat) (Option.some Jvm.ClassFile.FieldType.boolean), Jvm.Cond.code ({ cls := "com/example/exact1/exact1/core/Acquisition", name := "token", desc := "()J" } : Jvm.MethodName) prog_8_method_7_code (1 : Nat) (Option.some Jvm.ClassFile.FieldType.long), Jvm.Cond.code ({ cls := "com/example/exact1/exact1/core/Acquisition", name := "expiresInMillis", desc := "()J" } : Jvm.MethodName) prog_8_method_8_code (1 : Nat) (Option.some Jvm.ClassFile.FieldType.long)]
set_option maxRecDepth 65536 in
theorem codes_eq : words1.filter isCode = codes1 := rfl
theorem w_codes : ∀ c ∈ words1.filter isCode, c.before args0 about1 = true := by
  rw [codes_eq]
  intro c hc
  simp only [codes1, List.mem_cons, List.not_mem_nil, or_false] at hc
  rcases hc with rfl | rfl | rfl | rfl | rfl | rfl | rfl | rfl | rfl
  · exact w_c0
  · exact w_c1
  · exact w_c2
  · exact w_c3
  · exact w_c4
  · exact w_c5
  · exact w_c6
  · exact w_c7
  · exact w_c8
set_option maxRecDepth 65536 in
theorem w_t1 : (words1.take 24).all (fun c => isCode c || c.before args0 about1) = true := by decide +kernel
set_option maxRecDepth 65536 in
theorem w_t2 : (words1.drop 24).all (fun c => isCode c || c.before args0 about1) = true := by decide +kernel
theorem w_tables : (allAtoms (Jvm.Cond.code x code maxLocals ret :: tables_1)).before args0 about1 = true := by
  rw [allAtoms_all]
  show words1.all (fun c => c.before args0 about1) = true
  refine all_split ?_ w_codes
  rw [← List.take_append_drop 24 words1, List.all_append, w_t1, w_t2]
  rfl
set_option maxRecDepth 65536 in
theorem w_case : (Jvm.Cond.and given_1 narrow_1).before args0 about1 = true := by decide +kernel
theorem w_applies : (headSpec (Jvm.Cond.code x code maxLocals ret :: tables_1) room_1).applies x e0.platform about1 = true :=
  (Spec.applies_iff w_frames).mpr ⟨w_running, w_runnable, w_alone, w_named, w_hears, w_ripe, w_room, w_tables⟩
theorem atStart : AtStart classFile x code maxLocals ret World_1 tables_1 room_1 Calls_1 rest_1 Pre_1 launch0 p0 e0 about1 theMethod args0 below0 :=
  ⟨lists_1, trivial, launch0.admits_env _ _ _, launch0.least_env, fairChoices_fair.cas, fairChoices_fair.clock, w_frames, w_args, w_heap, w_applies, trivial, trivial, w_case⟩
end start1
theorem witness_1 : WitnessClaimed_1 := ⟨start1.p0, start1.e0, start1.about1, start1.theMethod, start1.args0, start1.below0, start1.atStart⟩
end Jvm.Pilot.@@N@@
