import JvmDerived
import JvmDerived.Pilot.@@N@@Statement
import JvmDerived.Pilot.@@N@@Code
set_option linter.unusedVariables false
set_option linter.unusedSimpArgs false
namespace Jvm.Pilot.@@N@@
open Jvm Jvm.ClassFile Sem Op Lib Jvm.Free Jvm.Stand Jvm.LawKit Jvm.RoadKit Bundle Jvm.Pilot.@@N@@.Jvm.D
/-! own kit: the rest of a walk as one predicate of the state where it stands -/
section OwnKit
variable {p : Program} {l : Launch} {e : Env} {R : Room} {s : State} {m : MethodId} {args : Array Value} {below : List Frame} {meth : Method} {c : Code} {T : State} {locs : List Loc} {cells slots : Nat}
def Wp (p : Program) (e : Env) (below : List Frame) (G : Outcome → State → Prop) (U : State) : Prop := ∃ s₂ o, Steps p.tables e below U s₂ ∧ s₂.status = .running ∧ Ended s₂ below o ∧ G o s₂
theorem Wp.via {G : Outcome → State → Prop} {A B : State} (k : ∀ t, Steps p.tables e below A t → Steps p.tables e below B t) (h : Wp p e below G A) : Wp p e below G B := by
  obtain ⟨s₂, o, h1, h2⟩ := h; exact ⟨s₂, o, k _ h1, h2⟩
theorem Wp.step {G : Outcome → State → Prop} {A B : State} (k : Steps p.tables e below B A) (h : Wp p e below G A) : Wp p e below G B := by
  obtain ⟨s₂, o, h1, h2⟩ := h; exact ⟨s₂, o, k.trans h1, h2⟩
def Gd (s : State) (Q : Option Value → Heap → List Loc → Prop) (C S : Nat) (o : Outcome) (t : State) : Prop := ∃ v L, o = .returned v ∧ Q v t.heap L ∧ FrameEnd s o t L C S
theorem Wp.ret (X : Stand p l e R s m args below meth c T locs cells slots) (hlk : meth.locks = false) (hx : p.tables.exec = Jvm.exec) {pc : Nat} {Ls : Array Slot} {w : Value} {t : FieldType} {i : Instr} {rest : List Value} {Q : Option Value → Heap → List Loc → Prop} {C S : Nat} (hret : meth.sig.returnType = some t) (hn : narrow t w = w)
    (hi : (i = .ireturn ∧ (t = .int ∨ t = .boolean ∨ t = .byte ∨ t = .char ∨ t = .short) ∧ ∃ z, w = .int z) ∨ (i = .lreturn ∧ t = .long ∧ ∃ z, w = .long z) ∨ (i = .dreturn ∧ t = .double ∧ ∃ z, w = .double z) ∨ (i = .freturn ∧ t = .float ∧ ∃ z, w = .float z) ∨ (i = .areturn ∧ t.isReference = true ∧ w.isRef = true))
    (hd : decode c.code pc = .ok (i, 1)) (hq : Q (some w) T.heap locs) (hC : cells ≤ C) (hS : slots ≤ S) : Wp p e below (Gd s Q C S) (T.setTop (mkF m pc Ls (w :: rest))) := by
  obtain ⟨fs, hr, hrun, hended, hW, hsame⟩ := X.leave (v := some w) (fun h => by rw [hret] at h; cases h) hlk
  exact ⟨_, _, retOut X hx hret hn hi hd hr, hrun, hended, _, _, rfl, hq, ⟨_, rfl⟩, hW, hsame.mono hC hS⟩
theorem Wp.retI (X : Stand p l e R s m args below meth c T locs cells slots) (hlk : meth.locks = false) (hx : p.tables.exec = Jvm.exec) {pc : Nat} {Ls : Array Slot} {z : Int32} {t : FieldType} {rest : List Value} {Q : Option Value → Heap → List Loc → Prop} {C S : Nat} (hret : meth.sig.returnType = some t) (ht : t = .int ∨ t = .boolean ∨ t = .byte ∨ t = .char ∨ t = .short) (hn : narrow t (.int z) = .int z)
    (hd : decode c.code pc = .ok (.ireturn, 1)) (hq : Q (some (.int z)) T.heap locs) (hC : cells ≤ C) (hS : slots ≤ S) : Wp p e below (Gd s Q C S) (T.setTop (mkF m pc Ls (.int z :: rest))) :=
  Wp.ret X hlk hx hret hn (Or.inl ⟨rfl, ht, z, rfl⟩) hd hq hC hS
theorem Wp.retJ (X : Stand p l e R s m args below meth c T locs cells slots) (hlk : meth.locks = false) (hx : p.tables.exec = Jvm.exec) {pc : Nat} {Ls : Array Slot} {z : Int64} {rest : List Value} {Q : Option Value → Heap → List Loc → Prop} {C S : Nat} (hret : meth.sig.returnType = some .long)
    (hd : decode c.code pc = .ok (.lreturn, 1)) (hq : Q (some (.long z)) T.heap locs) (hC : cells ≤ C) (hS : slots ≤ S) : Wp p e below (Gd s Q C S) (T.setTop (mkF m pc Ls (.long z :: rest))) :=
  Wp.ret X hlk hx hret rfl (Or.inr (Or.inl ⟨rfl, rfl, z, rfl⟩)) hd hq hC hS
theorem Wp.retA (X : Stand p l e R s m args below meth c T locs cells slots) (hlk : meth.locks = false) (hx : p.tables.exec = Jvm.exec) {pc : Nat} {Ls : Array Slot} {w : Value} {t : FieldType} {rest : List Value} {Q : Option Value → Heap → List Loc → Prop} {C S : Nat} (hret : meth.sig.returnType = some t) (ht : t.isReference = true) (hw : w.isRef = true)
    (hd : decode c.code pc = .ok (.areturn, 1)) (hq : Q (some w) T.heap locs) (hC : cells ≤ C) (hS : slots ≤ S) : Wp p e below (Gd s Q C S) (T.setTop (mkF m pc Ls (w :: rest))) :=
  Wp.ret X hlk hx hret (by cases t <;> simp [FieldType.isReference] at ht <;> cases w <;> simp [Value.isRef] at hw <;> rfl) (Or.inr (Or.inr (Or.inr (Or.inr ⟨rfl, ht, hw⟩)))) hd hq hC hS
theorem Wp.retV (X : Stand p l e R s m args below meth c T locs cells slots) (hlk : meth.locks = false) (hx : p.tables.exec = Jvm.exec) {pc : Nat} {Ls : Array Slot} {Q : Option Value → Heap → List Loc → Prop} {C S : Nat} (hret : meth.sig.returnType = none)
    (hd : decode c.code pc = .ok (.return_, 1)) (hq : Q none T.heap locs) (hC : cells ≤ C) (hS : slots ≤ S) : Wp p e below (Gd s Q C S) (T.setTop (mkF m pc Ls [])) := by
  obtain ⟨fs, hr, hrun, hended, hW, hsame⟩ := X.leave (v := none) (fun _ => rfl) hlk
  exact ⟨_, _, X.returnOut hx hret hd hr, hrun, hended, _, _, rfl, hq, ⟨_, rfl⟩, hW, hsame.mono hC hS⟩
/-- a body's contract out of its Wp at pc 0 -/
theorem ofWp {y : MethodName} {bytes : ByteArray} {maxL : Nat} {ret : Option FieldType} {ws : List Jvm.Cond} {rm : Room} {as' : Array Value} {Z : State} {h0 : Heap} {Q : Option Value → Heap → List Loc → Prop} {C S : Nat} {Ls : Array Slot} (hpl : plainFor y = true) (ef : ∀ m, entryFrame m as' maxL = mkF m 0 Ls [])
    (H : ∀ (p : Program) (e : Env) (s : State) (m : MethodId) (below : List Frame) (meth : Method) (c : Code) (T : State), p.tables.exec = Jvm.exec → c.code = bytes → c.maxLocals = maxL → s.vm.findClass y.cls = some m.cls → meth.name = y.name → meth.locks = false → meth.sig.returnType = ret → Z.Warmed39 s.vm → Stand p l e rm s m as' below meth c T [] 0 0 → T.heap = h0 → Wp p e below (Gd s Q C S) (T.setTop (mkF m 0 Ls []))) :
    MetFree l y (head1 (Jvm.Cond.code y bytes maxL ret :: ws) rm) (fun a U => a = as' ∧ Z.Warmed39 U.vm ∧ U.heap = h0) (fun _ _ _ _ _ => True) (fun _ U o U' => ∃ v L, o = .returned v ∧ Q v U'.heap L ∧ FrameEnd U o U' L C S) := by
  refine MetFree.of_bodySF hpl hisR ?_
  intro p e s m args below meth c s₁ Bd hml0 hP hK
  obtain ⟨rfl, hZ, hh⟩ := hP
  have e0 : s₁.heap = h0 := by rw [← hh, Bd.state]; rfl
  have X0 : Stand p l e rm s m args below meth c s₁ [] 0 0 := Stand.of_body Bd
  have W := H p e s m below meth c s₁ Bd.exec Bd.bytes hml0 (findClass_of_methodNamed Bd.named) (name_of_methodNamed Bd.named Bd.method).1 Bd.notSynchronized Bd.returns hZ X0 e0
  rw [← ef m] at W
  obtain ⟨s₂, o, g1, g2, g3, g4⟩ := W
  exact ⟨s₂, o, g1, g2, g3, g4⟩
end OwnKit
def own_l (l r c : Int32) : Int32 := if c = 10 then (if r = 0 then l + 1 else l) else if c = 13 then l + 1 else l
def own_k (k c : Int32) : Int32 := if c = 10 then 1 else if c = 13 then 1 else k + 1
def own_r (c : Int32) : Int32 := if c = 13 then 1 else 0
def f1_0 (p0 : Int32) (p1 : Int32) : Int32 := (if (p0 &&& (3 : Int32)) = (0 : Int32) then (10 : Int32) else (if (p0 &&& (3 : Int32)) = (1 : Int32) then (13 : Int32) else p1))
theorem own_d1_0 : decode method_2_code 0 = .ok (.iload_n 0, 1) := by decide +kernel
theorem own_d1_1 : decode method_2_code 1 = .ok (.iconst 3, 1) := by decide +kernel
theorem own_d1_2 : decode method_2_code 2 = .ok (.iand, 1) := by decide +kernel
theorem own_d1_3 : decode method_2_code 3 = .ok (.istore_n 2, 1) := by decide +kernel
theorem own_d1_4 : decode method_2_code 4 = .ok (.iload_n 2, 1) := by decide +kernel
theorem own_d1_5 : decode method_2_code 5 = .ok (.ifCond .ne 6, 3) := by decide +kernel
theorem own_d1_8 : decode method_2_code 8 = .ok (.bipush 10, 2) := by decide +kernel
theorem own_d1_10 : decode method_2_code 10 = .ok (.ireturn, 1) := by decide +kernel
theorem own_d1_11 : decode method_2_code 11 = .ok (.iload_n 2, 1) := by decide +kernel
theorem own_d1_12 : decode method_2_code 12 = .ok (.iconst 1, 1) := by decide +kernel
theorem own_d1_13 : decode method_2_code 13 = .ok (.if_icmp .ne 6, 3) := by decide +kernel
theorem own_d1_16 : decode method_2_code 16 = .ok (.bipush 13, 2) := by decide +kernel
theorem own_d1_18 : decode method_2_code 18 = .ok (.ireturn, 1) := by decide +kernel
theorem own_d1_19 : decode method_2_code 19 = .ok (.iload_n 1, 1) := by decide +kernel
theorem own_d1_20 : decode method_2_code 20 = .ok (.ireturn, 1) := by decide +kernel
theorem own_pl1 : plainFor (⟨"com/example/chyld/chyld/LineColumnCharacterPinLaw", "pick", "(II)I"⟩ : MethodName) = true := plainFor_of_name (by first | (simp [plainName, overriddenIn]; done) | decide +kernel)
theorem own_ef1 (m : MethodId) (p0 : Int32) (p1 : Int32) : entryFrame m #[(.int p0), (.int p1)] 3 = mkF m 0 #[.val (.int p0), .val (.int p1), .unset] [] := by first | (simp [entryFrame, mkF, argsToLocals, Value.category]; done) | rfl
def Qo1 (Z : State) (p0 : Int32) (p1 : Int32)  (h0 : Heap) (n0 : Nat) (v : Option Value) (h : Heap) (L : List Loc) : Prop := v = some (.int (f1_0 p0 p1)) ∧ Fr n0 L ∧ h = h0
set_option maxRecDepth 65536 in
set_option maxHeartbeats 40000000 in
theorem rm1 (l : Launch) (Z : State) (aw : Array Value) (hw : ∀ d ∈ tables_1, d.before aw Z = true) (ws : List Jvm.Cond) (p0 : Int32) (p1 : Int32)  (h0 : Heap) (n0 : Nat) (Z0 : n0 ≤ h0.size)  :
    MetFree l (⟨"com/example/chyld/chyld/LineColumnCharacterPinLaw", "pick", "(II)I"⟩ : MethodName) (head1 (Jvm.Cond.code (⟨"com/example/chyld/chyld/LineColumnCharacterPinLaw", "pick", "(II)I"⟩ : MethodName) method_2_code 3 (some .int) :: ws) ({ frames := 0, cells := 0, slots := 0, locals := 0 } : Room)) (fun a U => a = #[(.int p0), (.int p1)] ∧ Z.Warmed39 U.vm ∧ U.heap = h0) (fun _ _ _ _ _ => True) (fun _ U o U' => ∃ v L, o = .returned v ∧ (Qo1 Z p0 p1 h0 n0) v U'.heap L ∧ FrameEnd U o U' L ({ frames := 0, cells := 0, slots := 0, locals := 0 } : Room).cells ({ frames := 0, cells := 0, slots := 0, locals := 0 } : Room).slots) := by
  refine ofWp (Q := Qo1 Z p0 p1 h0 n0) own_pl1 (fun m => own_ef1 m p0 p1) ?_
  intro p e s m below meth c T0 hx hby hml hown hnm hlk hret hZ X0 e0
  change s.vm.findClass "com/example/chyld/chyld/LineColumnCharacterPinLaw" = some m.cls at hown
  have NF0 := Fr.nil n0
  have hv : (f1_0 p0 p1) = (if (p0 &&& (3 : Int32)) = (0 : Int32) then (10 : Int32) else (if (p0 &&& (3 : Int32)) = (1 : Int32) then (13 : Int32) else p1)) := rfl
  refine Wp.via (fun _ k => XS.iloadN X0.here hx rfl (hb hby own_d1_0) rfl k) ?_
  show Wp p e below _ (T0.setTop (mkF m 1 #[.val (.int p0), .val (.int p1), .unset] [(.int p0)]))
  refine Wp.via (fun _ k => XS.iconst X0.here hx rfl (hb hby own_d1_1) k) ?_
  show Wp p e below _ (T0.setTop (mkF m 2 #[.val (.int p0), .val (.int p1), .unset] [(.int (3 : Int32)), (.int p0)]))
  refine Wp.via (fun _ k => XS.iand X0.here hx rfl (hb hby own_d1_2) rfl k) ?_
  show Wp p e below _ (T0.setTop (mkF m 3 #[.val (.int p0), .val (.int p1), .unset] [(.int (p0 &&& (3 : Int32)))]))
  refine Wp.via (fun _ k => XS.istoreN X0.here hx rfl (hb hby own_d1_3) rfl (l' := #[.val (.int p0), .val (.int p1), .val (.int (p0 &&& (3 : Int32)))]) rfl k) ?_
  show Wp p e below _ (T0.setTop (mkF m 4 #[.val (.int p0), .val (.int p1), .val (.int (p0 &&& (3 : Int32)))] []))
  refine Wp.via (fun _ k => XS.iloadN X0.here hx rfl (hb hby own_d1_4) rfl k) ?_
  show Wp p e below _ (T0.setTop (mkF m 5 #[.val (.int p0), .val (.int p1), .val (.int (p0 &&& (3 : Int32)))] [(.int (p0 &&& (3 : Int32)))]))
  by_cases hc1 : (p0 &&& (3 : Int32)) = (0 : Int32)
  ·
    have hv1_ := hv.trans (if_pos hc1)
    refine Wp.via (fun _ k => XS.ifNo X0.here hx rfl (hb hby own_d1_5) rfl ((if0 _ _).trans (teq hc1).2) k) ?_
    show Wp p e below _ (T0.setTop (mkF m 8 #[.val (.int p0), .val (.int p1), .val (.int (p0 &&& (3 : Int32)))] []))
    refine Wp.via (fun _ k => XS.bipush X0.here hx rfl (hb hby own_d1_8) k) ?_
    show Wp p e below _ (T0.setTop (mkF m 10 #[.val (.int p0), .val (.int p1), .val (.int (p0 &&& (3 : Int32)))] [(.int (10 : Int32))]))
    exact Wp.retI X0 hlk hx hret (by simp) rfl (hb hby own_d1_10) ⟨by rw [hv1_], NF0, e0⟩ (by decide) (by decide)
  ·
    have hv1_ := hv.trans (if_neg hc1)
    refine Wp.via (fun _ k => XS.ifYes X0.here hx rfl (pc0 := 5) (pc' := 11) rfl (hb hby own_d1_5) rfl ((if0 _ _).trans (feq hc1).2) (by decide) (by decide) k) ?_
    show Wp p e below _ (T0.setTop (mkF m 11 #[.val (.int p0), .val (.int p1), .val (.int (p0 &&& (3 : Int32)))] []))
    refine Wp.via (fun _ k => XS.iloadN X0.here hx rfl (hb hby own_d1_11) rfl k) ?_
    show Wp p e below _ (T0.setTop (mkF m 12 #[.val (.int p0), .val (.int p1), .val (.int (p0 &&& (3 : Int32)))] [(.int (p0 &&& (3 : Int32)))]))
    refine Wp.via (fun _ k => XS.iconst X0.here hx rfl (hb hby own_d1_12) k) ?_
    show Wp p e below _ (T0.setTop (mkF m 13 #[.val (.int p0), .val (.int p1), .val (.int (p0 &&& (3 : Int32)))] [(.int (1 : Int32)), (.int (p0 &&& (3 : Int32)))]))
    by_cases hc2 : (p0 &&& (3 : Int32)) = (1 : Int32)
    ·
      have hv2_ := hv1_.trans (if_pos hc2)
      refine Wp.via (fun _ k => XS.icmpNo X0.here hx rfl (hb hby own_d1_13) rfl (teq hc2).2 k) ?_
      show Wp p e below _ (T0.setTop (mkF m 16 #[.val (.int p0), .val (.int p1), .val (.int (p0 &&& (3 : Int32)))] []))
      refine Wp.via (fun _ k => XS.bipush X0.here hx rfl (hb hby own_d1_16) k) ?_
      show Wp p e below _ (T0.setTop (mkF m 18 #[.val (.int p0), .val (.int p1), .val (.int (p0 &&& (3 : Int32)))] [(.int (13 : Int32))]))
      exact Wp.retI X0 hlk hx hret (by simp) rfl (hb hby own_d1_18) ⟨by rw [hv2_], NF0, e0⟩ (by decide) (by decide)
    ·
      have hv2_ := hv1_.trans (if_neg hc2)
      refine Wp.via (fun _ k => XS.icmpYes X0.here hx rfl (pc0 := 13) (pc' := 19) rfl (hb hby own_d1_13) rfl (feq hc2).2 (by decide) (by decide) k) ?_
      show Wp p e below _ (T0.setTop (mkF m 19 #[.val (.int p0), .val (.int p1), .val (.int (p0 &&& (3 : Int32)))] []))
      refine Wp.via (fun _ k => XS.iloadN X0.here hx rfl (hb hby own_d1_19) rfl k) ?_
      show Wp p e below _ (T0.setTop (mkF m 20 #[.val (.int p0), .val (.int p1), .val (.int (p0 &&& (3 : Int32)))] [(.int p1)]))
      exact Wp.retI X0 hlk hx hret (by simp) rfl (hb hby own_d1_20) ⟨by rw [hv2_], NF0, e0⟩ (by decide) (by decide)
theorem own_pd0 : parseMethodDescriptor "()V" = some ⟨[], none⟩ := by decide +kernel
theorem own_d2_0 : decode prog_27_method_1_code 0 = .ok (.aload_n 0, 1) := by decide +kernel
theorem own_d2_1 : decode prog_27_method_1_code 1 = .ok (.invokespecial 1, 3) := by decide +kernel
theorem own_d2_4 : decode prog_27_method_1_code 4 = .ok (.aload_n 0, 1) := by decide +kernel
theorem own_d2_5 : decode prog_27_method_1_code 5 = .ok (.iconst 1, 1) := by decide +kernel
theorem own_d2_6 : decode prog_27_method_1_code 6 = .ok (.putfield 7, 3) := by decide +kernel
theorem own_d2_9 : decode prog_27_method_1_code 9 = .ok (.aload_n 0, 1) := by decide +kernel
theorem own_d2_10 : decode prog_27_method_1_code 10 = .ok (.iconst 1, 1) := by decide +kernel
theorem own_d2_11 : decode prog_27_method_1_code 11 = .ok (.putfield 13, 3) := by decide +kernel
theorem own_d2_14 : decode prog_27_method_1_code 14 = .ok (.return_, 1) := by decide +kernel
theorem own_pl2 : plainFor (⟨"com/example/chyld/chyld/LineColumn", "<init>", "()V"⟩ : MethodName) = true := plainFor_of_name (by first | (simp [plainName, overriddenIn]; done) | decide +kernel)
theorem own_ef2 (m : MethodId) (a0 : Addr) : entryFrame m #[(.ref a0)] 1 = mkF m 0 #[.val (.ref a0)] [] := by first | (simp [entryFrame, mkF, argsToLocals, Value.category]; done) | rfl
def Qo2 (Z : State) (a0 : Addr)  (h0 : Heap) (n0 : Nat) (v : Option Value) (h : Heap) (L : List Loc) : Prop := v = none ∧ Fr n0 L ∧ Keep h0 h [a0] ∧ Exa Z h a0 "com/example/chyld/chyld/LineColumn" ∧ Fld Z h a0 "com/example/chyld/chyld/LineColumn" "line" "I" (.int (1 : Int32)) ∧ Fld Z h a0 "com/example/chyld/chyld/LineColumn" "column" "I" (.int (1 : Int32)) ∧ Fld Z h a0 "com/example/chyld/chyld/LineColumn" "afterCarriageReturn" "Z" (.int (0 : Int32))
set_option maxRecDepth 65536 in
set_option maxHeartbeats 40000000 in
theorem rm2 (l : Launch) (Z : State) (aw : Array Value) (hw : ∀ d ∈ tables_1, d.before aw Z = true) (ws : List Jvm.Cond) (a0 : Addr)  (h0 : Heap) (n0 : Nat) (Z0 : n0 ≤ h0.size) (E0 : Exa Z h0 a0 "com/example/chyld/chyld/LineColumn") (gn : n0 ≤ a0) (F_line : Fld Z h0 a0 "com/example/chyld/chyld/LineColumn" "line" "I" (.int (0 : Int32))) (F_column : Fld Z h0 a0 "com/example/chyld/chyld/LineColumn" "column" "I" (.int (0 : Int32))) (F_afterCarriageReturn : Fld Z h0 a0 "com/example/chyld/chyld/LineColumn" "afterCarriageReturn" "Z" (.int (0 : Int32))) :
    MetFree l (⟨"com/example/chyld/chyld/LineColumn", "<init>", "()V"⟩ : MethodName) (head1 (Jvm.Cond.code (⟨"com/example/chyld/chyld/LineColumn", "<init>", "()V"⟩ : MethodName) prog_27_method_1_code 1 none :: ws) ({ frames := 1, cells := 0, slots := 0, locals := 12 } : Room)) (fun a U => a = #[(.ref a0)] ∧ Z.Warmed39 U.vm ∧ U.heap = h0) (fun _ _ _ _ _ => True) (fun _ U o U' => ∃ v L, o = .returned v ∧ (Qo2 Z a0 h0 n0) v U'.heap L ∧ FrameEnd U o U' L ({ frames := 1, cells := 0, slots := 0, locals := 12 } : Room).cells ({ frames := 1, cells := 0, slots := 0, locals := 12 } : Room).slots) := by
  refine ofWp (Q := Qo2 Z a0 h0 n0) own_pl2 (fun m => own_ef2 m a0) ?_
  intro p e s m below meth c T0 hx hby hml hown hnm hlk hret hZ X0 e0
  change s.vm.findClass "com/example/chyld/chyld/LineColumn" = some m.cls at hown
  have NF0 := Fr.nil n0
  refine Wp.via (fun _ k => XS.aloadN X0.here hx rfl (hb hby own_d2_0) rfl rfl k) ?_
  show Wp p e below _ (T0.setTop (mkF m 1 #[.val (.ref a0)] [(.ref a0)]))
  obtain ⟨T1, X1, e1, st1⟩ := initO X0 hx hZ hown (hw _ (List.mem_of_getElem? (i := 10) rfl)) (hw _ (List.mem_of_getElem? (i := 11) rfl)) (hw _ (List.mem_of_getElem? (i := 12) rfl)) e0 (g := (mkF m 1 #[.val (.ref a0)] [(.ref a0)])) rfl (by rw [hml]; rfl) rfl (hb hby own_d2_1) (by decide) (W := 0) (by show 2 * 0 + _ ≤ _; exact Nat.le_of_eq rfl) (by decide)
  refine Wp.via st1 ?_
  show Wp p e below _ (T1.setTop (mkF m 4 #[.val (.ref a0)] []))
  refine Wp.via (fun _ k => XS.aloadN X1.here hx rfl (hb hby own_d2_4) rfl rfl k) ?_
  show Wp p e below _ (T1.setTop (mkF m 5 #[.val (.ref a0)] [(.ref a0)]))
  refine Wp.via (fun _ k => XS.iconst X1.here hx rfl (hb hby own_d2_5) k) ?_
  show Wp p e below _ (T1.setTop (mkF m 6 #[.val (.ref a0)] [(.int (1 : Int32)), (.ref a0)]))
  obtain ⟨T2, h2, X2, e2, W2, st2⟩ := putF X1 hx hZ hown (host := "") (Or.inl (hw _ (List.mem_of_getElem? (i := 13) rfl))) Via.refl e1 F_line E0 (Or.inl (hw _ (List.mem_of_getElem? (i := 14) rfl))) (hw _ (List.mem_of_getElem? (i := 5) rfl)) (ty := .int) (by decide) rfl rfl (g := (mkF m 6 #[.val (.ref a0)] [(.int (1 : Int32)), (.ref a0)])) rfl rfl (hb hby own_d2_6)
  have NF2 := Fr.snoc X2 NF0 gn
  refine Wp.via st2 ?_
  have K2 := (Keep.refl h0 [a0]).wr W2 (Or.inl (by simp))
  have zz3 : n0 ≤ h2.size := by rw [W2.size]; exact Z0
  have c4 := E0.wr W2
  have c5 := F_line.same W2
  have c6 := F_column.other W2 (Or.inr (slot_ne (Or.inl (hw _ (List.mem_of_getElem? (i := 16) rfl))) (Or.inl (hw _ (List.mem_of_getElem? (i := 14) rfl))) (by decide) (t := .int) (t' := .int) (by decide) (by decide)))
  have c7 := F_afterCarriageReturn.other W2 (Or.inr (slot_ne (Or.inl (hw _ (List.mem_of_getElem? (i := 23) rfl))) (Or.inl (hw _ (List.mem_of_getElem? (i := 14) rfl))) (by decide) (t := .boolean) (t' := .int) (by decide) (by decide)))
  show Wp p e below _ (T2.setTop (mkF m 9 #[.val (.ref a0)] []))
  refine Wp.via (fun _ k => XS.aloadN X2.here hx rfl (hb hby own_d2_9) rfl rfl k) ?_
  show Wp p e below _ (T2.setTop (mkF m 10 #[.val (.ref a0)] [(.ref a0)]))
  refine Wp.via (fun _ k => XS.iconst X2.here hx rfl (hb hby own_d2_10) k) ?_
  show Wp p e below _ (T2.setTop (mkF m 11 #[.val (.ref a0)] [(.int (1 : Int32)), (.ref a0)]))
  obtain ⟨T8, h8, X8, e8, W8, st8⟩ := putF X2 hx hZ hown (host := "") (Or.inl (hw _ (List.mem_of_getElem? (i := 15) rfl))) Via.refl e2 c6 c4 (Or.inl (hw _ (List.mem_of_getElem? (i := 16) rfl))) (hw _ (List.mem_of_getElem? (i := 5) rfl)) (ty := .int) (by decide) rfl rfl (g := (mkF m 11 #[.val (.ref a0)] [(.int (1 : Int32)), (.ref a0)])) rfl rfl (hb hby own_d2_11)
  have NF8 := Fr.snoc X8 NF2 gn
  refine Wp.via st8 ?_
  have K8 := K2.wr W8 (Or.inl (by simp))
  have zz9 : n0 ≤ h8.size := by rw [W8.size]; exact zz3
  have c10 := c4.wr W8
  have c11 := c5.other W8 (Or.inr (slot_ne (Or.inl (hw _ (List.mem_of_getElem? (i := 14) rfl))) (Or.inl (hw _ (List.mem_of_getElem? (i := 16) rfl))) (by decide) (t := .int) (t' := .int) (by decide) (by decide)))
  have c12 := c6.same W8
  have c13 := c7.other W8 (Or.inr (slot_ne (Or.inl (hw _ (List.mem_of_getElem? (i := 23) rfl))) (Or.inl (hw _ (List.mem_of_getElem? (i := 16) rfl))) (by decide) (t := .boolean) (t' := .int) (by decide) (by decide)))
  show Wp p e below _ (T8.setTop (mkF m 14 #[.val (.ref a0)] []))
  exact Wp.retV X8 hlk hx hret (hb hby own_d2_14) (by rw [e8]; exact ⟨rfl, NF8, K8, c10, c11, c12, c13⟩) (by decide) (by decide)
theorem own_d4_0 : decode prog_27_method_3_code 0 = .ok (.aload_n 0, 1) := by decide +kernel
theorem own_d4_1 : decode prog_27_method_3_code 1 = .ok (.dup, 1) := by decide +kernel
theorem own_d4_2 : decode prog_27_method_3_code 2 = .ok (.getfield 13, 3) := by decide +kernel
theorem own_d4_5 : decode prog_27_method_3_code 5 = .ok (.iload_n 1, 1) := by decide +kernel
theorem own_d4_6 : decode prog_27_method_3_code 6 = .ok (.iadd, 1) := by decide +kernel
theorem own_d4_7 : decode prog_27_method_3_code 7 = .ok (.putfield 13, 3) := by decide +kernel
theorem own_d4_10 : decode prog_27_method_3_code 10 = .ok (.aload_n 0, 1) := by decide +kernel
theorem own_d4_11 : decode prog_27_method_3_code 11 = .ok (.iconst 0, 1) := by decide +kernel
theorem own_d4_12 : decode prog_27_method_3_code 12 = .ok (.putfield 16, 3) := by decide +kernel
theorem own_d4_15 : decode prog_27_method_3_code 15 = .ok (.return_, 1) := by decide +kernel
theorem own_pl4 : plainFor (⟨"com/example/chyld/chyld/LineColumn", "columns", "(I)V"⟩ : MethodName) = true := plainFor_of_name (by first | (simp [plainName, overriddenIn]; done) | decide +kernel)
theorem own_ef4 (m : MethodId) (a0 : Addr) (p1 : Int32) : entryFrame m #[(.ref a0), (.int p1)] 2 = mkF m 0 #[.val (.ref a0), .val (.int p1)] [] := by first | (simp [entryFrame, mkF, argsToLocals, Value.category]; done) | rfl
def Qo4 (Z : State) (a0 : Addr) (p1 : Int32) (lv kv rv : Int32) (h0 : Heap) (n0 : Nat) (v : Option Value) (h : Heap) (L : List Loc) : Prop := v = none ∧ Fr n0 L ∧ Keep h0 h [a0] ∧ Exa Z h a0 "com/example/chyld/chyld/LineColumn" ∧ Fld Z h a0 "com/example/chyld/chyld/LineColumn" "line" "I" (.int lv) ∧ Fld Z h a0 "com/example/chyld/chyld/LineColumn" "column" "I" (.int (kv + p1)) ∧ Fld Z h a0 "com/example/chyld/chyld/LineColumn" "afterCarriageReturn" "Z" (.int (0 : Int32))
set_option maxRecDepth 65536 in
set_option maxHeartbeats 40000000 in
theorem rm4 (l : Launch) (Z : State) (aw : Array Value) (hw : ∀ d ∈ tables_1, d.before aw Z = true) (ws : List Jvm.Cond) (a0 : Addr) (p1 : Int32) (lv kv rv : Int32) (h0 : Heap) (n0 : Nat) (Z0 : n0 ≤ h0.size) (E0 : Exa Z h0 a0 "com/example/chyld/chyld/LineColumn") (gn : n0 ≤ a0) (F_line : Fld Z h0 a0 "com/example/chyld/chyld/LineColumn" "line" "I" (.int lv)) (F_column : Fld Z h0 a0 "com/example/chyld/chyld/LineColumn" "column" "I" (.int kv)) (F_afterCarriageReturn : Fld Z h0 a0 "com/example/chyld/chyld/LineColumn" "afterCarriageReturn" "Z" (.int rv)) :
    MetFree l (⟨"com/example/chyld/chyld/LineColumn", "columns", "(I)V"⟩ : MethodName) (head1 (Jvm.Cond.code (⟨"com/example/chyld/chyld/LineColumn", "columns", "(I)V"⟩ : MethodName) prog_27_method_3_code 2 none :: ws) ({ frames := 0, cells := 0, slots := 0, locals := 0 } : Room)) (fun a U => a = #[(.ref a0), (.int p1)] ∧ Z.Warmed39 U.vm ∧ U.heap = h0) (fun _ _ _ _ _ => True) (fun _ U o U' => ∃ v L, o = .returned v ∧ (Qo4 Z a0 p1 lv kv rv h0 n0) v U'.heap L ∧ FrameEnd U o U' L ({ frames := 0, cells := 0, slots := 0, locals := 0 } : Room).cells ({ frames := 0, cells := 0, slots := 0, locals := 0 } : Room).slots) := by
  refine ofWp (Q := Qo4 Z a0 p1 lv kv rv h0 n0) own_pl4 (fun m => own_ef4 m a0 p1) ?_
  intro p e s m below meth c T0 hx hby hml hown hnm hlk hret hZ X0 e0
  change s.vm.findClass "com/example/chyld/chyld/LineColumn" = some m.cls at hown
  have NF0 := Fr.nil n0
  refine Wp.via (fun _ k => XS.aloadN X0.here hx rfl (hb hby own_d4_0) rfl rfl k) ?_
  show Wp p e below _ (T0.setTop (mkF m 1 #[.val (.ref a0), .val (.int p1)] [(.ref a0)]))
  refine Wp.via (fun _ k => XS.dup X0.here hx rfl (hb hby own_d4_1) rfl rfl k) ?_
  show Wp p e below _ (T0.setTop (mkF m 2 #[.val (.ref a0), .val (.int p1)] [(.ref a0), (.ref a0)]))
  obtain ⟨T1, X1, e1, st1⟩ := getF X0 hx hZ hown (host := "") (Or.inl (hw _ (List.mem_of_getElem? (i := 15) rfl))) Via.refl e0 F_column (g := (mkF m 2 #[.val (.ref a0), .val (.int p1)] [(.ref a0), (.ref a0)])) rfl rfl (hb hby own_d4_2)
  refine Wp.via st1 ?_
  show Wp p e below _ (T1.setTop (mkF m 5 #[.val (.ref a0), .val (.int p1)] [(.int kv), (.ref a0)]))
  refine Wp.via (fun _ k => XS.iloadN X1.here hx rfl (hb hby own_d4_5) rfl k) ?_
  show Wp p e below _ (T1.setTop (mkF m 6 #[.val (.ref a0), .val (.int p1)] [(.int p1), (.int kv), (.ref a0)]))
  refine Wp.via (fun _ k => XS.iadd X1.here hx rfl (hb hby own_d4_6) rfl k) ?_
  show Wp p e below _ (T1.setTop (mkF m 7 #[.val (.ref a0), .val (.int p1)] [(.int (kv + p1)), (.ref a0)]))
  obtain ⟨T2, h2, X2, e2, W2, st2⟩ := putF X1 hx hZ hown (host := "") (Or.inl (hw _ (List.mem_of_getElem? (i := 15) rfl))) Via.refl e1 F_column E0 (Or.inl (hw _ (List.mem_of_getElem? (i := 16) rfl))) (hw _ (List.mem_of_getElem? (i := 5) rfl)) (ty := .int) (by decide) rfl rfl (g := (mkF m 7 #[.val (.ref a0), .val (.int p1)] [(.int (kv + p1)), (.ref a0)])) rfl rfl (hb hby own_d4_7)
  have NF2 := Fr.snoc X2 NF0 gn
  refine Wp.via st2 ?_
  have K2 := (Keep.refl h0 [a0]).wr W2 (Or.inl (by simp))
  have zz3 : n0 ≤ h2.size := by rw [W2.size]; exact Z0
  have c4 := E0.wr W2
  have c5 := F_line.other W2 (Or.inr (slot_ne (Or.inl (hw _ (List.mem_of_getElem? (i := 14) rfl))) (Or.inl (hw _ (List.mem_of_getElem? (i := 16) rfl))) (by decide) (t := .int) (t' := .int) (by decide) (by decide)))
  have c6 := F_column.same W2
  have c7 := F_afterCarriageReturn.other W2 (Or.inr (slot_ne (Or.inl (hw _ (List.mem_of_getElem? (i := 23) rfl))) (Or.inl (hw _ (List.mem_of_getElem? (i := 16) rfl))) (by decide) (t := .boolean) (t' := .int) (by decide) (by decide)))
  show Wp p e below _ (T2.setTop (mkF m 10 #[.val (.ref a0), .val (.int p1)] []))
  refine Wp.via (fun _ k => XS.aloadN X2.here hx rfl (hb hby own_d4_10) rfl rfl k) ?_
  show Wp p e below _ (T2.setTop (mkF m 11 #[.val (.ref a0), .val (.int p1)] [(.ref a0)]))
  refine Wp.via (fun _ k => XS.iconst X2.here hx rfl (hb hby own_d4_11) k) ?_
  show Wp p e below _ (T2.setTop (mkF m 12 #[.val (.ref a0), .val (.int p1)] [(.int (0 : Int32)), (.ref a0)]))
  obtain ⟨T8, h8, X8, e8, W8, st8⟩ := putF X2 hx hZ hown (host := "") (Or.inl (hw _ (List.mem_of_getElem? (i := 22) rfl))) Via.refl e2 c7 c4 (Or.inl (hw _ (List.mem_of_getElem? (i := 23) rfl))) (hw _ (List.mem_of_getElem? (i := 5) rfl)) (ty := .boolean) (by decide) rfl rfl (g := (mkF m 12 #[.val (.ref a0), .val (.int p1)] [(.int (0 : Int32)), (.ref a0)])) rfl rfl (hb hby own_d4_12)
  have NF8 := Fr.snoc X8 NF2 gn
  refine Wp.via st8 ?_
  have K8 := K2.wr W8 (Or.inl (by simp))
  have zz9 : n0 ≤ h8.size := by rw [W8.size]; exact zz3
  have c10 := c4.wr W8
  have c11 := c5.other W8 (Or.inr (slot_ne (Or.inl (hw _ (List.mem_of_getElem? (i := 14) rfl))) (Or.inl (hw _ (List.mem_of_getElem? (i := 23) rfl))) (by decide) (t := .int) (t' := .boolean) (by decide) (by decide)))
  have c12 := c6.other W8 (Or.inr (slot_ne (Or.inl (hw _ (List.mem_of_getElem? (i := 16) rfl))) (Or.inl (hw _ (List.mem_of_getElem? (i := 23) rfl))) (by decide) (t := .int) (t' := .boolean) (by decide) (by decide)))
  have c13 := c7.same W8
  show Wp p e below _ (T8.setTop (mkF m 15 #[.val (.ref a0), .val (.int p1)] []))
  exact Wp.retV X8 hlk hx hret (hb hby own_d4_15) (by rw [e8]; exact ⟨rfl, NF8, K8, c10, c11, c12, c13⟩) (by decide) (by decide)
theorem own_d5_0 : decode prog_27_method_2_code 0 = .ok (.iload_n 1, 1) := by decide +kernel
theorem own_d5_1 : decode prog_27_method_2_code 1 = .ok (.bipush 10, 2) := by decide +kernel
theorem own_d5_3 : decode prog_27_method_2_code 3 = .ok (.if_icmp .ne 33, 3) := by decide +kernel
theorem own_d5_6 : decode prog_27_method_2_code 6 = .ok (.aload_n 0, 1) := by decide +kernel
theorem own_d5_7 : decode prog_27_method_2_code 7 = .ok (.getfield 16, 3) := by decide +kernel
theorem own_d5_10 : decode prog_27_method_2_code 10 = .ok (.ifCond .ne 13, 3) := by decide +kernel
theorem own_d5_13 : decode prog_27_method_2_code 13 = .ok (.aload_n 0, 1) := by decide +kernel
theorem own_d5_14 : decode prog_27_method_2_code 14 = .ok (.dup, 1) := by decide +kernel
theorem own_d5_15 : decode prog_27_method_2_code 15 = .ok (.getfield 7, 3) := by decide +kernel
theorem own_d5_18 : decode prog_27_method_2_code 18 = .ok (.iconst 1, 1) := by decide +kernel
theorem own_d5_19 : decode prog_27_method_2_code 19 = .ok (.iadd, 1) := by decide +kernel
theorem own_d5_20 : decode prog_27_method_2_code 20 = .ok (.putfield 7, 3) := by decide +kernel
theorem own_d5_23 : decode prog_27_method_2_code 23 = .ok (.aload_n 0, 1) := by decide +kernel
theorem own_d5_24 : decode prog_27_method_2_code 24 = .ok (.iconst 1, 1) := by decide +kernel
theorem own_d5_25 : decode prog_27_method_2_code 25 = .ok (.putfield 13, 3) := by decide +kernel
theorem own_d5_28 : decode prog_27_method_2_code 28 = .ok (.aload_n 0, 1) := by decide +kernel
theorem own_d5_29 : decode prog_27_method_2_code 29 = .ok (.iconst 0, 1) := by decide +kernel
theorem own_d5_30 : decode prog_27_method_2_code 30 = .ok (.putfield 16, 3) := by decide +kernel
theorem own_d5_33 : decode prog_27_method_2_code 33 = .ok (.goto 47, 3) := by decide +kernel
theorem own_d5_36 : decode prog_27_method_2_code 36 = .ok (.iload_n 1, 1) := by decide +kernel
theorem own_d5_37 : decode prog_27_method_2_code 37 = .ok (.bipush 13, 2) := by decide +kernel
theorem own_d5_39 : decode prog_27_method_2_code 39 = .ok (.if_icmp .ne 26, 3) := by decide +kernel
theorem own_d5_42 : decode prog_27_method_2_code 42 = .ok (.aload_n 0, 1) := by decide +kernel
theorem own_d5_43 : decode prog_27_method_2_code 43 = .ok (.dup, 1) := by decide +kernel
theorem own_d5_44 : decode prog_27_method_2_code 44 = .ok (.getfield 7, 3) := by decide +kernel
theorem own_d5_47 : decode prog_27_method_2_code 47 = .ok (.iconst 1, 1) := by decide +kernel
theorem own_d5_48 : decode prog_27_method_2_code 48 = .ok (.iadd, 1) := by decide +kernel
theorem own_d5_49 : decode prog_27_method_2_code 49 = .ok (.putfield 7, 3) := by decide +kernel
theorem own_d5_52 : decode prog_27_method_2_code 52 = .ok (.aload_n 0, 1) := by decide +kernel
theorem own_d5_53 : decode prog_27_method_2_code 53 = .ok (.iconst 1, 1) := by decide +kernel
theorem own_d5_54 : decode prog_27_method_2_code 54 = .ok (.putfield 13, 3) := by decide +kernel
theorem own_d5_57 : decode prog_27_method_2_code 57 = .ok (.aload_n 0, 1) := by decide +kernel
theorem own_d5_58 : decode prog_27_method_2_code 58 = .ok (.iconst 1, 1) := by decide +kernel
theorem own_d5_59 : decode prog_27_method_2_code 59 = .ok (.putfield 16, 3) := by decide +kernel
theorem own_d5_62 : decode prog_27_method_2_code 62 = .ok (.goto 18, 3) := by decide +kernel
theorem own_d5_65 : decode prog_27_method_2_code 65 = .ok (.aload_n 0, 1) := by decide +kernel
theorem own_d5_66 : decode prog_27_method_2_code 66 = .ok (.dup, 1) := by decide +kernel
theorem own_d5_67 : decode prog_27_method_2_code 67 = .ok (.getfield 13, 3) := by decide +kernel
theorem own_d5_70 : decode prog_27_method_2_code 70 = .ok (.iconst 1, 1) := by decide +kernel
theorem own_d5_71 : decode prog_27_method_2_code 71 = .ok (.iadd, 1) := by decide +kernel
theorem own_d5_72 : decode prog_27_method_2_code 72 = .ok (.putfield 13, 3) := by decide +kernel
theorem own_d5_75 : decode prog_27_method_2_code 75 = .ok (.aload_n 0, 1) := by decide +kernel
theorem own_d5_76 : decode prog_27_method_2_code 76 = .ok (.iconst 0, 1) := by decide +kernel
theorem own_d5_77 : decode prog_27_method_2_code 77 = .ok (.putfield 16, 3) := by decide +kernel
theorem own_d5_80 : decode prog_27_method_2_code 80 = .ok (.return_, 1) := by decide +kernel
theorem own_pl5 : plainFor (⟨"com/example/chyld/chyld/LineColumn", "character", "(I)V"⟩ : MethodName) = true := plainFor_of_name (by first | (simp [plainName, overriddenIn]; done) | decide +kernel)
theorem own_ef5 (m : MethodId) (a0 : Addr) (p1 : Int32) : entryFrame m #[(.ref a0), (.int p1)] 2 = mkF m 0 #[.val (.ref a0), .val (.int p1)] [] := by first | (simp [entryFrame, mkF, argsToLocals, Value.category]; done) | rfl
def Qo5 (Z : State) (a0 : Addr) (p1 : Int32) (lv kv rv l1 k1 r1 : Int32) (h0 : Heap) (n0 : Nat) (v : Option Value) (h : Heap) (L : List Loc) : Prop := v = none ∧ Fr n0 L ∧ Keep h0 h [a0] ∧ Exa Z h a0 "com/example/chyld/chyld/LineColumn" ∧ Fld Z h a0 "com/example/chyld/chyld/LineColumn" "line" "I" (.int l1) ∧ Fld Z h a0 "com/example/chyld/chyld/LineColumn" "column" "I" (.int k1) ∧ Fld Z h a0 "com/example/chyld/chyld/LineColumn" "afterCarriageReturn" "Z" (.int r1)
set_option maxRecDepth 65536 in
set_option maxHeartbeats 40000000 in
theorem rm5 (l : Launch) (Z : State) (aw : Array Value) (hw : ∀ d ∈ tables_1, d.before aw Z = true) (ws : List Jvm.Cond) (a0 : Addr) (p1 : Int32) (lv kv rv l1 k1 r1 : Int32) (h0 : Heap) (n0 : Nat) (Z0 : n0 ≤ h0.size) (E0 : Exa Z h0 a0 "com/example/chyld/chyld/LineColumn") (gn : n0 ≤ a0) (F_line : Fld Z h0 a0 "com/example/chyld/chyld/LineColumn" "line" "I" (.int lv)) (F_column : Fld Z h0 a0 "com/example/chyld/chyld/LineColumn" "column" "I" (.int kv)) (F_afterCarriageReturn : Fld Z h0 a0 "com/example/chyld/chyld/LineColumn" "afterCarriageReturn" "Z" (.int rv)) (hl : own_l lv rv p1 = l1) (hk : own_k kv p1 = k1) (hr : own_r p1 = r1) :
    MetFree l (⟨"com/example/chyld/chyld/LineColumn", "character", "(I)V"⟩ : MethodName) (head1 (Jvm.Cond.code (⟨"com/example/chyld/chyld/LineColumn", "character", "(I)V"⟩ : MethodName) prog_27_method_2_code 2 none :: ws) ({ frames := 0, cells := 0, slots := 0, locals := 0 } : Room)) (fun a U => a = #[(.ref a0), (.int p1)] ∧ Z.Warmed39 U.vm ∧ U.heap = h0) (fun _ _ _ _ _ => True) (fun _ U o U' => ∃ v L, o = .returned v ∧ (Qo5 Z a0 p1 lv kv rv l1 k1 r1 h0 n0) v U'.heap L ∧ FrameEnd U o U' L ({ frames := 0, cells := 0, slots := 0, locals := 0 } : Room).cells ({ frames := 0, cells := 0, slots := 0, locals := 0 } : Room).slots) := by
  refine ofWp (Q := Qo5 Z a0 p1 lv kv rv l1 k1 r1 h0 n0) own_pl5 (fun m => own_ef5 m a0 p1) ?_
  intro p e s m below meth c T0 hx hby hml hown hnm hlk hret hZ X0 e0
  change s.vm.findClass "com/example/chyld/chyld/LineColumn" = some m.cls at hown
  have NF0 := Fr.nil n0
  refine Wp.via (fun _ k => XS.iloadN X0.here hx rfl (hb hby own_d5_0) rfl k) ?_
  show Wp p e below _ (T0.setTop (mkF m 1 #[.val (.ref a0), .val (.int p1)] [(.int p1)]))
  refine Wp.via (fun _ k => XS.bipush X0.here hx rfl (hb hby own_d5_1) k) ?_
  show Wp p e below _ (T0.setTop (mkF m 3 #[.val (.ref a0), .val (.int p1)] [(.int (10 : Int32)), (.int p1)]))
  by_cases c1 : p1 = (10 : Int32)
  ·
    refine Wp.via (fun _ k => XS.icmpNo X0.here hx rfl (hb hby own_d5_3) rfl (teq c1).2 k) ?_
    show Wp p e below _ (T0.setTop (mkF m 6 #[.val (.ref a0), .val (.int p1)] []))
    refine Wp.via (fun _ k => XS.aloadN X0.here hx rfl (hb hby own_d5_6) rfl rfl k) ?_
    show Wp p e below _ (T0.setTop (mkF m 7 #[.val (.ref a0), .val (.int p1)] [(.ref a0)]))
    obtain ⟨T1, X1, e1, st1⟩ := getF X0 hx hZ hown (host := "") (Or.inl (hw _ (List.mem_of_getElem? (i := 22) rfl))) Via.refl e0 F_afterCarriageReturn (g := (mkF m 7 #[.val (.ref a0), .val (.int p1)] [(.ref a0)])) rfl rfl (hb hby own_d5_7)
    refine Wp.via st1 ?_
    show Wp p e below _ (T1.setTop (mkF m 10 #[.val (.ref a0), .val (.int p1)] [(.int rv)]))
    by_cases c2 : rv = (0 : Int32)
    ·
      refine Wp.via (fun _ k => XS.ifNo X1.here hx rfl (hb hby own_d5_10) rfl ((if0 _ _).trans (teq c2).2) k) ?_
      show Wp p e below _ (T1.setTop (mkF m 13 #[.val (.ref a0), .val (.int p1)] []))
      refine Wp.via (fun _ k => XS.aloadN X1.here hx rfl (hb hby own_d5_13) rfl rfl k) ?_
      show Wp p e below _ (T1.setTop (mkF m 14 #[.val (.ref a0), .val (.int p1)] [(.ref a0)]))
      refine Wp.via (fun _ k => XS.dup X1.here hx rfl (hb hby own_d5_14) rfl rfl k) ?_
      show Wp p e below _ (T1.setTop (mkF m 15 #[.val (.ref a0), .val (.int p1)] [(.ref a0), (.ref a0)]))
      obtain ⟨T2, X2, e2, st2⟩ := getF X1 hx hZ hown (host := "") (Or.inl (hw _ (List.mem_of_getElem? (i := 13) rfl))) Via.refl e1 F_line (g := (mkF m 15 #[.val (.ref a0), .val (.int p1)] [(.ref a0), (.ref a0)])) rfl rfl (hb hby own_d5_15)
      refine Wp.via st2 ?_
      show Wp p e below _ (T2.setTop (mkF m 18 #[.val (.ref a0), .val (.int p1)] [(.int lv), (.ref a0)]))
      refine Wp.via (fun _ k => XS.iconst X2.here hx rfl (hb hby own_d5_18) k) ?_
      show Wp p e below _ (T2.setTop (mkF m 19 #[.val (.ref a0), .val (.int p1)] [(.int (1 : Int32)), (.int lv), (.ref a0)]))
      refine Wp.via (fun _ k => XS.iadd X2.here hx rfl (hb hby own_d5_19) rfl k) ?_
      show Wp p e below _ (T2.setTop (mkF m 20 #[.val (.ref a0), .val (.int p1)] [(.int (lv + (1 : Int32))), (.ref a0)]))
      obtain ⟨T3, h3, X3, e3, W3, st3⟩ := putF X2 hx hZ hown (host := "") (Or.inl (hw _ (List.mem_of_getElem? (i := 13) rfl))) Via.refl e2 F_line E0 (Or.inl (hw _ (List.mem_of_getElem? (i := 14) rfl))) (hw _ (List.mem_of_getElem? (i := 5) rfl)) (ty := .int) (by decide) rfl rfl (g := (mkF m 20 #[.val (.ref a0), .val (.int p1)] [(.int (lv + (1 : Int32))), (.ref a0)])) rfl rfl (hb hby own_d5_20)
      have NF3 := Fr.snoc X3 NF0 gn
      refine Wp.via st3 ?_
      have K3 := (Keep.refl h0 [a0]).wr W3 (Or.inl (by simp))
      have zz4 : n0 ≤ h3.size := by rw [W3.size]; exact Z0
      have c5 := E0.wr W3
      have c6 := F_line.same W3
      have c7 := F_column.other W3 (Or.inr (slot_ne (Or.inl (hw _ (List.mem_of_getElem? (i := 16) rfl))) (Or.inl (hw _ (List.mem_of_getElem? (i := 14) rfl))) (by decide) (t := .int) (t' := .int) (by decide) (by decide)))
      have c8 := F_afterCarriageReturn.other W3 (Or.inr (slot_ne (Or.inl (hw _ (List.mem_of_getElem? (i := 23) rfl))) (Or.inl (hw _ (List.mem_of_getElem? (i := 14) rfl))) (by decide) (t := .boolean) (t' := .int) (by decide) (by decide)))
      show Wp p e below _ (T3.setTop (mkF m 23 #[.val (.ref a0), .val (.int p1)] []))
      refine Wp.via (fun _ k => XS.aloadN X3.here hx rfl (hb hby own_d5_23) rfl rfl k) ?_
      show Wp p e below _ (T3.setTop (mkF m 24 #[.val (.ref a0), .val (.int p1)] [(.ref a0)]))
      refine Wp.via (fun _ k => XS.iconst X3.here hx rfl (hb hby own_d5_24) k) ?_
      show Wp p e below _ (T3.setTop (mkF m 25 #[.val (.ref a0), .val (.int p1)] [(.int (1 : Int32)), (.ref a0)]))
      obtain ⟨T9, h9, X9, e9, W9, st9⟩ := putF X3 hx hZ hown (host := "") (Or.inl (hw _ (List.mem_of_getElem? (i := 15) rfl))) Via.refl e3 c7 c5 (Or.inl (hw _ (List.mem_of_getElem? (i := 16) rfl))) (hw _ (List.mem_of_getElem? (i := 5) rfl)) (ty := .int) (by decide) rfl rfl (g := (mkF m 25 #[.val (.ref a0), .val (.int p1)] [(.int (1 : Int32)), (.ref a0)])) rfl rfl (hb hby own_d5_25)
      have NF9 := Fr.snoc X9 NF3 gn
      refine Wp.via st9 ?_
      have K9 := K3.wr W9 (Or.inl (by simp))
      have zz10 : n0 ≤ h9.size := by rw [W9.size]; exact zz4
      have c11 := c5.wr W9
      have c12 := c6.other W9 (Or.inr (slot_ne (Or.inl (hw _ (List.mem_of_getElem? (i := 14) rfl))) (Or.inl (hw _ (List.mem_of_getElem? (i := 16) rfl))) (by decide) (t := .int) (t' := .int) (by decide) (by decide)))
      have c13 := c7.same W9
      have c14 := c8.other W9 (Or.inr (slot_ne (Or.inl (hw _ (List.mem_of_getElem? (i := 23) rfl))) (Or.inl (hw _ (List.mem_of_getElem? (i := 16) rfl))) (by decide) (t := .boolean) (t' := .int) (by decide) (by decide)))
      show Wp p e below _ (T9.setTop (mkF m 28 #[.val (.ref a0), .val (.int p1)] []))
      refine Wp.via (fun _ k => XS.aloadN X9.here hx rfl (hb hby own_d5_28) rfl rfl k) ?_
      show Wp p e below _ (T9.setTop (mkF m 29 #[.val (.ref a0), .val (.int p1)] [(.ref a0)]))
      refine Wp.via (fun _ k => XS.iconst X9.here hx rfl (hb hby own_d5_29) k) ?_
      show Wp p e below _ (T9.setTop (mkF m 30 #[.val (.ref a0), .val (.int p1)] [(.int (0 : Int32)), (.ref a0)]))
      obtain ⟨T15, h15, X15, e15, W15, st15⟩ := putF X9 hx hZ hown (host := "") (Or.inl (hw _ (List.mem_of_getElem? (i := 22) rfl))) Via.refl e9 c14 c11 (Or.inl (hw _ (List.mem_of_getElem? (i := 23) rfl))) (hw _ (List.mem_of_getElem? (i := 5) rfl)) (ty := .boolean) (by decide) rfl rfl (g := (mkF m 30 #[.val (.ref a0), .val (.int p1)] [(.int (0 : Int32)), (.ref a0)])) rfl rfl (hb hby own_d5_30)
      have NF15 := Fr.snoc X15 NF9 gn
      refine Wp.via st15 ?_
      have K15 := K9.wr W15 (Or.inl (by simp))
      have zz16 : n0 ≤ h15.size := by rw [W15.size]; exact zz10
      have c17 := c11.wr W15
      have c18 := c12.other W15 (Or.inr (slot_ne (Or.inl (hw _ (List.mem_of_getElem? (i := 14) rfl))) (Or.inl (hw _ (List.mem_of_getElem? (i := 23) rfl))) (by decide) (t := .int) (t' := .boolean) (by decide) (by decide)))
      have c19 := c13.other W15 (Or.inr (slot_ne (Or.inl (hw _ (List.mem_of_getElem? (i := 16) rfl))) (Or.inl (hw _ (List.mem_of_getElem? (i := 23) rfl))) (by decide) (t := .int) (t' := .boolean) (by decide) (by decide)))
      have c20 := c14.same W15
      show Wp p e below _ (T15.setTop (mkF m 33 #[.val (.ref a0), .val (.int p1)] []))
      refine Wp.via (fun _ k => XS.goto X15.here hx rfl (pc0 := 33) (pc' := 80) rfl (hb hby own_d5_33) (by decide) (by decide) k) ?_
      show Wp p e below _ (T15.setTop (mkF m 80 #[.val (.ref a0), .val (.int p1)] []))
      obtain rfl : l1 = (lv + (1 : Int32)) := by rw [← hl]; simp [own_l, c1, c2]
      obtain rfl : k1 = (1 : Int32) := by rw [← hk]; simp [own_k, c1, c2]
      obtain rfl : r1 = (0 : Int32) := by rw [← hr]; simp [own_r, c1, c2]
      exact Wp.retV X15 hlk hx hret (hb hby own_d5_80) (by rw [e15]; exact ⟨rfl, NF15, K15, c17, c18, c19, c20⟩) (by decide) (by decide)
    ·
      refine Wp.via (fun _ k => XS.ifYes X1.here hx rfl (pc0 := 10) (pc' := 23) rfl (hb hby own_d5_10) rfl ((if0 _ _).trans (feq c2).2) (by decide) (by decide) k) ?_
      show Wp p e below _ (T1.setTop (mkF m 23 #[.val (.ref a0), .val (.int p1)] []))
      refine Wp.via (fun _ k => XS.aloadN X1.here hx rfl (hb hby own_d5_23) rfl rfl k) ?_
      show Wp p e below _ (T1.setTop (mkF m 24 #[.val (.ref a0), .val (.int p1)] [(.ref a0)]))
      refine Wp.via (fun _ k => XS.iconst X1.here hx rfl (hb hby own_d5_24) k) ?_
      show Wp p e below _ (T1.setTop (mkF m 25 #[.val (.ref a0), .val (.int p1)] [(.int (1 : Int32)), (.ref a0)]))
      obtain ⟨T21, h21, X21, e21, W21, st21⟩ := putF X1 hx hZ hown (host := "") (Or.inl (hw _ (List.mem_of_getElem? (i := 15) rfl))) Via.refl e1 F_column E0 (Or.inl (hw _ (List.mem_of_getElem? (i := 16) rfl))) (hw _ (List.mem_of_getElem? (i := 5) rfl)) (ty := .int) (by decide) rfl rfl (g := (mkF m 25 #[.val (.ref a0), .val (.int p1)] [(.int (1 : Int32)), (.ref a0)])) rfl rfl (hb hby own_d5_25)
      have NF21 := Fr.snoc X21 NF0 gn
      refine Wp.via st21 ?_
      have K21 := (Keep.refl h0 [a0]).wr W21 (Or.inl (by simp))
      have zz22 : n0 ≤ h21.size := by rw [W21.size]; exact Z0
      have c23 := E0.wr W21
      have c24 := F_line.other W21 (Or.inr (slot_ne (Or.inl (hw _ (List.mem_of_getElem? (i := 14) rfl))) (Or.inl (hw _ (List.mem_of_getElem? (i := 16) rfl))) (by decide) (t := .int) (t' := .int) (by decide) (by decide)))
      have c25 := F_column.same W21
      have c26 := F_afterCarriageReturn.other W21 (Or.inr (slot_ne (Or.inl (hw _ (List.mem_of_getElem? (i := 23) rfl))) (Or.inl (hw _ (List.mem_of_getElem? (i := 16) rfl))) (by decide) (t := .boolean) (t' := .int) (by decide) (by decide)))
      show Wp p e below _ (T21.setTop (mkF m 28 #[.val (.ref a0), .val (.int p1)] []))
      refine Wp.via (fun _ k => XS.aloadN X21.here hx rfl (hb hby own_d5_28) rfl rfl k) ?_
      show Wp p e below _ (T21.setTop (mkF m 29 #[.val (.ref a0), .val (.int p1)] [(.ref a0)]))
      refine Wp.via (fun _ k => XS.iconst X21.here hx rfl (hb hby own_d5_29) k) ?_
      show Wp p e below _ (T21.setTop (mkF m 30 #[.val (.ref a0), .val (.int p1)] [(.int (0 : Int32)), (.ref a0)]))
      obtain ⟨T27, h27, X27, e27, W27, st27⟩ := putF X21 hx hZ hown (host := "") (Or.inl (hw _ (List.mem_of_getElem? (i := 22) rfl))) Via.refl e21 c26 c23 (Or.inl (hw _ (List.mem_of_getElem? (i := 23) rfl))) (hw _ (List.mem_of_getElem? (i := 5) rfl)) (ty := .boolean) (by decide) rfl rfl (g := (mkF m 30 #[.val (.ref a0), .val (.int p1)] [(.int (0 : Int32)), (.ref a0)])) rfl rfl (hb hby own_d5_30)
      have NF27 := Fr.snoc X27 NF21 gn
      refine Wp.via st27 ?_
      have K27 := K21.wr W27 (Or.inl (by simp))
      have zz28 : n0 ≤ h27.size := by rw [W27.size]; exact zz22
      have c29 := c23.wr W27
      have c30 := c24.other W27 (Or.inr (slot_ne (Or.inl (hw _ (List.mem_of_getElem? (i := 14) rfl))) (Or.inl (hw _ (List.mem_of_getElem? (i := 23) rfl))) (by decide) (t := .int) (t' := .boolean) (by decide) (by decide)))
      have c31 := c25.other W27 (Or.inr (slot_ne (Or.inl (hw _ (List.mem_of_getElem? (i := 16) rfl))) (Or.inl (hw _ (List.mem_of_getElem? (i := 23) rfl))) (by decide) (t := .int) (t' := .boolean) (by decide) (by decide)))
      have c32 := c26.same W27
      show Wp p e below _ (T27.setTop (mkF m 33 #[.val (.ref a0), .val (.int p1)] []))
      refine Wp.via (fun _ k => XS.goto X27.here hx rfl (pc0 := 33) (pc' := 80) rfl (hb hby own_d5_33) (by decide) (by decide) k) ?_
      show Wp p e below _ (T27.setTop (mkF m 80 #[.val (.ref a0), .val (.int p1)] []))
      obtain rfl : l1 = lv := by rw [← hl]; simp [own_l, c1, c2]
      obtain rfl : k1 = (1 : Int32) := by rw [← hk]; simp [own_k, c1, c2]
      obtain rfl : r1 = (0 : Int32) := by rw [← hr]; simp [own_r, c1, c2]
      exact Wp.retV X27 hlk hx hret (hb hby own_d5_80) (by rw [e27]; exact ⟨rfl, NF27, K27, c29, c30, c31, c32⟩) (by decide) (by decide)
  ·
    refine Wp.via (fun _ k => XS.icmpYes X0.here hx rfl (pc0 := 3) (pc' := 36) rfl (hb hby own_d5_3) rfl (feq c1).2 (by decide) (by decide) k) ?_
    show Wp p e below _ (T0.setTop (mkF m 36 #[.val (.ref a0), .val (.int p1)] []))
    refine Wp.via (fun _ k => XS.iloadN X0.here hx rfl (hb hby own_d5_36) rfl k) ?_
    show Wp p e below _ (T0.setTop (mkF m 37 #[.val (.ref a0), .val (.int p1)] [(.int p1)]))
    refine Wp.via (fun _ k => XS.bipush X0.here hx rfl (hb hby own_d5_37) k) ?_
    show Wp p e below _ (T0.setTop (mkF m 39 #[.val (.ref a0), .val (.int p1)] [(.int (13 : Int32)), (.int p1)]))
    by_cases c2 : p1 = (13 : Int32)
    ·
      refine Wp.via (fun _ k => XS.icmpNo X0.here hx rfl (hb hby own_d5_39) rfl (teq c2).2 k) ?_
      show Wp p e below _ (T0.setTop (mkF m 42 #[.val (.ref a0), .val (.int p1)] []))
      refine Wp.via (fun _ k => XS.aloadN X0.here hx rfl (hb hby own_d5_42) rfl rfl k) ?_
      show Wp p e below _ (T0.setTop (mkF m 43 #[.val (.ref a0), .val (.int p1)] [(.ref a0)]))
      refine Wp.via (fun _ k => XS.dup X0.here hx rfl (hb hby own_d5_43) rfl rfl k) ?_
      show Wp p e below _ (T0.setTop (mkF m 44 #[.val (.ref a0), .val (.int p1)] [(.ref a0), (.ref a0)]))
      obtain ⟨T33, X33, e33, st33⟩ := getF X0 hx hZ hown (host := "") (Or.inl (hw _ (List.mem_of_getElem? (i := 13) rfl))) Via.refl e0 F_line (g := (mkF m 44 #[.val (.ref a0), .val (.int p1)] [(.ref a0), (.ref a0)])) rfl rfl (hb hby own_d5_44)
      refine Wp.via st33 ?_
      show Wp p e below _ (T33.setTop (mkF m 47 #[.val (.ref a0), .val (.int p1)] [(.int lv), (.ref a0)]))
      refine Wp.via (fun _ k => XS.iconst X33.here hx rfl (hb hby own_d5_47) k) ?_
      show Wp p e below _ (T33.setTop (mkF m 48 #[.val (.ref a0), .val (.int p1)] [(.int (1 : Int32)), (.int lv), (.ref a0)]))
      refine Wp.via (fun _ k => XS.iadd X33.here hx rfl (hb hby own_d5_48) rfl k) ?_
      show Wp p e below _ (T33.setTop (mkF m 49 #[.val (.ref a0), .val (.int p1)] [(.int (lv + (1 : Int32))), (.ref a0)]))
      obtain ⟨T34, h34, X34, e34, W34, st34⟩ := putF X33 hx hZ hown (host := "") (Or.inl (hw _ (List.mem_of_getElem? (i := 13) rfl))) Via.refl e33 F_line E0 (Or.inl (hw _ (List.mem_of_getElem? (i := 14) rfl))) (hw _ (List.mem_of_getElem? (i := 5) rfl)) (ty := .int) (by decide) rfl rfl (g := (mkF m 49 #[.val (.ref a0), .val (.int p1)] [(.int (lv + (1 : Int32))), (.ref a0)])) rfl rfl (hb hby own_d5_49)
      have NF34 := Fr.snoc X34 NF0 gn
      refine Wp.via st34 ?_
      have K34 := (Keep.refl h0 [a0]).wr W34 (Or.inl (by simp))
      have zz35 : n0 ≤ h34.size := by rw [W34.size]; exact Z0
      have c36 := E0.wr W34
      have c37 := F_line.same W34
      have c38 := F_column.other W34 (Or.inr (slot_ne (Or.inl (hw _ (List.mem_of_getElem? (i := 16) rfl))) (Or.inl (hw _ (List.mem_of_getElem? (i := 14) rfl))) (by decide) (t := .int) (t' := .int) (by decide) (by decide)))
      have c39 := F_afterCarriageReturn.other W34 (Or.inr (slot_ne (Or.inl (hw _ (List.mem_of_getElem? (i := 23) rfl))) (Or.inl (hw _ (List.mem_of_getElem? (i := 14) rfl))) (by decide) (t := .boolean) (t' := .int) (by decide) (by decide)))
      show Wp p e below _ (T34.setTop (mkF m 52 #[.val (.ref a0), .val (.int p1)] []))
      refine Wp.via (fun _ k => XS.aloadN X34.here hx rfl (hb hby own_d5_52) rfl rfl k) ?_
      show Wp p e below _ (T34.setTop (mkF m 53 #[.val (.ref a0), .val (.int p1)] [(.ref a0)]))
      refine Wp.via (fun _ k => XS.iconst X34.here hx rfl (hb hby own_d5_53) k) ?_
      show Wp p e below _ (T34.setTop (mkF m 54 #[.val (.ref a0), .val (.int p1)] [(.int (1 : Int32)), (.ref a0)]))
      obtain ⟨T40, h40, X40, e40, W40, st40⟩ := putF X34 hx hZ hown (host := "") (Or.inl (hw _ (List.mem_of_getElem? (i := 15) rfl))) Via.refl e34 c38 c36 (Or.inl (hw _ (List.mem_of_getElem? (i := 16) rfl))) (hw _ (List.mem_of_getElem? (i := 5) rfl)) (ty := .int) (by decide) rfl rfl (g := (mkF m 54 #[.val (.ref a0), .val (.int p1)] [(.int (1 : Int32)), (.ref a0)])) rfl rfl (hb hby own_d5_54)
      have NF40 := Fr.snoc X40 NF34 gn
      refine Wp.via st40 ?_
      have K40 := K34.wr W40 (Or.inl (by simp))
      have zz41 : n0 ≤ h40.size := by rw [W40.size]; exact zz35
      have c42 := c36.wr W40
      have c43 := c37.other W40 (Or.inr (slot_ne (Or.inl (hw _ (List.mem_of_getElem? (i := 14) rfl))) (Or.inl (hw _ (List.mem_of_getElem? (i := 16) rfl))) (by decide) (t := .int) (t' := .int) (by decide) (by decide)))
      have c44 := c38.same W40
      have c45 := c39.other W40 (Or.inr (slot_ne (Or.inl (hw _ (List.mem_of_getElem? (i := 23) rfl))) (Or.inl (hw _ (List.mem_of_getElem? (i := 16) rfl))) (by decide) (t := .boolean) (t' := .int) (by decide) (by decide)))
      show Wp p e below _ (T40.setTop (mkF m 57 #[.val (.ref a0), .val (.int p1)] []))
      refine Wp.via (fun _ k => XS.aloadN X40.here hx rfl (hb hby own_d5_57) rfl rfl k) ?_
      show Wp p e below _ (T40.setTop (mkF m 58 #[.val (.ref a0), .val (.int p1)] [(.ref a0)]))
      refine Wp.via (fun _ k => XS.iconst X40.here hx rfl (hb hby own_d5_58) k) ?_
      show Wp p e below _ (T40.setTop (mkF m 59 #[.val (.ref a0), .val (.int p1)] [(.int (1 : Int32)), (.ref a0)]))
      obtain ⟨T46, h46, X46, e46, W46, st46⟩ := putF X40 hx hZ hown (host := "") (Or.inl (hw _ (List.mem_of_getElem? (i := 22) rfl))) Via.refl e40 c45 c42 (Or.inl (hw _ (List.mem_of_getElem? (i := 23) rfl))) (hw _ (List.mem_of_getElem? (i := 5) rfl)) (ty := .boolean) (by decide) rfl rfl (g := (mkF m 59 #[.val (.ref a0), .val (.int p1)] [(.int (1 : Int32)), (.ref a0)])) rfl rfl (hb hby own_d5_59)
      have NF46 := Fr.snoc X46 NF40 gn
      refine Wp.via st46 ?_
      have K46 := K40.wr W46 (Or.inl (by simp))
      have zz47 : n0 ≤ h46.size := by rw [W46.size]; exact zz41
      have c48 := c42.wr W46
      have c49 := c43.other W46 (Or.inr (slot_ne (Or.inl (hw _ (List.mem_of_getElem? (i := 14) rfl))) (Or.inl (hw _ (List.mem_of_getElem? (i := 23) rfl))) (by decide) (t := .int) (t' := .boolean) (by decide) (by decide)))
      have c50 := c44.other W46 (Or.inr (slot_ne (Or.inl (hw _ (List.mem_of_getElem? (i := 16) rfl))) (Or.inl (hw _ (List.mem_of_getElem? (i := 23) rfl))) (by decide) (t := .int) (t' := .boolean) (by decide) (by decide)))
      have c51 := c45.same W46
      show Wp p e below _ (T46.setTop (mkF m 62 #[.val (.ref a0), .val (.int p1)] []))
      refine Wp.via (fun _ k => XS.goto X46.here hx rfl (pc0 := 62) (pc' := 80) rfl (hb hby own_d5_62) (by decide) (by decide) k) ?_
      show Wp p e below _ (T46.setTop (mkF m 80 #[.val (.ref a0), .val (.int p1)] []))
      obtain rfl : l1 = (lv + (1 : Int32)) := by rw [← hl]; simp [own_l, c1, c2]
      obtain rfl : k1 = (1 : Int32) := by rw [← hk]; simp [own_k, c1, c2]
      obtain rfl : r1 = (1 : Int32) := by rw [← hr]; simp [own_r, c1, c2]
      exact Wp.retV X46 hlk hx hret (hb hby own_d5_80) (by rw [e46]; exact ⟨rfl, NF46, K46, c48, c49, c50, c51⟩) (by decide) (by decide)
    ·
      refine Wp.via (fun _ k => XS.icmpYes X0.here hx rfl (pc0 := 39) (pc' := 65) rfl (hb hby own_d5_39) rfl (feq c2).2 (by decide) (by decide) k) ?_
      show Wp p e below _ (T0.setTop (mkF m 65 #[.val (.ref a0), .val (.int p1)] []))
      refine Wp.via (fun _ k => XS.aloadN X0.here hx rfl (hb hby own_d5_65) rfl rfl k) ?_
      show Wp p e below _ (T0.setTop (mkF m 66 #[.val (.ref a0), .val (.int p1)] [(.ref a0)]))
      refine Wp.via (fun _ k => XS.dup X0.here hx rfl (hb hby own_d5_66) rfl rfl k) ?_
      show Wp p e below _ (T0.setTop (mkF m 67 #[.val (.ref a0), .val (.int p1)] [(.ref a0), (.ref a0)]))
      obtain ⟨T52, X52, e52, st52⟩ := getF X0 hx hZ hown (host := "") (Or.inl (hw _ (List.mem_of_getElem? (i := 15) rfl))) Via.refl e0 F_column (g := (mkF m 67 #[.val (.ref a0), .val (.int p1)] [(.ref a0), (.ref a0)])) rfl rfl (hb hby own_d5_67)
      refine Wp.via st52 ?_
      show Wp p e below _ (T52.setTop (mkF m 70 #[.val (.ref a0), .val (.int p1)] [(.int kv), (.ref a0)]))
      refine Wp.via (fun _ k => XS.iconst X52.here hx rfl (hb hby own_d5_70) k) ?_
      show Wp p e below _ (T52.setTop (mkF m 71 #[.val (.ref a0), .val (.int p1)] [(.int (1 : Int32)), (.int kv), (.ref a0)]))
      refine Wp.via (fun _ k => XS.iadd X52.here hx rfl (hb hby own_d5_71) rfl k) ?_
      show Wp p e below _ (T52.setTop (mkF m 72 #[.val (.ref a0), .val (.int p1)] [(.int (kv + (1 : Int32))), (.ref a0)]))
      obtain ⟨T53, h53, X53, e53, W53, st53⟩ := putF X52 hx hZ hown (host := "") (Or.inl (hw _ (List.mem_of_getElem? (i := 15) rfl))) Via.refl e52 F_column E0 (Or.inl (hw _ (List.mem_of_getElem? (i := 16) rfl))) (hw _ (List.mem_of_getElem? (i := 5) rfl)) (ty := .int) (by decide) rfl rfl (g := (mkF m 72 #[.val (.ref a0), .val (.int p1)] [(.int (kv + (1 : Int32))), (.ref a0)])) rfl rfl (hb hby own_d5_72)
      have NF53 := Fr.snoc X53 NF0 gn
      refine Wp.via st53 ?_
      have K53 := (Keep.refl h0 [a0]).wr W53 (Or.inl (by simp))
      have zz54 : n0 ≤ h53.size := by rw [W53.size]; exact Z0
      have c55 := E0.wr W53
      have c56 := F_line.other W53 (Or.inr (slot_ne (Or.inl (hw _ (List.mem_of_getElem? (i := 14) rfl))) (Or.inl (hw _ (List.mem_of_getElem? (i := 16) rfl))) (by decide) (t := .int) (t' := .int) (by decide) (by decide)))
      have c57 := F_column.same W53
      have c58 := F_afterCarriageReturn.other W53 (Or.inr (slot_ne (Or.inl (hw _ (List.mem_of_getElem? (i := 23) rfl))) (Or.inl (hw _ (List.mem_of_getElem? (i := 16) rfl))) (by decide) (t := .boolean) (t' := .int) (by decide) (by decide)))
      show Wp p e below _ (T53.setTop (mkF m 75 #[.val (.ref a0), .val (.int p1)] []))
      refine Wp.via (fun _ k => XS.aloadN X53.here hx rfl (hb hby own_d5_75) rfl rfl k) ?_
      show Wp p e below _ (T53.setTop (mkF m 76 #[.val (.ref a0), .val (.int p1)] [(.ref a0)]))
      refine Wp.via (fun _ k => XS.iconst X53.here hx rfl (hb hby own_d5_76) k) ?_
      show Wp p e below _ (T53.setTop (mkF m 77 #[.val (.ref a0), .val (.int p1)] [(.int (0 : Int32)), (.ref a0)]))
      obtain ⟨T59, h59, X59, e59, W59, st59⟩ := putF X53 hx hZ hown (host := "") (Or.inl (hw _ (List.mem_of_getElem? (i := 22) rfl))) Via.refl e53 c58 c55 (Or.inl (hw _ (List.mem_of_getElem? (i := 23) rfl))) (hw _ (List.mem_of_getElem? (i := 5) rfl)) (ty := .boolean) (by decide) rfl rfl (g := (mkF m 77 #[.val (.ref a0), .val (.int p1)] [(.int (0 : Int32)), (.ref a0)])) rfl rfl (hb hby own_d5_77)
      have NF59 := Fr.snoc X59 NF53 gn
      refine Wp.via st59 ?_
      have K59 := K53.wr W59 (Or.inl (by simp))
      have zz60 : n0 ≤ h59.size := by rw [W59.size]; exact zz54
      have c61 := c55.wr W59
      have c62 := c56.other W59 (Or.inr (slot_ne (Or.inl (hw _ (List.mem_of_getElem? (i := 14) rfl))) (Or.inl (hw _ (List.mem_of_getElem? (i := 23) rfl))) (by decide) (t := .int) (t' := .boolean) (by decide) (by decide)))
      have c63 := c57.other W59 (Or.inr (slot_ne (Or.inl (hw _ (List.mem_of_getElem? (i := 16) rfl))) (Or.inl (hw _ (List.mem_of_getElem? (i := 23) rfl))) (by decide) (t := .int) (t' := .boolean) (by decide) (by decide)))
      have c64 := c58.same W59
      show Wp p e below _ (T59.setTop (mkF m 80 #[.val (.ref a0), .val (.int p1)] []))
      obtain rfl : l1 = lv := by rw [← hl]; simp [own_l, c1, c2]
      obtain rfl : k1 = (kv + (1 : Int32)) := by rw [← hk]; simp [own_k, c1, c2]
      obtain rfl : r1 = (0 : Int32) := by rw [← hr]; simp [own_r, c1, c2]
      exact Wp.retV X59 hlk hx hret (hb hby own_d5_80) (by rw [e59]; exact ⟨rfl, NF59, K59, c61, c62, c63, c64⟩) (by decide) (by decide)
theorem own_d6_0 : decode prog_27_method_4_code 0 = .ok (.aload_n 0, 1) := by decide +kernel
theorem own_d6_1 : decode prog_27_method_4_code 1 = .ok (.getfield 7, 3) := by decide +kernel
theorem own_d6_4 : decode prog_27_method_4_code 4 = .ok (.ireturn, 1) := by decide +kernel
theorem own_pl6 : plainFor (⟨"com/example/chyld/chyld/LineColumn", "line", "()I"⟩ : MethodName) = true := plainFor_of_name (by first | (simp [plainName, overriddenIn]; done) | decide +kernel)
theorem own_ef6 (m : MethodId) (a0 : Addr) : entryFrame m #[(.ref a0)] 1 = mkF m 0 #[.val (.ref a0)] [] := by first | (simp [entryFrame, mkF, argsToLocals, Value.category]; done) | rfl
def Qo6 (Z : State) (a0 : Addr) (w : Int32) (h0 : Heap) (n0 : Nat) (v : Option Value) (h : Heap) (L : List Loc) : Prop := v = some (.int w) ∧ Fr n0 L ∧ h = h0
set_option maxRecDepth 65536 in
set_option maxHeartbeats 40000000 in
theorem rm6 (l : Launch) (Z : State) (aw : Array Value) (hw : ∀ d ∈ tables_1, d.before aw Z = true) (ws : List Jvm.Cond) (a0 : Addr) (w : Int32) (h0 : Heap) (n0 : Nat) (Z0 : n0 ≤ h0.size) (F0 : Fld Z h0 a0 "com/example/chyld/chyld/LineColumn" "line" "I" (.int w)) :
    MetFree l (⟨"com/example/chyld/chyld/LineColumn", "line", "()I"⟩ : MethodName) (head1 (Jvm.Cond.code (⟨"com/example/chyld/chyld/LineColumn", "line", "()I"⟩ : MethodName) prog_27_method_4_code 1 (some .int) :: ws) ({ frames := 0, cells := 0, slots := 0, locals := 0 } : Room)) (fun a U => a = #[(.ref a0)] ∧ Z.Warmed39 U.vm ∧ U.heap = h0) (fun _ _ _ _ _ => True) (fun _ U o U' => ∃ v L, o = .returned v ∧ (Qo6 Z a0 w h0 n0) v U'.heap L ∧ FrameEnd U o U' L ({ frames := 0, cells := 0, slots := 0, locals := 0 } : Room).cells ({ frames := 0, cells := 0, slots := 0, locals := 0 } : Room).slots) := by
  refine ofWp (Q := Qo6 Z a0 w h0 n0) own_pl6 (fun m => own_ef6 m a0) ?_
  intro p e s m below meth c T0 hx hby hml hown hnm hlk hret hZ X0 e0
  change s.vm.findClass "com/example/chyld/chyld/LineColumn" = some m.cls at hown
  have NF0 := Fr.nil n0
  refine Wp.via (fun _ k => XS.aloadN X0.here hx rfl (hb hby own_d6_0) rfl rfl k) ?_
  show Wp p e below _ (T0.setTop (mkF m 1 #[.val (.ref a0)] [(.ref a0)]))
  obtain ⟨T1, X1, e1, st1⟩ := getF X0 hx hZ hown (host := "") (Or.inl (hw _ (List.mem_of_getElem? (i := 13) rfl))) Via.refl e0 F0 (g := (mkF m 1 #[.val (.ref a0)] [(.ref a0)])) rfl rfl (hb hby own_d6_1)
  refine Wp.via st1 ?_
  show Wp p e below _ (T1.setTop (mkF m 4 #[.val (.ref a0)] [(.int w)]))
  exact Wp.retI X1 hlk hx hret (by simp) rfl (hb hby own_d6_4) ⟨rfl, NF0, e1⟩ (by decide) (by decide)
theorem own_d7_0 : decode prog_27_method_5_code 0 = .ok (.aload_n 0, 1) := by decide +kernel
theorem own_d7_1 : decode prog_27_method_5_code 1 = .ok (.getfield 13, 3) := by decide +kernel
theorem own_d7_4 : decode prog_27_method_5_code 4 = .ok (.ireturn, 1) := by decide +kernel
theorem own_pl7 : plainFor (⟨"com/example/chyld/chyld/LineColumn", "column", "()I"⟩ : MethodName) = true := plainFor_of_name (by first | (simp [plainName, overriddenIn]; done) | decide +kernel)
theorem own_ef7 (m : MethodId) (a0 : Addr) : entryFrame m #[(.ref a0)] 1 = mkF m 0 #[.val (.ref a0)] [] := by first | (simp [entryFrame, mkF, argsToLocals, Value.category]; done) | rfl
def Qo7 (Z : State) (a0 : Addr) (w : Int32) (h0 : Heap) (n0 : Nat) (v : Option Value) (h : Heap) (L : List Loc) : Prop := v = some (.int w) ∧ Fr n0 L ∧ h = h0
set_option maxRecDepth 65536 in
set_option maxHeartbeats 40000000 in
theorem rm7 (l : Launch) (Z : State) (aw : Array Value) (hw : ∀ d ∈ tables_1, d.before aw Z = true) (ws : List Jvm.Cond) (a0 : Addr) (w : Int32) (h0 : Heap) (n0 : Nat) (Z0 : n0 ≤ h0.size) (F0 : Fld Z h0 a0 "com/example/chyld/chyld/LineColumn" "column" "I" (.int w)) :
    MetFree l (⟨"com/example/chyld/chyld/LineColumn", "column", "()I"⟩ : MethodName) (head1 (Jvm.Cond.code (⟨"com/example/chyld/chyld/LineColumn", "column", "()I"⟩ : MethodName) prog_27_method_5_code 1 (some .int) :: ws) ({ frames := 0, cells := 0, slots := 0, locals := 0 } : Room)) (fun a U => a = #[(.ref a0)] ∧ Z.Warmed39 U.vm ∧ U.heap = h0) (fun _ _ _ _ _ => True) (fun _ U o U' => ∃ v L, o = .returned v ∧ (Qo7 Z a0 w h0 n0) v U'.heap L ∧ FrameEnd U o U' L ({ frames := 0, cells := 0, slots := 0, locals := 0 } : Room).cells ({ frames := 0, cells := 0, slots := 0, locals := 0 } : Room).slots) := by
  refine ofWp (Q := Qo7 Z a0 w h0 n0) own_pl7 (fun m => own_ef7 m a0) ?_
  intro p e s m below meth c T0 hx hby hml hown hnm hlk hret hZ X0 e0
  change s.vm.findClass "com/example/chyld/chyld/LineColumn" = some m.cls at hown
  have NF0 := Fr.nil n0
  refine Wp.via (fun _ k => XS.aloadN X0.here hx rfl (hb hby own_d7_0) rfl rfl k) ?_
  show Wp p e below _ (T0.setTop (mkF m 1 #[.val (.ref a0)] [(.ref a0)]))
  obtain ⟨T1, X1, e1, st1⟩ := getF X0 hx hZ hown (host := "") (Or.inl (hw _ (List.mem_of_getElem? (i := 15) rfl))) Via.refl e0 F0 (g := (mkF m 1 #[.val (.ref a0)] [(.ref a0)])) rfl rfl (hb hby own_d7_1)
  refine Wp.via st1 ?_
  show Wp p e below _ (T1.setTop (mkF m 4 #[.val (.ref a0)] [(.int w)]))
  exact Wp.retI X1 hlk hx hret (by simp) rfl (hb hby own_d7_4) ⟨rfl, NF0, e1⟩ (by decide) (by decide)
theorem own_pd1 : parseMethodDescriptor "(II)I" = some ⟨[.int, .int], some .int⟩ := by decide +kernel
theorem own_pd2 : parseMethodDescriptor "(I)V" = some ⟨[.int], none⟩ := by decide +kernel
theorem own_pd3 : parseMethodDescriptor "()I" = some ⟨[], some .int⟩ := by decide +kernel
theorem own_pl0 : plainFor (⟨"com/example/chyld/chyld/LineColumnCharacterPinLaw", "law", "(IIIII)Z"⟩ : MethodName) = true := plainFor_of_name (by first | (simp [plainName, overriddenIn]; done) | decide +kernel)
theorem own_ef0 (m : MethodId) (p0 : Int32) (p1 : Int32) (p2 : Int32) (p3 : Int32) (p4 : Int32) : entryFrame m #[(.int p0), (.int p1), (.int p2), (.int p3), (.int p4)] maxLocals = mkF m 0 #[.val (.int p0), .val (.int p1), .val (.int p2), .val (.int p3), .val (.int p4), .unset, .unset, .unset, .unset, .unset, .unset, .unset, .unset, .unset, .unset] [] := by first | (simp [entryFrame, mkF, argsToLocals, Value.category, maxLocals]; done) | rfl
def Qo0 (Z : State) (p0 : Int32) (p1 : Int32) (p2 : Int32) (p3 : Int32) (p4 : Int32)  (h0 : Heap) (n0 : Nat) (v : Option Value) (h : Heap) (L : List Loc) : Prop := v = some (.int 1) ∧ Fr n0 L
set_option maxRecDepth 65536 in
set_option maxHeartbeats 40000000 in
theorem rm0 (l : Launch) (Z : State) (aw : Array Value) (hw : ∀ d ∈ tables_1, d.before aw Z = true) (ws : List Jvm.Cond) (p0 : Int32) (p1 : Int32) (p2 : Int32) (p3 : Int32) (p4 : Int32)  (h0 : Heap) (n0 : Nat) (Z0 : n0 ≤ h0.size)  :
    MetFree l x (head1 (Jvm.Cond.code x code maxLocals ret :: ws) room_1) (fun a U => a = #[(.int p0), (.int p1), (.int p2), (.int p3), (.int p4)] ∧ Z.Warmed39 U.vm ∧ U.heap = h0) (fun _ _ _ _ _ => True) (fun _ U o U' => ∃ v L, o = .returned v ∧ (Qo0 Z p0 p1 p2 p3 p4 h0 n0) v U'.heap L ∧ FrameEnd U o U' L 16 128) := by
  refine ofWp (Q := Qo0 Z p0 p1 p2 p3 p4 h0 n0) own_pl0 (fun m => own_ef0 m p0 p1 p2 p3 p4) ?_
  intro p e s m below meth c T0 hx hby hml hown hnm hlk hret hZ X0 e0
  change s.vm.findClass "com/example/chyld/chyld/LineColumnCharacterPinLaw" = some m.cls at hown
  have NF0 := Fr.nil n0
  have J15 : ∀ (T : State) (locs : List Loc) (cells slots : Nat) (X : Stand p l e room_1 s m #[(.int p0), (.int p1), (.int p2), (.int p3), (.int p4)] below meth c T locs cells slots) (eT : T.heap = h0) (NF : Fr n0 locs) (hC : cells = 0) (hS : slots = 0) (pv xv : Int32),  Wp p e below (Gd s (Qo0 Z p0 p1 p2 p3 p4 h0 n0) 16 128) (T.setTop (mkF m 15 #[.val (.int p0), .val (.int p1), .val (.int p2), .val (.int p3), .val (.int p4), .val (.int pv), .val (.int xv), .unset, .unset, .unset, .unset, .unset, .unset, .unset, .unset] [])) := by
    intro T locs cells slots X eT NF hC hS pv xv
    subst hC hS
    obtain ⟨T1, h1, X1, e1, E1, A1, D1, -, st1⟩ := newO X hx hZ hown (hw _ (List.mem_of_getElem? (i := 4) rfl)) (hw _ (List.mem_of_getElem? (i := 5) rfl)) (hw _ (List.mem_of_getElem? (i := 6) rfl)) eT (g := (mkF m 15 #[.val (.int p0), .val (.int p1), .val (.int p2), .val (.int p3), .val (.int p4), .val (.int pv), .val (.int xv), .unset, .unset, .unset, .unset, .unset, .unset, .unset, .unset] [])) rfl (hb hby at_15) (by decide) (by decide)
    obtain ⟨b1, g1⟩ : ∃ z, z = h0.size := ⟨_, rfl⟩
    rw [← g1] at A1 D1 st1
    have gn_b1 : n0 ≤ b1 := Nat.le_trans Z0 (Nat.le_of_eq g1.symm)
    have sz_b1 : h0.size ≤ b1 := Nat.le_trans (Keep.refl h0 []).1 (Nat.le_of_eq g1.symm)
    have F1_line : Fld Z h1 b1 "com/example/chyld/chyld/LineColumn" "line" "I" (.int (0 : Int32)) := D1 (Or.inl (hw _ (List.mem_of_getElem? (i := 14) rfl))) (ty := .int) (by decide)
    have F1_column : Fld Z h1 b1 "com/example/chyld/chyld/LineColumn" "column" "I" (.int (0 : Int32)) := D1 (Or.inl (hw _ (List.mem_of_getElem? (i := 16) rfl))) (ty := .int) (by decide)
    have F1_afterCarriageReturn : Fld Z h1 b1 "com/example/chyld/chyld/LineColumn" "afterCarriageReturn" "Z" (.int (0 : Int32)) := D1 (Or.inl (hw _ (List.mem_of_getElem? (i := 23) rfl))) (ty := .boolean) (by decide)
    refine Wp.via st1 ?_
    have K1 := (Keep.refl h0 []).ext E1
    have zz2 : n0 ≤ h1.size := Nat.le_trans Z0 E1.1
    show Wp p e below _ (T1.setTop (mkF m 18 #[.val (.int p0), .val (.int p1), .val (.int p2), .val (.int p3), .val (.int p4), .val (.int pv), .val (.int xv), .unset, .unset, .unset, .unset, .unset, .unset, .unset, .unset] [(.ref b1)]))
    refine Wp.via (fun _ k => XS.dup X1.here hx rfl (hb hby at_18) rfl rfl k) ?_
    show Wp p e below _ (T1.setTop (mkF m 19 #[.val (.int p0), .val (.int p1), .val (.int p2), .val (.int p3), .val (.int p4), .val (.int pv), .val (.int xv), .unset, .unset, .unset, .unset, .unset, .unset, .unset, .unset] [(.ref b1), (.ref b1)]))
    obtain ⟨_, _, ⟨T3, L3, k3, n3⟩, -, X3, ⟨Lc3, hQ3, l3, y3, z3⟩, st3⟩ := X1.specialBack hx (y := (⟨"com/example/chyld/chyld/LineColumn", "<init>", "()V"⟩ : MethodName)) rfl hown (mvT hZ (hw _ (List.mem_of_getElem? (i := 7) rfl))) (mvT hZ (hw _ (List.mem_of_getElem? (i := 8) rfl))) (mvT hZ (hw _ (List.mem_of_getElem? (i := 9) rfl))) (by decide) (backOf (W := 1) (rm2 l Z aw hw [] b1  h1 n0 zz2 A1 gn_b1 F1_line F1_column F1_afterCarriageReturn ) hZ (hw _ (List.mem_of_getElem? (i := 9) rfl)) (hw _ (List.mem_of_getElem? (i := 6) rfl)) (by decide) (by decide)) (g := (mkF m 19 #[.val (.int p0), .val (.int p1), .val (.int p2), .val (.int p3), .val (.int p4), .val (.int pv), .val (.int xv), .unset, .unset, .unset, .unset, .unset, .unset, .unset, .unset] [(.ref b1), (.ref b1)])) rfl (by rw [hml]; rfl) (Steps.refl _) (a := b1) (argsL := []) (rest := [(.ref b1)]) (lenOf own_pd0 rfl) rfl (by show 2 * 0 + _ ≤ _; exact Nat.le_of_eq rfl) (hb hby at_19) (fun _ _ => ⟨rfl, e1, (by decide : 1 + 0 ≤ _), (by decide : 3 + 0 ≤ _)⟩)
    dsimp only [Pt.U, Pt.locs, Pt.cells, Pt.slots] at X3 l3 y3 z3 st3 hQ3
    subst l3 y3 z3
    obtain ⟨rfl, N3, Kc3, Ec3, m1_line, m1_column, m1_afterCarriageReturn⟩ := hQ3
    have NF3 := Fr.app NF N3
    refine Wp.step st3 ?_
    have c4 := A1.keep Kc3
    have K3' := K1.trans Kc3 (allS (Or.inr sz_b1) all0)
    have zz5 : n0 ≤ T3.heap.size := Nat.le_trans zz2 Kc3.1
    show Wp p e below _ (T3.setTop (mkF m 22 #[.val (.int p0), .val (.int p1), .val (.int p2), .val (.int p3), .val (.int p4), .val (.int pv), .val (.int xv), .unset, .unset, .unset, .unset, .unset, .unset, .unset, .unset] [(.ref b1)]))
    refine Wp.via (fun _ k => XS.astore X3.here hx rfl (hb hby at_22) rfl rfl (l' := #[.val (.int p0), .val (.int p1), .val (.int p2), .val (.int p3), .val (.int p4), .val (.int pv), .val (.int xv), .val (.ref b1), .unset, .unset, .unset, .unset, .unset, .unset, .unset]) rfl k) ?_
    show Wp p e below _ (T3.setTop (mkF m 24 #[.val (.int p0), .val (.int p1), .val (.int p2), .val (.int p3), .val (.int p4), .val (.int pv), .val (.int xv), .val (.ref b1), .unset, .unset, .unset, .unset, .unset, .unset, .unset] []))
    refine Wp.via (fun _ k => XS.aload X3.here hx rfl (hb hby at_24) rfl rfl k) ?_
    show Wp p e below _ (T3.setTop (mkF m 26 #[.val (.int p0), .val (.int p1), .val (.int p2), .val (.int p3), .val (.int p4), .val (.int pv), .val (.int xv), .val (.ref b1), .unset, .unset, .unset, .unset, .unset, .unset, .unset] [(.ref b1)]))
    refine Wp.via (fun _ k => XS.iloadN X3.here hx rfl (hb hby at_26) rfl k) ?_
    show Wp p e below _ (T3.setTop (mkF m 27 #[.val (.int p0), .val (.int p1), .val (.int p2), .val (.int p3), .val (.int p4), .val (.int pv), .val (.int xv), .val (.ref b1), .unset, .unset, .unset, .unset, .unset, .unset, .unset] [(.int p0), (.ref b1)]))
    obtain ⟨cq6, kq6, q6a, q6b, q6c⟩ := isOf hZ rfl c4
    obtain ⟨_, _, ⟨T6, L6, k6, n6⟩, -, X6, ⟨Lc6, hQ6, l6, y6, z6⟩, st6⟩ := X3.virtualBack hx (y := (⟨"com/example/chyld/chyld/LineColumn", "columns", "(I)V"⟩ : MethodName)) (z := (⟨"com/example/chyld/chyld/LineColumn", "columns", "(I)V"⟩ : MethodName)) hown (mvT hZ (hw _ (List.mem_of_getElem? (i := 17) rfl))) (mvT hZ (hw _ (List.mem_of_getElem? (i := 18) rfl))) (notFace_of_selects (args := #[]) (mvT hZ (hw _ (List.mem_of_getElem? (i := 20) rfl)))) (mvT hZ (hw _ (List.mem_of_getElem? (i := 20) rfl))) (mvT hZ (hw _ (List.mem_of_getElem? (i := 19) rfl))) (by decide) (backOf (W := 0) (rm4 l Z aw hw [] b1 p0 (1 : Int32) (1 : Int32) (0 : Int32) T3.heap n0 zz5 c4 gn_b1 m1_line m1_column m1_afterCarriageReturn ) hZ (hw _ (List.mem_of_getElem? (i := 21) rfl)) (hw _ (List.mem_of_getElem? (i := 6) rfl)) (by decide) (by decide)) q6a q6c (g := (mkF m 27 #[.val (.int p0), .val (.int p1), .val (.int p2), .val (.int p3), .val (.int p4), .val (.int pv), .val (.int xv), .val (.ref b1), .unset, .unset, .unset, .unset, .unset, .unset, .unset] [(.int p0), (.ref b1)])) rfl (by rw [hml]; rfl) (Steps.refl _) (argsL := [(.int p0)]) (rest := []) (lenOf own_pd2 rfl) rfl (by show 2 * 0 + _ ≤ _; exact Nat.le_of_eq rfl) (hb hby at_27) (fun _ _ => ⟨rfl, rfl, (by decide : 1 + 0 ≤ _), (by decide : 3 + 0 ≤ _)⟩)
    dsimp only [Pt.U, Pt.locs, Pt.cells, Pt.slots] at X6 l6 y6 z6 st6 hQ6
    subst l6 y6 z6
    obtain ⟨rfl, N6, Kc6, Ec6, m2_line, m2_column, m2_afterCarriageReturn⟩ := hQ6
    have NF6 := Fr.app NF3 N6
    refine Wp.step st6 ?_
    have c7 := c4.keep Kc6
    have K6' := K3'.trans Kc6 (allS (Or.inr sz_b1) all0)
    have zz8 : n0 ≤ T6.heap.size := Nat.le_trans zz5 Kc6.1
    show Wp p e below _ (T6.setTop (mkF m 30 #[.val (.int p0), .val (.int p1), .val (.int p2), .val (.int p3), .val (.int p4), .val (.int pv), .val (.int xv), .val (.ref b1), .unset, .unset, .unset, .unset, .unset, .unset, .unset] []))
    refine Wp.via (fun _ k => XS.aload X6.here hx rfl (hb hby at_30) rfl rfl k) ?_
    show Wp p e below _ (T6.setTop (mkF m 32 #[.val (.int p0), .val (.int p1), .val (.int p2), .val (.int p3), .val (.int p4), .val (.int pv), .val (.int xv), .val (.ref b1), .unset, .unset, .unset, .unset, .unset, .unset, .unset] [(.ref b1)]))
    refine Wp.via (fun _ k => XS.iload X6.here hx rfl (hb hby at_32) rfl k) ?_
    show Wp p e below _ (T6.setTop (mkF m 34 #[.val (.int p0), .val (.int p1), .val (.int p2), .val (.int p3), .val (.int p4), .val (.int pv), .val (.int xv), .val (.ref b1), .unset, .unset, .unset, .unset, .unset, .unset, .unset] [(.int pv), (.ref b1)]))
    by_cases a1 : pv = (10 : Int32)
    ·
      subst a1
      show Wp p e below _ (T6.setTop (mkF m 34 #[.val (.int p0), .val (.int p1), .val (.int p2), .val (.int p3), .val (.int p4), .val (.int (10 : Int32)), .val (.int xv), .val (.ref b1), .unset, .unset, .unset, .unset, .unset, .unset, .unset] [(.int (10 : Int32)), (.ref b1)]))
      obtain ⟨cq9, kq9, q9a, q9b, q9c⟩ := isOf hZ rfl c7
      obtain ⟨_, _, ⟨T9, L9, k9, n9⟩, -, X9, ⟨Lc9, hQ9, l9, y9, z9⟩, st9⟩ := X6.virtualBack hx (y := (⟨"com/example/chyld/chyld/LineColumn", "character", "(I)V"⟩ : MethodName)) (z := (⟨"com/example/chyld/chyld/LineColumn", "character", "(I)V"⟩ : MethodName)) hown (mvT hZ (hw _ (List.mem_of_getElem? (i := 24) rfl))) (mvT hZ (hw _ (List.mem_of_getElem? (i := 25) rfl))) (notFace_of_selects (args := #[]) (mvT hZ (hw _ (List.mem_of_getElem? (i := 27) rfl)))) (mvT hZ (hw _ (List.mem_of_getElem? (i := 27) rfl))) (mvT hZ (hw _ (List.mem_of_getElem? (i := 26) rfl))) (by decide) (backOf (W := 0) (rm5 l Z aw hw [] b1 (10 : Int32) (1 : Int32) ((1 : Int32) + p0) (0 : Int32) (2 : Int32) (1 : Int32) (0 : Int32) T6.heap n0 zz8 c7 gn_b1 m2_line m2_column m2_afterCarriageReturn (by simp [own_l]) (by simp [own_k]) (by simp [own_r])) hZ (hw _ (List.mem_of_getElem? (i := 28) rfl)) (hw _ (List.mem_of_getElem? (i := 6) rfl)) (by decide) (by decide)) q9a q9c (g := (mkF m 34 #[.val (.int p0), .val (.int p1), .val (.int p2), .val (.int p3), .val (.int p4), .val (.int (10 : Int32)), .val (.int xv), .val (.ref b1), .unset, .unset, .unset, .unset, .unset, .unset, .unset] [(.int (10 : Int32)), (.ref b1)])) rfl (by rw [hml]; rfl) (Steps.refl _) (argsL := [(.int (10 : Int32))]) (rest := []) (lenOf own_pd2 rfl) rfl (by show 2 * 0 + _ ≤ _; exact Nat.le_of_eq rfl) (hb hby at_34) (fun _ _ => ⟨rfl, rfl, (by decide : 1 + 0 ≤ _), (by decide : 3 + 0 ≤ _)⟩)
      dsimp only [Pt.U, Pt.locs, Pt.cells, Pt.slots] at X9 l9 y9 z9 st9 hQ9
      subst l9 y9 z9
      obtain ⟨rfl, N9, Kc9, Ec9, m3_line, m3_column, m3_afterCarriageReturn⟩ := hQ9
      have NF9 := Fr.app NF6 N9
      refine Wp.step st9 ?_
      have c10 := c7.keep Kc9
      have K9' := K6'.trans Kc9 (allS (Or.inr sz_b1) all0)
      have zz11 : n0 ≤ T9.heap.size := Nat.le_trans zz8 Kc9.1
      show Wp p e below _ (T9.setTop (mkF m 37 #[.val (.int p0), .val (.int p1), .val (.int p2), .val (.int p3), .val (.int p4), .val (.int (10 : Int32)), .val (.int xv), .val (.ref b1), .unset, .unset, .unset, .unset, .unset, .unset, .unset] []))
      refine Wp.via (fun _ k => XS.iload X9.here hx rfl (hb hby at_37) rfl k) ?_
      show Wp p e below _ (T9.setTop (mkF m 39 #[.val (.int p0), .val (.int p1), .val (.int p2), .val (.int p3), .val (.int p4), .val (.int (10 : Int32)), .val (.int xv), .val (.ref b1), .unset, .unset, .unset, .unset, .unset, .unset, .unset] [(.int (10 : Int32))]))
      refine Wp.via (fun _ k => XS.bipush X9.here hx rfl (hb hby at_39) k) ?_
      show Wp p e below _ (T9.setTop (mkF m 41 #[.val (.int p0), .val (.int p1), .val (.int p2), .val (.int p3), .val (.int p4), .val (.int (10 : Int32)), .val (.int xv), .val (.ref b1), .unset, .unset, .unset, .unset, .unset, .unset, .unset] [(.int (13 : Int32)), (.int (10 : Int32))]))
      refine Wp.via (fun _ k => XS.icmpYes X9.here hx rfl (pc0 := 41) (pc' := 48) rfl (hb hby at_41) rfl (feq (by decide)).2 (by decide) (by decide) k) ?_
      show Wp p e below _ (T9.setTop (mkF m 48 #[.val (.int p0), .val (.int p1), .val (.int p2), .val (.int p3), .val (.int p4), .val (.int (10 : Int32)), .val (.int xv), .val (.ref b1), .unset, .unset, .unset, .unset, .unset, .unset, .unset] []))
      refine Wp.via (fun _ k => XS.iconst X9.here hx rfl (hb hby at_48) k) ?_
      show Wp p e below _ (T9.setTop (mkF m 49 #[.val (.int p0), .val (.int p1), .val (.int p2), .val (.int p3), .val (.int p4), .val (.int (10 : Int32)), .val (.int xv), .val (.ref b1), .unset, .unset, .unset, .unset, .unset, .unset, .unset] [(.int (0 : Int32))]))
      refine Wp.via (fun _ k => XS.istore X9.here hx rfl (hb hby at_49) rfl (l' := #[.val (.int p0), .val (.int p1), .val (.int p2), .val (.int p3), .val (.int p4), .val (.int (10 : Int32)), .val (.int xv), .val (.ref b1), .val (.int (0 : Int32)), .unset, .unset, .unset, .unset, .unset, .unset]) rfl k) ?_
      show Wp p e below _ (T9.setTop (mkF m 51 #[.val (.int p0), .val (.int p1), .val (.int p2), .val (.int p3), .val (.int p4), .val (.int (10 : Int32)), .val (.int xv), .val (.ref b1), .val (.int (0 : Int32)), .unset, .unset, .unset, .unset, .unset, .unset] []))
      refine Wp.via (fun _ k => XS.iload X9.here hx rfl (hb hby at_51) rfl k) ?_
      show Wp p e below _ (T9.setTop (mkF m 53 #[.val (.int p0), .val (.int p1), .val (.int p2), .val (.int p3), .val (.int p4), .val (.int (10 : Int32)), .val (.int xv), .val (.ref b1), .val (.int (0 : Int32)), .unset, .unset, .unset, .unset, .unset, .unset] [(.int (10 : Int32))]))
      refine Wp.via (fun _ k => XS.bipush X9.here hx rfl (hb hby at_53) k) ?_
      show Wp p e below _ (T9.setTop (mkF m 55 #[.val (.int p0), .val (.int p1), .val (.int p2), .val (.int p3), .val (.int p4), .val (.int (10 : Int32)), .val (.int xv), .val (.ref b1), .val (.int (0 : Int32)), .unset, .unset, .unset, .unset, .unset, .unset] [(.int (10 : Int32)), (.int (10 : Int32))]))
      refine Wp.via (fun _ k => XS.icmpYes X9.here hx rfl (pc0 := 55) (pc' := 65) rfl (hb hby at_55) rfl (teq (by decide)).1 (by decide) (by decide) k) ?_
      show Wp p e below _ (T9.setTop (mkF m 65 #[.val (.int p0), .val (.int p1), .val (.int p2), .val (.int p3), .val (.int p4), .val (.int (10 : Int32)), .val (.int xv), .val (.ref b1), .val (.int (0 : Int32)), .unset, .unset, .unset, .unset, .unset, .unset] []))
      refine Wp.via (fun _ k => XS.iconst X9.here hx rfl (hb hby at_65) k) ?_
      show Wp p e below _ (T9.setTop (mkF m 66 #[.val (.int p0), .val (.int p1), .val (.int p2), .val (.int p3), .val (.int p4), .val (.int (10 : Int32)), .val (.int xv), .val (.ref b1), .val (.int (0 : Int32)), .unset, .unset, .unset, .unset, .unset, .unset] [(.int (2 : Int32))]))
      refine Wp.via (fun _ k => XS.istore X9.here hx rfl (hb hby at_66) rfl (l' := #[.val (.int p0), .val (.int p1), .val (.int p2), .val (.int p3), .val (.int p4), .val (.int (10 : Int32)), .val (.int xv), .val (.ref b1), .val (.int (0 : Int32)), .val (.int (2 : Int32)), .unset, .unset, .unset, .unset, .unset]) rfl k) ?_
      show Wp p e below _ (T9.setTop (mkF m 68 #[.val (.int p0), .val (.int p1), .val (.int p2), .val (.int p3), .val (.int p4), .val (.int (10 : Int32)), .val (.int xv), .val (.ref b1), .val (.int (0 : Int32)), .val (.int (2 : Int32)), .unset, .unset, .unset, .unset, .unset] []))
      refine Wp.via (fun _ k => XS.iconst X9.here hx rfl (hb hby at_68) k) ?_
      show Wp p e below _ (T9.setTop (mkF m 69 #[.val (.int p0), .val (.int p1), .val (.int p2), .val (.int p3), .val (.int p4), .val (.int (10 : Int32)), .val (.int xv), .val (.ref b1), .val (.int (0 : Int32)), .val (.int (2 : Int32)), .unset, .unset, .unset, .unset, .unset] [(.int (1 : Int32))]))
      refine Wp.via (fun _ k => XS.istore X9.here hx rfl (hb hby at_69) rfl (l' := #[.val (.int p0), .val (.int p1), .val (.int p2), .val (.int p3), .val (.int p4), .val (.int (10 : Int32)), .val (.int xv), .val (.ref b1), .val (.int (0 : Int32)), .val (.int (2 : Int32)), .val (.int (1 : Int32)), .unset, .unset, .unset, .unset]) rfl k) ?_
      show Wp p e below _ (T9.setTop (mkF m 71 #[.val (.int p0), .val (.int p1), .val (.int p2), .val (.int p3), .val (.int p4), .val (.int (10 : Int32)), .val (.int xv), .val (.ref b1), .val (.int (0 : Int32)), .val (.int (2 : Int32)), .val (.int (1 : Int32)), .unset, .unset, .unset, .unset] []))
      refine Wp.via (fun _ k => XS.goto X9.here hx rfl (pc0 := 71) (pc' := 84) rfl (hb hby at_71) (by decide) (by decide) k) ?_
      show Wp p e below _ (T9.setTop (mkF m 84 #[.val (.int p0), .val (.int p1), .val (.int p2), .val (.int p3), .val (.int p4), .val (.int (10 : Int32)), .val (.int xv), .val (.ref b1), .val (.int (0 : Int32)), .val (.int (2 : Int32)), .val (.int (1 : Int32)), .unset, .unset, .unset, .unset] []))
      refine Wp.via (fun _ k => XS.aload X9.here hx rfl (hb hby at_84) rfl rfl k) ?_
      show Wp p e below _ (T9.setTop (mkF m 86 #[.val (.int p0), .val (.int p1), .val (.int p2), .val (.int p3), .val (.int p4), .val (.int (10 : Int32)), .val (.int xv), .val (.ref b1), .val (.int (0 : Int32)), .val (.int (2 : Int32)), .val (.int (1 : Int32)), .unset, .unset, .unset, .unset] [(.ref b1)]))
      obtain ⟨cq12, kq12, q12a, q12b, q12c⟩ := isOf hZ rfl c10
      obtain ⟨_, _, ⟨T12, L12, k12, n12⟩, -, X12, ⟨Lc12, hQ12, l12, y12, z12⟩, st12⟩ := X9.virtualBack hx (y := (⟨"com/example/chyld/chyld/LineColumn", "line", "()I"⟩ : MethodName)) (z := (⟨"com/example/chyld/chyld/LineColumn", "line", "()I"⟩ : MethodName)) hown (mvT hZ (hw _ (List.mem_of_getElem? (i := 29) rfl))) (mvT hZ (hw _ (List.mem_of_getElem? (i := 30) rfl))) (notFace_of_selects (args := #[]) (mvT hZ (hw _ (List.mem_of_getElem? (i := 32) rfl)))) (mvT hZ (hw _ (List.mem_of_getElem? (i := 32) rfl))) (mvT hZ (hw _ (List.mem_of_getElem? (i := 31) rfl))) (by decide) (backOf (W := 0) (rm6 l Z aw hw [] b1 (2 : Int32) T9.heap n0 zz11 m3_line) hZ (hw _ (List.mem_of_getElem? (i := 33) rfl)) (hw _ (List.mem_of_getElem? (i := 6) rfl)) (by decide) (by decide)) q12a q12c (g := (mkF m 86 #[.val (.int p0), .val (.int p1), .val (.int p2), .val (.int p3), .val (.int p4), .val (.int (10 : Int32)), .val (.int xv), .val (.ref b1), .val (.int (0 : Int32)), .val (.int (2 : Int32)), .val (.int (1 : Int32)), .unset, .unset, .unset, .unset] [(.ref b1)])) rfl (by rw [hml]; rfl) (Steps.refl _) (argsL := []) (rest := []) (lenOf own_pd3 rfl) rfl (by show 2 * 0 + _ ≤ _; exact Nat.le_of_eq rfl) (hb hby at_86) (fun _ _ => ⟨rfl, rfl, (by decide : 1 + 0 ≤ _), (by decide : 3 + 0 ≤ _)⟩)
      dsimp only [Pt.U, Pt.locs, Pt.cells, Pt.slots] at X12 l12 y12 z12 st12 hQ12
      subst l12 y12 z12
      obtain ⟨rfl, N12, e12⟩ := hQ12
      have NF12 := Fr.app NF9 N12
      refine Wp.step st12 ?_
      show Wp p e below _ (T12.setTop (mkF m 89 #[.val (.int p0), .val (.int p1), .val (.int p2), .val (.int p3), .val (.int p4), .val (.int (10 : Int32)), .val (.int xv), .val (.ref b1), .val (.int (0 : Int32)), .val (.int (2 : Int32)), .val (.int (1 : Int32)), .unset, .unset, .unset, .unset] [(.int (2 : Int32))]))
      refine Wp.via (fun _ k => XS.iload X12.here hx rfl (hb hby at_89) rfl k) ?_
      show Wp p e below _ (T12.setTop (mkF m 91 #[.val (.int p0), .val (.int p1), .val (.int p2), .val (.int p3), .val (.int p4), .val (.int (10 : Int32)), .val (.int xv), .val (.ref b1), .val (.int (0 : Int32)), .val (.int (2 : Int32)), .val (.int (1 : Int32)), .unset, .unset, .unset, .unset] [(.int (2 : Int32)), (.int (2 : Int32))]))
      refine Wp.via (fun _ k => XS.icmpNo X12.here hx rfl (hb hby at_91) rfl (teq (by decide)).2 k) ?_
      show Wp p e below _ (T12.setTop (mkF m 94 #[.val (.int p0), .val (.int p1), .val (.int p2), .val (.int p3), .val (.int p4), .val (.int (10 : Int32)), .val (.int xv), .val (.ref b1), .val (.int (0 : Int32)), .val (.int (2 : Int32)), .val (.int (1 : Int32)), .unset, .unset, .unset, .unset] []))
      refine Wp.via (fun _ k => XS.aload X12.here hx rfl (hb hby at_94) rfl rfl k) ?_
      show Wp p e below _ (T12.setTop (mkF m 96 #[.val (.int p0), .val (.int p1), .val (.int p2), .val (.int p3), .val (.int p4), .val (.int (10 : Int32)), .val (.int xv), .val (.ref b1), .val (.int (0 : Int32)), .val (.int (2 : Int32)), .val (.int (1 : Int32)), .unset, .unset, .unset, .unset] [(.ref b1)]))
      obtain ⟨cq13, kq13, q13a, q13b, q13c⟩ := isOf hZ e12 c10
      obtain ⟨_, _, ⟨T13, L13, k13, n13⟩, -, X13, ⟨Lc13, hQ13, l13, y13, z13⟩, st13⟩ := X12.virtualBack hx (y := (⟨"com/example/chyld/chyld/LineColumn", "column", "()I"⟩ : MethodName)) (z := (⟨"com/example/chyld/chyld/LineColumn", "column", "()I"⟩ : MethodName)) hown (mvT hZ (hw _ (List.mem_of_getElem? (i := 34) rfl))) (mvT hZ (hw _ (List.mem_of_getElem? (i := 35) rfl))) (notFace_of_selects (args := #[]) (mvT hZ (hw _ (List.mem_of_getElem? (i := 37) rfl)))) (mvT hZ (hw _ (List.mem_of_getElem? (i := 37) rfl))) (mvT hZ (hw _ (List.mem_of_getElem? (i := 36) rfl))) (by decide) (backOf (W := 0) (rm7 l Z aw hw [] b1 (1 : Int32) T9.heap n0 zz11 m3_column) hZ (hw _ (List.mem_of_getElem? (i := 38) rfl)) (hw _ (List.mem_of_getElem? (i := 6) rfl)) (by decide) (by decide)) q13a q13c (g := (mkF m 96 #[.val (.int p0), .val (.int p1), .val (.int p2), .val (.int p3), .val (.int p4), .val (.int (10 : Int32)), .val (.int xv), .val (.ref b1), .val (.int (0 : Int32)), .val (.int (2 : Int32)), .val (.int (1 : Int32)), .unset, .unset, .unset, .unset] [(.ref b1)])) rfl (by rw [hml]; rfl) (Steps.refl _) (argsL := []) (rest := []) (lenOf own_pd3 rfl) rfl (by show 2 * 0 + _ ≤ _; exact Nat.le_of_eq rfl) (hb hby at_96) (fun _ _ => ⟨rfl, e12, (by decide : 1 + 0 ≤ _), (by decide : 3 + 0 ≤ _)⟩)
      dsimp only [Pt.U, Pt.locs, Pt.cells, Pt.slots] at X13 l13 y13 z13 st13 hQ13
      subst l13 y13 z13
      obtain ⟨rfl, N13, e13⟩ := hQ13
      have NF13 := Fr.app NF12 N13
      refine Wp.step st13 ?_
      show Wp p e below _ (T13.setTop (mkF m 99 #[.val (.int p0), .val (.int p1), .val (.int p2), .val (.int p3), .val (.int p4), .val (.int (10 : Int32)), .val (.int xv), .val (.ref b1), .val (.int (0 : Int32)), .val (.int (2 : Int32)), .val (.int (1 : Int32)), .unset, .unset, .unset, .unset] [(.int (1 : Int32))]))
      refine Wp.via (fun _ k => XS.iload X13.here hx rfl (hb hby at_99) rfl k) ?_
      show Wp p e below _ (T13.setTop (mkF m 101 #[.val (.int p0), .val (.int p1), .val (.int p2), .val (.int p3), .val (.int p4), .val (.int (10 : Int32)), .val (.int xv), .val (.ref b1), .val (.int (0 : Int32)), .val (.int (2 : Int32)), .val (.int (1 : Int32)), .unset, .unset, .unset, .unset] [(.int (1 : Int32)), (.int (1 : Int32))]))
      refine Wp.via (fun _ k => XS.icmpNo X13.here hx rfl (hb hby at_101) rfl (teq (by decide)).2 k) ?_
      show Wp p e below _ (T13.setTop (mkF m 104 #[.val (.int p0), .val (.int p1), .val (.int p2), .val (.int p3), .val (.int p4), .val (.int (10 : Int32)), .val (.int xv), .val (.ref b1), .val (.int (0 : Int32)), .val (.int (2 : Int32)), .val (.int (1 : Int32)), .unset, .unset, .unset, .unset] []))
      refine Wp.via (fun _ k => XS.iconst X13.here hx rfl (hb hby at_104) k) ?_
      show Wp p e below _ (T13.setTop (mkF m 105 #[.val (.int p0), .val (.int p1), .val (.int p2), .val (.int p3), .val (.int p4), .val (.int (10 : Int32)), .val (.int xv), .val (.ref b1), .val (.int (0 : Int32)), .val (.int (2 : Int32)), .val (.int (1 : Int32)), .unset, .unset, .unset, .unset] [(.int (1 : Int32))]))
      refine Wp.via (fun _ k => XS.goto X13.here hx rfl (pc0 := 105) (pc' := 109) rfl (hb hby at_105) (by decide) (by decide) k) ?_
      show Wp p e below _ (T13.setTop (mkF m 109 #[.val (.int p0), .val (.int p1), .val (.int p2), .val (.int p3), .val (.int p4), .val (.int (10 : Int32)), .val (.int xv), .val (.ref b1), .val (.int (0 : Int32)), .val (.int (2 : Int32)), .val (.int (1 : Int32)), .unset, .unset, .unset, .unset] [(.int (1 : Int32))]))
      refine Wp.via (fun _ k => XS.istore X13.here hx rfl (hb hby at_109) rfl (l' := #[.val (.int p0), .val (.int p1), .val (.int p2), .val (.int p3), .val (.int p4), .val (.int (10 : Int32)), .val (.int xv), .val (.ref b1), .val (.int (0 : Int32)), .val (.int (2 : Int32)), .val (.int (1 : Int32)), .val (.int (1 : Int32)), .unset, .unset, .unset]) rfl k) ?_
      show Wp p e below _ (T13.setTop (mkF m 111 #[.val (.int p0), .val (.int p1), .val (.int p2), .val (.int p3), .val (.int p4), .val (.int (10 : Int32)), .val (.int xv), .val (.ref b1), .val (.int (0 : Int32)), .val (.int (2 : Int32)), .val (.int (1 : Int32)), .val (.int (1 : Int32)), .unset, .unset, .unset] []))
      refine Wp.via (fun _ k => XS.aload X13.here hx rfl (hb hby at_111) rfl rfl k) ?_
      show Wp p e below _ (T13.setTop (mkF m 113 #[.val (.int p0), .val (.int p1), .val (.int p2), .val (.int p3), .val (.int p4), .val (.int (10 : Int32)), .val (.int xv), .val (.ref b1), .val (.int (0 : Int32)), .val (.int (2 : Int32)), .val (.int (1 : Int32)), .val (.int (1 : Int32)), .unset, .unset, .unset] [(.ref b1)]))
      refine Wp.via (fun _ k => XS.iload X13.here hx rfl (hb hby at_113) rfl k) ?_
      show Wp p e below _ (T13.setTop (mkF m 115 #[.val (.int p0), .val (.int p1), .val (.int p2), .val (.int p3), .val (.int p4), .val (.int (10 : Int32)), .val (.int xv), .val (.ref b1), .val (.int (0 : Int32)), .val (.int (2 : Int32)), .val (.int (1 : Int32)), .val (.int (1 : Int32)), .unset, .unset, .unset] [(.int xv), (.ref b1)]))
      by_cases d1 : xv = (10 : Int32)
      ·
        subst d1
        show Wp p e below _ (T13.setTop (mkF m 115 #[.val (.int p0), .val (.int p1), .val (.int p2), .val (.int p3), .val (.int p4), .val (.int (10 : Int32)), .val (.int (10 : Int32)), .val (.ref b1), .val (.int (0 : Int32)), .val (.int (2 : Int32)), .val (.int (1 : Int32)), .val (.int (1 : Int32)), .unset, .unset, .unset] [(.int (10 : Int32)), (.ref b1)]))
        obtain ⟨cq14, kq14, q14a, q14b, q14c⟩ := isOf hZ e13 c10
        obtain ⟨_, _, ⟨T14, L14, k14, n14⟩, -, X14, ⟨Lc14, hQ14, l14, y14, z14⟩, st14⟩ := X13.virtualBack hx (y := (⟨"com/example/chyld/chyld/LineColumn", "character", "(I)V"⟩ : MethodName)) (z := (⟨"com/example/chyld/chyld/LineColumn", "character", "(I)V"⟩ : MethodName)) hown (mvT hZ (hw _ (List.mem_of_getElem? (i := 24) rfl))) (mvT hZ (hw _ (List.mem_of_getElem? (i := 25) rfl))) (notFace_of_selects (args := #[]) (mvT hZ (hw _ (List.mem_of_getElem? (i := 27) rfl)))) (mvT hZ (hw _ (List.mem_of_getElem? (i := 27) rfl))) (mvT hZ (hw _ (List.mem_of_getElem? (i := 26) rfl))) (by decide) (backOf (W := 0) (rm5 l Z aw hw [] b1 (10 : Int32) (2 : Int32) (1 : Int32) (0 : Int32) ((2 : Int32) + (1 : Int32)) (1 : Int32) (0 : Int32) T9.heap n0 zz11 c10 gn_b1 m3_line m3_column m3_afterCarriageReturn (by simp [own_l]) (by simp [own_k]) (by simp [own_r])) hZ (hw _ (List.mem_of_getElem? (i := 28) rfl)) (hw _ (List.mem_of_getElem? (i := 6) rfl)) (by decide) (by decide)) q14a q14c (g := (mkF m 115 #[.val (.int p0), .val (.int p1), .val (.int p2), .val (.int p3), .val (.int p4), .val (.int (10 : Int32)), .val (.int (10 : Int32)), .val (.ref b1), .val (.int (0 : Int32)), .val (.int (2 : Int32)), .val (.int (1 : Int32)), .val (.int (1 : Int32)), .unset, .unset, .unset] [(.int (10 : Int32)), (.ref b1)])) rfl (by rw [hml]; rfl) (Steps.refl _) (argsL := [(.int (10 : Int32))]) (rest := []) (lenOf own_pd2 rfl) rfl (by show 2 * 0 + _ ≤ _; exact Nat.le_of_eq rfl) (hb hby at_115) (fun _ _ => ⟨rfl, e13, (by decide : 1 + 0 ≤ _), (by decide : 3 + 0 ≤ _)⟩)
        dsimp only [Pt.U, Pt.locs, Pt.cells, Pt.slots] at X14 l14 y14 z14 st14 hQ14
        subst l14 y14 z14
        obtain ⟨rfl, N14, Kc14, Ec14, m4_line, m4_column, m4_afterCarriageReturn⟩ := hQ14
        have NF14 := Fr.app NF13 N14
        refine Wp.step st14 ?_
        have c15 := c10.keep Kc14
        have K14' := K9'.trans Kc14 (allS (Or.inr sz_b1) all0)
        have zz16 : n0 ≤ T14.heap.size := Nat.le_trans zz11 Kc14.1
        show Wp p e below _ (T14.setTop (mkF m 118 #[.val (.int p0), .val (.int p1), .val (.int p2), .val (.int p3), .val (.int p4), .val (.int (10 : Int32)), .val (.int (10 : Int32)), .val (.ref b1), .val (.int (0 : Int32)), .val (.int (2 : Int32)), .val (.int (1 : Int32)), .val (.int (1 : Int32)), .unset, .unset, .unset] []))
        refine Wp.via (fun _ k => XS.iload X14.here hx rfl (hb hby at_118) rfl k) ?_
        show Wp p e below _ (T14.setTop (mkF m 120 #[.val (.int p0), .val (.int p1), .val (.int p2), .val (.int p3), .val (.int p4), .val (.int (10 : Int32)), .val (.int (10 : Int32)), .val (.ref b1), .val (.int (0 : Int32)), .val (.int (2 : Int32)), .val (.int (1 : Int32)), .val (.int (1 : Int32)), .unset, .unset, .unset] [(.int (10 : Int32))]))
        refine Wp.via (fun _ k => XS.bipush X14.here hx rfl (hb hby at_120) k) ?_
        show Wp p e below _ (T14.setTop (mkF m 122 #[.val (.int p0), .val (.int p1), .val (.int p2), .val (.int p3), .val (.int p4), .val (.int (10 : Int32)), .val (.int (10 : Int32)), .val (.ref b1), .val (.int (0 : Int32)), .val (.int (2 : Int32)), .val (.int (1 : Int32)), .val (.int (1 : Int32)), .unset, .unset, .unset] [(.int (10 : Int32)), (.int (10 : Int32))]))
        refine Wp.via (fun _ k => XS.icmpNo X14.here hx rfl (hb hby at_122) rfl (teq (by decide)).2 k) ?_
        show Wp p e below _ (T14.setTop (mkF m 125 #[.val (.int p0), .val (.int p1), .val (.int p2), .val (.int p3), .val (.int p4), .val (.int (10 : Int32)), .val (.int (10 : Int32)), .val (.ref b1), .val (.int (0 : Int32)), .val (.int (2 : Int32)), .val (.int (1 : Int32)), .val (.int (1 : Int32)), .unset, .unset, .unset] []))
        refine Wp.via (fun _ k => XS.iload X14.here hx rfl (hb hby at_125) rfl k) ?_
        show Wp p e below _ (T14.setTop (mkF m 127 #[.val (.int p0), .val (.int p1), .val (.int p2), .val (.int p3), .val (.int p4), .val (.int (10 : Int32)), .val (.int (10 : Int32)), .val (.ref b1), .val (.int (0 : Int32)), .val (.int (2 : Int32)), .val (.int (1 : Int32)), .val (.int (1 : Int32)), .unset, .unset, .unset] [(.int (0 : Int32))]))
        refine Wp.via (fun _ k => XS.ifYes X14.here hx rfl (pc0 := 127) (pc' := 135) rfl (hb hby at_127) rfl ((if0 _ _).trans (teq (by decide)).1) (by decide) (by decide) k) ?_
        show Wp p e below _ (T14.setTop (mkF m 135 #[.val (.int p0), .val (.int p1), .val (.int p2), .val (.int p3), .val (.int p4), .val (.int (10 : Int32)), .val (.int (10 : Int32)), .val (.ref b1), .val (.int (0 : Int32)), .val (.int (2 : Int32)), .val (.int (1 : Int32)), .val (.int (1 : Int32)), .unset, .unset, .unset] []))
        refine Wp.via (fun _ k => XS.iload X14.here hx rfl (hb hby at_135) rfl k) ?_
        show Wp p e below _ (T14.setTop (mkF m 137 #[.val (.int p0), .val (.int p1), .val (.int p2), .val (.int p3), .val (.int p4), .val (.int (10 : Int32)), .val (.int (10 : Int32)), .val (.ref b1), .val (.int (0 : Int32)), .val (.int (2 : Int32)), .val (.int (1 : Int32)), .val (.int (1 : Int32)), .unset, .unset, .unset] [(.int (2 : Int32))]))
        refine Wp.via (fun _ k => XS.iconst X14.here hx rfl (hb hby at_137) k) ?_
        show Wp p e below _ (T14.setTop (mkF m 138 #[.val (.int p0), .val (.int p1), .val (.int p2), .val (.int p3), .val (.int p4), .val (.int (10 : Int32)), .val (.int (10 : Int32)), .val (.ref b1), .val (.int (0 : Int32)), .val (.int (2 : Int32)), .val (.int (1 : Int32)), .val (.int (1 : Int32)), .unset, .unset, .unset] [(.int (1 : Int32)), (.int (2 : Int32))]))
        refine Wp.via (fun _ k => XS.iadd X14.here hx rfl (hb hby at_138) rfl k) ?_
        show Wp p e below _ (T14.setTop (mkF m 139 #[.val (.int p0), .val (.int p1), .val (.int p2), .val (.int p3), .val (.int p4), .val (.int (10 : Int32)), .val (.int (10 : Int32)), .val (.ref b1), .val (.int (0 : Int32)), .val (.int (2 : Int32)), .val (.int (1 : Int32)), .val (.int (1 : Int32)), .unset, .unset, .unset] [(.int ((2 : Int32) + (1 : Int32)))]))
        refine Wp.via (fun _ k => XS.istore X14.here hx rfl (hb hby at_139) rfl (l' := #[.val (.int p0), .val (.int p1), .val (.int p2), .val (.int p3), .val (.int p4), .val (.int (10 : Int32)), .val (.int (10 : Int32)), .val (.ref b1), .val (.int (0 : Int32)), .val (.int (2 : Int32)), .val (.int (1 : Int32)), .val (.int (1 : Int32)), .val (.int ((2 : Int32) + (1 : Int32))), .unset, .unset]) rfl k) ?_
        show Wp p e below _ (T14.setTop (mkF m 141 #[.val (.int p0), .val (.int p1), .val (.int p2), .val (.int p3), .val (.int p4), .val (.int (10 : Int32)), .val (.int (10 : Int32)), .val (.ref b1), .val (.int (0 : Int32)), .val (.int (2 : Int32)), .val (.int (1 : Int32)), .val (.int (1 : Int32)), .val (.int ((2 : Int32) + (1 : Int32))), .unset, .unset] []))
        refine Wp.via (fun _ k => XS.iconst X14.here hx rfl (hb hby at_141) k) ?_
        show Wp p e below _ (T14.setTop (mkF m 142 #[.val (.int p0), .val (.int p1), .val (.int p2), .val (.int p3), .val (.int p4), .val (.int (10 : Int32)), .val (.int (10 : Int32)), .val (.ref b1), .val (.int (0 : Int32)), .val (.int (2 : Int32)), .val (.int (1 : Int32)), .val (.int (1 : Int32)), .val (.int ((2 : Int32) + (1 : Int32))), .unset, .unset] [(.int (1 : Int32))]))
        refine Wp.via (fun _ k => XS.istore X14.here hx rfl (hb hby at_142) rfl (l' := #[.val (.int p0), .val (.int p1), .val (.int p2), .val (.int p3), .val (.int p4), .val (.int (10 : Int32)), .val (.int (10 : Int32)), .val (.ref b1), .val (.int (0 : Int32)), .val (.int (2 : Int32)), .val (.int (1 : Int32)), .val (.int (1 : Int32)), .val (.int ((2 : Int32) + (1 : Int32))), .val (.int (1 : Int32)), .unset]) rfl k) ?_
        show Wp p e below _ (T14.setTop (mkF m 144 #[.val (.int p0), .val (.int p1), .val (.int p2), .val (.int p3), .val (.int p4), .val (.int (10 : Int32)), .val (.int (10 : Int32)), .val (.ref b1), .val (.int (0 : Int32)), .val (.int (2 : Int32)), .val (.int (1 : Int32)), .val (.int (1 : Int32)), .val (.int ((2 : Int32) + (1 : Int32))), .val (.int (1 : Int32)), .unset] []))
        refine Wp.via (fun _ k => XS.goto X14.here hx rfl (pc0 := 144) (pc' := 176) rfl (hb hby at_144) (by decide) (by decide) k) ?_
        show Wp p e below _ (T14.setTop (mkF m 176 #[.val (.int p0), .val (.int p1), .val (.int p2), .val (.int p3), .val (.int p4), .val (.int (10 : Int32)), .val (.int (10 : Int32)), .val (.ref b1), .val (.int (0 : Int32)), .val (.int (2 : Int32)), .val (.int (1 : Int32)), .val (.int (1 : Int32)), .val (.int ((2 : Int32) + (1 : Int32))), .val (.int (1 : Int32)), .unset] []))
        refine Wp.via (fun _ k => XS.iload X14.here hx rfl (hb hby at_176) rfl k) ?_
        show Wp p e below _ (T14.setTop (mkF m 178 #[.val (.int p0), .val (.int p1), .val (.int p2), .val (.int p3), .val (.int p4), .val (.int (10 : Int32)), .val (.int (10 : Int32)), .val (.ref b1), .val (.int (0 : Int32)), .val (.int (2 : Int32)), .val (.int (1 : Int32)), .val (.int (1 : Int32)), .val (.int ((2 : Int32) + (1 : Int32))), .val (.int (1 : Int32)), .unset] [(.int (1 : Int32))]))
        refine Wp.via (fun _ k => XS.ifNo X14.here hx rfl (hb hby at_178) rfl ((if0 _ _).trans (feq (by decide)).1) k) ?_
        show Wp p e below _ (T14.setTop (mkF m 181 #[.val (.int p0), .val (.int p1), .val (.int p2), .val (.int p3), .val (.int p4), .val (.int (10 : Int32)), .val (.int (10 : Int32)), .val (.ref b1), .val (.int (0 : Int32)), .val (.int (2 : Int32)), .val (.int (1 : Int32)), .val (.int (1 : Int32)), .val (.int ((2 : Int32) + (1 : Int32))), .val (.int (1 : Int32)), .unset] []))
        refine Wp.via (fun _ k => XS.aload X14.here hx rfl (hb hby at_181) rfl rfl k) ?_
        show Wp p e below _ (T14.setTop (mkF m 183 #[.val (.int p0), .val (.int p1), .val (.int p2), .val (.int p3), .val (.int p4), .val (.int (10 : Int32)), .val (.int (10 : Int32)), .val (.ref b1), .val (.int (0 : Int32)), .val (.int (2 : Int32)), .val (.int (1 : Int32)), .val (.int (1 : Int32)), .val (.int ((2 : Int32) + (1 : Int32))), .val (.int (1 : Int32)), .unset] [(.ref b1)]))
        obtain ⟨cq17, kq17, q17a, q17b, q17c⟩ := isOf hZ rfl c15
        obtain ⟨_, _, ⟨T17, L17, k17, n17⟩, -, X17, ⟨Lc17, hQ17, l17, y17, z17⟩, st17⟩ := X14.virtualBack hx (y := (⟨"com/example/chyld/chyld/LineColumn", "line", "()I"⟩ : MethodName)) (z := (⟨"com/example/chyld/chyld/LineColumn", "line", "()I"⟩ : MethodName)) hown (mvT hZ (hw _ (List.mem_of_getElem? (i := 29) rfl))) (mvT hZ (hw _ (List.mem_of_getElem? (i := 30) rfl))) (notFace_of_selects (args := #[]) (mvT hZ (hw _ (List.mem_of_getElem? (i := 32) rfl)))) (mvT hZ (hw _ (List.mem_of_getElem? (i := 32) rfl))) (mvT hZ (hw _ (List.mem_of_getElem? (i := 31) rfl))) (by decide) (backOf (W := 0) (rm6 l Z aw hw [] b1 ((2 : Int32) + (1 : Int32)) T14.heap n0 zz16 m4_line) hZ (hw _ (List.mem_of_getElem? (i := 33) rfl)) (hw _ (List.mem_of_getElem? (i := 6) rfl)) (by decide) (by decide)) q17a q17c (g := (mkF m 183 #[.val (.int p0), .val (.int p1), .val (.int p2), .val (.int p3), .val (.int p4), .val (.int (10 : Int32)), .val (.int (10 : Int32)), .val (.ref b1), .val (.int (0 : Int32)), .val (.int (2 : Int32)), .val (.int (1 : Int32)), .val (.int (1 : Int32)), .val (.int ((2 : Int32) + (1 : Int32))), .val (.int (1 : Int32)), .unset] [(.ref b1)])) rfl (by rw [hml]; rfl) (Steps.refl _) (argsL := []) (rest := []) (lenOf own_pd3 rfl) rfl (by show 2 * 0 + _ ≤ _; exact Nat.le_of_eq rfl) (hb hby at_183) (fun _ _ => ⟨rfl, rfl, (by decide : 1 + 0 ≤ _), (by decide : 3 + 0 ≤ _)⟩)
        dsimp only [Pt.U, Pt.locs, Pt.cells, Pt.slots] at X17 l17 y17 z17 st17 hQ17
        subst l17 y17 z17
        obtain ⟨rfl, N17, e17⟩ := hQ17
        have NF17 := Fr.app NF14 N17
        refine Wp.step st17 ?_
        show Wp p e below _ (T17.setTop (mkF m 186 #[.val (.int p0), .val (.int p1), .val (.int p2), .val (.int p3), .val (.int p4), .val (.int (10 : Int32)), .val (.int (10 : Int32)), .val (.ref b1), .val (.int (0 : Int32)), .val (.int (2 : Int32)), .val (.int (1 : Int32)), .val (.int (1 : Int32)), .val (.int ((2 : Int32) + (1 : Int32))), .val (.int (1 : Int32)), .unset] [(.int ((2 : Int32) + (1 : Int32)))]))
        refine Wp.via (fun _ k => XS.iload X17.here hx rfl (hb hby at_186) rfl k) ?_
        show Wp p e below _ (T17.setTop (mkF m 188 #[.val (.int p0), .val (.int p1), .val (.int p2), .val (.int p3), .val (.int p4), .val (.int (10 : Int32)), .val (.int (10 : Int32)), .val (.ref b1), .val (.int (0 : Int32)), .val (.int (2 : Int32)), .val (.int (1 : Int32)), .val (.int (1 : Int32)), .val (.int ((2 : Int32) + (1 : Int32))), .val (.int (1 : Int32)), .unset] [(.int ((2 : Int32) + (1 : Int32))), (.int ((2 : Int32) + (1 : Int32)))]))
        refine Wp.via (fun _ k => XS.icmpNo X17.here hx rfl (hb hby at_188) rfl (teq rfl).2 k) ?_
        show Wp p e below _ (T17.setTop (mkF m 191 #[.val (.int p0), .val (.int p1), .val (.int p2), .val (.int p3), .val (.int p4), .val (.int (10 : Int32)), .val (.int (10 : Int32)), .val (.ref b1), .val (.int (0 : Int32)), .val (.int (2 : Int32)), .val (.int (1 : Int32)), .val (.int (1 : Int32)), .val (.int ((2 : Int32) + (1 : Int32))), .val (.int (1 : Int32)), .unset] []))
        refine Wp.via (fun _ k => XS.aload X17.here hx rfl (hb hby at_191) rfl rfl k) ?_
        show Wp p e below _ (T17.setTop (mkF m 193 #[.val (.int p0), .val (.int p1), .val (.int p2), .val (.int p3), .val (.int p4), .val (.int (10 : Int32)), .val (.int (10 : Int32)), .val (.ref b1), .val (.int (0 : Int32)), .val (.int (2 : Int32)), .val (.int (1 : Int32)), .val (.int (1 : Int32)), .val (.int ((2 : Int32) + (1 : Int32))), .val (.int (1 : Int32)), .unset] [(.ref b1)]))
        obtain ⟨cq18, kq18, q18a, q18b, q18c⟩ := isOf hZ e17 c15
        obtain ⟨_, _, ⟨T18, L18, k18, n18⟩, -, X18, ⟨Lc18, hQ18, l18, y18, z18⟩, st18⟩ := X17.virtualBack hx (y := (⟨"com/example/chyld/chyld/LineColumn", "column", "()I"⟩ : MethodName)) (z := (⟨"com/example/chyld/chyld/LineColumn", "column", "()I"⟩ : MethodName)) hown (mvT hZ (hw _ (List.mem_of_getElem? (i := 34) rfl))) (mvT hZ (hw _ (List.mem_of_getElem? (i := 35) rfl))) (notFace_of_selects (args := #[]) (mvT hZ (hw _ (List.mem_of_getElem? (i := 37) rfl)))) (mvT hZ (hw _ (List.mem_of_getElem? (i := 37) rfl))) (mvT hZ (hw _ (List.mem_of_getElem? (i := 36) rfl))) (by decide) (backOf (W := 0) (rm7 l Z aw hw [] b1 (1 : Int32) T14.heap n0 zz16 m4_column) hZ (hw _ (List.mem_of_getElem? (i := 38) rfl)) (hw _ (List.mem_of_getElem? (i := 6) rfl)) (by decide) (by decide)) q18a q18c (g := (mkF m 193 #[.val (.int p0), .val (.int p1), .val (.int p2), .val (.int p3), .val (.int p4), .val (.int (10 : Int32)), .val (.int (10 : Int32)), .val (.ref b1), .val (.int (0 : Int32)), .val (.int (2 : Int32)), .val (.int (1 : Int32)), .val (.int (1 : Int32)), .val (.int ((2 : Int32) + (1 : Int32))), .val (.int (1 : Int32)), .unset] [(.ref b1)])) rfl (by rw [hml]; rfl) (Steps.refl _) (argsL := []) (rest := []) (lenOf own_pd3 rfl) rfl (by show 2 * 0 + _ ≤ _; exact Nat.le_of_eq rfl) (hb hby at_193) (fun _ _ => ⟨rfl, e17, (by decide : 1 + 0 ≤ _), (by decide : 3 + 0 ≤ _)⟩)
        dsimp only [Pt.U, Pt.locs, Pt.cells, Pt.slots] at X18 l18 y18 z18 st18 hQ18
        subst l18 y18 z18
        obtain ⟨rfl, N18, e18⟩ := hQ18
        have NF18 := Fr.app NF17 N18
        refine Wp.step st18 ?_
        show Wp p e below _ (T18.setTop (mkF m 196 #[.val (.int p0), .val (.int p1), .val (.int p2), .val (.int p3), .val (.int p4), .val (.int (10 : Int32)), .val (.int (10 : Int32)), .val (.ref b1), .val (.int (0 : Int32)), .val (.int (2 : Int32)), .val (.int (1 : Int32)), .val (.int (1 : Int32)), .val (.int ((2 : Int32) + (1 : Int32))), .val (.int (1 : Int32)), .unset] [(.int (1 : Int32))]))
        refine Wp.via (fun _ k => XS.iload X18.here hx rfl (hb hby at_196) rfl k) ?_
        show Wp p e below _ (T18.setTop (mkF m 198 #[.val (.int p0), .val (.int p1), .val (.int p2), .val (.int p3), .val (.int p4), .val (.int (10 : Int32)), .val (.int (10 : Int32)), .val (.ref b1), .val (.int (0 : Int32)), .val (.int (2 : Int32)), .val (.int (1 : Int32)), .val (.int (1 : Int32)), .val (.int ((2 : Int32) + (1 : Int32))), .val (.int (1 : Int32)), .unset] [(.int (1 : Int32)), (.int (1 : Int32))]))
        refine Wp.via (fun _ k => XS.icmpNo X18.here hx rfl (hb hby at_198) rfl (teq (by decide)).2 k) ?_
        show Wp p e below _ (T18.setTop (mkF m 201 #[.val (.int p0), .val (.int p1), .val (.int p2), .val (.int p3), .val (.int p4), .val (.int (10 : Int32)), .val (.int (10 : Int32)), .val (.ref b1), .val (.int (0 : Int32)), .val (.int (2 : Int32)), .val (.int (1 : Int32)), .val (.int (1 : Int32)), .val (.int ((2 : Int32) + (1 : Int32))), .val (.int (1 : Int32)), .unset] []))
        refine Wp.via (fun _ k => XS.iconst X18.here hx rfl (hb hby at_201) k) ?_
        show Wp p e below _ (T18.setTop (mkF m 202 #[.val (.int p0), .val (.int p1), .val (.int p2), .val (.int p3), .val (.int p4), .val (.int (10 : Int32)), .val (.int (10 : Int32)), .val (.ref b1), .val (.int (0 : Int32)), .val (.int (2 : Int32)), .val (.int (1 : Int32)), .val (.int (1 : Int32)), .val (.int ((2 : Int32) + (1 : Int32))), .val (.int (1 : Int32)), .unset] [(.int (1 : Int32))]))
        refine Wp.via (fun _ k => XS.goto X18.here hx rfl (pc0 := 202) (pc' := 206) rfl (hb hby at_202) (by decide) (by decide) k) ?_
        show Wp p e below _ (T18.setTop (mkF m 206 #[.val (.int p0), .val (.int p1), .val (.int p2), .val (.int p3), .val (.int p4), .val (.int (10 : Int32)), .val (.int (10 : Int32)), .val (.ref b1), .val (.int (0 : Int32)), .val (.int (2 : Int32)), .val (.int (1 : Int32)), .val (.int (1 : Int32)), .val (.int ((2 : Int32) + (1 : Int32))), .val (.int (1 : Int32)), .unset] [(.int (1 : Int32))]))
        refine Wp.via (fun _ k => XS.istore X18.here hx rfl (hb hby at_206) rfl (l' := #[.val (.int p0), .val (.int p1), .val (.int p2), .val (.int p3), .val (.int p4), .val (.int (10 : Int32)), .val (.int (10 : Int32)), .val (.ref b1), .val (.int (0 : Int32)), .val (.int (2 : Int32)), .val (.int (1 : Int32)), .val (.int (1 : Int32)), .val (.int ((2 : Int32) + (1 : Int32))), .val (.int (1 : Int32)), .unset]) rfl k) ?_
        show Wp p e below _ (T18.setTop (mkF m 208 #[.val (.int p0), .val (.int p1), .val (.int p2), .val (.int p3), .val (.int p4), .val (.int (10 : Int32)), .val (.int (10 : Int32)), .val (.ref b1), .val (.int (0 : Int32)), .val (.int (2 : Int32)), .val (.int (1 : Int32)), .val (.int (1 : Int32)), .val (.int ((2 : Int32) + (1 : Int32))), .val (.int (1 : Int32)), .unset] []))
        refine Wp.via (fun _ k => XS.aload X18.here hx rfl (hb hby at_208) rfl rfl k) ?_
        show Wp p e below _ (T18.setTop (mkF m 210 #[.val (.int p0), .val (.int p1), .val (.int p2), .val (.int p3), .val (.int p4), .val (.int (10 : Int32)), .val (.int (10 : Int32)), .val (.ref b1), .val (.int (0 : Int32)), .val (.int (2 : Int32)), .val (.int (1 : Int32)), .val (.int (1 : Int32)), .val (.int ((2 : Int32) + (1 : Int32))), .val (.int (1 : Int32)), .unset] [(.ref b1)]))
        refine Wp.via (fun _ k => XS.bipush X18.here hx rfl (hb hby at_210) k) ?_
        show Wp p e below _ (T18.setTop (mkF m 212 #[.val (.int p0), .val (.int p1), .val (.int p2), .val (.int p3), .val (.int p4), .val (.int (10 : Int32)), .val (.int (10 : Int32)), .val (.ref b1), .val (.int (0 : Int32)), .val (.int (2 : Int32)), .val (.int (1 : Int32)), .val (.int (1 : Int32)), .val (.int ((2 : Int32) + (1 : Int32))), .val (.int (1 : Int32)), .unset] [(.int (10 : Int32)), (.ref b1)]))
        obtain ⟨cq19, kq19, q19a, q19b, q19c⟩ := isOf hZ e18 c15
        obtain ⟨_, _, ⟨T19, L19, k19, n19⟩, -, X19, ⟨Lc19, hQ19, l19, y19, z19⟩, st19⟩ := X18.virtualBack hx (y := (⟨"com/example/chyld/chyld/LineColumn", "character", "(I)V"⟩ : MethodName)) (z := (⟨"com/example/chyld/chyld/LineColumn", "character", "(I)V"⟩ : MethodName)) hown (mvT hZ (hw _ (List.mem_of_getElem? (i := 24) rfl))) (mvT hZ (hw _ (List.mem_of_getElem? (i := 25) rfl))) (notFace_of_selects (args := #[]) (mvT hZ (hw _ (List.mem_of_getElem? (i := 27) rfl)))) (mvT hZ (hw _ (List.mem_of_getElem? (i := 27) rfl))) (mvT hZ (hw _ (List.mem_of_getElem? (i := 26) rfl))) (by decide) (backOf (W := 0) (rm5 l Z aw hw [] b1 (10 : Int32) ((2 : Int32) + (1 : Int32)) (1 : Int32) (0 : Int32) (((2 : Int32) + (1 : Int32)) + (1 : Int32)) (1 : Int32) (0 : Int32) T14.heap n0 zz16 c15 gn_b1 m4_line m4_column m4_afterCarriageReturn (by simp [own_l]) (by simp [own_k]) (by simp [own_r])) hZ (hw _ (List.mem_of_getElem? (i := 28) rfl)) (hw _ (List.mem_of_getElem? (i := 6) rfl)) (by decide) (by decide)) q19a q19c (g := (mkF m 212 #[.val (.int p0), .val (.int p1), .val (.int p2), .val (.int p3), .val (.int p4), .val (.int (10 : Int32)), .val (.int (10 : Int32)), .val (.ref b1), .val (.int (0 : Int32)), .val (.int (2 : Int32)), .val (.int (1 : Int32)), .val (.int (1 : Int32)), .val (.int ((2 : Int32) + (1 : Int32))), .val (.int (1 : Int32)), .unset] [(.int (10 : Int32)), (.ref b1)])) rfl (by rw [hml]; rfl) (Steps.refl _) (argsL := [(.int (10 : Int32))]) (rest := []) (lenOf own_pd2 rfl) rfl (by show 2 * 0 + _ ≤ _; exact Nat.le_of_eq rfl) (hb hby at_212) (fun _ _ => ⟨rfl, e18, (by decide : 1 + 0 ≤ _), (by decide : 3 + 0 ≤ _)⟩)
        dsimp only [Pt.U, Pt.locs, Pt.cells, Pt.slots] at X19 l19 y19 z19 st19 hQ19
        subst l19 y19 z19
        obtain ⟨rfl, N19, Kc19, Ec19, m5_line, m5_column, m5_afterCarriageReturn⟩ := hQ19
        have NF19 := Fr.app NF18 N19
        refine Wp.step st19 ?_
        have c20 := c15.keep Kc19
        have K19' := K14'.trans Kc19 (allS (Or.inr sz_b1) all0)
        have zz21 : n0 ≤ T19.heap.size := Nat.le_trans zz16 Kc19.1
        show Wp p e below _ (T19.setTop (mkF m 215 #[.val (.int p0), .val (.int p1), .val (.int p2), .val (.int p3), .val (.int p4), .val (.int (10 : Int32)), .val (.int (10 : Int32)), .val (.ref b1), .val (.int (0 : Int32)), .val (.int (2 : Int32)), .val (.int (1 : Int32)), .val (.int (1 : Int32)), .val (.int ((2 : Int32) + (1 : Int32))), .val (.int (1 : Int32)), .unset] []))
        refine Wp.via (fun _ k => XS.iload X19.here hx rfl (hb hby at_215) rfl k) ?_
        show Wp p e below _ (T19.setTop (mkF m 217 #[.val (.int p0), .val (.int p1), .val (.int p2), .val (.int p3), .val (.int p4), .val (.int (10 : Int32)), .val (.int (10 : Int32)), .val (.ref b1), .val (.int (0 : Int32)), .val (.int (2 : Int32)), .val (.int (1 : Int32)), .val (.int (1 : Int32)), .val (.int ((2 : Int32) + (1 : Int32))), .val (.int (1 : Int32)), .unset] [(.int (10 : Int32))]))
        refine Wp.via (fun _ k => XS.bipush X19.here hx rfl (hb hby at_217) k) ?_
        show Wp p e below _ (T19.setTop (mkF m 219 #[.val (.int p0), .val (.int p1), .val (.int p2), .val (.int p3), .val (.int p4), .val (.int (10 : Int32)), .val (.int (10 : Int32)), .val (.ref b1), .val (.int (0 : Int32)), .val (.int (2 : Int32)), .val (.int (1 : Int32)), .val (.int (1 : Int32)), .val (.int ((2 : Int32) + (1 : Int32))), .val (.int (1 : Int32)), .unset] [(.int (13 : Int32)), (.int (10 : Int32))]))
        refine Wp.via (fun _ k => XS.icmpYes X19.here hx rfl (pc0 := 219) (pc' := 227) rfl (hb hby at_219) rfl (feq (by decide)).2 (by decide) (by decide) k) ?_
        show Wp p e below _ (T19.setTop (mkF m 227 #[.val (.int p0), .val (.int p1), .val (.int p2), .val (.int p3), .val (.int p4), .val (.int (10 : Int32)), .val (.int (10 : Int32)), .val (.ref b1), .val (.int (0 : Int32)), .val (.int (2 : Int32)), .val (.int (1 : Int32)), .val (.int (1 : Int32)), .val (.int ((2 : Int32) + (1 : Int32))), .val (.int (1 : Int32)), .unset] []))
        refine Wp.via (fun _ k => XS.iload X19.here hx rfl (hb hby at_227) rfl k) ?_
        show Wp p e below _ (T19.setTop (mkF m 229 #[.val (.int p0), .val (.int p1), .val (.int p2), .val (.int p3), .val (.int p4), .val (.int (10 : Int32)), .val (.int (10 : Int32)), .val (.ref b1), .val (.int (0 : Int32)), .val (.int (2 : Int32)), .val (.int (1 : Int32)), .val (.int (1 : Int32)), .val (.int ((2 : Int32) + (1 : Int32))), .val (.int (1 : Int32)), .unset] [(.int ((2 : Int32) + (1 : Int32)))]))
        refine Wp.via (fun _ k => XS.iconst X19.here hx rfl (hb hby at_229) k) ?_
        show Wp p e below _ (T19.setTop (mkF m 230 #[.val (.int p0), .val (.int p1), .val (.int p2), .val (.int p3), .val (.int p4), .val (.int (10 : Int32)), .val (.int (10 : Int32)), .val (.ref b1), .val (.int (0 : Int32)), .val (.int (2 : Int32)), .val (.int (1 : Int32)), .val (.int (1 : Int32)), .val (.int ((2 : Int32) + (1 : Int32))), .val (.int (1 : Int32)), .unset] [(.int (1 : Int32)), (.int ((2 : Int32) + (1 : Int32)))]))
        refine Wp.via (fun _ k => XS.iadd X19.here hx rfl (hb hby at_230) rfl k) ?_
        show Wp p e below _ (T19.setTop (mkF m 231 #[.val (.int p0), .val (.int p1), .val (.int p2), .val (.int p3), .val (.int p4), .val (.int (10 : Int32)), .val (.int (10 : Int32)), .val (.ref b1), .val (.int (0 : Int32)), .val (.int (2 : Int32)), .val (.int (1 : Int32)), .val (.int (1 : Int32)), .val (.int ((2 : Int32) + (1 : Int32))), .val (.int (1 : Int32)), .unset] [(.int (((2 : Int32) + (1 : Int32)) + (1 : Int32)))]))
        refine Wp.via (fun _ k => XS.istore X19.here hx rfl (hb hby at_231) rfl (l' := #[.val (.int p0), .val (.int p1), .val (.int p2), .val (.int p3), .val (.int p4), .val (.int (10 : Int32)), .val (.int (10 : Int32)), .val (.ref b1), .val (.int (0 : Int32)), .val (.int (2 : Int32)), .val (.int (1 : Int32)), .val (.int (1 : Int32)), .val (.int ((2 : Int32) + (1 : Int32))), .val (.int (1 : Int32)), .val (.int (((2 : Int32) + (1 : Int32)) + (1 : Int32)))]) rfl k) ?_
        show Wp p e below _ (T19.setTop (mkF m 233 #[.val (.int p0), .val (.int p1), .val (.int p2), .val (.int p3), .val (.int p4), .val (.int (10 : Int32)), .val (.int (10 : Int32)), .val (.ref b1), .val (.int (0 : Int32)), .val (.int (2 : Int32)), .val (.int (1 : Int32)), .val (.int (1 : Int32)), .val (.int ((2 : Int32) + (1 : Int32))), .val (.int (1 : Int32)), .val (.int (((2 : Int32) + (1 : Int32)) + (1 : Int32)))] []))
        refine Wp.via (fun _ k => XS.iload X19.here hx rfl (hb hby at_233) rfl k) ?_
        show Wp p e below _ (T19.setTop (mkF m 235 #[.val (.int p0), .val (.int p1), .val (.int p2), .val (.int p3), .val (.int p4), .val (.int (10 : Int32)), .val (.int (10 : Int32)), .val (.ref b1), .val (.int (0 : Int32)), .val (.int (2 : Int32)), .val (.int (1 : Int32)), .val (.int (1 : Int32)), .val (.int ((2 : Int32) + (1 : Int32))), .val (.int (1 : Int32)), .val (.int (((2 : Int32) + (1 : Int32)) + (1 : Int32)))] [(.int (1 : Int32))]))
        refine Wp.via (fun _ k => XS.ifNo X19.here hx rfl (hb hby at_235) rfl ((if0 _ _).trans (feq (by decide)).1) k) ?_
        show Wp p e below _ (T19.setTop (mkF m 238 #[.val (.int p0), .val (.int p1), .val (.int p2), .val (.int p3), .val (.int p4), .val (.int (10 : Int32)), .val (.int (10 : Int32)), .val (.ref b1), .val (.int (0 : Int32)), .val (.int (2 : Int32)), .val (.int (1 : Int32)), .val (.int (1 : Int32)), .val (.int ((2 : Int32) + (1 : Int32))), .val (.int (1 : Int32)), .val (.int (((2 : Int32) + (1 : Int32)) + (1 : Int32)))] []))
        refine Wp.via (fun _ k => XS.aload X19.here hx rfl (hb hby at_238) rfl rfl k) ?_
        show Wp p e below _ (T19.setTop (mkF m 240 #[.val (.int p0), .val (.int p1), .val (.int p2), .val (.int p3), .val (.int p4), .val (.int (10 : Int32)), .val (.int (10 : Int32)), .val (.ref b1), .val (.int (0 : Int32)), .val (.int (2 : Int32)), .val (.int (1 : Int32)), .val (.int (1 : Int32)), .val (.int ((2 : Int32) + (1 : Int32))), .val (.int (1 : Int32)), .val (.int (((2 : Int32) + (1 : Int32)) + (1 : Int32)))] [(.ref b1)]))
        obtain ⟨cq22, kq22, q22a, q22b, q22c⟩ := isOf hZ rfl c20
        obtain ⟨_, _, ⟨T22, L22, k22, n22⟩, -, X22, ⟨Lc22, hQ22, l22, y22, z22⟩, st22⟩ := X19.virtualBack hx (y := (⟨"com/example/chyld/chyld/LineColumn", "line", "()I"⟩ : MethodName)) (z := (⟨"com/example/chyld/chyld/LineColumn", "line", "()I"⟩ : MethodName)) hown (mvT hZ (hw _ (List.mem_of_getElem? (i := 29) rfl))) (mvT hZ (hw _ (List.mem_of_getElem? (i := 30) rfl))) (notFace_of_selects (args := #[]) (mvT hZ (hw _ (List.mem_of_getElem? (i := 32) rfl)))) (mvT hZ (hw _ (List.mem_of_getElem? (i := 32) rfl))) (mvT hZ (hw _ (List.mem_of_getElem? (i := 31) rfl))) (by decide) (backOf (W := 0) (rm6 l Z aw hw [] b1 (((2 : Int32) + (1 : Int32)) + (1 : Int32)) T19.heap n0 zz21 m5_line) hZ (hw _ (List.mem_of_getElem? (i := 33) rfl)) (hw _ (List.mem_of_getElem? (i := 6) rfl)) (by decide) (by decide)) q22a q22c (g := (mkF m 240 #[.val (.int p0), .val (.int p1), .val (.int p2), .val (.int p3), .val (.int p4), .val (.int (10 : Int32)), .val (.int (10 : Int32)), .val (.ref b1), .val (.int (0 : Int32)), .val (.int (2 : Int32)), .val (.int (1 : Int32)), .val (.int (1 : Int32)), .val (.int ((2 : Int32) + (1 : Int32))), .val (.int (1 : Int32)), .val (.int (((2 : Int32) + (1 : Int32)) + (1 : Int32)))] [(.ref b1)])) rfl (by rw [hml]; rfl) (Steps.refl _) (argsL := []) (rest := []) (lenOf own_pd3 rfl) rfl (by show 2 * 0 + _ ≤ _; exact Nat.le_of_eq rfl) (hb hby at_240) (fun _ _ => ⟨rfl, rfl, (by decide : 1 + 0 ≤ _), (by decide : 3 + 0 ≤ _)⟩)
        dsimp only [Pt.U, Pt.locs, Pt.cells, Pt.slots] at X22 l22 y22 z22 st22 hQ22
        subst l22 y22 z22
        obtain ⟨rfl, N22, e22⟩ := hQ22
        have NF22 := Fr.app NF19 N22
        refine Wp.step st22 ?_
        show Wp p e below _ (T22.setTop (mkF m 243 #[.val (.int p0), .val (.int p1), .val (.int p2), .val (.int p3), .val (.int p4), .val (.int (10 : Int32)), .val (.int (10 : Int32)), .val (.ref b1), .val (.int (0 : Int32)), .val (.int (2 : Int32)), .val (.int (1 : Int32)), .val (.int (1 : Int32)), .val (.int ((2 : Int32) + (1 : Int32))), .val (.int (1 : Int32)), .val (.int (((2 : Int32) + (1 : Int32)) + (1 : Int32)))] [(.int (((2 : Int32) + (1 : Int32)) + (1 : Int32)))]))
        refine Wp.via (fun _ k => XS.iload X22.here hx rfl (hb hby at_243) rfl k) ?_
        show Wp p e below _ (T22.setTop (mkF m 245 #[.val (.int p0), .val (.int p1), .val (.int p2), .val (.int p3), .val (.int p4), .val (.int (10 : Int32)), .val (.int (10 : Int32)), .val (.ref b1), .val (.int (0 : Int32)), .val (.int (2 : Int32)), .val (.int (1 : Int32)), .val (.int (1 : Int32)), .val (.int ((2 : Int32) + (1 : Int32))), .val (.int (1 : Int32)), .val (.int (((2 : Int32) + (1 : Int32)) + (1 : Int32)))] [(.int (((2 : Int32) + (1 : Int32)) + (1 : Int32))), (.int (((2 : Int32) + (1 : Int32)) + (1 : Int32)))]))
        refine Wp.via (fun _ k => XS.icmpNo X22.here hx rfl (hb hby at_245) rfl (teq rfl).2 k) ?_
        show Wp p e below _ (T22.setTop (mkF m 248 #[.val (.int p0), .val (.int p1), .val (.int p2), .val (.int p3), .val (.int p4), .val (.int (10 : Int32)), .val (.int (10 : Int32)), .val (.ref b1), .val (.int (0 : Int32)), .val (.int (2 : Int32)), .val (.int (1 : Int32)), .val (.int (1 : Int32)), .val (.int ((2 : Int32) + (1 : Int32))), .val (.int (1 : Int32)), .val (.int (((2 : Int32) + (1 : Int32)) + (1 : Int32)))] []))
        refine Wp.via (fun _ k => XS.aload X22.here hx rfl (hb hby at_248) rfl rfl k) ?_
        show Wp p e below _ (T22.setTop (mkF m 250 #[.val (.int p0), .val (.int p1), .val (.int p2), .val (.int p3), .val (.int p4), .val (.int (10 : Int32)), .val (.int (10 : Int32)), .val (.ref b1), .val (.int (0 : Int32)), .val (.int (2 : Int32)), .val (.int (1 : Int32)), .val (.int (1 : Int32)), .val (.int ((2 : Int32) + (1 : Int32))), .val (.int (1 : Int32)), .val (.int (((2 : Int32) + (1 : Int32)) + (1 : Int32)))] [(.ref b1)]))
        obtain ⟨cq23, kq23, q23a, q23b, q23c⟩ := isOf hZ e22 c20
        obtain ⟨_, _, ⟨T23, L23, k23, n23⟩, -, X23, ⟨Lc23, hQ23, l23, y23, z23⟩, st23⟩ := X22.virtualBack hx (y := (⟨"com/example/chyld/chyld/LineColumn", "column", "()I"⟩ : MethodName)) (z := (⟨"com/example/chyld/chyld/LineColumn", "column", "()I"⟩ : MethodName)) hown (mvT hZ (hw _ (List.mem_of_getElem? (i := 34) rfl))) (mvT hZ (hw _ (List.mem_of_getElem? (i := 35) rfl))) (notFace_of_selects (args := #[]) (mvT hZ (hw _ (List.mem_of_getElem? (i := 37) rfl)))) (mvT hZ (hw _ (List.mem_of_getElem? (i := 37) rfl))) (mvT hZ (hw _ (List.mem_of_getElem? (i := 36) rfl))) (by decide) (backOf (W := 0) (rm7 l Z aw hw [] b1 (1 : Int32) T19.heap n0 zz21 m5_column) hZ (hw _ (List.mem_of_getElem? (i := 38) rfl)) (hw _ (List.mem_of_getElem? (i := 6) rfl)) (by decide) (by decide)) q23a q23c (g := (mkF m 250 #[.val (.int p0), .val (.int p1), .val (.int p2), .val (.int p3), .val (.int p4), .val (.int (10 : Int32)), .val (.int (10 : Int32)), .val (.ref b1), .val (.int (0 : Int32)), .val (.int (2 : Int32)), .val (.int (1 : Int32)), .val (.int (1 : Int32)), .val (.int ((2 : Int32) + (1 : Int32))), .val (.int (1 : Int32)), .val (.int (((2 : Int32) + (1 : Int32)) + (1 : Int32)))] [(.ref b1)])) rfl (by rw [hml]; rfl) (Steps.refl _) (argsL := []) (rest := []) (lenOf own_pd3 rfl) rfl (by show 2 * 0 + _ ≤ _; exact Nat.le_of_eq rfl) (hb hby at_250) (fun _ _ => ⟨rfl, e22, (by decide : 1 + 0 ≤ _), (by decide : 3 + 0 ≤ _)⟩)
        dsimp only [Pt.U, Pt.locs, Pt.cells, Pt.slots] at X23 l23 y23 z23 st23 hQ23
        subst l23 y23 z23
        obtain ⟨rfl, N23, e23⟩ := hQ23
        have NF23 := Fr.app NF22 N23
        refine Wp.step st23 ?_
        show Wp p e below _ (T23.setTop (mkF m 253 #[.val (.int p0), .val (.int p1), .val (.int p2), .val (.int p3), .val (.int p4), .val (.int (10 : Int32)), .val (.int (10 : Int32)), .val (.ref b1), .val (.int (0 : Int32)), .val (.int (2 : Int32)), .val (.int (1 : Int32)), .val (.int (1 : Int32)), .val (.int ((2 : Int32) + (1 : Int32))), .val (.int (1 : Int32)), .val (.int (((2 : Int32) + (1 : Int32)) + (1 : Int32)))] [(.int (1 : Int32))]))
        refine Wp.via (fun _ k => XS.iconst X23.here hx rfl (hb hby at_253) k) ?_
        show Wp p e below _ (T23.setTop (mkF m 254 #[.val (.int p0), .val (.int p1), .val (.int p2), .val (.int p3), .val (.int p4), .val (.int (10 : Int32)), .val (.int (10 : Int32)), .val (.ref b1), .val (.int (0 : Int32)), .val (.int (2 : Int32)), .val (.int (1 : Int32)), .val (.int (1 : Int32)), .val (.int ((2 : Int32) + (1 : Int32))), .val (.int (1 : Int32)), .val (.int (((2 : Int32) + (1 : Int32)) + (1 : Int32)))] [(.int (1 : Int32)), (.int (1 : Int32))]))
        refine Wp.via (fun _ k => XS.icmpNo X23.here hx rfl (hb hby at_254) rfl (teq (by decide)).2 k) ?_
        show Wp p e below _ (T23.setTop (mkF m 257 #[.val (.int p0), .val (.int p1), .val (.int p2), .val (.int p3), .val (.int p4), .val (.int (10 : Int32)), .val (.int (10 : Int32)), .val (.ref b1), .val (.int (0 : Int32)), .val (.int (2 : Int32)), .val (.int (1 : Int32)), .val (.int (1 : Int32)), .val (.int ((2 : Int32) + (1 : Int32))), .val (.int (1 : Int32)), .val (.int (((2 : Int32) + (1 : Int32)) + (1 : Int32)))] []))
        refine Wp.via (fun _ k => XS.iconst X23.here hx rfl (hb hby at_257) k) ?_
        show Wp p e below _ (T23.setTop (mkF m 258 #[.val (.int p0), .val (.int p1), .val (.int p2), .val (.int p3), .val (.int p4), .val (.int (10 : Int32)), .val (.int (10 : Int32)), .val (.ref b1), .val (.int (0 : Int32)), .val (.int (2 : Int32)), .val (.int (1 : Int32)), .val (.int (1 : Int32)), .val (.int ((2 : Int32) + (1 : Int32))), .val (.int (1 : Int32)), .val (.int (((2 : Int32) + (1 : Int32)) + (1 : Int32)))] [(.int (1 : Int32))]))
        refine Wp.via (fun _ k => XS.goto X23.here hx rfl (pc0 := 258) (pc' := 262) rfl (hb hby at_258) (by decide) (by decide) k) ?_
        show Wp p e below _ (T23.setTop (mkF m 262 #[.val (.int p0), .val (.int p1), .val (.int p2), .val (.int p3), .val (.int p4), .val (.int (10 : Int32)), .val (.int (10 : Int32)), .val (.ref b1), .val (.int (0 : Int32)), .val (.int (2 : Int32)), .val (.int (1 : Int32)), .val (.int (1 : Int32)), .val (.int ((2 : Int32) + (1 : Int32))), .val (.int (1 : Int32)), .val (.int (((2 : Int32) + (1 : Int32)) + (1 : Int32)))] [(.int (1 : Int32))]))
        refine Wp.via (fun _ k => XS.istore X23.here hx rfl (hb hby at_262) rfl (l' := #[.val (.int p0), .val (.int p1), .val (.int p2), .val (.int p3), .val (.int p4), .val (.int (10 : Int32)), .val (.int (10 : Int32)), .val (.ref b1), .val (.int (0 : Int32)), .val (.int (2 : Int32)), .val (.int (1 : Int32)), .val (.int (1 : Int32)), .val (.int ((2 : Int32) + (1 : Int32))), .val (.int (1 : Int32)), .val (.int (((2 : Int32) + (1 : Int32)) + (1 : Int32)))]) rfl k) ?_
        show Wp p e below _ (T23.setTop (mkF m 264 #[.val (.int p0), .val (.int p1), .val (.int p2), .val (.int p3), .val (.int p4), .val (.int (10 : Int32)), .val (.int (10 : Int32)), .val (.ref b1), .val (.int (0 : Int32)), .val (.int (2 : Int32)), .val (.int (1 : Int32)), .val (.int (1 : Int32)), .val (.int ((2 : Int32) + (1 : Int32))), .val (.int (1 : Int32)), .val (.int (((2 : Int32) + (1 : Int32)) + (1 : Int32)))] []))
        refine Wp.via (fun _ k => XS.iload X23.here hx rfl (hb hby at_264) rfl k) ?_
        show Wp p e below _ (T23.setTop (mkF m 266 #[.val (.int p0), .val (.int p1), .val (.int p2), .val (.int p3), .val (.int p4), .val (.int (10 : Int32)), .val (.int (10 : Int32)), .val (.ref b1), .val (.int (0 : Int32)), .val (.int (2 : Int32)), .val (.int (1 : Int32)), .val (.int (1 : Int32)), .val (.int ((2 : Int32) + (1 : Int32))), .val (.int (1 : Int32)), .val (.int (((2 : Int32) + (1 : Int32)) + (1 : Int32)))] [(.int (1 : Int32))]))
        exact Wp.retI X23 hlk hx hret (by simp) (by first | rfl | decide) (hb hby at_266) ⟨rfl, NF23⟩ (by decide) (by decide)
      ·
        by_cases d2 : xv = (13 : Int32)
        ·
          subst d2
          show Wp p e below _ (T13.setTop (mkF m 115 #[.val (.int p0), .val (.int p1), .val (.int p2), .val (.int p3), .val (.int p4), .val (.int (10 : Int32)), .val (.int (13 : Int32)), .val (.ref b1), .val (.int (0 : Int32)), .val (.int (2 : Int32)), .val (.int (1 : Int32)), .val (.int (1 : Int32)), .unset, .unset, .unset] [(.int (13 : Int32)), (.ref b1)]))
          obtain ⟨cq24, kq24, q24a, q24b, q24c⟩ := isOf hZ e13 c10
          obtain ⟨_, _, ⟨T24, L24, k24, n24⟩, -, X24, ⟨Lc24, hQ24, l24, y24, z24⟩, st24⟩ := X13.virtualBack hx (y := (⟨"com/example/chyld/chyld/LineColumn", "character", "(I)V"⟩ : MethodName)) (z := (⟨"com/example/chyld/chyld/LineColumn", "character", "(I)V"⟩ : MethodName)) hown (mvT hZ (hw _ (List.mem_of_getElem? (i := 24) rfl))) (mvT hZ (hw _ (List.mem_of_getElem? (i := 25) rfl))) (notFace_of_selects (args := #[]) (mvT hZ (hw _ (List.mem_of_getElem? (i := 27) rfl)))) (mvT hZ (hw _ (List.mem_of_getElem? (i := 27) rfl))) (mvT hZ (hw _ (List.mem_of_getElem? (i := 26) rfl))) (by decide) (backOf (W := 0) (rm5 l Z aw hw [] b1 (13 : Int32) (2 : Int32) (1 : Int32) (0 : Int32) ((2 : Int32) + (1 : Int32)) (1 : Int32) (1 : Int32) T9.heap n0 zz11 c10 gn_b1 m3_line m3_column m3_afterCarriageReturn (by simp [own_l]) (by simp [own_k]) (by simp [own_r])) hZ (hw _ (List.mem_of_getElem? (i := 28) rfl)) (hw _ (List.mem_of_getElem? (i := 6) rfl)) (by decide) (by decide)) q24a q24c (g := (mkF m 115 #[.val (.int p0), .val (.int p1), .val (.int p2), .val (.int p3), .val (.int p4), .val (.int (10 : Int32)), .val (.int (13 : Int32)), .val (.ref b1), .val (.int (0 : Int32)), .val (.int (2 : Int32)), .val (.int (1 : Int32)), .val (.int (1 : Int32)), .unset, .unset, .unset] [(.int (13 : Int32)), (.ref b1)])) rfl (by rw [hml]; rfl) (Steps.refl _) (argsL := [(.int (13 : Int32))]) (rest := []) (lenOf own_pd2 rfl) rfl (by show 2 * 0 + _ ≤ _; exact Nat.le_of_eq rfl) (hb hby at_115) (fun _ _ => ⟨rfl, e13, (by decide : 1 + 0 ≤ _), (by decide : 3 + 0 ≤ _)⟩)
          dsimp only [Pt.U, Pt.locs, Pt.cells, Pt.slots] at X24 l24 y24 z24 st24 hQ24
          subst l24 y24 z24
          obtain ⟨rfl, N24, Kc24, Ec24, m6_line, m6_column, m6_afterCarriageReturn⟩ := hQ24
          have NF24 := Fr.app NF13 N24
          refine Wp.step st24 ?_
          have c25 := c10.keep Kc24
          have K24' := K9'.trans Kc24 (allS (Or.inr sz_b1) all0)
          have zz26 : n0 ≤ T24.heap.size := Nat.le_trans zz11 Kc24.1
          show Wp p e below _ (T24.setTop (mkF m 118 #[.val (.int p0), .val (.int p1), .val (.int p2), .val (.int p3), .val (.int p4), .val (.int (10 : Int32)), .val (.int (13 : Int32)), .val (.ref b1), .val (.int (0 : Int32)), .val (.int (2 : Int32)), .val (.int (1 : Int32)), .val (.int (1 : Int32)), .unset, .unset, .unset] []))
          refine Wp.via (fun _ k => XS.iload X24.here hx rfl (hb hby at_118) rfl k) ?_
          show Wp p e below _ (T24.setTop (mkF m 120 #[.val (.int p0), .val (.int p1), .val (.int p2), .val (.int p3), .val (.int p4), .val (.int (10 : Int32)), .val (.int (13 : Int32)), .val (.ref b1), .val (.int (0 : Int32)), .val (.int (2 : Int32)), .val (.int (1 : Int32)), .val (.int (1 : Int32)), .unset, .unset, .unset] [(.int (13 : Int32))]))
          refine Wp.via (fun _ k => XS.bipush X24.here hx rfl (hb hby at_120) k) ?_
          show Wp p e below _ (T24.setTop (mkF m 122 #[.val (.int p0), .val (.int p1), .val (.int p2), .val (.int p3), .val (.int p4), .val (.int (10 : Int32)), .val (.int (13 : Int32)), .val (.ref b1), .val (.int (0 : Int32)), .val (.int (2 : Int32)), .val (.int (1 : Int32)), .val (.int (1 : Int32)), .unset, .unset, .unset] [(.int (10 : Int32)), (.int (13 : Int32))]))
          refine Wp.via (fun _ k => XS.icmpYes X24.here hx rfl (pc0 := 122) (pc' := 147) rfl (hb hby at_122) rfl (feq (by decide)).2 (by decide) (by decide) k) ?_
          show Wp p e below _ (T24.setTop (mkF m 147 #[.val (.int p0), .val (.int p1), .val (.int p2), .val (.int p3), .val (.int p4), .val (.int (10 : Int32)), .val (.int (13 : Int32)), .val (.ref b1), .val (.int (0 : Int32)), .val (.int (2 : Int32)), .val (.int (1 : Int32)), .val (.int (1 : Int32)), .unset, .unset, .unset] []))
          refine Wp.via (fun _ k => XS.iload X24.here hx rfl (hb hby at_147) rfl k) ?_
          show Wp p e below _ (T24.setTop (mkF m 149 #[.val (.int p0), .val (.int p1), .val (.int p2), .val (.int p3), .val (.int p4), .val (.int (10 : Int32)), .val (.int (13 : Int32)), .val (.ref b1), .val (.int (0 : Int32)), .val (.int (2 : Int32)), .val (.int (1 : Int32)), .val (.int (1 : Int32)), .unset, .unset, .unset] [(.int (13 : Int32))]))
          refine Wp.via (fun _ k => XS.bipush X24.here hx rfl (hb hby at_149) k) ?_
          show Wp p e below _ (T24.setTop (mkF m 151 #[.val (.int p0), .val (.int p1), .val (.int p2), .val (.int p3), .val (.int p4), .val (.int (10 : Int32)), .val (.int (13 : Int32)), .val (.ref b1), .val (.int (0 : Int32)), .val (.int (2 : Int32)), .val (.int (1 : Int32)), .val (.int (1 : Int32)), .unset, .unset, .unset] [(.int (13 : Int32)), (.int (13 : Int32))]))
          refine Wp.via (fun _ k => XS.icmpNo X24.here hx rfl (hb hby at_151) rfl (teq (by decide)).2 k) ?_
          show Wp p e below _ (T24.setTop (mkF m 154 #[.val (.int p0), .val (.int p1), .val (.int p2), .val (.int p3), .val (.int p4), .val (.int (10 : Int32)), .val (.int (13 : Int32)), .val (.ref b1), .val (.int (0 : Int32)), .val (.int (2 : Int32)), .val (.int (1 : Int32)), .val (.int (1 : Int32)), .unset, .unset, .unset] []))
          refine Wp.via (fun _ k => XS.iload X24.here hx rfl (hb hby at_154) rfl k) ?_
          show Wp p e below _ (T24.setTop (mkF m 156 #[.val (.int p0), .val (.int p1), .val (.int p2), .val (.int p3), .val (.int p4), .val (.int (10 : Int32)), .val (.int (13 : Int32)), .val (.ref b1), .val (.int (0 : Int32)), .val (.int (2 : Int32)), .val (.int (1 : Int32)), .val (.int (1 : Int32)), .unset, .unset, .unset] [(.int (2 : Int32))]))
          refine Wp.via (fun _ k => XS.iconst X24.here hx rfl (hb hby at_156) k) ?_
          show Wp p e below _ (T24.setTop (mkF m 157 #[.val (.int p0), .val (.int p1), .val (.int p2), .val (.int p3), .val (.int p4), .val (.int (10 : Int32)), .val (.int (13 : Int32)), .val (.ref b1), .val (.int (0 : Int32)), .val (.int (2 : Int32)), .val (.int (1 : Int32)), .val (.int (1 : Int32)), .unset, .unset, .unset] [(.int (1 : Int32)), (.int (2 : Int32))]))
          refine Wp.via (fun _ k => XS.iadd X24.here hx rfl (hb hby at_157) rfl k) ?_
          show Wp p e below _ (T24.setTop (mkF m 158 #[.val (.int p0), .val (.int p1), .val (.int p2), .val (.int p3), .val (.int p4), .val (.int (10 : Int32)), .val (.int (13 : Int32)), .val (.ref b1), .val (.int (0 : Int32)), .val (.int (2 : Int32)), .val (.int (1 : Int32)), .val (.int (1 : Int32)), .unset, .unset, .unset] [(.int ((2 : Int32) + (1 : Int32)))]))
          refine Wp.via (fun _ k => XS.istore X24.here hx rfl (hb hby at_158) rfl (l' := #[.val (.int p0), .val (.int p1), .val (.int p2), .val (.int p3), .val (.int p4), .val (.int (10 : Int32)), .val (.int (13 : Int32)), .val (.ref b1), .val (.int (0 : Int32)), .val (.int (2 : Int32)), .val (.int (1 : Int32)), .val (.int (1 : Int32)), .val (.int ((2 : Int32) + (1 : Int32))), .unset, .unset]) rfl k) ?_
          show Wp p e below _ (T24.setTop (mkF m 160 #[.val (.int p0), .val (.int p1), .val (.int p2), .val (.int p3), .val (.int p4), .val (.int (10 : Int32)), .val (.int (13 : Int32)), .val (.ref b1), .val (.int (0 : Int32)), .val (.int (2 : Int32)), .val (.int (1 : Int32)), .val (.int (1 : Int32)), .val (.int ((2 : Int32) + (1 : Int32))), .unset, .unset] []))
          refine Wp.via (fun _ k => XS.iconst X24.here hx rfl (hb hby at_160) k) ?_
          show Wp p e below _ (T24.setTop (mkF m 161 #[.val (.int p0), .val (.int p1), .val (.int p2), .val (.int p3), .val (.int p4), .val (.int (10 : Int32)), .val (.int (13 : Int32)), .val (.ref b1), .val (.int (0 : Int32)), .val (.int (2 : Int32)), .val (.int (1 : Int32)), .val (.int (1 : Int32)), .val (.int ((2 : Int32) + (1 : Int32))), .unset, .unset] [(.int (1 : Int32))]))
          refine Wp.via (fun _ k => XS.istore X24.here hx rfl (hb hby at_161) rfl (l' := #[.val (.int p0), .val (.int p1), .val (.int p2), .val (.int p3), .val (.int p4), .val (.int (10 : Int32)), .val (.int (13 : Int32)), .val (.ref b1), .val (.int (0 : Int32)), .val (.int (2 : Int32)), .val (.int (1 : Int32)), .val (.int (1 : Int32)), .val (.int ((2 : Int32) + (1 : Int32))), .val (.int (1 : Int32)), .unset]) rfl k) ?_
          show Wp p e below _ (T24.setTop (mkF m 163 #[.val (.int p0), .val (.int p1), .val (.int p2), .val (.int p3), .val (.int p4), .val (.int (10 : Int32)), .val (.int (13 : Int32)), .val (.ref b1), .val (.int (0 : Int32)), .val (.int (2 : Int32)), .val (.int (1 : Int32)), .val (.int (1 : Int32)), .val (.int ((2 : Int32) + (1 : Int32))), .val (.int (1 : Int32)), .unset] []))
          refine Wp.via (fun _ k => XS.goto X24.here hx rfl (pc0 := 163) (pc' := 176) rfl (hb hby at_163) (by decide) (by decide) k) ?_
          show Wp p e below _ (T24.setTop (mkF m 176 #[.val (.int p0), .val (.int p1), .val (.int p2), .val (.int p3), .val (.int p4), .val (.int (10 : Int32)), .val (.int (13 : Int32)), .val (.ref b1), .val (.int (0 : Int32)), .val (.int (2 : Int32)), .val (.int (1 : Int32)), .val (.int (1 : Int32)), .val (.int ((2 : Int32) + (1 : Int32))), .val (.int (1 : Int32)), .unset] []))
          refine Wp.via (fun _ k => XS.iload X24.here hx rfl (hb hby at_176) rfl k) ?_
          show Wp p e below _ (T24.setTop (mkF m 178 #[.val (.int p0), .val (.int p1), .val (.int p2), .val (.int p3), .val (.int p4), .val (.int (10 : Int32)), .val (.int (13 : Int32)), .val (.ref b1), .val (.int (0 : Int32)), .val (.int (2 : Int32)), .val (.int (1 : Int32)), .val (.int (1 : Int32)), .val (.int ((2 : Int32) + (1 : Int32))), .val (.int (1 : Int32)), .unset] [(.int (1 : Int32))]))
          refine Wp.via (fun _ k => XS.ifNo X24.here hx rfl (hb hby at_178) rfl ((if0 _ _).trans (feq (by decide)).1) k) ?_
          show Wp p e below _ (T24.setTop (mkF m 181 #[.val (.int p0), .val (.int p1), .val (.int p2), .val (.int p3), .val (.int p4), .val (.int (10 : Int32)), .val (.int (13 : Int32)), .val (.ref b1), .val (.int (0 : Int32)), .val (.int (2 : Int32)), .val (.int (1 : Int32)), .val (.int (1 : Int32)), .val (.int ((2 : Int32) + (1 : Int32))), .val (.int (1 : Int32)), .unset] []))
          refine Wp.via (fun _ k => XS.aload X24.here hx rfl (hb hby at_181) rfl rfl k) ?_
          show Wp p e below _ (T24.setTop (mkF m 183 #[.val (.int p0), .val (.int p1), .val (.int p2), .val (.int p3), .val (.int p4), .val (.int (10 : Int32)), .val (.int (13 : Int32)), .val (.ref b1), .val (.int (0 : Int32)), .val (.int (2 : Int32)), .val (.int (1 : Int32)), .val (.int (1 : Int32)), .val (.int ((2 : Int32) + (1 : Int32))), .val (.int (1 : Int32)), .unset] [(.ref b1)]))
          obtain ⟨cq27, kq27, q27a, q27b, q27c⟩ := isOf hZ rfl c25
          obtain ⟨_, _, ⟨T27, L27, k27, n27⟩, -, X27, ⟨Lc27, hQ27, l27, y27, z27⟩, st27⟩ := X24.virtualBack hx (y := (⟨"com/example/chyld/chyld/LineColumn", "line", "()I"⟩ : MethodName)) (z := (⟨"com/example/chyld/chyld/LineColumn", "line", "()I"⟩ : MethodName)) hown (mvT hZ (hw _ (List.mem_of_getElem? (i := 29) rfl))) (mvT hZ (hw _ (List.mem_of_getElem? (i := 30) rfl))) (notFace_of_selects (args := #[]) (mvT hZ (hw _ (List.mem_of_getElem? (i := 32) rfl)))) (mvT hZ (hw _ (List.mem_of_getElem? (i := 32) rfl))) (mvT hZ (hw _ (List.mem_of_getElem? (i := 31) rfl))) (by decide) (backOf (W := 0) (rm6 l Z aw hw [] b1 ((2 : Int32) + (1 : Int32)) T24.heap n0 zz26 m6_line) hZ (hw _ (List.mem_of_getElem? (i := 33) rfl)) (hw _ (List.mem_of_getElem? (i := 6) rfl)) (by decide) (by decide)) q27a q27c (g := (mkF m 183 #[.val (.int p0), .val (.int p1), .val (.int p2), .val (.int p3), .val (.int p4), .val (.int (10 : Int32)), .val (.int (13 : Int32)), .val (.ref b1), .val (.int (0 : Int32)), .val (.int (2 : Int32)), .val (.int (1 : Int32)), .val (.int (1 : Int32)), .val (.int ((2 : Int32) + (1 : Int32))), .val (.int (1 : Int32)), .unset] [(.ref b1)])) rfl (by rw [hml]; rfl) (Steps.refl _) (argsL := []) (rest := []) (lenOf own_pd3 rfl) rfl (by show 2 * 0 + _ ≤ _; exact Nat.le_of_eq rfl) (hb hby at_183) (fun _ _ => ⟨rfl, rfl, (by decide : 1 + 0 ≤ _), (by decide : 3 + 0 ≤ _)⟩)
          dsimp only [Pt.U, Pt.locs, Pt.cells, Pt.slots] at X27 l27 y27 z27 st27 hQ27
          subst l27 y27 z27
          obtain ⟨rfl, N27, e27⟩ := hQ27
          have NF27 := Fr.app NF24 N27
          refine Wp.step st27 ?_
          show Wp p e below _ (T27.setTop (mkF m 186 #[.val (.int p0), .val (.int p1), .val (.int p2), .val (.int p3), .val (.int p4), .val (.int (10 : Int32)), .val (.int (13 : Int32)), .val (.ref b1), .val (.int (0 : Int32)), .val (.int (2 : Int32)), .val (.int (1 : Int32)), .val (.int (1 : Int32)), .val (.int ((2 : Int32) + (1 : Int32))), .val (.int (1 : Int32)), .unset] [(.int ((2 : Int32) + (1 : Int32)))]))
          refine Wp.via (fun _ k => XS.iload X27.here hx rfl (hb hby at_186) rfl k) ?_
          show Wp p e below _ (T27.setTop (mkF m 188 #[.val (.int p0), .val (.int p1), .val (.int p2), .val (.int p3), .val (.int p4), .val (.int (10 : Int32)), .val (.int (13 : Int32)), .val (.ref b1), .val (.int (0 : Int32)), .val (.int (2 : Int32)), .val (.int (1 : Int32)), .val (.int (1 : Int32)), .val (.int ((2 : Int32) + (1 : Int32))), .val (.int (1 : Int32)), .unset] [(.int ((2 : Int32) + (1 : Int32))), (.int ((2 : Int32) + (1 : Int32)))]))
          refine Wp.via (fun _ k => XS.icmpNo X27.here hx rfl (hb hby at_188) rfl (teq rfl).2 k) ?_
          show Wp p e below _ (T27.setTop (mkF m 191 #[.val (.int p0), .val (.int p1), .val (.int p2), .val (.int p3), .val (.int p4), .val (.int (10 : Int32)), .val (.int (13 : Int32)), .val (.ref b1), .val (.int (0 : Int32)), .val (.int (2 : Int32)), .val (.int (1 : Int32)), .val (.int (1 : Int32)), .val (.int ((2 : Int32) + (1 : Int32))), .val (.int (1 : Int32)), .unset] []))
          refine Wp.via (fun _ k => XS.aload X27.here hx rfl (hb hby at_191) rfl rfl k) ?_
          show Wp p e below _ (T27.setTop (mkF m 193 #[.val (.int p0), .val (.int p1), .val (.int p2), .val (.int p3), .val (.int p4), .val (.int (10 : Int32)), .val (.int (13 : Int32)), .val (.ref b1), .val (.int (0 : Int32)), .val (.int (2 : Int32)), .val (.int (1 : Int32)), .val (.int (1 : Int32)), .val (.int ((2 : Int32) + (1 : Int32))), .val (.int (1 : Int32)), .unset] [(.ref b1)]))
          obtain ⟨cq28, kq28, q28a, q28b, q28c⟩ := isOf hZ e27 c25
          obtain ⟨_, _, ⟨T28, L28, k28, n28⟩, -, X28, ⟨Lc28, hQ28, l28, y28, z28⟩, st28⟩ := X27.virtualBack hx (y := (⟨"com/example/chyld/chyld/LineColumn", "column", "()I"⟩ : MethodName)) (z := (⟨"com/example/chyld/chyld/LineColumn", "column", "()I"⟩ : MethodName)) hown (mvT hZ (hw _ (List.mem_of_getElem? (i := 34) rfl))) (mvT hZ (hw _ (List.mem_of_getElem? (i := 35) rfl))) (notFace_of_selects (args := #[]) (mvT hZ (hw _ (List.mem_of_getElem? (i := 37) rfl)))) (mvT hZ (hw _ (List.mem_of_getElem? (i := 37) rfl))) (mvT hZ (hw _ (List.mem_of_getElem? (i := 36) rfl))) (by decide) (backOf (W := 0) (rm7 l Z aw hw [] b1 (1 : Int32) T24.heap n0 zz26 m6_column) hZ (hw _ (List.mem_of_getElem? (i := 38) rfl)) (hw _ (List.mem_of_getElem? (i := 6) rfl)) (by decide) (by decide)) q28a q28c (g := (mkF m 193 #[.val (.int p0), .val (.int p1), .val (.int p2), .val (.int p3), .val (.int p4), .val (.int (10 : Int32)), .val (.int (13 : Int32)), .val (.ref b1), .val (.int (0 : Int32)), .val (.int (2 : Int32)), .val (.int (1 : Int32)), .val (.int (1 : Int32)), .val (.int ((2 : Int32) + (1 : Int32))), .val (.int (1 : Int32)), .unset] [(.ref b1)])) rfl (by rw [hml]; rfl) (Steps.refl _) (argsL := []) (rest := []) (lenOf own_pd3 rfl) rfl (by show 2 * 0 + _ ≤ _; exact Nat.le_of_eq rfl) (hb hby at_193) (fun _ _ => ⟨rfl, e27, (by decide : 1 + 0 ≤ _), (by decide : 3 + 0 ≤ _)⟩)
          dsimp only [Pt.U, Pt.locs, Pt.cells, Pt.slots] at X28 l28 y28 z28 st28 hQ28
          subst l28 y28 z28
          obtain ⟨rfl, N28, e28⟩ := hQ28
          have NF28 := Fr.app NF27 N28
          refine Wp.step st28 ?_
          show Wp p e below _ (T28.setTop (mkF m 196 #[.val (.int p0), .val (.int p1), .val (.int p2), .val (.int p3), .val (.int p4), .val (.int (10 : Int32)), .val (.int (13 : Int32)), .val (.ref b1), .val (.int (0 : Int32)), .val (.int (2 : Int32)), .val (.int (1 : Int32)), .val (.int (1 : Int32)), .val (.int ((2 : Int32) + (1 : Int32))), .val (.int (1 : Int32)), .unset] [(.int (1 : Int32))]))
          refine Wp.via (fun _ k => XS.iload X28.here hx rfl (hb hby at_196) rfl k) ?_
          show Wp p e below _ (T28.setTop (mkF m 198 #[.val (.int p0), .val (.int p1), .val (.int p2), .val (.int p3), .val (.int p4), .val (.int (10 : Int32)), .val (.int (13 : Int32)), .val (.ref b1), .val (.int (0 : Int32)), .val (.int (2 : Int32)), .val (.int (1 : Int32)), .val (.int (1 : Int32)), .val (.int ((2 : Int32) + (1 : Int32))), .val (.int (1 : Int32)), .unset] [(.int (1 : Int32)), (.int (1 : Int32))]))
          refine Wp.via (fun _ k => XS.icmpNo X28.here hx rfl (hb hby at_198) rfl (teq (by decide)).2 k) ?_
          show Wp p e below _ (T28.setTop (mkF m 201 #[.val (.int p0), .val (.int p1), .val (.int p2), .val (.int p3), .val (.int p4), .val (.int (10 : Int32)), .val (.int (13 : Int32)), .val (.ref b1), .val (.int (0 : Int32)), .val (.int (2 : Int32)), .val (.int (1 : Int32)), .val (.int (1 : Int32)), .val (.int ((2 : Int32) + (1 : Int32))), .val (.int (1 : Int32)), .unset] []))
          refine Wp.via (fun _ k => XS.iconst X28.here hx rfl (hb hby at_201) k) ?_
          show Wp p e below _ (T28.setTop (mkF m 202 #[.val (.int p0), .val (.int p1), .val (.int p2), .val (.int p3), .val (.int p4), .val (.int (10 : Int32)), .val (.int (13 : Int32)), .val (.ref b1), .val (.int (0 : Int32)), .val (.int (2 : Int32)), .val (.int (1 : Int32)), .val (.int (1 : Int32)), .val (.int ((2 : Int32) + (1 : Int32))), .val (.int (1 : Int32)), .unset] [(.int (1 : Int32))]))
          refine Wp.via (fun _ k => XS.goto X28.here hx rfl (pc0 := 202) (pc' := 206) rfl (hb hby at_202) (by decide) (by decide) k) ?_
          show Wp p e below _ (T28.setTop (mkF m 206 #[.val (.int p0), .val (.int p1), .val (.int p2), .val (.int p3), .val (.int p4), .val (.int (10 : Int32)), .val (.int (13 : Int32)), .val (.ref b1), .val (.int (0 : Int32)), .val (.int (2 : Int32)), .val (.int (1 : Int32)), .val (.int (1 : Int32)), .val (.int ((2 : Int32) + (1 : Int32))), .val (.int (1 : Int32)), .unset] [(.int (1 : Int32))]))
          refine Wp.via (fun _ k => XS.istore X28.here hx rfl (hb hby at_206) rfl (l' := #[.val (.int p0), .val (.int p1), .val (.int p2), .val (.int p3), .val (.int p4), .val (.int (10 : Int32)), .val (.int (13 : Int32)), .val (.ref b1), .val (.int (0 : Int32)), .val (.int (2 : Int32)), .val (.int (1 : Int32)), .val (.int (1 : Int32)), .val (.int ((2 : Int32) + (1 : Int32))), .val (.int (1 : Int32)), .unset]) rfl k) ?_
          show Wp p e below _ (T28.setTop (mkF m 208 #[.val (.int p0), .val (.int p1), .val (.int p2), .val (.int p3), .val (.int p4), .val (.int (10 : Int32)), .val (.int (13 : Int32)), .val (.ref b1), .val (.int (0 : Int32)), .val (.int (2 : Int32)), .val (.int (1 : Int32)), .val (.int (1 : Int32)), .val (.int ((2 : Int32) + (1 : Int32))), .val (.int (1 : Int32)), .unset] []))
          refine Wp.via (fun _ k => XS.aload X28.here hx rfl (hb hby at_208) rfl rfl k) ?_
          show Wp p e below _ (T28.setTop (mkF m 210 #[.val (.int p0), .val (.int p1), .val (.int p2), .val (.int p3), .val (.int p4), .val (.int (10 : Int32)), .val (.int (13 : Int32)), .val (.ref b1), .val (.int (0 : Int32)), .val (.int (2 : Int32)), .val (.int (1 : Int32)), .val (.int (1 : Int32)), .val (.int ((2 : Int32) + (1 : Int32))), .val (.int (1 : Int32)), .unset] [(.ref b1)]))
          refine Wp.via (fun _ k => XS.bipush X28.here hx rfl (hb hby at_210) k) ?_
          show Wp p e below _ (T28.setTop (mkF m 212 #[.val (.int p0), .val (.int p1), .val (.int p2), .val (.int p3), .val (.int p4), .val (.int (10 : Int32)), .val (.int (13 : Int32)), .val (.ref b1), .val (.int (0 : Int32)), .val (.int (2 : Int32)), .val (.int (1 : Int32)), .val (.int (1 : Int32)), .val (.int ((2 : Int32) + (1 : Int32))), .val (.int (1 : Int32)), .unset] [(.int (10 : Int32)), (.ref b1)]))
          obtain ⟨cq29, kq29, q29a, q29b, q29c⟩ := isOf hZ e28 c25
          obtain ⟨_, _, ⟨T29, L29, k29, n29⟩, -, X29, ⟨Lc29, hQ29, l29, y29, z29⟩, st29⟩ := X28.virtualBack hx (y := (⟨"com/example/chyld/chyld/LineColumn", "character", "(I)V"⟩ : MethodName)) (z := (⟨"com/example/chyld/chyld/LineColumn", "character", "(I)V"⟩ : MethodName)) hown (mvT hZ (hw _ (List.mem_of_getElem? (i := 24) rfl))) (mvT hZ (hw _ (List.mem_of_getElem? (i := 25) rfl))) (notFace_of_selects (args := #[]) (mvT hZ (hw _ (List.mem_of_getElem? (i := 27) rfl)))) (mvT hZ (hw _ (List.mem_of_getElem? (i := 27) rfl))) (mvT hZ (hw _ (List.mem_of_getElem? (i := 26) rfl))) (by decide) (backOf (W := 0) (rm5 l Z aw hw [] b1 (10 : Int32) ((2 : Int32) + (1 : Int32)) (1 : Int32) (1 : Int32) ((2 : Int32) + (1 : Int32)) (1 : Int32) (0 : Int32) T24.heap n0 zz26 c25 gn_b1 m6_line m6_column m6_afterCarriageReturn (by simp [own_l]) (by simp [own_k]) (by simp [own_r])) hZ (hw _ (List.mem_of_getElem? (i := 28) rfl)) (hw _ (List.mem_of_getElem? (i := 6) rfl)) (by decide) (by decide)) q29a q29c (g := (mkF m 212 #[.val (.int p0), .val (.int p1), .val (.int p2), .val (.int p3), .val (.int p4), .val (.int (10 : Int32)), .val (.int (13 : Int32)), .val (.ref b1), .val (.int (0 : Int32)), .val (.int (2 : Int32)), .val (.int (1 : Int32)), .val (.int (1 : Int32)), .val (.int ((2 : Int32) + (1 : Int32))), .val (.int (1 : Int32)), .unset] [(.int (10 : Int32)), (.ref b1)])) rfl (by rw [hml]; rfl) (Steps.refl _) (argsL := [(.int (10 : Int32))]) (rest := []) (lenOf own_pd2 rfl) rfl (by show 2 * 0 + _ ≤ _; exact Nat.le_of_eq rfl) (hb hby at_212) (fun _ _ => ⟨rfl, e28, (by decide : 1 + 0 ≤ _), (by decide : 3 + 0 ≤ _)⟩)
          dsimp only [Pt.U, Pt.locs, Pt.cells, Pt.slots] at X29 l29 y29 z29 st29 hQ29
          subst l29 y29 z29
          obtain ⟨rfl, N29, Kc29, Ec29, m7_line, m7_column, m7_afterCarriageReturn⟩ := hQ29
          have NF29 := Fr.app NF28 N29
          refine Wp.step st29 ?_
          have c30 := c25.keep Kc29
          have K29' := K24'.trans Kc29 (allS (Or.inr sz_b1) all0)
          have zz31 : n0 ≤ T29.heap.size := Nat.le_trans zz26 Kc29.1
          show Wp p e below _ (T29.setTop (mkF m 215 #[.val (.int p0), .val (.int p1), .val (.int p2), .val (.int p3), .val (.int p4), .val (.int (10 : Int32)), .val (.int (13 : Int32)), .val (.ref b1), .val (.int (0 : Int32)), .val (.int (2 : Int32)), .val (.int (1 : Int32)), .val (.int (1 : Int32)), .val (.int ((2 : Int32) + (1 : Int32))), .val (.int (1 : Int32)), .unset] []))
          refine Wp.via (fun _ k => XS.iload X29.here hx rfl (hb hby at_215) rfl k) ?_
          show Wp p e below _ (T29.setTop (mkF m 217 #[.val (.int p0), .val (.int p1), .val (.int p2), .val (.int p3), .val (.int p4), .val (.int (10 : Int32)), .val (.int (13 : Int32)), .val (.ref b1), .val (.int (0 : Int32)), .val (.int (2 : Int32)), .val (.int (1 : Int32)), .val (.int (1 : Int32)), .val (.int ((2 : Int32) + (1 : Int32))), .val (.int (1 : Int32)), .unset] [(.int (13 : Int32))]))
          refine Wp.via (fun _ k => XS.bipush X29.here hx rfl (hb hby at_217) k) ?_
          show Wp p e below _ (T29.setTop (mkF m 219 #[.val (.int p0), .val (.int p1), .val (.int p2), .val (.int p3), .val (.int p4), .val (.int (10 : Int32)), .val (.int (13 : Int32)), .val (.ref b1), .val (.int (0 : Int32)), .val (.int (2 : Int32)), .val (.int (1 : Int32)), .val (.int (1 : Int32)), .val (.int ((2 : Int32) + (1 : Int32))), .val (.int (1 : Int32)), .unset] [(.int (13 : Int32)), (.int (13 : Int32))]))
          refine Wp.via (fun _ k => XS.icmpNo X29.here hx rfl (hb hby at_219) rfl (teq (by decide)).2 k) ?_
          show Wp p e below _ (T29.setTop (mkF m 222 #[.val (.int p0), .val (.int p1), .val (.int p2), .val (.int p3), .val (.int p4), .val (.int (10 : Int32)), .val (.int (13 : Int32)), .val (.ref b1), .val (.int (0 : Int32)), .val (.int (2 : Int32)), .val (.int (1 : Int32)), .val (.int (1 : Int32)), .val (.int ((2 : Int32) + (1 : Int32))), .val (.int (1 : Int32)), .unset] []))
          refine Wp.via (fun _ k => XS.iload X29.here hx rfl (hb hby at_222) rfl k) ?_
          show Wp p e below _ (T29.setTop (mkF m 224 #[.val (.int p0), .val (.int p1), .val (.int p2), .val (.int p3), .val (.int p4), .val (.int (10 : Int32)), .val (.int (13 : Int32)), .val (.ref b1), .val (.int (0 : Int32)), .val (.int (2 : Int32)), .val (.int (1 : Int32)), .val (.int (1 : Int32)), .val (.int ((2 : Int32) + (1 : Int32))), .val (.int (1 : Int32)), .unset] [(.int ((2 : Int32) + (1 : Int32)))]))
          refine Wp.via (fun _ k => XS.goto X29.here hx rfl (pc0 := 224) (pc' := 231) rfl (hb hby at_224) (by decide) (by decide) k) ?_
          show Wp p e below _ (T29.setTop (mkF m 231 #[.val (.int p0), .val (.int p1), .val (.int p2), .val (.int p3), .val (.int p4), .val (.int (10 : Int32)), .val (.int (13 : Int32)), .val (.ref b1), .val (.int (0 : Int32)), .val (.int (2 : Int32)), .val (.int (1 : Int32)), .val (.int (1 : Int32)), .val (.int ((2 : Int32) + (1 : Int32))), .val (.int (1 : Int32)), .unset] [(.int ((2 : Int32) + (1 : Int32)))]))
          refine Wp.via (fun _ k => XS.istore X29.here hx rfl (hb hby at_231) rfl (l' := #[.val (.int p0), .val (.int p1), .val (.int p2), .val (.int p3), .val (.int p4), .val (.int (10 : Int32)), .val (.int (13 : Int32)), .val (.ref b1), .val (.int (0 : Int32)), .val (.int (2 : Int32)), .val (.int (1 : Int32)), .val (.int (1 : Int32)), .val (.int ((2 : Int32) + (1 : Int32))), .val (.int (1 : Int32)), .val (.int ((2 : Int32) + (1 : Int32)))]) rfl k) ?_
          show Wp p e below _ (T29.setTop (mkF m 233 #[.val (.int p0), .val (.int p1), .val (.int p2), .val (.int p3), .val (.int p4), .val (.int (10 : Int32)), .val (.int (13 : Int32)), .val (.ref b1), .val (.int (0 : Int32)), .val (.int (2 : Int32)), .val (.int (1 : Int32)), .val (.int (1 : Int32)), .val (.int ((2 : Int32) + (1 : Int32))), .val (.int (1 : Int32)), .val (.int ((2 : Int32) + (1 : Int32)))] []))
          refine Wp.via (fun _ k => XS.iload X29.here hx rfl (hb hby at_233) rfl k) ?_
          show Wp p e below _ (T29.setTop (mkF m 235 #[.val (.int p0), .val (.int p1), .val (.int p2), .val (.int p3), .val (.int p4), .val (.int (10 : Int32)), .val (.int (13 : Int32)), .val (.ref b1), .val (.int (0 : Int32)), .val (.int (2 : Int32)), .val (.int (1 : Int32)), .val (.int (1 : Int32)), .val (.int ((2 : Int32) + (1 : Int32))), .val (.int (1 : Int32)), .val (.int ((2 : Int32) + (1 : Int32)))] [(.int (1 : Int32))]))
          refine Wp.via (fun _ k => XS.ifNo X29.here hx rfl (hb hby at_235) rfl ((if0 _ _).trans (feq (by decide)).1) k) ?_
          show Wp p e below _ (T29.setTop (mkF m 238 #[.val (.int p0), .val (.int p1), .val (.int p2), .val (.int p3), .val (.int p4), .val (.int (10 : Int32)), .val (.int (13 : Int32)), .val (.ref b1), .val (.int (0 : Int32)), .val (.int (2 : Int32)), .val (.int (1 : Int32)), .val (.int (1 : Int32)), .val (.int ((2 : Int32) + (1 : Int32))), .val (.int (1 : Int32)), .val (.int ((2 : Int32) + (1 : Int32)))] []))
          refine Wp.via (fun _ k => XS.aload X29.here hx rfl (hb hby at_238) rfl rfl k) ?_
          show Wp p e below _ (T29.setTop (mkF m 240 #[.val (.int p0), .val (.int p1), .val (.int p2), .val (.int p3), .val (.int p4), .val (.int (10 : Int32)), .val (.int (13 : Int32)), .val (.ref b1), .val (.int (0 : Int32)), .val (.int (2 : Int32)), .val (.int (1 : Int32)), .val (.int (1 : Int32)), .val (.int ((2 : Int32) + (1 : Int32))), .val (.int (1 : Int32)), .val (.int ((2 : Int32) + (1 : Int32)))] [(.ref b1)]))
          obtain ⟨cq32, kq32, q32a, q32b, q32c⟩ := isOf hZ rfl c30
          obtain ⟨_, _, ⟨T32, L32, k32, n32⟩, -, X32, ⟨Lc32, hQ32, l32, y32, z32⟩, st32⟩ := X29.virtualBack hx (y := (⟨"com/example/chyld/chyld/LineColumn", "line", "()I"⟩ : MethodName)) (z := (⟨"com/example/chyld/chyld/LineColumn", "line", "()I"⟩ : MethodName)) hown (mvT hZ (hw _ (List.mem_of_getElem? (i := 29) rfl))) (mvT hZ (hw _ (List.mem_of_getElem? (i := 30) rfl))) (notFace_of_selects (args := #[]) (mvT hZ (hw _ (List.mem_of_getElem? (i := 32) rfl)))) (mvT hZ (hw _ (List.mem_of_getElem? (i := 32) rfl))) (mvT hZ (hw _ (List.mem_of_getElem? (i := 31) rfl))) (by decide) (backOf (W := 0) (rm6 l Z aw hw [] b1 ((2 : Int32) + (1 : Int32)) T29.heap n0 zz31 m7_line) hZ (hw _ (List.mem_of_getElem? (i := 33) rfl)) (hw _ (List.mem_of_getElem? (i := 6) rfl)) (by decide) (by decide)) q32a q32c (g := (mkF m 240 #[.val (.int p0), .val (.int p1), .val (.int p2), .val (.int p3), .val (.int p4), .val (.int (10 : Int32)), .val (.int (13 : Int32)), .val (.ref b1), .val (.int (0 : Int32)), .val (.int (2 : Int32)), .val (.int (1 : Int32)), .val (.int (1 : Int32)), .val (.int ((2 : Int32) + (1 : Int32))), .val (.int (1 : Int32)), .val (.int ((2 : Int32) + (1 : Int32)))] [(.ref b1)])) rfl (by rw [hml]; rfl) (Steps.refl _) (argsL := []) (rest := []) (lenOf own_pd3 rfl) rfl (by show 2 * 0 + _ ≤ _; exact Nat.le_of_eq rfl) (hb hby at_240) (fun _ _ => ⟨rfl, rfl, (by decide : 1 + 0 ≤ _), (by decide : 3 + 0 ≤ _)⟩)
          dsimp only [Pt.U, Pt.locs, Pt.cells, Pt.slots] at X32 l32 y32 z32 st32 hQ32
          subst l32 y32 z32
          obtain ⟨rfl, N32, e32⟩ := hQ32
          have NF32 := Fr.app NF29 N32
          refine Wp.step st32 ?_
          show Wp p e below _ (T32.setTop (mkF m 243 #[.val (.int p0), .val (.int p1), .val (.int p2), .val (.int p3), .val (.int p4), .val (.int (10 : Int32)), .val (.int (13 : Int32)), .val (.ref b1), .val (.int (0 : Int32)), .val (.int (2 : Int32)), .val (.int (1 : Int32)), .val (.int (1 : Int32)), .val (.int ((2 : Int32) + (1 : Int32))), .val (.int (1 : Int32)), .val (.int ((2 : Int32) + (1 : Int32)))] [(.int ((2 : Int32) + (1 : Int32)))]))
          refine Wp.via (fun _ k => XS.iload X32.here hx rfl (hb hby at_243) rfl k) ?_
          show Wp p e below _ (T32.setTop (mkF m 245 #[.val (.int p0), .val (.int p1), .val (.int p2), .val (.int p3), .val (.int p4), .val (.int (10 : Int32)), .val (.int (13 : Int32)), .val (.ref b1), .val (.int (0 : Int32)), .val (.int (2 : Int32)), .val (.int (1 : Int32)), .val (.int (1 : Int32)), .val (.int ((2 : Int32) + (1 : Int32))), .val (.int (1 : Int32)), .val (.int ((2 : Int32) + (1 : Int32)))] [(.int ((2 : Int32) + (1 : Int32))), (.int ((2 : Int32) + (1 : Int32)))]))
          refine Wp.via (fun _ k => XS.icmpNo X32.here hx rfl (hb hby at_245) rfl (teq rfl).2 k) ?_
          show Wp p e below _ (T32.setTop (mkF m 248 #[.val (.int p0), .val (.int p1), .val (.int p2), .val (.int p3), .val (.int p4), .val (.int (10 : Int32)), .val (.int (13 : Int32)), .val (.ref b1), .val (.int (0 : Int32)), .val (.int (2 : Int32)), .val (.int (1 : Int32)), .val (.int (1 : Int32)), .val (.int ((2 : Int32) + (1 : Int32))), .val (.int (1 : Int32)), .val (.int ((2 : Int32) + (1 : Int32)))] []))
          refine Wp.via (fun _ k => XS.aload X32.here hx rfl (hb hby at_248) rfl rfl k) ?_
          show Wp p e below _ (T32.setTop (mkF m 250 #[.val (.int p0), .val (.int p1), .val (.int p2), .val (.int p3), .val (.int p4), .val (.int (10 : Int32)), .val (.int (13 : Int32)), .val (.ref b1), .val (.int (0 : Int32)), .val (.int (2 : Int32)), .val (.int (1 : Int32)), .val (.int (1 : Int32)), .val (.int ((2 : Int32) + (1 : Int32))), .val (.int (1 : Int32)), .val (.int ((2 : Int32) + (1 : Int32)))] [(.ref b1)]))
          obtain ⟨cq33, kq33, q33a, q33b, q33c⟩ := isOf hZ e32 c30
          obtain ⟨_, _, ⟨T33, L33, k33, n33⟩, -, X33, ⟨Lc33, hQ33, l33, y33, z33⟩, st33⟩ := X32.virtualBack hx (y := (⟨"com/example/chyld/chyld/LineColumn", "column", "()I"⟩ : MethodName)) (z := (⟨"com/example/chyld/chyld/LineColumn", "column", "()I"⟩ : MethodName)) hown (mvT hZ (hw _ (List.mem_of_getElem? (i := 34) rfl))) (mvT hZ (hw _ (List.mem_of_getElem? (i := 35) rfl))) (notFace_of_selects (args := #[]) (mvT hZ (hw _ (List.mem_of_getElem? (i := 37) rfl)))) (mvT hZ (hw _ (List.mem_of_getElem? (i := 37) rfl))) (mvT hZ (hw _ (List.mem_of_getElem? (i := 36) rfl))) (by decide) (backOf (W := 0) (rm7 l Z aw hw [] b1 (1 : Int32) T29.heap n0 zz31 m7_column) hZ (hw _ (List.mem_of_getElem? (i := 38) rfl)) (hw _ (List.mem_of_getElem? (i := 6) rfl)) (by decide) (by decide)) q33a q33c (g := (mkF m 250 #[.val (.int p0), .val (.int p1), .val (.int p2), .val (.int p3), .val (.int p4), .val (.int (10 : Int32)), .val (.int (13 : Int32)), .val (.ref b1), .val (.int (0 : Int32)), .val (.int (2 : Int32)), .val (.int (1 : Int32)), .val (.int (1 : Int32)), .val (.int ((2 : Int32) + (1 : Int32))), .val (.int (1 : Int32)), .val (.int ((2 : Int32) + (1 : Int32)))] [(.ref b1)])) rfl (by rw [hml]; rfl) (Steps.refl _) (argsL := []) (rest := []) (lenOf own_pd3 rfl) rfl (by show 2 * 0 + _ ≤ _; exact Nat.le_of_eq rfl) (hb hby at_250) (fun _ _ => ⟨rfl, e32, (by decide : 1 + 0 ≤ _), (by decide : 3 + 0 ≤ _)⟩)
          dsimp only [Pt.U, Pt.locs, Pt.cells, Pt.slots] at X33 l33 y33 z33 st33 hQ33
          subst l33 y33 z33
          obtain ⟨rfl, N33, e33⟩ := hQ33
          have NF33 := Fr.app NF32 N33
          refine Wp.step st33 ?_
          show Wp p e below _ (T33.setTop (mkF m 253 #[.val (.int p0), .val (.int p1), .val (.int p2), .val (.int p3), .val (.int p4), .val (.int (10 : Int32)), .val (.int (13 : Int32)), .val (.ref b1), .val (.int (0 : Int32)), .val (.int (2 : Int32)), .val (.int (1 : Int32)), .val (.int (1 : Int32)), .val (.int ((2 : Int32) + (1 : Int32))), .val (.int (1 : Int32)), .val (.int ((2 : Int32) + (1 : Int32)))] [(.int (1 : Int32))]))
          refine Wp.via (fun _ k => XS.iconst X33.here hx rfl (hb hby at_253) k) ?_
          show Wp p e below _ (T33.setTop (mkF m 254 #[.val (.int p0), .val (.int p1), .val (.int p2), .val (.int p3), .val (.int p4), .val (.int (10 : Int32)), .val (.int (13 : Int32)), .val (.ref b1), .val (.int (0 : Int32)), .val (.int (2 : Int32)), .val (.int (1 : Int32)), .val (.int (1 : Int32)), .val (.int ((2 : Int32) + (1 : Int32))), .val (.int (1 : Int32)), .val (.int ((2 : Int32) + (1 : Int32)))] [(.int (1 : Int32)), (.int (1 : Int32))]))
          refine Wp.via (fun _ k => XS.icmpNo X33.here hx rfl (hb hby at_254) rfl (teq (by decide)).2 k) ?_
          show Wp p e below _ (T33.setTop (mkF m 257 #[.val (.int p0), .val (.int p1), .val (.int p2), .val (.int p3), .val (.int p4), .val (.int (10 : Int32)), .val (.int (13 : Int32)), .val (.ref b1), .val (.int (0 : Int32)), .val (.int (2 : Int32)), .val (.int (1 : Int32)), .val (.int (1 : Int32)), .val (.int ((2 : Int32) + (1 : Int32))), .val (.int (1 : Int32)), .val (.int ((2 : Int32) + (1 : Int32)))] []))
          refine Wp.via (fun _ k => XS.iconst X33.here hx rfl (hb hby at_257) k) ?_
          show Wp p e below _ (T33.setTop (mkF m 258 #[.val (.int p0), .val (.int p1), .val (.int p2), .val (.int p3), .val (.int p4), .val (.int (10 : Int32)), .val (.int (13 : Int32)), .val (.ref b1), .val (.int (0 : Int32)), .val (.int (2 : Int32)), .val (.int (1 : Int32)), .val (.int (1 : Int32)), .val (.int ((2 : Int32) + (1 : Int32))), .val (.int (1 : Int32)), .val (.int ((2 : Int32) + (1 : Int32)))] [(.int (1 : Int32))]))
          refine Wp.via (fun _ k => XS.goto X33.here hx rfl (pc0 := 258) (pc' := 262) rfl (hb hby at_258) (by decide) (by decide) k) ?_
          show Wp p e below _ (T33.setTop (mkF m 262 #[.val (.int p0), .val (.int p1), .val (.int p2), .val (.int p3), .val (.int p4), .val (.int (10 : Int32)), .val (.int (13 : Int32)), .val (.ref b1), .val (.int (0 : Int32)), .val (.int (2 : Int32)), .val (.int (1 : Int32)), .val (.int (1 : Int32)), .val (.int ((2 : Int32) + (1 : Int32))), .val (.int (1 : Int32)), .val (.int ((2 : Int32) + (1 : Int32)))] [(.int (1 : Int32))]))
          refine Wp.via (fun _ k => XS.istore X33.here hx rfl (hb hby at_262) rfl (l' := #[.val (.int p0), .val (.int p1), .val (.int p2), .val (.int p3), .val (.int p4), .val (.int (10 : Int32)), .val (.int (13 : Int32)), .val (.ref b1), .val (.int (0 : Int32)), .val (.int (2 : Int32)), .val (.int (1 : Int32)), .val (.int (1 : Int32)), .val (.int ((2 : Int32) + (1 : Int32))), .val (.int (1 : Int32)), .val (.int ((2 : Int32) + (1 : Int32)))]) rfl k) ?_
          show Wp p e below _ (T33.setTop (mkF m 264 #[.val (.int p0), .val (.int p1), .val (.int p2), .val (.int p3), .val (.int p4), .val (.int (10 : Int32)), .val (.int (13 : Int32)), .val (.ref b1), .val (.int (0 : Int32)), .val (.int (2 : Int32)), .val (.int (1 : Int32)), .val (.int (1 : Int32)), .val (.int ((2 : Int32) + (1 : Int32))), .val (.int (1 : Int32)), .val (.int ((2 : Int32) + (1 : Int32)))] []))
          refine Wp.via (fun _ k => XS.iload X33.here hx rfl (hb hby at_264) rfl k) ?_
          show Wp p e below _ (T33.setTop (mkF m 266 #[.val (.int p0), .val (.int p1), .val (.int p2), .val (.int p3), .val (.int p4), .val (.int (10 : Int32)), .val (.int (13 : Int32)), .val (.ref b1), .val (.int (0 : Int32)), .val (.int (2 : Int32)), .val (.int (1 : Int32)), .val (.int (1 : Int32)), .val (.int ((2 : Int32) + (1 : Int32))), .val (.int (1 : Int32)), .val (.int ((2 : Int32) + (1 : Int32)))] [(.int (1 : Int32))]))
          exact Wp.retI X33 hlk hx hret (by simp) (by first | rfl | decide) (hb hby at_266) ⟨rfl, NF33⟩ (by decide) (by decide)
        ·
          obtain ⟨cq34, kq34, q34a, q34b, q34c⟩ := isOf hZ e13 c10
          obtain ⟨_, _, ⟨T34, L34, k34, n34⟩, -, X34, ⟨Lc34, hQ34, l34, y34, z34⟩, st34⟩ := X13.virtualBack hx (y := (⟨"com/example/chyld/chyld/LineColumn", "character", "(I)V"⟩ : MethodName)) (z := (⟨"com/example/chyld/chyld/LineColumn", "character", "(I)V"⟩ : MethodName)) hown (mvT hZ (hw _ (List.mem_of_getElem? (i := 24) rfl))) (mvT hZ (hw _ (List.mem_of_getElem? (i := 25) rfl))) (notFace_of_selects (args := #[]) (mvT hZ (hw _ (List.mem_of_getElem? (i := 27) rfl)))) (mvT hZ (hw _ (List.mem_of_getElem? (i := 27) rfl))) (mvT hZ (hw _ (List.mem_of_getElem? (i := 26) rfl))) (by decide) (backOf (W := 0) (rm5 l Z aw hw [] b1 xv (2 : Int32) (1 : Int32) (0 : Int32) (2 : Int32) ((1 : Int32) + (1 : Int32)) (0 : Int32) T9.heap n0 zz11 c10 gn_b1 m3_line m3_column m3_afterCarriageReturn (by simp [own_l, d1, d2]) (by simp [own_k, d1, d2]) (by simp [own_r, d1, d2])) hZ (hw _ (List.mem_of_getElem? (i := 28) rfl)) (hw _ (List.mem_of_getElem? (i := 6) rfl)) (by decide) (by decide)) q34a q34c (g := (mkF m 115 #[.val (.int p0), .val (.int p1), .val (.int p2), .val (.int p3), .val (.int p4), .val (.int (10 : Int32)), .val (.int xv), .val (.ref b1), .val (.int (0 : Int32)), .val (.int (2 : Int32)), .val (.int (1 : Int32)), .val (.int (1 : Int32)), .unset, .unset, .unset] [(.int xv), (.ref b1)])) rfl (by rw [hml]; rfl) (Steps.refl _) (argsL := [(.int xv)]) (rest := []) (lenOf own_pd2 rfl) rfl (by show 2 * 0 + _ ≤ _; exact Nat.le_of_eq rfl) (hb hby at_115) (fun _ _ => ⟨rfl, e13, (by decide : 1 + 0 ≤ _), (by decide : 3 + 0 ≤ _)⟩)
          dsimp only [Pt.U, Pt.locs, Pt.cells, Pt.slots] at X34 l34 y34 z34 st34 hQ34
          subst l34 y34 z34
          obtain ⟨rfl, N34, Kc34, Ec34, m8_line, m8_column, m8_afterCarriageReturn⟩ := hQ34
          have NF34 := Fr.app NF13 N34
          refine Wp.step st34 ?_
          have c35 := c10.keep Kc34
          have K34' := K9'.trans Kc34 (allS (Or.inr sz_b1) all0)
          have zz36 : n0 ≤ T34.heap.size := Nat.le_trans zz11 Kc34.1
          show Wp p e below _ (T34.setTop (mkF m 118 #[.val (.int p0), .val (.int p1), .val (.int p2), .val (.int p3), .val (.int p4), .val (.int (10 : Int32)), .val (.int xv), .val (.ref b1), .val (.int (0 : Int32)), .val (.int (2 : Int32)), .val (.int (1 : Int32)), .val (.int (1 : Int32)), .unset, .unset, .unset] []))
          refine Wp.via (fun _ k => XS.iload X34.here hx rfl (hb hby at_118) rfl k) ?_
          show Wp p e below _ (T34.setTop (mkF m 120 #[.val (.int p0), .val (.int p1), .val (.int p2), .val (.int p3), .val (.int p4), .val (.int (10 : Int32)), .val (.int xv), .val (.ref b1), .val (.int (0 : Int32)), .val (.int (2 : Int32)), .val (.int (1 : Int32)), .val (.int (1 : Int32)), .unset, .unset, .unset] [(.int xv)]))
          refine Wp.via (fun _ k => XS.bipush X34.here hx rfl (hb hby at_120) k) ?_
          show Wp p e below _ (T34.setTop (mkF m 122 #[.val (.int p0), .val (.int p1), .val (.int p2), .val (.int p3), .val (.int p4), .val (.int (10 : Int32)), .val (.int xv), .val (.ref b1), .val (.int (0 : Int32)), .val (.int (2 : Int32)), .val (.int (1 : Int32)), .val (.int (1 : Int32)), .unset, .unset, .unset] [(.int (10 : Int32)), (.int xv)]))
          refine Wp.via (fun _ k => XS.icmpYes X34.here hx rfl (pc0 := 122) (pc' := 147) rfl (hb hby at_122) rfl (feq d1).2 (by decide) (by decide) k) ?_
          show Wp p e below _ (T34.setTop (mkF m 147 #[.val (.int p0), .val (.int p1), .val (.int p2), .val (.int p3), .val (.int p4), .val (.int (10 : Int32)), .val (.int xv), .val (.ref b1), .val (.int (0 : Int32)), .val (.int (2 : Int32)), .val (.int (1 : Int32)), .val (.int (1 : Int32)), .unset, .unset, .unset] []))
          refine Wp.via (fun _ k => XS.iload X34.here hx rfl (hb hby at_147) rfl k) ?_
          show Wp p e below _ (T34.setTop (mkF m 149 #[.val (.int p0), .val (.int p1), .val (.int p2), .val (.int p3), .val (.int p4), .val (.int (10 : Int32)), .val (.int xv), .val (.ref b1), .val (.int (0 : Int32)), .val (.int (2 : Int32)), .val (.int (1 : Int32)), .val (.int (1 : Int32)), .unset, .unset, .unset] [(.int xv)]))
          refine Wp.via (fun _ k => XS.bipush X34.here hx rfl (hb hby at_149) k) ?_
          show Wp p e below _ (T34.setTop (mkF m 151 #[.val (.int p0), .val (.int p1), .val (.int p2), .val (.int p3), .val (.int p4), .val (.int (10 : Int32)), .val (.int xv), .val (.ref b1), .val (.int (0 : Int32)), .val (.int (2 : Int32)), .val (.int (1 : Int32)), .val (.int (1 : Int32)), .unset, .unset, .unset] [(.int (13 : Int32)), (.int xv)]))
          refine Wp.via (fun _ k => XS.icmpYes X34.here hx rfl (pc0 := 151) (pc' := 166) rfl (hb hby at_151) rfl (feq d2).2 (by decide) (by decide) k) ?_
          show Wp p e below _ (T34.setTop (mkF m 166 #[.val (.int p0), .val (.int p1), .val (.int p2), .val (.int p3), .val (.int p4), .val (.int (10 : Int32)), .val (.int xv), .val (.ref b1), .val (.int (0 : Int32)), .val (.int (2 : Int32)), .val (.int (1 : Int32)), .val (.int (1 : Int32)), .unset, .unset, .unset] []))
          refine Wp.via (fun _ k => XS.iload X34.here hx rfl (hb hby at_166) rfl k) ?_
          show Wp p e below _ (T34.setTop (mkF m 168 #[.val (.int p0), .val (.int p1), .val (.int p2), .val (.int p3), .val (.int p4), .val (.int (10 : Int32)), .val (.int xv), .val (.ref b1), .val (.int (0 : Int32)), .val (.int (2 : Int32)), .val (.int (1 : Int32)), .val (.int (1 : Int32)), .unset, .unset, .unset] [(.int (2 : Int32))]))
          refine Wp.via (fun _ k => XS.istore X34.here hx rfl (hb hby at_168) rfl (l' := #[.val (.int p0), .val (.int p1), .val (.int p2), .val (.int p3), .val (.int p4), .val (.int (10 : Int32)), .val (.int xv), .val (.ref b1), .val (.int (0 : Int32)), .val (.int (2 : Int32)), .val (.int (1 : Int32)), .val (.int (1 : Int32)), .val (.int (2 : Int32)), .unset, .unset]) rfl k) ?_
          show Wp p e below _ (T34.setTop (mkF m 170 #[.val (.int p0), .val (.int p1), .val (.int p2), .val (.int p3), .val (.int p4), .val (.int (10 : Int32)), .val (.int xv), .val (.ref b1), .val (.int (0 : Int32)), .val (.int (2 : Int32)), .val (.int (1 : Int32)), .val (.int (1 : Int32)), .val (.int (2 : Int32)), .unset, .unset] []))
          refine Wp.via (fun _ k => XS.iload X34.here hx rfl (hb hby at_170) rfl k) ?_
          show Wp p e below _ (T34.setTop (mkF m 172 #[.val (.int p0), .val (.int p1), .val (.int p2), .val (.int p3), .val (.int p4), .val (.int (10 : Int32)), .val (.int xv), .val (.ref b1), .val (.int (0 : Int32)), .val (.int (2 : Int32)), .val (.int (1 : Int32)), .val (.int (1 : Int32)), .val (.int (2 : Int32)), .unset, .unset] [(.int (1 : Int32))]))
          refine Wp.via (fun _ k => XS.iconst X34.here hx rfl (hb hby at_172) k) ?_
          show Wp p e below _ (T34.setTop (mkF m 173 #[.val (.int p0), .val (.int p1), .val (.int p2), .val (.int p3), .val (.int p4), .val (.int (10 : Int32)), .val (.int xv), .val (.ref b1), .val (.int (0 : Int32)), .val (.int (2 : Int32)), .val (.int (1 : Int32)), .val (.int (1 : Int32)), .val (.int (2 : Int32)), .unset, .unset] [(.int (1 : Int32)), (.int (1 : Int32))]))
          refine Wp.via (fun _ k => XS.iadd X34.here hx rfl (hb hby at_173) rfl k) ?_
          show Wp p e below _ (T34.setTop (mkF m 174 #[.val (.int p0), .val (.int p1), .val (.int p2), .val (.int p3), .val (.int p4), .val (.int (10 : Int32)), .val (.int xv), .val (.ref b1), .val (.int (0 : Int32)), .val (.int (2 : Int32)), .val (.int (1 : Int32)), .val (.int (1 : Int32)), .val (.int (2 : Int32)), .unset, .unset] [(.int ((1 : Int32) + (1 : Int32)))]))
          refine Wp.via (fun _ k => XS.istore X34.here hx rfl (hb hby at_174) rfl (l' := #[.val (.int p0), .val (.int p1), .val (.int p2), .val (.int p3), .val (.int p4), .val (.int (10 : Int32)), .val (.int xv), .val (.ref b1), .val (.int (0 : Int32)), .val (.int (2 : Int32)), .val (.int (1 : Int32)), .val (.int (1 : Int32)), .val (.int (2 : Int32)), .val (.int ((1 : Int32) + (1 : Int32))), .unset]) rfl k) ?_
          show Wp p e below _ (T34.setTop (mkF m 176 #[.val (.int p0), .val (.int p1), .val (.int p2), .val (.int p3), .val (.int p4), .val (.int (10 : Int32)), .val (.int xv), .val (.ref b1), .val (.int (0 : Int32)), .val (.int (2 : Int32)), .val (.int (1 : Int32)), .val (.int (1 : Int32)), .val (.int (2 : Int32)), .val (.int ((1 : Int32) + (1 : Int32))), .unset] []))
          refine Wp.via (fun _ k => XS.iload X34.here hx rfl (hb hby at_176) rfl k) ?_
          show Wp p e below _ (T34.setTop (mkF m 178 #[.val (.int p0), .val (.int p1), .val (.int p2), .val (.int p3), .val (.int p4), .val (.int (10 : Int32)), .val (.int xv), .val (.ref b1), .val (.int (0 : Int32)), .val (.int (2 : Int32)), .val (.int (1 : Int32)), .val (.int (1 : Int32)), .val (.int (2 : Int32)), .val (.int ((1 : Int32) + (1 : Int32))), .unset] [(.int (1 : Int32))]))
          refine Wp.via (fun _ k => XS.ifNo X34.here hx rfl (hb hby at_178) rfl ((if0 _ _).trans (feq (by decide)).1) k) ?_
          show Wp p e below _ (T34.setTop (mkF m 181 #[.val (.int p0), .val (.int p1), .val (.int p2), .val (.int p3), .val (.int p4), .val (.int (10 : Int32)), .val (.int xv), .val (.ref b1), .val (.int (0 : Int32)), .val (.int (2 : Int32)), .val (.int (1 : Int32)), .val (.int (1 : Int32)), .val (.int (2 : Int32)), .val (.int ((1 : Int32) + (1 : Int32))), .unset] []))
          refine Wp.via (fun _ k => XS.aload X34.here hx rfl (hb hby at_181) rfl rfl k) ?_
          show Wp p e below _ (T34.setTop (mkF m 183 #[.val (.int p0), .val (.int p1), .val (.int p2), .val (.int p3), .val (.int p4), .val (.int (10 : Int32)), .val (.int xv), .val (.ref b1), .val (.int (0 : Int32)), .val (.int (2 : Int32)), .val (.int (1 : Int32)), .val (.int (1 : Int32)), .val (.int (2 : Int32)), .val (.int ((1 : Int32) + (1 : Int32))), .unset] [(.ref b1)]))
          obtain ⟨cq37, kq37, q37a, q37b, q37c⟩ := isOf hZ rfl c35
          obtain ⟨_, _, ⟨T37, L37, k37, n37⟩, -, X37, ⟨Lc37, hQ37, l37, y37, z37⟩, st37⟩ := X34.virtualBack hx (y := (⟨"com/example/chyld/chyld/LineColumn", "line", "()I"⟩ : MethodName)) (z := (⟨"com/example/chyld/chyld/LineColumn", "line", "()I"⟩ : MethodName)) hown (mvT hZ (hw _ (List.mem_of_getElem? (i := 29) rfl))) (mvT hZ (hw _ (List.mem_of_getElem? (i := 30) rfl))) (notFace_of_selects (args := #[]) (mvT hZ (hw _ (List.mem_of_getElem? (i := 32) rfl)))) (mvT hZ (hw _ (List.mem_of_getElem? (i := 32) rfl))) (mvT hZ (hw _ (List.mem_of_getElem? (i := 31) rfl))) (by decide) (backOf (W := 0) (rm6 l Z aw hw [] b1 (2 : Int32) T34.heap n0 zz36 m8_line) hZ (hw _ (List.mem_of_getElem? (i := 33) rfl)) (hw _ (List.mem_of_getElem? (i := 6) rfl)) (by decide) (by decide)) q37a q37c (g := (mkF m 183 #[.val (.int p0), .val (.int p1), .val (.int p2), .val (.int p3), .val (.int p4), .val (.int (10 : Int32)), .val (.int xv), .val (.ref b1), .val (.int (0 : Int32)), .val (.int (2 : Int32)), .val (.int (1 : Int32)), .val (.int (1 : Int32)), .val (.int (2 : Int32)), .val (.int ((1 : Int32) + (1 : Int32))), .unset] [(.ref b1)])) rfl (by rw [hml]; rfl) (Steps.refl _) (argsL := []) (rest := []) (lenOf own_pd3 rfl) rfl (by show 2 * 0 + _ ≤ _; exact Nat.le_of_eq rfl) (hb hby at_183) (fun _ _ => ⟨rfl, rfl, (by decide : 1 + 0 ≤ _), (by decide : 3 + 0 ≤ _)⟩)
          dsimp only [Pt.U, Pt.locs, Pt.cells, Pt.slots] at X37 l37 y37 z37 st37 hQ37
          subst l37 y37 z37
          obtain ⟨rfl, N37, e37⟩ := hQ37
          have NF37 := Fr.app NF34 N37
          refine Wp.step st37 ?_
          show Wp p e below _ (T37.setTop (mkF m 186 #[.val (.int p0), .val (.int p1), .val (.int p2), .val (.int p3), .val (.int p4), .val (.int (10 : Int32)), .val (.int xv), .val (.ref b1), .val (.int (0 : Int32)), .val (.int (2 : Int32)), .val (.int (1 : Int32)), .val (.int (1 : Int32)), .val (.int (2 : Int32)), .val (.int ((1 : Int32) + (1 : Int32))), .unset] [(.int (2 : Int32))]))
          refine Wp.via (fun _ k => XS.iload X37.here hx rfl (hb hby at_186) rfl k) ?_
          show Wp p e below _ (T37.setTop (mkF m 188 #[.val (.int p0), .val (.int p1), .val (.int p2), .val (.int p3), .val (.int p4), .val (.int (10 : Int32)), .val (.int xv), .val (.ref b1), .val (.int (0 : Int32)), .val (.int (2 : Int32)), .val (.int (1 : Int32)), .val (.int (1 : Int32)), .val (.int (2 : Int32)), .val (.int ((1 : Int32) + (1 : Int32))), .unset] [(.int (2 : Int32)), (.int (2 : Int32))]))
          refine Wp.via (fun _ k => XS.icmpNo X37.here hx rfl (hb hby at_188) rfl (teq (by decide)).2 k) ?_
          show Wp p e below _ (T37.setTop (mkF m 191 #[.val (.int p0), .val (.int p1), .val (.int p2), .val (.int p3), .val (.int p4), .val (.int (10 : Int32)), .val (.int xv), .val (.ref b1), .val (.int (0 : Int32)), .val (.int (2 : Int32)), .val (.int (1 : Int32)), .val (.int (1 : Int32)), .val (.int (2 : Int32)), .val (.int ((1 : Int32) + (1 : Int32))), .unset] []))
          refine Wp.via (fun _ k => XS.aload X37.here hx rfl (hb hby at_191) rfl rfl k) ?_
          show Wp p e below _ (T37.setTop (mkF m 193 #[.val (.int p0), .val (.int p1), .val (.int p2), .val (.int p3), .val (.int p4), .val (.int (10 : Int32)), .val (.int xv), .val (.ref b1), .val (.int (0 : Int32)), .val (.int (2 : Int32)), .val (.int (1 : Int32)), .val (.int (1 : Int32)), .val (.int (2 : Int32)), .val (.int ((1 : Int32) + (1 : Int32))), .unset] [(.ref b1)]))
          obtain ⟨cq38, kq38, q38a, q38b, q38c⟩ := isOf hZ e37 c35
          obtain ⟨_, _, ⟨T38, L38, k38, n38⟩, -, X38, ⟨Lc38, hQ38, l38, y38, z38⟩, st38⟩ := X37.virtualBack hx (y := (⟨"com/example/chyld/chyld/LineColumn", "column", "()I"⟩ : MethodName)) (z := (⟨"com/example/chyld/chyld/LineColumn", "column", "()I"⟩ : MethodName)) hown (mvT hZ (hw _ (List.mem_of_getElem? (i := 34) rfl))) (mvT hZ (hw _ (List.mem_of_getElem? (i := 35) rfl))) (notFace_of_selects (args := #[]) (mvT hZ (hw _ (List.mem_of_getElem? (i := 37) rfl)))) (mvT hZ (hw _ (List.mem_of_getElem? (i := 37) rfl))) (mvT hZ (hw _ (List.mem_of_getElem? (i := 36) rfl))) (by decide) (backOf (W := 0) (rm7 l Z aw hw [] b1 ((1 : Int32) + (1 : Int32)) T34.heap n0 zz36 m8_column) hZ (hw _ (List.mem_of_getElem? (i := 38) rfl)) (hw _ (List.mem_of_getElem? (i := 6) rfl)) (by decide) (by decide)) q38a q38c (g := (mkF m 193 #[.val (.int p0), .val (.int p1), .val (.int p2), .val (.int p3), .val (.int p4), .val (.int (10 : Int32)), .val (.int xv), .val (.ref b1), .val (.int (0 : Int32)), .val (.int (2 : Int32)), .val (.int (1 : Int32)), .val (.int (1 : Int32)), .val (.int (2 : Int32)), .val (.int ((1 : Int32) + (1 : Int32))), .unset] [(.ref b1)])) rfl (by rw [hml]; rfl) (Steps.refl _) (argsL := []) (rest := []) (lenOf own_pd3 rfl) rfl (by show 2 * 0 + _ ≤ _; exact Nat.le_of_eq rfl) (hb hby at_193) (fun _ _ => ⟨rfl, e37, (by decide : 1 + 0 ≤ _), (by decide : 3 + 0 ≤ _)⟩)
          dsimp only [Pt.U, Pt.locs, Pt.cells, Pt.slots] at X38 l38 y38 z38 st38 hQ38
          subst l38 y38 z38
          obtain ⟨rfl, N38, e38⟩ := hQ38
          have NF38 := Fr.app NF37 N38
          refine Wp.step st38 ?_
          show Wp p e below _ (T38.setTop (mkF m 196 #[.val (.int p0), .val (.int p1), .val (.int p2), .val (.int p3), .val (.int p4), .val (.int (10 : Int32)), .val (.int xv), .val (.ref b1), .val (.int (0 : Int32)), .val (.int (2 : Int32)), .val (.int (1 : Int32)), .val (.int (1 : Int32)), .val (.int (2 : Int32)), .val (.int ((1 : Int32) + (1 : Int32))), .unset] [(.int ((1 : Int32) + (1 : Int32)))]))
          refine Wp.via (fun _ k => XS.iload X38.here hx rfl (hb hby at_196) rfl k) ?_
          show Wp p e below _ (T38.setTop (mkF m 198 #[.val (.int p0), .val (.int p1), .val (.int p2), .val (.int p3), .val (.int p4), .val (.int (10 : Int32)), .val (.int xv), .val (.ref b1), .val (.int (0 : Int32)), .val (.int (2 : Int32)), .val (.int (1 : Int32)), .val (.int (1 : Int32)), .val (.int (2 : Int32)), .val (.int ((1 : Int32) + (1 : Int32))), .unset] [(.int ((1 : Int32) + (1 : Int32))), (.int ((1 : Int32) + (1 : Int32)))]))
          refine Wp.via (fun _ k => XS.icmpNo X38.here hx rfl (hb hby at_198) rfl (teq rfl).2 k) ?_
          show Wp p e below _ (T38.setTop (mkF m 201 #[.val (.int p0), .val (.int p1), .val (.int p2), .val (.int p3), .val (.int p4), .val (.int (10 : Int32)), .val (.int xv), .val (.ref b1), .val (.int (0 : Int32)), .val (.int (2 : Int32)), .val (.int (1 : Int32)), .val (.int (1 : Int32)), .val (.int (2 : Int32)), .val (.int ((1 : Int32) + (1 : Int32))), .unset] []))
          refine Wp.via (fun _ k => XS.iconst X38.here hx rfl (hb hby at_201) k) ?_
          show Wp p e below _ (T38.setTop (mkF m 202 #[.val (.int p0), .val (.int p1), .val (.int p2), .val (.int p3), .val (.int p4), .val (.int (10 : Int32)), .val (.int xv), .val (.ref b1), .val (.int (0 : Int32)), .val (.int (2 : Int32)), .val (.int (1 : Int32)), .val (.int (1 : Int32)), .val (.int (2 : Int32)), .val (.int ((1 : Int32) + (1 : Int32))), .unset] [(.int (1 : Int32))]))
          refine Wp.via (fun _ k => XS.goto X38.here hx rfl (pc0 := 202) (pc' := 206) rfl (hb hby at_202) (by decide) (by decide) k) ?_
          show Wp p e below _ (T38.setTop (mkF m 206 #[.val (.int p0), .val (.int p1), .val (.int p2), .val (.int p3), .val (.int p4), .val (.int (10 : Int32)), .val (.int xv), .val (.ref b1), .val (.int (0 : Int32)), .val (.int (2 : Int32)), .val (.int (1 : Int32)), .val (.int (1 : Int32)), .val (.int (2 : Int32)), .val (.int ((1 : Int32) + (1 : Int32))), .unset] [(.int (1 : Int32))]))
          refine Wp.via (fun _ k => XS.istore X38.here hx rfl (hb hby at_206) rfl (l' := #[.val (.int p0), .val (.int p1), .val (.int p2), .val (.int p3), .val (.int p4), .val (.int (10 : Int32)), .val (.int xv), .val (.ref b1), .val (.int (0 : Int32)), .val (.int (2 : Int32)), .val (.int (1 : Int32)), .val (.int (1 : Int32)), .val (.int (2 : Int32)), .val (.int ((1 : Int32) + (1 : Int32))), .unset]) rfl k) ?_
          show Wp p e below _ (T38.setTop (mkF m 208 #[.val (.int p0), .val (.int p1), .val (.int p2), .val (.int p3), .val (.int p4), .val (.int (10 : Int32)), .val (.int xv), .val (.ref b1), .val (.int (0 : Int32)), .val (.int (2 : Int32)), .val (.int (1 : Int32)), .val (.int (1 : Int32)), .val (.int (2 : Int32)), .val (.int ((1 : Int32) + (1 : Int32))), .unset] []))
          refine Wp.via (fun _ k => XS.aload X38.here hx rfl (hb hby at_208) rfl rfl k) ?_
          show Wp p e below _ (T38.setTop (mkF m 210 #[.val (.int p0), .val (.int p1), .val (.int p2), .val (.int p3), .val (.int p4), .val (.int (10 : Int32)), .val (.int xv), .val (.ref b1), .val (.int (0 : Int32)), .val (.int (2 : Int32)), .val (.int (1 : Int32)), .val (.int (1 : Int32)), .val (.int (2 : Int32)), .val (.int ((1 : Int32) + (1 : Int32))), .unset] [(.ref b1)]))
          refine Wp.via (fun _ k => XS.bipush X38.here hx rfl (hb hby at_210) k) ?_
          show Wp p e below _ (T38.setTop (mkF m 212 #[.val (.int p0), .val (.int p1), .val (.int p2), .val (.int p3), .val (.int p4), .val (.int (10 : Int32)), .val (.int xv), .val (.ref b1), .val (.int (0 : Int32)), .val (.int (2 : Int32)), .val (.int (1 : Int32)), .val (.int (1 : Int32)), .val (.int (2 : Int32)), .val (.int ((1 : Int32) + (1 : Int32))), .unset] [(.int (10 : Int32)), (.ref b1)]))
          obtain ⟨cq39, kq39, q39a, q39b, q39c⟩ := isOf hZ e38 c35
          obtain ⟨_, _, ⟨T39, L39, k39, n39⟩, -, X39, ⟨Lc39, hQ39, l39, y39, z39⟩, st39⟩ := X38.virtualBack hx (y := (⟨"com/example/chyld/chyld/LineColumn", "character", "(I)V"⟩ : MethodName)) (z := (⟨"com/example/chyld/chyld/LineColumn", "character", "(I)V"⟩ : MethodName)) hown (mvT hZ (hw _ (List.mem_of_getElem? (i := 24) rfl))) (mvT hZ (hw _ (List.mem_of_getElem? (i := 25) rfl))) (notFace_of_selects (args := #[]) (mvT hZ (hw _ (List.mem_of_getElem? (i := 27) rfl)))) (mvT hZ (hw _ (List.mem_of_getElem? (i := 27) rfl))) (mvT hZ (hw _ (List.mem_of_getElem? (i := 26) rfl))) (by decide) (backOf (W := 0) (rm5 l Z aw hw [] b1 (10 : Int32) (2 : Int32) ((1 : Int32) + (1 : Int32)) (0 : Int32) ((2 : Int32) + (1 : Int32)) (1 : Int32) (0 : Int32) T34.heap n0 zz36 c35 gn_b1 m8_line m8_column m8_afterCarriageReturn (by simp [own_l]) (by simp [own_k]) (by simp [own_r])) hZ (hw _ (List.mem_of_getElem? (i := 28) rfl)) (hw _ (List.mem_of_getElem? (i := 6) rfl)) (by decide) (by decide)) q39a q39c (g := (mkF m 212 #[.val (.int p0), .val (.int p1), .val (.int p2), .val (.int p3), .val (.int p4), .val (.int (10 : Int32)), .val (.int xv), .val (.ref b1), .val (.int (0 : Int32)), .val (.int (2 : Int32)), .val (.int (1 : Int32)), .val (.int (1 : Int32)), .val (.int (2 : Int32)), .val (.int ((1 : Int32) + (1 : Int32))), .unset] [(.int (10 : Int32)), (.ref b1)])) rfl (by rw [hml]; rfl) (Steps.refl _) (argsL := [(.int (10 : Int32))]) (rest := []) (lenOf own_pd2 rfl) rfl (by show 2 * 0 + _ ≤ _; exact Nat.le_of_eq rfl) (hb hby at_212) (fun _ _ => ⟨rfl, e38, (by decide : 1 + 0 ≤ _), (by decide : 3 + 0 ≤ _)⟩)
          dsimp only [Pt.U, Pt.locs, Pt.cells, Pt.slots] at X39 l39 y39 z39 st39 hQ39
          subst l39 y39 z39
          obtain ⟨rfl, N39, Kc39, Ec39, m9_line, m9_column, m9_afterCarriageReturn⟩ := hQ39
          have NF39 := Fr.app NF38 N39
          refine Wp.step st39 ?_
          have c40 := c35.keep Kc39
          have K39' := K34'.trans Kc39 (allS (Or.inr sz_b1) all0)
          have zz41 : n0 ≤ T39.heap.size := Nat.le_trans zz36 Kc39.1
          show Wp p e below _ (T39.setTop (mkF m 215 #[.val (.int p0), .val (.int p1), .val (.int p2), .val (.int p3), .val (.int p4), .val (.int (10 : Int32)), .val (.int xv), .val (.ref b1), .val (.int (0 : Int32)), .val (.int (2 : Int32)), .val (.int (1 : Int32)), .val (.int (1 : Int32)), .val (.int (2 : Int32)), .val (.int ((1 : Int32) + (1 : Int32))), .unset] []))
          refine Wp.via (fun _ k => XS.iload X39.here hx rfl (hb hby at_215) rfl k) ?_
          show Wp p e below _ (T39.setTop (mkF m 217 #[.val (.int p0), .val (.int p1), .val (.int p2), .val (.int p3), .val (.int p4), .val (.int (10 : Int32)), .val (.int xv), .val (.ref b1), .val (.int (0 : Int32)), .val (.int (2 : Int32)), .val (.int (1 : Int32)), .val (.int (1 : Int32)), .val (.int (2 : Int32)), .val (.int ((1 : Int32) + (1 : Int32))), .unset] [(.int xv)]))
          refine Wp.via (fun _ k => XS.bipush X39.here hx rfl (hb hby at_217) k) ?_
          show Wp p e below _ (T39.setTop (mkF m 219 #[.val (.int p0), .val (.int p1), .val (.int p2), .val (.int p3), .val (.int p4), .val (.int (10 : Int32)), .val (.int xv), .val (.ref b1), .val (.int (0 : Int32)), .val (.int (2 : Int32)), .val (.int (1 : Int32)), .val (.int (1 : Int32)), .val (.int (2 : Int32)), .val (.int ((1 : Int32) + (1 : Int32))), .unset] [(.int (13 : Int32)), (.int xv)]))
          refine Wp.via (fun _ k => XS.icmpYes X39.here hx rfl (pc0 := 219) (pc' := 227) rfl (hb hby at_219) rfl (feq d2).2 (by decide) (by decide) k) ?_
          show Wp p e below _ (T39.setTop (mkF m 227 #[.val (.int p0), .val (.int p1), .val (.int p2), .val (.int p3), .val (.int p4), .val (.int (10 : Int32)), .val (.int xv), .val (.ref b1), .val (.int (0 : Int32)), .val (.int (2 : Int32)), .val (.int (1 : Int32)), .val (.int (1 : Int32)), .val (.int (2 : Int32)), .val (.int ((1 : Int32) + (1 : Int32))), .unset] []))
          refine Wp.via (fun _ k => XS.iload X39.here hx rfl (hb hby at_227) rfl k) ?_
          show Wp p e below _ (T39.setTop (mkF m 229 #[.val (.int p0), .val (.int p1), .val (.int p2), .val (.int p3), .val (.int p4), .val (.int (10 : Int32)), .val (.int xv), .val (.ref b1), .val (.int (0 : Int32)), .val (.int (2 : Int32)), .val (.int (1 : Int32)), .val (.int (1 : Int32)), .val (.int (2 : Int32)), .val (.int ((1 : Int32) + (1 : Int32))), .unset] [(.int (2 : Int32))]))
          refine Wp.via (fun _ k => XS.iconst X39.here hx rfl (hb hby at_229) k) ?_
          show Wp p e below _ (T39.setTop (mkF m 230 #[.val (.int p0), .val (.int p1), .val (.int p2), .val (.int p3), .val (.int p4), .val (.int (10 : Int32)), .val (.int xv), .val (.ref b1), .val (.int (0 : Int32)), .val (.int (2 : Int32)), .val (.int (1 : Int32)), .val (.int (1 : Int32)), .val (.int (2 : Int32)), .val (.int ((1 : Int32) + (1 : Int32))), .unset] [(.int (1 : Int32)), (.int (2 : Int32))]))
          refine Wp.via (fun _ k => XS.iadd X39.here hx rfl (hb hby at_230) rfl k) ?_
          show Wp p e below _ (T39.setTop (mkF m 231 #[.val (.int p0), .val (.int p1), .val (.int p2), .val (.int p3), .val (.int p4), .val (.int (10 : Int32)), .val (.int xv), .val (.ref b1), .val (.int (0 : Int32)), .val (.int (2 : Int32)), .val (.int (1 : Int32)), .val (.int (1 : Int32)), .val (.int (2 : Int32)), .val (.int ((1 : Int32) + (1 : Int32))), .unset] [(.int ((2 : Int32) + (1 : Int32)))]))
          refine Wp.via (fun _ k => XS.istore X39.here hx rfl (hb hby at_231) rfl (l' := #[.val (.int p0), .val (.int p1), .val (.int p2), .val (.int p3), .val (.int p4), .val (.int (10 : Int32)), .val (.int xv), .val (.ref b1), .val (.int (0 : Int32)), .val (.int (2 : Int32)), .val (.int (1 : Int32)), .val (.int (1 : Int32)), .val (.int (2 : Int32)), .val (.int ((1 : Int32) + (1 : Int32))), .val (.int ((2 : Int32) + (1 : Int32)))]) rfl k) ?_
          show Wp p e below _ (T39.setTop (mkF m 233 #[.val (.int p0), .val (.int p1), .val (.int p2), .val (.int p3), .val (.int p4), .val (.int (10 : Int32)), .val (.int xv), .val (.ref b1), .val (.int (0 : Int32)), .val (.int (2 : Int32)), .val (.int (1 : Int32)), .val (.int (1 : Int32)), .val (.int (2 : Int32)), .val (.int ((1 : Int32) + (1 : Int32))), .val (.int ((2 : Int32) + (1 : Int32)))] []))
          refine Wp.via (fun _ k => XS.iload X39.here hx rfl (hb hby at_233) rfl k) ?_
          show Wp p e below _ (T39.setTop (mkF m 235 #[.val (.int p0), .val (.int p1), .val (.int p2), .val (.int p3), .val (.int p4), .val (.int (10 : Int32)), .val (.int xv), .val (.ref b1), .val (.int (0 : Int32)), .val (.int (2 : Int32)), .val (.int (1 : Int32)), .val (.int (1 : Int32)), .val (.int (2 : Int32)), .val (.int ((1 : Int32) + (1 : Int32))), .val (.int ((2 : Int32) + (1 : Int32)))] [(.int (1 : Int32))]))
          refine Wp.via (fun _ k => XS.ifNo X39.here hx rfl (hb hby at_235) rfl ((if0 _ _).trans (feq (by decide)).1) k) ?_
          show Wp p e below _ (T39.setTop (mkF m 238 #[.val (.int p0), .val (.int p1), .val (.int p2), .val (.int p3), .val (.int p4), .val (.int (10 : Int32)), .val (.int xv), .val (.ref b1), .val (.int (0 : Int32)), .val (.int (2 : Int32)), .val (.int (1 : Int32)), .val (.int (1 : Int32)), .val (.int (2 : Int32)), .val (.int ((1 : Int32) + (1 : Int32))), .val (.int ((2 : Int32) + (1 : Int32)))] []))
          refine Wp.via (fun _ k => XS.aload X39.here hx rfl (hb hby at_238) rfl rfl k) ?_
          show Wp p e below _ (T39.setTop (mkF m 240 #[.val (.int p0), .val (.int p1), .val (.int p2), .val (.int p3), .val (.int p4), .val (.int (10 : Int32)), .val (.int xv), .val (.ref b1), .val (.int (0 : Int32)), .val (.int (2 : Int32)), .val (.int (1 : Int32)), .val (.int (1 : Int32)), .val (.int (2 : Int32)), .val (.int ((1 : Int32) + (1 : Int32))), .val (.int ((2 : Int32) + (1 : Int32)))] [(.ref b1)]))
          obtain ⟨cq42, kq42, q42a, q42b, q42c⟩ := isOf hZ rfl c40
          obtain ⟨_, _, ⟨T42, L42, k42, n42⟩, -, X42, ⟨Lc42, hQ42, l42, y42, z42⟩, st42⟩ := X39.virtualBack hx (y := (⟨"com/example/chyld/chyld/LineColumn", "line", "()I"⟩ : MethodName)) (z := (⟨"com/example/chyld/chyld/LineColumn", "line", "()I"⟩ : MethodName)) hown (mvT hZ (hw _ (List.mem_of_getElem? (i := 29) rfl))) (mvT hZ (hw _ (List.mem_of_getElem? (i := 30) rfl))) (notFace_of_selects (args := #[]) (mvT hZ (hw _ (List.mem_of_getElem? (i := 32) rfl)))) (mvT hZ (hw _ (List.mem_of_getElem? (i := 32) rfl))) (mvT hZ (hw _ (List.mem_of_getElem? (i := 31) rfl))) (by decide) (backOf (W := 0) (rm6 l Z aw hw [] b1 ((2 : Int32) + (1 : Int32)) T39.heap n0 zz41 m9_line) hZ (hw _ (List.mem_of_getElem? (i := 33) rfl)) (hw _ (List.mem_of_getElem? (i := 6) rfl)) (by decide) (by decide)) q42a q42c (g := (mkF m 240 #[.val (.int p0), .val (.int p1), .val (.int p2), .val (.int p3), .val (.int p4), .val (.int (10 : Int32)), .val (.int xv), .val (.ref b1), .val (.int (0 : Int32)), .val (.int (2 : Int32)), .val (.int (1 : Int32)), .val (.int (1 : Int32)), .val (.int (2 : Int32)), .val (.int ((1 : Int32) + (1 : Int32))), .val (.int ((2 : Int32) + (1 : Int32)))] [(.ref b1)])) rfl (by rw [hml]; rfl) (Steps.refl _) (argsL := []) (rest := []) (lenOf own_pd3 rfl) rfl (by show 2 * 0 + _ ≤ _; exact Nat.le_of_eq rfl) (hb hby at_240) (fun _ _ => ⟨rfl, rfl, (by decide : 1 + 0 ≤ _), (by decide : 3 + 0 ≤ _)⟩)
          dsimp only [Pt.U, Pt.locs, Pt.cells, Pt.slots] at X42 l42 y42 z42 st42 hQ42
          subst l42 y42 z42
          obtain ⟨rfl, N42, e42⟩ := hQ42
          have NF42 := Fr.app NF39 N42
          refine Wp.step st42 ?_
          show Wp p e below _ (T42.setTop (mkF m 243 #[.val (.int p0), .val (.int p1), .val (.int p2), .val (.int p3), .val (.int p4), .val (.int (10 : Int32)), .val (.int xv), .val (.ref b1), .val (.int (0 : Int32)), .val (.int (2 : Int32)), .val (.int (1 : Int32)), .val (.int (1 : Int32)), .val (.int (2 : Int32)), .val (.int ((1 : Int32) + (1 : Int32))), .val (.int ((2 : Int32) + (1 : Int32)))] [(.int ((2 : Int32) + (1 : Int32)))]))
          refine Wp.via (fun _ k => XS.iload X42.here hx rfl (hb hby at_243) rfl k) ?_
          show Wp p e below _ (T42.setTop (mkF m 245 #[.val (.int p0), .val (.int p1), .val (.int p2), .val (.int p3), .val (.int p4), .val (.int (10 : Int32)), .val (.int xv), .val (.ref b1), .val (.int (0 : Int32)), .val (.int (2 : Int32)), .val (.int (1 : Int32)), .val (.int (1 : Int32)), .val (.int (2 : Int32)), .val (.int ((1 : Int32) + (1 : Int32))), .val (.int ((2 : Int32) + (1 : Int32)))] [(.int ((2 : Int32) + (1 : Int32))), (.int ((2 : Int32) + (1 : Int32)))]))
          refine Wp.via (fun _ k => XS.icmpNo X42.here hx rfl (hb hby at_245) rfl (teq rfl).2 k) ?_
          show Wp p e below _ (T42.setTop (mkF m 248 #[.val (.int p0), .val (.int p1), .val (.int p2), .val (.int p3), .val (.int p4), .val (.int (10 : Int32)), .val (.int xv), .val (.ref b1), .val (.int (0 : Int32)), .val (.int (2 : Int32)), .val (.int (1 : Int32)), .val (.int (1 : Int32)), .val (.int (2 : Int32)), .val (.int ((1 : Int32) + (1 : Int32))), .val (.int ((2 : Int32) + (1 : Int32)))] []))
          refine Wp.via (fun _ k => XS.aload X42.here hx rfl (hb hby at_248) rfl rfl k) ?_
          show Wp p e below _ (T42.setTop (mkF m 250 #[.val (.int p0), .val (.int p1), .val (.int p2), .val (.int p3), .val (.int p4), .val (.int (10 : Int32)), .val (.int xv), .val (.ref b1), .val (.int (0 : Int32)), .val (.int (2 : Int32)), .val (.int (1 : Int32)), .val (.int (1 : Int32)), .val (.int (2 : Int32)), .val (.int ((1 : Int32) + (1 : Int32))), .val (.int ((2 : Int32) + (1 : Int32)))] [(.ref b1)]))
          obtain ⟨cq43, kq43, q43a, q43b, q43c⟩ := isOf hZ e42 c40
          obtain ⟨_, _, ⟨T43, L43, k43, n43⟩, -, X43, ⟨Lc43, hQ43, l43, y43, z43⟩, st43⟩ := X42.virtualBack hx (y := (⟨"com/example/chyld/chyld/LineColumn", "column", "()I"⟩ : MethodName)) (z := (⟨"com/example/chyld/chyld/LineColumn", "column", "()I"⟩ : MethodName)) hown (mvT hZ (hw _ (List.mem_of_getElem? (i := 34) rfl))) (mvT hZ (hw _ (List.mem_of_getElem? (i := 35) rfl))) (notFace_of_selects (args := #[]) (mvT hZ (hw _ (List.mem_of_getElem? (i := 37) rfl)))) (mvT hZ (hw _ (List.mem_of_getElem? (i := 37) rfl))) (mvT hZ (hw _ (List.mem_of_getElem? (i := 36) rfl))) (by decide) (backOf (W := 0) (rm7 l Z aw hw [] b1 (1 : Int32) T39.heap n0 zz41 m9_column) hZ (hw _ (List.mem_of_getElem? (i := 38) rfl)) (hw _ (List.mem_of_getElem? (i := 6) rfl)) (by decide) (by decide)) q43a q43c (g := (mkF m 250 #[.val (.int p0), .val (.int p1), .val (.int p2), .val (.int p3), .val (.int p4), .val (.int (10 : Int32)), .val (.int xv), .val (.ref b1), .val (.int (0 : Int32)), .val (.int (2 : Int32)), .val (.int (1 : Int32)), .val (.int (1 : Int32)), .val (.int (2 : Int32)), .val (.int ((1 : Int32) + (1 : Int32))), .val (.int ((2 : Int32) + (1 : Int32)))] [(.ref b1)])) rfl (by rw [hml]; rfl) (Steps.refl _) (argsL := []) (rest := []) (lenOf own_pd3 rfl) rfl (by show 2 * 0 + _ ≤ _; exact Nat.le_of_eq rfl) (hb hby at_250) (fun _ _ => ⟨rfl, e42, (by decide : 1 + 0 ≤ _), (by decide : 3 + 0 ≤ _)⟩)
          dsimp only [Pt.U, Pt.locs, Pt.cells, Pt.slots] at X43 l43 y43 z43 st43 hQ43
          subst l43 y43 z43
          obtain ⟨rfl, N43, e43⟩ := hQ43
          have NF43 := Fr.app NF42 N43
          refine Wp.step st43 ?_
          show Wp p e below _ (T43.setTop (mkF m 253 #[.val (.int p0), .val (.int p1), .val (.int p2), .val (.int p3), .val (.int p4), .val (.int (10 : Int32)), .val (.int xv), .val (.ref b1), .val (.int (0 : Int32)), .val (.int (2 : Int32)), .val (.int (1 : Int32)), .val (.int (1 : Int32)), .val (.int (2 : Int32)), .val (.int ((1 : Int32) + (1 : Int32))), .val (.int ((2 : Int32) + (1 : Int32)))] [(.int (1 : Int32))]))
          refine Wp.via (fun _ k => XS.iconst X43.here hx rfl (hb hby at_253) k) ?_
          show Wp p e below _ (T43.setTop (mkF m 254 #[.val (.int p0), .val (.int p1), .val (.int p2), .val (.int p3), .val (.int p4), .val (.int (10 : Int32)), .val (.int xv), .val (.ref b1), .val (.int (0 : Int32)), .val (.int (2 : Int32)), .val (.int (1 : Int32)), .val (.int (1 : Int32)), .val (.int (2 : Int32)), .val (.int ((1 : Int32) + (1 : Int32))), .val (.int ((2 : Int32) + (1 : Int32)))] [(.int (1 : Int32)), (.int (1 : Int32))]))
          refine Wp.via (fun _ k => XS.icmpNo X43.here hx rfl (hb hby at_254) rfl (teq (by decide)).2 k) ?_
          show Wp p e below _ (T43.setTop (mkF m 257 #[.val (.int p0), .val (.int p1), .val (.int p2), .val (.int p3), .val (.int p4), .val (.int (10 : Int32)), .val (.int xv), .val (.ref b1), .val (.int (0 : Int32)), .val (.int (2 : Int32)), .val (.int (1 : Int32)), .val (.int (1 : Int32)), .val (.int (2 : Int32)), .val (.int ((1 : Int32) + (1 : Int32))), .val (.int ((2 : Int32) + (1 : Int32)))] []))
          refine Wp.via (fun _ k => XS.iconst X43.here hx rfl (hb hby at_257) k) ?_
          show Wp p e below _ (T43.setTop (mkF m 258 #[.val (.int p0), .val (.int p1), .val (.int p2), .val (.int p3), .val (.int p4), .val (.int (10 : Int32)), .val (.int xv), .val (.ref b1), .val (.int (0 : Int32)), .val (.int (2 : Int32)), .val (.int (1 : Int32)), .val (.int (1 : Int32)), .val (.int (2 : Int32)), .val (.int ((1 : Int32) + (1 : Int32))), .val (.int ((2 : Int32) + (1 : Int32)))] [(.int (1 : Int32))]))
          refine Wp.via (fun _ k => XS.goto X43.here hx rfl (pc0 := 258) (pc' := 262) rfl (hb hby at_258) (by decide) (by decide) k) ?_
          show Wp p e below _ (T43.setTop (mkF m 262 #[.val (.int p0), .val (.int p1), .val (.int p2), .val (.int p3), .val (.int p4), .val (.int (10 : Int32)), .val (.int xv), .val (.ref b1), .val (.int (0 : Int32)), .val (.int (2 : Int32)), .val (.int (1 : Int32)), .val (.int (1 : Int32)), .val (.int (2 : Int32)), .val (.int ((1 : Int32) + (1 : Int32))), .val (.int ((2 : Int32) + (1 : Int32)))] [(.int (1 : Int32))]))
          refine Wp.via (fun _ k => XS.istore X43.here hx rfl (hb hby at_262) rfl (l' := #[.val (.int p0), .val (.int p1), .val (.int p2), .val (.int p3), .val (.int p4), .val (.int (10 : Int32)), .val (.int xv), .val (.ref b1), .val (.int (0 : Int32)), .val (.int (2 : Int32)), .val (.int (1 : Int32)), .val (.int (1 : Int32)), .val (.int (2 : Int32)), .val (.int ((1 : Int32) + (1 : Int32))), .val (.int ((2 : Int32) + (1 : Int32)))]) rfl k) ?_
          show Wp p e below _ (T43.setTop (mkF m 264 #[.val (.int p0), .val (.int p1), .val (.int p2), .val (.int p3), .val (.int p4), .val (.int (10 : Int32)), .val (.int xv), .val (.ref b1), .val (.int (0 : Int32)), .val (.int (2 : Int32)), .val (.int (1 : Int32)), .val (.int (1 : Int32)), .val (.int (2 : Int32)), .val (.int ((1 : Int32) + (1 : Int32))), .val (.int ((2 : Int32) + (1 : Int32)))] []))
          refine Wp.via (fun _ k => XS.iload X43.here hx rfl (hb hby at_264) rfl k) ?_
          show Wp p e below _ (T43.setTop (mkF m 266 #[.val (.int p0), .val (.int p1), .val (.int p2), .val (.int p3), .val (.int p4), .val (.int (10 : Int32)), .val (.int xv), .val (.ref b1), .val (.int (0 : Int32)), .val (.int (2 : Int32)), .val (.int (1 : Int32)), .val (.int (1 : Int32)), .val (.int (2 : Int32)), .val (.int ((1 : Int32) + (1 : Int32))), .val (.int ((2 : Int32) + (1 : Int32)))] [(.int (1 : Int32))]))
          exact Wp.retI X43 hlk hx hret (by simp) (by first | rfl | decide) (hb hby at_266) ⟨rfl, NF43⟩ (by decide) (by decide)
    ·
      by_cases a2 : pv = (13 : Int32)
      ·
        subst a2
        show Wp p e below _ (T6.setTop (mkF m 34 #[.val (.int p0), .val (.int p1), .val (.int p2), .val (.int p3), .val (.int p4), .val (.int (13 : Int32)), .val (.int xv), .val (.ref b1), .unset, .unset, .unset, .unset, .unset, .unset, .unset] [(.int (13 : Int32)), (.ref b1)]))
        obtain ⟨cq44, kq44, q44a, q44b, q44c⟩ := isOf hZ rfl c7
        obtain ⟨_, _, ⟨T44, L44, k44, n44⟩, -, X44, ⟨Lc44, hQ44, l44, y44, z44⟩, st44⟩ := X6.virtualBack hx (y := (⟨"com/example/chyld/chyld/LineColumn", "character", "(I)V"⟩ : MethodName)) (z := (⟨"com/example/chyld/chyld/LineColumn", "character", "(I)V"⟩ : MethodName)) hown (mvT hZ (hw _ (List.mem_of_getElem? (i := 24) rfl))) (mvT hZ (hw _ (List.mem_of_getElem? (i := 25) rfl))) (notFace_of_selects (args := #[]) (mvT hZ (hw _ (List.mem_of_getElem? (i := 27) rfl)))) (mvT hZ (hw _ (List.mem_of_getElem? (i := 27) rfl))) (mvT hZ (hw _ (List.mem_of_getElem? (i := 26) rfl))) (by decide) (backOf (W := 0) (rm5 l Z aw hw [] b1 (13 : Int32) (1 : Int32) ((1 : Int32) + p0) (0 : Int32) (2 : Int32) (1 : Int32) (1 : Int32) T6.heap n0 zz8 c7 gn_b1 m2_line m2_column m2_afterCarriageReturn (by simp [own_l]) (by simp [own_k]) (by simp [own_r])) hZ (hw _ (List.mem_of_getElem? (i := 28) rfl)) (hw _ (List.mem_of_getElem? (i := 6) rfl)) (by decide) (by decide)) q44a q44c (g := (mkF m 34 #[.val (.int p0), .val (.int p1), .val (.int p2), .val (.int p3), .val (.int p4), .val (.int (13 : Int32)), .val (.int xv), .val (.ref b1), .unset, .unset, .unset, .unset, .unset, .unset, .unset] [(.int (13 : Int32)), (.ref b1)])) rfl (by rw [hml]; rfl) (Steps.refl _) (argsL := [(.int (13 : Int32))]) (rest := []) (lenOf own_pd2 rfl) rfl (by show 2 * 0 + _ ≤ _; exact Nat.le_of_eq rfl) (hb hby at_34) (fun _ _ => ⟨rfl, rfl, (by decide : 1 + 0 ≤ _), (by decide : 3 + 0 ≤ _)⟩)
        dsimp only [Pt.U, Pt.locs, Pt.cells, Pt.slots] at X44 l44 y44 z44 st44 hQ44
        subst l44 y44 z44
        obtain ⟨rfl, N44, Kc44, Ec44, m10_line, m10_column, m10_afterCarriageReturn⟩ := hQ44
        have NF44 := Fr.app NF6 N44
        refine Wp.step st44 ?_
        have c45 := c7.keep Kc44
        have K44' := K6'.trans Kc44 (allS (Or.inr sz_b1) all0)
        have zz46 : n0 ≤ T44.heap.size := Nat.le_trans zz8 Kc44.1
        show Wp p e below _ (T44.setTop (mkF m 37 #[.val (.int p0), .val (.int p1), .val (.int p2), .val (.int p3), .val (.int p4), .val (.int (13 : Int32)), .val (.int xv), .val (.ref b1), .unset, .unset, .unset, .unset, .unset, .unset, .unset] []))
        refine Wp.via (fun _ k => XS.iload X44.here hx rfl (hb hby at_37) rfl k) ?_
        show Wp p e below _ (T44.setTop (mkF m 39 #[.val (.int p0), .val (.int p1), .val (.int p2), .val (.int p3), .val (.int p4), .val (.int (13 : Int32)), .val (.int xv), .val (.ref b1), .unset, .unset, .unset, .unset, .unset, .unset, .unset] [(.int (13 : Int32))]))
        refine Wp.via (fun _ k => XS.bipush X44.here hx rfl (hb hby at_39) k) ?_
        show Wp p e below _ (T44.setTop (mkF m 41 #[.val (.int p0), .val (.int p1), .val (.int p2), .val (.int p3), .val (.int p4), .val (.int (13 : Int32)), .val (.int xv), .val (.ref b1), .unset, .unset, .unset, .unset, .unset, .unset, .unset] [(.int (13 : Int32)), (.int (13 : Int32))]))
        refine Wp.via (fun _ k => XS.icmpNo X44.here hx rfl (hb hby at_41) rfl (teq (by decide)).2 k) ?_
        show Wp p e below _ (T44.setTop (mkF m 44 #[.val (.int p0), .val (.int p1), .val (.int p2), .val (.int p3), .val (.int p4), .val (.int (13 : Int32)), .val (.int xv), .val (.ref b1), .unset, .unset, .unset, .unset, .unset, .unset, .unset] []))
        refine Wp.via (fun _ k => XS.iconst X44.here hx rfl (hb hby at_44) k) ?_
        show Wp p e below _ (T44.setTop (mkF m 45 #[.val (.int p0), .val (.int p1), .val (.int p2), .val (.int p3), .val (.int p4), .val (.int (13 : Int32)), .val (.int xv), .val (.ref b1), .unset, .unset, .unset, .unset, .unset, .unset, .unset] [(.int (1 : Int32))]))
        refine Wp.via (fun _ k => XS.goto X44.here hx rfl (pc0 := 45) (pc' := 49) rfl (hb hby at_45) (by decide) (by decide) k) ?_
        show Wp p e below _ (T44.setTop (mkF m 49 #[.val (.int p0), .val (.int p1), .val (.int p2), .val (.int p3), .val (.int p4), .val (.int (13 : Int32)), .val (.int xv), .val (.ref b1), .unset, .unset, .unset, .unset, .unset, .unset, .unset] [(.int (1 : Int32))]))
        refine Wp.via (fun _ k => XS.istore X44.here hx rfl (hb hby at_49) rfl (l' := #[.val (.int p0), .val (.int p1), .val (.int p2), .val (.int p3), .val (.int p4), .val (.int (13 : Int32)), .val (.int xv), .val (.ref b1), .val (.int (1 : Int32)), .unset, .unset, .unset, .unset, .unset, .unset]) rfl k) ?_
        show Wp p e below _ (T44.setTop (mkF m 51 #[.val (.int p0), .val (.int p1), .val (.int p2), .val (.int p3), .val (.int p4), .val (.int (13 : Int32)), .val (.int xv), .val (.ref b1), .val (.int (1 : Int32)), .unset, .unset, .unset, .unset, .unset, .unset] []))
        refine Wp.via (fun _ k => XS.iload X44.here hx rfl (hb hby at_51) rfl k) ?_
        show Wp p e below _ (T44.setTop (mkF m 53 #[.val (.int p0), .val (.int p1), .val (.int p2), .val (.int p3), .val (.int p4), .val (.int (13 : Int32)), .val (.int xv), .val (.ref b1), .val (.int (1 : Int32)), .unset, .unset, .unset, .unset, .unset, .unset] [(.int (13 : Int32))]))
        refine Wp.via (fun _ k => XS.bipush X44.here hx rfl (hb hby at_53) k) ?_
        show Wp p e below _ (T44.setTop (mkF m 55 #[.val (.int p0), .val (.int p1), .val (.int p2), .val (.int p3), .val (.int p4), .val (.int (13 : Int32)), .val (.int xv), .val (.ref b1), .val (.int (1 : Int32)), .unset, .unset, .unset, .unset, .unset, .unset] [(.int (10 : Int32)), (.int (13 : Int32))]))
        refine Wp.via (fun _ k => XS.icmpNo X44.here hx rfl (hb hby at_55) rfl (feq (by decide)).1 k) ?_
        show Wp p e below _ (T44.setTop (mkF m 58 #[.val (.int p0), .val (.int p1), .val (.int p2), .val (.int p3), .val (.int p4), .val (.int (13 : Int32)), .val (.int xv), .val (.ref b1), .val (.int (1 : Int32)), .unset, .unset, .unset, .unset, .unset, .unset] []))
        refine Wp.via (fun _ k => XS.iload X44.here hx rfl (hb hby at_58) rfl k) ?_
        show Wp p e below _ (T44.setTop (mkF m 60 #[.val (.int p0), .val (.int p1), .val (.int p2), .val (.int p3), .val (.int p4), .val (.int (13 : Int32)), .val (.int xv), .val (.ref b1), .val (.int (1 : Int32)), .unset, .unset, .unset, .unset, .unset, .unset] [(.int (13 : Int32))]))
        refine Wp.via (fun _ k => XS.bipush X44.here hx rfl (hb hby at_60) k) ?_
        show Wp p e below _ (T44.setTop (mkF m 62 #[.val (.int p0), .val (.int p1), .val (.int p2), .val (.int p3), .val (.int p4), .val (.int (13 : Int32)), .val (.int xv), .val (.ref b1), .val (.int (1 : Int32)), .unset, .unset, .unset, .unset, .unset, .unset] [(.int (13 : Int32)), (.int (13 : Int32))]))
        refine Wp.via (fun _ k => XS.icmpNo X44.here hx rfl (hb hby at_62) rfl (teq (by decide)).2 k) ?_
        show Wp p e below _ (T44.setTop (mkF m 65 #[.val (.int p0), .val (.int p1), .val (.int p2), .val (.int p3), .val (.int p4), .val (.int (13 : Int32)), .val (.int xv), .val (.ref b1), .val (.int (1 : Int32)), .unset, .unset, .unset, .unset, .unset, .unset] []))
        refine Wp.via (fun _ k => XS.iconst X44.here hx rfl (hb hby at_65) k) ?_
        show Wp p e below _ (T44.setTop (mkF m 66 #[.val (.int p0), .val (.int p1), .val (.int p2), .val (.int p3), .val (.int p4), .val (.int (13 : Int32)), .val (.int xv), .val (.ref b1), .val (.int (1 : Int32)), .unset, .unset, .unset, .unset, .unset, .unset] [(.int (2 : Int32))]))
        refine Wp.via (fun _ k => XS.istore X44.here hx rfl (hb hby at_66) rfl (l' := #[.val (.int p0), .val (.int p1), .val (.int p2), .val (.int p3), .val (.int p4), .val (.int (13 : Int32)), .val (.int xv), .val (.ref b1), .val (.int (1 : Int32)), .val (.int (2 : Int32)), .unset, .unset, .unset, .unset, .unset]) rfl k) ?_
        show Wp p e below _ (T44.setTop (mkF m 68 #[.val (.int p0), .val (.int p1), .val (.int p2), .val (.int p3), .val (.int p4), .val (.int (13 : Int32)), .val (.int xv), .val (.ref b1), .val (.int (1 : Int32)), .val (.int (2 : Int32)), .unset, .unset, .unset, .unset, .unset] []))
        refine Wp.via (fun _ k => XS.iconst X44.here hx rfl (hb hby at_68) k) ?_
        show Wp p e below _ (T44.setTop (mkF m 69 #[.val (.int p0), .val (.int p1), .val (.int p2), .val (.int p3), .val (.int p4), .val (.int (13 : Int32)), .val (.int xv), .val (.ref b1), .val (.int (1 : Int32)), .val (.int (2 : Int32)), .unset, .unset, .unset, .unset, .unset] [(.int (1 : Int32))]))
        refine Wp.via (fun _ k => XS.istore X44.here hx rfl (hb hby at_69) rfl (l' := #[.val (.int p0), .val (.int p1), .val (.int p2), .val (.int p3), .val (.int p4), .val (.int (13 : Int32)), .val (.int xv), .val (.ref b1), .val (.int (1 : Int32)), .val (.int (2 : Int32)), .val (.int (1 : Int32)), .unset, .unset, .unset, .unset]) rfl k) ?_
        show Wp p e below _ (T44.setTop (mkF m 71 #[.val (.int p0), .val (.int p1), .val (.int p2), .val (.int p3), .val (.int p4), .val (.int (13 : Int32)), .val (.int xv), .val (.ref b1), .val (.int (1 : Int32)), .val (.int (2 : Int32)), .val (.int (1 : Int32)), .unset, .unset, .unset, .unset] []))
        refine Wp.via (fun _ k => XS.goto X44.here hx rfl (pc0 := 71) (pc' := 84) rfl (hb hby at_71) (by decide) (by decide) k) ?_
        show Wp p e below _ (T44.setTop (mkF m 84 #[.val (.int p0), .val (.int p1), .val (.int p2), .val (.int p3), .val (.int p4), .val (.int (13 : Int32)), .val (.int xv), .val (.ref b1), .val (.int (1 : Int32)), .val (.int (2 : Int32)), .val (.int (1 : Int32)), .unset, .unset, .unset, .unset] []))
        refine Wp.via (fun _ k => XS.aload X44.here hx rfl (hb hby at_84) rfl rfl k) ?_
        show Wp p e below _ (T44.setTop (mkF m 86 #[.val (.int p0), .val (.int p1), .val (.int p2), .val (.int p3), .val (.int p4), .val (.int (13 : Int32)), .val (.int xv), .val (.ref b1), .val (.int (1 : Int32)), .val (.int (2 : Int32)), .val (.int (1 : Int32)), .unset, .unset, .unset, .unset] [(.ref b1)]))
        obtain ⟨cq47, kq47, q47a, q47b, q47c⟩ := isOf hZ rfl c45
        obtain ⟨_, _, ⟨T47, L47, k47, n47⟩, -, X47, ⟨Lc47, hQ47, l47, y47, z47⟩, st47⟩ := X44.virtualBack hx (y := (⟨"com/example/chyld/chyld/LineColumn", "line", "()I"⟩ : MethodName)) (z := (⟨"com/example/chyld/chyld/LineColumn", "line", "()I"⟩ : MethodName)) hown (mvT hZ (hw _ (List.mem_of_getElem? (i := 29) rfl))) (mvT hZ (hw _ (List.mem_of_getElem? (i := 30) rfl))) (notFace_of_selects (args := #[]) (mvT hZ (hw _ (List.mem_of_getElem? (i := 32) rfl)))) (mvT hZ (hw _ (List.mem_of_getElem? (i := 32) rfl))) (mvT hZ (hw _ (List.mem_of_getElem? (i := 31) rfl))) (by decide) (backOf (W := 0) (rm6 l Z aw hw [] b1 (2 : Int32) T44.heap n0 zz46 m10_line) hZ (hw _ (List.mem_of_getElem? (i := 33) rfl)) (hw _ (List.mem_of_getElem? (i := 6) rfl)) (by decide) (by decide)) q47a q47c (g := (mkF m 86 #[.val (.int p0), .val (.int p1), .val (.int p2), .val (.int p3), .val (.int p4), .val (.int (13 : Int32)), .val (.int xv), .val (.ref b1), .val (.int (1 : Int32)), .val (.int (2 : Int32)), .val (.int (1 : Int32)), .unset, .unset, .unset, .unset] [(.ref b1)])) rfl (by rw [hml]; rfl) (Steps.refl _) (argsL := []) (rest := []) (lenOf own_pd3 rfl) rfl (by show 2 * 0 + _ ≤ _; exact Nat.le_of_eq rfl) (hb hby at_86) (fun _ _ => ⟨rfl, rfl, (by decide : 1 + 0 ≤ _), (by decide : 3 + 0 ≤ _)⟩)
        dsimp only [Pt.U, Pt.locs, Pt.cells, Pt.slots] at X47 l47 y47 z47 st47 hQ47
        subst l47 y47 z47
        obtain ⟨rfl, N47, e47⟩ := hQ47
        have NF47 := Fr.app NF44 N47
        refine Wp.step st47 ?_
        show Wp p e below _ (T47.setTop (mkF m 89 #[.val (.int p0), .val (.int p1), .val (.int p2), .val (.int p3), .val (.int p4), .val (.int (13 : Int32)), .val (.int xv), .val (.ref b1), .val (.int (1 : Int32)), .val (.int (2 : Int32)), .val (.int (1 : Int32)), .unset, .unset, .unset, .unset] [(.int (2 : Int32))]))
        refine Wp.via (fun _ k => XS.iload X47.here hx rfl (hb hby at_89) rfl k) ?_
        show Wp p e below _ (T47.setTop (mkF m 91 #[.val (.int p0), .val (.int p1), .val (.int p2), .val (.int p3), .val (.int p4), .val (.int (13 : Int32)), .val (.int xv), .val (.ref b1), .val (.int (1 : Int32)), .val (.int (2 : Int32)), .val (.int (1 : Int32)), .unset, .unset, .unset, .unset] [(.int (2 : Int32)), (.int (2 : Int32))]))
        refine Wp.via (fun _ k => XS.icmpNo X47.here hx rfl (hb hby at_91) rfl (teq (by decide)).2 k) ?_
        show Wp p e below _ (T47.setTop (mkF m 94 #[.val (.int p0), .val (.int p1), .val (.int p2), .val (.int p3), .val (.int p4), .val (.int (13 : Int32)), .val (.int xv), .val (.ref b1), .val (.int (1 : Int32)), .val (.int (2 : Int32)), .val (.int (1 : Int32)), .unset, .unset, .unset, .unset] []))
        refine Wp.via (fun _ k => XS.aload X47.here hx rfl (hb hby at_94) rfl rfl k) ?_
        show Wp p e below _ (T47.setTop (mkF m 96 #[.val (.int p0), .val (.int p1), .val (.int p2), .val (.int p3), .val (.int p4), .val (.int (13 : Int32)), .val (.int xv), .val (.ref b1), .val (.int (1 : Int32)), .val (.int (2 : Int32)), .val (.int (1 : Int32)), .unset, .unset, .unset, .unset] [(.ref b1)]))
        obtain ⟨cq48, kq48, q48a, q48b, q48c⟩ := isOf hZ e47 c45
        obtain ⟨_, _, ⟨T48, L48, k48, n48⟩, -, X48, ⟨Lc48, hQ48, l48, y48, z48⟩, st48⟩ := X47.virtualBack hx (y := (⟨"com/example/chyld/chyld/LineColumn", "column", "()I"⟩ : MethodName)) (z := (⟨"com/example/chyld/chyld/LineColumn", "column", "()I"⟩ : MethodName)) hown (mvT hZ (hw _ (List.mem_of_getElem? (i := 34) rfl))) (mvT hZ (hw _ (List.mem_of_getElem? (i := 35) rfl))) (notFace_of_selects (args := #[]) (mvT hZ (hw _ (List.mem_of_getElem? (i := 37) rfl)))) (mvT hZ (hw _ (List.mem_of_getElem? (i := 37) rfl))) (mvT hZ (hw _ (List.mem_of_getElem? (i := 36) rfl))) (by decide) (backOf (W := 0) (rm7 l Z aw hw [] b1 (1 : Int32) T44.heap n0 zz46 m10_column) hZ (hw _ (List.mem_of_getElem? (i := 38) rfl)) (hw _ (List.mem_of_getElem? (i := 6) rfl)) (by decide) (by decide)) q48a q48c (g := (mkF m 96 #[.val (.int p0), .val (.int p1), .val (.int p2), .val (.int p3), .val (.int p4), .val (.int (13 : Int32)), .val (.int xv), .val (.ref b1), .val (.int (1 : Int32)), .val (.int (2 : Int32)), .val (.int (1 : Int32)), .unset, .unset, .unset, .unset] [(.ref b1)])) rfl (by rw [hml]; rfl) (Steps.refl _) (argsL := []) (rest := []) (lenOf own_pd3 rfl) rfl (by show 2 * 0 + _ ≤ _; exact Nat.le_of_eq rfl) (hb hby at_96) (fun _ _ => ⟨rfl, e47, (by decide : 1 + 0 ≤ _), (by decide : 3 + 0 ≤ _)⟩)
        dsimp only [Pt.U, Pt.locs, Pt.cells, Pt.slots] at X48 l48 y48 z48 st48 hQ48
        subst l48 y48 z48
        obtain ⟨rfl, N48, e48⟩ := hQ48
        have NF48 := Fr.app NF47 N48
        refine Wp.step st48 ?_
        show Wp p e below _ (T48.setTop (mkF m 99 #[.val (.int p0), .val (.int p1), .val (.int p2), .val (.int p3), .val (.int p4), .val (.int (13 : Int32)), .val (.int xv), .val (.ref b1), .val (.int (1 : Int32)), .val (.int (2 : Int32)), .val (.int (1 : Int32)), .unset, .unset, .unset, .unset] [(.int (1 : Int32))]))
        refine Wp.via (fun _ k => XS.iload X48.here hx rfl (hb hby at_99) rfl k) ?_
        show Wp p e below _ (T48.setTop (mkF m 101 #[.val (.int p0), .val (.int p1), .val (.int p2), .val (.int p3), .val (.int p4), .val (.int (13 : Int32)), .val (.int xv), .val (.ref b1), .val (.int (1 : Int32)), .val (.int (2 : Int32)), .val (.int (1 : Int32)), .unset, .unset, .unset, .unset] [(.int (1 : Int32)), (.int (1 : Int32))]))
        refine Wp.via (fun _ k => XS.icmpNo X48.here hx rfl (hb hby at_101) rfl (teq (by decide)).2 k) ?_
        show Wp p e below _ (T48.setTop (mkF m 104 #[.val (.int p0), .val (.int p1), .val (.int p2), .val (.int p3), .val (.int p4), .val (.int (13 : Int32)), .val (.int xv), .val (.ref b1), .val (.int (1 : Int32)), .val (.int (2 : Int32)), .val (.int (1 : Int32)), .unset, .unset, .unset, .unset] []))
        refine Wp.via (fun _ k => XS.iconst X48.here hx rfl (hb hby at_104) k) ?_
        show Wp p e below _ (T48.setTop (mkF m 105 #[.val (.int p0), .val (.int p1), .val (.int p2), .val (.int p3), .val (.int p4), .val (.int (13 : Int32)), .val (.int xv), .val (.ref b1), .val (.int (1 : Int32)), .val (.int (2 : Int32)), .val (.int (1 : Int32)), .unset, .unset, .unset, .unset] [(.int (1 : Int32))]))
        refine Wp.via (fun _ k => XS.goto X48.here hx rfl (pc0 := 105) (pc' := 109) rfl (hb hby at_105) (by decide) (by decide) k) ?_
        show Wp p e below _ (T48.setTop (mkF m 109 #[.val (.int p0), .val (.int p1), .val (.int p2), .val (.int p3), .val (.int p4), .val (.int (13 : Int32)), .val (.int xv), .val (.ref b1), .val (.int (1 : Int32)), .val (.int (2 : Int32)), .val (.int (1 : Int32)), .unset, .unset, .unset, .unset] [(.int (1 : Int32))]))
        refine Wp.via (fun _ k => XS.istore X48.here hx rfl (hb hby at_109) rfl (l' := #[.val (.int p0), .val (.int p1), .val (.int p2), .val (.int p3), .val (.int p4), .val (.int (13 : Int32)), .val (.int xv), .val (.ref b1), .val (.int (1 : Int32)), .val (.int (2 : Int32)), .val (.int (1 : Int32)), .val (.int (1 : Int32)), .unset, .unset, .unset]) rfl k) ?_
        show Wp p e below _ (T48.setTop (mkF m 111 #[.val (.int p0), .val (.int p1), .val (.int p2), .val (.int p3), .val (.int p4), .val (.int (13 : Int32)), .val (.int xv), .val (.ref b1), .val (.int (1 : Int32)), .val (.int (2 : Int32)), .val (.int (1 : Int32)), .val (.int (1 : Int32)), .unset, .unset, .unset] []))
        refine Wp.via (fun _ k => XS.aload X48.here hx rfl (hb hby at_111) rfl rfl k) ?_
        show Wp p e below _ (T48.setTop (mkF m 113 #[.val (.int p0), .val (.int p1), .val (.int p2), .val (.int p3), .val (.int p4), .val (.int (13 : Int32)), .val (.int xv), .val (.ref b1), .val (.int (1 : Int32)), .val (.int (2 : Int32)), .val (.int (1 : Int32)), .val (.int (1 : Int32)), .unset, .unset, .unset] [(.ref b1)]))
        refine Wp.via (fun _ k => XS.iload X48.here hx rfl (hb hby at_113) rfl k) ?_
        show Wp p e below _ (T48.setTop (mkF m 115 #[.val (.int p0), .val (.int p1), .val (.int p2), .val (.int p3), .val (.int p4), .val (.int (13 : Int32)), .val (.int xv), .val (.ref b1), .val (.int (1 : Int32)), .val (.int (2 : Int32)), .val (.int (1 : Int32)), .val (.int (1 : Int32)), .unset, .unset, .unset] [(.int xv), (.ref b1)]))
        by_cases d1 : xv = (10 : Int32)
        ·
          subst d1
          show Wp p e below _ (T48.setTop (mkF m 115 #[.val (.int p0), .val (.int p1), .val (.int p2), .val (.int p3), .val (.int p4), .val (.int (13 : Int32)), .val (.int (10 : Int32)), .val (.ref b1), .val (.int (1 : Int32)), .val (.int (2 : Int32)), .val (.int (1 : Int32)), .val (.int (1 : Int32)), .unset, .unset, .unset] [(.int (10 : Int32)), (.ref b1)]))
          obtain ⟨cq49, kq49, q49a, q49b, q49c⟩ := isOf hZ e48 c45
          obtain ⟨_, _, ⟨T49, L49, k49, n49⟩, -, X49, ⟨Lc49, hQ49, l49, y49, z49⟩, st49⟩ := X48.virtualBack hx (y := (⟨"com/example/chyld/chyld/LineColumn", "character", "(I)V"⟩ : MethodName)) (z := (⟨"com/example/chyld/chyld/LineColumn", "character", "(I)V"⟩ : MethodName)) hown (mvT hZ (hw _ (List.mem_of_getElem? (i := 24) rfl))) (mvT hZ (hw _ (List.mem_of_getElem? (i := 25) rfl))) (notFace_of_selects (args := #[]) (mvT hZ (hw _ (List.mem_of_getElem? (i := 27) rfl)))) (mvT hZ (hw _ (List.mem_of_getElem? (i := 27) rfl))) (mvT hZ (hw _ (List.mem_of_getElem? (i := 26) rfl))) (by decide) (backOf (W := 0) (rm5 l Z aw hw [] b1 (10 : Int32) (2 : Int32) (1 : Int32) (1 : Int32) (2 : Int32) (1 : Int32) (0 : Int32) T44.heap n0 zz46 c45 gn_b1 m10_line m10_column m10_afterCarriageReturn (by simp [own_l]) (by simp [own_k]) (by simp [own_r])) hZ (hw _ (List.mem_of_getElem? (i := 28) rfl)) (hw _ (List.mem_of_getElem? (i := 6) rfl)) (by decide) (by decide)) q49a q49c (g := (mkF m 115 #[.val (.int p0), .val (.int p1), .val (.int p2), .val (.int p3), .val (.int p4), .val (.int (13 : Int32)), .val (.int (10 : Int32)), .val (.ref b1), .val (.int (1 : Int32)), .val (.int (2 : Int32)), .val (.int (1 : Int32)), .val (.int (1 : Int32)), .unset, .unset, .unset] [(.int (10 : Int32)), (.ref b1)])) rfl (by rw [hml]; rfl) (Steps.refl _) (argsL := [(.int (10 : Int32))]) (rest := []) (lenOf own_pd2 rfl) rfl (by show 2 * 0 + _ ≤ _; exact Nat.le_of_eq rfl) (hb hby at_115) (fun _ _ => ⟨rfl, e48, (by decide : 1 + 0 ≤ _), (by decide : 3 + 0 ≤ _)⟩)
          dsimp only [Pt.U, Pt.locs, Pt.cells, Pt.slots] at X49 l49 y49 z49 st49 hQ49
          subst l49 y49 z49
          obtain ⟨rfl, N49, Kc49, Ec49, m11_line, m11_column, m11_afterCarriageReturn⟩ := hQ49
          have NF49 := Fr.app NF48 N49
          refine Wp.step st49 ?_
          have c50 := c45.keep Kc49
          have K49' := K44'.trans Kc49 (allS (Or.inr sz_b1) all0)
          have zz51 : n0 ≤ T49.heap.size := Nat.le_trans zz46 Kc49.1
          show Wp p e below _ (T49.setTop (mkF m 118 #[.val (.int p0), .val (.int p1), .val (.int p2), .val (.int p3), .val (.int p4), .val (.int (13 : Int32)), .val (.int (10 : Int32)), .val (.ref b1), .val (.int (1 : Int32)), .val (.int (2 : Int32)), .val (.int (1 : Int32)), .val (.int (1 : Int32)), .unset, .unset, .unset] []))
          refine Wp.via (fun _ k => XS.iload X49.here hx rfl (hb hby at_118) rfl k) ?_
          show Wp p e below _ (T49.setTop (mkF m 120 #[.val (.int p0), .val (.int p1), .val (.int p2), .val (.int p3), .val (.int p4), .val (.int (13 : Int32)), .val (.int (10 : Int32)), .val (.ref b1), .val (.int (1 : Int32)), .val (.int (2 : Int32)), .val (.int (1 : Int32)), .val (.int (1 : Int32)), .unset, .unset, .unset] [(.int (10 : Int32))]))
          refine Wp.via (fun _ k => XS.bipush X49.here hx rfl (hb hby at_120) k) ?_
          show Wp p e below _ (T49.setTop (mkF m 122 #[.val (.int p0), .val (.int p1), .val (.int p2), .val (.int p3), .val (.int p4), .val (.int (13 : Int32)), .val (.int (10 : Int32)), .val (.ref b1), .val (.int (1 : Int32)), .val (.int (2 : Int32)), .val (.int (1 : Int32)), .val (.int (1 : Int32)), .unset, .unset, .unset] [(.int (10 : Int32)), (.int (10 : Int32))]))
          refine Wp.via (fun _ k => XS.icmpNo X49.here hx rfl (hb hby at_122) rfl (teq (by decide)).2 k) ?_
          show Wp p e below _ (T49.setTop (mkF m 125 #[.val (.int p0), .val (.int p1), .val (.int p2), .val (.int p3), .val (.int p4), .val (.int (13 : Int32)), .val (.int (10 : Int32)), .val (.ref b1), .val (.int (1 : Int32)), .val (.int (2 : Int32)), .val (.int (1 : Int32)), .val (.int (1 : Int32)), .unset, .unset, .unset] []))
          refine Wp.via (fun _ k => XS.iload X49.here hx rfl (hb hby at_125) rfl k) ?_
          show Wp p e below _ (T49.setTop (mkF m 127 #[.val (.int p0), .val (.int p1), .val (.int p2), .val (.int p3), .val (.int p4), .val (.int (13 : Int32)), .val (.int (10 : Int32)), .val (.ref b1), .val (.int (1 : Int32)), .val (.int (2 : Int32)), .val (.int (1 : Int32)), .val (.int (1 : Int32)), .unset, .unset, .unset] [(.int (1 : Int32))]))
          refine Wp.via (fun _ k => XS.ifNo X49.here hx rfl (hb hby at_127) rfl ((if0 _ _).trans (feq (by decide)).1) k) ?_
          show Wp p e below _ (T49.setTop (mkF m 130 #[.val (.int p0), .val (.int p1), .val (.int p2), .val (.int p3), .val (.int p4), .val (.int (13 : Int32)), .val (.int (10 : Int32)), .val (.ref b1), .val (.int (1 : Int32)), .val (.int (2 : Int32)), .val (.int (1 : Int32)), .val (.int (1 : Int32)), .unset, .unset, .unset] []))
          refine Wp.via (fun _ k => XS.iload X49.here hx rfl (hb hby at_130) rfl k) ?_
          show Wp p e below _ (T49.setTop (mkF m 132 #[.val (.int p0), .val (.int p1), .val (.int p2), .val (.int p3), .val (.int p4), .val (.int (13 : Int32)), .val (.int (10 : Int32)), .val (.ref b1), .val (.int (1 : Int32)), .val (.int (2 : Int32)), .val (.int (1 : Int32)), .val (.int (1 : Int32)), .unset, .unset, .unset] [(.int (2 : Int32))]))
          refine Wp.via (fun _ k => XS.goto X49.here hx rfl (pc0 := 132) (pc' := 139) rfl (hb hby at_132) (by decide) (by decide) k) ?_
          show Wp p e below _ (T49.setTop (mkF m 139 #[.val (.int p0), .val (.int p1), .val (.int p2), .val (.int p3), .val (.int p4), .val (.int (13 : Int32)), .val (.int (10 : Int32)), .val (.ref b1), .val (.int (1 : Int32)), .val (.int (2 : Int32)), .val (.int (1 : Int32)), .val (.int (1 : Int32)), .unset, .unset, .unset] [(.int (2 : Int32))]))
          refine Wp.via (fun _ k => XS.istore X49.here hx rfl (hb hby at_139) rfl (l' := #[.val (.int p0), .val (.int p1), .val (.int p2), .val (.int p3), .val (.int p4), .val (.int (13 : Int32)), .val (.int (10 : Int32)), .val (.ref b1), .val (.int (1 : Int32)), .val (.int (2 : Int32)), .val (.int (1 : Int32)), .val (.int (1 : Int32)), .val (.int (2 : Int32)), .unset, .unset]) rfl k) ?_
          show Wp p e below _ (T49.setTop (mkF m 141 #[.val (.int p0), .val (.int p1), .val (.int p2), .val (.int p3), .val (.int p4), .val (.int (13 : Int32)), .val (.int (10 : Int32)), .val (.ref b1), .val (.int (1 : Int32)), .val (.int (2 : Int32)), .val (.int (1 : Int32)), .val (.int (1 : Int32)), .val (.int (2 : Int32)), .unset, .unset] []))
          refine Wp.via (fun _ k => XS.iconst X49.here hx rfl (hb hby at_141) k) ?_
          show Wp p e below _ (T49.setTop (mkF m 142 #[.val (.int p0), .val (.int p1), .val (.int p2), .val (.int p3), .val (.int p4), .val (.int (13 : Int32)), .val (.int (10 : Int32)), .val (.ref b1), .val (.int (1 : Int32)), .val (.int (2 : Int32)), .val (.int (1 : Int32)), .val (.int (1 : Int32)), .val (.int (2 : Int32)), .unset, .unset] [(.int (1 : Int32))]))
          refine Wp.via (fun _ k => XS.istore X49.here hx rfl (hb hby at_142) rfl (l' := #[.val (.int p0), .val (.int p1), .val (.int p2), .val (.int p3), .val (.int p4), .val (.int (13 : Int32)), .val (.int (10 : Int32)), .val (.ref b1), .val (.int (1 : Int32)), .val (.int (2 : Int32)), .val (.int (1 : Int32)), .val (.int (1 : Int32)), .val (.int (2 : Int32)), .val (.int (1 : Int32)), .unset]) rfl k) ?_
          show Wp p e below _ (T49.setTop (mkF m 144 #[.val (.int p0), .val (.int p1), .val (.int p2), .val (.int p3), .val (.int p4), .val (.int (13 : Int32)), .val (.int (10 : Int32)), .val (.ref b1), .val (.int (1 : Int32)), .val (.int (2 : Int32)), .val (.int (1 : Int32)), .val (.int (1 : Int32)), .val (.int (2 : Int32)), .val (.int (1 : Int32)), .unset] []))
          refine Wp.via (fun _ k => XS.goto X49.here hx rfl (pc0 := 144) (pc' := 176) rfl (hb hby at_144) (by decide) (by decide) k) ?_
          show Wp p e below _ (T49.setTop (mkF m 176 #[.val (.int p0), .val (.int p1), .val (.int p2), .val (.int p3), .val (.int p4), .val (.int (13 : Int32)), .val (.int (10 : Int32)), .val (.ref b1), .val (.int (1 : Int32)), .val (.int (2 : Int32)), .val (.int (1 : Int32)), .val (.int (1 : Int32)), .val (.int (2 : Int32)), .val (.int (1 : Int32)), .unset] []))
          refine Wp.via (fun _ k => XS.iload X49.here hx rfl (hb hby at_176) rfl k) ?_
          show Wp p e below _ (T49.setTop (mkF m 178 #[.val (.int p0), .val (.int p1), .val (.int p2), .val (.int p3), .val (.int p4), .val (.int (13 : Int32)), .val (.int (10 : Int32)), .val (.ref b1), .val (.int (1 : Int32)), .val (.int (2 : Int32)), .val (.int (1 : Int32)), .val (.int (1 : Int32)), .val (.int (2 : Int32)), .val (.int (1 : Int32)), .unset] [(.int (1 : Int32))]))
          refine Wp.via (fun _ k => XS.ifNo X49.here hx rfl (hb hby at_178) rfl ((if0 _ _).trans (feq (by decide)).1) k) ?_
          show Wp p e below _ (T49.setTop (mkF m 181 #[.val (.int p0), .val (.int p1), .val (.int p2), .val (.int p3), .val (.int p4), .val (.int (13 : Int32)), .val (.int (10 : Int32)), .val (.ref b1), .val (.int (1 : Int32)), .val (.int (2 : Int32)), .val (.int (1 : Int32)), .val (.int (1 : Int32)), .val (.int (2 : Int32)), .val (.int (1 : Int32)), .unset] []))
          refine Wp.via (fun _ k => XS.aload X49.here hx rfl (hb hby at_181) rfl rfl k) ?_
          show Wp p e below _ (T49.setTop (mkF m 183 #[.val (.int p0), .val (.int p1), .val (.int p2), .val (.int p3), .val (.int p4), .val (.int (13 : Int32)), .val (.int (10 : Int32)), .val (.ref b1), .val (.int (1 : Int32)), .val (.int (2 : Int32)), .val (.int (1 : Int32)), .val (.int (1 : Int32)), .val (.int (2 : Int32)), .val (.int (1 : Int32)), .unset] [(.ref b1)]))
          obtain ⟨cq52, kq52, q52a, q52b, q52c⟩ := isOf hZ rfl c50
          obtain ⟨_, _, ⟨T52, L52, k52, n52⟩, -, X52, ⟨Lc52, hQ52, l52, y52, z52⟩, st52⟩ := X49.virtualBack hx (y := (⟨"com/example/chyld/chyld/LineColumn", "line", "()I"⟩ : MethodName)) (z := (⟨"com/example/chyld/chyld/LineColumn", "line", "()I"⟩ : MethodName)) hown (mvT hZ (hw _ (List.mem_of_getElem? (i := 29) rfl))) (mvT hZ (hw _ (List.mem_of_getElem? (i := 30) rfl))) (notFace_of_selects (args := #[]) (mvT hZ (hw _ (List.mem_of_getElem? (i := 32) rfl)))) (mvT hZ (hw _ (List.mem_of_getElem? (i := 32) rfl))) (mvT hZ (hw _ (List.mem_of_getElem? (i := 31) rfl))) (by decide) (backOf (W := 0) (rm6 l Z aw hw [] b1 (2 : Int32) T49.heap n0 zz51 m11_line) hZ (hw _ (List.mem_of_getElem? (i := 33) rfl)) (hw _ (List.mem_of_getElem? (i := 6) rfl)) (by decide) (by decide)) q52a q52c (g := (mkF m 183 #[.val (.int p0), .val (.int p1), .val (.int p2), .val (.int p3), .val (.int p4), .val (.int (13 : Int32)), .val (.int (10 : Int32)), .val (.ref b1), .val (.int (1 : Int32)), .val (.int (2 : Int32)), .val (.int (1 : Int32)), .val (.int (1 : Int32)), .val (.int (2 : Int32)), .val (.int (1 : Int32)), .unset] [(.ref b1)])) rfl (by rw [hml]; rfl) (Steps.refl _) (argsL := []) (rest := []) (lenOf own_pd3 rfl) rfl (by show 2 * 0 + _ ≤ _; exact Nat.le_of_eq rfl) (hb hby at_183) (fun _ _ => ⟨rfl, rfl, (by decide : 1 + 0 ≤ _), (by decide : 3 + 0 ≤ _)⟩)
          dsimp only [Pt.U, Pt.locs, Pt.cells, Pt.slots] at X52 l52 y52 z52 st52 hQ52
          subst l52 y52 z52
          obtain ⟨rfl, N52, e52⟩ := hQ52
          have NF52 := Fr.app NF49 N52
          refine Wp.step st52 ?_
          show Wp p e below _ (T52.setTop (mkF m 186 #[.val (.int p0), .val (.int p1), .val (.int p2), .val (.int p3), .val (.int p4), .val (.int (13 : Int32)), .val (.int (10 : Int32)), .val (.ref b1), .val (.int (1 : Int32)), .val (.int (2 : Int32)), .val (.int (1 : Int32)), .val (.int (1 : Int32)), .val (.int (2 : Int32)), .val (.int (1 : Int32)), .unset] [(.int (2 : Int32))]))
          refine Wp.via (fun _ k => XS.iload X52.here hx rfl (hb hby at_186) rfl k) ?_
          show Wp p e below _ (T52.setTop (mkF m 188 #[.val (.int p0), .val (.int p1), .val (.int p2), .val (.int p3), .val (.int p4), .val (.int (13 : Int32)), .val (.int (10 : Int32)), .val (.ref b1), .val (.int (1 : Int32)), .val (.int (2 : Int32)), .val (.int (1 : Int32)), .val (.int (1 : Int32)), .val (.int (2 : Int32)), .val (.int (1 : Int32)), .unset] [(.int (2 : Int32)), (.int (2 : Int32))]))
          refine Wp.via (fun _ k => XS.icmpNo X52.here hx rfl (hb hby at_188) rfl (teq (by decide)).2 k) ?_
          show Wp p e below _ (T52.setTop (mkF m 191 #[.val (.int p0), .val (.int p1), .val (.int p2), .val (.int p3), .val (.int p4), .val (.int (13 : Int32)), .val (.int (10 : Int32)), .val (.ref b1), .val (.int (1 : Int32)), .val (.int (2 : Int32)), .val (.int (1 : Int32)), .val (.int (1 : Int32)), .val (.int (2 : Int32)), .val (.int (1 : Int32)), .unset] []))
          refine Wp.via (fun _ k => XS.aload X52.here hx rfl (hb hby at_191) rfl rfl k) ?_
          show Wp p e below _ (T52.setTop (mkF m 193 #[.val (.int p0), .val (.int p1), .val (.int p2), .val (.int p3), .val (.int p4), .val (.int (13 : Int32)), .val (.int (10 : Int32)), .val (.ref b1), .val (.int (1 : Int32)), .val (.int (2 : Int32)), .val (.int (1 : Int32)), .val (.int (1 : Int32)), .val (.int (2 : Int32)), .val (.int (1 : Int32)), .unset] [(.ref b1)]))
          obtain ⟨cq53, kq53, q53a, q53b, q53c⟩ := isOf hZ e52 c50
          obtain ⟨_, _, ⟨T53, L53, k53, n53⟩, -, X53, ⟨Lc53, hQ53, l53, y53, z53⟩, st53⟩ := X52.virtualBack hx (y := (⟨"com/example/chyld/chyld/LineColumn", "column", "()I"⟩ : MethodName)) (z := (⟨"com/example/chyld/chyld/LineColumn", "column", "()I"⟩ : MethodName)) hown (mvT hZ (hw _ (List.mem_of_getElem? (i := 34) rfl))) (mvT hZ (hw _ (List.mem_of_getElem? (i := 35) rfl))) (notFace_of_selects (args := #[]) (mvT hZ (hw _ (List.mem_of_getElem? (i := 37) rfl)))) (mvT hZ (hw _ (List.mem_of_getElem? (i := 37) rfl))) (mvT hZ (hw _ (List.mem_of_getElem? (i := 36) rfl))) (by decide) (backOf (W := 0) (rm7 l Z aw hw [] b1 (1 : Int32) T49.heap n0 zz51 m11_column) hZ (hw _ (List.mem_of_getElem? (i := 38) rfl)) (hw _ (List.mem_of_getElem? (i := 6) rfl)) (by decide) (by decide)) q53a q53c (g := (mkF m 193 #[.val (.int p0), .val (.int p1), .val (.int p2), .val (.int p3), .val (.int p4), .val (.int (13 : Int32)), .val (.int (10 : Int32)), .val (.ref b1), .val (.int (1 : Int32)), .val (.int (2 : Int32)), .val (.int (1 : Int32)), .val (.int (1 : Int32)), .val (.int (2 : Int32)), .val (.int (1 : Int32)), .unset] [(.ref b1)])) rfl (by rw [hml]; rfl) (Steps.refl _) (argsL := []) (rest := []) (lenOf own_pd3 rfl) rfl (by show 2 * 0 + _ ≤ _; exact Nat.le_of_eq rfl) (hb hby at_193) (fun _ _ => ⟨rfl, e52, (by decide : 1 + 0 ≤ _), (by decide : 3 + 0 ≤ _)⟩)
          dsimp only [Pt.U, Pt.locs, Pt.cells, Pt.slots] at X53 l53 y53 z53 st53 hQ53
          subst l53 y53 z53
          obtain ⟨rfl, N53, e53⟩ := hQ53
          have NF53 := Fr.app NF52 N53
          refine Wp.step st53 ?_
          show Wp p e below _ (T53.setTop (mkF m 196 #[.val (.int p0), .val (.int p1), .val (.int p2), .val (.int p3), .val (.int p4), .val (.int (13 : Int32)), .val (.int (10 : Int32)), .val (.ref b1), .val (.int (1 : Int32)), .val (.int (2 : Int32)), .val (.int (1 : Int32)), .val (.int (1 : Int32)), .val (.int (2 : Int32)), .val (.int (1 : Int32)), .unset] [(.int (1 : Int32))]))
          refine Wp.via (fun _ k => XS.iload X53.here hx rfl (hb hby at_196) rfl k) ?_
          show Wp p e below _ (T53.setTop (mkF m 198 #[.val (.int p0), .val (.int p1), .val (.int p2), .val (.int p3), .val (.int p4), .val (.int (13 : Int32)), .val (.int (10 : Int32)), .val (.ref b1), .val (.int (1 : Int32)), .val (.int (2 : Int32)), .val (.int (1 : Int32)), .val (.int (1 : Int32)), .val (.int (2 : Int32)), .val (.int (1 : Int32)), .unset] [(.int (1 : Int32)), (.int (1 : Int32))]))
          refine Wp.via (fun _ k => XS.icmpNo X53.here hx rfl (hb hby at_198) rfl (teq (by decide)).2 k) ?_
          show Wp p e below _ (T53.setTop (mkF m 201 #[.val (.int p0), .val (.int p1), .val (.int p2), .val (.int p3), .val (.int p4), .val (.int (13 : Int32)), .val (.int (10 : Int32)), .val (.ref b1), .val (.int (1 : Int32)), .val (.int (2 : Int32)), .val (.int (1 : Int32)), .val (.int (1 : Int32)), .val (.int (2 : Int32)), .val (.int (1 : Int32)), .unset] []))
          refine Wp.via (fun _ k => XS.iconst X53.here hx rfl (hb hby at_201) k) ?_
          show Wp p e below _ (T53.setTop (mkF m 202 #[.val (.int p0), .val (.int p1), .val (.int p2), .val (.int p3), .val (.int p4), .val (.int (13 : Int32)), .val (.int (10 : Int32)), .val (.ref b1), .val (.int (1 : Int32)), .val (.int (2 : Int32)), .val (.int (1 : Int32)), .val (.int (1 : Int32)), .val (.int (2 : Int32)), .val (.int (1 : Int32)), .unset] [(.int (1 : Int32))]))
          refine Wp.via (fun _ k => XS.goto X53.here hx rfl (pc0 := 202) (pc' := 206) rfl (hb hby at_202) (by decide) (by decide) k) ?_
          show Wp p e below _ (T53.setTop (mkF m 206 #[.val (.int p0), .val (.int p1), .val (.int p2), .val (.int p3), .val (.int p4), .val (.int (13 : Int32)), .val (.int (10 : Int32)), .val (.ref b1), .val (.int (1 : Int32)), .val (.int (2 : Int32)), .val (.int (1 : Int32)), .val (.int (1 : Int32)), .val (.int (2 : Int32)), .val (.int (1 : Int32)), .unset] [(.int (1 : Int32))]))
          refine Wp.via (fun _ k => XS.istore X53.here hx rfl (hb hby at_206) rfl (l' := #[.val (.int p0), .val (.int p1), .val (.int p2), .val (.int p3), .val (.int p4), .val (.int (13 : Int32)), .val (.int (10 : Int32)), .val (.ref b1), .val (.int (1 : Int32)), .val (.int (2 : Int32)), .val (.int (1 : Int32)), .val (.int (1 : Int32)), .val (.int (2 : Int32)), .val (.int (1 : Int32)), .unset]) rfl k) ?_
          show Wp p e below _ (T53.setTop (mkF m 208 #[.val (.int p0), .val (.int p1), .val (.int p2), .val (.int p3), .val (.int p4), .val (.int (13 : Int32)), .val (.int (10 : Int32)), .val (.ref b1), .val (.int (1 : Int32)), .val (.int (2 : Int32)), .val (.int (1 : Int32)), .val (.int (1 : Int32)), .val (.int (2 : Int32)), .val (.int (1 : Int32)), .unset] []))
          refine Wp.via (fun _ k => XS.aload X53.here hx rfl (hb hby at_208) rfl rfl k) ?_
          show Wp p e below _ (T53.setTop (mkF m 210 #[.val (.int p0), .val (.int p1), .val (.int p2), .val (.int p3), .val (.int p4), .val (.int (13 : Int32)), .val (.int (10 : Int32)), .val (.ref b1), .val (.int (1 : Int32)), .val (.int (2 : Int32)), .val (.int (1 : Int32)), .val (.int (1 : Int32)), .val (.int (2 : Int32)), .val (.int (1 : Int32)), .unset] [(.ref b1)]))
          refine Wp.via (fun _ k => XS.bipush X53.here hx rfl (hb hby at_210) k) ?_
          show Wp p e below _ (T53.setTop (mkF m 212 #[.val (.int p0), .val (.int p1), .val (.int p2), .val (.int p3), .val (.int p4), .val (.int (13 : Int32)), .val (.int (10 : Int32)), .val (.ref b1), .val (.int (1 : Int32)), .val (.int (2 : Int32)), .val (.int (1 : Int32)), .val (.int (1 : Int32)), .val (.int (2 : Int32)), .val (.int (1 : Int32)), .unset] [(.int (10 : Int32)), (.ref b1)]))
          obtain ⟨cq54, kq54, q54a, q54b, q54c⟩ := isOf hZ e53 c50
          obtain ⟨_, _, ⟨T54, L54, k54, n54⟩, -, X54, ⟨Lc54, hQ54, l54, y54, z54⟩, st54⟩ := X53.virtualBack hx (y := (⟨"com/example/chyld/chyld/LineColumn", "character", "(I)V"⟩ : MethodName)) (z := (⟨"com/example/chyld/chyld/LineColumn", "character", "(I)V"⟩ : MethodName)) hown (mvT hZ (hw _ (List.mem_of_getElem? (i := 24) rfl))) (mvT hZ (hw _ (List.mem_of_getElem? (i := 25) rfl))) (notFace_of_selects (args := #[]) (mvT hZ (hw _ (List.mem_of_getElem? (i := 27) rfl)))) (mvT hZ (hw _ (List.mem_of_getElem? (i := 27) rfl))) (mvT hZ (hw _ (List.mem_of_getElem? (i := 26) rfl))) (by decide) (backOf (W := 0) (rm5 l Z aw hw [] b1 (10 : Int32) (2 : Int32) (1 : Int32) (0 : Int32) ((2 : Int32) + (1 : Int32)) (1 : Int32) (0 : Int32) T49.heap n0 zz51 c50 gn_b1 m11_line m11_column m11_afterCarriageReturn (by simp [own_l]) (by simp [own_k]) (by simp [own_r])) hZ (hw _ (List.mem_of_getElem? (i := 28) rfl)) (hw _ (List.mem_of_getElem? (i := 6) rfl)) (by decide) (by decide)) q54a q54c (g := (mkF m 212 #[.val (.int p0), .val (.int p1), .val (.int p2), .val (.int p3), .val (.int p4), .val (.int (13 : Int32)), .val (.int (10 : Int32)), .val (.ref b1), .val (.int (1 : Int32)), .val (.int (2 : Int32)), .val (.int (1 : Int32)), .val (.int (1 : Int32)), .val (.int (2 : Int32)), .val (.int (1 : Int32)), .unset] [(.int (10 : Int32)), (.ref b1)])) rfl (by rw [hml]; rfl) (Steps.refl _) (argsL := [(.int (10 : Int32))]) (rest := []) (lenOf own_pd2 rfl) rfl (by show 2 * 0 + _ ≤ _; exact Nat.le_of_eq rfl) (hb hby at_212) (fun _ _ => ⟨rfl, e53, (by decide : 1 + 0 ≤ _), (by decide : 3 + 0 ≤ _)⟩)
          dsimp only [Pt.U, Pt.locs, Pt.cells, Pt.slots] at X54 l54 y54 z54 st54 hQ54
          subst l54 y54 z54
          obtain ⟨rfl, N54, Kc54, Ec54, m12_line, m12_column, m12_afterCarriageReturn⟩ := hQ54
          have NF54 := Fr.app NF53 N54
          refine Wp.step st54 ?_
          have c55 := c50.keep Kc54
          have K54' := K49'.trans Kc54 (allS (Or.inr sz_b1) all0)
          have zz56 : n0 ≤ T54.heap.size := Nat.le_trans zz51 Kc54.1
          show Wp p e below _ (T54.setTop (mkF m 215 #[.val (.int p0), .val (.int p1), .val (.int p2), .val (.int p3), .val (.int p4), .val (.int (13 : Int32)), .val (.int (10 : Int32)), .val (.ref b1), .val (.int (1 : Int32)), .val (.int (2 : Int32)), .val (.int (1 : Int32)), .val (.int (1 : Int32)), .val (.int (2 : Int32)), .val (.int (1 : Int32)), .unset] []))
          refine Wp.via (fun _ k => XS.iload X54.here hx rfl (hb hby at_215) rfl k) ?_
          show Wp p e below _ (T54.setTop (mkF m 217 #[.val (.int p0), .val (.int p1), .val (.int p2), .val (.int p3), .val (.int p4), .val (.int (13 : Int32)), .val (.int (10 : Int32)), .val (.ref b1), .val (.int (1 : Int32)), .val (.int (2 : Int32)), .val (.int (1 : Int32)), .val (.int (1 : Int32)), .val (.int (2 : Int32)), .val (.int (1 : Int32)), .unset] [(.int (10 : Int32))]))
          refine Wp.via (fun _ k => XS.bipush X54.here hx rfl (hb hby at_217) k) ?_
          show Wp p e below _ (T54.setTop (mkF m 219 #[.val (.int p0), .val (.int p1), .val (.int p2), .val (.int p3), .val (.int p4), .val (.int (13 : Int32)), .val (.int (10 : Int32)), .val (.ref b1), .val (.int (1 : Int32)), .val (.int (2 : Int32)), .val (.int (1 : Int32)), .val (.int (1 : Int32)), .val (.int (2 : Int32)), .val (.int (1 : Int32)), .unset] [(.int (13 : Int32)), (.int (10 : Int32))]))
          refine Wp.via (fun _ k => XS.icmpYes X54.here hx rfl (pc0 := 219) (pc' := 227) rfl (hb hby at_219) rfl (feq (by decide)).2 (by decide) (by decide) k) ?_
          show Wp p e below _ (T54.setTop (mkF m 227 #[.val (.int p0), .val (.int p1), .val (.int p2), .val (.int p3), .val (.int p4), .val (.int (13 : Int32)), .val (.int (10 : Int32)), .val (.ref b1), .val (.int (1 : Int32)), .val (.int (2 : Int32)), .val (.int (1 : Int32)), .val (.int (1 : Int32)), .val (.int (2 : Int32)), .val (.int (1 : Int32)), .unset] []))
          refine Wp.via (fun _ k => XS.iload X54.here hx rfl (hb hby at_227) rfl k) ?_
          show Wp p e below _ (T54.setTop (mkF m 229 #[.val (.int p0), .val (.int p1), .val (.int p2), .val (.int p3), .val (.int p4), .val (.int (13 : Int32)), .val (.int (10 : Int32)), .val (.ref b1), .val (.int (1 : Int32)), .val (.int (2 : Int32)), .val (.int (1 : Int32)), .val (.int (1 : Int32)), .val (.int (2 : Int32)), .val (.int (1 : Int32)), .unset] [(.int (2 : Int32))]))
          refine Wp.via (fun _ k => XS.iconst X54.here hx rfl (hb hby at_229) k) ?_
          show Wp p e below _ (T54.setTop (mkF m 230 #[.val (.int p0), .val (.int p1), .val (.int p2), .val (.int p3), .val (.int p4), .val (.int (13 : Int32)), .val (.int (10 : Int32)), .val (.ref b1), .val (.int (1 : Int32)), .val (.int (2 : Int32)), .val (.int (1 : Int32)), .val (.int (1 : Int32)), .val (.int (2 : Int32)), .val (.int (1 : Int32)), .unset] [(.int (1 : Int32)), (.int (2 : Int32))]))
          refine Wp.via (fun _ k => XS.iadd X54.here hx rfl (hb hby at_230) rfl k) ?_
          show Wp p e below _ (T54.setTop (mkF m 231 #[.val (.int p0), .val (.int p1), .val (.int p2), .val (.int p3), .val (.int p4), .val (.int (13 : Int32)), .val (.int (10 : Int32)), .val (.ref b1), .val (.int (1 : Int32)), .val (.int (2 : Int32)), .val (.int (1 : Int32)), .val (.int (1 : Int32)), .val (.int (2 : Int32)), .val (.int (1 : Int32)), .unset] [(.int ((2 : Int32) + (1 : Int32)))]))
          refine Wp.via (fun _ k => XS.istore X54.here hx rfl (hb hby at_231) rfl (l' := #[.val (.int p0), .val (.int p1), .val (.int p2), .val (.int p3), .val (.int p4), .val (.int (13 : Int32)), .val (.int (10 : Int32)), .val (.ref b1), .val (.int (1 : Int32)), .val (.int (2 : Int32)), .val (.int (1 : Int32)), .val (.int (1 : Int32)), .val (.int (2 : Int32)), .val (.int (1 : Int32)), .val (.int ((2 : Int32) + (1 : Int32)))]) rfl k) ?_
          show Wp p e below _ (T54.setTop (mkF m 233 #[.val (.int p0), .val (.int p1), .val (.int p2), .val (.int p3), .val (.int p4), .val (.int (13 : Int32)), .val (.int (10 : Int32)), .val (.ref b1), .val (.int (1 : Int32)), .val (.int (2 : Int32)), .val (.int (1 : Int32)), .val (.int (1 : Int32)), .val (.int (2 : Int32)), .val (.int (1 : Int32)), .val (.int ((2 : Int32) + (1 : Int32)))] []))
          refine Wp.via (fun _ k => XS.iload X54.here hx rfl (hb hby at_233) rfl k) ?_
          show Wp p e below _ (T54.setTop (mkF m 235 #[.val (.int p0), .val (.int p1), .val (.int p2), .val (.int p3), .val (.int p4), .val (.int (13 : Int32)), .val (.int (10 : Int32)), .val (.ref b1), .val (.int (1 : Int32)), .val (.int (2 : Int32)), .val (.int (1 : Int32)), .val (.int (1 : Int32)), .val (.int (2 : Int32)), .val (.int (1 : Int32)), .val (.int ((2 : Int32) + (1 : Int32)))] [(.int (1 : Int32))]))
          refine Wp.via (fun _ k => XS.ifNo X54.here hx rfl (hb hby at_235) rfl ((if0 _ _).trans (feq (by decide)).1) k) ?_
          show Wp p e below _ (T54.setTop (mkF m 238 #[.val (.int p0), .val (.int p1), .val (.int p2), .val (.int p3), .val (.int p4), .val (.int (13 : Int32)), .val (.int (10 : Int32)), .val (.ref b1), .val (.int (1 : Int32)), .val (.int (2 : Int32)), .val (.int (1 : Int32)), .val (.int (1 : Int32)), .val (.int (2 : Int32)), .val (.int (1 : Int32)), .val (.int ((2 : Int32) + (1 : Int32)))] []))
          refine Wp.via (fun _ k => XS.aload X54.here hx rfl (hb hby at_238) rfl rfl k) ?_
          show Wp p e below _ (T54.setTop (mkF m 240 #[.val (.int p0), .val (.int p1), .val (.int p2), .val (.int p3), .val (.int p4), .val (.int (13 : Int32)), .val (.int (10 : Int32)), .val (.ref b1), .val (.int (1 : Int32)), .val (.int (2 : Int32)), .val (.int (1 : Int32)), .val (.int (1 : Int32)), .val (.int (2 : Int32)), .val (.int (1 : Int32)), .val (.int ((2 : Int32) + (1 : Int32)))] [(.ref b1)]))
          obtain ⟨cq57, kq57, q57a, q57b, q57c⟩ := isOf hZ rfl c55
          obtain ⟨_, _, ⟨T57, L57, k57, n57⟩, -, X57, ⟨Lc57, hQ57, l57, y57, z57⟩, st57⟩ := X54.virtualBack hx (y := (⟨"com/example/chyld/chyld/LineColumn", "line", "()I"⟩ : MethodName)) (z := (⟨"com/example/chyld/chyld/LineColumn", "line", "()I"⟩ : MethodName)) hown (mvT hZ (hw _ (List.mem_of_getElem? (i := 29) rfl))) (mvT hZ (hw _ (List.mem_of_getElem? (i := 30) rfl))) (notFace_of_selects (args := #[]) (mvT hZ (hw _ (List.mem_of_getElem? (i := 32) rfl)))) (mvT hZ (hw _ (List.mem_of_getElem? (i := 32) rfl))) (mvT hZ (hw _ (List.mem_of_getElem? (i := 31) rfl))) (by decide) (backOf (W := 0) (rm6 l Z aw hw [] b1 ((2 : Int32) + (1 : Int32)) T54.heap n0 zz56 m12_line) hZ (hw _ (List.mem_of_getElem? (i := 33) rfl)) (hw _ (List.mem_of_getElem? (i := 6) rfl)) (by decide) (by decide)) q57a q57c (g := (mkF m 240 #[.val (.int p0), .val (.int p1), .val (.int p2), .val (.int p3), .val (.int p4), .val (.int (13 : Int32)), .val (.int (10 : Int32)), .val (.ref b1), .val (.int (1 : Int32)), .val (.int (2 : Int32)), .val (.int (1 : Int32)), .val (.int (1 : Int32)), .val (.int (2 : Int32)), .val (.int (1 : Int32)), .val (.int ((2 : Int32) + (1 : Int32)))] [(.ref b1)])) rfl (by rw [hml]; rfl) (Steps.refl _) (argsL := []) (rest := []) (lenOf own_pd3 rfl) rfl (by show 2 * 0 + _ ≤ _; exact Nat.le_of_eq rfl) (hb hby at_240) (fun _ _ => ⟨rfl, rfl, (by decide : 1 + 0 ≤ _), (by decide : 3 + 0 ≤ _)⟩)
          dsimp only [Pt.U, Pt.locs, Pt.cells, Pt.slots] at X57 l57 y57 z57 st57 hQ57
          subst l57 y57 z57
          obtain ⟨rfl, N57, e57⟩ := hQ57
          have NF57 := Fr.app NF54 N57
          refine Wp.step st57 ?_
          show Wp p e below _ (T57.setTop (mkF m 243 #[.val (.int p0), .val (.int p1), .val (.int p2), .val (.int p3), .val (.int p4), .val (.int (13 : Int32)), .val (.int (10 : Int32)), .val (.ref b1), .val (.int (1 : Int32)), .val (.int (2 : Int32)), .val (.int (1 : Int32)), .val (.int (1 : Int32)), .val (.int (2 : Int32)), .val (.int (1 : Int32)), .val (.int ((2 : Int32) + (1 : Int32)))] [(.int ((2 : Int32) + (1 : Int32)))]))
          refine Wp.via (fun _ k => XS.iload X57.here hx rfl (hb hby at_243) rfl k) ?_
          show Wp p e below _ (T57.setTop (mkF m 245 #[.val (.int p0), .val (.int p1), .val (.int p2), .val (.int p3), .val (.int p4), .val (.int (13 : Int32)), .val (.int (10 : Int32)), .val (.ref b1), .val (.int (1 : Int32)), .val (.int (2 : Int32)), .val (.int (1 : Int32)), .val (.int (1 : Int32)), .val (.int (2 : Int32)), .val (.int (1 : Int32)), .val (.int ((2 : Int32) + (1 : Int32)))] [(.int ((2 : Int32) + (1 : Int32))), (.int ((2 : Int32) + (1 : Int32)))]))
          refine Wp.via (fun _ k => XS.icmpNo X57.here hx rfl (hb hby at_245) rfl (teq rfl).2 k) ?_
          show Wp p e below _ (T57.setTop (mkF m 248 #[.val (.int p0), .val (.int p1), .val (.int p2), .val (.int p3), .val (.int p4), .val (.int (13 : Int32)), .val (.int (10 : Int32)), .val (.ref b1), .val (.int (1 : Int32)), .val (.int (2 : Int32)), .val (.int (1 : Int32)), .val (.int (1 : Int32)), .val (.int (2 : Int32)), .val (.int (1 : Int32)), .val (.int ((2 : Int32) + (1 : Int32)))] []))
          refine Wp.via (fun _ k => XS.aload X57.here hx rfl (hb hby at_248) rfl rfl k) ?_
          show Wp p e below _ (T57.setTop (mkF m 250 #[.val (.int p0), .val (.int p1), .val (.int p2), .val (.int p3), .val (.int p4), .val (.int (13 : Int32)), .val (.int (10 : Int32)), .val (.ref b1), .val (.int (1 : Int32)), .val (.int (2 : Int32)), .val (.int (1 : Int32)), .val (.int (1 : Int32)), .val (.int (2 : Int32)), .val (.int (1 : Int32)), .val (.int ((2 : Int32) + (1 : Int32)))] [(.ref b1)]))
          obtain ⟨cq58, kq58, q58a, q58b, q58c⟩ := isOf hZ e57 c55
          obtain ⟨_, _, ⟨T58, L58, k58, n58⟩, -, X58, ⟨Lc58, hQ58, l58, y58, z58⟩, st58⟩ := X57.virtualBack hx (y := (⟨"com/example/chyld/chyld/LineColumn", "column", "()I"⟩ : MethodName)) (z := (⟨"com/example/chyld/chyld/LineColumn", "column", "()I"⟩ : MethodName)) hown (mvT hZ (hw _ (List.mem_of_getElem? (i := 34) rfl))) (mvT hZ (hw _ (List.mem_of_getElem? (i := 35) rfl))) (notFace_of_selects (args := #[]) (mvT hZ (hw _ (List.mem_of_getElem? (i := 37) rfl)))) (mvT hZ (hw _ (List.mem_of_getElem? (i := 37) rfl))) (mvT hZ (hw _ (List.mem_of_getElem? (i := 36) rfl))) (by decide) (backOf (W := 0) (rm7 l Z aw hw [] b1 (1 : Int32) T54.heap n0 zz56 m12_column) hZ (hw _ (List.mem_of_getElem? (i := 38) rfl)) (hw _ (List.mem_of_getElem? (i := 6) rfl)) (by decide) (by decide)) q58a q58c (g := (mkF m 250 #[.val (.int p0), .val (.int p1), .val (.int p2), .val (.int p3), .val (.int p4), .val (.int (13 : Int32)), .val (.int (10 : Int32)), .val (.ref b1), .val (.int (1 : Int32)), .val (.int (2 : Int32)), .val (.int (1 : Int32)), .val (.int (1 : Int32)), .val (.int (2 : Int32)), .val (.int (1 : Int32)), .val (.int ((2 : Int32) + (1 : Int32)))] [(.ref b1)])) rfl (by rw [hml]; rfl) (Steps.refl _) (argsL := []) (rest := []) (lenOf own_pd3 rfl) rfl (by show 2 * 0 + _ ≤ _; exact Nat.le_of_eq rfl) (hb hby at_250) (fun _ _ => ⟨rfl, e57, (by decide : 1 + 0 ≤ _), (by decide : 3 + 0 ≤ _)⟩)
          dsimp only [Pt.U, Pt.locs, Pt.cells, Pt.slots] at X58 l58 y58 z58 st58 hQ58
          subst l58 y58 z58
          obtain ⟨rfl, N58, e58⟩ := hQ58
          have NF58 := Fr.app NF57 N58
          refine Wp.step st58 ?_
          show Wp p e below _ (T58.setTop (mkF m 253 #[.val (.int p0), .val (.int p1), .val (.int p2), .val (.int p3), .val (.int p4), .val (.int (13 : Int32)), .val (.int (10 : Int32)), .val (.ref b1), .val (.int (1 : Int32)), .val (.int (2 : Int32)), .val (.int (1 : Int32)), .val (.int (1 : Int32)), .val (.int (2 : Int32)), .val (.int (1 : Int32)), .val (.int ((2 : Int32) + (1 : Int32)))] [(.int (1 : Int32))]))
          refine Wp.via (fun _ k => XS.iconst X58.here hx rfl (hb hby at_253) k) ?_
          show Wp p e below _ (T58.setTop (mkF m 254 #[.val (.int p0), .val (.int p1), .val (.int p2), .val (.int p3), .val (.int p4), .val (.int (13 : Int32)), .val (.int (10 : Int32)), .val (.ref b1), .val (.int (1 : Int32)), .val (.int (2 : Int32)), .val (.int (1 : Int32)), .val (.int (1 : Int32)), .val (.int (2 : Int32)), .val (.int (1 : Int32)), .val (.int ((2 : Int32) + (1 : Int32)))] [(.int (1 : Int32)), (.int (1 : Int32))]))
          refine Wp.via (fun _ k => XS.icmpNo X58.here hx rfl (hb hby at_254) rfl (teq (by decide)).2 k) ?_
          show Wp p e below _ (T58.setTop (mkF m 257 #[.val (.int p0), .val (.int p1), .val (.int p2), .val (.int p3), .val (.int p4), .val (.int (13 : Int32)), .val (.int (10 : Int32)), .val (.ref b1), .val (.int (1 : Int32)), .val (.int (2 : Int32)), .val (.int (1 : Int32)), .val (.int (1 : Int32)), .val (.int (2 : Int32)), .val (.int (1 : Int32)), .val (.int ((2 : Int32) + (1 : Int32)))] []))
          refine Wp.via (fun _ k => XS.iconst X58.here hx rfl (hb hby at_257) k) ?_
          show Wp p e below _ (T58.setTop (mkF m 258 #[.val (.int p0), .val (.int p1), .val (.int p2), .val (.int p3), .val (.int p4), .val (.int (13 : Int32)), .val (.int (10 : Int32)), .val (.ref b1), .val (.int (1 : Int32)), .val (.int (2 : Int32)), .val (.int (1 : Int32)), .val (.int (1 : Int32)), .val (.int (2 : Int32)), .val (.int (1 : Int32)), .val (.int ((2 : Int32) + (1 : Int32)))] [(.int (1 : Int32))]))
          refine Wp.via (fun _ k => XS.goto X58.here hx rfl (pc0 := 258) (pc' := 262) rfl (hb hby at_258) (by decide) (by decide) k) ?_
          show Wp p e below _ (T58.setTop (mkF m 262 #[.val (.int p0), .val (.int p1), .val (.int p2), .val (.int p3), .val (.int p4), .val (.int (13 : Int32)), .val (.int (10 : Int32)), .val (.ref b1), .val (.int (1 : Int32)), .val (.int (2 : Int32)), .val (.int (1 : Int32)), .val (.int (1 : Int32)), .val (.int (2 : Int32)), .val (.int (1 : Int32)), .val (.int ((2 : Int32) + (1 : Int32)))] [(.int (1 : Int32))]))
          refine Wp.via (fun _ k => XS.istore X58.here hx rfl (hb hby at_262) rfl (l' := #[.val (.int p0), .val (.int p1), .val (.int p2), .val (.int p3), .val (.int p4), .val (.int (13 : Int32)), .val (.int (10 : Int32)), .val (.ref b1), .val (.int (1 : Int32)), .val (.int (2 : Int32)), .val (.int (1 : Int32)), .val (.int (1 : Int32)), .val (.int (2 : Int32)), .val (.int (1 : Int32)), .val (.int ((2 : Int32) + (1 : Int32)))]) rfl k) ?_
          show Wp p e below _ (T58.setTop (mkF m 264 #[.val (.int p0), .val (.int p1), .val (.int p2), .val (.int p3), .val (.int p4), .val (.int (13 : Int32)), .val (.int (10 : Int32)), .val (.ref b1), .val (.int (1 : Int32)), .val (.int (2 : Int32)), .val (.int (1 : Int32)), .val (.int (1 : Int32)), .val (.int (2 : Int32)), .val (.int (1 : Int32)), .val (.int ((2 : Int32) + (1 : Int32)))] []))
          refine Wp.via (fun _ k => XS.iload X58.here hx rfl (hb hby at_264) rfl k) ?_
          show Wp p e below _ (T58.setTop (mkF m 266 #[.val (.int p0), .val (.int p1), .val (.int p2), .val (.int p3), .val (.int p4), .val (.int (13 : Int32)), .val (.int (10 : Int32)), .val (.ref b1), .val (.int (1 : Int32)), .val (.int (2 : Int32)), .val (.int (1 : Int32)), .val (.int (1 : Int32)), .val (.int (2 : Int32)), .val (.int (1 : Int32)), .val (.int ((2 : Int32) + (1 : Int32)))] [(.int (1 : Int32))]))
          exact Wp.retI X58 hlk hx hret (by simp) (by first | rfl | decide) (hb hby at_266) ⟨rfl, NF58⟩ (by decide) (by decide)
        ·
          by_cases d2 : xv = (13 : Int32)
          ·
            subst d2
            show Wp p e below _ (T48.setTop (mkF m 115 #[.val (.int p0), .val (.int p1), .val (.int p2), .val (.int p3), .val (.int p4), .val (.int (13 : Int32)), .val (.int (13 : Int32)), .val (.ref b1), .val (.int (1 : Int32)), .val (.int (2 : Int32)), .val (.int (1 : Int32)), .val (.int (1 : Int32)), .unset, .unset, .unset] [(.int (13 : Int32)), (.ref b1)]))
            obtain ⟨cq59, kq59, q59a, q59b, q59c⟩ := isOf hZ e48 c45
            obtain ⟨_, _, ⟨T59, L59, k59, n59⟩, -, X59, ⟨Lc59, hQ59, l59, y59, z59⟩, st59⟩ := X48.virtualBack hx (y := (⟨"com/example/chyld/chyld/LineColumn", "character", "(I)V"⟩ : MethodName)) (z := (⟨"com/example/chyld/chyld/LineColumn", "character", "(I)V"⟩ : MethodName)) hown (mvT hZ (hw _ (List.mem_of_getElem? (i := 24) rfl))) (mvT hZ (hw _ (List.mem_of_getElem? (i := 25) rfl))) (notFace_of_selects (args := #[]) (mvT hZ (hw _ (List.mem_of_getElem? (i := 27) rfl)))) (mvT hZ (hw _ (List.mem_of_getElem? (i := 27) rfl))) (mvT hZ (hw _ (List.mem_of_getElem? (i := 26) rfl))) (by decide) (backOf (W := 0) (rm5 l Z aw hw [] b1 (13 : Int32) (2 : Int32) (1 : Int32) (1 : Int32) ((2 : Int32) + (1 : Int32)) (1 : Int32) (1 : Int32) T44.heap n0 zz46 c45 gn_b1 m10_line m10_column m10_afterCarriageReturn (by simp [own_l]) (by simp [own_k]) (by simp [own_r])) hZ (hw _ (List.mem_of_getElem? (i := 28) rfl)) (hw _ (List.mem_of_getElem? (i := 6) rfl)) (by decide) (by decide)) q59a q59c (g := (mkF m 115 #[.val (.int p0), .val (.int p1), .val (.int p2), .val (.int p3), .val (.int p4), .val (.int (13 : Int32)), .val (.int (13 : Int32)), .val (.ref b1), .val (.int (1 : Int32)), .val (.int (2 : Int32)), .val (.int (1 : Int32)), .val (.int (1 : Int32)), .unset, .unset, .unset] [(.int (13 : Int32)), (.ref b1)])) rfl (by rw [hml]; rfl) (Steps.refl _) (argsL := [(.int (13 : Int32))]) (rest := []) (lenOf own_pd2 rfl) rfl (by show 2 * 0 + _ ≤ _; exact Nat.le_of_eq rfl) (hb hby at_115) (fun _ _ => ⟨rfl, e48, (by decide : 1 + 0 ≤ _), (by decide : 3 + 0 ≤ _)⟩)
            dsimp only [Pt.U, Pt.locs, Pt.cells, Pt.slots] at X59 l59 y59 z59 st59 hQ59
            subst l59 y59 z59
            obtain ⟨rfl, N59, Kc59, Ec59, m13_line, m13_column, m13_afterCarriageReturn⟩ := hQ59
            have NF59 := Fr.app NF48 N59
            refine Wp.step st59 ?_
            have c60 := c45.keep Kc59
            have K59' := K44'.trans Kc59 (allS (Or.inr sz_b1) all0)
            have zz61 : n0 ≤ T59.heap.size := Nat.le_trans zz46 Kc59.1
            show Wp p e below _ (T59.setTop (mkF m 118 #[.val (.int p0), .val (.int p1), .val (.int p2), .val (.int p3), .val (.int p4), .val (.int (13 : Int32)), .val (.int (13 : Int32)), .val (.ref b1), .val (.int (1 : Int32)), .val (.int (2 : Int32)), .val (.int (1 : Int32)), .val (.int (1 : Int32)), .unset, .unset, .unset] []))
            refine Wp.via (fun _ k => XS.iload X59.here hx rfl (hb hby at_118) rfl k) ?_
            show Wp p e below _ (T59.setTop (mkF m 120 #[.val (.int p0), .val (.int p1), .val (.int p2), .val (.int p3), .val (.int p4), .val (.int (13 : Int32)), .val (.int (13 : Int32)), .val (.ref b1), .val (.int (1 : Int32)), .val (.int (2 : Int32)), .val (.int (1 : Int32)), .val (.int (1 : Int32)), .unset, .unset, .unset] [(.int (13 : Int32))]))
            refine Wp.via (fun _ k => XS.bipush X59.here hx rfl (hb hby at_120) k) ?_
            show Wp p e below _ (T59.setTop (mkF m 122 #[.val (.int p0), .val (.int p1), .val (.int p2), .val (.int p3), .val (.int p4), .val (.int (13 : Int32)), .val (.int (13 : Int32)), .val (.ref b1), .val (.int (1 : Int32)), .val (.int (2 : Int32)), .val (.int (1 : Int32)), .val (.int (1 : Int32)), .unset, .unset, .unset] [(.int (10 : Int32)), (.int (13 : Int32))]))
            refine Wp.via (fun _ k => XS.icmpYes X59.here hx rfl (pc0 := 122) (pc' := 147) rfl (hb hby at_122) rfl (feq (by decide)).2 (by decide) (by decide) k) ?_
            show Wp p e below _ (T59.setTop (mkF m 147 #[.val (.int p0), .val (.int p1), .val (.int p2), .val (.int p3), .val (.int p4), .val (.int (13 : Int32)), .val (.int (13 : Int32)), .val (.ref b1), .val (.int (1 : Int32)), .val (.int (2 : Int32)), .val (.int (1 : Int32)), .val (.int (1 : Int32)), .unset, .unset, .unset] []))
            refine Wp.via (fun _ k => XS.iload X59.here hx rfl (hb hby at_147) rfl k) ?_
            show Wp p e below _ (T59.setTop (mkF m 149 #[.val (.int p0), .val (.int p1), .val (.int p2), .val (.int p3), .val (.int p4), .val (.int (13 : Int32)), .val (.int (13 : Int32)), .val (.ref b1), .val (.int (1 : Int32)), .val (.int (2 : Int32)), .val (.int (1 : Int32)), .val (.int (1 : Int32)), .unset, .unset, .unset] [(.int (13 : Int32))]))
            refine Wp.via (fun _ k => XS.bipush X59.here hx rfl (hb hby at_149) k) ?_
            show Wp p e below _ (T59.setTop (mkF m 151 #[.val (.int p0), .val (.int p1), .val (.int p2), .val (.int p3), .val (.int p4), .val (.int (13 : Int32)), .val (.int (13 : Int32)), .val (.ref b1), .val (.int (1 : Int32)), .val (.int (2 : Int32)), .val (.int (1 : Int32)), .val (.int (1 : Int32)), .unset, .unset, .unset] [(.int (13 : Int32)), (.int (13 : Int32))]))
            refine Wp.via (fun _ k => XS.icmpNo X59.here hx rfl (hb hby at_151) rfl (teq (by decide)).2 k) ?_
            show Wp p e below _ (T59.setTop (mkF m 154 #[.val (.int p0), .val (.int p1), .val (.int p2), .val (.int p3), .val (.int p4), .val (.int (13 : Int32)), .val (.int (13 : Int32)), .val (.ref b1), .val (.int (1 : Int32)), .val (.int (2 : Int32)), .val (.int (1 : Int32)), .val (.int (1 : Int32)), .unset, .unset, .unset] []))
            refine Wp.via (fun _ k => XS.iload X59.here hx rfl (hb hby at_154) rfl k) ?_
            show Wp p e below _ (T59.setTop (mkF m 156 #[.val (.int p0), .val (.int p1), .val (.int p2), .val (.int p3), .val (.int p4), .val (.int (13 : Int32)), .val (.int (13 : Int32)), .val (.ref b1), .val (.int (1 : Int32)), .val (.int (2 : Int32)), .val (.int (1 : Int32)), .val (.int (1 : Int32)), .unset, .unset, .unset] [(.int (2 : Int32))]))
            refine Wp.via (fun _ k => XS.iconst X59.here hx rfl (hb hby at_156) k) ?_
            show Wp p e below _ (T59.setTop (mkF m 157 #[.val (.int p0), .val (.int p1), .val (.int p2), .val (.int p3), .val (.int p4), .val (.int (13 : Int32)), .val (.int (13 : Int32)), .val (.ref b1), .val (.int (1 : Int32)), .val (.int (2 : Int32)), .val (.int (1 : Int32)), .val (.int (1 : Int32)), .unset, .unset, .unset] [(.int (1 : Int32)), (.int (2 : Int32))]))
            refine Wp.via (fun _ k => XS.iadd X59.here hx rfl (hb hby at_157) rfl k) ?_
            show Wp p e below _ (T59.setTop (mkF m 158 #[.val (.int p0), .val (.int p1), .val (.int p2), .val (.int p3), .val (.int p4), .val (.int (13 : Int32)), .val (.int (13 : Int32)), .val (.ref b1), .val (.int (1 : Int32)), .val (.int (2 : Int32)), .val (.int (1 : Int32)), .val (.int (1 : Int32)), .unset, .unset, .unset] [(.int ((2 : Int32) + (1 : Int32)))]))
            refine Wp.via (fun _ k => XS.istore X59.here hx rfl (hb hby at_158) rfl (l' := #[.val (.int p0), .val (.int p1), .val (.int p2), .val (.int p3), .val (.int p4), .val (.int (13 : Int32)), .val (.int (13 : Int32)), .val (.ref b1), .val (.int (1 : Int32)), .val (.int (2 : Int32)), .val (.int (1 : Int32)), .val (.int (1 : Int32)), .val (.int ((2 : Int32) + (1 : Int32))), .unset, .unset]) rfl k) ?_
            show Wp p e below _ (T59.setTop (mkF m 160 #[.val (.int p0), .val (.int p1), .val (.int p2), .val (.int p3), .val (.int p4), .val (.int (13 : Int32)), .val (.int (13 : Int32)), .val (.ref b1), .val (.int (1 : Int32)), .val (.int (2 : Int32)), .val (.int (1 : Int32)), .val (.int (1 : Int32)), .val (.int ((2 : Int32) + (1 : Int32))), .unset, .unset] []))
            refine Wp.via (fun _ k => XS.iconst X59.here hx rfl (hb hby at_160) k) ?_
            show Wp p e below _ (T59.setTop (mkF m 161 #[.val (.int p0), .val (.int p1), .val (.int p2), .val (.int p3), .val (.int p4), .val (.int (13 : Int32)), .val (.int (13 : Int32)), .val (.ref b1), .val (.int (1 : Int32)), .val (.int (2 : Int32)), .val (.int (1 : Int32)), .val (.int (1 : Int32)), .val (.int ((2 : Int32) + (1 : Int32))), .unset, .unset] [(.int (1 : Int32))]))
            refine Wp.via (fun _ k => XS.istore X59.here hx rfl (hb hby at_161) rfl (l' := #[.val (.int p0), .val (.int p1), .val (.int p2), .val (.int p3), .val (.int p4), .val (.int (13 : Int32)), .val (.int (13 : Int32)), .val (.ref b1), .val (.int (1 : Int32)), .val (.int (2 : Int32)), .val (.int (1 : Int32)), .val (.int (1 : Int32)), .val (.int ((2 : Int32) + (1 : Int32))), .val (.int (1 : Int32)), .unset]) rfl k) ?_
            show Wp p e below _ (T59.setTop (mkF m 163 #[.val (.int p0), .val (.int p1), .val (.int p2), .val (.int p3), .val (.int p4), .val (.int (13 : Int32)), .val (.int (13 : Int32)), .val (.ref b1), .val (.int (1 : Int32)), .val (.int (2 : Int32)), .val (.int (1 : Int32)), .val (.int (1 : Int32)), .val (.int ((2 : Int32) + (1 : Int32))), .val (.int (1 : Int32)), .unset] []))
            refine Wp.via (fun _ k => XS.goto X59.here hx rfl (pc0 := 163) (pc' := 176) rfl (hb hby at_163) (by decide) (by decide) k) ?_
            show Wp p e below _ (T59.setTop (mkF m 176 #[.val (.int p0), .val (.int p1), .val (.int p2), .val (.int p3), .val (.int p4), .val (.int (13 : Int32)), .val (.int (13 : Int32)), .val (.ref b1), .val (.int (1 : Int32)), .val (.int (2 : Int32)), .val (.int (1 : Int32)), .val (.int (1 : Int32)), .val (.int ((2 : Int32) + (1 : Int32))), .val (.int (1 : Int32)), .unset] []))
            refine Wp.via (fun _ k => XS.iload X59.here hx rfl (hb hby at_176) rfl k) ?_
            show Wp p e below _ (T59.setTop (mkF m 178 #[.val (.int p0), .val (.int p1), .val (.int p2), .val (.int p3), .val (.int p4), .val (.int (13 : Int32)), .val (.int (13 : Int32)), .val (.ref b1), .val (.int (1 : Int32)), .val (.int (2 : Int32)), .val (.int (1 : Int32)), .val (.int (1 : Int32)), .val (.int ((2 : Int32) + (1 : Int32))), .val (.int (1 : Int32)), .unset] [(.int (1 : Int32))]))
            refine Wp.via (fun _ k => XS.ifNo X59.here hx rfl (hb hby at_178) rfl ((if0 _ _).trans (feq (by decide)).1) k) ?_
            show Wp p e below _ (T59.setTop (mkF m 181 #[.val (.int p0), .val (.int p1), .val (.int p2), .val (.int p3), .val (.int p4), .val (.int (13 : Int32)), .val (.int (13 : Int32)), .val (.ref b1), .val (.int (1 : Int32)), .val (.int (2 : Int32)), .val (.int (1 : Int32)), .val (.int (1 : Int32)), .val (.int ((2 : Int32) + (1 : Int32))), .val (.int (1 : Int32)), .unset] []))
            refine Wp.via (fun _ k => XS.aload X59.here hx rfl (hb hby at_181) rfl rfl k) ?_
            show Wp p e below _ (T59.setTop (mkF m 183 #[.val (.int p0), .val (.int p1), .val (.int p2), .val (.int p3), .val (.int p4), .val (.int (13 : Int32)), .val (.int (13 : Int32)), .val (.ref b1), .val (.int (1 : Int32)), .val (.int (2 : Int32)), .val (.int (1 : Int32)), .val (.int (1 : Int32)), .val (.int ((2 : Int32) + (1 : Int32))), .val (.int (1 : Int32)), .unset] [(.ref b1)]))
            obtain ⟨cq62, kq62, q62a, q62b, q62c⟩ := isOf hZ rfl c60
            obtain ⟨_, _, ⟨T62, L62, k62, n62⟩, -, X62, ⟨Lc62, hQ62, l62, y62, z62⟩, st62⟩ := X59.virtualBack hx (y := (⟨"com/example/chyld/chyld/LineColumn", "line", "()I"⟩ : MethodName)) (z := (⟨"com/example/chyld/chyld/LineColumn", "line", "()I"⟩ : MethodName)) hown (mvT hZ (hw _ (List.mem_of_getElem? (i := 29) rfl))) (mvT hZ (hw _ (List.mem_of_getElem? (i := 30) rfl))) (notFace_of_selects (args := #[]) (mvT hZ (hw _ (List.mem_of_getElem? (i := 32) rfl)))) (mvT hZ (hw _ (List.mem_of_getElem? (i := 32) rfl))) (mvT hZ (hw _ (List.mem_of_getElem? (i := 31) rfl))) (by decide) (backOf (W := 0) (rm6 l Z aw hw [] b1 ((2 : Int32) + (1 : Int32)) T59.heap n0 zz61 m13_line) hZ (hw _ (List.mem_of_getElem? (i := 33) rfl)) (hw _ (List.mem_of_getElem? (i := 6) rfl)) (by decide) (by decide)) q62a q62c (g := (mkF m 183 #[.val (.int p0), .val (.int p1), .val (.int p2), .val (.int p3), .val (.int p4), .val (.int (13 : Int32)), .val (.int (13 : Int32)), .val (.ref b1), .val (.int (1 : Int32)), .val (.int (2 : Int32)), .val (.int (1 : Int32)), .val (.int (1 : Int32)), .val (.int ((2 : Int32) + (1 : Int32))), .val (.int (1 : Int32)), .unset] [(.ref b1)])) rfl (by rw [hml]; rfl) (Steps.refl _) (argsL := []) (rest := []) (lenOf own_pd3 rfl) rfl (by show 2 * 0 + _ ≤ _; exact Nat.le_of_eq rfl) (hb hby at_183) (fun _ _ => ⟨rfl, rfl, (by decide : 1 + 0 ≤ _), (by decide : 3 + 0 ≤ _)⟩)
            dsimp only [Pt.U, Pt.locs, Pt.cells, Pt.slots] at X62 l62 y62 z62 st62 hQ62
            subst l62 y62 z62
            obtain ⟨rfl, N62, e62⟩ := hQ62
            have NF62 := Fr.app NF59 N62
            refine Wp.step st62 ?_
            show Wp p e below _ (T62.setTop (mkF m 186 #[.val (.int p0), .val (.int p1), .val (.int p2), .val (.int p3), .val (.int p4), .val (.int (13 : Int32)), .val (.int (13 : Int32)), .val (.ref b1), .val (.int (1 : Int32)), .val (.int (2 : Int32)), .val (.int (1 : Int32)), .val (.int (1 : Int32)), .val (.int ((2 : Int32) + (1 : Int32))), .val (.int (1 : Int32)), .unset] [(.int ((2 : Int32) + (1 : Int32)))]))
            refine Wp.via (fun _ k => XS.iload X62.here hx rfl (hb hby at_186) rfl k) ?_
            show Wp p e below _ (T62.setTop (mkF m 188 #[.val (.int p0), .val (.int p1), .val (.int p2), .val (.int p3), .val (.int p4), .val (.int (13 : Int32)), .val (.int (13 : Int32)), .val (.ref b1), .val (.int (1 : Int32)), .val (.int (2 : Int32)), .val (.int (1 : Int32)), .val (.int (1 : Int32)), .val (.int ((2 : Int32) + (1 : Int32))), .val (.int (1 : Int32)), .unset] [(.int ((2 : Int32) + (1 : Int32))), (.int ((2 : Int32) + (1 : Int32)))]))
            refine Wp.via (fun _ k => XS.icmpNo X62.here hx rfl (hb hby at_188) rfl (teq rfl).2 k) ?_
            show Wp p e below _ (T62.setTop (mkF m 191 #[.val (.int p0), .val (.int p1), .val (.int p2), .val (.int p3), .val (.int p4), .val (.int (13 : Int32)), .val (.int (13 : Int32)), .val (.ref b1), .val (.int (1 : Int32)), .val (.int (2 : Int32)), .val (.int (1 : Int32)), .val (.int (1 : Int32)), .val (.int ((2 : Int32) + (1 : Int32))), .val (.int (1 : Int32)), .unset] []))
            refine Wp.via (fun _ k => XS.aload X62.here hx rfl (hb hby at_191) rfl rfl k) ?_
            show Wp p e below _ (T62.setTop (mkF m 193 #[.val (.int p0), .val (.int p1), .val (.int p2), .val (.int p3), .val (.int p4), .val (.int (13 : Int32)), .val (.int (13 : Int32)), .val (.ref b1), .val (.int (1 : Int32)), .val (.int (2 : Int32)), .val (.int (1 : Int32)), .val (.int (1 : Int32)), .val (.int ((2 : Int32) + (1 : Int32))), .val (.int (1 : Int32)), .unset] [(.ref b1)]))
            obtain ⟨cq63, kq63, q63a, q63b, q63c⟩ := isOf hZ e62 c60
            obtain ⟨_, _, ⟨T63, L63, k63, n63⟩, -, X63, ⟨Lc63, hQ63, l63, y63, z63⟩, st63⟩ := X62.virtualBack hx (y := (⟨"com/example/chyld/chyld/LineColumn", "column", "()I"⟩ : MethodName)) (z := (⟨"com/example/chyld/chyld/LineColumn", "column", "()I"⟩ : MethodName)) hown (mvT hZ (hw _ (List.mem_of_getElem? (i := 34) rfl))) (mvT hZ (hw _ (List.mem_of_getElem? (i := 35) rfl))) (notFace_of_selects (args := #[]) (mvT hZ (hw _ (List.mem_of_getElem? (i := 37) rfl)))) (mvT hZ (hw _ (List.mem_of_getElem? (i := 37) rfl))) (mvT hZ (hw _ (List.mem_of_getElem? (i := 36) rfl))) (by decide) (backOf (W := 0) (rm7 l Z aw hw [] b1 (1 : Int32) T59.heap n0 zz61 m13_column) hZ (hw _ (List.mem_of_getElem? (i := 38) rfl)) (hw _ (List.mem_of_getElem? (i := 6) rfl)) (by decide) (by decide)) q63a q63c (g := (mkF m 193 #[.val (.int p0), .val (.int p1), .val (.int p2), .val (.int p3), .val (.int p4), .val (.int (13 : Int32)), .val (.int (13 : Int32)), .val (.ref b1), .val (.int (1 : Int32)), .val (.int (2 : Int32)), .val (.int (1 : Int32)), .val (.int (1 : Int32)), .val (.int ((2 : Int32) + (1 : Int32))), .val (.int (1 : Int32)), .unset] [(.ref b1)])) rfl (by rw [hml]; rfl) (Steps.refl _) (argsL := []) (rest := []) (lenOf own_pd3 rfl) rfl (by show 2 * 0 + _ ≤ _; exact Nat.le_of_eq rfl) (hb hby at_193) (fun _ _ => ⟨rfl, e62, (by decide : 1 + 0 ≤ _), (by decide : 3 + 0 ≤ _)⟩)
            dsimp only [Pt.U, Pt.locs, Pt.cells, Pt.slots] at X63 l63 y63 z63 st63 hQ63
            subst l63 y63 z63
            obtain ⟨rfl, N63, e63⟩ := hQ63
            have NF63 := Fr.app NF62 N63
            refine Wp.step st63 ?_
            show Wp p e below _ (T63.setTop (mkF m 196 #[.val (.int p0), .val (.int p1), .val (.int p2), .val (.int p3), .val (.int p4), .val (.int (13 : Int32)), .val (.int (13 : Int32)), .val (.ref b1), .val (.int (1 : Int32)), .val (.int (2 : Int32)), .val (.int (1 : Int32)), .val (.int (1 : Int32)), .val (.int ((2 : Int32) + (1 : Int32))), .val (.int (1 : Int32)), .unset] [(.int (1 : Int32))]))
            refine Wp.via (fun _ k => XS.iload X63.here hx rfl (hb hby at_196) rfl k) ?_
            show Wp p e below _ (T63.setTop (mkF m 198 #[.val (.int p0), .val (.int p1), .val (.int p2), .val (.int p3), .val (.int p4), .val (.int (13 : Int32)), .val (.int (13 : Int32)), .val (.ref b1), .val (.int (1 : Int32)), .val (.int (2 : Int32)), .val (.int (1 : Int32)), .val (.int (1 : Int32)), .val (.int ((2 : Int32) + (1 : Int32))), .val (.int (1 : Int32)), .unset] [(.int (1 : Int32)), (.int (1 : Int32))]))
            refine Wp.via (fun _ k => XS.icmpNo X63.here hx rfl (hb hby at_198) rfl (teq (by decide)).2 k) ?_
            show Wp p e below _ (T63.setTop (mkF m 201 #[.val (.int p0), .val (.int p1), .val (.int p2), .val (.int p3), .val (.int p4), .val (.int (13 : Int32)), .val (.int (13 : Int32)), .val (.ref b1), .val (.int (1 : Int32)), .val (.int (2 : Int32)), .val (.int (1 : Int32)), .val (.int (1 : Int32)), .val (.int ((2 : Int32) + (1 : Int32))), .val (.int (1 : Int32)), .unset] []))
            refine Wp.via (fun _ k => XS.iconst X63.here hx rfl (hb hby at_201) k) ?_
            show Wp p e below _ (T63.setTop (mkF m 202 #[.val (.int p0), .val (.int p1), .val (.int p2), .val (.int p3), .val (.int p4), .val (.int (13 : Int32)), .val (.int (13 : Int32)), .val (.ref b1), .val (.int (1 : Int32)), .val (.int (2 : Int32)), .val (.int (1 : Int32)), .val (.int (1 : Int32)), .val (.int ((2 : Int32) + (1 : Int32))), .val (.int (1 : Int32)), .unset] [(.int (1 : Int32))]))
            refine Wp.via (fun _ k => XS.goto X63.here hx rfl (pc0 := 202) (pc' := 206) rfl (hb hby at_202) (by decide) (by decide) k) ?_
            show Wp p e below _ (T63.setTop (mkF m 206 #[.val (.int p0), .val (.int p1), .val (.int p2), .val (.int p3), .val (.int p4), .val (.int (13 : Int32)), .val (.int (13 : Int32)), .val (.ref b1), .val (.int (1 : Int32)), .val (.int (2 : Int32)), .val (.int (1 : Int32)), .val (.int (1 : Int32)), .val (.int ((2 : Int32) + (1 : Int32))), .val (.int (1 : Int32)), .unset] [(.int (1 : Int32))]))
            refine Wp.via (fun _ k => XS.istore X63.here hx rfl (hb hby at_206) rfl (l' := #[.val (.int p0), .val (.int p1), .val (.int p2), .val (.int p3), .val (.int p4), .val (.int (13 : Int32)), .val (.int (13 : Int32)), .val (.ref b1), .val (.int (1 : Int32)), .val (.int (2 : Int32)), .val (.int (1 : Int32)), .val (.int (1 : Int32)), .val (.int ((2 : Int32) + (1 : Int32))), .val (.int (1 : Int32)), .unset]) rfl k) ?_
            show Wp p e below _ (T63.setTop (mkF m 208 #[.val (.int p0), .val (.int p1), .val (.int p2), .val (.int p3), .val (.int p4), .val (.int (13 : Int32)), .val (.int (13 : Int32)), .val (.ref b1), .val (.int (1 : Int32)), .val (.int (2 : Int32)), .val (.int (1 : Int32)), .val (.int (1 : Int32)), .val (.int ((2 : Int32) + (1 : Int32))), .val (.int (1 : Int32)), .unset] []))
            refine Wp.via (fun _ k => XS.aload X63.here hx rfl (hb hby at_208) rfl rfl k) ?_
            show Wp p e below _ (T63.setTop (mkF m 210 #[.val (.int p0), .val (.int p1), .val (.int p2), .val (.int p3), .val (.int p4), .val (.int (13 : Int32)), .val (.int (13 : Int32)), .val (.ref b1), .val (.int (1 : Int32)), .val (.int (2 : Int32)), .val (.int (1 : Int32)), .val (.int (1 : Int32)), .val (.int ((2 : Int32) + (1 : Int32))), .val (.int (1 : Int32)), .unset] [(.ref b1)]))
            refine Wp.via (fun _ k => XS.bipush X63.here hx rfl (hb hby at_210) k) ?_
            show Wp p e below _ (T63.setTop (mkF m 212 #[.val (.int p0), .val (.int p1), .val (.int p2), .val (.int p3), .val (.int p4), .val (.int (13 : Int32)), .val (.int (13 : Int32)), .val (.ref b1), .val (.int (1 : Int32)), .val (.int (2 : Int32)), .val (.int (1 : Int32)), .val (.int (1 : Int32)), .val (.int ((2 : Int32) + (1 : Int32))), .val (.int (1 : Int32)), .unset] [(.int (10 : Int32)), (.ref b1)]))
            obtain ⟨cq64, kq64, q64a, q64b, q64c⟩ := isOf hZ e63 c60
            obtain ⟨_, _, ⟨T64, L64, k64, n64⟩, -, X64, ⟨Lc64, hQ64, l64, y64, z64⟩, st64⟩ := X63.virtualBack hx (y := (⟨"com/example/chyld/chyld/LineColumn", "character", "(I)V"⟩ : MethodName)) (z := (⟨"com/example/chyld/chyld/LineColumn", "character", "(I)V"⟩ : MethodName)) hown (mvT hZ (hw _ (List.mem_of_getElem? (i := 24) rfl))) (mvT hZ (hw _ (List.mem_of_getElem? (i := 25) rfl))) (notFace_of_selects (args := #[]) (mvT hZ (hw _ (List.mem_of_getElem? (i := 27) rfl)))) (mvT hZ (hw _ (List.mem_of_getElem? (i := 27) rfl))) (mvT hZ (hw _ (List.mem_of_getElem? (i := 26) rfl))) (by decide) (backOf (W := 0) (rm5 l Z aw hw [] b1 (10 : Int32) ((2 : Int32) + (1 : Int32)) (1 : Int32) (1 : Int32) ((2 : Int32) + (1 : Int32)) (1 : Int32) (0 : Int32) T59.heap n0 zz61 c60 gn_b1 m13_line m13_column m13_afterCarriageReturn (by simp [own_l]) (by simp [own_k]) (by simp [own_r])) hZ (hw _ (List.mem_of_getElem? (i := 28) rfl)) (hw _ (List.mem_of_getElem? (i := 6) rfl)) (by decide) (by decide)) q64a q64c (g := (mkF m 212 #[.val (.int p0), .val (.int p1), .val (.int p2), .val (.int p3), .val (.int p4), .val (.int (13 : Int32)), .val (.int (13 : Int32)), .val (.ref b1), .val (.int (1 : Int32)), .val (.int (2 : Int32)), .val (.int (1 : Int32)), .val (.int (1 : Int32)), .val (.int ((2 : Int32) + (1 : Int32))), .val (.int (1 : Int32)), .unset] [(.int (10 : Int32)), (.ref b1)])) rfl (by rw [hml]; rfl) (Steps.refl _) (argsL := [(.int (10 : Int32))]) (rest := []) (lenOf own_pd2 rfl) rfl (by show 2 * 0 + _ ≤ _; exact Nat.le_of_eq rfl) (hb hby at_212) (fun _ _ => ⟨rfl, e63, (by decide : 1 + 0 ≤ _), (by decide : 3 + 0 ≤ _)⟩)
            dsimp only [Pt.U, Pt.locs, Pt.cells, Pt.slots] at X64 l64 y64 z64 st64 hQ64
            subst l64 y64 z64
            obtain ⟨rfl, N64, Kc64, Ec64, m14_line, m14_column, m14_afterCarriageReturn⟩ := hQ64
            have NF64 := Fr.app NF63 N64
            refine Wp.step st64 ?_
            have c65 := c60.keep Kc64
            have K64' := K59'.trans Kc64 (allS (Or.inr sz_b1) all0)
            have zz66 : n0 ≤ T64.heap.size := Nat.le_trans zz61 Kc64.1
            show Wp p e below _ (T64.setTop (mkF m 215 #[.val (.int p0), .val (.int p1), .val (.int p2), .val (.int p3), .val (.int p4), .val (.int (13 : Int32)), .val (.int (13 : Int32)), .val (.ref b1), .val (.int (1 : Int32)), .val (.int (2 : Int32)), .val (.int (1 : Int32)), .val (.int (1 : Int32)), .val (.int ((2 : Int32) + (1 : Int32))), .val (.int (1 : Int32)), .unset] []))
            refine Wp.via (fun _ k => XS.iload X64.here hx rfl (hb hby at_215) rfl k) ?_
            show Wp p e below _ (T64.setTop (mkF m 217 #[.val (.int p0), .val (.int p1), .val (.int p2), .val (.int p3), .val (.int p4), .val (.int (13 : Int32)), .val (.int (13 : Int32)), .val (.ref b1), .val (.int (1 : Int32)), .val (.int (2 : Int32)), .val (.int (1 : Int32)), .val (.int (1 : Int32)), .val (.int ((2 : Int32) + (1 : Int32))), .val (.int (1 : Int32)), .unset] [(.int (13 : Int32))]))
            refine Wp.via (fun _ k => XS.bipush X64.here hx rfl (hb hby at_217) k) ?_
            show Wp p e below _ (T64.setTop (mkF m 219 #[.val (.int p0), .val (.int p1), .val (.int p2), .val (.int p3), .val (.int p4), .val (.int (13 : Int32)), .val (.int (13 : Int32)), .val (.ref b1), .val (.int (1 : Int32)), .val (.int (2 : Int32)), .val (.int (1 : Int32)), .val (.int (1 : Int32)), .val (.int ((2 : Int32) + (1 : Int32))), .val (.int (1 : Int32)), .unset] [(.int (13 : Int32)), (.int (13 : Int32))]))
            refine Wp.via (fun _ k => XS.icmpNo X64.here hx rfl (hb hby at_219) rfl (teq (by decide)).2 k) ?_
            show Wp p e below _ (T64.setTop (mkF m 222 #[.val (.int p0), .val (.int p1), .val (.int p2), .val (.int p3), .val (.int p4), .val (.int (13 : Int32)), .val (.int (13 : Int32)), .val (.ref b1), .val (.int (1 : Int32)), .val (.int (2 : Int32)), .val (.int (1 : Int32)), .val (.int (1 : Int32)), .val (.int ((2 : Int32) + (1 : Int32))), .val (.int (1 : Int32)), .unset] []))
            refine Wp.via (fun _ k => XS.iload X64.here hx rfl (hb hby at_222) rfl k) ?_
            show Wp p e below _ (T64.setTop (mkF m 224 #[.val (.int p0), .val (.int p1), .val (.int p2), .val (.int p3), .val (.int p4), .val (.int (13 : Int32)), .val (.int (13 : Int32)), .val (.ref b1), .val (.int (1 : Int32)), .val (.int (2 : Int32)), .val (.int (1 : Int32)), .val (.int (1 : Int32)), .val (.int ((2 : Int32) + (1 : Int32))), .val (.int (1 : Int32)), .unset] [(.int ((2 : Int32) + (1 : Int32)))]))
            refine Wp.via (fun _ k => XS.goto X64.here hx rfl (pc0 := 224) (pc' := 231) rfl (hb hby at_224) (by decide) (by decide) k) ?_
            show Wp p e below _ (T64.setTop (mkF m 231 #[.val (.int p0), .val (.int p1), .val (.int p2), .val (.int p3), .val (.int p4), .val (.int (13 : Int32)), .val (.int (13 : Int32)), .val (.ref b1), .val (.int (1 : Int32)), .val (.int (2 : Int32)), .val (.int (1 : Int32)), .val (.int (1 : Int32)), .val (.int ((2 : Int32) + (1 : Int32))), .val (.int (1 : Int32)), .unset] [(.int ((2 : Int32) + (1 : Int32)))]))
            refine Wp.via (fun _ k => XS.istore X64.here hx rfl (hb hby at_231) rfl (l' := #[.val (.int p0), .val (.int p1), .val (.int p2), .val (.int p3), .val (.int p4), .val (.int (13 : Int32)), .val (.int (13 : Int32)), .val (.ref b1), .val (.int (1 : Int32)), .val (.int (2 : Int32)), .val (.int (1 : Int32)), .val (.int (1 : Int32)), .val (.int ((2 : Int32) + (1 : Int32))), .val (.int (1 : Int32)), .val (.int ((2 : Int32) + (1 : Int32)))]) rfl k) ?_
            show Wp p e below _ (T64.setTop (mkF m 233 #[.val (.int p0), .val (.int p1), .val (.int p2), .val (.int p3), .val (.int p4), .val (.int (13 : Int32)), .val (.int (13 : Int32)), .val (.ref b1), .val (.int (1 : Int32)), .val (.int (2 : Int32)), .val (.int (1 : Int32)), .val (.int (1 : Int32)), .val (.int ((2 : Int32) + (1 : Int32))), .val (.int (1 : Int32)), .val (.int ((2 : Int32) + (1 : Int32)))] []))
            refine Wp.via (fun _ k => XS.iload X64.here hx rfl (hb hby at_233) rfl k) ?_
            show Wp p e below _ (T64.setTop (mkF m 235 #[.val (.int p0), .val (.int p1), .val (.int p2), .val (.int p3), .val (.int p4), .val (.int (13 : Int32)), .val (.int (13 : Int32)), .val (.ref b1), .val (.int (1 : Int32)), .val (.int (2 : Int32)), .val (.int (1 : Int32)), .val (.int (1 : Int32)), .val (.int ((2 : Int32) + (1 : Int32))), .val (.int (1 : Int32)), .val (.int ((2 : Int32) + (1 : Int32)))] [(.int (1 : Int32))]))
            refine Wp.via (fun _ k => XS.ifNo X64.here hx rfl (hb hby at_235) rfl ((if0 _ _).trans (feq (by decide)).1) k) ?_
            show Wp p e below _ (T64.setTop (mkF m 238 #[.val (.int p0), .val (.int p1), .val (.int p2), .val (.int p3), .val (.int p4), .val (.int (13 : Int32)), .val (.int (13 : Int32)), .val (.ref b1), .val (.int (1 : Int32)), .val (.int (2 : Int32)), .val (.int (1 : Int32)), .val (.int (1 : Int32)), .val (.int ((2 : Int32) + (1 : Int32))), .val (.int (1 : Int32)), .val (.int ((2 : Int32) + (1 : Int32)))] []))
            refine Wp.via (fun _ k => XS.aload X64.here hx rfl (hb hby at_238) rfl rfl k) ?_
            show Wp p e below _ (T64.setTop (mkF m 240 #[.val (.int p0), .val (.int p1), .val (.int p2), .val (.int p3), .val (.int p4), .val (.int (13 : Int32)), .val (.int (13 : Int32)), .val (.ref b1), .val (.int (1 : Int32)), .val (.int (2 : Int32)), .val (.int (1 : Int32)), .val (.int (1 : Int32)), .val (.int ((2 : Int32) + (1 : Int32))), .val (.int (1 : Int32)), .val (.int ((2 : Int32) + (1 : Int32)))] [(.ref b1)]))
            obtain ⟨cq67, kq67, q67a, q67b, q67c⟩ := isOf hZ rfl c65
            obtain ⟨_, _, ⟨T67, L67, k67, n67⟩, -, X67, ⟨Lc67, hQ67, l67, y67, z67⟩, st67⟩ := X64.virtualBack hx (y := (⟨"com/example/chyld/chyld/LineColumn", "line", "()I"⟩ : MethodName)) (z := (⟨"com/example/chyld/chyld/LineColumn", "line", "()I"⟩ : MethodName)) hown (mvT hZ (hw _ (List.mem_of_getElem? (i := 29) rfl))) (mvT hZ (hw _ (List.mem_of_getElem? (i := 30) rfl))) (notFace_of_selects (args := #[]) (mvT hZ (hw _ (List.mem_of_getElem? (i := 32) rfl)))) (mvT hZ (hw _ (List.mem_of_getElem? (i := 32) rfl))) (mvT hZ (hw _ (List.mem_of_getElem? (i := 31) rfl))) (by decide) (backOf (W := 0) (rm6 l Z aw hw [] b1 ((2 : Int32) + (1 : Int32)) T64.heap n0 zz66 m14_line) hZ (hw _ (List.mem_of_getElem? (i := 33) rfl)) (hw _ (List.mem_of_getElem? (i := 6) rfl)) (by decide) (by decide)) q67a q67c (g := (mkF m 240 #[.val (.int p0), .val (.int p1), .val (.int p2), .val (.int p3), .val (.int p4), .val (.int (13 : Int32)), .val (.int (13 : Int32)), .val (.ref b1), .val (.int (1 : Int32)), .val (.int (2 : Int32)), .val (.int (1 : Int32)), .val (.int (1 : Int32)), .val (.int ((2 : Int32) + (1 : Int32))), .val (.int (1 : Int32)), .val (.int ((2 : Int32) + (1 : Int32)))] [(.ref b1)])) rfl (by rw [hml]; rfl) (Steps.refl _) (argsL := []) (rest := []) (lenOf own_pd3 rfl) rfl (by show 2 * 0 + _ ≤ _; exact Nat.le_of_eq rfl) (hb hby at_240) (fun _ _ => ⟨rfl, rfl, (by decide : 1 + 0 ≤ _), (by decide : 3 + 0 ≤ _)⟩)
            dsimp only [Pt.U, Pt.locs, Pt.cells, Pt.slots] at X67 l67 y67 z67 st67 hQ67
            subst l67 y67 z67
            obtain ⟨rfl, N67, e67⟩ := hQ67
            have NF67 := Fr.app NF64 N67
            refine Wp.step st67 ?_
            show Wp p e below _ (T67.setTop (mkF m 243 #[.val (.int p0), .val (.int p1), .val (.int p2), .val (.int p3), .val (.int p4), .val (.int (13 : Int32)), .val (.int (13 : Int32)), .val (.ref b1), .val (.int (1 : Int32)), .val (.int (2 : Int32)), .val (.int (1 : Int32)), .val (.int (1 : Int32)), .val (.int ((2 : Int32) + (1 : Int32))), .val (.int (1 : Int32)), .val (.int ((2 : Int32) + (1 : Int32)))] [(.int ((2 : Int32) + (1 : Int32)))]))
            refine Wp.via (fun _ k => XS.iload X67.here hx rfl (hb hby at_243) rfl k) ?_
            show Wp p e below _ (T67.setTop (mkF m 245 #[.val (.int p0), .val (.int p1), .val (.int p2), .val (.int p3), .val (.int p4), .val (.int (13 : Int32)), .val (.int (13 : Int32)), .val (.ref b1), .val (.int (1 : Int32)), .val (.int (2 : Int32)), .val (.int (1 : Int32)), .val (.int (1 : Int32)), .val (.int ((2 : Int32) + (1 : Int32))), .val (.int (1 : Int32)), .val (.int ((2 : Int32) + (1 : Int32)))] [(.int ((2 : Int32) + (1 : Int32))), (.int ((2 : Int32) + (1 : Int32)))]))
            refine Wp.via (fun _ k => XS.icmpNo X67.here hx rfl (hb hby at_245) rfl (teq rfl).2 k) ?_
            show Wp p e below _ (T67.setTop (mkF m 248 #[.val (.int p0), .val (.int p1), .val (.int p2), .val (.int p3), .val (.int p4), .val (.int (13 : Int32)), .val (.int (13 : Int32)), .val (.ref b1), .val (.int (1 : Int32)), .val (.int (2 : Int32)), .val (.int (1 : Int32)), .val (.int (1 : Int32)), .val (.int ((2 : Int32) + (1 : Int32))), .val (.int (1 : Int32)), .val (.int ((2 : Int32) + (1 : Int32)))] []))
            refine Wp.via (fun _ k => XS.aload X67.here hx rfl (hb hby at_248) rfl rfl k) ?_
            show Wp p e below _ (T67.setTop (mkF m 250 #[.val (.int p0), .val (.int p1), .val (.int p2), .val (.int p3), .val (.int p4), .val (.int (13 : Int32)), .val (.int (13 : Int32)), .val (.ref b1), .val (.int (1 : Int32)), .val (.int (2 : Int32)), .val (.int (1 : Int32)), .val (.int (1 : Int32)), .val (.int ((2 : Int32) + (1 : Int32))), .val (.int (1 : Int32)), .val (.int ((2 : Int32) + (1 : Int32)))] [(.ref b1)]))
            obtain ⟨cq68, kq68, q68a, q68b, q68c⟩ := isOf hZ e67 c65
            obtain ⟨_, _, ⟨T68, L68, k68, n68⟩, -, X68, ⟨Lc68, hQ68, l68, y68, z68⟩, st68⟩ := X67.virtualBack hx (y := (⟨"com/example/chyld/chyld/LineColumn", "column", "()I"⟩ : MethodName)) (z := (⟨"com/example/chyld/chyld/LineColumn", "column", "()I"⟩ : MethodName)) hown (mvT hZ (hw _ (List.mem_of_getElem? (i := 34) rfl))) (mvT hZ (hw _ (List.mem_of_getElem? (i := 35) rfl))) (notFace_of_selects (args := #[]) (mvT hZ (hw _ (List.mem_of_getElem? (i := 37) rfl)))) (mvT hZ (hw _ (List.mem_of_getElem? (i := 37) rfl))) (mvT hZ (hw _ (List.mem_of_getElem? (i := 36) rfl))) (by decide) (backOf (W := 0) (rm7 l Z aw hw [] b1 (1 : Int32) T64.heap n0 zz66 m14_column) hZ (hw _ (List.mem_of_getElem? (i := 38) rfl)) (hw _ (List.mem_of_getElem? (i := 6) rfl)) (by decide) (by decide)) q68a q68c (g := (mkF m 250 #[.val (.int p0), .val (.int p1), .val (.int p2), .val (.int p3), .val (.int p4), .val (.int (13 : Int32)), .val (.int (13 : Int32)), .val (.ref b1), .val (.int (1 : Int32)), .val (.int (2 : Int32)), .val (.int (1 : Int32)), .val (.int (1 : Int32)), .val (.int ((2 : Int32) + (1 : Int32))), .val (.int (1 : Int32)), .val (.int ((2 : Int32) + (1 : Int32)))] [(.ref b1)])) rfl (by rw [hml]; rfl) (Steps.refl _) (argsL := []) (rest := []) (lenOf own_pd3 rfl) rfl (by show 2 * 0 + _ ≤ _; exact Nat.le_of_eq rfl) (hb hby at_250) (fun _ _ => ⟨rfl, e67, (by decide : 1 + 0 ≤ _), (by decide : 3 + 0 ≤ _)⟩)
            dsimp only [Pt.U, Pt.locs, Pt.cells, Pt.slots] at X68 l68 y68 z68 st68 hQ68
            subst l68 y68 z68
            obtain ⟨rfl, N68, e68⟩ := hQ68
            have NF68 := Fr.app NF67 N68
            refine Wp.step st68 ?_
            show Wp p e below _ (T68.setTop (mkF m 253 #[.val (.int p0), .val (.int p1), .val (.int p2), .val (.int p3), .val (.int p4), .val (.int (13 : Int32)), .val (.int (13 : Int32)), .val (.ref b1), .val (.int (1 : Int32)), .val (.int (2 : Int32)), .val (.int (1 : Int32)), .val (.int (1 : Int32)), .val (.int ((2 : Int32) + (1 : Int32))), .val (.int (1 : Int32)), .val (.int ((2 : Int32) + (1 : Int32)))] [(.int (1 : Int32))]))
            refine Wp.via (fun _ k => XS.iconst X68.here hx rfl (hb hby at_253) k) ?_
            show Wp p e below _ (T68.setTop (mkF m 254 #[.val (.int p0), .val (.int p1), .val (.int p2), .val (.int p3), .val (.int p4), .val (.int (13 : Int32)), .val (.int (13 : Int32)), .val (.ref b1), .val (.int (1 : Int32)), .val (.int (2 : Int32)), .val (.int (1 : Int32)), .val (.int (1 : Int32)), .val (.int ((2 : Int32) + (1 : Int32))), .val (.int (1 : Int32)), .val (.int ((2 : Int32) + (1 : Int32)))] [(.int (1 : Int32)), (.int (1 : Int32))]))
            refine Wp.via (fun _ k => XS.icmpNo X68.here hx rfl (hb hby at_254) rfl (teq (by decide)).2 k) ?_
            show Wp p e below _ (T68.setTop (mkF m 257 #[.val (.int p0), .val (.int p1), .val (.int p2), .val (.int p3), .val (.int p4), .val (.int (13 : Int32)), .val (.int (13 : Int32)), .val (.ref b1), .val (.int (1 : Int32)), .val (.int (2 : Int32)), .val (.int (1 : Int32)), .val (.int (1 : Int32)), .val (.int ((2 : Int32) + (1 : Int32))), .val (.int (1 : Int32)), .val (.int ((2 : Int32) + (1 : Int32)))] []))
            refine Wp.via (fun _ k => XS.iconst X68.here hx rfl (hb hby at_257) k) ?_
            show Wp p e below _ (T68.setTop (mkF m 258 #[.val (.int p0), .val (.int p1), .val (.int p2), .val (.int p3), .val (.int p4), .val (.int (13 : Int32)), .val (.int (13 : Int32)), .val (.ref b1), .val (.int (1 : Int32)), .val (.int (2 : Int32)), .val (.int (1 : Int32)), .val (.int (1 : Int32)), .val (.int ((2 : Int32) + (1 : Int32))), .val (.int (1 : Int32)), .val (.int ((2 : Int32) + (1 : Int32)))] [(.int (1 : Int32))]))
            refine Wp.via (fun _ k => XS.goto X68.here hx rfl (pc0 := 258) (pc' := 262) rfl (hb hby at_258) (by decide) (by decide) k) ?_
            show Wp p e below _ (T68.setTop (mkF m 262 #[.val (.int p0), .val (.int p1), .val (.int p2), .val (.int p3), .val (.int p4), .val (.int (13 : Int32)), .val (.int (13 : Int32)), .val (.ref b1), .val (.int (1 : Int32)), .val (.int (2 : Int32)), .val (.int (1 : Int32)), .val (.int (1 : Int32)), .val (.int ((2 : Int32) + (1 : Int32))), .val (.int (1 : Int32)), .val (.int ((2 : Int32) + (1 : Int32)))] [(.int (1 : Int32))]))
            refine Wp.via (fun _ k => XS.istore X68.here hx rfl (hb hby at_262) rfl (l' := #[.val (.int p0), .val (.int p1), .val (.int p2), .val (.int p3), .val (.int p4), .val (.int (13 : Int32)), .val (.int (13 : Int32)), .val (.ref b1), .val (.int (1 : Int32)), .val (.int (2 : Int32)), .val (.int (1 : Int32)), .val (.int (1 : Int32)), .val (.int ((2 : Int32) + (1 : Int32))), .val (.int (1 : Int32)), .val (.int ((2 : Int32) + (1 : Int32)))]) rfl k) ?_
            show Wp p e below _ (T68.setTop (mkF m 264 #[.val (.int p0), .val (.int p1), .val (.int p2), .val (.int p3), .val (.int p4), .val (.int (13 : Int32)), .val (.int (13 : Int32)), .val (.ref b1), .val (.int (1 : Int32)), .val (.int (2 : Int32)), .val (.int (1 : Int32)), .val (.int (1 : Int32)), .val (.int ((2 : Int32) + (1 : Int32))), .val (.int (1 : Int32)), .val (.int ((2 : Int32) + (1 : Int32)))] []))
            refine Wp.via (fun _ k => XS.iload X68.here hx rfl (hb hby at_264) rfl k) ?_
            show Wp p e below _ (T68.setTop (mkF m 266 #[.val (.int p0), .val (.int p1), .val (.int p2), .val (.int p3), .val (.int p4), .val (.int (13 : Int32)), .val (.int (13 : Int32)), .val (.ref b1), .val (.int (1 : Int32)), .val (.int (2 : Int32)), .val (.int (1 : Int32)), .val (.int (1 : Int32)), .val (.int ((2 : Int32) + (1 : Int32))), .val (.int (1 : Int32)), .val (.int ((2 : Int32) + (1 : Int32)))] [(.int (1 : Int32))]))
            exact Wp.retI X68 hlk hx hret (by simp) (by first | rfl | decide) (hb hby at_266) ⟨rfl, NF68⟩ (by decide) (by decide)
          ·
            obtain ⟨cq69, kq69, q69a, q69b, q69c⟩ := isOf hZ e48 c45
            obtain ⟨_, _, ⟨T69, L69, k69, n69⟩, -, X69, ⟨Lc69, hQ69, l69, y69, z69⟩, st69⟩ := X48.virtualBack hx (y := (⟨"com/example/chyld/chyld/LineColumn", "character", "(I)V"⟩ : MethodName)) (z := (⟨"com/example/chyld/chyld/LineColumn", "character", "(I)V"⟩ : MethodName)) hown (mvT hZ (hw _ (List.mem_of_getElem? (i := 24) rfl))) (mvT hZ (hw _ (List.mem_of_getElem? (i := 25) rfl))) (notFace_of_selects (args := #[]) (mvT hZ (hw _ (List.mem_of_getElem? (i := 27) rfl)))) (mvT hZ (hw _ (List.mem_of_getElem? (i := 27) rfl))) (mvT hZ (hw _ (List.mem_of_getElem? (i := 26) rfl))) (by decide) (backOf (W := 0) (rm5 l Z aw hw [] b1 xv (2 : Int32) (1 : Int32) (1 : Int32) (2 : Int32) ((1 : Int32) + (1 : Int32)) (0 : Int32) T44.heap n0 zz46 c45 gn_b1 m10_line m10_column m10_afterCarriageReturn (by simp [own_l, d1, d2]) (by simp [own_k, d1, d2]) (by simp [own_r, d1, d2])) hZ (hw _ (List.mem_of_getElem? (i := 28) rfl)) (hw _ (List.mem_of_getElem? (i := 6) rfl)) (by decide) (by decide)) q69a q69c (g := (mkF m 115 #[.val (.int p0), .val (.int p1), .val (.int p2), .val (.int p3), .val (.int p4), .val (.int (13 : Int32)), .val (.int xv), .val (.ref b1), .val (.int (1 : Int32)), .val (.int (2 : Int32)), .val (.int (1 : Int32)), .val (.int (1 : Int32)), .unset, .unset, .unset] [(.int xv), (.ref b1)])) rfl (by rw [hml]; rfl) (Steps.refl _) (argsL := [(.int xv)]) (rest := []) (lenOf own_pd2 rfl) rfl (by show 2 * 0 + _ ≤ _; exact Nat.le_of_eq rfl) (hb hby at_115) (fun _ _ => ⟨rfl, e48, (by decide : 1 + 0 ≤ _), (by decide : 3 + 0 ≤ _)⟩)
            dsimp only [Pt.U, Pt.locs, Pt.cells, Pt.slots] at X69 l69 y69 z69 st69 hQ69
            subst l69 y69 z69
            obtain ⟨rfl, N69, Kc69, Ec69, m15_line, m15_column, m15_afterCarriageReturn⟩ := hQ69
            have NF69 := Fr.app NF48 N69
            refine Wp.step st69 ?_
            have c70 := c45.keep Kc69
            have K69' := K44'.trans Kc69 (allS (Or.inr sz_b1) all0)
            have zz71 : n0 ≤ T69.heap.size := Nat.le_trans zz46 Kc69.1
            show Wp p e below _ (T69.setTop (mkF m 118 #[.val (.int p0), .val (.int p1), .val (.int p2), .val (.int p3), .val (.int p4), .val (.int (13 : Int32)), .val (.int xv), .val (.ref b1), .val (.int (1 : Int32)), .val (.int (2 : Int32)), .val (.int (1 : Int32)), .val (.int (1 : Int32)), .unset, .unset, .unset] []))
            refine Wp.via (fun _ k => XS.iload X69.here hx rfl (hb hby at_118) rfl k) ?_
            show Wp p e below _ (T69.setTop (mkF m 120 #[.val (.int p0), .val (.int p1), .val (.int p2), .val (.int p3), .val (.int p4), .val (.int (13 : Int32)), .val (.int xv), .val (.ref b1), .val (.int (1 : Int32)), .val (.int (2 : Int32)), .val (.int (1 : Int32)), .val (.int (1 : Int32)), .unset, .unset, .unset] [(.int xv)]))
            refine Wp.via (fun _ k => XS.bipush X69.here hx rfl (hb hby at_120) k) ?_
            show Wp p e below _ (T69.setTop (mkF m 122 #[.val (.int p0), .val (.int p1), .val (.int p2), .val (.int p3), .val (.int p4), .val (.int (13 : Int32)), .val (.int xv), .val (.ref b1), .val (.int (1 : Int32)), .val (.int (2 : Int32)), .val (.int (1 : Int32)), .val (.int (1 : Int32)), .unset, .unset, .unset] [(.int (10 : Int32)), (.int xv)]))
            refine Wp.via (fun _ k => XS.icmpYes X69.here hx rfl (pc0 := 122) (pc' := 147) rfl (hb hby at_122) rfl (feq d1).2 (by decide) (by decide) k) ?_
            show Wp p e below _ (T69.setTop (mkF m 147 #[.val (.int p0), .val (.int p1), .val (.int p2), .val (.int p3), .val (.int p4), .val (.int (13 : Int32)), .val (.int xv), .val (.ref b1), .val (.int (1 : Int32)), .val (.int (2 : Int32)), .val (.int (1 : Int32)), .val (.int (1 : Int32)), .unset, .unset, .unset] []))
            refine Wp.via (fun _ k => XS.iload X69.here hx rfl (hb hby at_147) rfl k) ?_
            show Wp p e below _ (T69.setTop (mkF m 149 #[.val (.int p0), .val (.int p1), .val (.int p2), .val (.int p3), .val (.int p4), .val (.int (13 : Int32)), .val (.int xv), .val (.ref b1), .val (.int (1 : Int32)), .val (.int (2 : Int32)), .val (.int (1 : Int32)), .val (.int (1 : Int32)), .unset, .unset, .unset] [(.int xv)]))
            refine Wp.via (fun _ k => XS.bipush X69.here hx rfl (hb hby at_149) k) ?_
            show Wp p e below _ (T69.setTop (mkF m 151 #[.val (.int p0), .val (.int p1), .val (.int p2), .val (.int p3), .val (.int p4), .val (.int (13 : Int32)), .val (.int xv), .val (.ref b1), .val (.int (1 : Int32)), .val (.int (2 : Int32)), .val (.int (1 : Int32)), .val (.int (1 : Int32)), .unset, .unset, .unset] [(.int (13 : Int32)), (.int xv)]))
            refine Wp.via (fun _ k => XS.icmpYes X69.here hx rfl (pc0 := 151) (pc' := 166) rfl (hb hby at_151) rfl (feq d2).2 (by decide) (by decide) k) ?_
            show Wp p e below _ (T69.setTop (mkF m 166 #[.val (.int p0), .val (.int p1), .val (.int p2), .val (.int p3), .val (.int p4), .val (.int (13 : Int32)), .val (.int xv), .val (.ref b1), .val (.int (1 : Int32)), .val (.int (2 : Int32)), .val (.int (1 : Int32)), .val (.int (1 : Int32)), .unset, .unset, .unset] []))
            refine Wp.via (fun _ k => XS.iload X69.here hx rfl (hb hby at_166) rfl k) ?_
            show Wp p e below _ (T69.setTop (mkF m 168 #[.val (.int p0), .val (.int p1), .val (.int p2), .val (.int p3), .val (.int p4), .val (.int (13 : Int32)), .val (.int xv), .val (.ref b1), .val (.int (1 : Int32)), .val (.int (2 : Int32)), .val (.int (1 : Int32)), .val (.int (1 : Int32)), .unset, .unset, .unset] [(.int (2 : Int32))]))
            refine Wp.via (fun _ k => XS.istore X69.here hx rfl (hb hby at_168) rfl (l' := #[.val (.int p0), .val (.int p1), .val (.int p2), .val (.int p3), .val (.int p4), .val (.int (13 : Int32)), .val (.int xv), .val (.ref b1), .val (.int (1 : Int32)), .val (.int (2 : Int32)), .val (.int (1 : Int32)), .val (.int (1 : Int32)), .val (.int (2 : Int32)), .unset, .unset]) rfl k) ?_
            show Wp p e below _ (T69.setTop (mkF m 170 #[.val (.int p0), .val (.int p1), .val (.int p2), .val (.int p3), .val (.int p4), .val (.int (13 : Int32)), .val (.int xv), .val (.ref b1), .val (.int (1 : Int32)), .val (.int (2 : Int32)), .val (.int (1 : Int32)), .val (.int (1 : Int32)), .val (.int (2 : Int32)), .unset, .unset] []))
            refine Wp.via (fun _ k => XS.iload X69.here hx rfl (hb hby at_170) rfl k) ?_
            show Wp p e below _ (T69.setTop (mkF m 172 #[.val (.int p0), .val (.int p1), .val (.int p2), .val (.int p3), .val (.int p4), .val (.int (13 : Int32)), .val (.int xv), .val (.ref b1), .val (.int (1 : Int32)), .val (.int (2 : Int32)), .val (.int (1 : Int32)), .val (.int (1 : Int32)), .val (.int (2 : Int32)), .unset, .unset] [(.int (1 : Int32))]))
            refine Wp.via (fun _ k => XS.iconst X69.here hx rfl (hb hby at_172) k) ?_
            show Wp p e below _ (T69.setTop (mkF m 173 #[.val (.int p0), .val (.int p1), .val (.int p2), .val (.int p3), .val (.int p4), .val (.int (13 : Int32)), .val (.int xv), .val (.ref b1), .val (.int (1 : Int32)), .val (.int (2 : Int32)), .val (.int (1 : Int32)), .val (.int (1 : Int32)), .val (.int (2 : Int32)), .unset, .unset] [(.int (1 : Int32)), (.int (1 : Int32))]))
            refine Wp.via (fun _ k => XS.iadd X69.here hx rfl (hb hby at_173) rfl k) ?_
            show Wp p e below _ (T69.setTop (mkF m 174 #[.val (.int p0), .val (.int p1), .val (.int p2), .val (.int p3), .val (.int p4), .val (.int (13 : Int32)), .val (.int xv), .val (.ref b1), .val (.int (1 : Int32)), .val (.int (2 : Int32)), .val (.int (1 : Int32)), .val (.int (1 : Int32)), .val (.int (2 : Int32)), .unset, .unset] [(.int ((1 : Int32) + (1 : Int32)))]))
            refine Wp.via (fun _ k => XS.istore X69.here hx rfl (hb hby at_174) rfl (l' := #[.val (.int p0), .val (.int p1), .val (.int p2), .val (.int p3), .val (.int p4), .val (.int (13 : Int32)), .val (.int xv), .val (.ref b1), .val (.int (1 : Int32)), .val (.int (2 : Int32)), .val (.int (1 : Int32)), .val (.int (1 : Int32)), .val (.int (2 : Int32)), .val (.int ((1 : Int32) + (1 : Int32))), .unset]) rfl k) ?_
            show Wp p e below _ (T69.setTop (mkF m 176 #[.val (.int p0), .val (.int p1), .val (.int p2), .val (.int p3), .val (.int p4), .val (.int (13 : Int32)), .val (.int xv), .val (.ref b1), .val (.int (1 : Int32)), .val (.int (2 : Int32)), .val (.int (1 : Int32)), .val (.int (1 : Int32)), .val (.int (2 : Int32)), .val (.int ((1 : Int32) + (1 : Int32))), .unset] []))
            refine Wp.via (fun _ k => XS.iload X69.here hx rfl (hb hby at_176) rfl k) ?_
            show Wp p e below _ (T69.setTop (mkF m 178 #[.val (.int p0), .val (.int p1), .val (.int p2), .val (.int p3), .val (.int p4), .val (.int (13 : Int32)), .val (.int xv), .val (.ref b1), .val (.int (1 : Int32)), .val (.int (2 : Int32)), .val (.int (1 : Int32)), .val (.int (1 : Int32)), .val (.int (2 : Int32)), .val (.int ((1 : Int32) + (1 : Int32))), .unset] [(.int (1 : Int32))]))
            refine Wp.via (fun _ k => XS.ifNo X69.here hx rfl (hb hby at_178) rfl ((if0 _ _).trans (feq (by decide)).1) k) ?_
            show Wp p e below _ (T69.setTop (mkF m 181 #[.val (.int p0), .val (.int p1), .val (.int p2), .val (.int p3), .val (.int p4), .val (.int (13 : Int32)), .val (.int xv), .val (.ref b1), .val (.int (1 : Int32)), .val (.int (2 : Int32)), .val (.int (1 : Int32)), .val (.int (1 : Int32)), .val (.int (2 : Int32)), .val (.int ((1 : Int32) + (1 : Int32))), .unset] []))
            refine Wp.via (fun _ k => XS.aload X69.here hx rfl (hb hby at_181) rfl rfl k) ?_
            show Wp p e below _ (T69.setTop (mkF m 183 #[.val (.int p0), .val (.int p1), .val (.int p2), .val (.int p3), .val (.int p4), .val (.int (13 : Int32)), .val (.int xv), .val (.ref b1), .val (.int (1 : Int32)), .val (.int (2 : Int32)), .val (.int (1 : Int32)), .val (.int (1 : Int32)), .val (.int (2 : Int32)), .val (.int ((1 : Int32) + (1 : Int32))), .unset] [(.ref b1)]))
            obtain ⟨cq72, kq72, q72a, q72b, q72c⟩ := isOf hZ rfl c70
            obtain ⟨_, _, ⟨T72, L72, k72, n72⟩, -, X72, ⟨Lc72, hQ72, l72, y72, z72⟩, st72⟩ := X69.virtualBack hx (y := (⟨"com/example/chyld/chyld/LineColumn", "line", "()I"⟩ : MethodName)) (z := (⟨"com/example/chyld/chyld/LineColumn", "line", "()I"⟩ : MethodName)) hown (mvT hZ (hw _ (List.mem_of_getElem? (i := 29) rfl))) (mvT hZ (hw _ (List.mem_of_getElem? (i := 30) rfl))) (notFace_of_selects (args := #[]) (mvT hZ (hw _ (List.mem_of_getElem? (i := 32) rfl)))) (mvT hZ (hw _ (List.mem_of_getElem? (i := 32) rfl))) (mvT hZ (hw _ (List.mem_of_getElem? (i := 31) rfl))) (by decide) (backOf (W := 0) (rm6 l Z aw hw [] b1 (2 : Int32) T69.heap n0 zz71 m15_line) hZ (hw _ (List.mem_of_getElem? (i := 33) rfl)) (hw _ (List.mem_of_getElem? (i := 6) rfl)) (by decide) (by decide)) q72a q72c (g := (mkF m 183 #[.val (.int p0), .val (.int p1), .val (.int p2), .val (.int p3), .val (.int p4), .val (.int (13 : Int32)), .val (.int xv), .val (.ref b1), .val (.int (1 : Int32)), .val (.int (2 : Int32)), .val (.int (1 : Int32)), .val (.int (1 : Int32)), .val (.int (2 : Int32)), .val (.int ((1 : Int32) + (1 : Int32))), .unset] [(.ref b1)])) rfl (by rw [hml]; rfl) (Steps.refl _) (argsL := []) (rest := []) (lenOf own_pd3 rfl) rfl (by show 2 * 0 + _ ≤ _; exact Nat.le_of_eq rfl) (hb hby at_183) (fun _ _ => ⟨rfl, rfl, (by decide : 1 + 0 ≤ _), (by decide : 3 + 0 ≤ _)⟩)
            dsimp only [Pt.U, Pt.locs, Pt.cells, Pt.slots] at X72 l72 y72 z72 st72 hQ72
            subst l72 y72 z72
            obtain ⟨rfl, N72, e72⟩ := hQ72
            have NF72 := Fr.app NF69 N72
            refine Wp.step st72 ?_
            show Wp p e below _ (T72.setTop (mkF m 186 #[.val (.int p0), .val (.int p1), .val (.int p2), .val (.int p3), .val (.int p4), .val (.int (13 : Int32)), .val (.int xv), .val (.ref b1), .val (.int (1 : Int32)), .val (.int (2 : Int32)), .val (.int (1 : Int32)), .val (.int (1 : Int32)), .val (.int (2 : Int32)), .val (.int ((1 : Int32) + (1 : Int32))), .unset] [(.int (2 : Int32))]))
            refine Wp.via (fun _ k => XS.iload X72.here hx rfl (hb hby at_186) rfl k) ?_
            show Wp p e below _ (T72.setTop (mkF m 188 #[.val (.int p0), .val (.int p1), .val (.int p2), .val (.int p3), .val (.int p4), .val (.int (13 : Int32)), .val (.int xv), .val (.ref b1), .val (.int (1 : Int32)), .val (.int (2 : Int32)), .val (.int (1 : Int32)), .val (.int (1 : Int32)), .val (.int (2 : Int32)), .val (.int ((1 : Int32) + (1 : Int32))), .unset] [(.int (2 : Int32)), (.int (2 : Int32))]))
            refine Wp.via (fun _ k => XS.icmpNo X72.here hx rfl (hb hby at_188) rfl (teq (by decide)).2 k) ?_
            show Wp p e below _ (T72.setTop (mkF m 191 #[.val (.int p0), .val (.int p1), .val (.int p2), .val (.int p3), .val (.int p4), .val (.int (13 : Int32)), .val (.int xv), .val (.ref b1), .val (.int (1 : Int32)), .val (.int (2 : Int32)), .val (.int (1 : Int32)), .val (.int (1 : Int32)), .val (.int (2 : Int32)), .val (.int ((1 : Int32) + (1 : Int32))), .unset] []))
            refine Wp.via (fun _ k => XS.aload X72.here hx rfl (hb hby at_191) rfl rfl k) ?_
            show Wp p e below _ (T72.setTop (mkF m 193 #[.val (.int p0), .val (.int p1), .val (.int p2), .val (.int p3), .val (.int p4), .val (.int (13 : Int32)), .val (.int xv), .val (.ref b1), .val (.int (1 : Int32)), .val (.int (2 : Int32)), .val (.int (1 : Int32)), .val (.int (1 : Int32)), .val (.int (2 : Int32)), .val (.int ((1 : Int32) + (1 : Int32))), .unset] [(.ref b1)]))
            obtain ⟨cq73, kq73, q73a, q73b, q73c⟩ := isOf hZ e72 c70
            obtain ⟨_, _, ⟨T73, L73, k73, n73⟩, -, X73, ⟨Lc73, hQ73, l73, y73, z73⟩, st73⟩ := X72.virtualBack hx (y := (⟨"com/example/chyld/chyld/LineColumn", "column", "()I"⟩ : MethodName)) (z := (⟨"com/example/chyld/chyld/LineColumn", "column", "()I"⟩ : MethodName)) hown (mvT hZ (hw _ (List.mem_of_getElem? (i := 34) rfl))) (mvT hZ (hw _ (List.mem_of_getElem? (i := 35) rfl))) (notFace_of_selects (args := #[]) (mvT hZ (hw _ (List.mem_of_getElem? (i := 37) rfl)))) (mvT hZ (hw _ (List.mem_of_getElem? (i := 37) rfl))) (mvT hZ (hw _ (List.mem_of_getElem? (i := 36) rfl))) (by decide) (backOf (W := 0) (rm7 l Z aw hw [] b1 ((1 : Int32) + (1 : Int32)) T69.heap n0 zz71 m15_column) hZ (hw _ (List.mem_of_getElem? (i := 38) rfl)) (hw _ (List.mem_of_getElem? (i := 6) rfl)) (by decide) (by decide)) q73a q73c (g := (mkF m 193 #[.val (.int p0), .val (.int p1), .val (.int p2), .val (.int p3), .val (.int p4), .val (.int (13 : Int32)), .val (.int xv), .val (.ref b1), .val (.int (1 : Int32)), .val (.int (2 : Int32)), .val (.int (1 : Int32)), .val (.int (1 : Int32)), .val (.int (2 : Int32)), .val (.int ((1 : Int32) + (1 : Int32))), .unset] [(.ref b1)])) rfl (by rw [hml]; rfl) (Steps.refl _) (argsL := []) (rest := []) (lenOf own_pd3 rfl) rfl (by show 2 * 0 + _ ≤ _; exact Nat.le_of_eq rfl) (hb hby at_193) (fun _ _ => ⟨rfl, e72, (by decide : 1 + 0 ≤ _), (by decide : 3 + 0 ≤ _)⟩)
            dsimp only [Pt.U, Pt.locs, Pt.cells, Pt.slots] at X73 l73 y73 z73 st73 hQ73
            subst l73 y73 z73
            obtain ⟨rfl, N73, e73⟩ := hQ73
            have NF73 := Fr.app NF72 N73
            refine Wp.step st73 ?_
            show Wp p e below _ (T73.setTop (mkF m 196 #[.val (.int p0), .val (.int p1), .val (.int p2), .val (.int p3), .val (.int p4), .val (.int (13 : Int32)), .val (.int xv), .val (.ref b1), .val (.int (1 : Int32)), .val (.int (2 : Int32)), .val (.int (1 : Int32)), .val (.int (1 : Int32)), .val (.int (2 : Int32)), .val (.int ((1 : Int32) + (1 : Int32))), .unset] [(.int ((1 : Int32) + (1 : Int32)))]))
            refine Wp.via (fun _ k => XS.iload X73.here hx rfl (hb hby at_196) rfl k) ?_
            show Wp p e below _ (T73.setTop (mkF m 198 #[.val (.int p0), .val (.int p1), .val (.int p2), .val (.int p3), .val (.int p4), .val (.int (13 : Int32)), .val (.int xv), .val (.ref b1), .val (.int (1 : Int32)), .val (.int (2 : Int32)), .val (.int (1 : Int32)), .val (.int (1 : Int32)), .val (.int (2 : Int32)), .val (.int ((1 : Int32) + (1 : Int32))), .unset] [(.int ((1 : Int32) + (1 : Int32))), (.int ((1 : Int32) + (1 : Int32)))]))
            refine Wp.via (fun _ k => XS.icmpNo X73.here hx rfl (hb hby at_198) rfl (teq rfl).2 k) ?_
            show Wp p e below _ (T73.setTop (mkF m 201 #[.val (.int p0), .val (.int p1), .val (.int p2), .val (.int p3), .val (.int p4), .val (.int (13 : Int32)), .val (.int xv), .val (.ref b1), .val (.int (1 : Int32)), .val (.int (2 : Int32)), .val (.int (1 : Int32)), .val (.int (1 : Int32)), .val (.int (2 : Int32)), .val (.int ((1 : Int32) + (1 : Int32))), .unset] []))
            refine Wp.via (fun _ k => XS.iconst X73.here hx rfl (hb hby at_201) k) ?_
            show Wp p e below _ (T73.setTop (mkF m 202 #[.val (.int p0), .val (.int p1), .val (.int p2), .val (.int p3), .val (.int p4), .val (.int (13 : Int32)), .val (.int xv), .val (.ref b1), .val (.int (1 : Int32)), .val (.int (2 : Int32)), .val (.int (1 : Int32)), .val (.int (1 : Int32)), .val (.int (2 : Int32)), .val (.int ((1 : Int32) + (1 : Int32))), .unset] [(.int (1 : Int32))]))
            refine Wp.via (fun _ k => XS.goto X73.here hx rfl (pc0 := 202) (pc' := 206) rfl (hb hby at_202) (by decide) (by decide) k) ?_
            show Wp p e below _ (T73.setTop (mkF m 206 #[.val (.int p0), .val (.int p1), .val (.int p2), .val (.int p3), .val (.int p4), .val (.int (13 : Int32)), .val (.int xv), .val (.ref b1), .val (.int (1 : Int32)), .val (.int (2 : Int32)), .val (.int (1 : Int32)), .val (.int (1 : Int32)), .val (.int (2 : Int32)), .val (.int ((1 : Int32) + (1 : Int32))), .unset] [(.int (1 : Int32))]))
            refine Wp.via (fun _ k => XS.istore X73.here hx rfl (hb hby at_206) rfl (l' := #[.val (.int p0), .val (.int p1), .val (.int p2), .val (.int p3), .val (.int p4), .val (.int (13 : Int32)), .val (.int xv), .val (.ref b1), .val (.int (1 : Int32)), .val (.int (2 : Int32)), .val (.int (1 : Int32)), .val (.int (1 : Int32)), .val (.int (2 : Int32)), .val (.int ((1 : Int32) + (1 : Int32))), .unset]) rfl k) ?_
            show Wp p e below _ (T73.setTop (mkF m 208 #[.val (.int p0), .val (.int p1), .val (.int p2), .val (.int p3), .val (.int p4), .val (.int (13 : Int32)), .val (.int xv), .val (.ref b1), .val (.int (1 : Int32)), .val (.int (2 : Int32)), .val (.int (1 : Int32)), .val (.int (1 : Int32)), .val (.int (2 : Int32)), .val (.int ((1 : Int32) + (1 : Int32))), .unset] []))
            refine Wp.via (fun _ k => XS.aload X73.here hx rfl (hb hby at_208) rfl rfl k) ?_
            show Wp p e below _ (T73.setTop (mkF m 210 #[.val (.int p0), .val (.int p1), .val (.int p2), .val (.int p3), .val (.int p4), .val (.int (13 : Int32)), .val (.int xv), .val (.ref b1), .val (.int (1 : Int32)), .val (.int (2 : Int32)), .val (.int (1 : Int32)), .val (.int (1 : Int32)), .val (.int (2 : Int32)), .val (.int ((1 : Int32) + (1 : Int32))), .unset] [(.ref b1)]))
            refine Wp.via (fun _ k => XS.bipush X73.here hx rfl (hb hby at_210) k) ?_
            show Wp p e below _ (T73.setTop (mkF m 212 #[.val (.int p0), .val (.int p1), .val (.int p2), .val (.int p3), .val (.int p4), .val (.int (13 : Int32)), .val (.int xv), .val (.ref b1), .val (.int (1 : Int32)), .val (.int (2 : Int32)), .val (.int (1 : Int32)), .val (.int (1 : Int32)), .val (.int (2 : Int32)), .val (.int ((1 : Int32) + (1 : Int32))), .unset] [(.int (10 : Int32)), (.ref b1)]))
            obtain ⟨cq74, kq74, q74a, q74b, q74c⟩ := isOf hZ e73 c70
            obtain ⟨_, _, ⟨T74, L74, k74, n74⟩, -, X74, ⟨Lc74, hQ74, l74, y74, z74⟩, st74⟩ := X73.virtualBack hx (y := (⟨"com/example/chyld/chyld/LineColumn", "character", "(I)V"⟩ : MethodName)) (z := (⟨"com/example/chyld/chyld/LineColumn", "character", "(I)V"⟩ : MethodName)) hown (mvT hZ (hw _ (List.mem_of_getElem? (i := 24) rfl))) (mvT hZ (hw _ (List.mem_of_getElem? (i := 25) rfl))) (notFace_of_selects (args := #[]) (mvT hZ (hw _ (List.mem_of_getElem? (i := 27) rfl)))) (mvT hZ (hw _ (List.mem_of_getElem? (i := 27) rfl))) (mvT hZ (hw _ (List.mem_of_getElem? (i := 26) rfl))) (by decide) (backOf (W := 0) (rm5 l Z aw hw [] b1 (10 : Int32) (2 : Int32) ((1 : Int32) + (1 : Int32)) (0 : Int32) ((2 : Int32) + (1 : Int32)) (1 : Int32) (0 : Int32) T69.heap n0 zz71 c70 gn_b1 m15_line m15_column m15_afterCarriageReturn (by simp [own_l]) (by simp [own_k]) (by simp [own_r])) hZ (hw _ (List.mem_of_getElem? (i := 28) rfl)) (hw _ (List.mem_of_getElem? (i := 6) rfl)) (by decide) (by decide)) q74a q74c (g := (mkF m 212 #[.val (.int p0), .val (.int p1), .val (.int p2), .val (.int p3), .val (.int p4), .val (.int (13 : Int32)), .val (.int xv), .val (.ref b1), .val (.int (1 : Int32)), .val (.int (2 : Int32)), .val (.int (1 : Int32)), .val (.int (1 : Int32)), .val (.int (2 : Int32)), .val (.int ((1 : Int32) + (1 : Int32))), .unset] [(.int (10 : Int32)), (.ref b1)])) rfl (by rw [hml]; rfl) (Steps.refl _) (argsL := [(.int (10 : Int32))]) (rest := []) (lenOf own_pd2 rfl) rfl (by show 2 * 0 + _ ≤ _; exact Nat.le_of_eq rfl) (hb hby at_212) (fun _ _ => ⟨rfl, e73, (by decide : 1 + 0 ≤ _), (by decide : 3 + 0 ≤ _)⟩)
            dsimp only [Pt.U, Pt.locs, Pt.cells, Pt.slots] at X74 l74 y74 z74 st74 hQ74
            subst l74 y74 z74
            obtain ⟨rfl, N74, Kc74, Ec74, m16_line, m16_column, m16_afterCarriageReturn⟩ := hQ74
            have NF74 := Fr.app NF73 N74
            refine Wp.step st74 ?_
            have c75 := c70.keep Kc74
            have K74' := K69'.trans Kc74 (allS (Or.inr sz_b1) all0)
            have zz76 : n0 ≤ T74.heap.size := Nat.le_trans zz71 Kc74.1
            show Wp p e below _ (T74.setTop (mkF m 215 #[.val (.int p0), .val (.int p1), .val (.int p2), .val (.int p3), .val (.int p4), .val (.int (13 : Int32)), .val (.int xv), .val (.ref b1), .val (.int (1 : Int32)), .val (.int (2 : Int32)), .val (.int (1 : Int32)), .val (.int (1 : Int32)), .val (.int (2 : Int32)), .val (.int ((1 : Int32) + (1 : Int32))), .unset] []))
            refine Wp.via (fun _ k => XS.iload X74.here hx rfl (hb hby at_215) rfl k) ?_
            show Wp p e below _ (T74.setTop (mkF m 217 #[.val (.int p0), .val (.int p1), .val (.int p2), .val (.int p3), .val (.int p4), .val (.int (13 : Int32)), .val (.int xv), .val (.ref b1), .val (.int (1 : Int32)), .val (.int (2 : Int32)), .val (.int (1 : Int32)), .val (.int (1 : Int32)), .val (.int (2 : Int32)), .val (.int ((1 : Int32) + (1 : Int32))), .unset] [(.int xv)]))
            refine Wp.via (fun _ k => XS.bipush X74.here hx rfl (hb hby at_217) k) ?_
            show Wp p e below _ (T74.setTop (mkF m 219 #[.val (.int p0), .val (.int p1), .val (.int p2), .val (.int p3), .val (.int p4), .val (.int (13 : Int32)), .val (.int xv), .val (.ref b1), .val (.int (1 : Int32)), .val (.int (2 : Int32)), .val (.int (1 : Int32)), .val (.int (1 : Int32)), .val (.int (2 : Int32)), .val (.int ((1 : Int32) + (1 : Int32))), .unset] [(.int (13 : Int32)), (.int xv)]))
            refine Wp.via (fun _ k => XS.icmpYes X74.here hx rfl (pc0 := 219) (pc' := 227) rfl (hb hby at_219) rfl (feq d2).2 (by decide) (by decide) k) ?_
            show Wp p e below _ (T74.setTop (mkF m 227 #[.val (.int p0), .val (.int p1), .val (.int p2), .val (.int p3), .val (.int p4), .val (.int (13 : Int32)), .val (.int xv), .val (.ref b1), .val (.int (1 : Int32)), .val (.int (2 : Int32)), .val (.int (1 : Int32)), .val (.int (1 : Int32)), .val (.int (2 : Int32)), .val (.int ((1 : Int32) + (1 : Int32))), .unset] []))
            refine Wp.via (fun _ k => XS.iload X74.here hx rfl (hb hby at_227) rfl k) ?_
            show Wp p e below _ (T74.setTop (mkF m 229 #[.val (.int p0), .val (.int p1), .val (.int p2), .val (.int p3), .val (.int p4), .val (.int (13 : Int32)), .val (.int xv), .val (.ref b1), .val (.int (1 : Int32)), .val (.int (2 : Int32)), .val (.int (1 : Int32)), .val (.int (1 : Int32)), .val (.int (2 : Int32)), .val (.int ((1 : Int32) + (1 : Int32))), .unset] [(.int (2 : Int32))]))
            refine Wp.via (fun _ k => XS.iconst X74.here hx rfl (hb hby at_229) k) ?_
            show Wp p e below _ (T74.setTop (mkF m 230 #[.val (.int p0), .val (.int p1), .val (.int p2), .val (.int p3), .val (.int p4), .val (.int (13 : Int32)), .val (.int xv), .val (.ref b1), .val (.int (1 : Int32)), .val (.int (2 : Int32)), .val (.int (1 : Int32)), .val (.int (1 : Int32)), .val (.int (2 : Int32)), .val (.int ((1 : Int32) + (1 : Int32))), .unset] [(.int (1 : Int32)), (.int (2 : Int32))]))
            refine Wp.via (fun _ k => XS.iadd X74.here hx rfl (hb hby at_230) rfl k) ?_
            show Wp p e below _ (T74.setTop (mkF m 231 #[.val (.int p0), .val (.int p1), .val (.int p2), .val (.int p3), .val (.int p4), .val (.int (13 : Int32)), .val (.int xv), .val (.ref b1), .val (.int (1 : Int32)), .val (.int (2 : Int32)), .val (.int (1 : Int32)), .val (.int (1 : Int32)), .val (.int (2 : Int32)), .val (.int ((1 : Int32) + (1 : Int32))), .unset] [(.int ((2 : Int32) + (1 : Int32)))]))
            refine Wp.via (fun _ k => XS.istore X74.here hx rfl (hb hby at_231) rfl (l' := #[.val (.int p0), .val (.int p1), .val (.int p2), .val (.int p3), .val (.int p4), .val (.int (13 : Int32)), .val (.int xv), .val (.ref b1), .val (.int (1 : Int32)), .val (.int (2 : Int32)), .val (.int (1 : Int32)), .val (.int (1 : Int32)), .val (.int (2 : Int32)), .val (.int ((1 : Int32) + (1 : Int32))), .val (.int ((2 : Int32) + (1 : Int32)))]) rfl k) ?_
            show Wp p e below _ (T74.setTop (mkF m 233 #[.val (.int p0), .val (.int p1), .val (.int p2), .val (.int p3), .val (.int p4), .val (.int (13 : Int32)), .val (.int xv), .val (.ref b1), .val (.int (1 : Int32)), .val (.int (2 : Int32)), .val (.int (1 : Int32)), .val (.int (1 : Int32)), .val (.int (2 : Int32)), .val (.int ((1 : Int32) + (1 : Int32))), .val (.int ((2 : Int32) + (1 : Int32)))] []))
            refine Wp.via (fun _ k => XS.iload X74.here hx rfl (hb hby at_233) rfl k) ?_
            show Wp p e below _ (T74.setTop (mkF m 235 #[.val (.int p0), .val (.int p1), .val (.int p2), .val (.int p3), .val (.int p4), .val (.int (13 : Int32)), .val (.int xv), .val (.ref b1), .val (.int (1 : Int32)), .val (.int (2 : Int32)), .val (.int (1 : Int32)), .val (.int (1 : Int32)), .val (.int (2 : Int32)), .val (.int ((1 : Int32) + (1 : Int32))), .val (.int ((2 : Int32) + (1 : Int32)))] [(.int (1 : Int32))]))
            refine Wp.via (fun _ k => XS.ifNo X74.here hx rfl (hb hby at_235) rfl ((if0 _ _).trans (feq (by decide)).1) k) ?_
            show Wp p e below _ (T74.setTop (mkF m 238 #[.val (.int p0), .val (.int p1), .val (.int p2), .val (.int p3), .val (.int p4), .val (.int (13 : Int32)), .val (.int xv), .val (.ref b1), .val (.int (1 : Int32)), .val (.int (2 : Int32)), .val (.int (1 : Int32)), .val (.int (1 : Int32)), .val (.int (2 : Int32)), .val (.int ((1 : Int32) + (1 : Int32))), .val (.int ((2 : Int32) + (1 : Int32)))] []))
            refine Wp.via (fun _ k => XS.aload X74.here hx rfl (hb hby at_238) rfl rfl k) ?_
            show Wp p e below _ (T74.setTop (mkF m 240 #[.val (.int p0), .val (.int p1), .val (.int p2), .val (.int p3), .val (.int p4), .val (.int (13 : Int32)), .val (.int xv), .val (.ref b1), .val (.int (1 : Int32)), .val (.int (2 : Int32)), .val (.int (1 : Int32)), .val (.int (1 : Int32)), .val (.int (2 : Int32)), .val (.int ((1 : Int32) + (1 : Int32))), .val (.int ((2 : Int32) + (1 : Int32)))] [(.ref b1)]))
            obtain ⟨cq77, kq77, q77a, q77b, q77c⟩ := isOf hZ rfl c75
            obtain ⟨_, _, ⟨T77, L77, k77, n77⟩, -, X77, ⟨Lc77, hQ77, l77, y77, z77⟩, st77⟩ := X74.virtualBack hx (y := (⟨"com/example/chyld/chyld/LineColumn", "line", "()I"⟩ : MethodName)) (z := (⟨"com/example/chyld/chyld/LineColumn", "line", "()I"⟩ : MethodName)) hown (mvT hZ (hw _ (List.mem_of_getElem? (i := 29) rfl))) (mvT hZ (hw _ (List.mem_of_getElem? (i := 30) rfl))) (notFace_of_selects (args := #[]) (mvT hZ (hw _ (List.mem_of_getElem? (i := 32) rfl)))) (mvT hZ (hw _ (List.mem_of_getElem? (i := 32) rfl))) (mvT hZ (hw _ (List.mem_of_getElem? (i := 31) rfl))) (by decide) (backOf (W := 0) (rm6 l Z aw hw [] b1 ((2 : Int32) + (1 : Int32)) T74.heap n0 zz76 m16_line) hZ (hw _ (List.mem_of_getElem? (i := 33) rfl)) (hw _ (List.mem_of_getElem? (i := 6) rfl)) (by decide) (by decide)) q77a q77c (g := (mkF m 240 #[.val (.int p0), .val (.int p1), .val (.int p2), .val (.int p3), .val (.int p4), .val (.int (13 : Int32)), .val (.int xv), .val (.ref b1), .val (.int (1 : Int32)), .val (.int (2 : Int32)), .val (.int (1 : Int32)), .val (.int (1 : Int32)), .val (.int (2 : Int32)), .val (.int ((1 : Int32) + (1 : Int32))), .val (.int ((2 : Int32) + (1 : Int32)))] [(.ref b1)])) rfl (by rw [hml]; rfl) (Steps.refl _) (argsL := []) (rest := []) (lenOf own_pd3 rfl) rfl (by show 2 * 0 + _ ≤ _; exact Nat.le_of_eq rfl) (hb hby at_240) (fun _ _ => ⟨rfl, rfl, (by decide : 1 + 0 ≤ _), (by decide : 3 + 0 ≤ _)⟩)
            dsimp only [Pt.U, Pt.locs, Pt.cells, Pt.slots] at X77 l77 y77 z77 st77 hQ77
            subst l77 y77 z77
            obtain ⟨rfl, N77, e77⟩ := hQ77
            have NF77 := Fr.app NF74 N77
            refine Wp.step st77 ?_
            show Wp p e below _ (T77.setTop (mkF m 243 #[.val (.int p0), .val (.int p1), .val (.int p2), .val (.int p3), .val (.int p4), .val (.int (13 : Int32)), .val (.int xv), .val (.ref b1), .val (.int (1 : Int32)), .val (.int (2 : Int32)), .val (.int (1 : Int32)), .val (.int (1 : Int32)), .val (.int (2 : Int32)), .val (.int ((1 : Int32) + (1 : Int32))), .val (.int ((2 : Int32) + (1 : Int32)))] [(.int ((2 : Int32) + (1 : Int32)))]))
            refine Wp.via (fun _ k => XS.iload X77.here hx rfl (hb hby at_243) rfl k) ?_
            show Wp p e below _ (T77.setTop (mkF m 245 #[.val (.int p0), .val (.int p1), .val (.int p2), .val (.int p3), .val (.int p4), .val (.int (13 : Int32)), .val (.int xv), .val (.ref b1), .val (.int (1 : Int32)), .val (.int (2 : Int32)), .val (.int (1 : Int32)), .val (.int (1 : Int32)), .val (.int (2 : Int32)), .val (.int ((1 : Int32) + (1 : Int32))), .val (.int ((2 : Int32) + (1 : Int32)))] [(.int ((2 : Int32) + (1 : Int32))), (.int ((2 : Int32) + (1 : Int32)))]))
            refine Wp.via (fun _ k => XS.icmpNo X77.here hx rfl (hb hby at_245) rfl (teq rfl).2 k) ?_
            show Wp p e below _ (T77.setTop (mkF m 248 #[.val (.int p0), .val (.int p1), .val (.int p2), .val (.int p3), .val (.int p4), .val (.int (13 : Int32)), .val (.int xv), .val (.ref b1), .val (.int (1 : Int32)), .val (.int (2 : Int32)), .val (.int (1 : Int32)), .val (.int (1 : Int32)), .val (.int (2 : Int32)), .val (.int ((1 : Int32) + (1 : Int32))), .val (.int ((2 : Int32) + (1 : Int32)))] []))
            refine Wp.via (fun _ k => XS.aload X77.here hx rfl (hb hby at_248) rfl rfl k) ?_
            show Wp p e below _ (T77.setTop (mkF m 250 #[.val (.int p0), .val (.int p1), .val (.int p2), .val (.int p3), .val (.int p4), .val (.int (13 : Int32)), .val (.int xv), .val (.ref b1), .val (.int (1 : Int32)), .val (.int (2 : Int32)), .val (.int (1 : Int32)), .val (.int (1 : Int32)), .val (.int (2 : Int32)), .val (.int ((1 : Int32) + (1 : Int32))), .val (.int ((2 : Int32) + (1 : Int32)))] [(.ref b1)]))
            obtain ⟨cq78, kq78, q78a, q78b, q78c⟩ := isOf hZ e77 c75
            obtain ⟨_, _, ⟨T78, L78, k78, n78⟩, -, X78, ⟨Lc78, hQ78, l78, y78, z78⟩, st78⟩ := X77.virtualBack hx (y := (⟨"com/example/chyld/chyld/LineColumn", "column", "()I"⟩ : MethodName)) (z := (⟨"com/example/chyld/chyld/LineColumn", "column", "()I"⟩ : MethodName)) hown (mvT hZ (hw _ (List.mem_of_getElem? (i := 34) rfl))) (mvT hZ (hw _ (List.mem_of_getElem? (i := 35) rfl))) (notFace_of_selects (args := #[]) (mvT hZ (hw _ (List.mem_of_getElem? (i := 37) rfl)))) (mvT hZ (hw _ (List.mem_of_getElem? (i := 37) rfl))) (mvT hZ (hw _ (List.mem_of_getElem? (i := 36) rfl))) (by decide) (backOf (W := 0) (rm7 l Z aw hw [] b1 (1 : Int32) T74.heap n0 zz76 m16_column) hZ (hw _ (List.mem_of_getElem? (i := 38) rfl)) (hw _ (List.mem_of_getElem? (i := 6) rfl)) (by decide) (by decide)) q78a q78c (g := (mkF m 250 #[.val (.int p0), .val (.int p1), .val (.int p2), .val (.int p3), .val (.int p4), .val (.int (13 : Int32)), .val (.int xv), .val (.ref b1), .val (.int (1 : Int32)), .val (.int (2 : Int32)), .val (.int (1 : Int32)), .val (.int (1 : Int32)), .val (.int (2 : Int32)), .val (.int ((1 : Int32) + (1 : Int32))), .val (.int ((2 : Int32) + (1 : Int32)))] [(.ref b1)])) rfl (by rw [hml]; rfl) (Steps.refl _) (argsL := []) (rest := []) (lenOf own_pd3 rfl) rfl (by show 2 * 0 + _ ≤ _; exact Nat.le_of_eq rfl) (hb hby at_250) (fun _ _ => ⟨rfl, e77, (by decide : 1 + 0 ≤ _), (by decide : 3 + 0 ≤ _)⟩)
            dsimp only [Pt.U, Pt.locs, Pt.cells, Pt.slots] at X78 l78 y78 z78 st78 hQ78
            subst l78 y78 z78
            obtain ⟨rfl, N78, e78⟩ := hQ78
            have NF78 := Fr.app NF77 N78
            refine Wp.step st78 ?_
            show Wp p e below _ (T78.setTop (mkF m 253 #[.val (.int p0), .val (.int p1), .val (.int p2), .val (.int p3), .val (.int p4), .val (.int (13 : Int32)), .val (.int xv), .val (.ref b1), .val (.int (1 : Int32)), .val (.int (2 : Int32)), .val (.int (1 : Int32)), .val (.int (1 : Int32)), .val (.int (2 : Int32)), .val (.int ((1 : Int32) + (1 : Int32))), .val (.int ((2 : Int32) + (1 : Int32)))] [(.int (1 : Int32))]))
            refine Wp.via (fun _ k => XS.iconst X78.here hx rfl (hb hby at_253) k) ?_
            show Wp p e below _ (T78.setTop (mkF m 254 #[.val (.int p0), .val (.int p1), .val (.int p2), .val (.int p3), .val (.int p4), .val (.int (13 : Int32)), .val (.int xv), .val (.ref b1), .val (.int (1 : Int32)), .val (.int (2 : Int32)), .val (.int (1 : Int32)), .val (.int (1 : Int32)), .val (.int (2 : Int32)), .val (.int ((1 : Int32) + (1 : Int32))), .val (.int ((2 : Int32) + (1 : Int32)))] [(.int (1 : Int32)), (.int (1 : Int32))]))
            refine Wp.via (fun _ k => XS.icmpNo X78.here hx rfl (hb hby at_254) rfl (teq (by decide)).2 k) ?_
            show Wp p e below _ (T78.setTop (mkF m 257 #[.val (.int p0), .val (.int p1), .val (.int p2), .val (.int p3), .val (.int p4), .val (.int (13 : Int32)), .val (.int xv), .val (.ref b1), .val (.int (1 : Int32)), .val (.int (2 : Int32)), .val (.int (1 : Int32)), .val (.int (1 : Int32)), .val (.int (2 : Int32)), .val (.int ((1 : Int32) + (1 : Int32))), .val (.int ((2 : Int32) + (1 : Int32)))] []))
            refine Wp.via (fun _ k => XS.iconst X78.here hx rfl (hb hby at_257) k) ?_
            show Wp p e below _ (T78.setTop (mkF m 258 #[.val (.int p0), .val (.int p1), .val (.int p2), .val (.int p3), .val (.int p4), .val (.int (13 : Int32)), .val (.int xv), .val (.ref b1), .val (.int (1 : Int32)), .val (.int (2 : Int32)), .val (.int (1 : Int32)), .val (.int (1 : Int32)), .val (.int (2 : Int32)), .val (.int ((1 : Int32) + (1 : Int32))), .val (.int ((2 : Int32) + (1 : Int32)))] [(.int (1 : Int32))]))
            refine Wp.via (fun _ k => XS.goto X78.here hx rfl (pc0 := 258) (pc' := 262) rfl (hb hby at_258) (by decide) (by decide) k) ?_
            show Wp p e below _ (T78.setTop (mkF m 262 #[.val (.int p0), .val (.int p1), .val (.int p2), .val (.int p3), .val (.int p4), .val (.int (13 : Int32)), .val (.int xv), .val (.ref b1), .val (.int (1 : Int32)), .val (.int (2 : Int32)), .val (.int (1 : Int32)), .val (.int (1 : Int32)), .val (.int (2 : Int32)), .val (.int ((1 : Int32) + (1 : Int32))), .val (.int ((2 : Int32) + (1 : Int32)))] [(.int (1 : Int32))]))
            refine Wp.via (fun _ k => XS.istore X78.here hx rfl (hb hby at_262) rfl (l' := #[.val (.int p0), .val (.int p1), .val (.int p2), .val (.int p3), .val (.int p4), .val (.int (13 : Int32)), .val (.int xv), .val (.ref b1), .val (.int (1 : Int32)), .val (.int (2 : Int32)), .val (.int (1 : Int32)), .val (.int (1 : Int32)), .val (.int (2 : Int32)), .val (.int ((1 : Int32) + (1 : Int32))), .val (.int ((2 : Int32) + (1 : Int32)))]) rfl k) ?_
            show Wp p e below _ (T78.setTop (mkF m 264 #[.val (.int p0), .val (.int p1), .val (.int p2), .val (.int p3), .val (.int p4), .val (.int (13 : Int32)), .val (.int xv), .val (.ref b1), .val (.int (1 : Int32)), .val (.int (2 : Int32)), .val (.int (1 : Int32)), .val (.int (1 : Int32)), .val (.int (2 : Int32)), .val (.int ((1 : Int32) + (1 : Int32))), .val (.int ((2 : Int32) + (1 : Int32)))] []))
            refine Wp.via (fun _ k => XS.iload X78.here hx rfl (hb hby at_264) rfl k) ?_
            show Wp p e below _ (T78.setTop (mkF m 266 #[.val (.int p0), .val (.int p1), .val (.int p2), .val (.int p3), .val (.int p4), .val (.int (13 : Int32)), .val (.int xv), .val (.ref b1), .val (.int (1 : Int32)), .val (.int (2 : Int32)), .val (.int (1 : Int32)), .val (.int (1 : Int32)), .val (.int (2 : Int32)), .val (.int ((1 : Int32) + (1 : Int32))), .val (.int ((2 : Int32) + (1 : Int32)))] [(.int (1 : Int32))]))
            exact Wp.retI X78 hlk hx hret (by simp) (by first | rfl | decide) (hb hby at_266) ⟨rfl, NF78⟩ (by decide) (by decide)
      ·
        obtain ⟨cq79, kq79, q79a, q79b, q79c⟩ := isOf hZ rfl c7
        obtain ⟨_, _, ⟨T79, L79, k79, n79⟩, -, X79, ⟨Lc79, hQ79, l79, y79, z79⟩, st79⟩ := X6.virtualBack hx (y := (⟨"com/example/chyld/chyld/LineColumn", "character", "(I)V"⟩ : MethodName)) (z := (⟨"com/example/chyld/chyld/LineColumn", "character", "(I)V"⟩ : MethodName)) hown (mvT hZ (hw _ (List.mem_of_getElem? (i := 24) rfl))) (mvT hZ (hw _ (List.mem_of_getElem? (i := 25) rfl))) (notFace_of_selects (args := #[]) (mvT hZ (hw _ (List.mem_of_getElem? (i := 27) rfl)))) (mvT hZ (hw _ (List.mem_of_getElem? (i := 27) rfl))) (mvT hZ (hw _ (List.mem_of_getElem? (i := 26) rfl))) (by decide) (backOf (W := 0) (rm5 l Z aw hw [] b1 pv (1 : Int32) ((1 : Int32) + p0) (0 : Int32) (1 : Int32) (((1 : Int32) + p0) + (1 : Int32)) (0 : Int32) T6.heap n0 zz8 c7 gn_b1 m2_line m2_column m2_afterCarriageReturn (by simp [own_l, a1, a2]) (by simp [own_k, a1, a2]) (by simp [own_r, a1, a2])) hZ (hw _ (List.mem_of_getElem? (i := 28) rfl)) (hw _ (List.mem_of_getElem? (i := 6) rfl)) (by decide) (by decide)) q79a q79c (g := (mkF m 34 #[.val (.int p0), .val (.int p1), .val (.int p2), .val (.int p3), .val (.int p4), .val (.int pv), .val (.int xv), .val (.ref b1), .unset, .unset, .unset, .unset, .unset, .unset, .unset] [(.int pv), (.ref b1)])) rfl (by rw [hml]; rfl) (Steps.refl _) (argsL := [(.int pv)]) (rest := []) (lenOf own_pd2 rfl) rfl (by show 2 * 0 + _ ≤ _; exact Nat.le_of_eq rfl) (hb hby at_34) (fun _ _ => ⟨rfl, rfl, (by decide : 1 + 0 ≤ _), (by decide : 3 + 0 ≤ _)⟩)
        dsimp only [Pt.U, Pt.locs, Pt.cells, Pt.slots] at X79 l79 y79 z79 st79 hQ79
        subst l79 y79 z79
        obtain ⟨rfl, N79, Kc79, Ec79, m17_line, m17_column, m17_afterCarriageReturn⟩ := hQ79
        have NF79 := Fr.app NF6 N79
        refine Wp.step st79 ?_
        have c80 := c7.keep Kc79
        have K79' := K6'.trans Kc79 (allS (Or.inr sz_b1) all0)
        have zz81 : n0 ≤ T79.heap.size := Nat.le_trans zz8 Kc79.1
        show Wp p e below _ (T79.setTop (mkF m 37 #[.val (.int p0), .val (.int p1), .val (.int p2), .val (.int p3), .val (.int p4), .val (.int pv), .val (.int xv), .val (.ref b1), .unset, .unset, .unset, .unset, .unset, .unset, .unset] []))
        refine Wp.via (fun _ k => XS.iload X79.here hx rfl (hb hby at_37) rfl k) ?_
        show Wp p e below _ (T79.setTop (mkF m 39 #[.val (.int p0), .val (.int p1), .val (.int p2), .val (.int p3), .val (.int p4), .val (.int pv), .val (.int xv), .val (.ref b1), .unset, .unset, .unset, .unset, .unset, .unset, .unset] [(.int pv)]))
        refine Wp.via (fun _ k => XS.bipush X79.here hx rfl (hb hby at_39) k) ?_
        show Wp p e below _ (T79.setTop (mkF m 41 #[.val (.int p0), .val (.int p1), .val (.int p2), .val (.int p3), .val (.int p4), .val (.int pv), .val (.int xv), .val (.ref b1), .unset, .unset, .unset, .unset, .unset, .unset, .unset] [(.int (13 : Int32)), (.int pv)]))
        refine Wp.via (fun _ k => XS.icmpYes X79.here hx rfl (pc0 := 41) (pc' := 48) rfl (hb hby at_41) rfl (feq a2).2 (by decide) (by decide) k) ?_
        show Wp p e below _ (T79.setTop (mkF m 48 #[.val (.int p0), .val (.int p1), .val (.int p2), .val (.int p3), .val (.int p4), .val (.int pv), .val (.int xv), .val (.ref b1), .unset, .unset, .unset, .unset, .unset, .unset, .unset] []))
        refine Wp.via (fun _ k => XS.iconst X79.here hx rfl (hb hby at_48) k) ?_
        show Wp p e below _ (T79.setTop (mkF m 49 #[.val (.int p0), .val (.int p1), .val (.int p2), .val (.int p3), .val (.int p4), .val (.int pv), .val (.int xv), .val (.ref b1), .unset, .unset, .unset, .unset, .unset, .unset, .unset] [(.int (0 : Int32))]))
        refine Wp.via (fun _ k => XS.istore X79.here hx rfl (hb hby at_49) rfl (l' := #[.val (.int p0), .val (.int p1), .val (.int p2), .val (.int p3), .val (.int p4), .val (.int pv), .val (.int xv), .val (.ref b1), .val (.int (0 : Int32)), .unset, .unset, .unset, .unset, .unset, .unset]) rfl k) ?_
        show Wp p e below _ (T79.setTop (mkF m 51 #[.val (.int p0), .val (.int p1), .val (.int p2), .val (.int p3), .val (.int p4), .val (.int pv), .val (.int xv), .val (.ref b1), .val (.int (0 : Int32)), .unset, .unset, .unset, .unset, .unset, .unset] []))
        refine Wp.via (fun _ k => XS.iload X79.here hx rfl (hb hby at_51) rfl k) ?_
        show Wp p e below _ (T79.setTop (mkF m 53 #[.val (.int p0), .val (.int p1), .val (.int p2), .val (.int p3), .val (.int p4), .val (.int pv), .val (.int xv), .val (.ref b1), .val (.int (0 : Int32)), .unset, .unset, .unset, .unset, .unset, .unset] [(.int pv)]))
        refine Wp.via (fun _ k => XS.bipush X79.here hx rfl (hb hby at_53) k) ?_
        show Wp p e below _ (T79.setTop (mkF m 55 #[.val (.int p0), .val (.int p1), .val (.int p2), .val (.int p3), .val (.int p4), .val (.int pv), .val (.int xv), .val (.ref b1), .val (.int (0 : Int32)), .unset, .unset, .unset, .unset, .unset, .unset] [(.int (10 : Int32)), (.int pv)]))
        refine Wp.via (fun _ k => XS.icmpNo X79.here hx rfl (hb hby at_55) rfl (feq a1).1 k) ?_
        show Wp p e below _ (T79.setTop (mkF m 58 #[.val (.int p0), .val (.int p1), .val (.int p2), .val (.int p3), .val (.int p4), .val (.int pv), .val (.int xv), .val (.ref b1), .val (.int (0 : Int32)), .unset, .unset, .unset, .unset, .unset, .unset] []))
        refine Wp.via (fun _ k => XS.iload X79.here hx rfl (hb hby at_58) rfl k) ?_
        show Wp p e below _ (T79.setTop (mkF m 60 #[.val (.int p0), .val (.int p1), .val (.int p2), .val (.int p3), .val (.int p4), .val (.int pv), .val (.int xv), .val (.ref b1), .val (.int (0 : Int32)), .unset, .unset, .unset, .unset, .unset, .unset] [(.int pv)]))
        refine Wp.via (fun _ k => XS.bipush X79.here hx rfl (hb hby at_60) k) ?_
        show Wp p e below _ (T79.setTop (mkF m 62 #[.val (.int p0), .val (.int p1), .val (.int p2), .val (.int p3), .val (.int p4), .val (.int pv), .val (.int xv), .val (.ref b1), .val (.int (0 : Int32)), .unset, .unset, .unset, .unset, .unset, .unset] [(.int (13 : Int32)), (.int pv)]))
        refine Wp.via (fun _ k => XS.icmpYes X79.here hx rfl (pc0 := 62) (pc' := 74) rfl (hb hby at_62) rfl (feq a2).2 (by decide) (by decide) k) ?_
        show Wp p e below _ (T79.setTop (mkF m 74 #[.val (.int p0), .val (.int p1), .val (.int p2), .val (.int p3), .val (.int p4), .val (.int pv), .val (.int xv), .val (.ref b1), .val (.int (0 : Int32)), .unset, .unset, .unset, .unset, .unset, .unset] []))
        refine Wp.via (fun _ k => XS.iconst X79.here hx rfl (hb hby at_74) k) ?_
        show Wp p e below _ (T79.setTop (mkF m 75 #[.val (.int p0), .val (.int p1), .val (.int p2), .val (.int p3), .val (.int p4), .val (.int pv), .val (.int xv), .val (.ref b1), .val (.int (0 : Int32)), .unset, .unset, .unset, .unset, .unset, .unset] [(.int (1 : Int32))]))
        refine Wp.via (fun _ k => XS.istore X79.here hx rfl (hb hby at_75) rfl (l' := #[.val (.int p0), .val (.int p1), .val (.int p2), .val (.int p3), .val (.int p4), .val (.int pv), .val (.int xv), .val (.ref b1), .val (.int (0 : Int32)), .val (.int (1 : Int32)), .unset, .unset, .unset, .unset, .unset]) rfl k) ?_
        show Wp p e below _ (T79.setTop (mkF m 77 #[.val (.int p0), .val (.int p1), .val (.int p2), .val (.int p3), .val (.int p4), .val (.int pv), .val (.int xv), .val (.ref b1), .val (.int (0 : Int32)), .val (.int (1 : Int32)), .unset, .unset, .unset, .unset, .unset] []))
        refine Wp.via (fun _ k => XS.iconst X79.here hx rfl (hb hby at_77) k) ?_
        show Wp p e below _ (T79.setTop (mkF m 78 #[.val (.int p0), .val (.int p1), .val (.int p2), .val (.int p3), .val (.int p4), .val (.int pv), .val (.int xv), .val (.ref b1), .val (.int (0 : Int32)), .val (.int (1 : Int32)), .unset, .unset, .unset, .unset, .unset] [(.int (1 : Int32))]))
        refine Wp.via (fun _ k => XS.iloadN X79.here hx rfl (hb hby at_78) rfl k) ?_
        show Wp p e below _ (T79.setTop (mkF m 79 #[.val (.int p0), .val (.int p1), .val (.int p2), .val (.int p3), .val (.int p4), .val (.int pv), .val (.int xv), .val (.ref b1), .val (.int (0 : Int32)), .val (.int (1 : Int32)), .unset, .unset, .unset, .unset, .unset] [(.int p0), (.int (1 : Int32))]))
        refine Wp.via (fun _ k => XS.iadd X79.here hx rfl (hb hby at_79) rfl k) ?_
        show Wp p e below _ (T79.setTop (mkF m 80 #[.val (.int p0), .val (.int p1), .val (.int p2), .val (.int p3), .val (.int p4), .val (.int pv), .val (.int xv), .val (.ref b1), .val (.int (0 : Int32)), .val (.int (1 : Int32)), .unset, .unset, .unset, .unset, .unset] [(.int ((1 : Int32) + p0))]))
        refine Wp.via (fun _ k => XS.iconst X79.here hx rfl (hb hby at_80) k) ?_
        show Wp p e below _ (T79.setTop (mkF m 81 #[.val (.int p0), .val (.int p1), .val (.int p2), .val (.int p3), .val (.int p4), .val (.int pv), .val (.int xv), .val (.ref b1), .val (.int (0 : Int32)), .val (.int (1 : Int32)), .unset, .unset, .unset, .unset, .unset] [(.int (1 : Int32)), (.int ((1 : Int32) + p0))]))
        refine Wp.via (fun _ k => XS.iadd X79.here hx rfl (hb hby at_81) rfl k) ?_
        show Wp p e below _ (T79.setTop (mkF m 82 #[.val (.int p0), .val (.int p1), .val (.int p2), .val (.int p3), .val (.int p4), .val (.int pv), .val (.int xv), .val (.ref b1), .val (.int (0 : Int32)), .val (.int (1 : Int32)), .unset, .unset, .unset, .unset, .unset] [(.int (((1 : Int32) + p0) + (1 : Int32)))]))
        refine Wp.via (fun _ k => XS.istore X79.here hx rfl (hb hby at_82) rfl (l' := #[.val (.int p0), .val (.int p1), .val (.int p2), .val (.int p3), .val (.int p4), .val (.int pv), .val (.int xv), .val (.ref b1), .val (.int (0 : Int32)), .val (.int (1 : Int32)), .val (.int (((1 : Int32) + p0) + (1 : Int32))), .unset, .unset, .unset, .unset]) rfl k) ?_
        show Wp p e below _ (T79.setTop (mkF m 84 #[.val (.int p0), .val (.int p1), .val (.int p2), .val (.int p3), .val (.int p4), .val (.int pv), .val (.int xv), .val (.ref b1), .val (.int (0 : Int32)), .val (.int (1 : Int32)), .val (.int (((1 : Int32) + p0) + (1 : Int32))), .unset, .unset, .unset, .unset] []))
        refine Wp.via (fun _ k => XS.aload X79.here hx rfl (hb hby at_84) rfl rfl k) ?_
        show Wp p e below _ (T79.setTop (mkF m 86 #[.val (.int p0), .val (.int p1), .val (.int p2), .val (.int p3), .val (.int p4), .val (.int pv), .val (.int xv), .val (.ref b1), .val (.int (0 : Int32)), .val (.int (1 : Int32)), .val (.int (((1 : Int32) + p0) + (1 : Int32))), .unset, .unset, .unset, .unset] [(.ref b1)]))
        obtain ⟨cq82, kq82, q82a, q82b, q82c⟩ := isOf hZ rfl c80
        obtain ⟨_, _, ⟨T82, L82, k82, n82⟩, -, X82, ⟨Lc82, hQ82, l82, y82, z82⟩, st82⟩ := X79.virtualBack hx (y := (⟨"com/example/chyld/chyld/LineColumn", "line", "()I"⟩ : MethodName)) (z := (⟨"com/example/chyld/chyld/LineColumn", "line", "()I"⟩ : MethodName)) hown (mvT hZ (hw _ (List.mem_of_getElem? (i := 29) rfl))) (mvT hZ (hw _ (List.mem_of_getElem? (i := 30) rfl))) (notFace_of_selects (args := #[]) (mvT hZ (hw _ (List.mem_of_getElem? (i := 32) rfl)))) (mvT hZ (hw _ (List.mem_of_getElem? (i := 32) rfl))) (mvT hZ (hw _ (List.mem_of_getElem? (i := 31) rfl))) (by decide) (backOf (W := 0) (rm6 l Z aw hw [] b1 (1 : Int32) T79.heap n0 zz81 m17_line) hZ (hw _ (List.mem_of_getElem? (i := 33) rfl)) (hw _ (List.mem_of_getElem? (i := 6) rfl)) (by decide) (by decide)) q82a q82c (g := (mkF m 86 #[.val (.int p0), .val (.int p1), .val (.int p2), .val (.int p3), .val (.int p4), .val (.int pv), .val (.int xv), .val (.ref b1), .val (.int (0 : Int32)), .val (.int (1 : Int32)), .val (.int (((1 : Int32) + p0) + (1 : Int32))), .unset, .unset, .unset, .unset] [(.ref b1)])) rfl (by rw [hml]; rfl) (Steps.refl _) (argsL := []) (rest := []) (lenOf own_pd3 rfl) rfl (by show 2 * 0 + _ ≤ _; exact Nat.le_of_eq rfl) (hb hby at_86) (fun _ _ => ⟨rfl, rfl, (by decide : 1 + 0 ≤ _), (by decide : 3 + 0 ≤ _)⟩)
        dsimp only [Pt.U, Pt.locs, Pt.cells, Pt.slots] at X82 l82 y82 z82 st82 hQ82
        subst l82 y82 z82
        obtain ⟨rfl, N82, e82⟩ := hQ82
        have NF82 := Fr.app NF79 N82
        refine Wp.step st82 ?_
        show Wp p e below _ (T82.setTop (mkF m 89 #[.val (.int p0), .val (.int p1), .val (.int p2), .val (.int p3), .val (.int p4), .val (.int pv), .val (.int xv), .val (.ref b1), .val (.int (0 : Int32)), .val (.int (1 : Int32)), .val (.int (((1 : Int32) + p0) + (1 : Int32))), .unset, .unset, .unset, .unset] [(.int (1 : Int32))]))
        refine Wp.via (fun _ k => XS.iload X82.here hx rfl (hb hby at_89) rfl k) ?_
        show Wp p e below _ (T82.setTop (mkF m 91 #[.val (.int p0), .val (.int p1), .val (.int p2), .val (.int p3), .val (.int p4), .val (.int pv), .val (.int xv), .val (.ref b1), .val (.int (0 : Int32)), .val (.int (1 : Int32)), .val (.int (((1 : Int32) + p0) + (1 : Int32))), .unset, .unset, .unset, .unset] [(.int (1 : Int32)), (.int (1 : Int32))]))
        refine Wp.via (fun _ k => XS.icmpNo X82.here hx rfl (hb hby at_91) rfl (teq (by decide)).2 k) ?_
        show Wp p e below _ (T82.setTop (mkF m 94 #[.val (.int p0), .val (.int p1), .val (.int p2), .val (.int p3), .val (.int p4), .val (.int pv), .val (.int xv), .val (.ref b1), .val (.int (0 : Int32)), .val (.int (1 : Int32)), .val (.int (((1 : Int32) + p0) + (1 : Int32))), .unset, .unset, .unset, .unset] []))
        refine Wp.via (fun _ k => XS.aload X82.here hx rfl (hb hby at_94) rfl rfl k) ?_
        show Wp p e below _ (T82.setTop (mkF m 96 #[.val (.int p0), .val (.int p1), .val (.int p2), .val (.int p3), .val (.int p4), .val (.int pv), .val (.int xv), .val (.ref b1), .val (.int (0 : Int32)), .val (.int (1 : Int32)), .val (.int (((1 : Int32) + p0) + (1 : Int32))), .unset, .unset, .unset, .unset] [(.ref b1)]))
        obtain ⟨cq83, kq83, q83a, q83b, q83c⟩ := isOf hZ e82 c80
        obtain ⟨_, _, ⟨T83, L83, k83, n83⟩, -, X83, ⟨Lc83, hQ83, l83, y83, z83⟩, st83⟩ := X82.virtualBack hx (y := (⟨"com/example/chyld/chyld/LineColumn", "column", "()I"⟩ : MethodName)) (z := (⟨"com/example/chyld/chyld/LineColumn", "column", "()I"⟩ : MethodName)) hown (mvT hZ (hw _ (List.mem_of_getElem? (i := 34) rfl))) (mvT hZ (hw _ (List.mem_of_getElem? (i := 35) rfl))) (notFace_of_selects (args := #[]) (mvT hZ (hw _ (List.mem_of_getElem? (i := 37) rfl)))) (mvT hZ (hw _ (List.mem_of_getElem? (i := 37) rfl))) (mvT hZ (hw _ (List.mem_of_getElem? (i := 36) rfl))) (by decide) (backOf (W := 0) (rm7 l Z aw hw [] b1 (((1 : Int32) + p0) + (1 : Int32)) T79.heap n0 zz81 m17_column) hZ (hw _ (List.mem_of_getElem? (i := 38) rfl)) (hw _ (List.mem_of_getElem? (i := 6) rfl)) (by decide) (by decide)) q83a q83c (g := (mkF m 96 #[.val (.int p0), .val (.int p1), .val (.int p2), .val (.int p3), .val (.int p4), .val (.int pv), .val (.int xv), .val (.ref b1), .val (.int (0 : Int32)), .val (.int (1 : Int32)), .val (.int (((1 : Int32) + p0) + (1 : Int32))), .unset, .unset, .unset, .unset] [(.ref b1)])) rfl (by rw [hml]; rfl) (Steps.refl _) (argsL := []) (rest := []) (lenOf own_pd3 rfl) rfl (by show 2 * 0 + _ ≤ _; exact Nat.le_of_eq rfl) (hb hby at_96) (fun _ _ => ⟨rfl, e82, (by decide : 1 + 0 ≤ _), (by decide : 3 + 0 ≤ _)⟩)
        dsimp only [Pt.U, Pt.locs, Pt.cells, Pt.slots] at X83 l83 y83 z83 st83 hQ83
        subst l83 y83 z83
        obtain ⟨rfl, N83, e83⟩ := hQ83
        have NF83 := Fr.app NF82 N83
        refine Wp.step st83 ?_
        show Wp p e below _ (T83.setTop (mkF m 99 #[.val (.int p0), .val (.int p1), .val (.int p2), .val (.int p3), .val (.int p4), .val (.int pv), .val (.int xv), .val (.ref b1), .val (.int (0 : Int32)), .val (.int (1 : Int32)), .val (.int (((1 : Int32) + p0) + (1 : Int32))), .unset, .unset, .unset, .unset] [(.int (((1 : Int32) + p0) + (1 : Int32)))]))
        refine Wp.via (fun _ k => XS.iload X83.here hx rfl (hb hby at_99) rfl k) ?_
        show Wp p e below _ (T83.setTop (mkF m 101 #[.val (.int p0), .val (.int p1), .val (.int p2), .val (.int p3), .val (.int p4), .val (.int pv), .val (.int xv), .val (.ref b1), .val (.int (0 : Int32)), .val (.int (1 : Int32)), .val (.int (((1 : Int32) + p0) + (1 : Int32))), .unset, .unset, .unset, .unset] [(.int (((1 : Int32) + p0) + (1 : Int32))), (.int (((1 : Int32) + p0) + (1 : Int32)))]))
        refine Wp.via (fun _ k => XS.icmpNo X83.here hx rfl (hb hby at_101) rfl (teq rfl).2 k) ?_
        show Wp p e below _ (T83.setTop (mkF m 104 #[.val (.int p0), .val (.int p1), .val (.int p2), .val (.int p3), .val (.int p4), .val (.int pv), .val (.int xv), .val (.ref b1), .val (.int (0 : Int32)), .val (.int (1 : Int32)), .val (.int (((1 : Int32) + p0) + (1 : Int32))), .unset, .unset, .unset, .unset] []))
        refine Wp.via (fun _ k => XS.iconst X83.here hx rfl (hb hby at_104) k) ?_
        show Wp p e below _ (T83.setTop (mkF m 105 #[.val (.int p0), .val (.int p1), .val (.int p2), .val (.int p3), .val (.int p4), .val (.int pv), .val (.int xv), .val (.ref b1), .val (.int (0 : Int32)), .val (.int (1 : Int32)), .val (.int (((1 : Int32) + p0) + (1 : Int32))), .unset, .unset, .unset, .unset] [(.int (1 : Int32))]))
        refine Wp.via (fun _ k => XS.goto X83.here hx rfl (pc0 := 105) (pc' := 109) rfl (hb hby at_105) (by decide) (by decide) k) ?_
        show Wp p e below _ (T83.setTop (mkF m 109 #[.val (.int p0), .val (.int p1), .val (.int p2), .val (.int p3), .val (.int p4), .val (.int pv), .val (.int xv), .val (.ref b1), .val (.int (0 : Int32)), .val (.int (1 : Int32)), .val (.int (((1 : Int32) + p0) + (1 : Int32))), .unset, .unset, .unset, .unset] [(.int (1 : Int32))]))
        refine Wp.via (fun _ k => XS.istore X83.here hx rfl (hb hby at_109) rfl (l' := #[.val (.int p0), .val (.int p1), .val (.int p2), .val (.int p3), .val (.int p4), .val (.int pv), .val (.int xv), .val (.ref b1), .val (.int (0 : Int32)), .val (.int (1 : Int32)), .val (.int (((1 : Int32) + p0) + (1 : Int32))), .val (.int (1 : Int32)), .unset, .unset, .unset]) rfl k) ?_
        show Wp p e below _ (T83.setTop (mkF m 111 #[.val (.int p0), .val (.int p1), .val (.int p2), .val (.int p3), .val (.int p4), .val (.int pv), .val (.int xv), .val (.ref b1), .val (.int (0 : Int32)), .val (.int (1 : Int32)), .val (.int (((1 : Int32) + p0) + (1 : Int32))), .val (.int (1 : Int32)), .unset, .unset, .unset] []))
        refine Wp.via (fun _ k => XS.aload X83.here hx rfl (hb hby at_111) rfl rfl k) ?_
        show Wp p e below _ (T83.setTop (mkF m 113 #[.val (.int p0), .val (.int p1), .val (.int p2), .val (.int p3), .val (.int p4), .val (.int pv), .val (.int xv), .val (.ref b1), .val (.int (0 : Int32)), .val (.int (1 : Int32)), .val (.int (((1 : Int32) + p0) + (1 : Int32))), .val (.int (1 : Int32)), .unset, .unset, .unset] [(.ref b1)]))
        refine Wp.via (fun _ k => XS.iload X83.here hx rfl (hb hby at_113) rfl k) ?_
        show Wp p e below _ (T83.setTop (mkF m 115 #[.val (.int p0), .val (.int p1), .val (.int p2), .val (.int p3), .val (.int p4), .val (.int pv), .val (.int xv), .val (.ref b1), .val (.int (0 : Int32)), .val (.int (1 : Int32)), .val (.int (((1 : Int32) + p0) + (1 : Int32))), .val (.int (1 : Int32)), .unset, .unset, .unset] [(.int xv), (.ref b1)]))
        by_cases d1 : xv = (10 : Int32)
        ·
          subst d1
          show Wp p e below _ (T83.setTop (mkF m 115 #[.val (.int p0), .val (.int p1), .val (.int p2), .val (.int p3), .val (.int p4), .val (.int pv), .val (.int (10 : Int32)), .val (.ref b1), .val (.int (0 : Int32)), .val (.int (1 : Int32)), .val (.int (((1 : Int32) + p0) + (1 : Int32))), .val (.int (1 : Int32)), .unset, .unset, .unset] [(.int (10 : Int32)), (.ref b1)]))
          obtain ⟨cq84, kq84, q84a, q84b, q84c⟩ := isOf hZ e83 c80
          obtain ⟨_, _, ⟨T84, L84, k84, n84⟩, -, X84, ⟨Lc84, hQ84, l84, y84, z84⟩, st84⟩ := X83.virtualBack hx (y := (⟨"com/example/chyld/chyld/LineColumn", "character", "(I)V"⟩ : MethodName)) (z := (⟨"com/example/chyld/chyld/LineColumn", "character", "(I)V"⟩ : MethodName)) hown (mvT hZ (hw _ (List.mem_of_getElem? (i := 24) rfl))) (mvT hZ (hw _ (List.mem_of_getElem? (i := 25) rfl))) (notFace_of_selects (args := #[]) (mvT hZ (hw _ (List.mem_of_getElem? (i := 27) rfl)))) (mvT hZ (hw _ (List.mem_of_getElem? (i := 27) rfl))) (mvT hZ (hw _ (List.mem_of_getElem? (i := 26) rfl))) (by decide) (backOf (W := 0) (rm5 l Z aw hw [] b1 (10 : Int32) (1 : Int32) (((1 : Int32) + p0) + (1 : Int32)) (0 : Int32) ((1 : Int32) + (1 : Int32)) (1 : Int32) (0 : Int32) T79.heap n0 zz81 c80 gn_b1 m17_line m17_column m17_afterCarriageReturn (by simp [own_l]) (by simp [own_k]) (by simp [own_r])) hZ (hw _ (List.mem_of_getElem? (i := 28) rfl)) (hw _ (List.mem_of_getElem? (i := 6) rfl)) (by decide) (by decide)) q84a q84c (g := (mkF m 115 #[.val (.int p0), .val (.int p1), .val (.int p2), .val (.int p3), .val (.int p4), .val (.int pv), .val (.int (10 : Int32)), .val (.ref b1), .val (.int (0 : Int32)), .val (.int (1 : Int32)), .val (.int (((1 : Int32) + p0) + (1 : Int32))), .val (.int (1 : Int32)), .unset, .unset, .unset] [(.int (10 : Int32)), (.ref b1)])) rfl (by rw [hml]; rfl) (Steps.refl _) (argsL := [(.int (10 : Int32))]) (rest := []) (lenOf own_pd2 rfl) rfl (by show 2 * 0 + _ ≤ _; exact Nat.le_of_eq rfl) (hb hby at_115) (fun _ _ => ⟨rfl, e83, (by decide : 1 + 0 ≤ _), (by decide : 3 + 0 ≤ _)⟩)
          dsimp only [Pt.U, Pt.locs, Pt.cells, Pt.slots] at X84 l84 y84 z84 st84 hQ84
          subst l84 y84 z84
          obtain ⟨rfl, N84, Kc84, Ec84, m18_line, m18_column, m18_afterCarriageReturn⟩ := hQ84
          have NF84 := Fr.app NF83 N84
          refine Wp.step st84 ?_
          have c85 := c80.keep Kc84
          have K84' := K79'.trans Kc84 (allS (Or.inr sz_b1) all0)
          have zz86 : n0 ≤ T84.heap.size := Nat.le_trans zz81 Kc84.1
          show Wp p e below _ (T84.setTop (mkF m 118 #[.val (.int p0), .val (.int p1), .val (.int p2), .val (.int p3), .val (.int p4), .val (.int pv), .val (.int (10 : Int32)), .val (.ref b1), .val (.int (0 : Int32)), .val (.int (1 : Int32)), .val (.int (((1 : Int32) + p0) + (1 : Int32))), .val (.int (1 : Int32)), .unset, .unset, .unset] []))
          refine Wp.via (fun _ k => XS.iload X84.here hx rfl (hb hby at_118) rfl k) ?_
          show Wp p e below _ (T84.setTop (mkF m 120 #[.val (.int p0), .val (.int p1), .val (.int p2), .val (.int p3), .val (.int p4), .val (.int pv), .val (.int (10 : Int32)), .val (.ref b1), .val (.int (0 : Int32)), .val (.int (1 : Int32)), .val (.int (((1 : Int32) + p0) + (1 : Int32))), .val (.int (1 : Int32)), .unset, .unset, .unset] [(.int (10 : Int32))]))
          refine Wp.via (fun _ k => XS.bipush X84.here hx rfl (hb hby at_120) k) ?_
          show Wp p e below _ (T84.setTop (mkF m 122 #[.val (.int p0), .val (.int p1), .val (.int p2), .val (.int p3), .val (.int p4), .val (.int pv), .val (.int (10 : Int32)), .val (.ref b1), .val (.int (0 : Int32)), .val (.int (1 : Int32)), .val (.int (((1 : Int32) + p0) + (1 : Int32))), .val (.int (1 : Int32)), .unset, .unset, .unset] [(.int (10 : Int32)), (.int (10 : Int32))]))
          refine Wp.via (fun _ k => XS.icmpNo X84.here hx rfl (hb hby at_122) rfl (teq (by decide)).2 k) ?_
          show Wp p e below _ (T84.setTop (mkF m 125 #[.val (.int p0), .val (.int p1), .val (.int p2), .val (.int p3), .val (.int p4), .val (.int pv), .val (.int (10 : Int32)), .val (.ref b1), .val (.int (0 : Int32)), .val (.int (1 : Int32)), .val (.int (((1 : Int32) + p0) + (1 : Int32))), .val (.int (1 : Int32)), .unset, .unset, .unset] []))
          refine Wp.via (fun _ k => XS.iload X84.here hx rfl (hb hby at_125) rfl k) ?_
          show Wp p e below _ (T84.setTop (mkF m 127 #[.val (.int p0), .val (.int p1), .val (.int p2), .val (.int p3), .val (.int p4), .val (.int pv), .val (.int (10 : Int32)), .val (.ref b1), .val (.int (0 : Int32)), .val (.int (1 : Int32)), .val (.int (((1 : Int32) + p0) + (1 : Int32))), .val (.int (1 : Int32)), .unset, .unset, .unset] [(.int (0 : Int32))]))
          refine Wp.via (fun _ k => XS.ifYes X84.here hx rfl (pc0 := 127) (pc' := 135) rfl (hb hby at_127) rfl ((if0 _ _).trans (teq (by decide)).1) (by decide) (by decide) k) ?_
          show Wp p e below _ (T84.setTop (mkF m 135 #[.val (.int p0), .val (.int p1), .val (.int p2), .val (.int p3), .val (.int p4), .val (.int pv), .val (.int (10 : Int32)), .val (.ref b1), .val (.int (0 : Int32)), .val (.int (1 : Int32)), .val (.int (((1 : Int32) + p0) + (1 : Int32))), .val (.int (1 : Int32)), .unset, .unset, .unset] []))
          refine Wp.via (fun _ k => XS.iload X84.here hx rfl (hb hby at_135) rfl k) ?_
          show Wp p e below _ (T84.setTop (mkF m 137 #[.val (.int p0), .val (.int p1), .val (.int p2), .val (.int p3), .val (.int p4), .val (.int pv), .val (.int (10 : Int32)), .val (.ref b1), .val (.int (0 : Int32)), .val (.int (1 : Int32)), .val (.int (((1 : Int32) + p0) + (1 : Int32))), .val (.int (1 : Int32)), .unset, .unset, .unset] [(.int (1 : Int32))]))
          refine Wp.via (fun _ k => XS.iconst X84.here hx rfl (hb hby at_137) k) ?_
          show Wp p e below _ (T84.setTop (mkF m 138 #[.val (.int p0), .val (.int p1), .val (.int p2), .val (.int p3), .val (.int p4), .val (.int pv), .val (.int (10 : Int32)), .val (.ref b1), .val (.int (0 : Int32)), .val (.int (1 : Int32)), .val (.int (((1 : Int32) + p0) + (1 : Int32))), .val (.int (1 : Int32)), .unset, .unset, .unset] [(.int (1 : Int32)), (.int (1 : Int32))]))
          refine Wp.via (fun _ k => XS.iadd X84.here hx rfl (hb hby at_138) rfl k) ?_
          show Wp p e below _ (T84.setTop (mkF m 139 #[.val (.int p0), .val (.int p1), .val (.int p2), .val (.int p3), .val (.int p4), .val (.int pv), .val (.int (10 : Int32)), .val (.ref b1), .val (.int (0 : Int32)), .val (.int (1 : Int32)), .val (.int (((1 : Int32) + p0) + (1 : Int32))), .val (.int (1 : Int32)), .unset, .unset, .unset] [(.int ((1 : Int32) + (1 : Int32)))]))
          refine Wp.via (fun _ k => XS.istore X84.here hx rfl (hb hby at_139) rfl (l' := #[.val (.int p0), .val (.int p1), .val (.int p2), .val (.int p3), .val (.int p4), .val (.int pv), .val (.int (10 : Int32)), .val (.ref b1), .val (.int (0 : Int32)), .val (.int (1 : Int32)), .val (.int (((1 : Int32) + p0) + (1 : Int32))), .val (.int (1 : Int32)), .val (.int ((1 : Int32) + (1 : Int32))), .unset, .unset]) rfl k) ?_
          show Wp p e below _ (T84.setTop (mkF m 141 #[.val (.int p0), .val (.int p1), .val (.int p2), .val (.int p3), .val (.int p4), .val (.int pv), .val (.int (10 : Int32)), .val (.ref b1), .val (.int (0 : Int32)), .val (.int (1 : Int32)), .val (.int (((1 : Int32) + p0) + (1 : Int32))), .val (.int (1 : Int32)), .val (.int ((1 : Int32) + (1 : Int32))), .unset, .unset] []))
          refine Wp.via (fun _ k => XS.iconst X84.here hx rfl (hb hby at_141) k) ?_
          show Wp p e below _ (T84.setTop (mkF m 142 #[.val (.int p0), .val (.int p1), .val (.int p2), .val (.int p3), .val (.int p4), .val (.int pv), .val (.int (10 : Int32)), .val (.ref b1), .val (.int (0 : Int32)), .val (.int (1 : Int32)), .val (.int (((1 : Int32) + p0) + (1 : Int32))), .val (.int (1 : Int32)), .val (.int ((1 : Int32) + (1 : Int32))), .unset, .unset] [(.int (1 : Int32))]))
          refine Wp.via (fun _ k => XS.istore X84.here hx rfl (hb hby at_142) rfl (l' := #[.val (.int p0), .val (.int p1), .val (.int p2), .val (.int p3), .val (.int p4), .val (.int pv), .val (.int (10 : Int32)), .val (.ref b1), .val (.int (0 : Int32)), .val (.int (1 : Int32)), .val (.int (((1 : Int32) + p0) + (1 : Int32))), .val (.int (1 : Int32)), .val (.int ((1 : Int32) + (1 : Int32))), .val (.int (1 : Int32)), .unset]) rfl k) ?_
          show Wp p e below _ (T84.setTop (mkF m 144 #[.val (.int p0), .val (.int p1), .val (.int p2), .val (.int p3), .val (.int p4), .val (.int pv), .val (.int (10 : Int32)), .val (.ref b1), .val (.int (0 : Int32)), .val (.int (1 : Int32)), .val (.int (((1 : Int32) + p0) + (1 : Int32))), .val (.int (1 : Int32)), .val (.int ((1 : Int32) + (1 : Int32))), .val (.int (1 : Int32)), .unset] []))
          refine Wp.via (fun _ k => XS.goto X84.here hx rfl (pc0 := 144) (pc' := 176) rfl (hb hby at_144) (by decide) (by decide) k) ?_
          show Wp p e below _ (T84.setTop (mkF m 176 #[.val (.int p0), .val (.int p1), .val (.int p2), .val (.int p3), .val (.int p4), .val (.int pv), .val (.int (10 : Int32)), .val (.ref b1), .val (.int (0 : Int32)), .val (.int (1 : Int32)), .val (.int (((1 : Int32) + p0) + (1 : Int32))), .val (.int (1 : Int32)), .val (.int ((1 : Int32) + (1 : Int32))), .val (.int (1 : Int32)), .unset] []))
          refine Wp.via (fun _ k => XS.iload X84.here hx rfl (hb hby at_176) rfl k) ?_
          show Wp p e below _ (T84.setTop (mkF m 178 #[.val (.int p0), .val (.int p1), .val (.int p2), .val (.int p3), .val (.int p4), .val (.int pv), .val (.int (10 : Int32)), .val (.ref b1), .val (.int (0 : Int32)), .val (.int (1 : Int32)), .val (.int (((1 : Int32) + p0) + (1 : Int32))), .val (.int (1 : Int32)), .val (.int ((1 : Int32) + (1 : Int32))), .val (.int (1 : Int32)), .unset] [(.int (1 : Int32))]))
          refine Wp.via (fun _ k => XS.ifNo X84.here hx rfl (hb hby at_178) rfl ((if0 _ _).trans (feq (by decide)).1) k) ?_
          show Wp p e below _ (T84.setTop (mkF m 181 #[.val (.int p0), .val (.int p1), .val (.int p2), .val (.int p3), .val (.int p4), .val (.int pv), .val (.int (10 : Int32)), .val (.ref b1), .val (.int (0 : Int32)), .val (.int (1 : Int32)), .val (.int (((1 : Int32) + p0) + (1 : Int32))), .val (.int (1 : Int32)), .val (.int ((1 : Int32) + (1 : Int32))), .val (.int (1 : Int32)), .unset] []))
          refine Wp.via (fun _ k => XS.aload X84.here hx rfl (hb hby at_181) rfl rfl k) ?_
          show Wp p e below _ (T84.setTop (mkF m 183 #[.val (.int p0), .val (.int p1), .val (.int p2), .val (.int p3), .val (.int p4), .val (.int pv), .val (.int (10 : Int32)), .val (.ref b1), .val (.int (0 : Int32)), .val (.int (1 : Int32)), .val (.int (((1 : Int32) + p0) + (1 : Int32))), .val (.int (1 : Int32)), .val (.int ((1 : Int32) + (1 : Int32))), .val (.int (1 : Int32)), .unset] [(.ref b1)]))
          obtain ⟨cq87, kq87, q87a, q87b, q87c⟩ := isOf hZ rfl c85
          obtain ⟨_, _, ⟨T87, L87, k87, n87⟩, -, X87, ⟨Lc87, hQ87, l87, y87, z87⟩, st87⟩ := X84.virtualBack hx (y := (⟨"com/example/chyld/chyld/LineColumn", "line", "()I"⟩ : MethodName)) (z := (⟨"com/example/chyld/chyld/LineColumn", "line", "()I"⟩ : MethodName)) hown (mvT hZ (hw _ (List.mem_of_getElem? (i := 29) rfl))) (mvT hZ (hw _ (List.mem_of_getElem? (i := 30) rfl))) (notFace_of_selects (args := #[]) (mvT hZ (hw _ (List.mem_of_getElem? (i := 32) rfl)))) (mvT hZ (hw _ (List.mem_of_getElem? (i := 32) rfl))) (mvT hZ (hw _ (List.mem_of_getElem? (i := 31) rfl))) (by decide) (backOf (W := 0) (rm6 l Z aw hw [] b1 ((1 : Int32) + (1 : Int32)) T84.heap n0 zz86 m18_line) hZ (hw _ (List.mem_of_getElem? (i := 33) rfl)) (hw _ (List.mem_of_getElem? (i := 6) rfl)) (by decide) (by decide)) q87a q87c (g := (mkF m 183 #[.val (.int p0), .val (.int p1), .val (.int p2), .val (.int p3), .val (.int p4), .val (.int pv), .val (.int (10 : Int32)), .val (.ref b1), .val (.int (0 : Int32)), .val (.int (1 : Int32)), .val (.int (((1 : Int32) + p0) + (1 : Int32))), .val (.int (1 : Int32)), .val (.int ((1 : Int32) + (1 : Int32))), .val (.int (1 : Int32)), .unset] [(.ref b1)])) rfl (by rw [hml]; rfl) (Steps.refl _) (argsL := []) (rest := []) (lenOf own_pd3 rfl) rfl (by show 2 * 0 + _ ≤ _; exact Nat.le_of_eq rfl) (hb hby at_183) (fun _ _ => ⟨rfl, rfl, (by decide : 1 + 0 ≤ _), (by decide : 3 + 0 ≤ _)⟩)
          dsimp only [Pt.U, Pt.locs, Pt.cells, Pt.slots] at X87 l87 y87 z87 st87 hQ87
          subst l87 y87 z87
          obtain ⟨rfl, N87, e87⟩ := hQ87
          have NF87 := Fr.app NF84 N87
          refine Wp.step st87 ?_
          show Wp p e below _ (T87.setTop (mkF m 186 #[.val (.int p0), .val (.int p1), .val (.int p2), .val (.int p3), .val (.int p4), .val (.int pv), .val (.int (10 : Int32)), .val (.ref b1), .val (.int (0 : Int32)), .val (.int (1 : Int32)), .val (.int (((1 : Int32) + p0) + (1 : Int32))), .val (.int (1 : Int32)), .val (.int ((1 : Int32) + (1 : Int32))), .val (.int (1 : Int32)), .unset] [(.int ((1 : Int32) + (1 : Int32)))]))
          refine Wp.via (fun _ k => XS.iload X87.here hx rfl (hb hby at_186) rfl k) ?_
          show Wp p e below _ (T87.setTop (mkF m 188 #[.val (.int p0), .val (.int p1), .val (.int p2), .val (.int p3), .val (.int p4), .val (.int pv), .val (.int (10 : Int32)), .val (.ref b1), .val (.int (0 : Int32)), .val (.int (1 : Int32)), .val (.int (((1 : Int32) + p0) + (1 : Int32))), .val (.int (1 : Int32)), .val (.int ((1 : Int32) + (1 : Int32))), .val (.int (1 : Int32)), .unset] [(.int ((1 : Int32) + (1 : Int32))), (.int ((1 : Int32) + (1 : Int32)))]))
          refine Wp.via (fun _ k => XS.icmpNo X87.here hx rfl (hb hby at_188) rfl (teq rfl).2 k) ?_
          show Wp p e below _ (T87.setTop (mkF m 191 #[.val (.int p0), .val (.int p1), .val (.int p2), .val (.int p3), .val (.int p4), .val (.int pv), .val (.int (10 : Int32)), .val (.ref b1), .val (.int (0 : Int32)), .val (.int (1 : Int32)), .val (.int (((1 : Int32) + p0) + (1 : Int32))), .val (.int (1 : Int32)), .val (.int ((1 : Int32) + (1 : Int32))), .val (.int (1 : Int32)), .unset] []))
          refine Wp.via (fun _ k => XS.aload X87.here hx rfl (hb hby at_191) rfl rfl k) ?_
          show Wp p e below _ (T87.setTop (mkF m 193 #[.val (.int p0), .val (.int p1), .val (.int p2), .val (.int p3), .val (.int p4), .val (.int pv), .val (.int (10 : Int32)), .val (.ref b1), .val (.int (0 : Int32)), .val (.int (1 : Int32)), .val (.int (((1 : Int32) + p0) + (1 : Int32))), .val (.int (1 : Int32)), .val (.int ((1 : Int32) + (1 : Int32))), .val (.int (1 : Int32)), .unset] [(.ref b1)]))
          obtain ⟨cq88, kq88, q88a, q88b, q88c⟩ := isOf hZ e87 c85
          obtain ⟨_, _, ⟨T88, L88, k88, n88⟩, -, X88, ⟨Lc88, hQ88, l88, y88, z88⟩, st88⟩ := X87.virtualBack hx (y := (⟨"com/example/chyld/chyld/LineColumn", "column", "()I"⟩ : MethodName)) (z := (⟨"com/example/chyld/chyld/LineColumn", "column", "()I"⟩ : MethodName)) hown (mvT hZ (hw _ (List.mem_of_getElem? (i := 34) rfl))) (mvT hZ (hw _ (List.mem_of_getElem? (i := 35) rfl))) (notFace_of_selects (args := #[]) (mvT hZ (hw _ (List.mem_of_getElem? (i := 37) rfl)))) (mvT hZ (hw _ (List.mem_of_getElem? (i := 37) rfl))) (mvT hZ (hw _ (List.mem_of_getElem? (i := 36) rfl))) (by decide) (backOf (W := 0) (rm7 l Z aw hw [] b1 (1 : Int32) T84.heap n0 zz86 m18_column) hZ (hw _ (List.mem_of_getElem? (i := 38) rfl)) (hw _ (List.mem_of_getElem? (i := 6) rfl)) (by decide) (by decide)) q88a q88c (g := (mkF m 193 #[.val (.int p0), .val (.int p1), .val (.int p2), .val (.int p3), .val (.int p4), .val (.int pv), .val (.int (10 : Int32)), .val (.ref b1), .val (.int (0 : Int32)), .val (.int (1 : Int32)), .val (.int (((1 : Int32) + p0) + (1 : Int32))), .val (.int (1 : Int32)), .val (.int ((1 : Int32) + (1 : Int32))), .val (.int (1 : Int32)), .unset] [(.ref b1)])) rfl (by rw [hml]; rfl) (Steps.refl _) (argsL := []) (rest := []) (lenOf own_pd3 rfl) rfl (by show 2 * 0 + _ ≤ _; exact Nat.le_of_eq rfl) (hb hby at_193) (fun _ _ => ⟨rfl, e87, (by decide : 1 + 0 ≤ _), (by decide : 3 + 0 ≤ _)⟩)
          dsimp only [Pt.U, Pt.locs, Pt.cells, Pt.slots] at X88 l88 y88 z88 st88 hQ88
          subst l88 y88 z88
          obtain ⟨rfl, N88, e88⟩ := hQ88
          have NF88 := Fr.app NF87 N88
          refine Wp.step st88 ?_
          show Wp p e below _ (T88.setTop (mkF m 196 #[.val (.int p0), .val (.int p1), .val (.int p2), .val (.int p3), .val (.int p4), .val (.int pv), .val (.int (10 : Int32)), .val (.ref b1), .val (.int (0 : Int32)), .val (.int (1 : Int32)), .val (.int (((1 : Int32) + p0) + (1 : Int32))), .val (.int (1 : Int32)), .val (.int ((1 : Int32) + (1 : Int32))), .val (.int (1 : Int32)), .unset] [(.int (1 : Int32))]))
          refine Wp.via (fun _ k => XS.iload X88.here hx rfl (hb hby at_196) rfl k) ?_
          show Wp p e below _ (T88.setTop (mkF m 198 #[.val (.int p0), .val (.int p1), .val (.int p2), .val (.int p3), .val (.int p4), .val (.int pv), .val (.int (10 : Int32)), .val (.ref b1), .val (.int (0 : Int32)), .val (.int (1 : Int32)), .val (.int (((1 : Int32) + p0) + (1 : Int32))), .val (.int (1 : Int32)), .val (.int ((1 : Int32) + (1 : Int32))), .val (.int (1 : Int32)), .unset] [(.int (1 : Int32)), (.int (1 : Int32))]))
          refine Wp.via (fun _ k => XS.icmpNo X88.here hx rfl (hb hby at_198) rfl (teq (by decide)).2 k) ?_
          show Wp p e below _ (T88.setTop (mkF m 201 #[.val (.int p0), .val (.int p1), .val (.int p2), .val (.int p3), .val (.int p4), .val (.int pv), .val (.int (10 : Int32)), .val (.ref b1), .val (.int (0 : Int32)), .val (.int (1 : Int32)), .val (.int (((1 : Int32) + p0) + (1 : Int32))), .val (.int (1 : Int32)), .val (.int ((1 : Int32) + (1 : Int32))), .val (.int (1 : Int32)), .unset] []))
          refine Wp.via (fun _ k => XS.iconst X88.here hx rfl (hb hby at_201) k) ?_
          show Wp p e below _ (T88.setTop (mkF m 202 #[.val (.int p0), .val (.int p1), .val (.int p2), .val (.int p3), .val (.int p4), .val (.int pv), .val (.int (10 : Int32)), .val (.ref b1), .val (.int (0 : Int32)), .val (.int (1 : Int32)), .val (.int (((1 : Int32) + p0) + (1 : Int32))), .val (.int (1 : Int32)), .val (.int ((1 : Int32) + (1 : Int32))), .val (.int (1 : Int32)), .unset] [(.int (1 : Int32))]))
          refine Wp.via (fun _ k => XS.goto X88.here hx rfl (pc0 := 202) (pc' := 206) rfl (hb hby at_202) (by decide) (by decide) k) ?_
          show Wp p e below _ (T88.setTop (mkF m 206 #[.val (.int p0), .val (.int p1), .val (.int p2), .val (.int p3), .val (.int p4), .val (.int pv), .val (.int (10 : Int32)), .val (.ref b1), .val (.int (0 : Int32)), .val (.int (1 : Int32)), .val (.int (((1 : Int32) + p0) + (1 : Int32))), .val (.int (1 : Int32)), .val (.int ((1 : Int32) + (1 : Int32))), .val (.int (1 : Int32)), .unset] [(.int (1 : Int32))]))
          refine Wp.via (fun _ k => XS.istore X88.here hx rfl (hb hby at_206) rfl (l' := #[.val (.int p0), .val (.int p1), .val (.int p2), .val (.int p3), .val (.int p4), .val (.int pv), .val (.int (10 : Int32)), .val (.ref b1), .val (.int (0 : Int32)), .val (.int (1 : Int32)), .val (.int (((1 : Int32) + p0) + (1 : Int32))), .val (.int (1 : Int32)), .val (.int ((1 : Int32) + (1 : Int32))), .val (.int (1 : Int32)), .unset]) rfl k) ?_
          show Wp p e below _ (T88.setTop (mkF m 208 #[.val (.int p0), .val (.int p1), .val (.int p2), .val (.int p3), .val (.int p4), .val (.int pv), .val (.int (10 : Int32)), .val (.ref b1), .val (.int (0 : Int32)), .val (.int (1 : Int32)), .val (.int (((1 : Int32) + p0) + (1 : Int32))), .val (.int (1 : Int32)), .val (.int ((1 : Int32) + (1 : Int32))), .val (.int (1 : Int32)), .unset] []))
          refine Wp.via (fun _ k => XS.aload X88.here hx rfl (hb hby at_208) rfl rfl k) ?_
          show Wp p e below _ (T88.setTop (mkF m 210 #[.val (.int p0), .val (.int p1), .val (.int p2), .val (.int p3), .val (.int p4), .val (.int pv), .val (.int (10 : Int32)), .val (.ref b1), .val (.int (0 : Int32)), .val (.int (1 : Int32)), .val (.int (((1 : Int32) + p0) + (1 : Int32))), .val (.int (1 : Int32)), .val (.int ((1 : Int32) + (1 : Int32))), .val (.int (1 : Int32)), .unset] [(.ref b1)]))
          refine Wp.via (fun _ k => XS.bipush X88.here hx rfl (hb hby at_210) k) ?_
          show Wp p e below _ (T88.setTop (mkF m 212 #[.val (.int p0), .val (.int p1), .val (.int p2), .val (.int p3), .val (.int p4), .val (.int pv), .val (.int (10 : Int32)), .val (.ref b1), .val (.int (0 : Int32)), .val (.int (1 : Int32)), .val (.int (((1 : Int32) + p0) + (1 : Int32))), .val (.int (1 : Int32)), .val (.int ((1 : Int32) + (1 : Int32))), .val (.int (1 : Int32)), .unset] [(.int (10 : Int32)), (.ref b1)]))
          obtain ⟨cq89, kq89, q89a, q89b, q89c⟩ := isOf hZ e88 c85
          obtain ⟨_, _, ⟨T89, L89, k89, n89⟩, -, X89, ⟨Lc89, hQ89, l89, y89, z89⟩, st89⟩ := X88.virtualBack hx (y := (⟨"com/example/chyld/chyld/LineColumn", "character", "(I)V"⟩ : MethodName)) (z := (⟨"com/example/chyld/chyld/LineColumn", "character", "(I)V"⟩ : MethodName)) hown (mvT hZ (hw _ (List.mem_of_getElem? (i := 24) rfl))) (mvT hZ (hw _ (List.mem_of_getElem? (i := 25) rfl))) (notFace_of_selects (args := #[]) (mvT hZ (hw _ (List.mem_of_getElem? (i := 27) rfl)))) (mvT hZ (hw _ (List.mem_of_getElem? (i := 27) rfl))) (mvT hZ (hw _ (List.mem_of_getElem? (i := 26) rfl))) (by decide) (backOf (W := 0) (rm5 l Z aw hw [] b1 (10 : Int32) ((1 : Int32) + (1 : Int32)) (1 : Int32) (0 : Int32) (((1 : Int32) + (1 : Int32)) + (1 : Int32)) (1 : Int32) (0 : Int32) T84.heap n0 zz86 c85 gn_b1 m18_line m18_column m18_afterCarriageReturn (by simp [own_l]) (by simp [own_k]) (by simp [own_r])) hZ (hw _ (List.mem_of_getElem? (i := 28) rfl)) (hw _ (List.mem_of_getElem? (i := 6) rfl)) (by decide) (by decide)) q89a q89c (g := (mkF m 212 #[.val (.int p0), .val (.int p1), .val (.int p2), .val (.int p3), .val (.int p4), .val (.int pv), .val (.int (10 : Int32)), .val (.ref b1), .val (.int (0 : Int32)), .val (.int (1 : Int32)), .val (.int (((1 : Int32) + p0) + (1 : Int32))), .val (.int (1 : Int32)), .val (.int ((1 : Int32) + (1 : Int32))), .val (.int (1 : Int32)), .unset] [(.int (10 : Int32)), (.ref b1)])) rfl (by rw [hml]; rfl) (Steps.refl _) (argsL := [(.int (10 : Int32))]) (rest := []) (lenOf own_pd2 rfl) rfl (by show 2 * 0 + _ ≤ _; exact Nat.le_of_eq rfl) (hb hby at_212) (fun _ _ => ⟨rfl, e88, (by decide : 1 + 0 ≤ _), (by decide : 3 + 0 ≤ _)⟩)
          dsimp only [Pt.U, Pt.locs, Pt.cells, Pt.slots] at X89 l89 y89 z89 st89 hQ89
          subst l89 y89 z89
          obtain ⟨rfl, N89, Kc89, Ec89, m19_line, m19_column, m19_afterCarriageReturn⟩ := hQ89
          have NF89 := Fr.app NF88 N89
          refine Wp.step st89 ?_
          have c90 := c85.keep Kc89
          have K89' := K84'.trans Kc89 (allS (Or.inr sz_b1) all0)
          have zz91 : n0 ≤ T89.heap.size := Nat.le_trans zz86 Kc89.1
          show Wp p e below _ (T89.setTop (mkF m 215 #[.val (.int p0), .val (.int p1), .val (.int p2), .val (.int p3), .val (.int p4), .val (.int pv), .val (.int (10 : Int32)), .val (.ref b1), .val (.int (0 : Int32)), .val (.int (1 : Int32)), .val (.int (((1 : Int32) + p0) + (1 : Int32))), .val (.int (1 : Int32)), .val (.int ((1 : Int32) + (1 : Int32))), .val (.int (1 : Int32)), .unset] []))
          refine Wp.via (fun _ k => XS.iload X89.here hx rfl (hb hby at_215) rfl k) ?_
          show Wp p e below _ (T89.setTop (mkF m 217 #[.val (.int p0), .val (.int p1), .val (.int p2), .val (.int p3), .val (.int p4), .val (.int pv), .val (.int (10 : Int32)), .val (.ref b1), .val (.int (0 : Int32)), .val (.int (1 : Int32)), .val (.int (((1 : Int32) + p0) + (1 : Int32))), .val (.int (1 : Int32)), .val (.int ((1 : Int32) + (1 : Int32))), .val (.int (1 : Int32)), .unset] [(.int (10 : Int32))]))
          refine Wp.via (fun _ k => XS.bipush X89.here hx rfl (hb hby at_217) k) ?_
          show Wp p e below _ (T89.setTop (mkF m 219 #[.val (.int p0), .val (.int p1), .val (.int p2), .val (.int p3), .val (.int p4), .val (.int pv), .val (.int (10 : Int32)), .val (.ref b1), .val (.int (0 : Int32)), .val (.int (1 : Int32)), .val (.int (((1 : Int32) + p0) + (1 : Int32))), .val (.int (1 : Int32)), .val (.int ((1 : Int32) + (1 : Int32))), .val (.int (1 : Int32)), .unset] [(.int (13 : Int32)), (.int (10 : Int32))]))
          refine Wp.via (fun _ k => XS.icmpYes X89.here hx rfl (pc0 := 219) (pc' := 227) rfl (hb hby at_219) rfl (feq (by decide)).2 (by decide) (by decide) k) ?_
          show Wp p e below _ (T89.setTop (mkF m 227 #[.val (.int p0), .val (.int p1), .val (.int p2), .val (.int p3), .val (.int p4), .val (.int pv), .val (.int (10 : Int32)), .val (.ref b1), .val (.int (0 : Int32)), .val (.int (1 : Int32)), .val (.int (((1 : Int32) + p0) + (1 : Int32))), .val (.int (1 : Int32)), .val (.int ((1 : Int32) + (1 : Int32))), .val (.int (1 : Int32)), .unset] []))
          refine Wp.via (fun _ k => XS.iload X89.here hx rfl (hb hby at_227) rfl k) ?_
          show Wp p e below _ (T89.setTop (mkF m 229 #[.val (.int p0), .val (.int p1), .val (.int p2), .val (.int p3), .val (.int p4), .val (.int pv), .val (.int (10 : Int32)), .val (.ref b1), .val (.int (0 : Int32)), .val (.int (1 : Int32)), .val (.int (((1 : Int32) + p0) + (1 : Int32))), .val (.int (1 : Int32)), .val (.int ((1 : Int32) + (1 : Int32))), .val (.int (1 : Int32)), .unset] [(.int ((1 : Int32) + (1 : Int32)))]))
          refine Wp.via (fun _ k => XS.iconst X89.here hx rfl (hb hby at_229) k) ?_
          show Wp p e below _ (T89.setTop (mkF m 230 #[.val (.int p0), .val (.int p1), .val (.int p2), .val (.int p3), .val (.int p4), .val (.int pv), .val (.int (10 : Int32)), .val (.ref b1), .val (.int (0 : Int32)), .val (.int (1 : Int32)), .val (.int (((1 : Int32) + p0) + (1 : Int32))), .val (.int (1 : Int32)), .val (.int ((1 : Int32) + (1 : Int32))), .val (.int (1 : Int32)), .unset] [(.int (1 : Int32)), (.int ((1 : Int32) + (1 : Int32)))]))
          refine Wp.via (fun _ k => XS.iadd X89.here hx rfl (hb hby at_230) rfl k) ?_
          show Wp p e below _ (T89.setTop (mkF m 231 #[.val (.int p0), .val (.int p1), .val (.int p2), .val (.int p3), .val (.int p4), .val (.int pv), .val (.int (10 : Int32)), .val (.ref b1), .val (.int (0 : Int32)), .val (.int (1 : Int32)), .val (.int (((1 : Int32) + p0) + (1 : Int32))), .val (.int (1 : Int32)), .val (.int ((1 : Int32) + (1 : Int32))), .val (.int (1 : Int32)), .unset] [(.int (((1 : Int32) + (1 : Int32)) + (1 : Int32)))]))
          refine Wp.via (fun _ k => XS.istore X89.here hx rfl (hb hby at_231) rfl (l' := #[.val (.int p0), .val (.int p1), .val (.int p2), .val (.int p3), .val (.int p4), .val (.int pv), .val (.int (10 : Int32)), .val (.ref b1), .val (.int (0 : Int32)), .val (.int (1 : Int32)), .val (.int (((1 : Int32) + p0) + (1 : Int32))), .val (.int (1 : Int32)), .val (.int ((1 : Int32) + (1 : Int32))), .val (.int (1 : Int32)), .val (.int (((1 : Int32) + (1 : Int32)) + (1 : Int32)))]) rfl k) ?_
          show Wp p e below _ (T89.setTop (mkF m 233 #[.val (.int p0), .val (.int p1), .val (.int p2), .val (.int p3), .val (.int p4), .val (.int pv), .val (.int (10 : Int32)), .val (.ref b1), .val (.int (0 : Int32)), .val (.int (1 : Int32)), .val (.int (((1 : Int32) + p0) + (1 : Int32))), .val (.int (1 : Int32)), .val (.int ((1 : Int32) + (1 : Int32))), .val (.int (1 : Int32)), .val (.int (((1 : Int32) + (1 : Int32)) + (1 : Int32)))] []))
          refine Wp.via (fun _ k => XS.iload X89.here hx rfl (hb hby at_233) rfl k) ?_
          show Wp p e below _ (T89.setTop (mkF m 235 #[.val (.int p0), .val (.int p1), .val (.int p2), .val (.int p3), .val (.int p4), .val (.int pv), .val (.int (10 : Int32)), .val (.ref b1), .val (.int (0 : Int32)), .val (.int (1 : Int32)), .val (.int (((1 : Int32) + p0) + (1 : Int32))), .val (.int (1 : Int32)), .val (.int ((1 : Int32) + (1 : Int32))), .val (.int (1 : Int32)), .val (.int (((1 : Int32) + (1 : Int32)) + (1 : Int32)))] [(.int (1 : Int32))]))
          refine Wp.via (fun _ k => XS.ifNo X89.here hx rfl (hb hby at_235) rfl ((if0 _ _).trans (feq (by decide)).1) k) ?_
          show Wp p e below _ (T89.setTop (mkF m 238 #[.val (.int p0), .val (.int p1), .val (.int p2), .val (.int p3), .val (.int p4), .val (.int pv), .val (.int (10 : Int32)), .val (.ref b1), .val (.int (0 : Int32)), .val (.int (1 : Int32)), .val (.int (((1 : Int32) + p0) + (1 : Int32))), .val (.int (1 : Int32)), .val (.int ((1 : Int32) + (1 : Int32))), .val (.int (1 : Int32)), .val (.int (((1 : Int32) + (1 : Int32)) + (1 : Int32)))] []))
          refine Wp.via (fun _ k => XS.aload X89.here hx rfl (hb hby at_238) rfl rfl k) ?_
          show Wp p e below _ (T89.setTop (mkF m 240 #[.val (.int p0), .val (.int p1), .val (.int p2), .val (.int p3), .val (.int p4), .val (.int pv), .val (.int (10 : Int32)), .val (.ref b1), .val (.int (0 : Int32)), .val (.int (1 : Int32)), .val (.int (((1 : Int32) + p0) + (1 : Int32))), .val (.int (1 : Int32)), .val (.int ((1 : Int32) + (1 : Int32))), .val (.int (1 : Int32)), .val (.int (((1 : Int32) + (1 : Int32)) + (1 : Int32)))] [(.ref b1)]))
          obtain ⟨cq92, kq92, q92a, q92b, q92c⟩ := isOf hZ rfl c90
          obtain ⟨_, _, ⟨T92, L92, k92, n92⟩, -, X92, ⟨Lc92, hQ92, l92, y92, z92⟩, st92⟩ := X89.virtualBack hx (y := (⟨"com/example/chyld/chyld/LineColumn", "line", "()I"⟩ : MethodName)) (z := (⟨"com/example/chyld/chyld/LineColumn", "line", "()I"⟩ : MethodName)) hown (mvT hZ (hw _ (List.mem_of_getElem? (i := 29) rfl))) (mvT hZ (hw _ (List.mem_of_getElem? (i := 30) rfl))) (notFace_of_selects (args := #[]) (mvT hZ (hw _ (List.mem_of_getElem? (i := 32) rfl)))) (mvT hZ (hw _ (List.mem_of_getElem? (i := 32) rfl))) (mvT hZ (hw _ (List.mem_of_getElem? (i := 31) rfl))) (by decide) (backOf (W := 0) (rm6 l Z aw hw [] b1 (((1 : Int32) + (1 : Int32)) + (1 : Int32)) T89.heap n0 zz91 m19_line) hZ (hw _ (List.mem_of_getElem? (i := 33) rfl)) (hw _ (List.mem_of_getElem? (i := 6) rfl)) (by decide) (by decide)) q92a q92c (g := (mkF m 240 #[.val (.int p0), .val (.int p1), .val (.int p2), .val (.int p3), .val (.int p4), .val (.int pv), .val (.int (10 : Int32)), .val (.ref b1), .val (.int (0 : Int32)), .val (.int (1 : Int32)), .val (.int (((1 : Int32) + p0) + (1 : Int32))), .val (.int (1 : Int32)), .val (.int ((1 : Int32) + (1 : Int32))), .val (.int (1 : Int32)), .val (.int (((1 : Int32) + (1 : Int32)) + (1 : Int32)))] [(.ref b1)])) rfl (by rw [hml]; rfl) (Steps.refl _) (argsL := []) (rest := []) (lenOf own_pd3 rfl) rfl (by show 2 * 0 + _ ≤ _; exact Nat.le_of_eq rfl) (hb hby at_240) (fun _ _ => ⟨rfl, rfl, (by decide : 1 + 0 ≤ _), (by decide : 3 + 0 ≤ _)⟩)
          dsimp only [Pt.U, Pt.locs, Pt.cells, Pt.slots] at X92 l92 y92 z92 st92 hQ92
          subst l92 y92 z92
          obtain ⟨rfl, N92, e92⟩ := hQ92
          have NF92 := Fr.app NF89 N92
          refine Wp.step st92 ?_
          show Wp p e below _ (T92.setTop (mkF m 243 #[.val (.int p0), .val (.int p1), .val (.int p2), .val (.int p3), .val (.int p4), .val (.int pv), .val (.int (10 : Int32)), .val (.ref b1), .val (.int (0 : Int32)), .val (.int (1 : Int32)), .val (.int (((1 : Int32) + p0) + (1 : Int32))), .val (.int (1 : Int32)), .val (.int ((1 : Int32) + (1 : Int32))), .val (.int (1 : Int32)), .val (.int (((1 : Int32) + (1 : Int32)) + (1 : Int32)))] [(.int (((1 : Int32) + (1 : Int32)) + (1 : Int32)))]))
          refine Wp.via (fun _ k => XS.iload X92.here hx rfl (hb hby at_243) rfl k) ?_
          show Wp p e below _ (T92.setTop (mkF m 245 #[.val (.int p0), .val (.int p1), .val (.int p2), .val (.int p3), .val (.int p4), .val (.int pv), .val (.int (10 : Int32)), .val (.ref b1), .val (.int (0 : Int32)), .val (.int (1 : Int32)), .val (.int (((1 : Int32) + p0) + (1 : Int32))), .val (.int (1 : Int32)), .val (.int ((1 : Int32) + (1 : Int32))), .val (.int (1 : Int32)), .val (.int (((1 : Int32) + (1 : Int32)) + (1 : Int32)))] [(.int (((1 : Int32) + (1 : Int32)) + (1 : Int32))), (.int (((1 : Int32) + (1 : Int32)) + (1 : Int32)))]))
          refine Wp.via (fun _ k => XS.icmpNo X92.here hx rfl (hb hby at_245) rfl (teq rfl).2 k) ?_
          show Wp p e below _ (T92.setTop (mkF m 248 #[.val (.int p0), .val (.int p1), .val (.int p2), .val (.int p3), .val (.int p4), .val (.int pv), .val (.int (10 : Int32)), .val (.ref b1), .val (.int (0 : Int32)), .val (.int (1 : Int32)), .val (.int (((1 : Int32) + p0) + (1 : Int32))), .val (.int (1 : Int32)), .val (.int ((1 : Int32) + (1 : Int32))), .val (.int (1 : Int32)), .val (.int (((1 : Int32) + (1 : Int32)) + (1 : Int32)))] []))
          refine Wp.via (fun _ k => XS.aload X92.here hx rfl (hb hby at_248) rfl rfl k) ?_
          show Wp p e below _ (T92.setTop (mkF m 250 #[.val (.int p0), .val (.int p1), .val (.int p2), .val (.int p3), .val (.int p4), .val (.int pv), .val (.int (10 : Int32)), .val (.ref b1), .val (.int (0 : Int32)), .val (.int (1 : Int32)), .val (.int (((1 : Int32) + p0) + (1 : Int32))), .val (.int (1 : Int32)), .val (.int ((1 : Int32) + (1 : Int32))), .val (.int (1 : Int32)), .val (.int (((1 : Int32) + (1 : Int32)) + (1 : Int32)))] [(.ref b1)]))
          obtain ⟨cq93, kq93, q93a, q93b, q93c⟩ := isOf hZ e92 c90
          obtain ⟨_, _, ⟨T93, L93, k93, n93⟩, -, X93, ⟨Lc93, hQ93, l93, y93, z93⟩, st93⟩ := X92.virtualBack hx (y := (⟨"com/example/chyld/chyld/LineColumn", "column", "()I"⟩ : MethodName)) (z := (⟨"com/example/chyld/chyld/LineColumn", "column", "()I"⟩ : MethodName)) hown (mvT hZ (hw _ (List.mem_of_getElem? (i := 34) rfl))) (mvT hZ (hw _ (List.mem_of_getElem? (i := 35) rfl))) (notFace_of_selects (args := #[]) (mvT hZ (hw _ (List.mem_of_getElem? (i := 37) rfl)))) (mvT hZ (hw _ (List.mem_of_getElem? (i := 37) rfl))) (mvT hZ (hw _ (List.mem_of_getElem? (i := 36) rfl))) (by decide) (backOf (W := 0) (rm7 l Z aw hw [] b1 (1 : Int32) T89.heap n0 zz91 m19_column) hZ (hw _ (List.mem_of_getElem? (i := 38) rfl)) (hw _ (List.mem_of_getElem? (i := 6) rfl)) (by decide) (by decide)) q93a q93c (g := (mkF m 250 #[.val (.int p0), .val (.int p1), .val (.int p2), .val (.int p3), .val (.int p4), .val (.int pv), .val (.int (10 : Int32)), .val (.ref b1), .val (.int (0 : Int32)), .val (.int (1 : Int32)), .val (.int (((1 : Int32) + p0) + (1 : Int32))), .val (.int (1 : Int32)), .val (.int ((1 : Int32) + (1 : Int32))), .val (.int (1 : Int32)), .val (.int (((1 : Int32) + (1 : Int32)) + (1 : Int32)))] [(.ref b1)])) rfl (by rw [hml]; rfl) (Steps.refl _) (argsL := []) (rest := []) (lenOf own_pd3 rfl) rfl (by show 2 * 0 + _ ≤ _; exact Nat.le_of_eq rfl) (hb hby at_250) (fun _ _ => ⟨rfl, e92, (by decide : 1 + 0 ≤ _), (by decide : 3 + 0 ≤ _)⟩)
          dsimp only [Pt.U, Pt.locs, Pt.cells, Pt.slots] at X93 l93 y93 z93 st93 hQ93
          subst l93 y93 z93
          obtain ⟨rfl, N93, e93⟩ := hQ93
          have NF93 := Fr.app NF92 N93
          refine Wp.step st93 ?_
          show Wp p e below _ (T93.setTop (mkF m 253 #[.val (.int p0), .val (.int p1), .val (.int p2), .val (.int p3), .val (.int p4), .val (.int pv), .val (.int (10 : Int32)), .val (.ref b1), .val (.int (0 : Int32)), .val (.int (1 : Int32)), .val (.int (((1 : Int32) + p0) + (1 : Int32))), .val (.int (1 : Int32)), .val (.int ((1 : Int32) + (1 : Int32))), .val (.int (1 : Int32)), .val (.int (((1 : Int32) + (1 : Int32)) + (1 : Int32)))] [(.int (1 : Int32))]))
          refine Wp.via (fun _ k => XS.iconst X93.here hx rfl (hb hby at_253) k) ?_
          show Wp p e below _ (T93.setTop (mkF m 254 #[.val (.int p0), .val (.int p1), .val (.int p2), .val (.int p3), .val (.int p4), .val (.int pv), .val (.int (10 : Int32)), .val (.ref b1), .val (.int (0 : Int32)), .val (.int (1 : Int32)), .val (.int (((1 : Int32) + p0) + (1 : Int32))), .val (.int (1 : Int32)), .val (.int ((1 : Int32) + (1 : Int32))), .val (.int (1 : Int32)), .val (.int (((1 : Int32) + (1 : Int32)) + (1 : Int32)))] [(.int (1 : Int32)), (.int (1 : Int32))]))
          refine Wp.via (fun _ k => XS.icmpNo X93.here hx rfl (hb hby at_254) rfl (teq (by decide)).2 k) ?_
          show Wp p e below _ (T93.setTop (mkF m 257 #[.val (.int p0), .val (.int p1), .val (.int p2), .val (.int p3), .val (.int p4), .val (.int pv), .val (.int (10 : Int32)), .val (.ref b1), .val (.int (0 : Int32)), .val (.int (1 : Int32)), .val (.int (((1 : Int32) + p0) + (1 : Int32))), .val (.int (1 : Int32)), .val (.int ((1 : Int32) + (1 : Int32))), .val (.int (1 : Int32)), .val (.int (((1 : Int32) + (1 : Int32)) + (1 : Int32)))] []))
          refine Wp.via (fun _ k => XS.iconst X93.here hx rfl (hb hby at_257) k) ?_
          show Wp p e below _ (T93.setTop (mkF m 258 #[.val (.int p0), .val (.int p1), .val (.int p2), .val (.int p3), .val (.int p4), .val (.int pv), .val (.int (10 : Int32)), .val (.ref b1), .val (.int (0 : Int32)), .val (.int (1 : Int32)), .val (.int (((1 : Int32) + p0) + (1 : Int32))), .val (.int (1 : Int32)), .val (.int ((1 : Int32) + (1 : Int32))), .val (.int (1 : Int32)), .val (.int (((1 : Int32) + (1 : Int32)) + (1 : Int32)))] [(.int (1 : Int32))]))
          refine Wp.via (fun _ k => XS.goto X93.here hx rfl (pc0 := 258) (pc' := 262) rfl (hb hby at_258) (by decide) (by decide) k) ?_
          show Wp p e below _ (T93.setTop (mkF m 262 #[.val (.int p0), .val (.int p1), .val (.int p2), .val (.int p3), .val (.int p4), .val (.int pv), .val (.int (10 : Int32)), .val (.ref b1), .val (.int (0 : Int32)), .val (.int (1 : Int32)), .val (.int (((1 : Int32) + p0) + (1 : Int32))), .val (.int (1 : Int32)), .val (.int ((1 : Int32) + (1 : Int32))), .val (.int (1 : Int32)), .val (.int (((1 : Int32) + (1 : Int32)) + (1 : Int32)))] [(.int (1 : Int32))]))
          refine Wp.via (fun _ k => XS.istore X93.here hx rfl (hb hby at_262) rfl (l' := #[.val (.int p0), .val (.int p1), .val (.int p2), .val (.int p3), .val (.int p4), .val (.int pv), .val (.int (10 : Int32)), .val (.ref b1), .val (.int (0 : Int32)), .val (.int (1 : Int32)), .val (.int (((1 : Int32) + p0) + (1 : Int32))), .val (.int (1 : Int32)), .val (.int ((1 : Int32) + (1 : Int32))), .val (.int (1 : Int32)), .val (.int (((1 : Int32) + (1 : Int32)) + (1 : Int32)))]) rfl k) ?_
          show Wp p e below _ (T93.setTop (mkF m 264 #[.val (.int p0), .val (.int p1), .val (.int p2), .val (.int p3), .val (.int p4), .val (.int pv), .val (.int (10 : Int32)), .val (.ref b1), .val (.int (0 : Int32)), .val (.int (1 : Int32)), .val (.int (((1 : Int32) + p0) + (1 : Int32))), .val (.int (1 : Int32)), .val (.int ((1 : Int32) + (1 : Int32))), .val (.int (1 : Int32)), .val (.int (((1 : Int32) + (1 : Int32)) + (1 : Int32)))] []))
          refine Wp.via (fun _ k => XS.iload X93.here hx rfl (hb hby at_264) rfl k) ?_
          show Wp p e below _ (T93.setTop (mkF m 266 #[.val (.int p0), .val (.int p1), .val (.int p2), .val (.int p3), .val (.int p4), .val (.int pv), .val (.int (10 : Int32)), .val (.ref b1), .val (.int (0 : Int32)), .val (.int (1 : Int32)), .val (.int (((1 : Int32) + p0) + (1 : Int32))), .val (.int (1 : Int32)), .val (.int ((1 : Int32) + (1 : Int32))), .val (.int (1 : Int32)), .val (.int (((1 : Int32) + (1 : Int32)) + (1 : Int32)))] [(.int (1 : Int32))]))
          exact Wp.retI X93 hlk hx hret (by simp) (by first | rfl | decide) (hb hby at_266) ⟨rfl, NF93⟩ (by decide) (by decide)
        ·
          by_cases d2 : xv = (13 : Int32)
          ·
            subst d2
            show Wp p e below _ (T83.setTop (mkF m 115 #[.val (.int p0), .val (.int p1), .val (.int p2), .val (.int p3), .val (.int p4), .val (.int pv), .val (.int (13 : Int32)), .val (.ref b1), .val (.int (0 : Int32)), .val (.int (1 : Int32)), .val (.int (((1 : Int32) + p0) + (1 : Int32))), .val (.int (1 : Int32)), .unset, .unset, .unset] [(.int (13 : Int32)), (.ref b1)]))
            obtain ⟨cq94, kq94, q94a, q94b, q94c⟩ := isOf hZ e83 c80
            obtain ⟨_, _, ⟨T94, L94, k94, n94⟩, -, X94, ⟨Lc94, hQ94, l94, y94, z94⟩, st94⟩ := X83.virtualBack hx (y := (⟨"com/example/chyld/chyld/LineColumn", "character", "(I)V"⟩ : MethodName)) (z := (⟨"com/example/chyld/chyld/LineColumn", "character", "(I)V"⟩ : MethodName)) hown (mvT hZ (hw _ (List.mem_of_getElem? (i := 24) rfl))) (mvT hZ (hw _ (List.mem_of_getElem? (i := 25) rfl))) (notFace_of_selects (args := #[]) (mvT hZ (hw _ (List.mem_of_getElem? (i := 27) rfl)))) (mvT hZ (hw _ (List.mem_of_getElem? (i := 27) rfl))) (mvT hZ (hw _ (List.mem_of_getElem? (i := 26) rfl))) (by decide) (backOf (W := 0) (rm5 l Z aw hw [] b1 (13 : Int32) (1 : Int32) (((1 : Int32) + p0) + (1 : Int32)) (0 : Int32) ((1 : Int32) + (1 : Int32)) (1 : Int32) (1 : Int32) T79.heap n0 zz81 c80 gn_b1 m17_line m17_column m17_afterCarriageReturn (by simp [own_l]) (by simp [own_k]) (by simp [own_r])) hZ (hw _ (List.mem_of_getElem? (i := 28) rfl)) (hw _ (List.mem_of_getElem? (i := 6) rfl)) (by decide) (by decide)) q94a q94c (g := (mkF m 115 #[.val (.int p0), .val (.int p1), .val (.int p2), .val (.int p3), .val (.int p4), .val (.int pv), .val (.int (13 : Int32)), .val (.ref b1), .val (.int (0 : Int32)), .val (.int (1 : Int32)), .val (.int (((1 : Int32) + p0) + (1 : Int32))), .val (.int (1 : Int32)), .unset, .unset, .unset] [(.int (13 : Int32)), (.ref b1)])) rfl (by rw [hml]; rfl) (Steps.refl _) (argsL := [(.int (13 : Int32))]) (rest := []) (lenOf own_pd2 rfl) rfl (by show 2 * 0 + _ ≤ _; exact Nat.le_of_eq rfl) (hb hby at_115) (fun _ _ => ⟨rfl, e83, (by decide : 1 + 0 ≤ _), (by decide : 3 + 0 ≤ _)⟩)
            dsimp only [Pt.U, Pt.locs, Pt.cells, Pt.slots] at X94 l94 y94 z94 st94 hQ94
            subst l94 y94 z94
            obtain ⟨rfl, N94, Kc94, Ec94, m20_line, m20_column, m20_afterCarriageReturn⟩ := hQ94
            have NF94 := Fr.app NF83 N94
            refine Wp.step st94 ?_
            have c95 := c80.keep Kc94
            have K94' := K79'.trans Kc94 (allS (Or.inr sz_b1) all0)
            have zz96 : n0 ≤ T94.heap.size := Nat.le_trans zz81 Kc94.1
            show Wp p e below _ (T94.setTop (mkF m 118 #[.val (.int p0), .val (.int p1), .val (.int p2), .val (.int p3), .val (.int p4), .val (.int pv), .val (.int (13 : Int32)), .val (.ref b1), .val (.int (0 : Int32)), .val (.int (1 : Int32)), .val (.int (((1 : Int32) + p0) + (1 : Int32))), .val (.int (1 : Int32)), .unset, .unset, .unset] []))
            refine Wp.via (fun _ k => XS.iload X94.here hx rfl (hb hby at_118) rfl k) ?_
            show Wp p e below _ (T94.setTop (mkF m 120 #[.val (.int p0), .val (.int p1), .val (.int p2), .val (.int p3), .val (.int p4), .val (.int pv), .val (.int (13 : Int32)), .val (.ref b1), .val (.int (0 : Int32)), .val (.int (1 : Int32)), .val (.int (((1 : Int32) + p0) + (1 : Int32))), .val (.int (1 : Int32)), .unset, .unset, .unset] [(.int (13 : Int32))]))
            refine Wp.via (fun _ k => XS.bipush X94.here hx rfl (hb hby at_120) k) ?_
            show Wp p e below _ (T94.setTop (mkF m 122 #[.val (.int p0), .val (.int p1), .val (.int p2), .val (.int p3), .val (.int p4), .val (.int pv), .val (.int (13 : Int32)), .val (.ref b1), .val (.int (0 : Int32)), .val (.int (1 : Int32)), .val (.int (((1 : Int32) + p0) + (1 : Int32))), .val (.int (1 : Int32)), .unset, .unset, .unset] [(.int (10 : Int32)), (.int (13 : Int32))]))
            refine Wp.via (fun _ k => XS.icmpYes X94.here hx rfl (pc0 := 122) (pc' := 147) rfl (hb hby at_122) rfl (feq (by decide)).2 (by decide) (by decide) k) ?_
            show Wp p e below _ (T94.setTop (mkF m 147 #[.val (.int p0), .val (.int p1), .val (.int p2), .val (.int p3), .val (.int p4), .val (.int pv), .val (.int (13 : Int32)), .val (.ref b1), .val (.int (0 : Int32)), .val (.int (1 : Int32)), .val (.int (((1 : Int32) + p0) + (1 : Int32))), .val (.int (1 : Int32)), .unset, .unset, .unset] []))
            refine Wp.via (fun _ k => XS.iload X94.here hx rfl (hb hby at_147) rfl k) ?_
            show Wp p e below _ (T94.setTop (mkF m 149 #[.val (.int p0), .val (.int p1), .val (.int p2), .val (.int p3), .val (.int p4), .val (.int pv), .val (.int (13 : Int32)), .val (.ref b1), .val (.int (0 : Int32)), .val (.int (1 : Int32)), .val (.int (((1 : Int32) + p0) + (1 : Int32))), .val (.int (1 : Int32)), .unset, .unset, .unset] [(.int (13 : Int32))]))
            refine Wp.via (fun _ k => XS.bipush X94.here hx rfl (hb hby at_149) k) ?_
            show Wp p e below _ (T94.setTop (mkF m 151 #[.val (.int p0), .val (.int p1), .val (.int p2), .val (.int p3), .val (.int p4), .val (.int pv), .val (.int (13 : Int32)), .val (.ref b1), .val (.int (0 : Int32)), .val (.int (1 : Int32)), .val (.int (((1 : Int32) + p0) + (1 : Int32))), .val (.int (1 : Int32)), .unset, .unset, .unset] [(.int (13 : Int32)), (.int (13 : Int32))]))
            refine Wp.via (fun _ k => XS.icmpNo X94.here hx rfl (hb hby at_151) rfl (teq (by decide)).2 k) ?_
            show Wp p e below _ (T94.setTop (mkF m 154 #[.val (.int p0), .val (.int p1), .val (.int p2), .val (.int p3), .val (.int p4), .val (.int pv), .val (.int (13 : Int32)), .val (.ref b1), .val (.int (0 : Int32)), .val (.int (1 : Int32)), .val (.int (((1 : Int32) + p0) + (1 : Int32))), .val (.int (1 : Int32)), .unset, .unset, .unset] []))
            refine Wp.via (fun _ k => XS.iload X94.here hx rfl (hb hby at_154) rfl k) ?_
            show Wp p e below _ (T94.setTop (mkF m 156 #[.val (.int p0), .val (.int p1), .val (.int p2), .val (.int p3), .val (.int p4), .val (.int pv), .val (.int (13 : Int32)), .val (.ref b1), .val (.int (0 : Int32)), .val (.int (1 : Int32)), .val (.int (((1 : Int32) + p0) + (1 : Int32))), .val (.int (1 : Int32)), .unset, .unset, .unset] [(.int (1 : Int32))]))
            refine Wp.via (fun _ k => XS.iconst X94.here hx rfl (hb hby at_156) k) ?_
            show Wp p e below _ (T94.setTop (mkF m 157 #[.val (.int p0), .val (.int p1), .val (.int p2), .val (.int p3), .val (.int p4), .val (.int pv), .val (.int (13 : Int32)), .val (.ref b1), .val (.int (0 : Int32)), .val (.int (1 : Int32)), .val (.int (((1 : Int32) + p0) + (1 : Int32))), .val (.int (1 : Int32)), .unset, .unset, .unset] [(.int (1 : Int32)), (.int (1 : Int32))]))
            refine Wp.via (fun _ k => XS.iadd X94.here hx rfl (hb hby at_157) rfl k) ?_
            show Wp p e below _ (T94.setTop (mkF m 158 #[.val (.int p0), .val (.int p1), .val (.int p2), .val (.int p3), .val (.int p4), .val (.int pv), .val (.int (13 : Int32)), .val (.ref b1), .val (.int (0 : Int32)), .val (.int (1 : Int32)), .val (.int (((1 : Int32) + p0) + (1 : Int32))), .val (.int (1 : Int32)), .unset, .unset, .unset] [(.int ((1 : Int32) + (1 : Int32)))]))
            refine Wp.via (fun _ k => XS.istore X94.here hx rfl (hb hby at_158) rfl (l' := #[.val (.int p0), .val (.int p1), .val (.int p2), .val (.int p3), .val (.int p4), .val (.int pv), .val (.int (13 : Int32)), .val (.ref b1), .val (.int (0 : Int32)), .val (.int (1 : Int32)), .val (.int (((1 : Int32) + p0) + (1 : Int32))), .val (.int (1 : Int32)), .val (.int ((1 : Int32) + (1 : Int32))), .unset, .unset]) rfl k) ?_
            show Wp p e below _ (T94.setTop (mkF m 160 #[.val (.int p0), .val (.int p1), .val (.int p2), .val (.int p3), .val (.int p4), .val (.int pv), .val (.int (13 : Int32)), .val (.ref b1), .val (.int (0 : Int32)), .val (.int (1 : Int32)), .val (.int (((1 : Int32) + p0) + (1 : Int32))), .val (.int (1 : Int32)), .val (.int ((1 : Int32) + (1 : Int32))), .unset, .unset] []))
            refine Wp.via (fun _ k => XS.iconst X94.here hx rfl (hb hby at_160) k) ?_
            show Wp p e below _ (T94.setTop (mkF m 161 #[.val (.int p0), .val (.int p1), .val (.int p2), .val (.int p3), .val (.int p4), .val (.int pv), .val (.int (13 : Int32)), .val (.ref b1), .val (.int (0 : Int32)), .val (.int (1 : Int32)), .val (.int (((1 : Int32) + p0) + (1 : Int32))), .val (.int (1 : Int32)), .val (.int ((1 : Int32) + (1 : Int32))), .unset, .unset] [(.int (1 : Int32))]))
            refine Wp.via (fun _ k => XS.istore X94.here hx rfl (hb hby at_161) rfl (l' := #[.val (.int p0), .val (.int p1), .val (.int p2), .val (.int p3), .val (.int p4), .val (.int pv), .val (.int (13 : Int32)), .val (.ref b1), .val (.int (0 : Int32)), .val (.int (1 : Int32)), .val (.int (((1 : Int32) + p0) + (1 : Int32))), .val (.int (1 : Int32)), .val (.int ((1 : Int32) + (1 : Int32))), .val (.int (1 : Int32)), .unset]) rfl k) ?_
            show Wp p e below _ (T94.setTop (mkF m 163 #[.val (.int p0), .val (.int p1), .val (.int p2), .val (.int p3), .val (.int p4), .val (.int pv), .val (.int (13 : Int32)), .val (.ref b1), .val (.int (0 : Int32)), .val (.int (1 : Int32)), .val (.int (((1 : Int32) + p0) + (1 : Int32))), .val (.int (1 : Int32)), .val (.int ((1 : Int32) + (1 : Int32))), .val (.int (1 : Int32)), .unset] []))
            refine Wp.via (fun _ k => XS.goto X94.here hx rfl (pc0 := 163) (pc' := 176) rfl (hb hby at_163) (by decide) (by decide) k) ?_
            show Wp p e below _ (T94.setTop (mkF m 176 #[.val (.int p0), .val (.int p1), .val (.int p2), .val (.int p3), .val (.int p4), .val (.int pv), .val (.int (13 : Int32)), .val (.ref b1), .val (.int (0 : Int32)), .val (.int (1 : Int32)), .val (.int (((1 : Int32) + p0) + (1 : Int32))), .val (.int (1 : Int32)), .val (.int ((1 : Int32) + (1 : Int32))), .val (.int (1 : Int32)), .unset] []))
            refine Wp.via (fun _ k => XS.iload X94.here hx rfl (hb hby at_176) rfl k) ?_
            show Wp p e below _ (T94.setTop (mkF m 178 #[.val (.int p0), .val (.int p1), .val (.int p2), .val (.int p3), .val (.int p4), .val (.int pv), .val (.int (13 : Int32)), .val (.ref b1), .val (.int (0 : Int32)), .val (.int (1 : Int32)), .val (.int (((1 : Int32) + p0) + (1 : Int32))), .val (.int (1 : Int32)), .val (.int ((1 : Int32) + (1 : Int32))), .val (.int (1 : Int32)), .unset] [(.int (1 : Int32))]))
            refine Wp.via (fun _ k => XS.ifNo X94.here hx rfl (hb hby at_178) rfl ((if0 _ _).trans (feq (by decide)).1) k) ?_
            show Wp p e below _ (T94.setTop (mkF m 181 #[.val (.int p0), .val (.int p1), .val (.int p2), .val (.int p3), .val (.int p4), .val (.int pv), .val (.int (13 : Int32)), .val (.ref b1), .val (.int (0 : Int32)), .val (.int (1 : Int32)), .val (.int (((1 : Int32) + p0) + (1 : Int32))), .val (.int (1 : Int32)), .val (.int ((1 : Int32) + (1 : Int32))), .val (.int (1 : Int32)), .unset] []))
            refine Wp.via (fun _ k => XS.aload X94.here hx rfl (hb hby at_181) rfl rfl k) ?_
            show Wp p e below _ (T94.setTop (mkF m 183 #[.val (.int p0), .val (.int p1), .val (.int p2), .val (.int p3), .val (.int p4), .val (.int pv), .val (.int (13 : Int32)), .val (.ref b1), .val (.int (0 : Int32)), .val (.int (1 : Int32)), .val (.int (((1 : Int32) + p0) + (1 : Int32))), .val (.int (1 : Int32)), .val (.int ((1 : Int32) + (1 : Int32))), .val (.int (1 : Int32)), .unset] [(.ref b1)]))
            obtain ⟨cq97, kq97, q97a, q97b, q97c⟩ := isOf hZ rfl c95
            obtain ⟨_, _, ⟨T97, L97, k97, n97⟩, -, X97, ⟨Lc97, hQ97, l97, y97, z97⟩, st97⟩ := X94.virtualBack hx (y := (⟨"com/example/chyld/chyld/LineColumn", "line", "()I"⟩ : MethodName)) (z := (⟨"com/example/chyld/chyld/LineColumn", "line", "()I"⟩ : MethodName)) hown (mvT hZ (hw _ (List.mem_of_getElem? (i := 29) rfl))) (mvT hZ (hw _ (List.mem_of_getElem? (i := 30) rfl))) (notFace_of_selects (args := #[]) (mvT hZ (hw _ (List.mem_of_getElem? (i := 32) rfl)))) (mvT hZ (hw _ (List.mem_of_getElem? (i := 32) rfl))) (mvT hZ (hw _ (List.mem_of_getElem? (i := 31) rfl))) (by decide) (backOf (W := 0) (rm6 l Z aw hw [] b1 ((1 : Int32) + (1 : Int32)) T94.heap n0 zz96 m20_line) hZ (hw _ (List.mem_of_getElem? (i := 33) rfl)) (hw _ (List.mem_of_getElem? (i := 6) rfl)) (by decide) (by decide)) q97a q97c (g := (mkF m 183 #[.val (.int p0), .val (.int p1), .val (.int p2), .val (.int p3), .val (.int p4), .val (.int pv), .val (.int (13 : Int32)), .val (.ref b1), .val (.int (0 : Int32)), .val (.int (1 : Int32)), .val (.int (((1 : Int32) + p0) + (1 : Int32))), .val (.int (1 : Int32)), .val (.int ((1 : Int32) + (1 : Int32))), .val (.int (1 : Int32)), .unset] [(.ref b1)])) rfl (by rw [hml]; rfl) (Steps.refl _) (argsL := []) (rest := []) (lenOf own_pd3 rfl) rfl (by show 2 * 0 + _ ≤ _; exact Nat.le_of_eq rfl) (hb hby at_183) (fun _ _ => ⟨rfl, rfl, (by decide : 1 + 0 ≤ _), (by decide : 3 + 0 ≤ _)⟩)
            dsimp only [Pt.U, Pt.locs, Pt.cells, Pt.slots] at X97 l97 y97 z97 st97 hQ97
            subst l97 y97 z97
            obtain ⟨rfl, N97, e97⟩ := hQ97
            have NF97 := Fr.app NF94 N97
            refine Wp.step st97 ?_
            show Wp p e below _ (T97.setTop (mkF m 186 #[.val (.int p0), .val (.int p1), .val (.int p2), .val (.int p3), .val (.int p4), .val (.int pv), .val (.int (13 : Int32)), .val (.ref b1), .val (.int (0 : Int32)), .val (.int (1 : Int32)), .val (.int (((1 : Int32) + p0) + (1 : Int32))), .val (.int (1 : Int32)), .val (.int ((1 : Int32) + (1 : Int32))), .val (.int (1 : Int32)), .unset] [(.int ((1 : Int32) + (1 : Int32)))]))
            refine Wp.via (fun _ k => XS.iload X97.here hx rfl (hb hby at_186) rfl k) ?_
            show Wp p e below _ (T97.setTop (mkF m 188 #[.val (.int p0), .val (.int p1), .val (.int p2), .val (.int p3), .val (.int p4), .val (.int pv), .val (.int (13 : Int32)), .val (.ref b1), .val (.int (0 : Int32)), .val (.int (1 : Int32)), .val (.int (((1 : Int32) + p0) + (1 : Int32))), .val (.int (1 : Int32)), .val (.int ((1 : Int32) + (1 : Int32))), .val (.int (1 : Int32)), .unset] [(.int ((1 : Int32) + (1 : Int32))), (.int ((1 : Int32) + (1 : Int32)))]))
            refine Wp.via (fun _ k => XS.icmpNo X97.here hx rfl (hb hby at_188) rfl (teq rfl).2 k) ?_
            show Wp p e below _ (T97.setTop (mkF m 191 #[.val (.int p0), .val (.int p1), .val (.int p2), .val (.int p3), .val (.int p4), .val (.int pv), .val (.int (13 : Int32)), .val (.ref b1), .val (.int (0 : Int32)), .val (.int (1 : Int32)), .val (.int (((1 : Int32) + p0) + (1 : Int32))), .val (.int (1 : Int32)), .val (.int ((1 : Int32) + (1 : Int32))), .val (.int (1 : Int32)), .unset] []))
            refine Wp.via (fun _ k => XS.aload X97.here hx rfl (hb hby at_191) rfl rfl k) ?_
            show Wp p e below _ (T97.setTop (mkF m 193 #[.val (.int p0), .val (.int p1), .val (.int p2), .val (.int p3), .val (.int p4), .val (.int pv), .val (.int (13 : Int32)), .val (.ref b1), .val (.int (0 : Int32)), .val (.int (1 : Int32)), .val (.int (((1 : Int32) + p0) + (1 : Int32))), .val (.int (1 : Int32)), .val (.int ((1 : Int32) + (1 : Int32))), .val (.int (1 : Int32)), .unset] [(.ref b1)]))
            obtain ⟨cq98, kq98, q98a, q98b, q98c⟩ := isOf hZ e97 c95
            obtain ⟨_, _, ⟨T98, L98, k98, n98⟩, -, X98, ⟨Lc98, hQ98, l98, y98, z98⟩, st98⟩ := X97.virtualBack hx (y := (⟨"com/example/chyld/chyld/LineColumn", "column", "()I"⟩ : MethodName)) (z := (⟨"com/example/chyld/chyld/LineColumn", "column", "()I"⟩ : MethodName)) hown (mvT hZ (hw _ (List.mem_of_getElem? (i := 34) rfl))) (mvT hZ (hw _ (List.mem_of_getElem? (i := 35) rfl))) (notFace_of_selects (args := #[]) (mvT hZ (hw _ (List.mem_of_getElem? (i := 37) rfl)))) (mvT hZ (hw _ (List.mem_of_getElem? (i := 37) rfl))) (mvT hZ (hw _ (List.mem_of_getElem? (i := 36) rfl))) (by decide) (backOf (W := 0) (rm7 l Z aw hw [] b1 (1 : Int32) T94.heap n0 zz96 m20_column) hZ (hw _ (List.mem_of_getElem? (i := 38) rfl)) (hw _ (List.mem_of_getElem? (i := 6) rfl)) (by decide) (by decide)) q98a q98c (g := (mkF m 193 #[.val (.int p0), .val (.int p1), .val (.int p2), .val (.int p3), .val (.int p4), .val (.int pv), .val (.int (13 : Int32)), .val (.ref b1), .val (.int (0 : Int32)), .val (.int (1 : Int32)), .val (.int (((1 : Int32) + p0) + (1 : Int32))), .val (.int (1 : Int32)), .val (.int ((1 : Int32) + (1 : Int32))), .val (.int (1 : Int32)), .unset] [(.ref b1)])) rfl (by rw [hml]; rfl) (Steps.refl _) (argsL := []) (rest := []) (lenOf own_pd3 rfl) rfl (by show 2 * 0 + _ ≤ _; exact Nat.le_of_eq rfl) (hb hby at_193) (fun _ _ => ⟨rfl, e97, (by decide : 1 + 0 ≤ _), (by decide : 3 + 0 ≤ _)⟩)
            dsimp only [Pt.U, Pt.locs, Pt.cells, Pt.slots] at X98 l98 y98 z98 st98 hQ98
            subst l98 y98 z98
            obtain ⟨rfl, N98, e98⟩ := hQ98
            have NF98 := Fr.app NF97 N98
            refine Wp.step st98 ?_
            show Wp p e below _ (T98.setTop (mkF m 196 #[.val (.int p0), .val (.int p1), .val (.int p2), .val (.int p3), .val (.int p4), .val (.int pv), .val (.int (13 : Int32)), .val (.ref b1), .val (.int (0 : Int32)), .val (.int (1 : Int32)), .val (.int (((1 : Int32) + p0) + (1 : Int32))), .val (.int (1 : Int32)), .val (.int ((1 : Int32) + (1 : Int32))), .val (.int (1 : Int32)), .unset] [(.int (1 : Int32))]))
            refine Wp.via (fun _ k => XS.iload X98.here hx rfl (hb hby at_196) rfl k) ?_
            show Wp p e below _ (T98.setTop (mkF m 198 #[.val (.int p0), .val (.int p1), .val (.int p2), .val (.int p3), .val (.int p4), .val (.int pv), .val (.int (13 : Int32)), .val (.ref b1), .val (.int (0 : Int32)), .val (.int (1 : Int32)), .val (.int (((1 : Int32) + p0) + (1 : Int32))), .val (.int (1 : Int32)), .val (.int ((1 : Int32) + (1 : Int32))), .val (.int (1 : Int32)), .unset] [(.int (1 : Int32)), (.int (1 : Int32))]))
            refine Wp.via (fun _ k => XS.icmpNo X98.here hx rfl (hb hby at_198) rfl (teq (by decide)).2 k) ?_
            show Wp p e below _ (T98.setTop (mkF m 201 #[.val (.int p0), .val (.int p1), .val (.int p2), .val (.int p3), .val (.int p4), .val (.int pv), .val (.int (13 : Int32)), .val (.ref b1), .val (.int (0 : Int32)), .val (.int (1 : Int32)), .val (.int (((1 : Int32) + p0) + (1 : Int32))), .val (.int (1 : Int32)), .val (.int ((1 : Int32) + (1 : Int32))), .val (.int (1 : Int32)), .unset] []))
            refine Wp.via (fun _ k => XS.iconst X98.here hx rfl (hb hby at_201) k) ?_
            show Wp p e below _ (T98.setTop (mkF m 202 #[.val (.int p0), .val (.int p1), .val (.int p2), .val (.int p3), .val (.int p4), .val (.int pv), .val (.int (13 : Int32)), .val (.ref b1), .val (.int (0 : Int32)), .val (.int (1 : Int32)), .val (.int (((1 : Int32) + p0) + (1 : Int32))), .val (.int (1 : Int32)), .val (.int ((1 : Int32) + (1 : Int32))), .val (.int (1 : Int32)), .unset] [(.int (1 : Int32))]))
            refine Wp.via (fun _ k => XS.goto X98.here hx rfl (pc0 := 202) (pc' := 206) rfl (hb hby at_202) (by decide) (by decide) k) ?_
            show Wp p e below _ (T98.setTop (mkF m 206 #[.val (.int p0), .val (.int p1), .val (.int p2), .val (.int p3), .val (.int p4), .val (.int pv), .val (.int (13 : Int32)), .val (.ref b1), .val (.int (0 : Int32)), .val (.int (1 : Int32)), .val (.int (((1 : Int32) + p0) + (1 : Int32))), .val (.int (1 : Int32)), .val (.int ((1 : Int32) + (1 : Int32))), .val (.int (1 : Int32)), .unset] [(.int (1 : Int32))]))
            refine Wp.via (fun _ k => XS.istore X98.here hx rfl (hb hby at_206) rfl (l' := #[.val (.int p0), .val (.int p1), .val (.int p2), .val (.int p3), .val (.int p4), .val (.int pv), .val (.int (13 : Int32)), .val (.ref b1), .val (.int (0 : Int32)), .val (.int (1 : Int32)), .val (.int (((1 : Int32) + p0) + (1 : Int32))), .val (.int (1 : Int32)), .val (.int ((1 : Int32) + (1 : Int32))), .val (.int (1 : Int32)), .unset]) rfl k) ?_
            show Wp p e below _ (T98.setTop (mkF m 208 #[.val (.int p0), .val (.int p1), .val (.int p2), .val (.int p3), .val (.int p4), .val (.int pv), .val (.int (13 : Int32)), .val (.ref b1), .val (.int (0 : Int32)), .val (.int (1 : Int32)), .val (.int (((1 : Int32) + p0) + (1 : Int32))), .val (.int (1 : Int32)), .val (.int ((1 : Int32) + (1 : Int32))), .val (.int (1 : Int32)), .unset] []))
            refine Wp.via (fun _ k => XS.aload X98.here hx rfl (hb hby at_208) rfl rfl k) ?_
            show Wp p e below _ (T98.setTop (mkF m 210 #[.val (.int p0), .val (.int p1), .val (.int p2), .val (.int p3), .val (.int p4), .val (.int pv), .val (.int (13 : Int32)), .val (.ref b1), .val (.int (0 : Int32)), .val (.int (1 : Int32)), .val (.int (((1 : Int32) + p0) + (1 : Int32))), .val (.int (1 : Int32)), .val (.int ((1 : Int32) + (1 : Int32))), .val (.int (1 : Int32)), .unset] [(.ref b1)]))
            refine Wp.via (fun _ k => XS.bipush X98.here hx rfl (hb hby at_210) k) ?_
            show Wp p e below _ (T98.setTop (mkF m 212 #[.val (.int p0), .val (.int p1), .val (.int p2), .val (.int p3), .val (.int p4), .val (.int pv), .val (.int (13 : Int32)), .val (.ref b1), .val (.int (0 : Int32)), .val (.int (1 : Int32)), .val (.int (((1 : Int32) + p0) + (1 : Int32))), .val (.int (1 : Int32)), .val (.int ((1 : Int32) + (1 : Int32))), .val (.int (1 : Int32)), .unset] [(.int (10 : Int32)), (.ref b1)]))
            obtain ⟨cq99, kq99, q99a, q99b, q99c⟩ := isOf hZ e98 c95
            obtain ⟨_, _, ⟨T99, L99, k99, n99⟩, -, X99, ⟨Lc99, hQ99, l99, y99, z99⟩, st99⟩ := X98.virtualBack hx (y := (⟨"com/example/chyld/chyld/LineColumn", "character", "(I)V"⟩ : MethodName)) (z := (⟨"com/example/chyld/chyld/LineColumn", "character", "(I)V"⟩ : MethodName)) hown (mvT hZ (hw _ (List.mem_of_getElem? (i := 24) rfl))) (mvT hZ (hw _ (List.mem_of_getElem? (i := 25) rfl))) (notFace_of_selects (args := #[]) (mvT hZ (hw _ (List.mem_of_getElem? (i := 27) rfl)))) (mvT hZ (hw _ (List.mem_of_getElem? (i := 27) rfl))) (mvT hZ (hw _ (List.mem_of_getElem? (i := 26) rfl))) (by decide) (backOf (W := 0) (rm5 l Z aw hw [] b1 (10 : Int32) ((1 : Int32) + (1 : Int32)) (1 : Int32) (1 : Int32) ((1 : Int32) + (1 : Int32)) (1 : Int32) (0 : Int32) T94.heap n0 zz96 c95 gn_b1 m20_line m20_column m20_afterCarriageReturn (by simp [own_l]) (by simp [own_k]) (by simp [own_r])) hZ (hw _ (List.mem_of_getElem? (i := 28) rfl)) (hw _ (List.mem_of_getElem? (i := 6) rfl)) (by decide) (by decide)) q99a q99c (g := (mkF m 212 #[.val (.int p0), .val (.int p1), .val (.int p2), .val (.int p3), .val (.int p4), .val (.int pv), .val (.int (13 : Int32)), .val (.ref b1), .val (.int (0 : Int32)), .val (.int (1 : Int32)), .val (.int (((1 : Int32) + p0) + (1 : Int32))), .val (.int (1 : Int32)), .val (.int ((1 : Int32) + (1 : Int32))), .val (.int (1 : Int32)), .unset] [(.int (10 : Int32)), (.ref b1)])) rfl (by rw [hml]; rfl) (Steps.refl _) (argsL := [(.int (10 : Int32))]) (rest := []) (lenOf own_pd2 rfl) rfl (by show 2 * 0 + _ ≤ _; exact Nat.le_of_eq rfl) (hb hby at_212) (fun _ _ => ⟨rfl, e98, (by decide : 1 + 0 ≤ _), (by decide : 3 + 0 ≤ _)⟩)
            dsimp only [Pt.U, Pt.locs, Pt.cells, Pt.slots] at X99 l99 y99 z99 st99 hQ99
            subst l99 y99 z99
            obtain ⟨rfl, N99, Kc99, Ec99, m21_line, m21_column, m21_afterCarriageReturn⟩ := hQ99
            have NF99 := Fr.app NF98 N99
            refine Wp.step st99 ?_
            have c100 := c95.keep Kc99
            have K99' := K94'.trans Kc99 (allS (Or.inr sz_b1) all0)
            have zz101 : n0 ≤ T99.heap.size := Nat.le_trans zz96 Kc99.1
            show Wp p e below _ (T99.setTop (mkF m 215 #[.val (.int p0), .val (.int p1), .val (.int p2), .val (.int p3), .val (.int p4), .val (.int pv), .val (.int (13 : Int32)), .val (.ref b1), .val (.int (0 : Int32)), .val (.int (1 : Int32)), .val (.int (((1 : Int32) + p0) + (1 : Int32))), .val (.int (1 : Int32)), .val (.int ((1 : Int32) + (1 : Int32))), .val (.int (1 : Int32)), .unset] []))
            refine Wp.via (fun _ k => XS.iload X99.here hx rfl (hb hby at_215) rfl k) ?_
            show Wp p e below _ (T99.setTop (mkF m 217 #[.val (.int p0), .val (.int p1), .val (.int p2), .val (.int p3), .val (.int p4), .val (.int pv), .val (.int (13 : Int32)), .val (.ref b1), .val (.int (0 : Int32)), .val (.int (1 : Int32)), .val (.int (((1 : Int32) + p0) + (1 : Int32))), .val (.int (1 : Int32)), .val (.int ((1 : Int32) + (1 : Int32))), .val (.int (1 : Int32)), .unset] [(.int (13 : Int32))]))
            refine Wp.via (fun _ k => XS.bipush X99.here hx rfl (hb hby at_217) k) ?_
            show Wp p e below _ (T99.setTop (mkF m 219 #[.val (.int p0), .val (.int p1), .val (.int p2), .val (.int p3), .val (.int p4), .val (.int pv), .val (.int (13 : Int32)), .val (.ref b1), .val (.int (0 : Int32)), .val (.int (1 : Int32)), .val (.int (((1 : Int32) + p0) + (1 : Int32))), .val (.int (1 : Int32)), .val (.int ((1 : Int32) + (1 : Int32))), .val (.int (1 : Int32)), .unset] [(.int (13 : Int32)), (.int (13 : Int32))]))
            refine Wp.via (fun _ k => XS.icmpNo X99.here hx rfl (hb hby at_219) rfl (teq (by decide)).2 k) ?_
            show Wp p e below _ (T99.setTop (mkF m 222 #[.val (.int p0), .val (.int p1), .val (.int p2), .val (.int p3), .val (.int p4), .val (.int pv), .val (.int (13 : Int32)), .val (.ref b1), .val (.int (0 : Int32)), .val (.int (1 : Int32)), .val (.int (((1 : Int32) + p0) + (1 : Int32))), .val (.int (1 : Int32)), .val (.int ((1 : Int32) + (1 : Int32))), .val (.int (1 : Int32)), .unset] []))
            refine Wp.via (fun _ k => XS.iload X99.here hx rfl (hb hby at_222) rfl k) ?_
            show Wp p e below _ (T99.setTop (mkF m 224 #[.val (.int p0), .val (.int p1), .val (.int p2), .val (.int p3), .val (.int p4), .val (.int pv), .val (.int (13 : Int32)), .val (.ref b1), .val (.int (0 : Int32)), .val (.int (1 : Int32)), .val (.int (((1 : Int32) + p0) + (1 : Int32))), .val (.int (1 : Int32)), .val (.int ((1 : Int32) + (1 : Int32))), .val (.int (1 : Int32)), .unset] [(.int ((1 : Int32) + (1 : Int32)))]))
            refine Wp.via (fun _ k => XS.goto X99.here hx rfl (pc0 := 224) (pc' := 231) rfl (hb hby at_224) (by decide) (by decide) k) ?_
            show Wp p e below _ (T99.setTop (mkF m 231 #[.val (.int p0), .val (.int p1), .val (.int p2), .val (.int p3), .val (.int p4), .val (.int pv), .val (.int (13 : Int32)), .val (.ref b1), .val (.int (0 : Int32)), .val (.int (1 : Int32)), .val (.int (((1 : Int32) + p0) + (1 : Int32))), .val (.int (1 : Int32)), .val (.int ((1 : Int32) + (1 : Int32))), .val (.int (1 : Int32)), .unset] [(.int ((1 : Int32) + (1 : Int32)))]))
            refine Wp.via (fun _ k => XS.istore X99.here hx rfl (hb hby at_231) rfl (l' := #[.val (.int p0), .val (.int p1), .val (.int p2), .val (.int p3), .val (.int p4), .val (.int pv), .val (.int (13 : Int32)), .val (.ref b1), .val (.int (0 : Int32)), .val (.int (1 : Int32)), .val (.int (((1 : Int32) + p0) + (1 : Int32))), .val (.int (1 : Int32)), .val (.int ((1 : Int32) + (1 : Int32))), .val (.int (1 : Int32)), .val (.int ((1 : Int32) + (1 : Int32)))]) rfl k) ?_
            show Wp p e below _ (T99.setTop (mkF m 233 #[.val (.int p0), .val (.int p1), .val (.int p2), .val (.int p3), .val (.int p4), .val (.int pv), .val (.int (13 : Int32)), .val (.ref b1), .val (.int (0 : Int32)), .val (.int (1 : Int32)), .val (.int (((1 : Int32) + p0) + (1 : Int32))), .val (.int (1 : Int32)), .val (.int ((1 : Int32) + (1 : Int32))), .val (.int (1 : Int32)), .val (.int ((1 : Int32) + (1 : Int32)))] []))
            refine Wp.via (fun _ k => XS.iload X99.here hx rfl (hb hby at_233) rfl k) ?_
            show Wp p e below _ (T99.setTop (mkF m 235 #[.val (.int p0), .val (.int p1), .val (.int p2), .val (.int p3), .val (.int p4), .val (.int pv), .val (.int (13 : Int32)), .val (.ref b1), .val (.int (0 : Int32)), .val (.int (1 : Int32)), .val (.int (((1 : Int32) + p0) + (1 : Int32))), .val (.int (1 : Int32)), .val (.int ((1 : Int32) + (1 : Int32))), .val (.int (1 : Int32)), .val (.int ((1 : Int32) + (1 : Int32)))] [(.int (1 : Int32))]))
            refine Wp.via (fun _ k => XS.ifNo X99.here hx rfl (hb hby at_235) rfl ((if0 _ _).trans (feq (by decide)).1) k) ?_
            show Wp p e below _ (T99.setTop (mkF m 238 #[.val (.int p0), .val (.int p1), .val (.int p2), .val (.int p3), .val (.int p4), .val (.int pv), .val (.int (13 : Int32)), .val (.ref b1), .val (.int (0 : Int32)), .val (.int (1 : Int32)), .val (.int (((1 : Int32) + p0) + (1 : Int32))), .val (.int (1 : Int32)), .val (.int ((1 : Int32) + (1 : Int32))), .val (.int (1 : Int32)), .val (.int ((1 : Int32) + (1 : Int32)))] []))
            refine Wp.via (fun _ k => XS.aload X99.here hx rfl (hb hby at_238) rfl rfl k) ?_
            show Wp p e below _ (T99.setTop (mkF m 240 #[.val (.int p0), .val (.int p1), .val (.int p2), .val (.int p3), .val (.int p4), .val (.int pv), .val (.int (13 : Int32)), .val (.ref b1), .val (.int (0 : Int32)), .val (.int (1 : Int32)), .val (.int (((1 : Int32) + p0) + (1 : Int32))), .val (.int (1 : Int32)), .val (.int ((1 : Int32) + (1 : Int32))), .val (.int (1 : Int32)), .val (.int ((1 : Int32) + (1 : Int32)))] [(.ref b1)]))
            obtain ⟨cq102, kq102, q102a, q102b, q102c⟩ := isOf hZ rfl c100
            obtain ⟨_, _, ⟨T102, L102, k102, n102⟩, -, X102, ⟨Lc102, hQ102, l102, y102, z102⟩, st102⟩ := X99.virtualBack hx (y := (⟨"com/example/chyld/chyld/LineColumn", "line", "()I"⟩ : MethodName)) (z := (⟨"com/example/chyld/chyld/LineColumn", "line", "()I"⟩ : MethodName)) hown (mvT hZ (hw _ (List.mem_of_getElem? (i := 29) rfl))) (mvT hZ (hw _ (List.mem_of_getElem? (i := 30) rfl))) (notFace_of_selects (args := #[]) (mvT hZ (hw _ (List.mem_of_getElem? (i := 32) rfl)))) (mvT hZ (hw _ (List.mem_of_getElem? (i := 32) rfl))) (mvT hZ (hw _ (List.mem_of_getElem? (i := 31) rfl))) (by decide) (backOf (W := 0) (rm6 l Z aw hw [] b1 ((1 : Int32) + (1 : Int32)) T99.heap n0 zz101 m21_line) hZ (hw _ (List.mem_of_getElem? (i := 33) rfl)) (hw _ (List.mem_of_getElem? (i := 6) rfl)) (by decide) (by decide)) q102a q102c (g := (mkF m 240 #[.val (.int p0), .val (.int p1), .val (.int p2), .val (.int p3), .val (.int p4), .val (.int pv), .val (.int (13 : Int32)), .val (.ref b1), .val (.int (0 : Int32)), .val (.int (1 : Int32)), .val (.int (((1 : Int32) + p0) + (1 : Int32))), .val (.int (1 : Int32)), .val (.int ((1 : Int32) + (1 : Int32))), .val (.int (1 : Int32)), .val (.int ((1 : Int32) + (1 : Int32)))] [(.ref b1)])) rfl (by rw [hml]; rfl) (Steps.refl _) (argsL := []) (rest := []) (lenOf own_pd3 rfl) rfl (by show 2 * 0 + _ ≤ _; exact Nat.le_of_eq rfl) (hb hby at_240) (fun _ _ => ⟨rfl, rfl, (by decide : 1 + 0 ≤ _), (by decide : 3 + 0 ≤ _)⟩)
            dsimp only [Pt.U, Pt.locs, Pt.cells, Pt.slots] at X102 l102 y102 z102 st102 hQ102
            subst l102 y102 z102
            obtain ⟨rfl, N102, e102⟩ := hQ102
            have NF102 := Fr.app NF99 N102
            refine Wp.step st102 ?_
            show Wp p e below _ (T102.setTop (mkF m 243 #[.val (.int p0), .val (.int p1), .val (.int p2), .val (.int p3), .val (.int p4), .val (.int pv), .val (.int (13 : Int32)), .val (.ref b1), .val (.int (0 : Int32)), .val (.int (1 : Int32)), .val (.int (((1 : Int32) + p0) + (1 : Int32))), .val (.int (1 : Int32)), .val (.int ((1 : Int32) + (1 : Int32))), .val (.int (1 : Int32)), .val (.int ((1 : Int32) + (1 : Int32)))] [(.int ((1 : Int32) + (1 : Int32)))]))
            refine Wp.via (fun _ k => XS.iload X102.here hx rfl (hb hby at_243) rfl k) ?_
            show Wp p e below _ (T102.setTop (mkF m 245 #[.val (.int p0), .val (.int p1), .val (.int p2), .val (.int p3), .val (.int p4), .val (.int pv), .val (.int (13 : Int32)), .val (.ref b1), .val (.int (0 : Int32)), .val (.int (1 : Int32)), .val (.int (((1 : Int32) + p0) + (1 : Int32))), .val (.int (1 : Int32)), .val (.int ((1 : Int32) + (1 : Int32))), .val (.int (1 : Int32)), .val (.int ((1 : Int32) + (1 : Int32)))] [(.int ((1 : Int32) + (1 : Int32))), (.int ((1 : Int32) + (1 : Int32)))]))
            refine Wp.via (fun _ k => XS.icmpNo X102.here hx rfl (hb hby at_245) rfl (teq rfl).2 k) ?_
            show Wp p e below _ (T102.setTop (mkF m 248 #[.val (.int p0), .val (.int p1), .val (.int p2), .val (.int p3), .val (.int p4), .val (.int pv), .val (.int (13 : Int32)), .val (.ref b1), .val (.int (0 : Int32)), .val (.int (1 : Int32)), .val (.int (((1 : Int32) + p0) + (1 : Int32))), .val (.int (1 : Int32)), .val (.int ((1 : Int32) + (1 : Int32))), .val (.int (1 : Int32)), .val (.int ((1 : Int32) + (1 : Int32)))] []))
            refine Wp.via (fun _ k => XS.aload X102.here hx rfl (hb hby at_248) rfl rfl k) ?_
            show Wp p e below _ (T102.setTop (mkF m 250 #[.val (.int p0), .val (.int p1), .val (.int p2), .val (.int p3), .val (.int p4), .val (.int pv), .val (.int (13 : Int32)), .val (.ref b1), .val (.int (0 : Int32)), .val (.int (1 : Int32)), .val (.int (((1 : Int32) + p0) + (1 : Int32))), .val (.int (1 : Int32)), .val (.int ((1 : Int32) + (1 : Int32))), .val (.int (1 : Int32)), .val (.int ((1 : Int32) + (1 : Int32)))] [(.ref b1)]))
            obtain ⟨cq103, kq103, q103a, q103b, q103c⟩ := isOf hZ e102 c100
            obtain ⟨_, _, ⟨T103, L103, k103, n103⟩, -, X103, ⟨Lc103, hQ103, l103, y103, z103⟩, st103⟩ := X102.virtualBack hx (y := (⟨"com/example/chyld/chyld/LineColumn", "column", "()I"⟩ : MethodName)) (z := (⟨"com/example/chyld/chyld/LineColumn", "column", "()I"⟩ : MethodName)) hown (mvT hZ (hw _ (List.mem_of_getElem? (i := 34) rfl))) (mvT hZ (hw _ (List.mem_of_getElem? (i := 35) rfl))) (notFace_of_selects (args := #[]) (mvT hZ (hw _ (List.mem_of_getElem? (i := 37) rfl)))) (mvT hZ (hw _ (List.mem_of_getElem? (i := 37) rfl))) (mvT hZ (hw _ (List.mem_of_getElem? (i := 36) rfl))) (by decide) (backOf (W := 0) (rm7 l Z aw hw [] b1 (1 : Int32) T99.heap n0 zz101 m21_column) hZ (hw _ (List.mem_of_getElem? (i := 38) rfl)) (hw _ (List.mem_of_getElem? (i := 6) rfl)) (by decide) (by decide)) q103a q103c (g := (mkF m 250 #[.val (.int p0), .val (.int p1), .val (.int p2), .val (.int p3), .val (.int p4), .val (.int pv), .val (.int (13 : Int32)), .val (.ref b1), .val (.int (0 : Int32)), .val (.int (1 : Int32)), .val (.int (((1 : Int32) + p0) + (1 : Int32))), .val (.int (1 : Int32)), .val (.int ((1 : Int32) + (1 : Int32))), .val (.int (1 : Int32)), .val (.int ((1 : Int32) + (1 : Int32)))] [(.ref b1)])) rfl (by rw [hml]; rfl) (Steps.refl _) (argsL := []) (rest := []) (lenOf own_pd3 rfl) rfl (by show 2 * 0 + _ ≤ _; exact Nat.le_of_eq rfl) (hb hby at_250) (fun _ _ => ⟨rfl, e102, (by decide : 1 + 0 ≤ _), (by decide : 3 + 0 ≤ _)⟩)
            dsimp only [Pt.U, Pt.locs, Pt.cells, Pt.slots] at X103 l103 y103 z103 st103 hQ103
            subst l103 y103 z103
            obtain ⟨rfl, N103, e103⟩ := hQ103
            have NF103 := Fr.app NF102 N103
            refine Wp.step st103 ?_
            show Wp p e below _ (T103.setTop (mkF m 253 #[.val (.int p0), .val (.int p1), .val (.int p2), .val (.int p3), .val (.int p4), .val (.int pv), .val (.int (13 : Int32)), .val (.ref b1), .val (.int (0 : Int32)), .val (.int (1 : Int32)), .val (.int (((1 : Int32) + p0) + (1 : Int32))), .val (.int (1 : Int32)), .val (.int ((1 : Int32) + (1 : Int32))), .val (.int (1 : Int32)), .val (.int ((1 : Int32) + (1 : Int32)))] [(.int (1 : Int32))]))
            refine Wp.via (fun _ k => XS.iconst X103.here hx rfl (hb hby at_253) k) ?_
            show Wp p e below _ (T103.setTop (mkF m 254 #[.val (.int p0), .val (.int p1), .val (.int p2), .val (.int p3), .val (.int p4), .val (.int pv), .val (.int (13 : Int32)), .val (.ref b1), .val (.int (0 : Int32)), .val (.int (1 : Int32)), .val (.int (((1 : Int32) + p0) + (1 : Int32))), .val (.int (1 : Int32)), .val (.int ((1 : Int32) + (1 : Int32))), .val (.int (1 : Int32)), .val (.int ((1 : Int32) + (1 : Int32)))] [(.int (1 : Int32)), (.int (1 : Int32))]))
            refine Wp.via (fun _ k => XS.icmpNo X103.here hx rfl (hb hby at_254) rfl (teq (by decide)).2 k) ?_
            show Wp p e below _ (T103.setTop (mkF m 257 #[.val (.int p0), .val (.int p1), .val (.int p2), .val (.int p3), .val (.int p4), .val (.int pv), .val (.int (13 : Int32)), .val (.ref b1), .val (.int (0 : Int32)), .val (.int (1 : Int32)), .val (.int (((1 : Int32) + p0) + (1 : Int32))), .val (.int (1 : Int32)), .val (.int ((1 : Int32) + (1 : Int32))), .val (.int (1 : Int32)), .val (.int ((1 : Int32) + (1 : Int32)))] []))
            refine Wp.via (fun _ k => XS.iconst X103.here hx rfl (hb hby at_257) k) ?_
            show Wp p e below _ (T103.setTop (mkF m 258 #[.val (.int p0), .val (.int p1), .val (.int p2), .val (.int p3), .val (.int p4), .val (.int pv), .val (.int (13 : Int32)), .val (.ref b1), .val (.int (0 : Int32)), .val (.int (1 : Int32)), .val (.int (((1 : Int32) + p0) + (1 : Int32))), .val (.int (1 : Int32)), .val (.int ((1 : Int32) + (1 : Int32))), .val (.int (1 : Int32)), .val (.int ((1 : Int32) + (1 : Int32)))] [(.int (1 : Int32))]))
            refine Wp.via (fun _ k => XS.goto X103.here hx rfl (pc0 := 258) (pc' := 262) rfl (hb hby at_258) (by decide) (by decide) k) ?_
            show Wp p e below _ (T103.setTop (mkF m 262 #[.val (.int p0), .val (.int p1), .val (.int p2), .val (.int p3), .val (.int p4), .val (.int pv), .val (.int (13 : Int32)), .val (.ref b1), .val (.int (0 : Int32)), .val (.int (1 : Int32)), .val (.int (((1 : Int32) + p0) + (1 : Int32))), .val (.int (1 : Int32)), .val (.int ((1 : Int32) + (1 : Int32))), .val (.int (1 : Int32)), .val (.int ((1 : Int32) + (1 : Int32)))] [(.int (1 : Int32))]))
            refine Wp.via (fun _ k => XS.istore X103.here hx rfl (hb hby at_262) rfl (l' := #[.val (.int p0), .val (.int p1), .val (.int p2), .val (.int p3), .val (.int p4), .val (.int pv), .val (.int (13 : Int32)), .val (.ref b1), .val (.int (0 : Int32)), .val (.int (1 : Int32)), .val (.int (((1 : Int32) + p0) + (1 : Int32))), .val (.int (1 : Int32)), .val (.int ((1 : Int32) + (1 : Int32))), .val (.int (1 : Int32)), .val (.int ((1 : Int32) + (1 : Int32)))]) rfl k) ?_
            show Wp p e below _ (T103.setTop (mkF m 264 #[.val (.int p0), .val (.int p1), .val (.int p2), .val (.int p3), .val (.int p4), .val (.int pv), .val (.int (13 : Int32)), .val (.ref b1), .val (.int (0 : Int32)), .val (.int (1 : Int32)), .val (.int (((1 : Int32) + p0) + (1 : Int32))), .val (.int (1 : Int32)), .val (.int ((1 : Int32) + (1 : Int32))), .val (.int (1 : Int32)), .val (.int ((1 : Int32) + (1 : Int32)))] []))
            refine Wp.via (fun _ k => XS.iload X103.here hx rfl (hb hby at_264) rfl k) ?_
            show Wp p e below _ (T103.setTop (mkF m 266 #[.val (.int p0), .val (.int p1), .val (.int p2), .val (.int p3), .val (.int p4), .val (.int pv), .val (.int (13 : Int32)), .val (.ref b1), .val (.int (0 : Int32)), .val (.int (1 : Int32)), .val (.int (((1 : Int32) + p0) + (1 : Int32))), .val (.int (1 : Int32)), .val (.int ((1 : Int32) + (1 : Int32))), .val (.int (1 : Int32)), .val (.int ((1 : Int32) + (1 : Int32)))] [(.int (1 : Int32))]))
            exact Wp.retI X103 hlk hx hret (by simp) (by first | rfl | decide) (hb hby at_266) ⟨rfl, NF103⟩ (by decide) (by decide)
          ·
            obtain ⟨cq104, kq104, q104a, q104b, q104c⟩ := isOf hZ e83 c80
            obtain ⟨_, _, ⟨T104, L104, k104, n104⟩, -, X104, ⟨Lc104, hQ104, l104, y104, z104⟩, st104⟩ := X83.virtualBack hx (y := (⟨"com/example/chyld/chyld/LineColumn", "character", "(I)V"⟩ : MethodName)) (z := (⟨"com/example/chyld/chyld/LineColumn", "character", "(I)V"⟩ : MethodName)) hown (mvT hZ (hw _ (List.mem_of_getElem? (i := 24) rfl))) (mvT hZ (hw _ (List.mem_of_getElem? (i := 25) rfl))) (notFace_of_selects (args := #[]) (mvT hZ (hw _ (List.mem_of_getElem? (i := 27) rfl)))) (mvT hZ (hw _ (List.mem_of_getElem? (i := 27) rfl))) (mvT hZ (hw _ (List.mem_of_getElem? (i := 26) rfl))) (by decide) (backOf (W := 0) (rm5 l Z aw hw [] b1 xv (1 : Int32) (((1 : Int32) + p0) + (1 : Int32)) (0 : Int32) (1 : Int32) ((((1 : Int32) + p0) + (1 : Int32)) + (1 : Int32)) (0 : Int32) T79.heap n0 zz81 c80 gn_b1 m17_line m17_column m17_afterCarriageReturn (by simp [own_l, d1, d2]) (by simp [own_k, d1, d2]) (by simp [own_r, d1, d2])) hZ (hw _ (List.mem_of_getElem? (i := 28) rfl)) (hw _ (List.mem_of_getElem? (i := 6) rfl)) (by decide) (by decide)) q104a q104c (g := (mkF m 115 #[.val (.int p0), .val (.int p1), .val (.int p2), .val (.int p3), .val (.int p4), .val (.int pv), .val (.int xv), .val (.ref b1), .val (.int (0 : Int32)), .val (.int (1 : Int32)), .val (.int (((1 : Int32) + p0) + (1 : Int32))), .val (.int (1 : Int32)), .unset, .unset, .unset] [(.int xv), (.ref b1)])) rfl (by rw [hml]; rfl) (Steps.refl _) (argsL := [(.int xv)]) (rest := []) (lenOf own_pd2 rfl) rfl (by show 2 * 0 + _ ≤ _; exact Nat.le_of_eq rfl) (hb hby at_115) (fun _ _ => ⟨rfl, e83, (by decide : 1 + 0 ≤ _), (by decide : 3 + 0 ≤ _)⟩)
            dsimp only [Pt.U, Pt.locs, Pt.cells, Pt.slots] at X104 l104 y104 z104 st104 hQ104
            subst l104 y104 z104
            obtain ⟨rfl, N104, Kc104, Ec104, m22_line, m22_column, m22_afterCarriageReturn⟩ := hQ104
            have NF104 := Fr.app NF83 N104
            refine Wp.step st104 ?_
            have c105 := c80.keep Kc104
            have K104' := K79'.trans Kc104 (allS (Or.inr sz_b1) all0)
            have zz106 : n0 ≤ T104.heap.size := Nat.le_trans zz81 Kc104.1
            show Wp p e below _ (T104.setTop (mkF m 118 #[.val (.int p0), .val (.int p1), .val (.int p2), .val (.int p3), .val (.int p4), .val (.int pv), .val (.int xv), .val (.ref b1), .val (.int (0 : Int32)), .val (.int (1 : Int32)), .val (.int (((1 : Int32) + p0) + (1 : Int32))), .val (.int (1 : Int32)), .unset, .unset, .unset] []))
            refine Wp.via (fun _ k => XS.iload X104.here hx rfl (hb hby at_118) rfl k) ?_
            show Wp p e below _ (T104.setTop (mkF m 120 #[.val (.int p0), .val (.int p1), .val (.int p2), .val (.int p3), .val (.int p4), .val (.int pv), .val (.int xv), .val (.ref b1), .val (.int (0 : Int32)), .val (.int (1 : Int32)), .val (.int (((1 : Int32) + p0) + (1 : Int32))), .val (.int (1 : Int32)), .unset, .unset, .unset] [(.int xv)]))
            refine Wp.via (fun _ k => XS.bipush X104.here hx rfl (hb hby at_120) k) ?_
            show Wp p e below _ (T104.setTop (mkF m 122 #[.val (.int p0), .val (.int p1), .val (.int p2), .val (.int p3), .val (.int p4), .val (.int pv), .val (.int xv), .val (.ref b1), .val (.int (0 : Int32)), .val (.int (1 : Int32)), .val (.int (((1 : Int32) + p0) + (1 : Int32))), .val (.int (1 : Int32)), .unset, .unset, .unset] [(.int (10 : Int32)), (.int xv)]))
            refine Wp.via (fun _ k => XS.icmpYes X104.here hx rfl (pc0 := 122) (pc' := 147) rfl (hb hby at_122) rfl (feq d1).2 (by decide) (by decide) k) ?_
            show Wp p e below _ (T104.setTop (mkF m 147 #[.val (.int p0), .val (.int p1), .val (.int p2), .val (.int p3), .val (.int p4), .val (.int pv), .val (.int xv), .val (.ref b1), .val (.int (0 : Int32)), .val (.int (1 : Int32)), .val (.int (((1 : Int32) + p0) + (1 : Int32))), .val (.int (1 : Int32)), .unset, .unset, .unset] []))
            refine Wp.via (fun _ k => XS.iload X104.here hx rfl (hb hby at_147) rfl k) ?_
            show Wp p e below _ (T104.setTop (mkF m 149 #[.val (.int p0), .val (.int p1), .val (.int p2), .val (.int p3), .val (.int p4), .val (.int pv), .val (.int xv), .val (.ref b1), .val (.int (0 : Int32)), .val (.int (1 : Int32)), .val (.int (((1 : Int32) + p0) + (1 : Int32))), .val (.int (1 : Int32)), .unset, .unset, .unset] [(.int xv)]))
            refine Wp.via (fun _ k => XS.bipush X104.here hx rfl (hb hby at_149) k) ?_
            show Wp p e below _ (T104.setTop (mkF m 151 #[.val (.int p0), .val (.int p1), .val (.int p2), .val (.int p3), .val (.int p4), .val (.int pv), .val (.int xv), .val (.ref b1), .val (.int (0 : Int32)), .val (.int (1 : Int32)), .val (.int (((1 : Int32) + p0) + (1 : Int32))), .val (.int (1 : Int32)), .unset, .unset, .unset] [(.int (13 : Int32)), (.int xv)]))
            refine Wp.via (fun _ k => XS.icmpYes X104.here hx rfl (pc0 := 151) (pc' := 166) rfl (hb hby at_151) rfl (feq d2).2 (by decide) (by decide) k) ?_
            show Wp p e below _ (T104.setTop (mkF m 166 #[.val (.int p0), .val (.int p1), .val (.int p2), .val (.int p3), .val (.int p4), .val (.int pv), .val (.int xv), .val (.ref b1), .val (.int (0 : Int32)), .val (.int (1 : Int32)), .val (.int (((1 : Int32) + p0) + (1 : Int32))), .val (.int (1 : Int32)), .unset, .unset, .unset] []))
            refine Wp.via (fun _ k => XS.iload X104.here hx rfl (hb hby at_166) rfl k) ?_
            show Wp p e below _ (T104.setTop (mkF m 168 #[.val (.int p0), .val (.int p1), .val (.int p2), .val (.int p3), .val (.int p4), .val (.int pv), .val (.int xv), .val (.ref b1), .val (.int (0 : Int32)), .val (.int (1 : Int32)), .val (.int (((1 : Int32) + p0) + (1 : Int32))), .val (.int (1 : Int32)), .unset, .unset, .unset] [(.int (1 : Int32))]))
            refine Wp.via (fun _ k => XS.istore X104.here hx rfl (hb hby at_168) rfl (l' := #[.val (.int p0), .val (.int p1), .val (.int p2), .val (.int p3), .val (.int p4), .val (.int pv), .val (.int xv), .val (.ref b1), .val (.int (0 : Int32)), .val (.int (1 : Int32)), .val (.int (((1 : Int32) + p0) + (1 : Int32))), .val (.int (1 : Int32)), .val (.int (1 : Int32)), .unset, .unset]) rfl k) ?_
            show Wp p e below _ (T104.setTop (mkF m 170 #[.val (.int p0), .val (.int p1), .val (.int p2), .val (.int p3), .val (.int p4), .val (.int pv), .val (.int xv), .val (.ref b1), .val (.int (0 : Int32)), .val (.int (1 : Int32)), .val (.int (((1 : Int32) + p0) + (1 : Int32))), .val (.int (1 : Int32)), .val (.int (1 : Int32)), .unset, .unset] []))
            refine Wp.via (fun _ k => XS.iload X104.here hx rfl (hb hby at_170) rfl k) ?_
            show Wp p e below _ (T104.setTop (mkF m 172 #[.val (.int p0), .val (.int p1), .val (.int p2), .val (.int p3), .val (.int p4), .val (.int pv), .val (.int xv), .val (.ref b1), .val (.int (0 : Int32)), .val (.int (1 : Int32)), .val (.int (((1 : Int32) + p0) + (1 : Int32))), .val (.int (1 : Int32)), .val (.int (1 : Int32)), .unset, .unset] [(.int (((1 : Int32) + p0) + (1 : Int32)))]))
            refine Wp.via (fun _ k => XS.iconst X104.here hx rfl (hb hby at_172) k) ?_
            show Wp p e below _ (T104.setTop (mkF m 173 #[.val (.int p0), .val (.int p1), .val (.int p2), .val (.int p3), .val (.int p4), .val (.int pv), .val (.int xv), .val (.ref b1), .val (.int (0 : Int32)), .val (.int (1 : Int32)), .val (.int (((1 : Int32) + p0) + (1 : Int32))), .val (.int (1 : Int32)), .val (.int (1 : Int32)), .unset, .unset] [(.int (1 : Int32)), (.int (((1 : Int32) + p0) + (1 : Int32)))]))
            refine Wp.via (fun _ k => XS.iadd X104.here hx rfl (hb hby at_173) rfl k) ?_
            show Wp p e below _ (T104.setTop (mkF m 174 #[.val (.int p0), .val (.int p1), .val (.int p2), .val (.int p3), .val (.int p4), .val (.int pv), .val (.int xv), .val (.ref b1), .val (.int (0 : Int32)), .val (.int (1 : Int32)), .val (.int (((1 : Int32) + p0) + (1 : Int32))), .val (.int (1 : Int32)), .val (.int (1 : Int32)), .unset, .unset] [(.int ((((1 : Int32) + p0) + (1 : Int32)) + (1 : Int32)))]))
            refine Wp.via (fun _ k => XS.istore X104.here hx rfl (hb hby at_174) rfl (l' := #[.val (.int p0), .val (.int p1), .val (.int p2), .val (.int p3), .val (.int p4), .val (.int pv), .val (.int xv), .val (.ref b1), .val (.int (0 : Int32)), .val (.int (1 : Int32)), .val (.int (((1 : Int32) + p0) + (1 : Int32))), .val (.int (1 : Int32)), .val (.int (1 : Int32)), .val (.int ((((1 : Int32) + p0) + (1 : Int32)) + (1 : Int32))), .unset]) rfl k) ?_
            show Wp p e below _ (T104.setTop (mkF m 176 #[.val (.int p0), .val (.int p1), .val (.int p2), .val (.int p3), .val (.int p4), .val (.int pv), .val (.int xv), .val (.ref b1), .val (.int (0 : Int32)), .val (.int (1 : Int32)), .val (.int (((1 : Int32) + p0) + (1 : Int32))), .val (.int (1 : Int32)), .val (.int (1 : Int32)), .val (.int ((((1 : Int32) + p0) + (1 : Int32)) + (1 : Int32))), .unset] []))
            refine Wp.via (fun _ k => XS.iload X104.here hx rfl (hb hby at_176) rfl k) ?_
            show Wp p e below _ (T104.setTop (mkF m 178 #[.val (.int p0), .val (.int p1), .val (.int p2), .val (.int p3), .val (.int p4), .val (.int pv), .val (.int xv), .val (.ref b1), .val (.int (0 : Int32)), .val (.int (1 : Int32)), .val (.int (((1 : Int32) + p0) + (1 : Int32))), .val (.int (1 : Int32)), .val (.int (1 : Int32)), .val (.int ((((1 : Int32) + p0) + (1 : Int32)) + (1 : Int32))), .unset] [(.int (1 : Int32))]))
            refine Wp.via (fun _ k => XS.ifNo X104.here hx rfl (hb hby at_178) rfl ((if0 _ _).trans (feq (by decide)).1) k) ?_
            show Wp p e below _ (T104.setTop (mkF m 181 #[.val (.int p0), .val (.int p1), .val (.int p2), .val (.int p3), .val (.int p4), .val (.int pv), .val (.int xv), .val (.ref b1), .val (.int (0 : Int32)), .val (.int (1 : Int32)), .val (.int (((1 : Int32) + p0) + (1 : Int32))), .val (.int (1 : Int32)), .val (.int (1 : Int32)), .val (.int ((((1 : Int32) + p0) + (1 : Int32)) + (1 : Int32))), .unset] []))
            refine Wp.via (fun _ k => XS.aload X104.here hx rfl (hb hby at_181) rfl rfl k) ?_
            show Wp p e below _ (T104.setTop (mkF m 183 #[.val (.int p0), .val (.int p1), .val (.int p2), .val (.int p3), .val (.int p4), .val (.int pv), .val (.int xv), .val (.ref b1), .val (.int (0 : Int32)), .val (.int (1 : Int32)), .val (.int (((1 : Int32) + p0) + (1 : Int32))), .val (.int (1 : Int32)), .val (.int (1 : Int32)), .val (.int ((((1 : Int32) + p0) + (1 : Int32)) + (1 : Int32))), .unset] [(.ref b1)]))
            obtain ⟨cq107, kq107, q107a, q107b, q107c⟩ := isOf hZ rfl c105
            obtain ⟨_, _, ⟨T107, L107, k107, n107⟩, -, X107, ⟨Lc107, hQ107, l107, y107, z107⟩, st107⟩ := X104.virtualBack hx (y := (⟨"com/example/chyld/chyld/LineColumn", "line", "()I"⟩ : MethodName)) (z := (⟨"com/example/chyld/chyld/LineColumn", "line", "()I"⟩ : MethodName)) hown (mvT hZ (hw _ (List.mem_of_getElem? (i := 29) rfl))) (mvT hZ (hw _ (List.mem_of_getElem? (i := 30) rfl))) (notFace_of_selects (args := #[]) (mvT hZ (hw _ (List.mem_of_getElem? (i := 32) rfl)))) (mvT hZ (hw _ (List.mem_of_getElem? (i := 32) rfl))) (mvT hZ (hw _ (List.mem_of_getElem? (i := 31) rfl))) (by decide) (backOf (W := 0) (rm6 l Z aw hw [] b1 (1 : Int32) T104.heap n0 zz106 m22_line) hZ (hw _ (List.mem_of_getElem? (i := 33) rfl)) (hw _ (List.mem_of_getElem? (i := 6) rfl)) (by decide) (by decide)) q107a q107c (g := (mkF m 183 #[.val (.int p0), .val (.int p1), .val (.int p2), .val (.int p3), .val (.int p4), .val (.int pv), .val (.int xv), .val (.ref b1), .val (.int (0 : Int32)), .val (.int (1 : Int32)), .val (.int (((1 : Int32) + p0) + (1 : Int32))), .val (.int (1 : Int32)), .val (.int (1 : Int32)), .val (.int ((((1 : Int32) + p0) + (1 : Int32)) + (1 : Int32))), .unset] [(.ref b1)])) rfl (by rw [hml]; rfl) (Steps.refl _) (argsL := []) (rest := []) (lenOf own_pd3 rfl) rfl (by show 2 * 0 + _ ≤ _; exact Nat.le_of_eq rfl) (hb hby at_183) (fun _ _ => ⟨rfl, rfl, (by decide : 1 + 0 ≤ _), (by decide : 3 + 0 ≤ _)⟩)
            dsimp only [Pt.U, Pt.locs, Pt.cells, Pt.slots] at X107 l107 y107 z107 st107 hQ107
            subst l107 y107 z107
            obtain ⟨rfl, N107, e107⟩ := hQ107
            have NF107 := Fr.app NF104 N107
            refine Wp.step st107 ?_
            show Wp p e below _ (T107.setTop (mkF m 186 #[.val (.int p0), .val (.int p1), .val (.int p2), .val (.int p3), .val (.int p4), .val (.int pv), .val (.int xv), .val (.ref b1), .val (.int (0 : Int32)), .val (.int (1 : Int32)), .val (.int (((1 : Int32) + p0) + (1 : Int32))), .val (.int (1 : Int32)), .val (.int (1 : Int32)), .val (.int ((((1 : Int32) + p0) + (1 : Int32)) + (1 : Int32))), .unset] [(.int (1 : Int32))]))
            refine Wp.via (fun _ k => XS.iload X107.here hx rfl (hb hby at_186) rfl k) ?_
            show Wp p e below _ (T107.setTop (mkF m 188 #[.val (.int p0), .val (.int p1), .val (.int p2), .val (.int p3), .val (.int p4), .val (.int pv), .val (.int xv), .val (.ref b1), .val (.int (0 : Int32)), .val (.int (1 : Int32)), .val (.int (((1 : Int32) + p0) + (1 : Int32))), .val (.int (1 : Int32)), .val (.int (1 : Int32)), .val (.int ((((1 : Int32) + p0) + (1 : Int32)) + (1 : Int32))), .unset] [(.int (1 : Int32)), (.int (1 : Int32))]))
            refine Wp.via (fun _ k => XS.icmpNo X107.here hx rfl (hb hby at_188) rfl (teq (by decide)).2 k) ?_
            show Wp p e below _ (T107.setTop (mkF m 191 #[.val (.int p0), .val (.int p1), .val (.int p2), .val (.int p3), .val (.int p4), .val (.int pv), .val (.int xv), .val (.ref b1), .val (.int (0 : Int32)), .val (.int (1 : Int32)), .val (.int (((1 : Int32) + p0) + (1 : Int32))), .val (.int (1 : Int32)), .val (.int (1 : Int32)), .val (.int ((((1 : Int32) + p0) + (1 : Int32)) + (1 : Int32))), .unset] []))
            refine Wp.via (fun _ k => XS.aload X107.here hx rfl (hb hby at_191) rfl rfl k) ?_
            show Wp p e below _ (T107.setTop (mkF m 193 #[.val (.int p0), .val (.int p1), .val (.int p2), .val (.int p3), .val (.int p4), .val (.int pv), .val (.int xv), .val (.ref b1), .val (.int (0 : Int32)), .val (.int (1 : Int32)), .val (.int (((1 : Int32) + p0) + (1 : Int32))), .val (.int (1 : Int32)), .val (.int (1 : Int32)), .val (.int ((((1 : Int32) + p0) + (1 : Int32)) + (1 : Int32))), .unset] [(.ref b1)]))
            obtain ⟨cq108, kq108, q108a, q108b, q108c⟩ := isOf hZ e107 c105
            obtain ⟨_, _, ⟨T108, L108, k108, n108⟩, -, X108, ⟨Lc108, hQ108, l108, y108, z108⟩, st108⟩ := X107.virtualBack hx (y := (⟨"com/example/chyld/chyld/LineColumn", "column", "()I"⟩ : MethodName)) (z := (⟨"com/example/chyld/chyld/LineColumn", "column", "()I"⟩ : MethodName)) hown (mvT hZ (hw _ (List.mem_of_getElem? (i := 34) rfl))) (mvT hZ (hw _ (List.mem_of_getElem? (i := 35) rfl))) (notFace_of_selects (args := #[]) (mvT hZ (hw _ (List.mem_of_getElem? (i := 37) rfl)))) (mvT hZ (hw _ (List.mem_of_getElem? (i := 37) rfl))) (mvT hZ (hw _ (List.mem_of_getElem? (i := 36) rfl))) (by decide) (backOf (W := 0) (rm7 l Z aw hw [] b1 ((((1 : Int32) + p0) + (1 : Int32)) + (1 : Int32)) T104.heap n0 zz106 m22_column) hZ (hw _ (List.mem_of_getElem? (i := 38) rfl)) (hw _ (List.mem_of_getElem? (i := 6) rfl)) (by decide) (by decide)) q108a q108c (g := (mkF m 193 #[.val (.int p0), .val (.int p1), .val (.int p2), .val (.int p3), .val (.int p4), .val (.int pv), .val (.int xv), .val (.ref b1), .val (.int (0 : Int32)), .val (.int (1 : Int32)), .val (.int (((1 : Int32) + p0) + (1 : Int32))), .val (.int (1 : Int32)), .val (.int (1 : Int32)), .val (.int ((((1 : Int32) + p0) + (1 : Int32)) + (1 : Int32))), .unset] [(.ref b1)])) rfl (by rw [hml]; rfl) (Steps.refl _) (argsL := []) (rest := []) (lenOf own_pd3 rfl) rfl (by show 2 * 0 + _ ≤ _; exact Nat.le_of_eq rfl) (hb hby at_193) (fun _ _ => ⟨rfl, e107, (by decide : 1 + 0 ≤ _), (by decide : 3 + 0 ≤ _)⟩)
            dsimp only [Pt.U, Pt.locs, Pt.cells, Pt.slots] at X108 l108 y108 z108 st108 hQ108
            subst l108 y108 z108
            obtain ⟨rfl, N108, e108⟩ := hQ108
            have NF108 := Fr.app NF107 N108
            refine Wp.step st108 ?_
            show Wp p e below _ (T108.setTop (mkF m 196 #[.val (.int p0), .val (.int p1), .val (.int p2), .val (.int p3), .val (.int p4), .val (.int pv), .val (.int xv), .val (.ref b1), .val (.int (0 : Int32)), .val (.int (1 : Int32)), .val (.int (((1 : Int32) + p0) + (1 : Int32))), .val (.int (1 : Int32)), .val (.int (1 : Int32)), .val (.int ((((1 : Int32) + p0) + (1 : Int32)) + (1 : Int32))), .unset] [(.int ((((1 : Int32) + p0) + (1 : Int32)) + (1 : Int32)))]))
            refine Wp.via (fun _ k => XS.iload X108.here hx rfl (hb hby at_196) rfl k) ?_
            show Wp p e below _ (T108.setTop (mkF m 198 #[.val (.int p0), .val (.int p1), .val (.int p2), .val (.int p3), .val (.int p4), .val (.int pv), .val (.int xv), .val (.ref b1), .val (.int (0 : Int32)), .val (.int (1 : Int32)), .val (.int (((1 : Int32) + p0) + (1 : Int32))), .val (.int (1 : Int32)), .val (.int (1 : Int32)), .val (.int ((((1 : Int32) + p0) + (1 : Int32)) + (1 : Int32))), .unset] [(.int ((((1 : Int32) + p0) + (1 : Int32)) + (1 : Int32))), (.int ((((1 : Int32) + p0) + (1 : Int32)) + (1 : Int32)))]))
            refine Wp.via (fun _ k => XS.icmpNo X108.here hx rfl (hb hby at_198) rfl (teq rfl).2 k) ?_
            show Wp p e below _ (T108.setTop (mkF m 201 #[.val (.int p0), .val (.int p1), .val (.int p2), .val (.int p3), .val (.int p4), .val (.int pv), .val (.int xv), .val (.ref b1), .val (.int (0 : Int32)), .val (.int (1 : Int32)), .val (.int (((1 : Int32) + p0) + (1 : Int32))), .val (.int (1 : Int32)), .val (.int (1 : Int32)), .val (.int ((((1 : Int32) + p0) + (1 : Int32)) + (1 : Int32))), .unset] []))
            refine Wp.via (fun _ k => XS.iconst X108.here hx rfl (hb hby at_201) k) ?_
            show Wp p e below _ (T108.setTop (mkF m 202 #[.val (.int p0), .val (.int p1), .val (.int p2), .val (.int p3), .val (.int p4), .val (.int pv), .val (.int xv), .val (.ref b1), .val (.int (0 : Int32)), .val (.int (1 : Int32)), .val (.int (((1 : Int32) + p0) + (1 : Int32))), .val (.int (1 : Int32)), .val (.int (1 : Int32)), .val (.int ((((1 : Int32) + p0) + (1 : Int32)) + (1 : Int32))), .unset] [(.int (1 : Int32))]))
            refine Wp.via (fun _ k => XS.goto X108.here hx rfl (pc0 := 202) (pc' := 206) rfl (hb hby at_202) (by decide) (by decide) k) ?_
            show Wp p e below _ (T108.setTop (mkF m 206 #[.val (.int p0), .val (.int p1), .val (.int p2), .val (.int p3), .val (.int p4), .val (.int pv), .val (.int xv), .val (.ref b1), .val (.int (0 : Int32)), .val (.int (1 : Int32)), .val (.int (((1 : Int32) + p0) + (1 : Int32))), .val (.int (1 : Int32)), .val (.int (1 : Int32)), .val (.int ((((1 : Int32) + p0) + (1 : Int32)) + (1 : Int32))), .unset] [(.int (1 : Int32))]))
            refine Wp.via (fun _ k => XS.istore X108.here hx rfl (hb hby at_206) rfl (l' := #[.val (.int p0), .val (.int p1), .val (.int p2), .val (.int p3), .val (.int p4), .val (.int pv), .val (.int xv), .val (.ref b1), .val (.int (0 : Int32)), .val (.int (1 : Int32)), .val (.int (((1 : Int32) + p0) + (1 : Int32))), .val (.int (1 : Int32)), .val (.int (1 : Int32)), .val (.int ((((1 : Int32) + p0) + (1 : Int32)) + (1 : Int32))), .unset]) rfl k) ?_
            show Wp p e below _ (T108.setTop (mkF m 208 #[.val (.int p0), .val (.int p1), .val (.int p2), .val (.int p3), .val (.int p4), .val (.int pv), .val (.int xv), .val (.ref b1), .val (.int (0 : Int32)), .val (.int (1 : Int32)), .val (.int (((1 : Int32) + p0) + (1 : Int32))), .val (.int (1 : Int32)), .val (.int (1 : Int32)), .val (.int ((((1 : Int32) + p0) + (1 : Int32)) + (1 : Int32))), .unset] []))
            refine Wp.via (fun _ k => XS.aload X108.here hx rfl (hb hby at_208) rfl rfl k) ?_
            show Wp p e below _ (T108.setTop (mkF m 210 #[.val (.int p0), .val (.int p1), .val (.int p2), .val (.int p3), .val (.int p4), .val (.int pv), .val (.int xv), .val (.ref b1), .val (.int (0 : Int32)), .val (.int (1 : Int32)), .val (.int (((1 : Int32) + p0) + (1 : Int32))), .val (.int (1 : Int32)), .val (.int (1 : Int32)), .val (.int ((((1 : Int32) + p0) + (1 : Int32)) + (1 : Int32))), .unset] [(.ref b1)]))
            refine Wp.via (fun _ k => XS.bipush X108.here hx rfl (hb hby at_210) k) ?_
            show Wp p e below _ (T108.setTop (mkF m 212 #[.val (.int p0), .val (.int p1), .val (.int p2), .val (.int p3), .val (.int p4), .val (.int pv), .val (.int xv), .val (.ref b1), .val (.int (0 : Int32)), .val (.int (1 : Int32)), .val (.int (((1 : Int32) + p0) + (1 : Int32))), .val (.int (1 : Int32)), .val (.int (1 : Int32)), .val (.int ((((1 : Int32) + p0) + (1 : Int32)) + (1 : Int32))), .unset] [(.int (10 : Int32)), (.ref b1)]))
            obtain ⟨cq109, kq109, q109a, q109b, q109c⟩ := isOf hZ e108 c105
            obtain ⟨_, _, ⟨T109, L109, k109, n109⟩, -, X109, ⟨Lc109, hQ109, l109, y109, z109⟩, st109⟩ := X108.virtualBack hx (y := (⟨"com/example/chyld/chyld/LineColumn", "character", "(I)V"⟩ : MethodName)) (z := (⟨"com/example/chyld/chyld/LineColumn", "character", "(I)V"⟩ : MethodName)) hown (mvT hZ (hw _ (List.mem_of_getElem? (i := 24) rfl))) (mvT hZ (hw _ (List.mem_of_getElem? (i := 25) rfl))) (notFace_of_selects (args := #[]) (mvT hZ (hw _ (List.mem_of_getElem? (i := 27) rfl)))) (mvT hZ (hw _ (List.mem_of_getElem? (i := 27) rfl))) (mvT hZ (hw _ (List.mem_of_getElem? (i := 26) rfl))) (by decide) (backOf (W := 0) (rm5 l Z aw hw [] b1 (10 : Int32) (1 : Int32) ((((1 : Int32) + p0) + (1 : Int32)) + (1 : Int32)) (0 : Int32) ((1 : Int32) + (1 : Int32)) (1 : Int32) (0 : Int32) T104.heap n0 zz106 c105 gn_b1 m22_line m22_column m22_afterCarriageReturn (by simp [own_l]) (by simp [own_k]) (by simp [own_r])) hZ (hw _ (List.mem_of_getElem? (i := 28) rfl)) (hw _ (List.mem_of_getElem? (i := 6) rfl)) (by decide) (by decide)) q109a q109c (g := (mkF m 212 #[.val (.int p0), .val (.int p1), .val (.int p2), .val (.int p3), .val (.int p4), .val (.int pv), .val (.int xv), .val (.ref b1), .val (.int (0 : Int32)), .val (.int (1 : Int32)), .val (.int (((1 : Int32) + p0) + (1 : Int32))), .val (.int (1 : Int32)), .val (.int (1 : Int32)), .val (.int ((((1 : Int32) + p0) + (1 : Int32)) + (1 : Int32))), .unset] [(.int (10 : Int32)), (.ref b1)])) rfl (by rw [hml]; rfl) (Steps.refl _) (argsL := [(.int (10 : Int32))]) (rest := []) (lenOf own_pd2 rfl) rfl (by show 2 * 0 + _ ≤ _; exact Nat.le_of_eq rfl) (hb hby at_212) (fun _ _ => ⟨rfl, e108, (by decide : 1 + 0 ≤ _), (by decide : 3 + 0 ≤ _)⟩)
            dsimp only [Pt.U, Pt.locs, Pt.cells, Pt.slots] at X109 l109 y109 z109 st109 hQ109
            subst l109 y109 z109
            obtain ⟨rfl, N109, Kc109, Ec109, m23_line, m23_column, m23_afterCarriageReturn⟩ := hQ109
            have NF109 := Fr.app NF108 N109
            refine Wp.step st109 ?_
            have c110 := c105.keep Kc109
            have K109' := K104'.trans Kc109 (allS (Or.inr sz_b1) all0)
            have zz111 : n0 ≤ T109.heap.size := Nat.le_trans zz106 Kc109.1
            show Wp p e below _ (T109.setTop (mkF m 215 #[.val (.int p0), .val (.int p1), .val (.int p2), .val (.int p3), .val (.int p4), .val (.int pv), .val (.int xv), .val (.ref b1), .val (.int (0 : Int32)), .val (.int (1 : Int32)), .val (.int (((1 : Int32) + p0) + (1 : Int32))), .val (.int (1 : Int32)), .val (.int (1 : Int32)), .val (.int ((((1 : Int32) + p0) + (1 : Int32)) + (1 : Int32))), .unset] []))
            refine Wp.via (fun _ k => XS.iload X109.here hx rfl (hb hby at_215) rfl k) ?_
            show Wp p e below _ (T109.setTop (mkF m 217 #[.val (.int p0), .val (.int p1), .val (.int p2), .val (.int p3), .val (.int p4), .val (.int pv), .val (.int xv), .val (.ref b1), .val (.int (0 : Int32)), .val (.int (1 : Int32)), .val (.int (((1 : Int32) + p0) + (1 : Int32))), .val (.int (1 : Int32)), .val (.int (1 : Int32)), .val (.int ((((1 : Int32) + p0) + (1 : Int32)) + (1 : Int32))), .unset] [(.int xv)]))
            refine Wp.via (fun _ k => XS.bipush X109.here hx rfl (hb hby at_217) k) ?_
            show Wp p e below _ (T109.setTop (mkF m 219 #[.val (.int p0), .val (.int p1), .val (.int p2), .val (.int p3), .val (.int p4), .val (.int pv), .val (.int xv), .val (.ref b1), .val (.int (0 : Int32)), .val (.int (1 : Int32)), .val (.int (((1 : Int32) + p0) + (1 : Int32))), .val (.int (1 : Int32)), .val (.int (1 : Int32)), .val (.int ((((1 : Int32) + p0) + (1 : Int32)) + (1 : Int32))), .unset] [(.int (13 : Int32)), (.int xv)]))
            refine Wp.via (fun _ k => XS.icmpYes X109.here hx rfl (pc0 := 219) (pc' := 227) rfl (hb hby at_219) rfl (feq d2).2 (by decide) (by decide) k) ?_
            show Wp p e below _ (T109.setTop (mkF m 227 #[.val (.int p0), .val (.int p1), .val (.int p2), .val (.int p3), .val (.int p4), .val (.int pv), .val (.int xv), .val (.ref b1), .val (.int (0 : Int32)), .val (.int (1 : Int32)), .val (.int (((1 : Int32) + p0) + (1 : Int32))), .val (.int (1 : Int32)), .val (.int (1 : Int32)), .val (.int ((((1 : Int32) + p0) + (1 : Int32)) + (1 : Int32))), .unset] []))
            refine Wp.via (fun _ k => XS.iload X109.here hx rfl (hb hby at_227) rfl k) ?_
            show Wp p e below _ (T109.setTop (mkF m 229 #[.val (.int p0), .val (.int p1), .val (.int p2), .val (.int p3), .val (.int p4), .val (.int pv), .val (.int xv), .val (.ref b1), .val (.int (0 : Int32)), .val (.int (1 : Int32)), .val (.int (((1 : Int32) + p0) + (1 : Int32))), .val (.int (1 : Int32)), .val (.int (1 : Int32)), .val (.int ((((1 : Int32) + p0) + (1 : Int32)) + (1 : Int32))), .unset] [(.int (1 : Int32))]))
            refine Wp.via (fun _ k => XS.iconst X109.here hx rfl (hb hby at_229) k) ?_
            show Wp p e below _ (T109.setTop (mkF m 230 #[.val (.int p0), .val (.int p1), .val (.int p2), .val (.int p3), .val (.int p4), .val (.int pv), .val (.int xv), .val (.ref b1), .val (.int (0 : Int32)), .val (.int (1 : Int32)), .val (.int (((1 : Int32) + p0) + (1 : Int32))), .val (.int (1 : Int32)), .val (.int (1 : Int32)), .val (.int ((((1 : Int32) + p0) + (1 : Int32)) + (1 : Int32))), .unset] [(.int (1 : Int32)), (.int (1 : Int32))]))
            refine Wp.via (fun _ k => XS.iadd X109.here hx rfl (hb hby at_230) rfl k) ?_
            show Wp p e below _ (T109.setTop (mkF m 231 #[.val (.int p0), .val (.int p1), .val (.int p2), .val (.int p3), .val (.int p4), .val (.int pv), .val (.int xv), .val (.ref b1), .val (.int (0 : Int32)), .val (.int (1 : Int32)), .val (.int (((1 : Int32) + p0) + (1 : Int32))), .val (.int (1 : Int32)), .val (.int (1 : Int32)), .val (.int ((((1 : Int32) + p0) + (1 : Int32)) + (1 : Int32))), .unset] [(.int ((1 : Int32) + (1 : Int32)))]))
            refine Wp.via (fun _ k => XS.istore X109.here hx rfl (hb hby at_231) rfl (l' := #[.val (.int p0), .val (.int p1), .val (.int p2), .val (.int p3), .val (.int p4), .val (.int pv), .val (.int xv), .val (.ref b1), .val (.int (0 : Int32)), .val (.int (1 : Int32)), .val (.int (((1 : Int32) + p0) + (1 : Int32))), .val (.int (1 : Int32)), .val (.int (1 : Int32)), .val (.int ((((1 : Int32) + p0) + (1 : Int32)) + (1 : Int32))), .val (.int ((1 : Int32) + (1 : Int32)))]) rfl k) ?_
            show Wp p e below _ (T109.setTop (mkF m 233 #[.val (.int p0), .val (.int p1), .val (.int p2), .val (.int p3), .val (.int p4), .val (.int pv), .val (.int xv), .val (.ref b1), .val (.int (0 : Int32)), .val (.int (1 : Int32)), .val (.int (((1 : Int32) + p0) + (1 : Int32))), .val (.int (1 : Int32)), .val (.int (1 : Int32)), .val (.int ((((1 : Int32) + p0) + (1 : Int32)) + (1 : Int32))), .val (.int ((1 : Int32) + (1 : Int32)))] []))
            refine Wp.via (fun _ k => XS.iload X109.here hx rfl (hb hby at_233) rfl k) ?_
            show Wp p e below _ (T109.setTop (mkF m 235 #[.val (.int p0), .val (.int p1), .val (.int p2), .val (.int p3), .val (.int p4), .val (.int pv), .val (.int xv), .val (.ref b1), .val (.int (0 : Int32)), .val (.int (1 : Int32)), .val (.int (((1 : Int32) + p0) + (1 : Int32))), .val (.int (1 : Int32)), .val (.int (1 : Int32)), .val (.int ((((1 : Int32) + p0) + (1 : Int32)) + (1 : Int32))), .val (.int ((1 : Int32) + (1 : Int32)))] [(.int (1 : Int32))]))
            refine Wp.via (fun _ k => XS.ifNo X109.here hx rfl (hb hby at_235) rfl ((if0 _ _).trans (feq (by decide)).1) k) ?_
            show Wp p e below _ (T109.setTop (mkF m 238 #[.val (.int p0), .val (.int p1), .val (.int p2), .val (.int p3), .val (.int p4), .val (.int pv), .val (.int xv), .val (.ref b1), .val (.int (0 : Int32)), .val (.int (1 : Int32)), .val (.int (((1 : Int32) + p0) + (1 : Int32))), .val (.int (1 : Int32)), .val (.int (1 : Int32)), .val (.int ((((1 : Int32) + p0) + (1 : Int32)) + (1 : Int32))), .val (.int ((1 : Int32) + (1 : Int32)))] []))
            refine Wp.via (fun _ k => XS.aload X109.here hx rfl (hb hby at_238) rfl rfl k) ?_
            show Wp p e below _ (T109.setTop (mkF m 240 #[.val (.int p0), .val (.int p1), .val (.int p2), .val (.int p3), .val (.int p4), .val (.int pv), .val (.int xv), .val (.ref b1), .val (.int (0 : Int32)), .val (.int (1 : Int32)), .val (.int (((1 : Int32) + p0) + (1 : Int32))), .val (.int (1 : Int32)), .val (.int (1 : Int32)), .val (.int ((((1 : Int32) + p0) + (1 : Int32)) + (1 : Int32))), .val (.int ((1 : Int32) + (1 : Int32)))] [(.ref b1)]))
            obtain ⟨cq112, kq112, q112a, q112b, q112c⟩ := isOf hZ rfl c110
            obtain ⟨_, _, ⟨T112, L112, k112, n112⟩, -, X112, ⟨Lc112, hQ112, l112, y112, z112⟩, st112⟩ := X109.virtualBack hx (y := (⟨"com/example/chyld/chyld/LineColumn", "line", "()I"⟩ : MethodName)) (z := (⟨"com/example/chyld/chyld/LineColumn", "line", "()I"⟩ : MethodName)) hown (mvT hZ (hw _ (List.mem_of_getElem? (i := 29) rfl))) (mvT hZ (hw _ (List.mem_of_getElem? (i := 30) rfl))) (notFace_of_selects (args := #[]) (mvT hZ (hw _ (List.mem_of_getElem? (i := 32) rfl)))) (mvT hZ (hw _ (List.mem_of_getElem? (i := 32) rfl))) (mvT hZ (hw _ (List.mem_of_getElem? (i := 31) rfl))) (by decide) (backOf (W := 0) (rm6 l Z aw hw [] b1 ((1 : Int32) + (1 : Int32)) T109.heap n0 zz111 m23_line) hZ (hw _ (List.mem_of_getElem? (i := 33) rfl)) (hw _ (List.mem_of_getElem? (i := 6) rfl)) (by decide) (by decide)) q112a q112c (g := (mkF m 240 #[.val (.int p0), .val (.int p1), .val (.int p2), .val (.int p3), .val (.int p4), .val (.int pv), .val (.int xv), .val (.ref b1), .val (.int (0 : Int32)), .val (.int (1 : Int32)), .val (.int (((1 : Int32) + p0) + (1 : Int32))), .val (.int (1 : Int32)), .val (.int (1 : Int32)), .val (.int ((((1 : Int32) + p0) + (1 : Int32)) + (1 : Int32))), .val (.int ((1 : Int32) + (1 : Int32)))] [(.ref b1)])) rfl (by rw [hml]; rfl) (Steps.refl _) (argsL := []) (rest := []) (lenOf own_pd3 rfl) rfl (by show 2 * 0 + _ ≤ _; exact Nat.le_of_eq rfl) (hb hby at_240) (fun _ _ => ⟨rfl, rfl, (by decide : 1 + 0 ≤ _), (by decide : 3 + 0 ≤ _)⟩)
            dsimp only [Pt.U, Pt.locs, Pt.cells, Pt.slots] at X112 l112 y112 z112 st112 hQ112
            subst l112 y112 z112
            obtain ⟨rfl, N112, e112⟩ := hQ112
            have NF112 := Fr.app NF109 N112
            refine Wp.step st112 ?_
            show Wp p e below _ (T112.setTop (mkF m 243 #[.val (.int p0), .val (.int p1), .val (.int p2), .val (.int p3), .val (.int p4), .val (.int pv), .val (.int xv), .val (.ref b1), .val (.int (0 : Int32)), .val (.int (1 : Int32)), .val (.int (((1 : Int32) + p0) + (1 : Int32))), .val (.int (1 : Int32)), .val (.int (1 : Int32)), .val (.int ((((1 : Int32) + p0) + (1 : Int32)) + (1 : Int32))), .val (.int ((1 : Int32) + (1 : Int32)))] [(.int ((1 : Int32) + (1 : Int32)))]))
            refine Wp.via (fun _ k => XS.iload X112.here hx rfl (hb hby at_243) rfl k) ?_
            show Wp p e below _ (T112.setTop (mkF m 245 #[.val (.int p0), .val (.int p1), .val (.int p2), .val (.int p3), .val (.int p4), .val (.int pv), .val (.int xv), .val (.ref b1), .val (.int (0 : Int32)), .val (.int (1 : Int32)), .val (.int (((1 : Int32) + p0) + (1 : Int32))), .val (.int (1 : Int32)), .val (.int (1 : Int32)), .val (.int ((((1 : Int32) + p0) + (1 : Int32)) + (1 : Int32))), .val (.int ((1 : Int32) + (1 : Int32)))] [(.int ((1 : Int32) + (1 : Int32))), (.int ((1 : Int32) + (1 : Int32)))]))
            refine Wp.via (fun _ k => XS.icmpNo X112.here hx rfl (hb hby at_245) rfl (teq rfl).2 k) ?_
            show Wp p e below _ (T112.setTop (mkF m 248 #[.val (.int p0), .val (.int p1), .val (.int p2), .val (.int p3), .val (.int p4), .val (.int pv), .val (.int xv), .val (.ref b1), .val (.int (0 : Int32)), .val (.int (1 : Int32)), .val (.int (((1 : Int32) + p0) + (1 : Int32))), .val (.int (1 : Int32)), .val (.int (1 : Int32)), .val (.int ((((1 : Int32) + p0) + (1 : Int32)) + (1 : Int32))), .val (.int ((1 : Int32) + (1 : Int32)))] []))
            refine Wp.via (fun _ k => XS.aload X112.here hx rfl (hb hby at_248) rfl rfl k) ?_
            show Wp p e below _ (T112.setTop (mkF m 250 #[.val (.int p0), .val (.int p1), .val (.int p2), .val (.int p3), .val (.int p4), .val (.int pv), .val (.int xv), .val (.ref b1), .val (.int (0 : Int32)), .val (.int (1 : Int32)), .val (.int (((1 : Int32) + p0) + (1 : Int32))), .val (.int (1 : Int32)), .val (.int (1 : Int32)), .val (.int ((((1 : Int32) + p0) + (1 : Int32)) + (1 : Int32))), .val (.int ((1 : Int32) + (1 : Int32)))] [(.ref b1)]))
            obtain ⟨cq113, kq113, q113a, q113b, q113c⟩ := isOf hZ e112 c110
            obtain ⟨_, _, ⟨T113, L113, k113, n113⟩, -, X113, ⟨Lc113, hQ113, l113, y113, z113⟩, st113⟩ := X112.virtualBack hx (y := (⟨"com/example/chyld/chyld/LineColumn", "column", "()I"⟩ : MethodName)) (z := (⟨"com/example/chyld/chyld/LineColumn", "column", "()I"⟩ : MethodName)) hown (mvT hZ (hw _ (List.mem_of_getElem? (i := 34) rfl))) (mvT hZ (hw _ (List.mem_of_getElem? (i := 35) rfl))) (notFace_of_selects (args := #[]) (mvT hZ (hw _ (List.mem_of_getElem? (i := 37) rfl)))) (mvT hZ (hw _ (List.mem_of_getElem? (i := 37) rfl))) (mvT hZ (hw _ (List.mem_of_getElem? (i := 36) rfl))) (by decide) (backOf (W := 0) (rm7 l Z aw hw [] b1 (1 : Int32) T109.heap n0 zz111 m23_column) hZ (hw _ (List.mem_of_getElem? (i := 38) rfl)) (hw _ (List.mem_of_getElem? (i := 6) rfl)) (by decide) (by decide)) q113a q113c (g := (mkF m 250 #[.val (.int p0), .val (.int p1), .val (.int p2), .val (.int p3), .val (.int p4), .val (.int pv), .val (.int xv), .val (.ref b1), .val (.int (0 : Int32)), .val (.int (1 : Int32)), .val (.int (((1 : Int32) + p0) + (1 : Int32))), .val (.int (1 : Int32)), .val (.int (1 : Int32)), .val (.int ((((1 : Int32) + p0) + (1 : Int32)) + (1 : Int32))), .val (.int ((1 : Int32) + (1 : Int32)))] [(.ref b1)])) rfl (by rw [hml]; rfl) (Steps.refl _) (argsL := []) (rest := []) (lenOf own_pd3 rfl) rfl (by show 2 * 0 + _ ≤ _; exact Nat.le_of_eq rfl) (hb hby at_250) (fun _ _ => ⟨rfl, e112, (by decide : 1 + 0 ≤ _), (by decide : 3 + 0 ≤ _)⟩)
            dsimp only [Pt.U, Pt.locs, Pt.cells, Pt.slots] at X113 l113 y113 z113 st113 hQ113
            subst l113 y113 z113
            obtain ⟨rfl, N113, e113⟩ := hQ113
            have NF113 := Fr.app NF112 N113
            refine Wp.step st113 ?_
            show Wp p e below _ (T113.setTop (mkF m 253 #[.val (.int p0), .val (.int p1), .val (.int p2), .val (.int p3), .val (.int p4), .val (.int pv), .val (.int xv), .val (.ref b1), .val (.int (0 : Int32)), .val (.int (1 : Int32)), .val (.int (((1 : Int32) + p0) + (1 : Int32))), .val (.int (1 : Int32)), .val (.int (1 : Int32)), .val (.int ((((1 : Int32) + p0) + (1 : Int32)) + (1 : Int32))), .val (.int ((1 : Int32) + (1 : Int32)))] [(.int (1 : Int32))]))
            refine Wp.via (fun _ k => XS.iconst X113.here hx rfl (hb hby at_253) k) ?_
            show Wp p e below _ (T113.setTop (mkF m 254 #[.val (.int p0), .val (.int p1), .val (.int p2), .val (.int p3), .val (.int p4), .val (.int pv), .val (.int xv), .val (.ref b1), .val (.int (0 : Int32)), .val (.int (1 : Int32)), .val (.int (((1 : Int32) + p0) + (1 : Int32))), .val (.int (1 : Int32)), .val (.int (1 : Int32)), .val (.int ((((1 : Int32) + p0) + (1 : Int32)) + (1 : Int32))), .val (.int ((1 : Int32) + (1 : Int32)))] [(.int (1 : Int32)), (.int (1 : Int32))]))
            refine Wp.via (fun _ k => XS.icmpNo X113.here hx rfl (hb hby at_254) rfl (teq (by decide)).2 k) ?_
            show Wp p e below _ (T113.setTop (mkF m 257 #[.val (.int p0), .val (.int p1), .val (.int p2), .val (.int p3), .val (.int p4), .val (.int pv), .val (.int xv), .val (.ref b1), .val (.int (0 : Int32)), .val (.int (1 : Int32)), .val (.int (((1 : Int32) + p0) + (1 : Int32))), .val (.int (1 : Int32)), .val (.int (1 : Int32)), .val (.int ((((1 : Int32) + p0) + (1 : Int32)) + (1 : Int32))), .val (.int ((1 : Int32) + (1 : Int32)))] []))
            refine Wp.via (fun _ k => XS.iconst X113.here hx rfl (hb hby at_257) k) ?_
            show Wp p e below _ (T113.setTop (mkF m 258 #[.val (.int p0), .val (.int p1), .val (.int p2), .val (.int p3), .val (.int p4), .val (.int pv), .val (.int xv), .val (.ref b1), .val (.int (0 : Int32)), .val (.int (1 : Int32)), .val (.int (((1 : Int32) + p0) + (1 : Int32))), .val (.int (1 : Int32)), .val (.int (1 : Int32)), .val (.int ((((1 : Int32) + p0) + (1 : Int32)) + (1 : Int32))), .val (.int ((1 : Int32) + (1 : Int32)))] [(.int (1 : Int32))]))
            refine Wp.via (fun _ k => XS.goto X113.here hx rfl (pc0 := 258) (pc' := 262) rfl (hb hby at_258) (by decide) (by decide) k) ?_
            show Wp p e below _ (T113.setTop (mkF m 262 #[.val (.int p0), .val (.int p1), .val (.int p2), .val (.int p3), .val (.int p4), .val (.int pv), .val (.int xv), .val (.ref b1), .val (.int (0 : Int32)), .val (.int (1 : Int32)), .val (.int (((1 : Int32) + p0) + (1 : Int32))), .val (.int (1 : Int32)), .val (.int (1 : Int32)), .val (.int ((((1 : Int32) + p0) + (1 : Int32)) + (1 : Int32))), .val (.int ((1 : Int32) + (1 : Int32)))] [(.int (1 : Int32))]))
            refine Wp.via (fun _ k => XS.istore X113.here hx rfl (hb hby at_262) rfl (l' := #[.val (.int p0), .val (.int p1), .val (.int p2), .val (.int p3), .val (.int p4), .val (.int pv), .val (.int xv), .val (.ref b1), .val (.int (0 : Int32)), .val (.int (1 : Int32)), .val (.int (((1 : Int32) + p0) + (1 : Int32))), .val (.int (1 : Int32)), .val (.int (1 : Int32)), .val (.int ((((1 : Int32) + p0) + (1 : Int32)) + (1 : Int32))), .val (.int ((1 : Int32) + (1 : Int32)))]) rfl k) ?_
            show Wp p e below _ (T113.setTop (mkF m 264 #[.val (.int p0), .val (.int p1), .val (.int p2), .val (.int p3), .val (.int p4), .val (.int pv), .val (.int xv), .val (.ref b1), .val (.int (0 : Int32)), .val (.int (1 : Int32)), .val (.int (((1 : Int32) + p0) + (1 : Int32))), .val (.int (1 : Int32)), .val (.int (1 : Int32)), .val (.int ((((1 : Int32) + p0) + (1 : Int32)) + (1 : Int32))), .val (.int ((1 : Int32) + (1 : Int32)))] []))
            refine Wp.via (fun _ k => XS.iload X113.here hx rfl (hb hby at_264) rfl k) ?_
            show Wp p e below _ (T113.setTop (mkF m 266 #[.val (.int p0), .val (.int p1), .val (.int p2), .val (.int p3), .val (.int p4), .val (.int pv), .val (.int xv), .val (.ref b1), .val (.int (0 : Int32)), .val (.int (1 : Int32)), .val (.int (((1 : Int32) + p0) + (1 : Int32))), .val (.int (1 : Int32)), .val (.int (1 : Int32)), .val (.int ((((1 : Int32) + p0) + (1 : Int32)) + (1 : Int32))), .val (.int ((1 : Int32) + (1 : Int32)))] [(.int (1 : Int32))]))
            exact Wp.retI X113 hlk hx hret (by simp) (by first | rfl | decide) (hb hby at_266) ⟨rfl, NF113⟩ (by decide) (by decide)
  refine Wp.via (fun _ k => XS.iloadN X0.here hx rfl (hb hby at_0) rfl k) ?_
  show Wp p e below _ (T0.setTop (mkF m 1 #[.val (.int p0), .val (.int p1), .val (.int p2), .val (.int p3), .val (.int p4), .unset, .unset, .unset, .unset, .unset, .unset, .unset, .unset, .unset, .unset] [(.int p1)]))
  refine Wp.via (fun _ k => XS.iloadN X0.here hx rfl (hb hby at_1) rfl k) ?_
  show Wp p e below _ (T0.setTop (mkF m 2 #[.val (.int p0), .val (.int p1), .val (.int p2), .val (.int p3), .val (.int p4), .unset, .unset, .unset, .unset, .unset, .unset, .unset, .unset, .unset, .unset] [(.int p2), (.int p1)]))
  obtain ⟨_, _, ⟨T114, L114, k114, n114⟩, -, X114, ⟨Lc114, hQ114, l114, y114, z114⟩, st114⟩ := Jvm.LawKit.callS X0 hx (y := (⟨"com/example/chyld/chyld/LineColumnCharacterPinLaw", "pick", "(II)I"⟩ : MethodName)) hown (mvT hZ (hw _ (List.mem_of_getElem? (i := 0) rfl))) (mvT hZ (hw _ (List.mem_of_getElem? (i := 1) rfl))) (mvT hZ (hw _ (List.mem_of_getElem? (i := 2) rfl))) (mvT hZ (hw _ (List.mem_of_getElem? (i := 3) rfl))) (by decide) (backOf (W := 0) (rm1 l Z aw hw [] p1 p2  h0 n0 Z0 ) hZ (hw _ (List.mem_of_getElem? (i := 3) rfl)) (hw _ (List.mem_of_getElem? (i := 2) rfl)) (by decide) (by decide)) (g := (mkF m 2 #[.val (.int p0), .val (.int p1), .val (.int p2), .val (.int p3), .val (.int p4), .unset, .unset, .unset, .unset, .unset, .unset, .unset, .unset, .unset, .unset] [(.int p2), (.int p1)])) rfl (by rw [hml]; rfl) (argsL := [(.int p1), (.int p2)]) (rest := []) (lenOf own_pd1 rfl) rfl (by show 2 * 0 + _ ≤ _; exact Nat.le_of_eq rfl) (hb hby at_2) (fun _ _ => ⟨rfl, e0, (by decide : 0 + 0 ≤ _), (by decide : 0 + 0 ≤ _)⟩)
  dsimp only [Pt.U, Pt.locs, Pt.cells, Pt.slots] at X114 l114 y114 z114 st114 hQ114
  subst l114 y114 z114
  obtain ⟨rfl, N114, e114⟩ := hQ114
  have NF114 := Fr.app NF0 N114
  refine Wp.via st114 ?_
  show Wp p e below _ (T114.setTop (mkF m 5 #[.val (.int p0), .val (.int p1), .val (.int p2), .val (.int p3), .val (.int p4), .unset, .unset, .unset, .unset, .unset, .unset, .unset, .unset, .unset, .unset] [(.int (f1_0 p1 p2))]))
  refine Wp.via (fun _ k => XS.istore X114.here hx rfl (hb hby at_5) rfl (l' := #[.val (.int p0), .val (.int p1), .val (.int p2), .val (.int p3), .val (.int p4), .val (.int (f1_0 p1 p2)), .unset, .unset, .unset, .unset, .unset, .unset, .unset, .unset, .unset]) rfl k) ?_
  show Wp p e below _ (T114.setTop (mkF m 7 #[.val (.int p0), .val (.int p1), .val (.int p2), .val (.int p3), .val (.int p4), .val (.int (f1_0 p1 p2)), .unset, .unset, .unset, .unset, .unset, .unset, .unset, .unset, .unset] []))
  refine Wp.via (fun _ k => XS.iloadN X114.here hx rfl (hb hby at_7) rfl k) ?_
  show Wp p e below _ (T114.setTop (mkF m 8 #[.val (.int p0), .val (.int p1), .val (.int p2), .val (.int p3), .val (.int p4), .val (.int (f1_0 p1 p2)), .unset, .unset, .unset, .unset, .unset, .unset, .unset, .unset, .unset] [(.int p3)]))
  refine Wp.via (fun _ k => XS.iload X114.here hx rfl (hb hby at_8) rfl k) ?_
  show Wp p e below _ (T114.setTop (mkF m 10 #[.val (.int p0), .val (.int p1), .val (.int p2), .val (.int p3), .val (.int p4), .val (.int (f1_0 p1 p2)), .unset, .unset, .unset, .unset, .unset, .unset, .unset, .unset, .unset] [(.int p4), (.int p3)]))
  obtain ⟨_, _, ⟨T115, L115, k115, n115⟩, -, X115, ⟨Lc115, hQ115, l115, y115, z115⟩, st115⟩ := Jvm.LawKit.callS X114 hx (y := (⟨"com/example/chyld/chyld/LineColumnCharacterPinLaw", "pick", "(II)I"⟩ : MethodName)) hown (mvT hZ (hw _ (List.mem_of_getElem? (i := 0) rfl))) (mvT hZ (hw _ (List.mem_of_getElem? (i := 1) rfl))) (mvT hZ (hw _ (List.mem_of_getElem? (i := 2) rfl))) (mvT hZ (hw _ (List.mem_of_getElem? (i := 3) rfl))) (by decide) (backOf (W := 0) (rm1 l Z aw hw [] p3 p4  h0 n0 Z0 ) hZ (hw _ (List.mem_of_getElem? (i := 3) rfl)) (hw _ (List.mem_of_getElem? (i := 2) rfl)) (by decide) (by decide)) (g := (mkF m 10 #[.val (.int p0), .val (.int p1), .val (.int p2), .val (.int p3), .val (.int p4), .val (.int (f1_0 p1 p2)), .unset, .unset, .unset, .unset, .unset, .unset, .unset, .unset, .unset] [(.int p4), (.int p3)])) rfl (by rw [hml]; rfl) (argsL := [(.int p3), (.int p4)]) (rest := []) (lenOf own_pd1 rfl) rfl (by show 2 * 0 + _ ≤ _; exact Nat.le_of_eq rfl) (hb hby at_10) (fun _ _ => ⟨rfl, e114, (by decide : 0 + 0 ≤ _), (by decide : 0 + 0 ≤ _)⟩)
  dsimp only [Pt.U, Pt.locs, Pt.cells, Pt.slots] at X115 l115 y115 z115 st115 hQ115
  subst l115 y115 z115
  obtain ⟨rfl, N115, e115⟩ := hQ115
  have NF115 := Fr.app NF114 N115
  refine Wp.via st115 ?_
  show Wp p e below _ (T115.setTop (mkF m 13 #[.val (.int p0), .val (.int p1), .val (.int p2), .val (.int p3), .val (.int p4), .val (.int (f1_0 p1 p2)), .unset, .unset, .unset, .unset, .unset, .unset, .unset, .unset, .unset] [(.int (f1_0 p3 p4))]))
  refine Wp.via (fun _ k => XS.istore X115.here hx rfl (hb hby at_13) rfl (l' := #[.val (.int p0), .val (.int p1), .val (.int p2), .val (.int p3), .val (.int p4), .val (.int (f1_0 p1 p2)), .val (.int (f1_0 p3 p4)), .unset, .unset, .unset, .unset, .unset, .unset, .unset, .unset]) rfl k) ?_
  show Wp p e below _ (T115.setTop (mkF m 15 #[.val (.int p0), .val (.int p1), .val (.int p2), .val (.int p3), .val (.int p4), .val (.int (f1_0 p1 p2)), .val (.int (f1_0 p3 p4)), .unset, .unset, .unset, .unset, .unset, .unset, .unset, .unset] []))
  exact J15 T115 _ _ _ X115 e115 NF115 rfl rfl _ _
set_option maxRecDepth 65536 in
set_option maxHeartbeats 40000000 in
theorem comes_1 {Post : Tables → Env → Array Value → State → Outcome → State → Prop} (hpost : ∀ tb e args s v u, (limb_1_1.after args s (.returned v) u = true ∧ limb_1_2.after args s (.returned v) u = true ∧ True) → FrameEnd s (.returned v) u (Jvm.fieldLocs frame_1_writes args s ++ Jvm.arrayLocs frame_1_arrays args s ++ Jvm.staticLocs frame_1_statics s) 16 128 → Post tb e args s (.returned v) u) :
    ArmFor flags0 classFile x code maxLocals ret World_1 tables_1 room_1 Calls_1 rest_1 Pre_1 Post := by
  intro l hfl _ _ p e ha hc hk s m args below hf hA hF happ hP
  obtain ⟨hcalls, hrest, hpre⟩ := hP
  obtain ⟨-, -, -, hnamed, -, -, -, hat⟩ := (Spec.applies_iff hf).mp happ
  obtain ⟨hg, hn⟩ := and_e (Cond.before_iff.mp (show (Jvm.Cond.and given_1 narrow_1).before args s = true from hpre))
  obtain ⟨g1, g2⟩ := and_e hg
  obtain ⟨g3, g4⟩ := and_e g2
  obtain ⟨g5, g6⟩ := and_e g4
  obtain ⟨g7, g8⟩ := and_e g6
  obtain ⟨g9, g10⟩ := and_e g8
  obtain ⟨w0, w1, w2, w3, w4, rfl⟩ : ∃ w0 w1 w2 w3 w4 : Value, args = #[w0, w1, w2, w3, w4] := by
    have hs : args.size = 5 := by simpa [Cond.value, given_1] using g1
    obtain ⟨L⟩ := args
    match L, hs with
    | [w0, w1, w2, w3, w4], _ => exact ⟨w0, w1, w2, w3, w4, rfl⟩
  have hw := fun d (hd : d ∈ tables_1) => atoms_spec (ws := Jvm.Cond.code x code maxLocals ret :: tables_1) hat d (List.mem_cons_of_mem _ hd)
  obtain ⟨i0, ei0⟩ := is_v g3
  obtain rfl : w0 = (.int i0) := Option.some.inj ei0
  obtain ⟨i1, ei1⟩ := is_v g5
  obtain rfl : w1 = (.int i1) := Option.some.inj ei1
  obtain ⟨i2, ei2⟩ := is_v g7
  obtain rfl : w2 = (.int i2) := Option.some.inj ei2
  obtain ⟨i3, ei3⟩ := is_v g9
  obtain rfl : w3 = (.int i3) := Option.some.inj ei3
  obtain ⟨i4, ei4⟩ := is_v g10
  obtain rfl : w4 = (.int i4) := Option.some.inj ei4
  obtain ⟨n, o, h1, h2, h3, _, L, rfl, ⟨rfl, N⟩, hq⟩ := rm0 l s _ hw tables_1 i0 i1 i2 i3 i4 s.heap s.heap.size (Nat.le_refl _)  p e ha hc hk s m _ below hf ((Spec.applies_iff_loose hf).mp happ).1 ⟨rfl, State.Warmed39.refl s, rfl⟩ trivial
  refine ⟨n, _, h1, h2, h3, hpost _ _ _ _ _ _ ⟨Cond.after_iff.mpr rfl, Cond.after_iff.mpr (eq_i res_at (Term.int_eval (1)) rfl), trivial⟩ ⟨hq.1, hq.2.1, (hq.2.2.sift fun y hy => Or.inr (N y hy)).mono (by decide) (by decide)⟩⟩
theorem main_1_1 : Claimed_1_1 := comes_1 fun _ _ _ _ _ _ h hF => ⟨h.1, hF⟩
theorem main_1_2 : Claimed_1_2 := comes_1 fun _ _ _ _ _ _ h hF => ⟨h.2.1, hF⟩
end Jvm.Pilot.@@N@@
namespace Jvm.Pilot.@@N@@
open Jvm Jvm.ClassFile Sem Op Lib Jvm.Free Jvm.Stand Jvm.Pilot.@@N@@.Jvm.D
/-! MADE BY PROGRAM (witnessworld.py) out of the Statement's table words and the real class files: 9 classes; the members and pool entries that the words name. The judged class is class 1, her method 2. -/
namespace start1
open Jvm.ClassFile
def u (s : String) : CpInfo := .utf8 (stringToUtf16 s)
/-- a pool by its gaps: so many unusable entries, then the entry; so many at the end -/
def gap : Nat → List CpInfo → List CpInfo
  | 0, r => r
  | n + 1, r => .unusable :: gap n r
def poolList (es : List (Nat × CpInfo)) (last : Nat) : List CpInfo := es.foldr (fun e r => gap e.1 (e.2 :: r)) (gap last [])
def pool (es : List (Nat × CpInfo)) (last : Nat) : Array CpInfo := ⟨poolList es last⟩
def fileOf (pool : Array CpInfo) (this : Nat) (attrs : Array Attribute := #[]) (ms : Array MethodInfo := #[]) (fl : Nat := 33) (sup : Nat := 0) (ifs : Array Nat := #[]) (fds : Array FieldInfo := #[]) : ClassFile where
  minorVersion := 0
  majorVersion := 65
  constantPool := pool
  accessFlags := fl
  thisClass := this
  superClass := sup
  interfaces := ifs
  fields := fds
  methods := ms
  attributes := attrs
def plain (name : String) (sup : Option ClassId) : Class where
  name := name
  kind := .ordinary
  loader := none
  accessFlags := 33
  super := sup
  interfaces := #[]
  cf := none
  fields := #[]
  methods := #[]
  instanceTypes := #[]
  staticTypes := #[]
  resolved := #[]
  callSites := []
  init := .initialized
  statics := none
  mirror := none

def pool0 : Array CpInfo := pool [(5, u "<init>"), (0, u "()V"), (1, .class_ 10), (1, u "java/lang/Object")] 113

def k0c0 : Code := { maxStack := 0, maxLocals := 1, code := object_method_1_code, exceptionTable := #[], attributes := #[] }
def k0m0 : Method := { name := "<init>", desc := "()V", sig := { parameters := [], returnType := none }, accessFlags := 1, code := some k0c0 }
/-- java/lang/Object -/
def k0 : Class := { plain "java/lang/Object" none with
  accessFlags := 33
  interfaces := #[]
  cf := some (fileOf pool0 8 #[] #[{ accessFlags := 1, nameIndex := 5, descriptorIndex := 6, attributes := #[] }] 33 0 #[] #[])
  fields := #[]
  methods := #[k0m0]
  instanceTypes := #[]
  staticTypes := #[]
  resolved := Array.replicate 124 none
  statics := none }

def pool1 : Array CpInfo := pool [(2, .class_ 4), (0, .nameAndType 5 6), (0, u "java/lang/Object"), (0, u "<init>"), (0, u "()V"), (0, .methodref 8 9), (0, .class_ 10), (0, .nameAndType 11 12), (0, u "com/example/chyld/chyld/LineColumnCharacterPinLaw"), (0, u "pick"), (0, u "(II)I"), (0, .class_ 14), (0, u "com/example/chyld/chyld/LineColumn"), (0, .methodref 13 3), (0, .methodref 13 17), (0, .nameAndType 18 19), (0, u "columns"), (0, u "(I)V"), (0, .methodref 13 21), (0, .nameAndType 22 19), (0, u "character"), (0, .methodref 13 24), (0, .nameAndType 25 26), (0, u "line"), (0, u "()I"), (0, .methodref 13 28), (0, .nameAndType 29 26), (0, u "column"), (3, u "law"), (0, u "(IIIII)Z")] 2

def k1m0 : Method := { name := "<init>", desc := "()V", sig := { parameters := [], returnType := none }, accessFlags := 1, code := none }
def k1c1 : Code := { maxStack := 2, maxLocals := 3, code := method_2_code, exceptionTable := #[], attributes := #[] }
def k1m1 : Method := { name := "pick", desc := "(II)I", sig := { parameters := [.int, .int], returnType := some .int }, accessFlags := 10, code := some k1c1 }
def k1c2 : Code := { maxStack := 2, maxLocals := 15, code := code, exceptionTable := #[], attributes := #[] }
def k1m2 : Method := { name := "law", desc := "(IIIII)Z", sig := { parameters := [.int, .int, .int, .int, .int], returnType := some .boolean }, accessFlags := 9, code := some k1c2 }
/-- com/example/chyld/chyld/LineColumnCharacterPinLaw -/
def k1 : Class := { plain "com/example/chyld/chyld/LineColumnCharacterPinLaw" (some 0) with
  accessFlags := 49
  interfaces := #[]
  cf := some (fileOf pool1 8 #[] #[{ accessFlags := 1, nameIndex := 5, descriptorIndex := 6, attributes := #[] }, { accessFlags := 10, nameIndex := 11, descriptorIndex := 12, attributes := #[] }, { accessFlags := 9, nameIndex := 33, descriptorIndex := 34, attributes := #[] }] 49 2 #[] #[])
  fields := #[]
  methods := #[k1m0, k1m1, k1m2]
  instanceTypes := #[]
  staticTypes := #[]
  resolved := Array.replicate 37 none
  statics := none }

def pool2 : Array CpInfo := pool [(1, .methodref 2 3), (0, .class_ 4), (0, .nameAndType 5 6), (0, u "java/lang/Object"), (0, u "<init>"), (0, u "()V"), (0, .fieldref 8 9), (0, .class_ 10), (0, .nameAndType 11 12), (0, u "com/example/chyld/chyld/LineColumn"), (0, u "line"), (0, u "I"), (0, .fieldref 8 14), (0, .nameAndType 15 12), (0, u "column"), (0, .fieldref 8 17), (0, .nameAndType 18 19), (0, u "afterCarriageReturn"), (0, u "Z"), (2, u "character"), (0, u "(I)V"), (1, u "columns"), (0, u "()I")] 2

def k2c0 : Code := { maxStack := 2, maxLocals := 1, code := prog_27_method_1_code, exceptionTable := #[], attributes := #[] }
def k2m0 : Method := { name := "<init>", desc := "()V", sig := { parameters := [], returnType := none }, accessFlags := 0, code := some k2c0 }
def k2c1 : Code := { maxStack := 3, maxLocals := 2, code := prog_27_method_2_code, exceptionTable := #[], attributes := #[] }
def k2m1 : Method := { name := "character", desc := "(I)V", sig := { parameters := [.int], returnType := none }, accessFlags := 0, code := some k2c1 }
def k2c2 : Code := { maxStack := 3, maxLocals := 2, code := prog_27_method_3_code, exceptionTable := #[], attributes := #[] }
def k2m2 : Method := { name := "columns", desc := "(I)V", sig := { parameters := [.int], returnType := none }, accessFlags := 0, code := some k2c2 }
def k2c3 : Code := { maxStack := 1, maxLocals := 1, code := prog_27_method_4_code, exceptionTable := #[], attributes := #[] }
def k2m3 : Method := { name := "line", desc := "()I", sig := { parameters := [], returnType := some .int }, accessFlags := 0, code := some k2c3 }
def k2c4 : Code := { maxStack := 1, maxLocals := 1, code := prog_27_method_5_code, exceptionTable := #[], attributes := #[] }
def k2m4 : Method := { name := "column", desc := "()I", sig := { parameters := [], returnType := some .int }, accessFlags := 0, code := some k2c4 }
/-- com/example/chyld/chyld/LineColumn -/
def k2 : Class := { plain "com/example/chyld/chyld/LineColumn" (some 0) with
  accessFlags := 48
  interfaces := #[]
  cf := some (fileOf pool2 8 #[] #[{ accessFlags := 0, nameIndex := 5, descriptorIndex := 6, attributes := #[] }, { accessFlags := 0, nameIndex := 22, descriptorIndex := 23, attributes := #[] }, { accessFlags := 0, nameIndex := 25, descriptorIndex := 23, attributes := #[] }, { accessFlags := 0, nameIndex := 11, descriptorIndex := 26, attributes := #[] }, { accessFlags := 0, nameIndex := 15, descriptorIndex := 26, attributes := #[] }] 48 2 #[] #[{ accessFlags := 2, nameIndex := 11, descriptorIndex := 12, attributes := #[] }, { accessFlags := 2, nameIndex := 15, descriptorIndex := 12, attributes := #[] }, { accessFlags := 2, nameIndex := 18, descriptorIndex := 19, attributes := #[] }])
  fields := #[{ name := "line", type := .int, accessFlags := 2, slot := 0, constantValue := 0 }, { name := "column", type := .int, accessFlags := 2, slot := 1, constantValue := 0 }, { name := "afterCarriageReturn", type := .boolean, accessFlags := 2, slot := 2, constantValue := 0 }]
  methods := #[k2m0, k2m1, k2m2, k2m3, k2m4]
  instanceTypes := #[.int, .int, .boolean]
  staticTypes := #[]
  resolved := Array.replicate 29 none
  statics := none }

def pool3 : Array CpInfo := pool [(1, u "java/lang/Cloneable"), (0, .class_ 1), (0, u "java/lang/Object"), (0, .class_ 3)] 3

/-- java/lang/Cloneable -/
def k3 : Class := { plain "java/lang/Cloneable" (some 0) with
  accessFlags := 1537
  interfaces := #[]
  cf := some (fileOf pool3 2 #[] #[] 1537 4 #[] #[])
  fields := #[]
  methods := #[]
  instanceTypes := #[]
  staticTypes := #[]
  resolved := Array.replicate 8 none
  statics := none }

def pool4 : Array CpInfo := pool [(1, u "java/io/Serializable"), (0, .class_ 1), (0, u "java/lang/Object"), (0, .class_ 3)] 3

/-- java/io/Serializable -/
def k4 : Class := { plain "java/io/Serializable" (some 0) with
  accessFlags := 1537
  interfaces := #[]
  cf := some (fileOf pool4 2 #[] #[] 1537 4 #[] #[])
  fields := #[]
  methods := #[]
  instanceTypes := #[]
  staticTypes := #[]
  resolved := Array.replicate 8 none
  statics := none }

/-- the primitive byte -/
def k5 : Class := { plain "byte" none with kind := .primitive 'B', accessFlags := 0x411 }
/-- [B -/
def k6 : Class := { plain "[B" (some 0) with kind := .array 5 .byte, interfaces := #[3, 4], accessFlags := 1041 }

/-- the primitive int -/
def k7 : Class := { plain "int" none with kind := .primitive 'I', accessFlags := 0x411 }
/-- [I -/
def k8 : Class := { plain "[I" (some 0) with kind := .array 7 .int, interfaces := #[3, 4], accessFlags := 1041 }

def heap : Heap := #[]
def classes : Array Class := #[k0, k1, k2, k3, k4, k5, k6, k7, k8]
def interned : List (Array UInt16 × Addr) := []
def slotsUsed : Nat := 0
def theMethod : MethodId := ⟨1, 2⟩
def args0 : Array Value := #[.int 5, .int 1, .int 7, .int 2, .int 3]
def aboutOver (below : List Frame) : State where
  vm := { classes := classes, interned := interned.toArray }
  heap := heap
  slotsUsed := slotsUsed
  threads := #[{ frames := .invoking theMethod args0 :: below }]
def below0 : List Frame := [.native { method := ⟨0, 0⟩, args := #[] }]
def about1 : State := aboutOver below0
def p0 : Program := .bare "" "" ""
def e0 : Env := launch0.env 0 0 0
theorem w_frames : about1.frames = Frame.invoking theMethod args0 :: below0 := rfl
set_option maxRecDepth 65536 in
theorem w_args : argsFit about1.vm theMethod args0 = true := by decide +kernel
set_option maxRecDepth 65536 in
theorem w_heap : heapFits about1 = true := by decide +kernel
set_option maxRecDepth 65536 in
theorem w_runnable : about1.curStatus? = some .runnable := by decide +kernel
set_option maxRecDepth 65536 in
theorem w_alone : about1.alone = true := by decide +kernel
set_option maxRecDepth 65536 in
theorem w_named : about1.methodNamed? x = some theMethod := by decide +kernel
set_option maxRecDepth 65536 in
theorem w_hears : about1.hears theMethod below0 = true := by decide +kernel
set_option maxRecDepth 65536 in
theorem w_ripe : about1.ripe theMethod args0 below0 = true := by decide +kernel
theorem w_running : about1.status = .running := rfl
set_option maxRecDepth 65536 in
theorem w_room : about1.hasRoom e0.platform room_1 = true :=
  launch0.hasRoom_least _ room_1 (by decide +kernel) (by decide +kernel) (by decide +kernel) (by decide +kernel) (by decide +kernel) (by decide +kernel)
theorem allAtoms_all (ts : List Jvm.Cond) (a : Array Jvm.Value) (st : Jvm.State) : (allAtoms ts).before a st = ts.all (fun c => c.before a st) := by
  induction ts with
  | nil => rfl
  | cons c t ih =>
    show (Jvm.Cond.and c (allAtoms t)).before a st = _
    rw [Jvm.Cond.before_and, ih, List.all_cons]
def words1 : List Jvm.Cond := Jvm.Cond.code x code maxLocals ret :: tables_1
/-- a 'code' word, met by the world's own term for the bytes: nothing is compared byte by byte -/
theorem code_word {y : MethodName} {bytes : ByteArray} {mx : Nat} {rt : Option FieldType} {a : Array Value} {s : State} {m : MethodId} {meth : Method} {c : Code} (h1 : s.methodNamed? y = some m) (h2 : s.vm.method? m = some meth) (h3 : meth.code = some c) (h4 : c.code = bytes)
    (h5 : (c.maxLocals == mx && c.exceptionTable.isEmpty && decide (c.maxStack ≤ mostOperands) && decide (meth.sig.returnType = rt) && !meth.locks && decide (parseMethodDescriptor y.desc = some meth.sig)) = true) : (Jvm.Cond.code y bytes mx rt).before a s = true := by
  simp only [Bool.and_eq_true, beq_iff_eq, Bool.not_eq_true', decide_eq_true_eq] at h5
  obtain ⟨⟨⟨⟨⟨g1, g2⟩, g3⟩, g4⟩, g5⟩, g6⟩ := h5
  simp [Cond.before, Cond.holds, Cond.value, h1, h2, h3, h4, g1, g2, g3, g4, g5, g6]
def isCode : Jvm.Cond → Bool
  | .code _ _ _ _ => true
  | _ => false
theorem all_split {L : List Jvm.Cond} {P : Jvm.Cond → Bool} (h1 : L.all (fun c => isCode c || P c) = true) (h2 : ∀ c ∈ L.filter isCode, P c = true) : L.all P = true := by
  refine List.all_eq_true.mpr fun c hc => ?_
  have h := List.all_eq_true.mp h1 c hc
  rcases Bool.eq_false_or_eq_true (isCode c) with hi | hi
  · exact h2 c (List.mem_filter.mpr ⟨hc, hi⟩)
  · simpa [hi] using h
set_option maxRecDepth 65536 in
theorem w_c0 : (Jvm.Cond.code x code maxLocals ret).before args0 about1 = true := code_word (m := ⟨1, 2⟩) (meth := k1m2) (c := k1c2) (by decide +kernel) rfl rfl rfl (by decide +kernel)
set_option maxRecDepth 65536 in
theorem w_c1 : (Jvm.Cond.code ({ cls := "com/example/chyld/chyld/LineColumnCharacterPinLaw", name := "pick", desc := "(II)I" } : Jvm.MethodName) method_2_code (3 : Nat) (Option.some Jvm.ClassFile.FieldType.int)).before args0 about1 = true := code_word (m := ⟨1, 1⟩) (meth := k1m1) (c := k1c1) (by decide +kernel) rfl rfl rfl (by decide +kernel)
set_option maxRecDepth 65536 in
theorem w_c2 : (Jvm.Cond.code ({ cls := "com/example/chyld/chyld/LineColumn", name := "<init>", desc := "()V" } : Jvm.MethodName) prog_27_method_1_code (1 : Nat) (Option.none : Option Jvm.ClassFile.FieldType)).before args0 about1 = true := code_word (m := ⟨2, 0⟩) (meth := k2m0) (c := k2c0) (by decide +kernel) rfl rfl rfl (by decide +kernel)
set_option maxRecDepth 65536 in
theorem w_c3 : (Jvm.Cond.code ({ cls := "java/lang/Object", name := "<init>", desc := "()V" } : Jvm.MethodName) object_method_1_code (1 : Nat) (Option.none : Option Jvm.ClassFile.FieldType)).before args0 about1 = true := code_word (m := ⟨0, 0⟩) (meth := k0m0) (c := k0c0) (by decide +kernel) rfl rfl rfl (by decide +kernel)
set_option maxRecDepth 65536 in
theorem w_c4 : (Jvm.Cond.code ({ cls := "com/example/chyld/chyld/LineColumn", name := "columns", desc := "(I)V" } : Jvm.MethodName) prog_27_method_3_code (2 : Nat) (Option.none : Option Jvm.ClassFile.FieldType)).before args0 about1 = true := code_word (m := ⟨2, 2⟩) (meth := k2m2) (c := k2c2) (by decide +kernel) rfl rfl rfl (by decide +kernel)
set_option maxRecDepth 65536 in
theorem w_c5 : (Jvm.Cond.code ({ cls := "com/example/chyld/chyld/LineColumn", name := "character", desc := "(I)V" } : Jvm.MethodName) prog_27_method_2_code (2 : Nat) (Option.none : Option Jvm.ClassFile.FieldType)).before args0 about1 = true := code_word (m := ⟨2, 1⟩) (meth := k2m1) (c := k2c1) (by decide +kernel) rfl rfl rfl (by decide +kernel)
set_option maxRecDepth 65536 in
theorem w_c6 : (Jvm.Cond.code ({ cls := "com/example/chyld/chyld/LineColumn", name := "line", desc := "()I" } : Jvm.MethodName) prog_27_method_4_code (1 : Nat) (Option.some Jvm.ClassFile.FieldType.int)).before args0 about1 = true := code_word (m := ⟨2, 3⟩) (meth := k2m3) (c := k2c3) (by decide +kernel) rfl rfl rfl (by decide +kernel)
set_option maxRecDepth 65536 in
theorem w_c7 : (Jvm.Cond.code ({ cls := "com/example/chyld/chyld/LineColumn", name := "column", desc := "()I" } : Jvm.MethodName) prog_27_method_5_code (1 : Nat) (Option.some Jvm.ClassFile.FieldType.int)).before args0 about1 = true := code_word (m := ⟨2, 4⟩) (meth := k2m4) (c := k2c4) (by decide +kernel) rfl rfl rfl (by decide +kernel)
def codes1 : List Jvm.Cond := [Jvm.Cond.code x code maxLocals ret, Jvm.Cond.code ({ cls := "com/example/chyld/chyld/LineColumnCharacterPinLaw", name := "pick", desc := "(II)I" } : Jvm.MethodName) method_2_code (3 : Nat) (Option.some Jvm.ClassFile.FieldType.int), Jvm.Cond.code ({ cls := "com/example/chyld/chyld/LineColumn", name := "<init>", desc := "()V" } : Jvm.MethodName) prog_27_method_1_code (1 : Nat) (Option.none : Option Jvm.ClassFile.FieldType), Jvm.Cond.code ({ cls := "java/lang/Object", name := "<init>", desc := "()V" } : Jvm.MethodName) object_method_1_code (1 : Nat) (Option.none : Option Jvm.ClassFile.FieldType), Jvm.Cond.code ({ cls := "com/example/chyld/chyld/LineColumn", name := "columns", desc := "(I)V" } : Jvm.MethodName) prog_27_method_3_code (2 : Nat) (Option.none : Option Jvm.ClassFile.FieldType), Jvm.Cond.code ({ cls := "com/example/chyld/chyld/LineColumn", name := "character", desc := "(I)V" } : Jvm.MethodName) prog_27_method_2_code (2 : Nat) (Option.none : Option Jvm.ClassFile.FieldType), Jvm.Cond.code ({ cls := "com/example/chyld/chyld/LineColumn", name := "line", desc := "()I" } : Jvm.MethodName) prog_27_method_4_code (1 : Nat) (Option.some Jvm.ClassFile.FieldType.int), Jvm.Cond.code ({ cls := "com/example/chyld/chyld/LineColumn", name := "column", desc := "()I" } : Jvm.MethodName) prog_27_method_5_code (1 : Nat) (Option.some Jvm.ClassFile.FieldType.int)]
set_option maxRecDepth 65536 in
theorem codes_eq : words1.filter isCode = codes1 := rfl
theorem w_codes : ∀ c ∈ words1.filter isCode, c.before args0 about1 = true := by
  rw [codes_eq]
  intro c hc
  simp only [codes1, List.mem_cons, List.not_mem_nil, or_false] at hc
  rcases hc with rfl | rfl | rfl | rfl | rfl | rfl | rfl | rfl
  · exact w_c0
  · exact w_c1
  · exact w_c2
  · exact w_c3
  · exact w_c4
  · exact w_c5
  · exact w_c6
  · exact w_c7
set_option maxRecDepth 65536 in
theorem w_t1 : (words1.take 24).all (fun c => isCode c || c.before args0 about1) = true := by decide +kernel
set_option maxRecDepth 65536 in
theorem w_t2 : (words1.drop 24).all (fun c => isCode c || c.before args0 about1) = true := by decide +kernel
theorem w_tables : (allAtoms (Jvm.Cond.code x code maxLocals ret :: tables_1)).before args0 about1 = true := by
  rw [allAtoms_all]
  show words1.all (fun c => c.before args0 about1) = true
  refine all_split ?_ w_codes
  rw [← List.take_append_drop 24 words1, List.all_append, w_t1, w_t2]
  rfl
set_option maxRecDepth 65536 in
theorem w_case : (Jvm.Cond.and given_1 narrow_1).before args0 about1 = true := by decide +kernel
theorem w_applies : (headSpec (Jvm.Cond.code x code maxLocals ret :: tables_1) room_1).applies x e0.platform about1 = true :=
  (Spec.applies_iff w_frames).mpr ⟨w_running, w_runnable, w_alone, w_named, w_hears, w_ripe, w_room, w_tables⟩
theorem atStart : AtStart classFile x code maxLocals ret World_1 tables_1 room_1 Calls_1 rest_1 Pre_1 launch0 p0 e0 about1 theMethod args0 below0 :=
  ⟨lists_1, trivial, launch0.admits_env _ _ _, launch0.least_env, fairChoices_fair.cas, fairChoices_fair.clock, w_frames, w_args, w_heap, w_applies, trivial, trivial, w_case⟩
end start1
theorem witness_1 : WitnessClaimed_1 := ⟨start1.p0, start1.e0, start1.about1, start1.theMethod, start1.args0, start1.below0, start1.atStart⟩
end Jvm.Pilot.@@N@@
