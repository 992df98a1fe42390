import JvmDerived
import JvmDerived.Pilot.@@N@@Statement
import JvmDerived.Pilot.@@N@@Code
set_option linter.unusedVariables false
set_option linter.unusedSimpArgs false
namespace Jvm.Pilot.@@N@@
open Jvm Jvm.ClassFile Sem Op Lib Jvm.Free Jvm.Stand Jvm.LawKit Jvm.RoadKit Bundle Jvm.Pilot.@@N@@.Jvm.D
/-! own kit: the rest of a walk as one predicate of the state where it stands -/
section OwnKit
variable {p : Program} {l : Launch} {e : Env} {R : Room} {s : State} {m : MethodId} {args : Array Value} {below : List Frame} {meth : Method} {c : Code} {T : State} {locs : List Loc} {cells slots : Nat}
def Wp (p : Program) (e : Env) (below : List Frame) (G : Outcome → State → Prop) (U : State) : Prop := ∃ s₂ o, Steps p.tables e below U s₂ ∧ s₂.status = .running ∧ Ended s₂ below o ∧ G o s₂
theorem Wp.via {G : Outcome → State → Prop} {A B : State} (k : ∀ t, Steps p.tables e below A t → Steps p.tables e below B t) (h : Wp p e below G A) : Wp p e below G B := by
  obtain ⟨s₂, o, h1, h2⟩ := h; exact ⟨s₂, o, k _ h1, h2⟩
theorem Wp.step {G : Outcome → State → Prop} {A B : State} (k : Steps p.tables e below B A) (h : Wp p e below G A) : Wp p e below G B := by
  obtain ⟨s₂, o, h1, h2⟩ := h; exact ⟨s₂, o, k.trans h1, h2⟩
def Gd (s : State) (Q : Option Value → Heap → List Loc → Prop) (C S : Nat) (o : Outcome) (t : State) : Prop := ∃ v L, o = .returned v ∧ Q v t.heap L ∧ FrameEnd s o t L C S
theorem Wp.ret (X : Stand p l e R s m args below meth c T locs cells slots) (hlk : meth.locks = false) (hx : p.tables.exec = Jvm.exec) {pc : Nat} {Ls : Array Slot} {w : Value} {t : FieldType} {i : Instr} {rest : List Value} {Q : Option Value → Heap → List Loc → Prop} {C S : Nat} (hret : meth.sig.returnType = some t) (hn : narrow t w = w)
    (hi : (i = .ireturn ∧ (t = .int ∨ t = .boolean ∨ t = .byte ∨ t = .char ∨ t = .short) ∧ ∃ z, w = .int z) ∨ (i = .lreturn ∧ t = .long ∧ ∃ z, w = .long z) ∨ (i = .dreturn ∧ t = .double ∧ ∃ z, w = .double z) ∨ (i = .freturn ∧ t = .float ∧ ∃ z, w = .float z) ∨ (i = .areturn ∧ t.isReference = true ∧ w.isRef = true))
    (hd : decode c.code pc = .ok (i, 1)) (hq : Q (some w) T.heap locs) (hC : cells ≤ C) (hS : slots ≤ S) : Wp p e below (Gd s Q C S) (T.setTop (mkF m pc Ls (w :: rest))) := by
  obtain ⟨fs, hr, hrun, hended, hW, hsame⟩ := X.leave (v := some w) (fun h => by rw [hret] at h; cases h) hlk
  exact ⟨_, _, retOut X hx hret hn hi hd hr, hrun, hended, _, _, rfl, hq, ⟨_, rfl⟩, hW, hsame.mono hC hS⟩
theorem Wp.retI (X : Stand p l e R s m args below meth c T locs cells slots) (hlk : meth.locks = false) (hx : p.tables.exec = Jvm.exec) {pc : Nat} {Ls : Array Slot} {z : Int32} {t : FieldType} {rest : List Value} {Q : Option Value → Heap → List Loc → Prop} {C S : Nat} (hret : meth.sig.returnType = some t) (ht : t = .int ∨ t = .boolean ∨ t = .byte ∨ t = .char ∨ t = .short) (hn : narrow t (.int z) = .int z)
    (hd : decode c.code pc = .ok (.ireturn, 1)) (hq : Q (some (.int z)) T.heap locs) (hC : cells ≤ C) (hS : slots ≤ S) : Wp p e below (Gd s Q C S) (T.setTop (mkF m pc Ls (.int z :: rest))) :=
  Wp.ret X hlk hx hret hn (Or.inl ⟨rfl, ht, z, rfl⟩) hd hq hC hS
theorem Wp.retJ (X : Stand p l e R s m args below meth c T locs cells slots) (hlk : meth.locks = false) (hx : p.tables.exec = Jvm.exec) {pc : Nat} {Ls : Array Slot} {z : Int64} {rest : List Value} {Q : Option Value → Heap → List Loc → Prop} {C S : Nat} (hret : meth.sig.returnType = some .long)
    (hd : decode c.code pc = .ok (.lreturn, 1)) (hq : Q (some (.long z)) T.heap locs) (hC : cells ≤ C) (hS : slots ≤ S) : Wp p e below (Gd s Q C S) (T.setTop (mkF m pc Ls (.long z :: rest))) :=
  Wp.ret X hlk hx hret rfl (Or.inr (Or.inl ⟨rfl, rfl, z, rfl⟩)) hd hq hC hS
theorem Wp.retA (X : Stand p l e R s m args below meth c T locs cells slots) (hlk : meth.locks = false) (hx : p.tables.exec = Jvm.exec) {pc : Nat} {Ls : Array Slot} {w : Value} {t : FieldType} {rest : List Value} {Q : Option Value → Heap → List Loc → Prop} {C S : Nat} (hret : meth.sig.returnType = some t) (ht : t.isReference = true) (hw : w.isRef = true)
    (hd : decode c.code pc = .ok (.areturn, 1)) (hq : Q (some w) T.heap locs) (hC : cells ≤ C) (hS : slots ≤ S) : Wp p e below (Gd s Q C S) (T.setTop (mkF m pc Ls (w :: rest))) :=
  Wp.ret X hlk hx hret (by cases t <;> simp [FieldType.isReference] at ht <;> cases w <;> simp [Value.isRef] at hw <;> rfl) (Or.inr (Or.inr (Or.inr (Or.inr ⟨rfl, ht, hw⟩)))) hd hq hC hS
theorem Wp.retV (X : Stand p l e R s m args below meth c T locs cells slots) (hlk : meth.locks = false) (hx : p.tables.exec = Jvm.exec) {pc : Nat} {Ls : Array Slot} {Q : Option Value → Heap → List Loc → Prop} {C S : Nat} (hret : meth.sig.returnType = none)
    (hd : decode c.code pc = .ok (.return_, 1)) (hq : Q none T.heap locs) (hC : cells ≤ C) (hS : slots ≤ S) : Wp p e below (Gd s Q C S) (T.setTop (mkF m pc Ls [])) := by
  obtain ⟨fs, hr, hrun, hended, hW, hsame⟩ := X.leave (v := none) (fun _ => rfl) hlk
  exact ⟨_, _, X.returnOut hx hret hd hr, hrun, hended, _, _, rfl, hq, ⟨_, rfl⟩, hW, hsame.mono hC hS⟩
/-- a body's contract out of its Wp at pc 0 -/
theorem ofWp {y : MethodName} {bytes : ByteArray} {maxL : Nat} {ret : Option FieldType} {ws : List Jvm.Cond} {rm : Room} {as' : Array Value} {Z : State} {h0 : Heap} {Q : Option Value → Heap → List Loc → Prop} {C S : Nat} {Ls : Array Slot} (hpl : plainFor y = true) (ef : ∀ m, entryFrame m as' maxL = mkF m 0 Ls [])
    (H : ∀ (p : Program) (e : Env) (s : State) (m : MethodId) (below : List Frame) (meth : Method) (c : Code) (T : State), p.tables.exec = Jvm.exec → c.code = bytes → c.maxLocals = maxL → s.vm.findClass y.cls = some m.cls → meth.name = y.name → meth.locks = false → meth.sig.returnType = ret → Z.Warmed39 s.vm → Stand p l e rm s m as' below meth c T [] 0 0 → T.heap = h0 → Wp p e below (Gd s Q C S) (T.setTop (mkF m 0 Ls []))) :
    MetFree l y (head1 (Jvm.Cond.code y bytes maxL ret :: ws) rm) (fun a U => a = as' ∧ Z.Warmed39 U.vm ∧ U.heap = h0) (fun _ _ _ _ _ => True) (fun _ U o U' => ∃ v L, o = .returned v ∧ Q v U'.heap L ∧ FrameEnd U o U' L C S) := by
  refine MetFree.of_bodySF hpl hisR ?_
  intro p e s m args below meth c s₁ Bd hml0 hP hK
  obtain ⟨rfl, hZ, hh⟩ := hP
  have e0 : s₁.heap = h0 := by rw [← hh, Bd.state]; rfl
  have X0 : Stand p l e rm s m args below meth c s₁ [] 0 0 := Stand.of_body Bd
  have W := H p e s m below meth c s₁ Bd.exec Bd.bytes hml0 (findClass_of_methodNamed Bd.named) (name_of_methodNamed Bd.named Bd.method).1 Bd.notSynchronized Bd.returns hZ X0 e0
  rw [← ef m] at W
  obtain ⟨s₂, o, g1, g2, g3, g4⟩ := W
  exact ⟨s₂, o, g1, g2, g3, g4⟩
end OwnKit
def f1_0 (p0 : Int32) : Int32 := (if p0 = (32 : Int32) then (1 : Int32) else (if p0 = (9 : Int32) then (1 : Int32) else (if p0 = (10 : Int32) then (1 : Int32) else (if p0 = (13 : Int32) then (1 : Int32) else (0 : Int32)))))
theorem own_d1_0 : decode prog_44_method_16_code 0 = .ok (.iload_n 0, 1) := by decide +kernel
theorem own_d1_1 : decode prog_44_method_16_code 1 = .ok (.bipush 32, 2) := by decide +kernel
theorem own_d1_3 : decode prog_44_method_16_code 3 = .ok (.if_icmp .eq 21, 3) := by decide +kernel
theorem own_d1_6 : decode prog_44_method_16_code 6 = .ok (.iload_n 0, 1) := by decide +kernel
theorem own_d1_7 : decode prog_44_method_16_code 7 = .ok (.bipush 9, 2) := by decide +kernel
theorem own_d1_9 : decode prog_44_method_16_code 9 = .ok (.if_icmp .eq 15, 3) := by decide +kernel
theorem own_d1_12 : decode prog_44_method_16_code 12 = .ok (.iload_n 0, 1) := by decide +kernel
theorem own_d1_13 : decode prog_44_method_16_code 13 = .ok (.bipush 10, 2) := by decide +kernel
theorem own_d1_15 : decode prog_44_method_16_code 15 = .ok (.if_icmp .eq 9, 3) := by decide +kernel
theorem own_d1_18 : decode prog_44_method_16_code 18 = .ok (.iload_n 0, 1) := by decide +kernel
theorem own_d1_19 : decode prog_44_method_16_code 19 = .ok (.bipush 13, 2) := by decide +kernel
theorem own_d1_21 : decode prog_44_method_16_code 21 = .ok (.if_icmp .ne 7, 3) := by decide +kernel
theorem own_d1_24 : decode prog_44_method_16_code 24 = .ok (.iconst 1, 1) := by decide +kernel
theorem own_d1_25 : decode prog_44_method_16_code 25 = .ok (.goto 4, 3) := by decide +kernel
theorem own_d1_28 : decode prog_44_method_16_code 28 = .ok (.iconst 0, 1) := by decide +kernel
theorem own_d1_29 : decode prog_44_method_16_code 29 = .ok (.ireturn, 1) := by decide +kernel
theorem own_pl1 : plainFor (⟨"com/example/chyld/chyld/XmlChars", "isSpace", "(C)Z"⟩ : MethodName) = true := plainFor_of_name (by first | (simp [plainName, overriddenIn]; done) | decide +kernel)
theorem own_ef1 (m : MethodId) (p0 : Int32) : entryFrame m #[(.int p0)] 1 = mkF m 0 #[.val (.int p0)] [] := by first | (simp [entryFrame, mkF, argsToLocals, Value.category]; done) | rfl
def Qo1 (Z : State) (p0 : Int32)  (h0 : Heap) (n0 : Nat) (v : Option Value) (h : Heap) (L : List Loc) : Prop := v = some (.int (f1_0 p0)) ∧ Fr n0 L ∧ h = h0
set_option maxRecDepth 65536 in
set_option maxHeartbeats 40000000 in
theorem rm1 (l : Launch) (Z : State) (aw : Array Value) (hw : ∀ d ∈ tables_1, d.before aw Z = true) (ws : List Jvm.Cond) (p0 : Int32)  (h0 : Heap) (n0 : Nat) (Z0 : n0 ≤ h0.size)  :
    MetFree l (⟨"com/example/chyld/chyld/XmlChars", "isSpace", "(C)Z"⟩ : MethodName) (head1 (Jvm.Cond.code (⟨"com/example/chyld/chyld/XmlChars", "isSpace", "(C)Z"⟩ : MethodName) prog_44_method_16_code 1 (some .boolean) :: ws) ({ frames := 0, cells := 0, slots := 0, locals := 0 } : Room)) (fun a U => a = #[(.int p0)] ∧ Z.Warmed39 U.vm ∧ U.heap = h0) (fun _ _ _ _ _ => True) (fun _ U o U' => ∃ v L, o = .returned v ∧ (Qo1 Z p0 h0 n0) v U'.heap L ∧ FrameEnd U o U' L ({ frames := 0, cells := 0, slots := 0, locals := 0 } : Room).cells ({ frames := 0, cells := 0, slots := 0, locals := 0 } : Room).slots) := by
  refine ofWp (Q := Qo1 Z p0 h0 n0) own_pl1 (fun m => own_ef1 m p0) ?_
  intro p e s m below meth c T0 hx hby hml hown hnm hlk hret hZ X0 e0
  change s.vm.findClass "com/example/chyld/chyld/XmlChars" = some m.cls at hown
  have NF0 := Fr.nil n0
  have hv : (f1_0 p0) = (if p0 = (32 : Int32) then (1 : Int32) else (if p0 = (9 : Int32) then (1 : Int32) else (if p0 = (10 : Int32) then (1 : Int32) else (if p0 = (13 : Int32) then (1 : Int32) else (0 : Int32))))) := rfl
  refine Wp.via (fun _ k => XS.iloadN X0.here hx rfl (hb hby own_d1_0) rfl k) ?_
  show Wp p e below _ (T0.setTop (mkF m 1 #[.val (.int p0)] [(.int p0)]))
  refine Wp.via (fun _ k => XS.bipush X0.here hx rfl (hb hby own_d1_1) k) ?_
  show Wp p e below _ (T0.setTop (mkF m 3 #[.val (.int p0)] [(.int (32 : Int32)), (.int p0)]))
  by_cases hc1 : p0 = (32 : Int32)
  ·
    have hv1_ := hv.trans (if_pos hc1)
    refine Wp.via (fun _ k => XS.icmpYes X0.here hx rfl (pc0 := 3) (pc' := 24) rfl (hb hby own_d1_3) rfl (teq hc1).1 (by decide) (by decide) k) ?_
    show Wp p e below _ (T0.setTop (mkF m 24 #[.val (.int p0)] []))
    refine Wp.via (fun _ k => XS.iconst X0.here hx rfl (hb hby own_d1_24) k) ?_
    show Wp p e below _ (T0.setTop (mkF m 25 #[.val (.int p0)] [(.int (1 : Int32))]))
    refine Wp.via (fun _ k => XS.goto X0.here hx rfl (pc0 := 25) (pc' := 29) rfl (hb hby own_d1_25) (by decide) (by decide) k) ?_
    show Wp p e below _ (T0.setTop (mkF m 29 #[.val (.int p0)] [(.int (1 : Int32))]))
    exact Wp.retI X0 hlk hx hret (by simp) (by first | rfl | decide) (hb hby own_d1_29) ⟨by rw [hv1_], NF0, e0⟩ (by decide) (by decide)
  ·
    have hv1_ := hv.trans (if_neg hc1)
    refine Wp.via (fun _ k => XS.icmpNo X0.here hx rfl (hb hby own_d1_3) rfl (feq hc1).1 k) ?_
    show Wp p e below _ (T0.setTop (mkF m 6 #[.val (.int p0)] []))
    refine Wp.via (fun _ k => XS.iloadN X0.here hx rfl (hb hby own_d1_6) rfl k) ?_
    show Wp p e below _ (T0.setTop (mkF m 7 #[.val (.int p0)] [(.int p0)]))
    refine Wp.via (fun _ k => XS.bipush X0.here hx rfl (hb hby own_d1_7) k) ?_
    show Wp p e below _ (T0.setTop (mkF m 9 #[.val (.int p0)] [(.int (9 : Int32)), (.int p0)]))
    by_cases hc2 : p0 = (9 : Int32)
    ·
      have hv2_ := hv1_.trans (if_pos hc2)
      refine Wp.via (fun _ k => XS.icmpYes X0.here hx rfl (pc0 := 9) (pc' := 24) rfl (hb hby own_d1_9) rfl (teq hc2).1 (by decide) (by decide) k) ?_
      show Wp p e below _ (T0.setTop (mkF m 24 #[.val (.int p0)] []))
      refine Wp.via (fun _ k => XS.iconst X0.here hx rfl (hb hby own_d1_24) k) ?_
      show Wp p e below _ (T0.setTop (mkF m 25 #[.val (.int p0)] [(.int (1 : Int32))]))
      refine Wp.via (fun _ k => XS.goto X0.here hx rfl (pc0 := 25) (pc' := 29) rfl (hb hby own_d1_25) (by decide) (by decide) k) ?_
      show Wp p e below _ (T0.setTop (mkF m 29 #[.val (.int p0)] [(.int (1 : Int32))]))
      exact Wp.retI X0 hlk hx hret (by simp) (by first | rfl | decide) (hb hby own_d1_29) ⟨by rw [hv2_], NF0, e0⟩ (by decide) (by decide)
    ·
      have hv2_ := hv1_.trans (if_neg hc2)
      refine Wp.via (fun _ k => XS.icmpNo X0.here hx rfl (hb hby own_d1_9) rfl (feq hc2).1 k) ?_
      show Wp p e below _ (T0.setTop (mkF m 12 #[.val (.int p0)] []))
      refine Wp.via (fun _ k => XS.iloadN X0.here hx rfl (hb hby own_d1_12) rfl k) ?_
      show Wp p e below _ (T0.setTop (mkF m 13 #[.val (.int p0)] [(.int p0)]))
      refine Wp.via (fun _ k => XS.bipush X0.here hx rfl (hb hby own_d1_13) k) ?_
      show Wp p e below _ (T0.setTop (mkF m 15 #[.val (.int p0)] [(.int (10 : Int32)), (.int p0)]))
      by_cases hc3 : p0 = (10 : Int32)
      ·
        have hv3_ := hv2_.trans (if_pos hc3)
        refine Wp.via (fun _ k => XS.icmpYes X0.here hx rfl (pc0 := 15) (pc' := 24) rfl (hb hby own_d1_15) rfl (teq hc3).1 (by decide) (by decide) k) ?_
        show Wp p e below _ (T0.setTop (mkF m 24 #[.val (.int p0)] []))
        refine Wp.via (fun _ k => XS.iconst X0.here hx rfl (hb hby own_d1_24) k) ?_
        show Wp p e below _ (T0.setTop (mkF m 25 #[.val (.int p0)] [(.int (1 : Int32))]))
        refine Wp.via (fun _ k => XS.goto X0.here hx rfl (pc0 := 25) (pc' := 29) rfl (hb hby own_d1_25) (by decide) (by decide) k) ?_
        show Wp p e below _ (T0.setTop (mkF m 29 #[.val (.int p0)] [(.int (1 : Int32))]))
        exact Wp.retI X0 hlk hx hret (by simp) (by first | rfl | decide) (hb hby own_d1_29) ⟨by rw [hv3_], NF0, e0⟩ (by decide) (by decide)
      ·
        have hv3_ := hv2_.trans (if_neg hc3)
        refine Wp.via (fun _ k => XS.icmpNo X0.here hx rfl (hb hby own_d1_15) rfl (feq hc3).1 k) ?_
        show Wp p e below _ (T0.setTop (mkF m 18 #[.val (.int p0)] []))
        refine Wp.via (fun _ k => XS.iloadN X0.here hx rfl (hb hby own_d1_18) rfl k) ?_
        show Wp p e below _ (T0.setTop (mkF m 19 #[.val (.int p0)] [(.int p0)]))
        refine Wp.via (fun _ k => XS.bipush X0.here hx rfl (hb hby own_d1_19) k) ?_
        show Wp p e below _ (T0.setTop (mkF m 21 #[.val (.int p0)] [(.int (13 : Int32)), (.int p0)]))
        by_cases hc4 : p0 = (13 : Int32)
        ·
          have hv4_ := hv3_.trans (if_pos hc4)
          refine Wp.via (fun _ k => XS.icmpNo X0.here hx rfl (hb hby own_d1_21) rfl (teq hc4).2 k) ?_
          show Wp p e below _ (T0.setTop (mkF m 24 #[.val (.int p0)] []))
          refine Wp.via (fun _ k => XS.iconst X0.here hx rfl (hb hby own_d1_24) k) ?_
          show Wp p e below _ (T0.setTop (mkF m 25 #[.val (.int p0)] [(.int (1 : Int32))]))
          refine Wp.via (fun _ k => XS.goto X0.here hx rfl (pc0 := 25) (pc' := 29) rfl (hb hby own_d1_25) (by decide) (by decide) k) ?_
          show Wp p e below _ (T0.setTop (mkF m 29 #[.val (.int p0)] [(.int (1 : Int32))]))
          exact Wp.retI X0 hlk hx hret (by simp) (by first | rfl | decide) (hb hby own_d1_29) ⟨by rw [hv4_], NF0, e0⟩ (by decide) (by decide)
        ·
          have hv4_ := hv3_.trans (if_neg hc4)
          refine Wp.via (fun _ k => XS.icmpYes X0.here hx rfl (pc0 := 21) (pc' := 28) rfl (hb hby own_d1_21) rfl (feq hc4).2 (by decide) (by decide) k) ?_
          show Wp p e below _ (T0.setTop (mkF m 28 #[.val (.int p0)] []))
          refine Wp.via (fun _ k => XS.iconst X0.here hx rfl (hb hby own_d1_28) k) ?_
          show Wp p e below _ (T0.setTop (mkF m 29 #[.val (.int p0)] [(.int (0 : Int32))]))
          exact Wp.retI X0 hlk hx hret (by simp) (by first | rfl | decide) (hb hby own_d1_29) ⟨by rw [hv4_], NF0, e0⟩ (by decide) (by decide)
def f0_45 (x0 : Int32) (x1 : Int32) (x2 : Int32) (x3 : Int32) (y0 : Int32) : Int32 := (if (f1_0 x3) = y0 then (1 : Int32) else (0 : Int32))
def f0_44 (x0 : Int32) (x1 : Int32) (x2 : Int32) (x3 : Int32) : Int32 := (f0_45 x0 x1 x2 x3 (0 : Int32))
def f0_19 (x0 : Int32) (x1 : Int32) (x2 : Int32) : Int32 := (if x2 < (64 : Int32) then (if (lcmpW ((((4294977024 : Int64).toUInt64 >>> (x2 &&& 0x3f).toInt64.toUInt64).toInt64) &&& (1 : Int64)) (0 : Int64)) = (0 : Int32) then (f0_44 x0 x1 x2 (x2.toUInt32.toUInt16.toUInt32.toInt32)) else (f0_45 x0 x1 x2 (x2.toUInt32.toUInt16.toUInt32.toInt32) (1 : Int32))) else (f0_44 x0 x1 x2 (x2.toUInt32.toUInt16.toUInt32.toInt32)))
def f0_0 (p0 : Int32) (p1 : Int32) : Int32 := (if (p1 &&& (1 : Int32)) = (0 : Int32) then (f0_19 p0 p1 (p0 &&& (65535 : Int32))) else (f0_19 p0 p1 (p0 &&& (63 : Int32))))
theorem own_small : ∀ n : Fin 64, f0_19 0 0 (Int32.ofNat n.val) = 1 := by decide +kernel
theorem own_c (v : Int32) (h0 : 0 ≤ v.toInt) (h1 : v.toInt < 65536) : v.toUInt32.toUInt16.toUInt32.toInt32 = v := by
  have q := c_i2c v
  exact Int32.toInt_inj.mp (by omega)
theorem own_19 (p0 p1 v : Int32) (h0 : 0 ≤ v.toInt) (h1 : v.toInt < 65536) : f0_19 p0 p1 v = 1 := by
  by_cases h : v.toInt < 64
  · have e : v = Int32.ofNat v.toInt.toNat := by
      apply Int32.toInt_inj.mp
      rw [Int32.toInt_ofNat_of_lt (by omega)]
      omega
    have q := own_small ⟨v.toInt.toNat, by omega⟩
    rw [← e] at q
    exact q
  · have hn : ∀ z : Int32, z.toInt < 64 → ¬ v = z := fun z hz q => by subst q; omega
    unfold f0_19 f0_44 f0_45 f1_0
    rw [own_c v h0 h1, if_neg (by rw [Int32.lt_iff_toInt_lt]; exact h)]
    rw [if_neg (hn 32 (by decide)), if_neg (hn 9 (by decide)), if_neg (hn 10 (by decide)), if_neg (hn 13 (by decide))]
    rfl
theorem own_law (p0 p1 : Int32) : f0_0 p0 p1 = 1 := by
  have m1 : (p0 &&& (65535 : Int32)).toInt = p0.toInt % (2 ^ 16 : Nat) := c_mask p0 _ 16 (by decide) (by decide)
  have m2 : (p0 &&& (63 : Int32)).toInt = p0.toInt % (2 ^ 6 : Nat) := c_mask p0 _ 6 (by decide) (by decide)
  unfold f0_0
  split <;> exact own_19 _ _ _ (by omega) (by omega)

theorem own_pd0 : parseMethodDescriptor "(C)Z" = some ⟨[.char], some .boolean⟩ := by decide +kernel
theorem own_pl0 : plainFor (⟨"com/example/chyld/chyld/XmlCharsIsSpacePinLaw", "law", "(II)Z"⟩ : MethodName) = true := plainFor_of_name (by first | (simp [plainName, overriddenIn]; done) | decide +kernel)
theorem own_ef0 (m : MethodId) (p0 : Int32) (p1 : Int32) : entryFrame m #[(.int p0), (.int p1)] maxLocals = mkF m 0 #[.val (.int p0), .val (.int p1), .unset, .unset, .unset] [] := by first | (simp [entryFrame, mkF, argsToLocals, Value.category, maxLocals]; done) | rfl
def Qo0 (Z : State) (p0 : Int32) (p1 : Int32)  (h0 : Heap) (n0 : Nat) (v : Option Value) (h : Heap) (L : List Loc) : Prop := v = some (.int 1) ∧ Fr n0 L
set_option maxRecDepth 65536 in
set_option maxHeartbeats 40000000 in
theorem rm0 (l : Launch) (Z : State) (aw : Array Value) (hw : ∀ d ∈ tables_1, d.before aw Z = true) (ws : List Jvm.Cond) (p0 : Int32) (p1 : Int32)  (h0 : Heap) (n0 : Nat) (Z0 : n0 ≤ h0.size)  :
    MetFree l x (head1 (Jvm.Cond.code x code maxLocals ret :: ws) room_1) (fun a U => a = #[(.int p0), (.int p1)] ∧ Z.Warmed39 U.vm ∧ U.heap = h0) (fun _ _ _ _ _ => True) (fun _ U o U' => ∃ v L, o = .returned v ∧ (Qo0 Z p0 p1 h0 n0) v U'.heap L ∧ FrameEnd U o U' L 0 0) := by
  refine ofWp (Q := Qo0 Z p0 p1 h0 n0) own_pl0 (fun m => own_ef0 m p0 p1) ?_
  intro p e s m below meth c T0 hx hby hml hown hnm hlk hret hZ X0 e0
  change s.vm.findClass "com/example/chyld/chyld/XmlCharsIsSpacePinLaw" = some m.cls at hown
  have NF0 := Fr.nil n0
  have J45 : ∀ (T : State) (locs : List Loc) (cells slots : Nat) (X : Stand p l e room_1 s m #[(.int p0), (.int p1)] below meth c T locs cells slots) (eT : T.heap = h0) (NF : Fr n0 locs) (hC : cells ≤ 0) (hS : slots ≤ 0) (x0 : Int32) (x1 : Int32) (x2 : Int32) (x3 : Int32) (y0 : Int32) , (f0_0 p0 p1) = (f0_45 x0 x1 x2 x3 y0) → Wp p e below (Gd s (Qo0 Z p0 p1 h0 n0) 0 0) (T.setTop (mkF m 45 #[.val (.int x0), .val (.int x1), .val (.int x2), .val (.int x3), .unset] [(.int y0)])) := by
    intro T locs cells slots X eT NF hC hS x0 x1 x2 x3 y0 hv
    have hv1 : (f0_0 p0 p1) = (if (f1_0 x3) = y0 then (1 : Int32) else (0 : Int32)) := hv
    refine Wp.via (fun _ k => XS.istore X.here hx rfl (hb hby at_45) rfl (l' := #[.val (.int x0), .val (.int x1), .val (.int x2), .val (.int x3), .val (.int y0)]) rfl k) ?_
    show Wp p e below _ (T.setTop (mkF m 47 #[.val (.int x0), .val (.int x1), .val (.int x2), .val (.int x3), .val (.int y0)] []))
    refine Wp.via (fun _ k => XS.iloadN X.here hx rfl (hb hby at_47) rfl k) ?_
    show Wp p e below _ (T.setTop (mkF m 48 #[.val (.int x0), .val (.int x1), .val (.int x2), .val (.int x3), .val (.int y0)] [(.int x3)]))
    obtain ⟨_, _, ⟨T2, L2, k2, n2⟩, -, X2, ⟨Lc2, hQ2, l2, y2, z2⟩, st2⟩ := Jvm.LawKit.callS X hx (y := (⟨"com/example/chyld/chyld/XmlChars", "isSpace", "(C)Z"⟩ : MethodName)) hown (mvT hZ (hw _ (List.mem_of_getElem? (i := 1) rfl))) (mvT hZ (hw _ (List.mem_of_getElem? (i := 2) rfl))) (mvT hZ (hw _ (List.mem_of_getElem? (i := 3) rfl))) (mvT hZ (hw _ (List.mem_of_getElem? (i := 4) rfl))) (by decide) (backOf (W := 0) (rm1 l Z aw hw [] x3  h0 n0 Z0 ) hZ (hw _ (List.mem_of_getElem? (i := 4) rfl)) (hw _ (List.mem_of_getElem? (i := 3) rfl)) (by decide) (by decide)) (g := (mkF m 48 #[.val (.int x0), .val (.int x1), .val (.int x2), .val (.int x3), .val (.int y0)] [(.int x3)])) rfl (by rw [hml]; rfl) (argsL := [(.int x3)]) (rest := []) (lenOf own_pd0 rfl) rfl (by show 2 * 0 + _ ≤ _; exact Nat.le_of_eq rfl) (hb hby at_48) (fun _ _ => ⟨rfl, eT, (show cells + 0 ≤ room_1.cells from Nat.le_trans (by omega : cells + 0 ≤ 0) (by decide)), (show slots + 0 ≤ room_1.slots from Nat.le_trans (by omega : slots + 0 ≤ 0) (by decide))⟩)
    dsimp only [Pt.U, Pt.locs, Pt.cells, Pt.slots] at X2 l2 y2 z2 st2 hQ2
    subst l2 y2 z2
    obtain ⟨rfl, N2, e2⟩ := hQ2
    have NF2 := Fr.app NF N2
    refine Wp.via st2 ?_
    show Wp p e below _ (T2.setTop (mkF m 51 #[.val (.int x0), .val (.int x1), .val (.int x2), .val (.int x3), .val (.int y0)] [(.int (f1_0 x3))]))
    refine Wp.via (fun _ k => XS.iload X2.here hx rfl (hb hby at_51) rfl k) ?_
    show Wp p e below _ (T2.setTop (mkF m 53 #[.val (.int x0), .val (.int x1), .val (.int x2), .val (.int x3), .val (.int y0)] [(.int y0), (.int (f1_0 x3))]))
    by_cases hc3 : (f1_0 x3) = y0
    ·
      have hv3_ := hv1.trans (if_pos hc3)
      refine Wp.via (fun _ k => XS.icmpNo X2.here hx rfl (hb hby at_53) rfl (teq hc3).2 k) ?_
      show Wp p e below _ (T2.setTop (mkF m 56 #[.val (.int x0), .val (.int x1), .val (.int x2), .val (.int x3), .val (.int y0)] []))
      refine Wp.via (fun _ k => XS.iconst X2.here hx rfl (hb hby at_56) k) ?_
      show Wp p e below _ (T2.setTop (mkF m 57 #[.val (.int x0), .val (.int x1), .val (.int x2), .val (.int x3), .val (.int y0)] [(.int (1 : Int32))]))
      refine Wp.via (fun _ k => XS.goto X2.here hx rfl (pc0 := 57) (pc' := 61) rfl (hb hby at_57) (by decide) (by decide) k) ?_
      show Wp p e below _ (T2.setTop (mkF m 61 #[.val (.int x0), .val (.int x1), .val (.int x2), .val (.int x3), .val (.int y0)] [(.int (1 : Int32))]))
      exact Wp.retI X2 hlk hx hret (by simp) (by first | rfl | decide) (hb hby at_61) ⟨by rw [← hv3_, own_law], NF2⟩ (by omega) (by omega)
    ·
      have hv3_ := hv1.trans (if_neg hc3)
      refine Wp.via (fun _ k => XS.icmpYes X2.here hx rfl (pc0 := 53) (pc' := 60) rfl (hb hby at_53) rfl (feq hc3).2 (by decide) (by decide) k) ?_
      show Wp p e below _ (T2.setTop (mkF m 60 #[.val (.int x0), .val (.int x1), .val (.int x2), .val (.int x3), .val (.int y0)] []))
      refine Wp.via (fun _ k => XS.iconst X2.here hx rfl (hb hby at_60) k) ?_
      show Wp p e below _ (T2.setTop (mkF m 61 #[.val (.int x0), .val (.int x1), .val (.int x2), .val (.int x3), .val (.int y0)] [(.int (0 : Int32))]))
      exact Wp.retI X2 hlk hx hret (by simp) (by first | rfl | decide) (hb hby at_61) ⟨by rw [← hv3_, own_law], NF2⟩ (by omega) (by omega)
  have J44 : ∀ (T : State) (locs : List Loc) (cells slots : Nat) (X : Stand p l e room_1 s m #[(.int p0), (.int p1)] below meth c T locs cells slots) (eT : T.heap = h0) (NF : Fr n0 locs) (hC : cells ≤ 0) (hS : slots ≤ 0) (x0 : Int32) (x1 : Int32) (x2 : Int32) (x3 : Int32) , (f0_0 p0 p1) = (f0_44 x0 x1 x2 x3) → Wp p e below (Gd s (Qo0 Z p0 p1 h0 n0) 0 0) (T.setTop (mkF m 44 #[.val (.int x0), .val (.int x1), .val (.int x2), .val (.int x3), .unset] [])) := by
    intro T locs cells slots X eT NF hC hS x0 x1 x2 x3 hv
    have hv4 : (f0_0 p0 p1) = (f0_45 x0 x1 x2 x3 (0 : Int32)) := hv
    refine Wp.via (fun _ k => XS.iconst X.here hx rfl (hb hby at_44) k) ?_
    show Wp p e below _ (T.setTop (mkF m 45 #[.val (.int x0), .val (.int x1), .val (.int x2), .val (.int x3), .unset] [(.int (0 : Int32))]))
    exact J45 T _ _ _ X eT NF (by omega) (by omega) x0 x1 x2 x3 (0 : Int32) hv4
  have J19 : ∀ (T : State) (locs : List Loc) (cells slots : Nat) (X : Stand p l e room_1 s m #[(.int p0), (.int p1)] below meth c T locs cells slots) (eT : T.heap = h0) (NF : Fr n0 locs) (hC : cells ≤ 0) (hS : slots ≤ 0) (x0 : Int32) (x1 : Int32) (x2 : Int32) , (f0_0 p0 p1) = (f0_19 x0 x1 x2) → Wp p e below (Gd s (Qo0 Z p0 p1 h0 n0) 0 0) (T.setTop (mkF m 19 #[.val (.int x0), .val (.int x1), .val (.int x2), .unset, .unset] [])) := by
    intro T locs cells slots X eT NF hC hS x0 x1 x2 hv
    have hv5 : (f0_0 p0 p1) = (if x2 < (64 : Int32) then (if (lcmpW ((((4294977024 : Int64).toUInt64 >>> (x2 &&& 0x3f).toInt64.toUInt64).toInt64) &&& (1 : Int64)) (0 : Int64)) = (0 : Int32) then (f0_44 x0 x1 x2 (x2.toUInt32.toUInt16.toUInt32.toInt32)) else (f0_45 x0 x1 x2 (x2.toUInt32.toUInt16.toUInt32.toInt32) (1 : Int32))) else (f0_44 x0 x1 x2 (x2.toUInt32.toUInt16.toUInt32.toInt32))) := hv
    refine Wp.via (fun _ k => XS.iloadN X.here hx rfl (hb hby at_19) rfl k) ?_
    show Wp p e below _ (T.setTop (mkF m 20 #[.val (.int x0), .val (.int x1), .val (.int x2), .unset, .unset] [(.int x2)]))
    refine Wp.via (fun _ k => XS.i2c X.here hx rfl (hb hby at_20) rfl k) ?_
    show Wp p e below _ (T.setTop (mkF m 21 #[.val (.int x0), .val (.int x1), .val (.int x2), .unset, .unset] [(.int (x2.toUInt32.toUInt16.toUInt32.toInt32))]))
    refine Wp.via (fun _ k => XS.istoreN X.here hx rfl (hb hby at_21) rfl (l' := #[.val (.int x0), .val (.int x1), .val (.int x2), .val (.int (x2.toUInt32.toUInt16.toUInt32.toInt32)), .unset]) rfl k) ?_
    show Wp p e below _ (T.setTop (mkF m 22 #[.val (.int x0), .val (.int x1), .val (.int x2), .val (.int (x2.toUInt32.toUInt16.toUInt32.toInt32)), .unset] []))
    refine Wp.via (fun _ k => XS.iloadN X.here hx rfl (hb hby at_22) rfl k) ?_
    show Wp p e below _ (T.setTop (mkF m 23 #[.val (.int x0), .val (.int x1), .val (.int x2), .val (.int (x2.toUInt32.toUInt16.toUInt32.toInt32)), .unset] [(.int x2)]))
    refine Wp.via (fun _ k => XS.bipush X.here hx rfl (hb hby at_23) k) ?_
    show Wp p e below _ (T.setTop (mkF m 25 #[.val (.int x0), .val (.int x1), .val (.int x2), .val (.int (x2.toUInt32.toUInt16.toUInt32.toInt32)), .unset] [(.int (64 : Int32)), (.int x2)]))
    by_cases hc6 : x2 < (64 : Int32)
    ·
      have hv6_ := hv5.trans (if_pos hc6)
      refine Wp.via (fun _ k => XS.icmpNo X.here hx rfl (hb hby at_25) rfl (tlt hc6).2.1 k) ?_
      show Wp p e below _ (T.setTop (mkF m 28 #[.val (.int x0), .val (.int x1), .val (.int x2), .val (.int (x2.toUInt32.toUInt16.toUInt32.toInt32)), .unset] []))
      refine Wp.via (fun _ k => X.ldc2Long hx hown (mvT hZ (hw _ (List.mem_of_getElem? (i := 0) rfl))) (g := (mkF m 28 #[.val (.int x0), .val (.int x1), .val (.int x2), .val (.int (x2.toUInt32.toUInt16.toUInt32.toInt32)), .unset] [])) rfl (hb hby at_28) _ k) ?_
      show Wp p e below _ (T.setTop (mkF m 31 #[.val (.int x0), .val (.int x1), .val (.int x2), .val (.int (x2.toUInt32.toUInt16.toUInt32.toInt32)), .unset] [(.long (4294977024 : Int64))]))
      refine Wp.via (fun _ k => XS.iloadN X.here hx rfl (hb hby at_31) rfl k) ?_
      show Wp p e below _ (T.setTop (mkF m 32 #[.val (.int x0), .val (.int x1), .val (.int x2), .val (.int (x2.toUInt32.toUInt16.toUInt32.toInt32)), .unset] [(.int x2), (.long (4294977024 : Int64))]))
      refine Wp.via (fun _ k => XS.lushr X.here hx rfl (hb hby at_32) rfl k) ?_
      show Wp p e below _ (T.setTop (mkF m 33 #[.val (.int x0), .val (.int x1), .val (.int x2), .val (.int (x2.toUInt32.toUInt16.toUInt32.toInt32)), .unset] [(.long (((4294977024 : Int64).toUInt64 >>> (x2 &&& 0x3f).toInt64.toUInt64).toInt64))]))
      refine Wp.via (fun _ k => XS.lconst X.here hx rfl (hb hby at_33) k) ?_
      show Wp p e below _ (T.setTop (mkF m 34 #[.val (.int x0), .val (.int x1), .val (.int x2), .val (.int (x2.toUInt32.toUInt16.toUInt32.toInt32)), .unset] [(.long (1 : Int64)), (.long (((4294977024 : Int64).toUInt64 >>> (x2 &&& 0x3f).toInt64.toUInt64).toInt64))]))
      refine Wp.via (fun _ k => XS.land X.here hx rfl (hb hby at_34) rfl k) ?_
      show Wp p e below _ (T.setTop (mkF m 35 #[.val (.int x0), .val (.int x1), .val (.int x2), .val (.int (x2.toUInt32.toUInt16.toUInt32.toInt32)), .unset] [(.long ((((4294977024 : Int64).toUInt64 >>> (x2 &&& 0x3f).toInt64.toUInt64).toInt64) &&& (1 : Int64)))]))
      refine Wp.via (fun _ k => XS.lconst X.here hx rfl (hb hby at_35) k) ?_
      show Wp p e below _ (T.setTop (mkF m 36 #[.val (.int x0), .val (.int x1), .val (.int x2), .val (.int (x2.toUInt32.toUInt16.toUInt32.toInt32)), .unset] [(.long (0 : Int64)), (.long ((((4294977024 : Int64).toUInt64 >>> (x2 &&& 0x3f).toInt64.toUInt64).toInt64) &&& (1 : Int64)))]))
      refine Wp.via (fun _ k => XS.lcmp X.here hx rfl (hb hby at_36) rfl k) ?_
      show Wp p e below _ (T.setTop (mkF m 37 #[.val (.int x0), .val (.int x1), .val (.int x2), .val (.int (x2.toUInt32.toUInt16.toUInt32.toInt32)), .unset] [(.int (lcmpW ((((4294977024 : Int64).toUInt64 >>> (x2 &&& 0x3f).toInt64.toUInt64).toInt64) &&& (1 : Int64)) (0 : Int64)))]))
      by_cases hc7 : (lcmpW ((((4294977024 : Int64).toUInt64 >>> (x2 &&& 0x3f).toInt64.toUInt64).toInt64) &&& (1 : Int64)) (0 : Int64)) = (0 : Int32)
      ·
        have hv7_ := hv6_.trans (if_pos hc7)
        refine Wp.via (fun _ k => XS.ifYes X.here hx rfl (pc0 := 37) (pc' := 44) rfl (hb hby at_37) rfl ((if0 _ _).trans (teq hc7).1) (by decide) (by decide) k) ?_
        show Wp p e below _ (T.setTop (mkF m 44 #[.val (.int x0), .val (.int x1), .val (.int x2), .val (.int (x2.toUInt32.toUInt16.toUInt32.toInt32)), .unset] []))
        exact J44 T _ _ _ X eT NF (by omega) (by omega) x0 x1 x2 (x2.toUInt32.toUInt16.toUInt32.toInt32) hv7_
      ·
        have hv7_ := hv6_.trans (if_neg hc7)
        refine Wp.via (fun _ k => XS.ifNo X.here hx rfl (hb hby at_37) rfl ((if0 _ _).trans (feq hc7).1) k) ?_
        show Wp p e below _ (T.setTop (mkF m 40 #[.val (.int x0), .val (.int x1), .val (.int x2), .val (.int (x2.toUInt32.toUInt16.toUInt32.toInt32)), .unset] []))
        refine Wp.via (fun _ k => XS.iconst X.here hx rfl (hb hby at_40) k) ?_
        show Wp p e below _ (T.setTop (mkF m 41 #[.val (.int x0), .val (.int x1), .val (.int x2), .val (.int (x2.toUInt32.toUInt16.toUInt32.toInt32)), .unset] [(.int (1 : Int32))]))
        refine Wp.via (fun _ k => XS.goto X.here hx rfl (pc0 := 41) (pc' := 45) rfl (hb hby at_41) (by decide) (by decide) k) ?_
        show Wp p e below _ (T.setTop (mkF m 45 #[.val (.int x0), .val (.int x1), .val (.int x2), .val (.int (x2.toUInt32.toUInt16.toUInt32.toInt32)), .unset] [(.int (1 : Int32))]))
        exact J45 T _ _ _ X eT NF (by omega) (by omega) x0 x1 x2 (x2.toUInt32.toUInt16.toUInt32.toInt32) (1 : Int32) hv7_
    ·
      have hv6_ := hv5.trans (if_neg hc6)
      refine Wp.via (fun _ k => XS.icmpYes X.here hx rfl (pc0 := 25) (pc' := 44) rfl (hb hby at_25) rfl (flt hc6).2.1 (by decide) (by decide) k) ?_
      show Wp p e below _ (T.setTop (mkF m 44 #[.val (.int x0), .val (.int x1), .val (.int x2), .val (.int (x2.toUInt32.toUInt16.toUInt32.toInt32)), .unset] []))
      exact J44 T _ _ _ X eT NF (by omega) (by omega) x0 x1 x2 (x2.toUInt32.toUInt16.toUInt32.toInt32) hv6_
  have hv : (f0_0 p0 p1) = (if (p1 &&& (1 : Int32)) = (0 : Int32) then (f0_19 p0 p1 (p0 &&& (65535 : Int32))) else (f0_19 p0 p1 (p0 &&& (63 : Int32)))) := rfl
  refine Wp.via (fun _ k => XS.iloadN X0.here hx rfl (hb hby at_0) rfl k) ?_
  show Wp p e below _ (T0.setTop (mkF m 1 #[.val (.int p0), .val (.int p1), .unset, .unset, .unset] [(.int p1)]))
  refine Wp.via (fun _ k => XS.iconst X0.here hx rfl (hb hby at_1) k) ?_
  show Wp p e below _ (T0.setTop (mkF m 2 #[.val (.int p0), .val (.int p1), .unset, .unset, .unset] [(.int (1 : Int32)), (.int p1)]))
  refine Wp.via (fun _ k => XS.iand X0.here hx rfl (hb hby at_2) rfl k) ?_
  show Wp p e below _ (T0.setTop (mkF m 3 #[.val (.int p0), .val (.int p1), .unset, .unset, .unset] [(.int (p1 &&& (1 : Int32)))]))
  by_cases hc8 : (p1 &&& (1 : Int32)) = (0 : Int32)
  ·
    have hv8_ := hv.trans (if_pos hc8)
    refine Wp.via (fun _ k => XS.ifYes X0.here hx rfl (pc0 := 3) (pc' := 14) rfl (hb hby at_3) rfl ((if0 _ _).trans (teq hc8).1) (by decide) (by decide) k) ?_
    show Wp p e below _ (T0.setTop (mkF m 14 #[.val (.int p0), .val (.int p1), .unset, .unset, .unset] []))
    refine Wp.via (fun _ k => XS.iloadN X0.here hx rfl (hb hby at_14) rfl k) ?_
    show Wp p e below _ (T0.setTop (mkF m 15 #[.val (.int p0), .val (.int p1), .unset, .unset, .unset] [(.int p0)]))
    refine Wp.via (fun _ k => X0.ldcInt hx hown (mvT hZ (hw _ (List.mem_of_getElem? (i := 5) rfl))) (g := (mkF m 15 #[.val (.int p0), .val (.int p1), .unset, .unset, .unset] [(.int p0)])) rfl (hb hby at_15) _ k) ?_
    show Wp p e below _ (T0.setTop (mkF m 17 #[.val (.int p0), .val (.int p1), .unset, .unset, .unset] [(.int (65535 : Int32)), (.int p0)]))
    refine Wp.via (fun _ k => XS.iand X0.here hx rfl (hb hby at_17) rfl k) ?_
    show Wp p e below _ (T0.setTop (mkF m 18 #[.val (.int p0), .val (.int p1), .unset, .unset, .unset] [(.int (p0 &&& (65535 : Int32)))]))
    refine Wp.via (fun _ k => XS.istoreN X0.here hx rfl (hb hby at_18) rfl (l' := #[.val (.int p0), .val (.int p1), .val (.int (p0 &&& (65535 : Int32))), .unset, .unset]) rfl k) ?_
    show Wp p e below _ (T0.setTop (mkF m 19 #[.val (.int p0), .val (.int p1), .val (.int (p0 &&& (65535 : Int32))), .unset, .unset] []))
    exact J19 T0 _ _ _ X0 e0 NF0 (by decide) (by decide) p0 p1 (p0 &&& (65535 : Int32)) hv8_
  ·
    have hv8_ := hv.trans (if_neg hc8)
    refine Wp.via (fun _ k => XS.ifNo X0.here hx rfl (hb hby at_3) rfl ((if0 _ _).trans (feq hc8).1) k) ?_
    show Wp p e below _ (T0.setTop (mkF m 6 #[.val (.int p0), .val (.int p1), .unset, .unset, .unset] []))
    refine Wp.via (fun _ k => XS.iloadN X0.here hx rfl (hb hby at_6) rfl k) ?_
    show Wp p e below _ (T0.setTop (mkF m 7 #[.val (.int p0), .val (.int p1), .unset, .unset, .unset] [(.int p0)]))
    refine Wp.via (fun _ k => XS.bipush X0.here hx rfl (hb hby at_7) k) ?_
    show Wp p e below _ (T0.setTop (mkF m 9 #[.val (.int p0), .val (.int p1), .unset, .unset, .unset] [(.int (63 : Int32)), (.int p0)]))
    refine Wp.via (fun _ k => XS.iand X0.here hx rfl (hb hby at_9) rfl k) ?_
    show Wp p e below _ (T0.setTop (mkF m 10 #[.val (.int p0), .val (.int p1), .unset, .unset, .unset] [(.int (p0 &&& (63 : Int32)))]))
    refine Wp.via (fun _ k => XS.istoreN X0.here hx rfl (hb hby at_10) rfl (l' := #[.val (.int p0), .val (.int p1), .val (.int (p0 &&& (63 : Int32))), .unset, .unset]) rfl k) ?_
    show Wp p e below _ (T0.setTop (mkF m 11 #[.val (.int p0), .val (.int p1), .val (.int (p0 &&& (63 : Int32))), .unset, .unset] []))
    refine Wp.via (fun _ k => XS.goto X0.here hx rfl (pc0 := 11) (pc' := 19) rfl (hb hby at_11) (by decide) (by decide) k) ?_
    show Wp p e below _ (T0.setTop (mkF m 19 #[.val (.int p0), .val (.int p1), .val (.int (p0 &&& (63 : Int32))), .unset, .unset] []))
    exact J19 T0 _ _ _ X0 e0 NF0 (by decide) (by decide) p0 p1 (p0 &&& (63 : Int32)) hv8_
set_option maxRecDepth 65536 in
set_option maxHeartbeats 40000000 in
theorem comes_1 {Post : Tables → Env → Array Value → State → Outcome → State → Prop} (hpost : ∀ tb e args s v u, (limb_1_1.after args s (.returned v) u = true ∧ limb_1_2.after args s (.returned v) u = true ∧ True) → FrameEnd s (.returned v) u (Jvm.fieldLocs frame_1_writes args s ++ Jvm.arrayLocs frame_1_arrays args s ++ Jvm.staticLocs frame_1_statics s) 0 0 → Post tb e args s (.returned v) u) :
    ArmFor flags0 classFile x code maxLocals ret World_1 tables_1 room_1 Calls_1 rest_1 Pre_1 Post := by
  intro l hfl _ _ p e ha hc hk s m args below hf hA hF happ hP
  obtain ⟨hcalls, hrest, hpre⟩ := hP
  obtain ⟨-, -, -, hnamed, -, -, -, hat⟩ := (Spec.applies_iff hf).mp happ
  obtain ⟨hg, hn⟩ := and_e (Cond.before_iff.mp (show (Jvm.Cond.and given_1 narrow_1).before args s = true from hpre))
  obtain ⟨g1, g2⟩ := and_e hg
  obtain ⟨g3, g4⟩ := and_e g2
  obtain ⟨w0, w1, rfl⟩ : ∃ w0 w1 : Value, args = #[w0, w1] := by
    have hs : args.size = 2 := by simpa [Cond.value, given_1] using g1
    obtain ⟨L⟩ := args
    match L, hs with
    | [w0, w1], _ => exact ⟨w0, w1, rfl⟩
  have hw := fun d (hd : d ∈ tables_1) => atoms_spec (ws := Jvm.Cond.code x code maxLocals ret :: tables_1) hat d (List.mem_cons_of_mem _ hd)
  obtain ⟨i0, ei0⟩ := is_v g3
  obtain rfl : w0 = (.int i0) := Option.some.inj ei0
  obtain ⟨i1, ei1⟩ := is_v g4
  obtain rfl : w1 = (.int i1) := Option.some.inj ei1
  obtain ⟨n, o, h1, h2, h3, _, L, rfl, ⟨rfl, N⟩, hq⟩ := rm0 l s _ hw tables_1 i0 i1 s.heap s.heap.size (Nat.le_refl _)  p e ha hc hk s m _ below hf ((Spec.applies_iff_loose hf).mp happ).1 ⟨rfl, State.Warmed39.refl s, rfl⟩ trivial
  refine ⟨n, _, h1, h2, h3, hpost _ _ _ _ _ _ ⟨Cond.after_iff.mpr rfl, Cond.after_iff.mpr (eq_i res_at (Term.int_eval (1)) rfl), trivial⟩ ⟨hq.1, hq.2.1, (hq.2.2.sift fun y hy => Or.inr (N y hy)).mono (by decide) (by decide)⟩⟩
theorem main_1_1 : Claimed_1_1 := comes_1 fun _ _ _ _ _ _ h hF => ⟨h.1, hF⟩
theorem main_1_2 : Claimed_1_2 := comes_1 fun _ _ _ _ _ _ h hF => ⟨h.2.1, hF⟩
end Jvm.Pilot.@@N@@
namespace Jvm.Pilot.@@N@@
open Jvm Jvm.ClassFile Sem Op Lib Jvm.Free Jvm.Stand Jvm.Pilot.@@N@@.Jvm.D
/-! MADE BY PROGRAM (witnessworld.py) out of the Statement's table words and the real class files: 9 classes; the members and pool entries that the words name. The judged class is class 1, her method 1. -/
namespace start1
open Jvm.ClassFile
def u (s : String) : CpInfo := .utf8 (stringToUtf16 s)
/-- a pool by its gaps: so many unusable entries, then the entry; so many at the end -/
def gap : Nat → List CpInfo → List CpInfo
  | 0, r => r
  | n + 1, r => .unusable :: gap n r
def poolList (es : List (Nat × CpInfo)) (last : Nat) : List CpInfo := es.foldr (fun e r => gap e.1 (e.2 :: r)) (gap last [])
def pool (es : List (Nat × CpInfo)) (last : Nat) : Array CpInfo := ⟨poolList es last⟩
def fileOf (pool : Array CpInfo) (this : Nat) (attrs : Array Attribute := #[]) (ms : Array MethodInfo := #[]) (fl : Nat := 33) (sup : Nat := 0) (ifs : Array Nat := #[]) (fds : Array FieldInfo := #[]) : ClassFile where
  minorVersion := 0
  majorVersion := 65
  constantPool := pool
  accessFlags := fl
  thisClass := this
  superClass := sup
  interfaces := ifs
  fields := fds
  methods := ms
  attributes := attrs
def plain (name : String) (sup : Option ClassId) : Class where
  name := name
  kind := .ordinary
  loader := none
  accessFlags := 33
  super := sup
  interfaces := #[]
  cf := none
  fields := #[]
  methods := #[]
  instanceTypes := #[]
  staticTypes := #[]
  resolved := #[]
  callSites := []
  init := .initialized
  statics := none
  mirror := none

def pool0 : Array CpInfo := pool [(5, u "<init>"), (0, u "()V"), (1, .class_ 10), (1, u "java/lang/Object")] 113

def k0m0 : Method := { name := "<init>", desc := "()V", sig := { parameters := [], returnType := none }, accessFlags := 1, code := none }
/-- java/lang/Object -/
def k0 : Class := { plain "java/lang/Object" none with
  accessFlags := 33
  interfaces := #[]
  cf := some (fileOf pool0 8 #[] #[{ accessFlags := 1, nameIndex := 5, descriptorIndex := 6, attributes := #[] }] 33 0 #[] #[])
  fields := #[]
  methods := #[k0m0]
  instanceTypes := #[]
  staticTypes := #[]
  resolved := Array.replicate 124 none
  statics := none }

def pool1 : Array CpInfo := pool [(2, .class_ 4), (1, u "java/lang/Object"), (0, u "<init>"), (0, u "()V"), (0, .integer 65535), (0, .class_ 9), (0, u "com/example/chyld/chyld/XmlCharsIsSpacePinLaw"), (0, .long 4294977024), (1, .methodref 13 14), (0, .class_ 15), (0, .nameAndType 16 17), (0, u "com/example/chyld/chyld/XmlChars"), (0, u "isSpace"), (0, u "(C)Z"), (0, u "S_MASK"), (0, u "J"), (3, u "law"), (0, u "(II)Z")] 3

def k1m0 : Method := { name := "<init>", desc := "()V", sig := { parameters := [], returnType := none }, accessFlags := 2, code := none }
def k1c1 : Code := { maxStack := 4, maxLocals := 5, code := code, exceptionTable := #[], attributes := #[] }
def k1m1 : Method := { name := "law", desc := "(II)Z", sig := { parameters := [.int, .int], returnType := some .boolean }, accessFlags := 9, code := some k1c1 }
/-- com/example/chyld/chyld/XmlCharsIsSpacePinLaw -/
def k1 : Class := { plain "com/example/chyld/chyld/XmlCharsIsSpacePinLaw" (some 0) with
  accessFlags := 49
  interfaces := #[]
  cf := some (fileOf pool1 8 #[] #[{ accessFlags := 2, nameIndex := 5, descriptorIndex := 6, attributes := #[] }, { accessFlags := 9, nameIndex := 23, descriptorIndex := 24, attributes := #[] }] 49 2 #[] #[{ accessFlags := 26, nameIndex := 18, descriptorIndex := 19, attributes := #[] }])
  fields := #[{ name := "S_MASK", type := .long, accessFlags := 26, slot := 0, constantValue := 0 }]
  methods := #[k1m0, k1m1]
  instanceTypes := #[]
  staticTypes := #[.long]
  resolved := Array.replicate 28 none
  statics := none }

def pool2 : Array CpInfo := pool [(2, .class_ 4), (1, u "java/lang/Object"), (0, u "<init>"), (0, u "()V"), (10, .class_ 18), (0, u "com/example/chyld/chyld/XmlChars"), (12, u "STARTS_NAME"), (0, u "[J"), (10, u "CONTINUES_NAME"), (66, u "isSpace"), (0, u "(C)Z"), (61, u "NAME_START"), (0, u "[I"), (2, u "NAME_REST"), (5, u "MAX_NAME_LENGTH"), (0, u "I"), (2, u "QUOTED_START")] 42

def k2m0 : Method := { name := "<init>", desc := "()V", sig := { parameters := [], returnType := none }, accessFlags := 2, code := none }
def k2c1 : Code := { maxStack := 2, maxLocals := 1, code := prog_44_method_16_code, exceptionTable := #[], attributes := #[] }
def k2m1 : Method := { name := "isSpace", desc := "(C)Z", sig := { parameters := [.char], returnType := some .boolean }, accessFlags := 8, code := some k2c1 }
/-- com/example/chyld/chyld/XmlChars -/
def k2 : Class := { plain "com/example/chyld/chyld/XmlChars" (some 0) with
  accessFlags := 48
  interfaces := #[]
  cf := some (fileOf pool2 17 #[] #[{ accessFlags := 2, nameIndex := 5, descriptorIndex := 6, attributes := #[] }, { accessFlags := 8, nameIndex := 110, descriptorIndex := 111, attributes := #[] }] 48 2 #[] #[{ accessFlags := 24, nameIndex := 183, descriptorIndex := 184, attributes := #[] }, { accessFlags := 26, nameIndex := 187, descriptorIndex := 184, attributes := #[] }, { accessFlags := 26, nameIndex := 173, descriptorIndex := 174, attributes := #[] }, { accessFlags := 26, nameIndex := 177, descriptorIndex := 174, attributes := #[] }, { accessFlags := 26, nameIndex := 31, descriptorIndex := 32, attributes := #[] }, { accessFlags := 26, nameIndex := 43, descriptorIndex := 32, attributes := #[] }])
  fields := #[{ name := "MAX_NAME_LENGTH", type := .int, accessFlags := 24, slot := 0, constantValue := 0 }, { name := "QUOTED_START", type := .int, accessFlags := 26, slot := 1, constantValue := 0 }, { name := "NAME_START", type := (.array .int), accessFlags := 26, slot := 2, constantValue := 0 }, { name := "NAME_REST", type := (.array .int), accessFlags := 26, slot := 3, constantValue := 0 }, { name := "STARTS_NAME", type := (.array .long), accessFlags := 26, slot := 4, constantValue := 0 }, { name := "CONTINUES_NAME", type := (.array .long), accessFlags := 26, slot := 5, constantValue := 0 }]
  methods := #[k2m0, k2m1]
  instanceTypes := #[]
  staticTypes := #[.int, .int, (.array .int), (.array .int), (.array .long), (.array .long)]
  resolved := Array.replicate 230 none
  statics := none }

def pool3 : Array CpInfo := pool [(1, u "java/lang/Cloneable"), (0, .class_ 1), (0, u "java/lang/Object"), (0, .class_ 3)] 3

/-- java/lang/Cloneable -/
def k3 : Class := { plain "java/lang/Cloneable" (some 0) with
  accessFlags := 1537
  interfaces := #[]
  cf := some (fileOf pool3 2 #[] #[] 1537 4 #[] #[])
  fields := #[]
  methods := #[]
  instanceTypes := #[]
  staticTypes := #[]
  resolved := Array.replicate 8 none
  statics := none }

def pool4 : Array CpInfo := pool [(1, u "java/io/Serializable"), (0, .class_ 1), (0, u "java/lang/Object"), (0, .class_ 3)] 3

/-- java/io/Serializable -/
def k4 : Class := { plain "java/io/Serializable" (some 0) with
  accessFlags := 1537
  interfaces := #[]
  cf := some (fileOf pool4 2 #[] #[] 1537 4 #[] #[])
  fields := #[]
  methods := #[]
  instanceTypes := #[]
  staticTypes := #[]
  resolved := Array.replicate 8 none
  statics := none }

/-- the primitive byte -/
def k5 : Class := { plain "byte" none with kind := .primitive 'B', accessFlags := 0x411 }
/-- [B -/
def k6 : Class := { plain "[B" (some 0) with kind := .array 5 .byte, interfaces := #[3, 4], accessFlags := 1041 }

/-- the primitive int -/
def k7 : Class := { plain "int" none with kind := .primitive 'I', accessFlags := 0x411 }
/-- [I -/
def k8 : Class := { plain "[I" (some 0) with kind := .array 7 .int, interfaces := #[3, 4], accessFlags := 1041 }

def heap : Heap := #[]
def classes : Array Class := #[k0, k1, k2, k3, k4, k5, k6, k7, k8]
def interned : List (Array UInt16 × Addr) := []
def slotsUsed : Nat := 0
def theMethod : MethodId := ⟨1, 1⟩
def args0 : Array Value := #[.int 5, .int 1]
def aboutOver (below : List Frame) : State where
  vm := { classes := classes, interned := interned.toArray }
  heap := heap
  slotsUsed := slotsUsed
  threads := #[{ frames := .invoking theMethod args0 :: below }]
def below0 : List Frame := [.native { method := ⟨0, 0⟩, args := #[] }]
def about1 : State := aboutOver below0
def p0 : Program := .bare "" "" ""
def e0 : Env := launch0.env 0 0 0
theorem w_frames : about1.frames = Frame.invoking theMethod args0 :: below0 := rfl
set_option maxRecDepth 65536 in
theorem w_args : argsFit about1.vm theMethod args0 = true := by decide +kernel
set_option maxRecDepth 65536 in
theorem w_heap : heapFits about1 = true := by decide +kernel
set_option maxRecDepth 65536 in
theorem w_runnable : about1.curStatus? = some .runnable := by decide +kernel
set_option maxRecDepth 65536 in
theorem w_alone : about1.alone = true := by decide +kernel
set_option maxRecDepth 65536 in
theorem w_named : about1.methodNamed? x = some theMethod := by decide +kernel
set_option maxRecDepth 65536 in
theorem w_hears : about1.hears theMethod below0 = true := by decide +kernel
set_option maxRecDepth 65536 in
theorem w_ripe : about1.ripe theMethod args0 below0 = true := by decide +kernel
theorem w_running : about1.status = .running := rfl
set_option maxRecDepth 65536 in
theorem w_room : about1.hasRoom e0.platform room_1 = true :=
  launch0.hasRoom_least _ room_1 (by decide +kernel) (by decide +kernel) (by decide +kernel) (by decide +kernel) (by decide +kernel) (by decide +kernel)
theorem allAtoms_all (ts : List Jvm.Cond) (a : Array Jvm.Value) (st : Jvm.State) : (allAtoms ts).before a st = ts.all (fun c => c.before a st) := by
  induction ts with
  | nil => rfl
  | cons c t ih =>
    show (Jvm.Cond.and c (allAtoms t)).before a st = _
    rw [Jvm.Cond.before_and, ih, List.all_cons]
def words1 : List Jvm.Cond := Jvm.Cond.code x code maxLocals ret :: tables_1
/-- a 'code' word, met by the world's own term for the bytes: nothing is compared byte by byte -/
theorem code_word {y : MethodName} {bytes : ByteArray} {mx : Nat} {rt : Option FieldType} {a : Array Value} {s : State} {m : MethodId} {meth : Method} {c : Code} (h1 : s.methodNamed? y = some m) (h2 : s.vm.method? m = some meth) (h3 : meth.code = some c) (h4 : c.code = bytes)
    (h5 : (c.maxLocals == mx && c.exceptionTable.isEmpty && decide (c.maxStack ≤ mostOperands) && decide (meth.sig.returnType = rt) && !meth.locks && decide (parseMethodDescriptor y.desc = some meth.sig)) = true) : (Jvm.Cond.code y bytes mx rt).before a s = true := by
  simp only [Bool.and_eq_true, beq_iff_eq, Bool.not_eq_true', decide_eq_true_eq] at h5
  obtain ⟨⟨⟨⟨⟨g1, g2⟩, g3⟩, g4⟩, g5⟩, g6⟩ := h5
  simp [Cond.before, Cond.holds, Cond.value, h1, h2, h3, h4, g1, g2, g3, g4, g5, g6]
def isCode : Jvm.Cond → Bool
  | .code _ _ _ _ => true
  | _ => false
theorem all_split {L : List Jvm.Cond} {P : Jvm.Cond → Bool} (h1 : L.all (fun c => isCode c || P c) = true) (h2 : ∀ c ∈ L.filter isCode, P c = true) : L.all P = true := by
  refine List.all_eq_true.mpr fun c hc => ?_
  have h := List.all_eq_true.mp h1 c hc
  rcases Bool.eq_false_or_eq_true (isCode c) with hi | hi
  · exact h2 c (List.mem_filter.mpr ⟨hc, hi⟩)
  · simpa [hi] using h
set_option maxRecDepth 65536 in
theorem w_c0 : (Jvm.Cond.code x code maxLocals ret).before args0 about1 = true := code_word (m := ⟨1, 1⟩) (meth := k1m1) (c := k1c1) (by decide +kernel) rfl rfl rfl (by decide +kernel)
set_option maxRecDepth 65536 in
theorem w_c1 : (Jvm.Cond.code ({ cls := "com/example/chyld/chyld/XmlChars", name := "isSpace", desc := "(C)Z" } : Jvm.MethodName) prog_44_method_16_code (1 : Nat) (Option.some Jvm.ClassFile.FieldType.boolean)).before args0 about1 = true := code_word (m := ⟨2, 1⟩) (meth := k2m1) (c := k2c1) (by decide +kernel) rfl rfl rfl (by decide +kernel)
def codes1 : List Jvm.Cond := [Jvm.Cond.code x code maxLocals ret, Jvm.Cond.code ({ cls := "com/example/chyld/chyld/XmlChars", name := "isSpace", desc := "(C)Z" } : Jvm.MethodName) prog_44_method_16_code (1 : Nat) (Option.some Jvm.ClassFile.FieldType.boolean)]
set_option maxRecDepth 65536 in
theorem codes_eq : words1.filter isCode = codes1 := rfl
theorem w_codes : ∀ c ∈ words1.filter isCode, c.before args0 about1 = true := by
  rw [codes_eq]
  intro c hc
  simp only [codes1, List.mem_cons, List.not_mem_nil, or_false] at hc
  rcases hc with rfl | rfl
  · exact w_c0
  · exact w_c1
set_option maxRecDepth 65536 in
theorem w_t1 : words1.all (fun c => isCode c || c.before args0 about1) = true := by decide +kernel
theorem w_tables : (allAtoms (Jvm.Cond.code x code maxLocals ret :: tables_1)).before args0 about1 = true := by
  rw [allAtoms_all]
  show words1.all (fun c => c.before args0 about1) = true
  refine all_split ?_ w_codes
  rw [w_t1]
set_option maxRecDepth 65536 in
theorem w_case : (Jvm.Cond.and given_1 narrow_1).before args0 about1 = true := by decide +kernel
theorem w_applies : (headSpec (Jvm.Cond.code x code maxLocals ret :: tables_1) room_1).applies x e0.platform about1 = true :=
  (Spec.applies_iff w_frames).mpr ⟨w_running, w_runnable, w_alone, w_named, w_hears, w_ripe, w_room, w_tables⟩
theorem atStart : AtStart classFile x code maxLocals ret World_1 tables_1 room_1 Calls_1 rest_1 Pre_1 launch0 p0 e0 about1 theMethod args0 below0 :=
  ⟨lists_1, trivial, launch0.admits_env _ _ _, launch0.least_env, fairChoices_fair.cas, fairChoices_fair.clock, w_frames, w_args, w_heap, w_applies, trivial, trivial, w_case⟩
end start1
theorem witness_1 : WitnessClaimed_1 := ⟨start1.p0, start1.e0, start1.about1, start1.theMethod, start1.args0, start1.below0, start1.atStart⟩
end Jvm.Pilot.@@N@@
