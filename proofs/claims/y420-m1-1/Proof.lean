import JvmDerived
import JvmDerived.Pilot.@@N@@Statement
import JvmDerived.Pilot.@@N@@Code
set_option linter.unusedVariables false
set_option linter.unusedSimpArgs false
namespace Jvm.Pilot.@@N@@
open Jvm Jvm.ClassFile Sem Op Lib Jvm.Free Jvm.Stand Jvm.LawKit Jvm.RoadKit Bundle Jvm.Pilot.@@N@@.Jvm.D
/-! own kit: the rest of a walk as one predicate of the state where it stands -/
section OwnKit
variable {p : Program} {l : Launch} {e : Env} {R : Room} {s : State} {m : MethodId} {args : Array Value} {below : List Frame} {meth : Method} {c : Code} {T : State} {locs : List Loc} {cells slots : Nat}
def Wp (p : Program) (e : Env) (below : List Frame) (G : Outcome → State → Prop) (U : State) : Prop := ∃ s₂ o, Steps p.tables e below U s₂ ∧ s₂.status = .running ∧ Ended s₂ below o ∧ G o s₂
theorem Wp.via {G : Outcome → State → Prop} {A B : State} (k : ∀ t, Steps p.tables e below A t → Steps p.tables e below B t) (h : Wp p e below G A) : Wp p e below G B := by
  obtain ⟨s₂, o, h1, h2⟩ := h; exact ⟨s₂, o, k _ h1, h2⟩
theorem Wp.step {G : Outcome → State → Prop} {A B : State} (k : Steps p.tables e below B A) (h : Wp p e below G A) : Wp p e below G B := by
  obtain ⟨s₂, o, h1, h2⟩ := h; exact ⟨s₂, o, k.trans h1, h2⟩
def Gd (s : State) (Q : Option Value → Heap → List Loc → Prop) (C S : Nat) (o : Outcome) (t : State) : Prop := ∃ v L, o = .returned v ∧ Q v t.heap L ∧ FrameEnd s o t L C S
theorem Wp.ret (X : Stand p l e R s m args below meth c T locs cells slots) (hlk : meth.locks = false) (hx : p.tables.exec = Jvm.exec) {pc : Nat} {Ls : Array Slot} {w : Value} {t : FieldType} {i : Instr} {rest : List Value} {Q : Option Value → Heap → List Loc → Prop} {C S : Nat} (hret : meth.sig.returnType = some t) (hn : narrow t w = w)
    (hi : (i = .ireturn ∧ (t = .int ∨ t = .boolean ∨ t = .byte ∨ t = .char ∨ t = .short) ∧ ∃ z, w = .int z) ∨ (i = .lreturn ∧ t = .long ∧ ∃ z, w = .long z) ∨ (i = .dreturn ∧ t = .double ∧ ∃ z, w = .double z) ∨ (i = .freturn ∧ t = .float ∧ ∃ z, w = .float z) ∨ (i = .areturn ∧ t.isReference = true ∧ w.isRef = true))
    (hd : decode c.code pc = .ok (i, 1)) (hq : Q (some w) T.heap locs) (hC : cells ≤ C) (hS : slots ≤ S) : Wp p e below (Gd s Q C S) (T.setTop (mkF m pc Ls (w :: rest))) := by
  obtain ⟨fs, hr, hrun, hended, hW, hsame⟩ := X.leave (v := some w) (fun h => by rw [hret] at h; cases h) hlk
  exact ⟨_, _, retOut X hx hret hn hi hd hr, hrun, hended, _, _, rfl, hq, ⟨_, rfl⟩, hW, hsame.mono hC hS⟩
theorem Wp.retI (X : Stand p l e R s m args below meth c T locs cells slots) (hlk : meth.locks = false) (hx : p.tables.exec = Jvm.exec) {pc : Nat} {Ls : Array Slot} {z : Int32} {t : FieldType} {rest : List Value} {Q : Option Value → Heap → List Loc → Prop} {C S : Nat} (hret : meth.sig.returnType = some t) (ht : t = .int ∨ t = .boolean ∨ t = .byte ∨ t = .char ∨ t = .short) (hn : narrow t (.int z) = .int z)
    (hd : decode c.code pc = .ok (.ireturn, 1)) (hq : Q (some (.int z)) T.heap locs) (hC : cells ≤ C) (hS : slots ≤ S) : Wp p e below (Gd s Q C S) (T.setTop (mkF m pc Ls (.int z :: rest))) :=
  Wp.ret X hlk hx hret hn (Or.inl ⟨rfl, ht, z, rfl⟩) hd hq hC hS
theorem Wp.retJ (X : Stand p l e R s m args below meth c T locs cells slots) (hlk : meth.locks = false) (hx : p.tables.exec = Jvm.exec) {pc : Nat} {Ls : Array Slot} {z : Int64} {rest : List Value} {Q : Option Value → Heap → List Loc → Prop} {C S : Nat} (hret : meth.sig.returnType = some .long)
    (hd : decode c.code pc = .ok (.lreturn, 1)) (hq : Q (some (.long z)) T.heap locs) (hC : cells ≤ C) (hS : slots ≤ S) : Wp p e below (Gd s Q C S) (T.setTop (mkF m pc Ls (.long z :: rest))) :=
  Wp.ret X hlk hx hret rfl (Or.inr (Or.inl ⟨rfl, rfl, z, rfl⟩)) hd hq hC hS
theorem Wp.retA (X : Stand p l e R s m args below meth c T locs cells slots) (hlk : meth.locks = false) (hx : p.tables.exec = Jvm.exec) {pc : Nat} {Ls : Array Slot} {w : Value} {t : FieldType} {rest : List Value} {Q : Option Value → Heap → List Loc → Prop} {C S : Nat} (hret : meth.sig.returnType = some t) (ht : t.isReference = true) (hw : w.isRef = true)
    (hd : decode c.code pc = .ok (.areturn, 1)) (hq : Q (some w) T.heap locs) (hC : cells ≤ C) (hS : slots ≤ S) : Wp p e below (Gd s Q C S) (T.setTop (mkF m pc Ls (w :: rest))) :=
  Wp.ret X hlk hx hret (by cases t <;> simp [FieldType.isReference] at ht <;> cases w <;> simp [Value.isRef] at hw <;> rfl) (Or.inr (Or.inr (Or.inr (Or.inr ⟨rfl, ht, hw⟩)))) hd hq hC hS
theorem Wp.retV (X : Stand p l e R s m args below meth c T locs cells slots) (hlk : meth.locks = false) (hx : p.tables.exec = Jvm.exec) {pc : Nat} {Ls : Array Slot} {Q : Option Value → Heap → List Loc → Prop} {C S : Nat} (hret : meth.sig.returnType = none)
    (hd : decode c.code pc = .ok (.return_, 1)) (hq : Q none T.heap locs) (hC : cells ≤ C) (hS : slots ≤ S) : Wp p e below (Gd s Q C S) (T.setTop (mkF m pc Ls [])) := by
  obtain ⟨fs, hr, hrun, hended, hW, hsame⟩ := X.leave (v := none) (fun _ => rfl) hlk
  exact ⟨_, _, X.returnOut hx hret hd hr, hrun, hended, _, _, rfl, hq, ⟨_, rfl⟩, hW, hsame.mono hC hS⟩
/-- a body's contract out of its Wp at pc 0 -/
theorem ofWp {y : MethodName} {bytes : ByteArray} {maxL : Nat} {ret : Option FieldType} {ws : List Jvm.Cond} {rm : Room} {as' : Array Value} {Z : State} {h0 : Heap} {Q : Option Value → Heap → List Loc → Prop} {C S : Nat} {Ls : Array Slot} (hpl : plainFor y = true) (ef : ∀ m, entryFrame m as' maxL = mkF m 0 Ls [])
    (H : ∀ (p : Program) (e : Env) (s : State) (m : MethodId) (below : List Frame) (meth : Method) (c : Code) (T : State), p.tables.exec = Jvm.exec → c.code = bytes → c.maxLocals = maxL → s.vm.findClass y.cls = some m.cls → meth.name = y.name → meth.locks = false → meth.sig.returnType = ret → Z.Warmed39 s.vm → Stand p l e rm s m as' below meth c T [] 0 0 → T.heap = h0 → Wp p e below (Gd s Q C S) (T.setTop (mkF m 0 Ls []))) :
    MetFree l y (head1 (Jvm.Cond.code y bytes maxL ret :: ws) rm) (fun a U => a = as' ∧ Z.Warmed39 U.vm ∧ U.heap = h0) (fun _ _ _ _ _ => True) (fun _ U o U' => ∃ v L, o = .returned v ∧ Q v U'.heap L ∧ FrameEnd U o U' L C S) := by
  refine MetFree.of_bodySF hpl hisR ?_
  intro p e s m args below meth c s₁ Bd hml0 hP hK
  obtain ⟨rfl, hZ, hh⟩ := hP
  have e0 : s₁.heap = h0 := by rw [← hh, Bd.state]; rfl
  have X0 : Stand p l e rm s m args below meth c s₁ [] 0 0 := Stand.of_body Bd
  have W := H p e s m below meth c s₁ Bd.exec Bd.bytes hml0 (findClass_of_methodNamed Bd.named) (name_of_methodNamed Bd.named Bd.method).1 Bd.notSynchronized Bd.returns hZ X0 e0
  rw [← ef m] at W
  obtain ⟨s₂, o, g1, g2, g3, g4⟩ := W
  exact ⟨s₂, o, g1, g2, g3, g4⟩
end OwnKit
def f1_179 (x0 : Int32) : Int32 := (if x0 < (65536 : Int32) then (0 : Int32) else (if (983039 : Int32) < x0 then (0 : Int32) else (1 : Int32)))
def f1_167 (x0 : Int32) : Int32 := (if x0 < (65008 : Int32) then (f1_179 x0) else (if (65533 : Int32) < x0 then (f1_179 x0) else (1 : Int32)))
def f1_155 (x0 : Int32) : Int32 := (if x0 < (63744 : Int32) then (f1_167 x0) else (if (64975 : Int32) < x0 then (f1_167 x0) else (1 : Int32)))
def f1_142 (x0 : Int32) : Int32 := (if x0 < (12289 : Int32) then (f1_155 x0) else (if (55295 : Int32) < x0 then (f1_155 x0) else (1 : Int32)))
def f1_128 (x0 : Int32) : Int32 := (if x0 < (11264 : Int32) then (f1_142 x0) else (if (12271 : Int32) < x0 then (f1_142 x0) else (1 : Int32)))
def f1_114 (x0 : Int32) : Int32 := (if x0 < (8304 : Int32) then (f1_128 x0) else (if (8591 : Int32) < x0 then (f1_128 x0) else (1 : Int32)))
def f1_100 (x0 : Int32) : Int32 := (if x0 < (8204 : Int32) then (f1_114 x0) else (if (8205 : Int32) < x0 then (f1_114 x0) else (1 : Int32)))
def f1_86 (x0 : Int32) : Int32 := (if x0 < (895 : Int32) then (f1_100 x0) else (if (8191 : Int32) < x0 then (f1_100 x0) else (1 : Int32)))
def f1_72 (x0 : Int32) : Int32 := (if x0 < (880 : Int32) then (f1_86 x0) else (if (893 : Int32) < x0 then (f1_86 x0) else (1 : Int32)))
def f1_58 (x0 : Int32) : Int32 := (if x0 < (248 : Int32) then (f1_72 x0) else (if (767 : Int32) < x0 then (f1_72 x0) else (1 : Int32)))
def f1_44 (x0 : Int32) : Int32 := (if x0 < (216 : Int32) then (f1_58 x0) else (if (246 : Int32) < x0 then (f1_58 x0) else (1 : Int32)))
def f1_24 (x0 : Int32) : Int32 := (if x0 = (95 : Int32) then (1 : Int32) else (if x0 < (192 : Int32) then (f1_44 x0) else (if (214 : Int32) < x0 then (f1_44 x0) else (1 : Int32))))
def f1_12 (x0 : Int32) : Int32 := (if x0 < (65 : Int32) then (f1_24 x0) else (if (90 : Int32) < x0 then (f1_24 x0) else (1 : Int32)))
def f1_0 (p0 : Int32) : Int32 := (if p0 < (97 : Int32) then (f1_12 p0) else (if (122 : Int32) < p0 then (f1_12 p0) else (1 : Int32)))
theorem own_d1_0 : decode prog_60_method_6_code 0 = .ok (.iload_n 0, 1) := by decide +kernel
theorem own_d1_1 : decode prog_60_method_6_code 1 = .ok (.bipush 97, 2) := by decide +kernel
theorem own_d1_3 : decode prog_60_method_6_code 3 = .ok (.if_icmp .lt 9, 3) := by decide +kernel
theorem own_d1_6 : decode prog_60_method_6_code 6 = .ok (.iload_n 0, 1) := by decide +kernel
theorem own_d1_7 : decode prog_60_method_6_code 7 = .ok (.bipush 122, 2) := by decide +kernel
theorem own_d1_9 : decode prog_60_method_6_code 9 = .ok (.if_icmp .le 182, 3) := by decide +kernel
theorem own_d1_12 : decode prog_60_method_6_code 12 = .ok (.iload_n 0, 1) := by decide +kernel
theorem own_d1_13 : decode prog_60_method_6_code 13 = .ok (.bipush 65, 2) := by decide +kernel
theorem own_d1_15 : decode prog_60_method_6_code 15 = .ok (.if_icmp .lt 9, 3) := by decide +kernel
theorem own_d1_18 : decode prog_60_method_6_code 18 = .ok (.iload_n 0, 1) := by decide +kernel
theorem own_d1_19 : decode prog_60_method_6_code 19 = .ok (.bipush 90, 2) := by decide +kernel
theorem own_d1_21 : decode prog_60_method_6_code 21 = .ok (.if_icmp .le 170, 3) := by decide +kernel
theorem own_d1_24 : decode prog_60_method_6_code 24 = .ok (.iload_n 0, 1) := by decide +kernel
theorem own_d1_25 : decode prog_60_method_6_code 25 = .ok (.bipush 95, 2) := by decide +kernel
theorem own_d1_27 : decode prog_60_method_6_code 27 = .ok (.if_icmp .eq 164, 3) := by decide +kernel
theorem own_d1_30 : decode prog_60_method_6_code 30 = .ok (.iload_n 0, 1) := by decide +kernel
theorem own_d1_31 : decode prog_60_method_6_code 31 = .ok (.sipush 192, 3) := by decide +kernel
theorem own_d1_34 : decode prog_60_method_6_code 34 = .ok (.if_icmp .lt 10, 3) := by decide +kernel
theorem own_d1_37 : decode prog_60_method_6_code 37 = .ok (.iload_n 0, 1) := by decide +kernel
theorem own_d1_38 : decode prog_60_method_6_code 38 = .ok (.sipush 214, 3) := by decide +kernel
theorem own_d1_41 : decode prog_60_method_6_code 41 = .ok (.if_icmp .le 150, 3) := by decide +kernel
theorem own_d1_44 : decode prog_60_method_6_code 44 = .ok (.iload_n 0, 1) := by decide +kernel
theorem own_d1_45 : decode prog_60_method_6_code 45 = .ok (.sipush 216, 3) := by decide +kernel
theorem own_d1_48 : decode prog_60_method_6_code 48 = .ok (.if_icmp .lt 10, 3) := by decide +kernel
theorem own_d1_51 : decode prog_60_method_6_code 51 = .ok (.iload_n 0, 1) := by decide +kernel
theorem own_d1_52 : decode prog_60_method_6_code 52 = .ok (.sipush 246, 3) := by decide +kernel
theorem own_d1_55 : decode prog_60_method_6_code 55 = .ok (.if_icmp .le 136, 3) := by decide +kernel
theorem own_d1_58 : decode prog_60_method_6_code 58 = .ok (.iload_n 0, 1) := by decide +kernel
theorem own_d1_59 : decode prog_60_method_6_code 59 = .ok (.sipush 248, 3) := by decide +kernel
theorem own_d1_62 : decode prog_60_method_6_code 62 = .ok (.if_icmp .lt 10, 3) := by decide +kernel
theorem own_d1_65 : decode prog_60_method_6_code 65 = .ok (.iload_n 0, 1) := by decide +kernel
theorem own_d1_66 : decode prog_60_method_6_code 66 = .ok (.sipush 767, 3) := by decide +kernel
theorem own_d1_69 : decode prog_60_method_6_code 69 = .ok (.if_icmp .le 122, 3) := by decide +kernel
theorem own_d1_72 : decode prog_60_method_6_code 72 = .ok (.iload_n 0, 1) := by decide +kernel
theorem own_d1_73 : decode prog_60_method_6_code 73 = .ok (.sipush 880, 3) := by decide +kernel
theorem own_d1_76 : decode prog_60_method_6_code 76 = .ok (.if_icmp .lt 10, 3) := by decide +kernel
theorem own_d1_79 : decode prog_60_method_6_code 79 = .ok (.iload_n 0, 1) := by decide +kernel
theorem own_d1_80 : decode prog_60_method_6_code 80 = .ok (.sipush 893, 3) := by decide +kernel
theorem own_d1_83 : decode prog_60_method_6_code 83 = .ok (.if_icmp .le 108, 3) := by decide +kernel
theorem own_d1_86 : decode prog_60_method_6_code 86 = .ok (.iload_n 0, 1) := by decide +kernel
theorem own_d1_87 : decode prog_60_method_6_code 87 = .ok (.sipush 895, 3) := by decide +kernel
theorem own_d1_90 : decode prog_60_method_6_code 90 = .ok (.if_icmp .lt 10, 3) := by decide +kernel
theorem own_d1_93 : decode prog_60_method_6_code 93 = .ok (.iload_n 0, 1) := by decide +kernel
theorem own_d1_94 : decode prog_60_method_6_code 94 = .ok (.sipush 8191, 3) := by decide +kernel
theorem own_d1_97 : decode prog_60_method_6_code 97 = .ok (.if_icmp .le 94, 3) := by decide +kernel
theorem own_d1_100 : decode prog_60_method_6_code 100 = .ok (.iload_n 0, 1) := by decide +kernel
theorem own_d1_101 : decode prog_60_method_6_code 101 = .ok (.sipush 8204, 3) := by decide +kernel
theorem own_d1_104 : decode prog_60_method_6_code 104 = .ok (.if_icmp .lt 10, 3) := by decide +kernel
theorem own_d1_107 : decode prog_60_method_6_code 107 = .ok (.iload_n 0, 1) := by decide +kernel
theorem own_d1_108 : decode prog_60_method_6_code 108 = .ok (.sipush 8205, 3) := by decide +kernel
theorem own_d1_111 : decode prog_60_method_6_code 111 = .ok (.if_icmp .le 80, 3) := by decide +kernel
theorem own_d1_114 : decode prog_60_method_6_code 114 = .ok (.iload_n 0, 1) := by decide +kernel
theorem own_d1_115 : decode prog_60_method_6_code 115 = .ok (.sipush 8304, 3) := by decide +kernel
theorem own_d1_118 : decode prog_60_method_6_code 118 = .ok (.if_icmp .lt 10, 3) := by decide +kernel
theorem own_d1_121 : decode prog_60_method_6_code 121 = .ok (.iload_n 0, 1) := by decide +kernel
theorem own_d1_122 : decode prog_60_method_6_code 122 = .ok (.sipush 8591, 3) := by decide +kernel
theorem own_d1_125 : decode prog_60_method_6_code 125 = .ok (.if_icmp .le 66, 3) := by decide +kernel
theorem own_d1_128 : decode prog_60_method_6_code 128 = .ok (.iload_n 0, 1) := by decide +kernel
theorem own_d1_129 : decode prog_60_method_6_code 129 = .ok (.sipush 11264, 3) := by decide +kernel
theorem own_d1_132 : decode prog_60_method_6_code 132 = .ok (.if_icmp .lt 10, 3) := by decide +kernel
theorem own_d1_135 : decode prog_60_method_6_code 135 = .ok (.iload_n 0, 1) := by decide +kernel
theorem own_d1_136 : decode prog_60_method_6_code 136 = .ok (.sipush 12271, 3) := by decide +kernel
theorem own_d1_139 : decode prog_60_method_6_code 139 = .ok (.if_icmp .le 52, 3) := by decide +kernel
theorem own_d1_142 : decode prog_60_method_6_code 142 = .ok (.iload_n 0, 1) := by decide +kernel
theorem own_d1_143 : decode prog_60_method_6_code 143 = .ok (.sipush 12289, 3) := by decide +kernel
theorem own_d1_146 : decode prog_60_method_6_code 146 = .ok (.if_icmp .lt 9, 3) := by decide +kernel
theorem own_d1_149 : decode prog_60_method_6_code 149 = .ok (.iload_n 0, 1) := by decide +kernel
theorem own_d1_150 : decode prog_60_method_6_code 150 = .ok (.ldc 7, 2) := by decide +kernel
theorem own_d1_152 : decode prog_60_method_6_code 152 = .ok (.if_icmp .le 39, 3) := by decide +kernel
theorem own_d1_155 : decode prog_60_method_6_code 155 = .ok (.iload_n 0, 1) := by decide +kernel
theorem own_d1_156 : decode prog_60_method_6_code 156 = .ok (.ldc 42, 2) := by decide +kernel
theorem own_d1_158 : decode prog_60_method_6_code 158 = .ok (.if_icmp .lt 9, 3) := by decide +kernel
theorem own_d1_161 : decode prog_60_method_6_code 161 = .ok (.iload_n 0, 1) := by decide +kernel
theorem own_d1_162 : decode prog_60_method_6_code 162 = .ok (.ldc 43, 2) := by decide +kernel
theorem own_d1_164 : decode prog_60_method_6_code 164 = .ok (.if_icmp .le 27, 3) := by decide +kernel
theorem own_d1_167 : decode prog_60_method_6_code 167 = .ok (.iload_n 0, 1) := by decide +kernel
theorem own_d1_168 : decode prog_60_method_6_code 168 = .ok (.ldc 44, 2) := by decide +kernel
theorem own_d1_170 : decode prog_60_method_6_code 170 = .ok (.if_icmp .lt 9, 3) := by decide +kernel
theorem own_d1_173 : decode prog_60_method_6_code 173 = .ok (.iload_n 0, 1) := by decide +kernel
theorem own_d1_174 : decode prog_60_method_6_code 174 = .ok (.ldc 9, 2) := by decide +kernel
theorem own_d1_176 : decode prog_60_method_6_code 176 = .ok (.if_icmp .le 15, 3) := by decide +kernel
theorem own_d1_179 : decode prog_60_method_6_code 179 = .ok (.iload_n 0, 1) := by decide +kernel
theorem own_d1_180 : decode prog_60_method_6_code 180 = .ok (.ldc 10, 2) := by decide +kernel
theorem own_d1_182 : decode prog_60_method_6_code 182 = .ok (.if_icmp .lt 13, 3) := by decide +kernel
theorem own_d1_185 : decode prog_60_method_6_code 185 = .ok (.iload_n 0, 1) := by decide +kernel
theorem own_d1_186 : decode prog_60_method_6_code 186 = .ok (.ldc 45, 2) := by decide +kernel
theorem own_d1_188 : decode prog_60_method_6_code 188 = .ok (.if_icmp .gt 7, 3) := by decide +kernel
theorem own_d1_191 : decode prog_60_method_6_code 191 = .ok (.iconst 1, 1) := by decide +kernel
theorem own_d1_192 : decode prog_60_method_6_code 192 = .ok (.goto 4, 3) := by decide +kernel
theorem own_d1_195 : decode prog_60_method_6_code 195 = .ok (.iconst 0, 1) := by decide +kernel
theorem own_d1_196 : decode prog_60_method_6_code 196 = .ok (.ireturn, 1) := by decide +kernel
theorem own_pl1 : plainFor (⟨"com/example/antipolis/antipolis/value/XmlChars", "isNameStart", "(I)Z"⟩ : MethodName) = true := plainFor_of_name (by first | (simp [plainName, overriddenIn]; done) | decide +kernel)
theorem own_ef1 (m : MethodId) (p0 : Int32) : entryFrame m #[(.int p0)] 1 = mkF m 0 #[.val (.int p0)] [] := by first | (simp [entryFrame, mkF, argsToLocals, Value.category]; done) | rfl
def Qo1 (Z : State) (p0 : Int32)  (h0 : Heap) (n0 : Nat) (v : Option Value) (h : Heap) (L : List Loc) : Prop := v = some (.int (f1_0 p0)) ∧ Fr n0 L ∧ h = h0
set_option maxRecDepth 65536 in
set_option maxHeartbeats 40000000 in
theorem rm1 (l : Launch) (Z : State) (aw : Array Value) (hw : ∀ d ∈ tables_1, d.before aw Z = true) (ws : List Jvm.Cond) (p0 : Int32)  (h0 : Heap) (n0 : Nat) (Z0 : n0 ≤ h0.size)  :
    MetFree l (⟨"com/example/antipolis/antipolis/value/XmlChars", "isNameStart", "(I)Z"⟩ : MethodName) (head1 (Jvm.Cond.code (⟨"com/example/antipolis/antipolis/value/XmlChars", "isNameStart", "(I)Z"⟩ : MethodName) prog_60_method_6_code 1 (some .boolean) :: ws) ({ frames := 0, cells := 0, slots := 0, locals := 0 } : Room)) (fun a U => a = #[(.int p0)] ∧ Z.Warmed39 U.vm ∧ U.heap = h0) (fun _ _ _ _ _ => True) (fun _ U o U' => ∃ v L, o = .returned v ∧ (Qo1 Z p0 h0 n0) v U'.heap L ∧ FrameEnd U o U' L ({ frames := 0, cells := 0, slots := 0, locals := 0 } : Room).cells ({ frames := 0, cells := 0, slots := 0, locals := 0 } : Room).slots) := by
  refine ofWp (Q := Qo1 Z p0 h0 n0) own_pl1 (fun m => own_ef1 m p0) ?_
  intro p e s m below meth c T0 hx hby hml hown hnm hlk hret hZ X0 e0
  change s.vm.findClass "com/example/antipolis/antipolis/value/XmlChars" = some m.cls at hown
  have NF0 := Fr.nil n0
  have J179 : ∀ (T : State) (locs : List Loc) (cells slots : Nat) (X : Stand p l e ({ frames := 0, cells := 0, slots := 0, locals := 0 } : Room) s m #[(.int p0)] below meth c T locs cells slots) (eT : T.heap = h0) (NF : Fr n0 locs) (hC : cells ≤ 0) (hS : slots ≤ 0) (x0 : Int32) , (f1_0 p0) = (f1_179 x0) → Wp p e below (Gd s (Qo1 Z p0 h0 n0) ({ frames := 0, cells := 0, slots := 0, locals := 0 } : Room).cells ({ frames := 0, cells := 0, slots := 0, locals := 0 } : Room).slots) (T.setTop (mkF m 179 #[.val (.int x0)] [])) := by
    intro T locs cells slots X eT NF hC hS x0 hv
    have hv1 : (f1_0 p0) = (if x0 < (65536 : Int32) then (0 : Int32) else (if (983039 : Int32) < x0 then (0 : Int32) else (1 : Int32))) := hv
    refine Wp.via (fun _ k => XS.iloadN X.here hx rfl (hb hby own_d1_179) rfl k) ?_
    show Wp p e below _ (T.setTop (mkF m 180 #[.val (.int x0)] [(.int x0)]))
    refine Wp.via (fun _ k => X.ldcInt hx hown (mvT hZ (hw _ (List.mem_of_getElem? (i := 6) rfl))) (g := (mkF m 180 #[.val (.int x0)] [(.int x0)])) rfl (hb hby own_d1_180) _ k) ?_
    show Wp p e below _ (T.setTop (mkF m 182 #[.val (.int x0)] [(.int (65536 : Int32)), (.int x0)]))
    by_cases hc2 : x0 < (65536 : Int32)
    ·
      have hv2_ := hv1.trans (if_pos hc2)
      refine Wp.via (fun _ k => XS.icmpYes X.here hx rfl (pc0 := 182) (pc' := 195) rfl (hb hby own_d1_182) rfl (tlt hc2).1 (by decide) (by decide) k) ?_
      show Wp p e below _ (T.setTop (mkF m 195 #[.val (.int x0)] []))
      refine Wp.via (fun _ k => XS.iconst X.here hx rfl (hb hby own_d1_195) k) ?_
      show Wp p e below _ (T.setTop (mkF m 196 #[.val (.int x0)] [(.int (0 : Int32))]))
      exact Wp.retI X hlk hx hret (by simp) (by first | rfl | decide) (hb hby own_d1_196) ⟨by rw [hv2_], NF, eT⟩ (by omega) (by omega)
    ·
      have hv2_ := hv1.trans (if_neg hc2)
      refine Wp.via (fun _ k => XS.icmpNo X.here hx rfl (hb hby own_d1_182) rfl (flt hc2).1 k) ?_
      show Wp p e below _ (T.setTop (mkF m 185 #[.val (.int x0)] []))
      refine Wp.via (fun _ k => XS.iloadN X.here hx rfl (hb hby own_d1_185) rfl k) ?_
      show Wp p e below _ (T.setTop (mkF m 186 #[.val (.int x0)] [(.int x0)]))
      refine Wp.via (fun _ k => X.ldcInt hx hown (mvT hZ (hw _ (List.mem_of_getElem? (i := 19) rfl))) (g := (mkF m 186 #[.val (.int x0)] [(.int x0)])) rfl (hb hby own_d1_186) _ k) ?_
      show Wp p e below _ (T.setTop (mkF m 188 #[.val (.int x0)] [(.int (983039 : Int32)), (.int x0)]))
      by_cases hc3 : (983039 : Int32) < x0
      ·
        have hv3_ := hv2_.trans (if_pos hc3)
        refine Wp.via (fun _ k => XS.icmpYes X.here hx rfl (pc0 := 188) (pc' := 195) rfl (hb hby own_d1_188) rfl (tlt hc3).2.2.1 (by decide) (by decide) k) ?_
        show Wp p e below _ (T.setTop (mkF m 195 #[.val (.int x0)] []))
        refine Wp.via (fun _ k => XS.iconst X.here hx rfl (hb hby own_d1_195) k) ?_
        show Wp p e below _ (T.setTop (mkF m 196 #[.val (.int x0)] [(.int (0 : Int32))]))
        exact Wp.retI X hlk hx hret (by simp) (by first | rfl | decide) (hb hby own_d1_196) ⟨by rw [hv3_], NF, eT⟩ (by omega) (by omega)
      ·
        have hv3_ := hv2_.trans (if_neg hc3)
        refine Wp.via (fun _ k => XS.icmpNo X.here hx rfl (hb hby own_d1_188) rfl (flt hc3).2.2.1 k) ?_
        show Wp p e below _ (T.setTop (mkF m 191 #[.val (.int x0)] []))
        refine Wp.via (fun _ k => XS.iconst X.here hx rfl (hb hby own_d1_191) k) ?_
        show Wp p e below _ (T.setTop (mkF m 192 #[.val (.int x0)] [(.int (1 : Int32))]))
        refine Wp.via (fun _ k => XS.goto X.here hx rfl (pc0 := 192) (pc' := 196) rfl (hb hby own_d1_192) (by decide) (by decide) k) ?_
        show Wp p e below _ (T.setTop (mkF m 196 #[.val (.int x0)] [(.int (1 : Int32))]))
        exact Wp.retI X hlk hx hret (by simp) (by first | rfl | decide) (hb hby own_d1_196) ⟨by rw [hv3_], NF, eT⟩ (by omega) (by omega)
  have J167 : ∀ (T : State) (locs : List Loc) (cells slots : Nat) (X : Stand p l e ({ frames := 0, cells := 0, slots := 0, locals := 0 } : Room) s m #[(.int p0)] below meth c T locs cells slots) (eT : T.heap = h0) (NF : Fr n0 locs) (hC : cells ≤ 0) (hS : slots ≤ 0) (x0 : Int32) , (f1_0 p0) = (f1_167 x0) → Wp p e below (Gd s (Qo1 Z p0 h0 n0) ({ frames := 0, cells := 0, slots := 0, locals := 0 } : Room).cells ({ frames := 0, cells := 0, slots := 0, locals := 0 } : Room).slots) (T.setTop (mkF m 167 #[.val (.int x0)] [])) := by
    intro T locs cells slots X eT NF hC hS x0 hv
    have hv4 : (f1_0 p0) = (if x0 < (65008 : Int32) then (f1_179 x0) else (if (65533 : Int32) < x0 then (f1_179 x0) else (1 : Int32))) := hv
    refine Wp.via (fun _ k => XS.iloadN X.here hx rfl (hb hby own_d1_167) rfl k) ?_
    show Wp p e below _ (T.setTop (mkF m 168 #[.val (.int x0)] [(.int x0)]))
    refine Wp.via (fun _ k => X.ldcInt hx hown (mvT hZ (hw _ (List.mem_of_getElem? (i := 5) rfl))) (g := (mkF m 168 #[.val (.int x0)] [(.int x0)])) rfl (hb hby own_d1_168) _ k) ?_
    show Wp p e below _ (T.setTop (mkF m 170 #[.val (.int x0)] [(.int (65008 : Int32)), (.int x0)]))
    by_cases hc5 : x0 < (65008 : Int32)
    ·
      have hv5_ := hv4.trans (if_pos hc5)
      refine Wp.via (fun _ k => XS.icmpYes X.here hx rfl (pc0 := 170) (pc' := 179) rfl (hb hby own_d1_170) rfl (tlt hc5).1 (by decide) (by decide) k) ?_
      show Wp p e below _ (T.setTop (mkF m 179 #[.val (.int x0)] []))
      exact J179 T _ _ _ X eT NF (by omega) (by omega) x0 hv5_
    ·
      have hv5_ := hv4.trans (if_neg hc5)
      refine Wp.via (fun _ k => XS.icmpNo X.here hx rfl (hb hby own_d1_170) rfl (flt hc5).1 k) ?_
      show Wp p e below _ (T.setTop (mkF m 173 #[.val (.int x0)] []))
      refine Wp.via (fun _ k => XS.iloadN X.here hx rfl (hb hby own_d1_173) rfl k) ?_
      show Wp p e below _ (T.setTop (mkF m 174 #[.val (.int x0)] [(.int x0)]))
      refine Wp.via (fun _ k => X.ldcInt hx hown (mvT hZ (hw _ (List.mem_of_getElem? (i := 18) rfl))) (g := (mkF m 174 #[.val (.int x0)] [(.int x0)])) rfl (hb hby own_d1_174) _ k) ?_
      show Wp p e below _ (T.setTop (mkF m 176 #[.val (.int x0)] [(.int (65533 : Int32)), (.int x0)]))
      by_cases hc6 : (65533 : Int32) < x0
      ·
        have hv6_ := hv5_.trans (if_pos hc6)
        refine Wp.via (fun _ k => XS.icmpNo X.here hx rfl (hb hby own_d1_176) rfl (tlt hc6).2.2.2 k) ?_
        show Wp p e below _ (T.setTop (mkF m 179 #[.val (.int x0)] []))
        exact J179 T _ _ _ X eT NF (by omega) (by omega) x0 hv6_
      ·
        have hv6_ := hv5_.trans (if_neg hc6)
        refine Wp.via (fun _ k => XS.icmpYes X.here hx rfl (pc0 := 176) (pc' := 191) rfl (hb hby own_d1_176) rfl (flt hc6).2.2.2 (by decide) (by decide) k) ?_
        show Wp p e below _ (T.setTop (mkF m 191 #[.val (.int x0)] []))
        refine Wp.via (fun _ k => XS.iconst X.here hx rfl (hb hby own_d1_191) k) ?_
        show Wp p e below _ (T.setTop (mkF m 192 #[.val (.int x0)] [(.int (1 : Int32))]))
        refine Wp.via (fun _ k => XS.goto X.here hx rfl (pc0 := 192) (pc' := 196) rfl (hb hby own_d1_192) (by decide) (by decide) k) ?_
        show Wp p e below _ (T.setTop (mkF m 196 #[.val (.int x0)] [(.int (1 : Int32))]))
        exact Wp.retI X hlk hx hret (by simp) (by first | rfl | decide) (hb hby own_d1_196) ⟨by rw [hv6_], NF, eT⟩ (by omega) (by omega)
  have J155 : ∀ (T : State) (locs : List Loc) (cells slots : Nat) (X : Stand p l e ({ frames := 0, cells := 0, slots := 0, locals := 0 } : Room) s m #[(.int p0)] below meth c T locs cells slots) (eT : T.heap = h0) (NF : Fr n0 locs) (hC : cells ≤ 0) (hS : slots ≤ 0) (x0 : Int32) , (f1_0 p0) = (f1_155 x0) → Wp p e below (Gd s (Qo1 Z p0 h0 n0) ({ frames := 0, cells := 0, slots := 0, locals := 0 } : Room).cells ({ frames := 0, cells := 0, slots := 0, locals := 0 } : Room).slots) (T.setTop (mkF m 155 #[.val (.int x0)] [])) := by
    intro T locs cells slots X eT NF hC hS x0 hv
    have hv7 : (f1_0 p0) = (if x0 < (63744 : Int32) then (f1_167 x0) else (if (64975 : Int32) < x0 then (f1_167 x0) else (1 : Int32))) := hv
    refine Wp.via (fun _ k => XS.iloadN X.here hx rfl (hb hby own_d1_155) rfl k) ?_
    show Wp p e below _ (T.setTop (mkF m 156 #[.val (.int x0)] [(.int x0)]))
    refine Wp.via (fun _ k => X.ldcInt hx hown (mvT hZ (hw _ (List.mem_of_getElem? (i := 4) rfl))) (g := (mkF m 156 #[.val (.int x0)] [(.int x0)])) rfl (hb hby own_d1_156) _ k) ?_
    show Wp p e below _ (T.setTop (mkF m 158 #[.val (.int x0)] [(.int (63744 : Int32)), (.int x0)]))
    by_cases hc8 : x0 < (63744 : Int32)
    ·
      have hv8_ := hv7.trans (if_pos hc8)
      refine Wp.via (fun _ k => XS.icmpYes X.here hx rfl (pc0 := 158) (pc' := 167) rfl (hb hby own_d1_158) rfl (tlt hc8).1 (by decide) (by decide) k) ?_
      show Wp p e below _ (T.setTop (mkF m 167 #[.val (.int x0)] []))
      exact J167 T _ _ _ X eT NF (by omega) (by omega) x0 hv8_
    ·
      have hv8_ := hv7.trans (if_neg hc8)
      refine Wp.via (fun _ k => XS.icmpNo X.here hx rfl (hb hby own_d1_158) rfl (flt hc8).1 k) ?_
      show Wp p e below _ (T.setTop (mkF m 161 #[.val (.int x0)] []))
      refine Wp.via (fun _ k => XS.iloadN X.here hx rfl (hb hby own_d1_161) rfl k) ?_
      show Wp p e below _ (T.setTop (mkF m 162 #[.val (.int x0)] [(.int x0)]))
      refine Wp.via (fun _ k => X.ldcInt hx hown (mvT hZ (hw _ (List.mem_of_getElem? (i := 17) rfl))) (g := (mkF m 162 #[.val (.int x0)] [(.int x0)])) rfl (hb hby own_d1_162) _ k) ?_
      show Wp p e below _ (T.setTop (mkF m 164 #[.val (.int x0)] [(.int (64975 : Int32)), (.int x0)]))
      by_cases hc9 : (64975 : Int32) < x0
      ·
        have hv9_ := hv8_.trans (if_pos hc9)
        refine Wp.via (fun _ k => XS.icmpNo X.here hx rfl (hb hby own_d1_164) rfl (tlt hc9).2.2.2 k) ?_
        show Wp p e below _ (T.setTop (mkF m 167 #[.val (.int x0)] []))
        exact J167 T _ _ _ X eT NF (by omega) (by omega) x0 hv9_
      ·
        have hv9_ := hv8_.trans (if_neg hc9)
        refine Wp.via (fun _ k => XS.icmpYes X.here hx rfl (pc0 := 164) (pc' := 191) rfl (hb hby own_d1_164) rfl (flt hc9).2.2.2 (by decide) (by decide) k) ?_
        show Wp p e below _ (T.setTop (mkF m 191 #[.val (.int x0)] []))
        refine Wp.via (fun _ k => XS.iconst X.here hx rfl (hb hby own_d1_191) k) ?_
        show Wp p e below _ (T.setTop (mkF m 192 #[.val (.int x0)] [(.int (1 : Int32))]))
        refine Wp.via (fun _ k => XS.goto X.here hx rfl (pc0 := 192) (pc' := 196) rfl (hb hby own_d1_192) (by decide) (by decide) k) ?_
        show Wp p e below _ (T.setTop (mkF m 196 #[.val (.int x0)] [(.int (1 : Int32))]))
        exact Wp.retI X hlk hx hret (by simp) (by first | rfl | decide) (hb hby own_d1_196) ⟨by rw [hv9_], NF, eT⟩ (by omega) (by omega)
  have J142 : ∀ (T : State) (locs : List Loc) (cells slots : Nat) (X : Stand p l e ({ frames := 0, cells := 0, slots := 0, locals := 0 } : Room) s m #[(.int p0)] below meth c T locs cells slots) (eT : T.heap = h0) (NF : Fr n0 locs) (hC : cells ≤ 0) (hS : slots ≤ 0) (x0 : Int32) , (f1_0 p0) = (f1_142 x0) → Wp p e below (Gd s (Qo1 Z p0 h0 n0) ({ frames := 0, cells := 0, slots := 0, locals := 0 } : Room).cells ({ frames := 0, cells := 0, slots := 0, locals := 0 } : Room).slots) (T.setTop (mkF m 142 #[.val (.int x0)] [])) := by
    intro T locs cells slots X eT NF hC hS x0 hv
    have hv10 : (f1_0 p0) = (if x0 < (12289 : Int32) then (f1_155 x0) else (if (55295 : Int32) < x0 then (f1_155 x0) else (1 : Int32))) := hv
    refine Wp.via (fun _ k => XS.iloadN X.here hx rfl (hb hby own_d1_142) rfl k) ?_
    show Wp p e below _ (T.setTop (mkF m 143 #[.val (.int x0)] [(.int x0)]))
    refine Wp.via (fun _ k => XS.sipush X.here hx rfl (hb hby own_d1_143) k) ?_
    show Wp p e below _ (T.setTop (mkF m 146 #[.val (.int x0)] [(.int (12289 : Int32)), (.int x0)]))
    by_cases hc11 : x0 < (12289 : Int32)
    ·
      have hv11_ := hv10.trans (if_pos hc11)
      refine Wp.via (fun _ k => XS.icmpYes X.here hx rfl (pc0 := 146) (pc' := 155) rfl (hb hby own_d1_146) rfl (tlt hc11).1 (by decide) (by decide) k) ?_
      show Wp p e below _ (T.setTop (mkF m 155 #[.val (.int x0)] []))
      exact J155 T _ _ _ X eT NF (by omega) (by omega) x0 hv11_
    ·
      have hv11_ := hv10.trans (if_neg hc11)
      refine Wp.via (fun _ k => XS.icmpNo X.here hx rfl (hb hby own_d1_146) rfl (flt hc11).1 k) ?_
      show Wp p e below _ (T.setTop (mkF m 149 #[.val (.int x0)] []))
      refine Wp.via (fun _ k => XS.iloadN X.here hx rfl (hb hby own_d1_149) rfl k) ?_
      show Wp p e below _ (T.setTop (mkF m 150 #[.val (.int x0)] [(.int x0)]))
      refine Wp.via (fun _ k => X.ldcInt hx hown (mvT hZ (hw _ (List.mem_of_getElem? (i := 16) rfl))) (g := (mkF m 150 #[.val (.int x0)] [(.int x0)])) rfl (hb hby own_d1_150) _ k) ?_
      show Wp p e below _ (T.setTop (mkF m 152 #[.val (.int x0)] [(.int (55295 : Int32)), (.int x0)]))
      by_cases hc12 : (55295 : Int32) < x0
      ·
        have hv12_ := hv11_.trans (if_pos hc12)
        refine Wp.via (fun _ k => XS.icmpNo X.here hx rfl (hb hby own_d1_152) rfl (tlt hc12).2.2.2 k) ?_
        show Wp p e below _ (T.setTop (mkF m 155 #[.val (.int x0)] []))
        exact J155 T _ _ _ X eT NF (by omega) (by omega) x0 hv12_
      ·
        have hv12_ := hv11_.trans (if_neg hc12)
        refine Wp.via (fun _ k => XS.icmpYes X.here hx rfl (pc0 := 152) (pc' := 191) rfl (hb hby own_d1_152) rfl (flt hc12).2.2.2 (by decide) (by decide) k) ?_
        show Wp p e below _ (T.setTop (mkF m 191 #[.val (.int x0)] []))
        refine Wp.via (fun _ k => XS.iconst X.here hx rfl (hb hby own_d1_191) k) ?_
        show Wp p e below _ (T.setTop (mkF m 192 #[.val (.int x0)] [(.int (1 : Int32))]))
        refine Wp.via (fun _ k => XS.goto X.here hx rfl (pc0 := 192) (pc' := 196) rfl (hb hby own_d1_192) (by decide) (by decide) k) ?_
        show Wp p e below _ (T.setTop (mkF m 196 #[.val (.int x0)] [(.int (1 : Int32))]))
        exact Wp.retI X hlk hx hret (by simp) (by first | rfl | decide) (hb hby own_d1_196) ⟨by rw [hv12_], NF, eT⟩ (by omega) (by omega)
  have J128 : ∀ (T : State) (locs : List Loc) (cells slots : Nat) (X : Stand p l e ({ frames := 0, cells := 0, slots := 0, locals := 0 } : Room) s m #[(.int p0)] below meth c T locs cells slots) (eT : T.heap = h0) (NF : Fr n0 locs) (hC : cells ≤ 0) (hS : slots ≤ 0) (x0 : Int32) , (f1_0 p0) = (f1_128 x0) → Wp p e below (Gd s (Qo1 Z p0 h0 n0) ({ frames := 0, cells := 0, slots := 0, locals := 0 } : Room).cells ({ frames := 0, cells := 0, slots := 0, locals := 0 } : Room).slots) (T.setTop (mkF m 128 #[.val (.int x0)] [])) := by
    intro T locs cells slots X eT NF hC hS x0 hv
    have hv13 : (f1_0 p0) = (if x0 < (11264 : Int32) then (f1_142 x0) else (if (12271 : Int32) < x0 then (f1_142 x0) else (1 : Int32))) := hv
    refine Wp.via (fun _ k => XS.iloadN X.here hx rfl (hb hby own_d1_128) rfl k) ?_
    show Wp p e below _ (T.setTop (mkF m 129 #[.val (.int x0)] [(.int x0)]))
    refine Wp.via (fun _ k => XS.sipush X.here hx rfl (hb hby own_d1_129) k) ?_
    show Wp p e below _ (T.setTop (mkF m 132 #[.val (.int x0)] [(.int (11264 : Int32)), (.int x0)]))
    by_cases hc14 : x0 < (11264 : Int32)
    ·
      have hv14_ := hv13.trans (if_pos hc14)
      refine Wp.via (fun _ k => XS.icmpYes X.here hx rfl (pc0 := 132) (pc' := 142) rfl (hb hby own_d1_132) rfl (tlt hc14).1 (by decide) (by decide) k) ?_
      show Wp p e below _ (T.setTop (mkF m 142 #[.val (.int x0)] []))
      exact J142 T _ _ _ X eT NF (by omega) (by omega) x0 hv14_
    ·
      have hv14_ := hv13.trans (if_neg hc14)
      refine Wp.via (fun _ k => XS.icmpNo X.here hx rfl (hb hby own_d1_132) rfl (flt hc14).1 k) ?_
      show Wp p e below _ (T.setTop (mkF m 135 #[.val (.int x0)] []))
      refine Wp.via (fun _ k => XS.iloadN X.here hx rfl (hb hby own_d1_135) rfl k) ?_
      show Wp p e below _ (T.setTop (mkF m 136 #[.val (.int x0)] [(.int x0)]))
      refine Wp.via (fun _ k => XS.sipush X.here hx rfl (hb hby own_d1_136) k) ?_
      show Wp p e below _ (T.setTop (mkF m 139 #[.val (.int x0)] [(.int (12271 : Int32)), (.int x0)]))
      by_cases hc15 : (12271 : Int32) < x0
      ·
        have hv15_ := hv14_.trans (if_pos hc15)
        refine Wp.via (fun _ k => XS.icmpNo X.here hx rfl (hb hby own_d1_139) rfl (tlt hc15).2.2.2 k) ?_
        show Wp p e below _ (T.setTop (mkF m 142 #[.val (.int x0)] []))
        exact J142 T _ _ _ X eT NF (by omega) (by omega) x0 hv15_
      ·
        have hv15_ := hv14_.trans (if_neg hc15)
        refine Wp.via (fun _ k => XS.icmpYes X.here hx rfl (pc0 := 139) (pc' := 191) rfl (hb hby own_d1_139) rfl (flt hc15).2.2.2 (by decide) (by decide) k) ?_
        show Wp p e below _ (T.setTop (mkF m 191 #[.val (.int x0)] []))
        refine Wp.via (fun _ k => XS.iconst X.here hx rfl (hb hby own_d1_191) k) ?_
        show Wp p e below _ (T.setTop (mkF m 192 #[.val (.int x0)] [(.int (1 : Int32))]))
        refine Wp.via (fun _ k => XS.goto X.here hx rfl (pc0 := 192) (pc' := 196) rfl (hb hby own_d1_192) (by decide) (by decide) k) ?_
        show Wp p e below _ (T.setTop (mkF m 196 #[.val (.int x0)] [(.int (1 : Int32))]))
        exact Wp.retI X hlk hx hret (by simp) (by first | rfl | decide) (hb hby own_d1_196) ⟨by rw [hv15_], NF, eT⟩ (by omega) (by omega)
  have J114 : ∀ (T : State) (locs : List Loc) (cells slots : Nat) (X : Stand p l e ({ frames := 0, cells := 0, slots := 0, locals := 0 } : Room) s m #[(.int p0)] below meth c T locs cells slots) (eT : T.heap = h0) (NF : Fr n0 locs) (hC : cells ≤ 0) (hS : slots ≤ 0) (x0 : Int32) , (f1_0 p0) = (f1_114 x0) → Wp p e below (Gd s (Qo1 Z p0 h0 n0) ({ frames := 0, cells := 0, slots := 0, locals := 0 } : Room).cells ({ frames := 0, cells := 0, slots := 0, locals := 0 } : Room).slots) (T.setTop (mkF m 114 #[.val (.int x0)] [])) := by
    intro T locs cells slots X eT NF hC hS x0 hv
    have hv16 : (f1_0 p0) = (if x0 < (8304 : Int32) then (f1_128 x0) else (if (8591 : Int32) < x0 then (f1_128 x0) else (1 : Int32))) := hv
    refine Wp.via (fun _ k => XS.iloadN X.here hx rfl (hb hby own_d1_114) rfl k) ?_
    show Wp p e below _ (T.setTop (mkF m 115 #[.val (.int x0)] [(.int x0)]))
    refine Wp.via (fun _ k => XS.sipush X.here hx rfl (hb hby own_d1_115) k) ?_
    show Wp p e below _ (T.setTop (mkF m 118 #[.val (.int x0)] [(.int (8304 : Int32)), (.int x0)]))
    by_cases hc17 : x0 < (8304 : Int32)
    ·
      have hv17_ := hv16.trans (if_pos hc17)
      refine Wp.via (fun _ k => XS.icmpYes X.here hx rfl (pc0 := 118) (pc' := 128) rfl (hb hby own_d1_118) rfl (tlt hc17).1 (by decide) (by decide) k) ?_
      show Wp p e below _ (T.setTop (mkF m 128 #[.val (.int x0)] []))
      exact J128 T _ _ _ X eT NF (by omega) (by omega) x0 hv17_
    ·
      have hv17_ := hv16.trans (if_neg hc17)
      refine Wp.via (fun _ k => XS.icmpNo X.here hx rfl (hb hby own_d1_118) rfl (flt hc17).1 k) ?_
      show Wp p e below _ (T.setTop (mkF m 121 #[.val (.int x0)] []))
      refine Wp.via (fun _ k => XS.iloadN X.here hx rfl (hb hby own_d1_121) rfl k) ?_
      show Wp p e below _ (T.setTop (mkF m 122 #[.val (.int x0)] [(.int x0)]))
      refine Wp.via (fun _ k => XS.sipush X.here hx rfl (hb hby own_d1_122) k) ?_
      show Wp p e below _ (T.setTop (mkF m 125 #[.val (.int x0)] [(.int (8591 : Int32)), (.int x0)]))
      by_cases hc18 : (8591 : Int32) < x0
      ·
        have hv18_ := hv17_.trans (if_pos hc18)
        refine Wp.via (fun _ k => XS.icmpNo X.here hx rfl (hb hby own_d1_125) rfl (tlt hc18).2.2.2 k) ?_
        show Wp p e below _ (T.setTop (mkF m 128 #[.val (.int x0)] []))
        exact J128 T _ _ _ X eT NF (by omega) (by omega) x0 hv18_
      ·
        have hv18_ := hv17_.trans (if_neg hc18)
        refine Wp.via (fun _ k => XS.icmpYes X.here hx rfl (pc0 := 125) (pc' := 191) rfl (hb hby own_d1_125) rfl (flt hc18).2.2.2 (by decide) (by decide) k) ?_
        show Wp p e below _ (T.setTop (mkF m 191 #[.val (.int x0)] []))
        refine Wp.via (fun _ k => XS.iconst X.here hx rfl (hb hby own_d1_191) k) ?_
        show Wp p e below _ (T.setTop (mkF m 192 #[.val (.int x0)] [(.int (1 : Int32))]))
        refine Wp.via (fun _ k => XS.goto X.here hx rfl (pc0 := 192) (pc' := 196) rfl (hb hby own_d1_192) (by decide) (by decide) k) ?_
        show Wp p e below _ (T.setTop (mkF m 196 #[.val (.int x0)] [(.int (1 : Int32))]))
        exact Wp.retI X hlk hx hret (by simp) (by first | rfl | decide) (hb hby own_d1_196) ⟨by rw [hv18_], NF, eT⟩ (by omega) (by omega)
  have J100 : ∀ (T : State) (locs : List Loc) (cells slots : Nat) (X : Stand p l e ({ frames := 0, cells := 0, slots := 0, locals := 0 } : Room) s m #[(.int p0)] below meth c T locs cells slots) (eT : T.heap = h0) (NF : Fr n0 locs) (hC : cells ≤ 0) (hS : slots ≤ 0) (x0 : Int32) , (f1_0 p0) = (f1_100 x0) → Wp p e below (Gd s (Qo1 Z p0 h0 n0) ({ frames := 0, cells := 0, slots := 0, locals := 0 } : Room).cells ({ frames := 0, cells := 0, slots := 0, locals := 0 } : Room).slots) (T.setTop (mkF m 100 #[.val (.int x0)] [])) := by
    intro T locs cells slots X eT NF hC hS x0 hv
    have hv19 : (f1_0 p0) = (if x0 < (8204 : Int32) then (f1_114 x0) else (if (8205 : Int32) < x0 then (f1_114 x0) else (1 : Int32))) := hv
    refine Wp.via (fun _ k => XS.iloadN X.here hx rfl (hb hby own_d1_100) rfl k) ?_
    show Wp p e below _ (T.setTop (mkF m 101 #[.val (.int x0)] [(.int x0)]))
    refine Wp.via (fun _ k => XS.sipush X.here hx rfl (hb hby own_d1_101) k) ?_
    show Wp p e below _ (T.setTop (mkF m 104 #[.val (.int x0)] [(.int (8204 : Int32)), (.int x0)]))
    by_cases hc20 : x0 < (8204 : Int32)
    ·
      have hv20_ := hv19.trans (if_pos hc20)
      refine Wp.via (fun _ k => XS.icmpYes X.here hx rfl (pc0 := 104) (pc' := 114) rfl (hb hby own_d1_104) rfl (tlt hc20).1 (by decide) (by decide) k) ?_
      show Wp p e below _ (T.setTop (mkF m 114 #[.val (.int x0)] []))
      exact J114 T _ _ _ X eT NF (by omega) (by omega) x0 hv20_
    ·
      have hv20_ := hv19.trans (if_neg hc20)
      refine Wp.via (fun _ k => XS.icmpNo X.here hx rfl (hb hby own_d1_104) rfl (flt hc20).1 k) ?_
      show Wp p e below _ (T.setTop (mkF m 107 #[.val (.int x0)] []))
      refine Wp.via (fun _ k => XS.iloadN X.here hx rfl (hb hby own_d1_107) rfl k) ?_
      show Wp p e below _ (T.setTop (mkF m 108 #[.val (.int x0)] [(.int x0)]))
      refine Wp.via (fun _ k => XS.sipush X.here hx rfl (hb hby own_d1_108) k) ?_
      show Wp p e below _ (T.setTop (mkF m 111 #[.val (.int x0)] [(.int (8205 : Int32)), (.int x0)]))
      by_cases hc21 : (8205 : Int32) < x0
      ·
        have hv21_ := hv20_.trans (if_pos hc21)
        refine Wp.via (fun _ k => XS.icmpNo X.here hx rfl (hb hby own_d1_111) rfl (tlt hc21).2.2.2 k) ?_
        show Wp p e below _ (T.setTop (mkF m 114 #[.val (.int x0)] []))
        exact J114 T _ _ _ X eT NF (by omega) (by omega) x0 hv21_
      ·
        have hv21_ := hv20_.trans (if_neg hc21)
        refine Wp.via (fun _ k => XS.icmpYes X.here hx rfl (pc0 := 111) (pc' := 191) rfl (hb hby own_d1_111) rfl (flt hc21).2.2.2 (by decide) (by decide) k) ?_
        show Wp p e below _ (T.setTop (mkF m 191 #[.val (.int x0)] []))
        refine Wp.via (fun _ k => XS.iconst X.here hx rfl (hb hby own_d1_191) k) ?_
        show Wp p e below _ (T.setTop (mkF m 192 #[.val (.int x0)] [(.int (1 : Int32))]))
        refine Wp.via (fun _ k => XS.goto X.here hx rfl (pc0 := 192) (pc' := 196) rfl (hb hby own_d1_192) (by decide) (by decide) k) ?_
        show Wp p e below _ (T.setTop (mkF m 196 #[.val (.int x0)] [(.int (1 : Int32))]))
        exact Wp.retI X hlk hx hret (by simp) (by first | rfl | decide) (hb hby own_d1_196) ⟨by rw [hv21_], NF, eT⟩ (by omega) (by omega)
  have J86 : ∀ (T : State) (locs : List Loc) (cells slots : Nat) (X : Stand p l e ({ frames := 0, cells := 0, slots := 0, locals := 0 } : Room) s m #[(.int p0)] below meth c T locs cells slots) (eT : T.heap = h0) (NF : Fr n0 locs) (hC : cells ≤ 0) (hS : slots ≤ 0) (x0 : Int32) , (f1_0 p0) = (f1_86 x0) → Wp p e below (Gd s (Qo1 Z p0 h0 n0) ({ frames := 0, cells := 0, slots := 0, locals := 0 } : Room).cells ({ frames := 0, cells := 0, slots := 0, locals := 0 } : Room).slots) (T.setTop (mkF m 86 #[.val (.int x0)] [])) := by
    intro T locs cells slots X eT NF hC hS x0 hv
    have hv22 : (f1_0 p0) = (if x0 < (895 : Int32) then (f1_100 x0) else (if (8191 : Int32) < x0 then (f1_100 x0) else (1 : Int32))) := hv
    refine Wp.via (fun _ k => XS.iloadN X.here hx rfl (hb hby own_d1_86) rfl k) ?_
    show Wp p e below _ (T.setTop (mkF m 87 #[.val (.int x0)] [(.int x0)]))
    refine Wp.via (fun _ k => XS.sipush X.here hx rfl (hb hby own_d1_87) k) ?_
    show Wp p e below _ (T.setTop (mkF m 90 #[.val (.int x0)] [(.int (895 : Int32)), (.int x0)]))
    by_cases hc23 : x0 < (895 : Int32)
    ·
      have hv23_ := hv22.trans (if_pos hc23)
      refine Wp.via (fun _ k => XS.icmpYes X.here hx rfl (pc0 := 90) (pc' := 100) rfl (hb hby own_d1_90) rfl (tlt hc23).1 (by decide) (by decide) k) ?_
      show Wp p e below _ (T.setTop (mkF m 100 #[.val (.int x0)] []))
      exact J100 T _ _ _ X eT NF (by omega) (by omega) x0 hv23_
    ·
      have hv23_ := hv22.trans (if_neg hc23)
      refine Wp.via (fun _ k => XS.icmpNo X.here hx rfl (hb hby own_d1_90) rfl (flt hc23).1 k) ?_
      show Wp p e below _ (T.setTop (mkF m 93 #[.val (.int x0)] []))
      refine Wp.via (fun _ k => XS.iloadN X.here hx rfl (hb hby own_d1_93) rfl k) ?_
      show Wp p e below _ (T.setTop (mkF m 94 #[.val (.int x0)] [(.int x0)]))
      refine Wp.via (fun _ k => XS.sipush X.here hx rfl (hb hby own_d1_94) k) ?_
      show Wp p e below _ (T.setTop (mkF m 97 #[.val (.int x0)] [(.int (8191 : Int32)), (.int x0)]))
      by_cases hc24 : (8191 : Int32) < x0
      ·
        have hv24_ := hv23_.trans (if_pos hc24)
        refine Wp.via (fun _ k => XS.icmpNo X.here hx rfl (hb hby own_d1_97) rfl (tlt hc24).2.2.2 k) ?_
        show Wp p e below _ (T.setTop (mkF m 100 #[.val (.int x0)] []))
        exact J100 T _ _ _ X eT NF (by omega) (by omega) x0 hv24_
      ·
        have hv24_ := hv23_.trans (if_neg hc24)
        refine Wp.via (fun _ k => XS.icmpYes X.here hx rfl (pc0 := 97) (pc' := 191) rfl (hb hby own_d1_97) rfl (flt hc24).2.2.2 (by decide) (by decide) k) ?_
        show Wp p e below _ (T.setTop (mkF m 191 #[.val (.int x0)] []))
        refine Wp.via (fun _ k => XS.iconst X.here hx rfl (hb hby own_d1_191) k) ?_
        show Wp p e below _ (T.setTop (mkF m 192 #[.val (.int x0)] [(.int (1 : Int32))]))
        refine Wp.via (fun _ k => XS.goto X.here hx rfl (pc0 := 192) (pc' := 196) rfl (hb hby own_d1_192) (by decide) (by decide) k) ?_
        show Wp p e below _ (T.setTop (mkF m 196 #[.val (.int x0)] [(.int (1 : Int32))]))
        exact Wp.retI X hlk hx hret (by simp) (by first | rfl | decide) (hb hby own_d1_196) ⟨by rw [hv24_], NF, eT⟩ (by omega) (by omega)
  have J72 : ∀ (T : State) (locs : List Loc) (cells slots : Nat) (X : Stand p l e ({ frames := 0, cells := 0, slots := 0, locals := 0 } : Room) s m #[(.int p0)] below meth c T locs cells slots) (eT : T.heap = h0) (NF : Fr n0 locs) (hC : cells ≤ 0) (hS : slots ≤ 0) (x0 : Int32) , (f1_0 p0) = (f1_72 x0) → Wp p e below (Gd s (Qo1 Z p0 h0 n0) ({ frames := 0, cells := 0, slots := 0, locals := 0 } : Room).cells ({ frames := 0, cells := 0, slots := 0, locals := 0 } : Room).slots) (T.setTop (mkF m 72 #[.val (.int x0)] [])) := by
    intro T locs cells slots X eT NF hC hS x0 hv
    have hv25 : (f1_0 p0) = (if x0 < (880 : Int32) then (f1_86 x0) else (if (893 : Int32) < x0 then (f1_86 x0) else (1 : Int32))) := hv
    refine Wp.via (fun _ k => XS.iloadN X.here hx rfl (hb hby own_d1_72) rfl k) ?_
    show Wp p e below _ (T.setTop (mkF m 73 #[.val (.int x0)] [(.int x0)]))
    refine Wp.via (fun _ k => XS.sipush X.here hx rfl (hb hby own_d1_73) k) ?_
    show Wp p e below _ (T.setTop (mkF m 76 #[.val (.int x0)] [(.int (880 : Int32)), (.int x0)]))
    by_cases hc26 : x0 < (880 : Int32)
    ·
      have hv26_ := hv25.trans (if_pos hc26)
      refine Wp.via (fun _ k => XS.icmpYes X.here hx rfl (pc0 := 76) (pc' := 86) rfl (hb hby own_d1_76) rfl (tlt hc26).1 (by decide) (by decide) k) ?_
      show Wp p e below _ (T.setTop (mkF m 86 #[.val (.int x0)] []))
      exact J86 T _ _ _ X eT NF (by omega) (by omega) x0 hv26_
    ·
      have hv26_ := hv25.trans (if_neg hc26)
      refine Wp.via (fun _ k => XS.icmpNo X.here hx rfl (hb hby own_d1_76) rfl (flt hc26).1 k) ?_
      show Wp p e below _ (T.setTop (mkF m 79 #[.val (.int x0)] []))
      refine Wp.via (fun _ k => XS.iloadN X.here hx rfl (hb hby own_d1_79) rfl k) ?_
      show Wp p e below _ (T.setTop (mkF m 80 #[.val (.int x0)] [(.int x0)]))
      refine Wp.via (fun _ k => XS.sipush X.here hx rfl (hb hby own_d1_80) k) ?_
      show Wp p e below _ (T.setTop (mkF m 83 #[.val (.int x0)] [(.int (893 : Int32)), (.int x0)]))
      by_cases hc27 : (893 : Int32) < x0
      ·
        have hv27_ := hv26_.trans (if_pos hc27)
        refine Wp.via (fun _ k => XS.icmpNo X.here hx rfl (hb hby own_d1_83) rfl (tlt hc27).2.2.2 k) ?_
        show Wp p e below _ (T.setTop (mkF m 86 #[.val (.int x0)] []))
        exact J86 T _ _ _ X eT NF (by omega) (by omega) x0 hv27_
      ·
        have hv27_ := hv26_.trans (if_neg hc27)
        refine Wp.via (fun _ k => XS.icmpYes X.here hx rfl (pc0 := 83) (pc' := 191) rfl (hb hby own_d1_83) rfl (flt hc27).2.2.2 (by decide) (by decide) k) ?_
        show Wp p e below _ (T.setTop (mkF m 191 #[.val (.int x0)] []))
        refine Wp.via (fun _ k => XS.iconst X.here hx rfl (hb hby own_d1_191) k) ?_
        show Wp p e below _ (T.setTop (mkF m 192 #[.val (.int x0)] [(.int (1 : Int32))]))
        refine Wp.via (fun _ k => XS.goto X.here hx rfl (pc0 := 192) (pc' := 196) rfl (hb hby own_d1_192) (by decide) (by decide) k) ?_
        show Wp p e below _ (T.setTop (mkF m 196 #[.val (.int x0)] [(.int (1 : Int32))]))
        exact Wp.retI X hlk hx hret (by simp) (by first | rfl | decide) (hb hby own_d1_196) ⟨by rw [hv27_], NF, eT⟩ (by omega) (by omega)
  have J58 : ∀ (T : State) (locs : List Loc) (cells slots : Nat) (X : Stand p l e ({ frames := 0, cells := 0, slots := 0, locals := 0 } : Room) s m #[(.int p0)] below meth c T locs cells slots) (eT : T.heap = h0) (NF : Fr n0 locs) (hC : cells ≤ 0) (hS : slots ≤ 0) (x0 : Int32) , (f1_0 p0) = (f1_58 x0) → Wp p e below (Gd s (Qo1 Z p0 h0 n0) ({ frames := 0, cells := 0, slots := 0, locals := 0 } : Room).cells ({ frames := 0, cells := 0, slots := 0, locals := 0 } : Room).slots) (T.setTop (mkF m 58 #[.val (.int x0)] [])) := by
    intro T locs cells slots X eT NF hC hS x0 hv
    have hv28 : (f1_0 p0) = (if x0 < (248 : Int32) then (f1_72 x0) else (if (767 : Int32) < x0 then (f1_72 x0) else (1 : Int32))) := hv
    refine Wp.via (fun _ k => XS.iloadN X.here hx rfl (hb hby own_d1_58) rfl k) ?_
    show Wp p e below _ (T.setTop (mkF m 59 #[.val (.int x0)] [(.int x0)]))
    refine Wp.via (fun _ k => XS.sipush X.here hx rfl (hb hby own_d1_59) k) ?_
    show Wp p e below _ (T.setTop (mkF m 62 #[.val (.int x0)] [(.int (248 : Int32)), (.int x0)]))
    by_cases hc29 : x0 < (248 : Int32)
    ·
      have hv29_ := hv28.trans (if_pos hc29)
      refine Wp.via (fun _ k => XS.icmpYes X.here hx rfl (pc0 := 62) (pc' := 72) rfl (hb hby own_d1_62) rfl (tlt hc29).1 (by decide) (by decide) k) ?_
      show Wp p e below _ (T.setTop (mkF m 72 #[.val (.int x0)] []))
      exact J72 T _ _ _ X eT NF (by omega) (by omega) x0 hv29_
    ·
      have hv29_ := hv28.trans (if_neg hc29)
      refine Wp.via (fun _ k => XS.icmpNo X.here hx rfl (hb hby own_d1_62) rfl (flt hc29).1 k) ?_
      show Wp p e below _ (T.setTop (mkF m 65 #[.val (.int x0)] []))
      refine Wp.via (fun _ k => XS.iloadN X.here hx rfl (hb hby own_d1_65) rfl k) ?_
      show Wp p e below _ (T.setTop (mkF m 66 #[.val (.int x0)] [(.int x0)]))
      refine Wp.via (fun _ k => XS.sipush X.here hx rfl (hb hby own_d1_66) k) ?_
      show Wp p e below _ (T.setTop (mkF m 69 #[.val (.int x0)] [(.int (767 : Int32)), (.int x0)]))
      by_cases hc30 : (767 : Int32) < x0
      ·
        have hv30_ := hv29_.trans (if_pos hc30)
        refine Wp.via (fun _ k => XS.icmpNo X.here hx rfl (hb hby own_d1_69) rfl (tlt hc30).2.2.2 k) ?_
        show Wp p e below _ (T.setTop (mkF m 72 #[.val (.int x0)] []))
        exact J72 T _ _ _ X eT NF (by omega) (by omega) x0 hv30_
      ·
        have hv30_ := hv29_.trans (if_neg hc30)
        refine Wp.via (fun _ k => XS.icmpYes X.here hx rfl (pc0 := 69) (pc' := 191) rfl (hb hby own_d1_69) rfl (flt hc30).2.2.2 (by decide) (by decide) k) ?_
        show Wp p e below _ (T.setTop (mkF m 191 #[.val (.int x0)] []))
        refine Wp.via (fun _ k => XS.iconst X.here hx rfl (hb hby own_d1_191) k) ?_
        show Wp p e below _ (T.setTop (mkF m 192 #[.val (.int x0)] [(.int (1 : Int32))]))
        refine Wp.via (fun _ k => XS.goto X.here hx rfl (pc0 := 192) (pc' := 196) rfl (hb hby own_d1_192) (by decide) (by decide) k) ?_
        show Wp p e below _ (T.setTop (mkF m 196 #[.val (.int x0)] [(.int (1 : Int32))]))
        exact Wp.retI X hlk hx hret (by simp) (by first | rfl | decide) (hb hby own_d1_196) ⟨by rw [hv30_], NF, eT⟩ (by omega) (by omega)
  have J44 : ∀ (T : State) (locs : List Loc) (cells slots : Nat) (X : Stand p l e ({ frames := 0, cells := 0, slots := 0, locals := 0 } : Room) s m #[(.int p0)] below meth c T locs cells slots) (eT : T.heap = h0) (NF : Fr n0 locs) (hC : cells ≤ 0) (hS : slots ≤ 0) (x0 : Int32) , (f1_0 p0) = (f1_44 x0) → Wp p e below (Gd s (Qo1 Z p0 h0 n0) ({ frames := 0, cells := 0, slots := 0, locals := 0 } : Room).cells ({ frames := 0, cells := 0, slots := 0, locals := 0 } : Room).slots) (T.setTop (mkF m 44 #[.val (.int x0)] [])) := by
    intro T locs cells slots X eT NF hC hS x0 hv
    have hv31 : (f1_0 p0) = (if x0 < (216 : Int32) then (f1_58 x0) else (if (246 : Int32) < x0 then (f1_58 x0) else (1 : Int32))) := hv
    refine Wp.via (fun _ k => XS.iloadN X.here hx rfl (hb hby own_d1_44) rfl k) ?_
    show Wp p e below _ (T.setTop (mkF m 45 #[.val (.int x0)] [(.int x0)]))
    refine Wp.via (fun _ k => XS.sipush X.here hx rfl (hb hby own_d1_45) k) ?_
    show Wp p e below _ (T.setTop (mkF m 48 #[.val (.int x0)] [(.int (216 : Int32)), (.int x0)]))
    by_cases hc32 : x0 < (216 : Int32)
    ·
      have hv32_ := hv31.trans (if_pos hc32)
      refine Wp.via (fun _ k => XS.icmpYes X.here hx rfl (pc0 := 48) (pc' := 58) rfl (hb hby own_d1_48) rfl (tlt hc32).1 (by decide) (by decide) k) ?_
      show Wp p e below _ (T.setTop (mkF m 58 #[.val (.int x0)] []))
      exact J58 T _ _ _ X eT NF (by omega) (by omega) x0 hv32_
    ·
      have hv32_ := hv31.trans (if_neg hc32)
      refine Wp.via (fun _ k => XS.icmpNo X.here hx rfl (hb hby own_d1_48) rfl (flt hc32).1 k) ?_
      show Wp p e below _ (T.setTop (mkF m 51 #[.val (.int x0)] []))
      refine Wp.via (fun _ k => XS.iloadN X.here hx rfl (hb hby own_d1_51) rfl k) ?_
      show Wp p e below _ (T.setTop (mkF m 52 #[.val (.int x0)] [(.int x0)]))
      refine Wp.via (fun _ k => XS.sipush X.here hx rfl (hb hby own_d1_52) k) ?_
      show Wp p e below _ (T.setTop (mkF m 55 #[.val (.int x0)] [(.int (246 : Int32)), (.int x0)]))
      by_cases hc33 : (246 : Int32) < x0
      ·
        have hv33_ := hv32_.trans (if_pos hc33)
        refine Wp.via (fun _ k => XS.icmpNo X.here hx rfl (hb hby own_d1_55) rfl (tlt hc33).2.2.2 k) ?_
        show Wp p e below _ (T.setTop (mkF m 58 #[.val (.int x0)] []))
        exact J58 T _ _ _ X eT NF (by omega) (by omega) x0 hv33_
      ·
        have hv33_ := hv32_.trans (if_neg hc33)
        refine Wp.via (fun _ k => XS.icmpYes X.here hx rfl (pc0 := 55) (pc' := 191) rfl (hb hby own_d1_55) rfl (flt hc33).2.2.2 (by decide) (by decide) k) ?_
        show Wp p e below _ (T.setTop (mkF m 191 #[.val (.int x0)] []))
        refine Wp.via (fun _ k => XS.iconst X.here hx rfl (hb hby own_d1_191) k) ?_
        show Wp p e below _ (T.setTop (mkF m 192 #[.val (.int x0)] [(.int (1 : Int32))]))
        refine Wp.via (fun _ k => XS.goto X.here hx rfl (pc0 := 192) (pc' := 196) rfl (hb hby own_d1_192) (by decide) (by decide) k) ?_
        show Wp p e below _ (T.setTop (mkF m 196 #[.val (.int x0)] [(.int (1 : Int32))]))
        exact Wp.retI X hlk hx hret (by simp) (by first | rfl | decide) (hb hby own_d1_196) ⟨by rw [hv33_], NF, eT⟩ (by omega) (by omega)
  have J24 : ∀ (T : State) (locs : List Loc) (cells slots : Nat) (X : Stand p l e ({ frames := 0, cells := 0, slots := 0, locals := 0 } : Room) s m #[(.int p0)] below meth c T locs cells slots) (eT : T.heap = h0) (NF : Fr n0 locs) (hC : cells ≤ 0) (hS : slots ≤ 0) (x0 : Int32) , (f1_0 p0) = (f1_24 x0) → Wp p e below (Gd s (Qo1 Z p0 h0 n0) ({ frames := 0, cells := 0, slots := 0, locals := 0 } : Room).cells ({ frames := 0, cells := 0, slots := 0, locals := 0 } : Room).slots) (T.setTop (mkF m 24 #[.val (.int x0)] [])) := by
    intro T locs cells slots X eT NF hC hS x0 hv
    have hv34 : (f1_0 p0) = (if x0 = (95 : Int32) then (1 : Int32) else (if x0 < (192 : Int32) then (f1_44 x0) else (if (214 : Int32) < x0 then (f1_44 x0) else (1 : Int32)))) := hv
    refine Wp.via (fun _ k => XS.iloadN X.here hx rfl (hb hby own_d1_24) rfl k) ?_
    show Wp p e below _ (T.setTop (mkF m 25 #[.val (.int x0)] [(.int x0)]))
    refine Wp.via (fun _ k => XS.bipush X.here hx rfl (hb hby own_d1_25) k) ?_
    show Wp p e below _ (T.setTop (mkF m 27 #[.val (.int x0)] [(.int (95 : Int32)), (.int x0)]))
    by_cases hc35 : x0 = (95 : Int32)
    ·
      have hv35_ := hv34.trans (if_pos hc35)
      refine Wp.via (fun _ k => XS.icmpYes X.here hx rfl (pc0 := 27) (pc' := 191) rfl (hb hby own_d1_27) rfl (teq hc35).1 (by decide) (by decide) k) ?_
      show Wp p e below _ (T.setTop (mkF m 191 #[.val (.int x0)] []))
      refine Wp.via (fun _ k => XS.iconst X.here hx rfl (hb hby own_d1_191) k) ?_
      show Wp p e below _ (T.setTop (mkF m 192 #[.val (.int x0)] [(.int (1 : Int32))]))
      refine Wp.via (fun _ k => XS.goto X.here hx rfl (pc0 := 192) (pc' := 196) rfl (hb hby own_d1_192) (by decide) (by decide) k) ?_
      show Wp p e below _ (T.setTop (mkF m 196 #[.val (.int x0)] [(.int (1 : Int32))]))
      exact Wp.retI X hlk hx hret (by simp) (by first | rfl | decide) (hb hby own_d1_196) ⟨by rw [hv35_], NF, eT⟩ (by omega) (by omega)
    ·
      have hv35_ := hv34.trans (if_neg hc35)
      refine Wp.via (fun _ k => XS.icmpNo X.here hx rfl (hb hby own_d1_27) rfl (feq hc35).1 k) ?_
      show Wp p e below _ (T.setTop (mkF m 30 #[.val (.int x0)] []))
      refine Wp.via (fun _ k => XS.iloadN X.here hx rfl (hb hby own_d1_30) rfl k) ?_
      show Wp p e below _ (T.setTop (mkF m 31 #[.val (.int x0)] [(.int x0)]))
      refine Wp.via (fun _ k => XS.sipush X.here hx rfl (hb hby own_d1_31) k) ?_
      show Wp p e below _ (T.setTop (mkF m 34 #[.val (.int x0)] [(.int (192 : Int32)), (.int x0)]))
      by_cases hc36 : x0 < (192 : Int32)
      ·
        have hv36_ := hv35_.trans (if_pos hc36)
        refine Wp.via (fun _ k => XS.icmpYes X.here hx rfl (pc0 := 34) (pc' := 44) rfl (hb hby own_d1_34) rfl (tlt hc36).1 (by decide) (by decide) k) ?_
        show Wp p e below _ (T.setTop (mkF m 44 #[.val (.int x0)] []))
        exact J44 T _ _ _ X eT NF (by omega) (by omega) x0 hv36_
      ·
        have hv36_ := hv35_.trans (if_neg hc36)
        refine Wp.via (fun _ k => XS.icmpNo X.here hx rfl (hb hby own_d1_34) rfl (flt hc36).1 k) ?_
        show Wp p e below _ (T.setTop (mkF m 37 #[.val (.int x0)] []))
        refine Wp.via (fun _ k => XS.iloadN X.here hx rfl (hb hby own_d1_37) rfl k) ?_
        show Wp p e below _ (T.setTop (mkF m 38 #[.val (.int x0)] [(.int x0)]))
        refine Wp.via (fun _ k => XS.sipush X.here hx rfl (hb hby own_d1_38) k) ?_
        show Wp p e below _ (T.setTop (mkF m 41 #[.val (.int x0)] [(.int (214 : Int32)), (.int x0)]))
        by_cases hc37 : (214 : Int32) < x0
        ·
          have hv37_ := hv36_.trans (if_pos hc37)
          refine Wp.via (fun _ k => XS.icmpNo X.here hx rfl (hb hby own_d1_41) rfl (tlt hc37).2.2.2 k) ?_
          show Wp p e below _ (T.setTop (mkF m 44 #[.val (.int x0)] []))
          exact J44 T _ _ _ X eT NF (by omega) (by omega) x0 hv37_
        ·
          have hv37_ := hv36_.trans (if_neg hc37)
          refine Wp.via (fun _ k => XS.icmpYes X.here hx rfl (pc0 := 41) (pc' := 191) rfl (hb hby own_d1_41) rfl (flt hc37).2.2.2 (by decide) (by decide) k) ?_
          show Wp p e below _ (T.setTop (mkF m 191 #[.val (.int x0)] []))
          refine Wp.via (fun _ k => XS.iconst X.here hx rfl (hb hby own_d1_191) k) ?_
          show Wp p e below _ (T.setTop (mkF m 192 #[.val (.int x0)] [(.int (1 : Int32))]))
          refine Wp.via (fun _ k => XS.goto X.here hx rfl (pc0 := 192) (pc' := 196) rfl (hb hby own_d1_192) (by decide) (by decide) k) ?_
          show Wp p e below _ (T.setTop (mkF m 196 #[.val (.int x0)] [(.int (1 : Int32))]))
          exact Wp.retI X hlk hx hret (by simp) (by first | rfl | decide) (hb hby own_d1_196) ⟨by rw [hv37_], NF, eT⟩ (by omega) (by omega)
  have J12 : ∀ (T : State) (locs : List Loc) (cells slots : Nat) (X : Stand p l e ({ frames := 0, cells := 0, slots := 0, locals := 0 } : Room) s m #[(.int p0)] below meth c T locs cells slots) (eT : T.heap = h0) (NF : Fr n0 locs) (hC : cells ≤ 0) (hS : slots ≤ 0) (x0 : Int32) , (f1_0 p0) = (f1_12 x0) → Wp p e below (Gd s (Qo1 Z p0 h0 n0) ({ frames := 0, cells := 0, slots := 0, locals := 0 } : Room).cells ({ frames := 0, cells := 0, slots := 0, locals := 0 } : Room).slots) (T.setTop (mkF m 12 #[.val (.int x0)] [])) := by
    intro T locs cells slots X eT NF hC hS x0 hv
    have hv38 : (f1_0 p0) = (if x0 < (65 : Int32) then (f1_24 x0) else (if (90 : Int32) < x0 then (f1_24 x0) else (1 : Int32))) := hv
    refine Wp.via (fun _ k => XS.iloadN X.here hx rfl (hb hby own_d1_12) rfl k) ?_
    show Wp p e below _ (T.setTop (mkF m 13 #[.val (.int x0)] [(.int x0)]))
    refine Wp.via (fun _ k => XS.bipush X.here hx rfl (hb hby own_d1_13) k) ?_
    show Wp p e below _ (T.setTop (mkF m 15 #[.val (.int x0)] [(.int (65 : Int32)), (.int x0)]))
    by_cases hc39 : x0 < (65 : Int32)
    ·
      have hv39_ := hv38.trans (if_pos hc39)
      refine Wp.via (fun _ k => XS.icmpYes X.here hx rfl (pc0 := 15) (pc' := 24) rfl (hb hby own_d1_15) rfl (tlt hc39).1 (by decide) (by decide) k) ?_
      show Wp p e below _ (T.setTop (mkF m 24 #[.val (.int x0)] []))
      exact J24 T _ _ _ X eT NF (by omega) (by omega) x0 hv39_
    ·
      have hv39_ := hv38.trans (if_neg hc39)
      refine Wp.via (fun _ k => XS.icmpNo X.here hx rfl (hb hby own_d1_15) rfl (flt hc39).1 k) ?_
      show Wp p e below _ (T.setTop (mkF m 18 #[.val (.int x0)] []))
      refine Wp.via (fun _ k => XS.iloadN X.here hx rfl (hb hby own_d1_18) rfl k) ?_
      show Wp p e below _ (T.setTop (mkF m 19 #[.val (.int x0)] [(.int x0)]))
      refine Wp.via (fun _ k => XS.bipush X.here hx rfl (hb hby own_d1_19) k) ?_
      show Wp p e below _ (T.setTop (mkF m 21 #[.val (.int x0)] [(.int (90 : Int32)), (.int x0)]))
      by_cases hc40 : (90 : Int32) < x0
      ·
        have hv40_ := hv39_.trans (if_pos hc40)
        refine Wp.via (fun _ k => XS.icmpNo X.here hx rfl (hb hby own_d1_21) rfl (tlt hc40).2.2.2 k) ?_
        show Wp p e below _ (T.setTop (mkF m 24 #[.val (.int x0)] []))
        exact J24 T _ _ _ X eT NF (by omega) (by omega) x0 hv40_
      ·
        have hv40_ := hv39_.trans (if_neg hc40)
        refine Wp.via (fun _ k => XS.icmpYes X.here hx rfl (pc0 := 21) (pc' := 191) rfl (hb hby own_d1_21) rfl (flt hc40).2.2.2 (by decide) (by decide) k) ?_
        show Wp p e below _ (T.setTop (mkF m 191 #[.val (.int x0)] []))
        refine Wp.via (fun _ k => XS.iconst X.here hx rfl (hb hby own_d1_191) k) ?_
        show Wp p e below _ (T.setTop (mkF m 192 #[.val (.int x0)] [(.int (1 : Int32))]))
        refine Wp.via (fun _ k => XS.goto X.here hx rfl (pc0 := 192) (pc' := 196) rfl (hb hby own_d1_192) (by decide) (by decide) k) ?_
        show Wp p e below _ (T.setTop (mkF m 196 #[.val (.int x0)] [(.int (1 : Int32))]))
        exact Wp.retI X hlk hx hret (by simp) (by first | rfl | decide) (hb hby own_d1_196) ⟨by rw [hv40_], NF, eT⟩ (by omega) (by omega)
  have hv : (f1_0 p0) = (if p0 < (97 : Int32) then (f1_12 p0) else (if (122 : Int32) < p0 then (f1_12 p0) else (1 : Int32))) := rfl
  refine Wp.via (fun _ k => XS.iloadN X0.here hx rfl (hb hby own_d1_0) rfl k) ?_
  show Wp p e below _ (T0.setTop (mkF m 1 #[.val (.int p0)] [(.int p0)]))
  refine Wp.via (fun _ k => XS.bipush X0.here hx rfl (hb hby own_d1_1) k) ?_
  show Wp p e below _ (T0.setTop (mkF m 3 #[.val (.int p0)] [(.int (97 : Int32)), (.int p0)]))
  by_cases hc41 : p0 < (97 : Int32)
  ·
    have hv41_ := hv.trans (if_pos hc41)
    refine Wp.via (fun _ k => XS.icmpYes X0.here hx rfl (pc0 := 3) (pc' := 12) rfl (hb hby own_d1_3) rfl (tlt hc41).1 (by decide) (by decide) k) ?_
    show Wp p e below _ (T0.setTop (mkF m 12 #[.val (.int p0)] []))
    exact J12 T0 _ _ _ X0 e0 NF0 (by decide) (by decide) p0 hv41_
  ·
    have hv41_ := hv.trans (if_neg hc41)
    refine Wp.via (fun _ k => XS.icmpNo X0.here hx rfl (hb hby own_d1_3) rfl (flt hc41).1 k) ?_
    show Wp p e below _ (T0.setTop (mkF m 6 #[.val (.int p0)] []))
    refine Wp.via (fun _ k => XS.iloadN X0.here hx rfl (hb hby own_d1_6) rfl k) ?_
    show Wp p e below _ (T0.setTop (mkF m 7 #[.val (.int p0)] [(.int p0)]))
    refine Wp.via (fun _ k => XS.bipush X0.here hx rfl (hb hby own_d1_7) k) ?_
    show Wp p e below _ (T0.setTop (mkF m 9 #[.val (.int p0)] [(.int (122 : Int32)), (.int p0)]))
    by_cases hc42 : (122 : Int32) < p0
    ·
      have hv42_ := hv41_.trans (if_pos hc42)
      refine Wp.via (fun _ k => XS.icmpNo X0.here hx rfl (hb hby own_d1_9) rfl (tlt hc42).2.2.2 k) ?_
      show Wp p e below _ (T0.setTop (mkF m 12 #[.val (.int p0)] []))
      exact J12 T0 _ _ _ X0 e0 NF0 (by decide) (by decide) p0 hv42_
    ·
      have hv42_ := hv41_.trans (if_neg hc42)
      refine Wp.via (fun _ k => XS.icmpYes X0.here hx rfl (pc0 := 9) (pc' := 191) rfl (hb hby own_d1_9) rfl (flt hc42).2.2.2 (by decide) (by decide) k) ?_
      show Wp p e below _ (T0.setTop (mkF m 191 #[.val (.int p0)] []))
      refine Wp.via (fun _ k => XS.iconst X0.here hx rfl (hb hby own_d1_191) k) ?_
      show Wp p e below _ (T0.setTop (mkF m 192 #[.val (.int p0)] [(.int (1 : Int32))]))
      refine Wp.via (fun _ k => XS.goto X0.here hx rfl (pc0 := 192) (pc' := 196) rfl (hb hby own_d1_192) (by decide) (by decide) k) ?_
      show Wp p e below _ (T0.setTop (mkF m 196 #[.val (.int p0)] [(.int (1 : Int32))]))
      exact Wp.retI X0 hlk hx hret (by simp) (by first | rfl | decide) (hb hby own_d1_196) ⟨by rw [hv42_], NF0, e0⟩ (by decide) (by decide)
def f2_186 (x0 : Int32) : Int32 := (if x0 = (65534 : Int32) then (1 : Int32) else (if x0 = (65535 : Int32) then (1 : Int32) else (0 : Int32)))
def f2_172 (x0 : Int32) : Int32 := (if x0 < (64976 : Int32) then (f2_186 x0) else (if (65007 : Int32) < x0 then (f2_186 x0) else (1 : Int32)))
def f2_158 (x0 : Int32) : Int32 := (if x0 < (55296 : Int32) then (f2_172 x0) else (if (63743 : Int32) < x0 then (f2_172 x0) else (1 : Int32)))
def f2_142 (x0 : Int32) : Int32 := (if x0 < (12272 : Int32) then (f2_158 x0) else (if (12288 : Int32) < x0 then (f2_158 x0) else (1 : Int32)))
def f2_126 (x0 : Int32) : Int32 := (if x0 < (8592 : Int32) then (f2_142 x0) else (if (11263 : Int32) < x0 then (f2_142 x0) else (1 : Int32)))
def f2_110 (x0 : Int32) : Int32 := (if x0 < (8206 : Int32) then (f2_126 x0) else (if (8303 : Int32) < x0 then (f2_126 x0) else (1 : Int32)))
def f2_85 (x0 : Int32) : Int32 := (if x0 = (894 : Int32) then (1 : Int32) else (if x0 < (8192 : Int32) then (f2_110 x0) else (if (8203 : Int32) < x0 then (f2_110 x0) else (1 : Int32))))
def f2_53 (x0 : Int32) : Int32 := (if x0 = (215 : Int32) then (1 : Int32) else (if x0 = (247 : Int32) then (1 : Int32) else (if x0 < (768 : Int32) then (f2_85 x0) else (if (879 : Int32) < x0 then (f2_85 x0) else (1 : Int32)))))
def f2_30 (x0 : Int32) : Int32 := (if x0 = (96 : Int32) then (1 : Int32) else (if x0 < (123 : Int32) then (f2_53 x0) else (if (191 : Int32) < x0 then (f2_53 x0) else (1 : Int32))))
def f2_0 (p0 : Int32) : Int32 := (if p0 < (65 : Int32) then (1 : Int32) else (if (983039 : Int32) < p0 then (1 : Int32) else (if p0 < (91 : Int32) then (f2_30 p0) else (if (94 : Int32) < p0 then (f2_30 p0) else (1 : Int32)))))
theorem own_d2_0 : decode method_2_code 0 = .ok (.iload_n 0, 1) := by decide +kernel
theorem own_d2_1 : decode method_2_code 1 = .ok (.bipush 65, 2) := by decide +kernel
theorem own_d2_3 : decode method_2_code 3 = .ok (.if_icmp .ge 5, 3) := by decide +kernel
theorem own_d2_6 : decode method_2_code 6 = .ok (.iconst 1, 1) := by decide +kernel
theorem own_d2_7 : decode method_2_code 7 = .ok (.ireturn, 1) := by decide +kernel
theorem own_d2_8 : decode method_2_code 8 = .ok (.iload_n 0, 1) := by decide +kernel
theorem own_d2_9 : decode method_2_code 9 = .ok (.ldc 7, 2) := by decide +kernel
theorem own_d2_11 : decode method_2_code 11 = .ok (.if_icmp .le 5, 3) := by decide +kernel
theorem own_d2_14 : decode method_2_code 14 = .ok (.iconst 1, 1) := by decide +kernel
theorem own_d2_15 : decode method_2_code 15 = .ok (.ireturn, 1) := by decide +kernel
theorem own_d2_16 : decode method_2_code 16 = .ok (.iload_n 0, 1) := by decide +kernel
theorem own_d2_17 : decode method_2_code 17 = .ok (.bipush 91, 2) := by decide +kernel
theorem own_d2_19 : decode method_2_code 19 = .ok (.if_icmp .lt 11, 3) := by decide +kernel
theorem own_d2_22 : decode method_2_code 22 = .ok (.iload_n 0, 1) := by decide +kernel
theorem own_d2_23 : decode method_2_code 23 = .ok (.bipush 94, 2) := by decide +kernel
theorem own_d2_25 : decode method_2_code 25 = .ok (.if_icmp .gt 5, 3) := by decide +kernel
theorem own_d2_28 : decode method_2_code 28 = .ok (.iconst 1, 1) := by decide +kernel
theorem own_d2_29 : decode method_2_code 29 = .ok (.ireturn, 1) := by decide +kernel
theorem own_d2_30 : decode method_2_code 30 = .ok (.iload_n 0, 1) := by decide +kernel
theorem own_d2_31 : decode method_2_code 31 = .ok (.bipush 96, 2) := by decide +kernel
theorem own_d2_33 : decode method_2_code 33 = .ok (.if_icmp .ne 5, 3) := by decide +kernel
theorem own_d2_36 : decode method_2_code 36 = .ok (.iconst 1, 1) := by decide +kernel
theorem own_d2_37 : decode method_2_code 37 = .ok (.ireturn, 1) := by decide +kernel
theorem own_d2_38 : decode method_2_code 38 = .ok (.iload_n 0, 1) := by decide +kernel
theorem own_d2_39 : decode method_2_code 39 = .ok (.bipush 123, 2) := by decide +kernel
theorem own_d2_41 : decode method_2_code 41 = .ok (.if_icmp .lt 12, 3) := by decide +kernel
theorem own_d2_44 : decode method_2_code 44 = .ok (.iload_n 0, 1) := by decide +kernel
theorem own_d2_45 : decode method_2_code 45 = .ok (.sipush 191, 3) := by decide +kernel
theorem own_d2_48 : decode method_2_code 48 = .ok (.if_icmp .gt 5, 3) := by decide +kernel
theorem own_d2_51 : decode method_2_code 51 = .ok (.iconst 1, 1) := by decide +kernel
theorem own_d2_52 : decode method_2_code 52 = .ok (.ireturn, 1) := by decide +kernel
theorem own_d2_53 : decode method_2_code 53 = .ok (.iload_n 0, 1) := by decide +kernel
theorem own_d2_54 : decode method_2_code 54 = .ok (.sipush 215, 3) := by decide +kernel
theorem own_d2_57 : decode method_2_code 57 = .ok (.if_icmp .eq 10, 3) := by decide +kernel
theorem own_d2_60 : decode method_2_code 60 = .ok (.iload_n 0, 1) := by decide +kernel
theorem own_d2_61 : decode method_2_code 61 = .ok (.sipush 247, 3) := by decide +kernel
theorem own_d2_64 : decode method_2_code 64 = .ok (.if_icmp .ne 5, 3) := by decide +kernel
theorem own_d2_67 : decode method_2_code 67 = .ok (.iconst 1, 1) := by decide +kernel
theorem own_d2_68 : decode method_2_code 68 = .ok (.ireturn, 1) := by decide +kernel
theorem own_d2_69 : decode method_2_code 69 = .ok (.iload_n 0, 1) := by decide +kernel
theorem own_d2_70 : decode method_2_code 70 = .ok (.sipush 768, 3) := by decide +kernel
theorem own_d2_73 : decode method_2_code 73 = .ok (.if_icmp .lt 12, 3) := by decide +kernel
theorem own_d2_76 : decode method_2_code 76 = .ok (.iload_n 0, 1) := by decide +kernel
theorem own_d2_77 : decode method_2_code 77 = .ok (.sipush 879, 3) := by decide +kernel
theorem own_d2_80 : decode method_2_code 80 = .ok (.if_icmp .gt 5, 3) := by decide +kernel
theorem own_d2_83 : decode method_2_code 83 = .ok (.iconst 1, 1) := by decide +kernel
theorem own_d2_84 : decode method_2_code 84 = .ok (.ireturn, 1) := by decide +kernel
theorem own_d2_85 : decode method_2_code 85 = .ok (.iload_n 0, 1) := by decide +kernel
theorem own_d2_86 : decode method_2_code 86 = .ok (.sipush 894, 3) := by decide +kernel
theorem own_d2_89 : decode method_2_code 89 = .ok (.if_icmp .ne 5, 3) := by decide +kernel
theorem own_d2_92 : decode method_2_code 92 = .ok (.iconst 1, 1) := by decide +kernel
theorem own_d2_93 : decode method_2_code 93 = .ok (.ireturn, 1) := by decide +kernel
theorem own_d2_94 : decode method_2_code 94 = .ok (.iload_n 0, 1) := by decide +kernel
theorem own_d2_95 : decode method_2_code 95 = .ok (.sipush 8192, 3) := by decide +kernel
theorem own_d2_98 : decode method_2_code 98 = .ok (.if_icmp .lt 12, 3) := by decide +kernel
theorem own_d2_101 : decode method_2_code 101 = .ok (.iload_n 0, 1) := by decide +kernel
theorem own_d2_102 : decode method_2_code 102 = .ok (.sipush 8203, 3) := by decide +kernel
theorem own_d2_105 : decode method_2_code 105 = .ok (.if_icmp .gt 5, 3) := by decide +kernel
theorem own_d2_108 : decode method_2_code 108 = .ok (.iconst 1, 1) := by decide +kernel
theorem own_d2_109 : decode method_2_code 109 = .ok (.ireturn, 1) := by decide +kernel
theorem own_d2_110 : decode method_2_code 110 = .ok (.iload_n 0, 1) := by decide +kernel
theorem own_d2_111 : decode method_2_code 111 = .ok (.sipush 8206, 3) := by decide +kernel
theorem own_d2_114 : decode method_2_code 114 = .ok (.if_icmp .lt 12, 3) := by decide +kernel
theorem own_d2_117 : decode method_2_code 117 = .ok (.iload_n 0, 1) := by decide +kernel
theorem own_d2_118 : decode method_2_code 118 = .ok (.sipush 8303, 3) := by decide +kernel
theorem own_d2_121 : decode method_2_code 121 = .ok (.if_icmp .gt 5, 3) := by decide +kernel
theorem own_d2_124 : decode method_2_code 124 = .ok (.iconst 1, 1) := by decide +kernel
theorem own_d2_125 : decode method_2_code 125 = .ok (.ireturn, 1) := by decide +kernel
theorem own_d2_126 : decode method_2_code 126 = .ok (.iload_n 0, 1) := by decide +kernel
theorem own_d2_127 : decode method_2_code 127 = .ok (.sipush 8592, 3) := by decide +kernel
theorem own_d2_130 : decode method_2_code 130 = .ok (.if_icmp .lt 12, 3) := by decide +kernel
theorem own_d2_133 : decode method_2_code 133 = .ok (.iload_n 0, 1) := by decide +kernel
theorem own_d2_134 : decode method_2_code 134 = .ok (.sipush 11263, 3) := by decide +kernel
theorem own_d2_137 : decode method_2_code 137 = .ok (.if_icmp .gt 5, 3) := by decide +kernel
theorem own_d2_140 : decode method_2_code 140 = .ok (.iconst 1, 1) := by decide +kernel
theorem own_d2_141 : decode method_2_code 141 = .ok (.ireturn, 1) := by decide +kernel
theorem own_d2_142 : decode method_2_code 142 = .ok (.iload_n 0, 1) := by decide +kernel
theorem own_d2_143 : decode method_2_code 143 = .ok (.sipush 12272, 3) := by decide +kernel
theorem own_d2_146 : decode method_2_code 146 = .ok (.if_icmp .lt 12, 3) := by decide +kernel
theorem own_d2_149 : decode method_2_code 149 = .ok (.iload_n 0, 1) := by decide +kernel
theorem own_d2_150 : decode method_2_code 150 = .ok (.sipush 12288, 3) := by decide +kernel
theorem own_d2_153 : decode method_2_code 153 = .ok (.if_icmp .gt 5, 3) := by decide +kernel
theorem own_d2_156 : decode method_2_code 156 = .ok (.iconst 1, 1) := by decide +kernel
theorem own_d2_157 : decode method_2_code 157 = .ok (.ireturn, 1) := by decide +kernel
theorem own_d2_158 : decode method_2_code 158 = .ok (.iload_n 0, 1) := by decide +kernel
theorem own_d2_159 : decode method_2_code 159 = .ok (.ldc 8, 2) := by decide +kernel
theorem own_d2_161 : decode method_2_code 161 = .ok (.if_icmp .lt 11, 3) := by decide +kernel
theorem own_d2_164 : decode method_2_code 164 = .ok (.iload_n 0, 1) := by decide +kernel
theorem own_d2_165 : decode method_2_code 165 = .ok (.ldc 9, 2) := by decide +kernel
theorem own_d2_167 : decode method_2_code 167 = .ok (.if_icmp .gt 5, 3) := by decide +kernel
theorem own_d2_170 : decode method_2_code 170 = .ok (.iconst 1, 1) := by decide +kernel
theorem own_d2_171 : decode method_2_code 171 = .ok (.ireturn, 1) := by decide +kernel
theorem own_d2_172 : decode method_2_code 172 = .ok (.iload_n 0, 1) := by decide +kernel
theorem own_d2_173 : decode method_2_code 173 = .ok (.ldc 10, 2) := by decide +kernel
theorem own_d2_175 : decode method_2_code 175 = .ok (.if_icmp .lt 11, 3) := by decide +kernel
theorem own_d2_178 : decode method_2_code 178 = .ok (.iload_n 0, 1) := by decide +kernel
theorem own_d2_179 : decode method_2_code 179 = .ok (.ldc 11, 2) := by decide +kernel
theorem own_d2_181 : decode method_2_code 181 = .ok (.if_icmp .gt 5, 3) := by decide +kernel
theorem own_d2_184 : decode method_2_code 184 = .ok (.iconst 1, 1) := by decide +kernel
theorem own_d2_185 : decode method_2_code 185 = .ok (.ireturn, 1) := by decide +kernel
theorem own_d2_186 : decode method_2_code 186 = .ok (.iload_n 0, 1) := by decide +kernel
theorem own_d2_187 : decode method_2_code 187 = .ok (.ldc 12, 2) := by decide +kernel
theorem own_d2_189 : decode method_2_code 189 = .ok (.if_icmp .eq 9, 3) := by decide +kernel
theorem own_d2_192 : decode method_2_code 192 = .ok (.iload_n 0, 1) := by decide +kernel
theorem own_d2_193 : decode method_2_code 193 = .ok (.ldc 13, 2) := by decide +kernel
theorem own_d2_195 : decode method_2_code 195 = .ok (.if_icmp .ne 5, 3) := by decide +kernel
theorem own_d2_198 : decode method_2_code 198 = .ok (.iconst 1, 1) := by decide +kernel
theorem own_d2_199 : decode method_2_code 199 = .ok (.ireturn, 1) := by decide +kernel
theorem own_d2_200 : decode method_2_code 200 = .ok (.iconst 0, 1) := by decide +kernel
theorem own_d2_201 : decode method_2_code 201 = .ok (.ireturn, 1) := by decide +kernel
theorem own_pl2 : plainFor (⟨"com/example/antipolis/antipolis/value/XmlCharsIsNameStartPinLaw", "excluded", "(I)Z"⟩ : MethodName) = true := plainFor_of_name (by first | (simp [plainName, overriddenIn]; done) | decide +kernel)
theorem own_ef2 (m : MethodId) (p0 : Int32) : entryFrame m #[(.int p0)] 1 = mkF m 0 #[.val (.int p0)] [] := by first | (simp [entryFrame, mkF, argsToLocals, Value.category]; done) | rfl
def Qo2 (Z : State) (p0 : Int32)  (h0 : Heap) (n0 : Nat) (v : Option Value) (h : Heap) (L : List Loc) : Prop := v = some (.int (f2_0 p0)) ∧ Fr n0 L ∧ h = h0
set_option maxRecDepth 65536 in
set_option maxHeartbeats 40000000 in
theorem rm2 (l : Launch) (Z : State) (aw : Array Value) (hw : ∀ d ∈ tables_1, d.before aw Z = true) (ws : List Jvm.Cond) (p0 : Int32)  (h0 : Heap) (n0 : Nat) (Z0 : n0 ≤ h0.size)  :
    MetFree l (⟨"com/example/antipolis/antipolis/value/XmlCharsIsNameStartPinLaw", "excluded", "(I)Z"⟩ : MethodName) (head1 (Jvm.Cond.code (⟨"com/example/antipolis/antipolis/value/XmlCharsIsNameStartPinLaw", "excluded", "(I)Z"⟩ : MethodName) method_2_code 1 (some .boolean) :: ws) ({ frames := 0, cells := 0, slots := 0, locals := 0 } : Room)) (fun a U => a = #[(.int p0)] ∧ Z.Warmed39 U.vm ∧ U.heap = h0) (fun _ _ _ _ _ => True) (fun _ U o U' => ∃ v L, o = .returned v ∧ (Qo2 Z p0 h0 n0) v U'.heap L ∧ FrameEnd U o U' L ({ frames := 0, cells := 0, slots := 0, locals := 0 } : Room).cells ({ frames := 0, cells := 0, slots := 0, locals := 0 } : Room).slots) := by
  refine ofWp (Q := Qo2 Z p0 h0 n0) own_pl2 (fun m => own_ef2 m p0) ?_
  intro p e s m below meth c T0 hx hby hml hown hnm hlk hret hZ X0 e0
  change s.vm.findClass "com/example/antipolis/antipolis/value/XmlCharsIsNameStartPinLaw" = some m.cls at hown
  have NF0 := Fr.nil n0
  have J186 : ∀ (T : State) (locs : List Loc) (cells slots : Nat) (X : Stand p l e ({ frames := 0, cells := 0, slots := 0, locals := 0 } : Room) s m #[(.int p0)] below meth c T locs cells slots) (eT : T.heap = h0) (NF : Fr n0 locs) (hC : cells ≤ 0) (hS : slots ≤ 0) (x0 : Int32) , (f2_0 p0) = (f2_186 x0) → Wp p e below (Gd s (Qo2 Z p0 h0 n0) ({ frames := 0, cells := 0, slots := 0, locals := 0 } : Room).cells ({ frames := 0, cells := 0, slots := 0, locals := 0 } : Room).slots) (T.setTop (mkF m 186 #[.val (.int x0)] [])) := by
    intro T locs cells slots X eT NF hC hS x0 hv
    have hv1 : (f2_0 p0) = (if x0 = (65534 : Int32) then (1 : Int32) else (if x0 = (65535 : Int32) then (1 : Int32) else (0 : Int32))) := hv
    refine Wp.via (fun _ k => XS.iloadN X.here hx rfl (hb hby own_d2_186) rfl k) ?_
    show Wp p e below _ (T.setTop (mkF m 187 #[.val (.int x0)] [(.int x0)]))
    refine Wp.via (fun _ k => X.ldcInt hx hown (mvT hZ (hw _ (List.mem_of_getElem? (i := 14) rfl))) (g := (mkF m 187 #[.val (.int x0)] [(.int x0)])) rfl (hb hby own_d2_187) _ k) ?_
    show Wp p e below _ (T.setTop (mkF m 189 #[.val (.int x0)] [(.int (65534 : Int32)), (.int x0)]))
    by_cases hc2 : x0 = (65534 : Int32)
    ·
      have hv2_ := hv1.trans (if_pos hc2)
      refine Wp.via (fun _ k => XS.icmpYes X.here hx rfl (pc0 := 189) (pc' := 198) rfl (hb hby own_d2_189) rfl (teq hc2).1 (by decide) (by decide) k) ?_
      show Wp p e below _ (T.setTop (mkF m 198 #[.val (.int x0)] []))
      refine Wp.via (fun _ k => XS.iconst X.here hx rfl (hb hby own_d2_198) k) ?_
      show Wp p e below _ (T.setTop (mkF m 199 #[.val (.int x0)] [(.int (1 : Int32))]))
      exact Wp.retI X hlk hx hret (by simp) (by first | rfl | decide) (hb hby own_d2_199) ⟨by rw [hv2_], NF, eT⟩ (by omega) (by omega)
    ·
      have hv2_ := hv1.trans (if_neg hc2)
      refine Wp.via (fun _ k => XS.icmpNo X.here hx rfl (hb hby own_d2_189) rfl (feq hc2).1 k) ?_
      show Wp p e below _ (T.setTop (mkF m 192 #[.val (.int x0)] []))
      refine Wp.via (fun _ k => XS.iloadN X.here hx rfl (hb hby own_d2_192) rfl k) ?_
      show Wp p e below _ (T.setTop (mkF m 193 #[.val (.int x0)] [(.int x0)]))
      refine Wp.via (fun _ k => X.ldcInt hx hown (mvT hZ (hw _ (List.mem_of_getElem? (i := 15) rfl))) (g := (mkF m 193 #[.val (.int x0)] [(.int x0)])) rfl (hb hby own_d2_193) _ k) ?_
      show Wp p e below _ (T.setTop (mkF m 195 #[.val (.int x0)] [(.int (65535 : Int32)), (.int x0)]))
      by_cases hc3 : x0 = (65535 : Int32)
      ·
        have hv3_ := hv2_.trans (if_pos hc3)
        refine Wp.via (fun _ k => XS.icmpNo X.here hx rfl (hb hby own_d2_195) rfl (teq hc3).2 k) ?_
        show Wp p e below _ (T.setTop (mkF m 198 #[.val (.int x0)] []))
        refine Wp.via (fun _ k => XS.iconst X.here hx rfl (hb hby own_d2_198) k) ?_
        show Wp p e below _ (T.setTop (mkF m 199 #[.val (.int x0)] [(.int (1 : Int32))]))
        exact Wp.retI X hlk hx hret (by simp) (by first | rfl | decide) (hb hby own_d2_199) ⟨by rw [hv3_], NF, eT⟩ (by omega) (by omega)
      ·
        have hv3_ := hv2_.trans (if_neg hc3)
        refine Wp.via (fun _ k => XS.icmpYes X.here hx rfl (pc0 := 195) (pc' := 200) rfl (hb hby own_d2_195) rfl (feq hc3).2 (by decide) (by decide) k) ?_
        show Wp p e below _ (T.setTop (mkF m 200 #[.val (.int x0)] []))
        refine Wp.via (fun _ k => XS.iconst X.here hx rfl (hb hby own_d2_200) k) ?_
        show Wp p e below _ (T.setTop (mkF m 201 #[.val (.int x0)] [(.int (0 : Int32))]))
        exact Wp.retI X hlk hx hret (by simp) (by first | rfl | decide) (hb hby own_d2_201) ⟨by rw [hv3_], NF, eT⟩ (by omega) (by omega)
  have J172 : ∀ (T : State) (locs : List Loc) (cells slots : Nat) (X : Stand p l e ({ frames := 0, cells := 0, slots := 0, locals := 0 } : Room) s m #[(.int p0)] below meth c T locs cells slots) (eT : T.heap = h0) (NF : Fr n0 locs) (hC : cells ≤ 0) (hS : slots ≤ 0) (x0 : Int32) , (f2_0 p0) = (f2_172 x0) → Wp p e below (Gd s (Qo2 Z p0 h0 n0) ({ frames := 0, cells := 0, slots := 0, locals := 0 } : Room).cells ({ frames := 0, cells := 0, slots := 0, locals := 0 } : Room).slots) (T.setTop (mkF m 172 #[.val (.int x0)] [])) := by
    intro T locs cells slots X eT NF hC hS x0 hv
    have hv4 : (f2_0 p0) = (if x0 < (64976 : Int32) then (f2_186 x0) else (if (65007 : Int32) < x0 then (f2_186 x0) else (1 : Int32))) := hv
    refine Wp.via (fun _ k => XS.iloadN X.here hx rfl (hb hby own_d2_172) rfl k) ?_
    show Wp p e below _ (T.setTop (mkF m 173 #[.val (.int x0)] [(.int x0)]))
    refine Wp.via (fun _ k => X.ldcInt hx hown (mvT hZ (hw _ (List.mem_of_getElem? (i := 13) rfl))) (g := (mkF m 173 #[.val (.int x0)] [(.int x0)])) rfl (hb hby own_d2_173) _ k) ?_
    show Wp p e below _ (T.setTop (mkF m 175 #[.val (.int x0)] [(.int (64976 : Int32)), (.int x0)]))
    by_cases hc5 : x0 < (64976 : Int32)
    ·
      have hv5_ := hv4.trans (if_pos hc5)
      refine Wp.via (fun _ k => XS.icmpYes X.here hx rfl (pc0 := 175) (pc' := 186) rfl (hb hby own_d2_175) rfl (tlt hc5).1 (by decide) (by decide) k) ?_
      show Wp p e below _ (T.setTop (mkF m 186 #[.val (.int x0)] []))
      exact J186 T _ _ _ X eT NF (by omega) (by omega) x0 hv5_
    ·
      have hv5_ := hv4.trans (if_neg hc5)
      refine Wp.via (fun _ k => XS.icmpNo X.here hx rfl (hb hby own_d2_175) rfl (flt hc5).1 k) ?_
      show Wp p e below _ (T.setTop (mkF m 178 #[.val (.int x0)] []))
      refine Wp.via (fun _ k => XS.iloadN X.here hx rfl (hb hby own_d2_178) rfl k) ?_
      show Wp p e below _ (T.setTop (mkF m 179 #[.val (.int x0)] [(.int x0)]))
      refine Wp.via (fun _ k => X.ldcInt hx hown (mvT hZ (hw _ (List.mem_of_getElem? (i := 21) rfl))) (g := (mkF m 179 #[.val (.int x0)] [(.int x0)])) rfl (hb hby own_d2_179) _ k) ?_
      show Wp p e below _ (T.setTop (mkF m 181 #[.val (.int x0)] [(.int (65007 : Int32)), (.int x0)]))
      by_cases hc6 : (65007 : Int32) < x0
      ·
        have hv6_ := hv5_.trans (if_pos hc6)
        refine Wp.via (fun _ k => XS.icmpYes X.here hx rfl (pc0 := 181) (pc' := 186) rfl (hb hby own_d2_181) rfl (tlt hc6).2.2.1 (by decide) (by decide) k) ?_
        show Wp p e below _ (T.setTop (mkF m 186 #[.val (.int x0)] []))
        exact J186 T _ _ _ X eT NF (by omega) (by omega) x0 hv6_
      ·
        have hv6_ := hv5_.trans (if_neg hc6)
        refine Wp.via (fun _ k => XS.icmpNo X.here hx rfl (hb hby own_d2_181) rfl (flt hc6).2.2.1 k) ?_
        show Wp p e below _ (T.setTop (mkF m 184 #[.val (.int x0)] []))
        refine Wp.via (fun _ k => XS.iconst X.here hx rfl (hb hby own_d2_184) k) ?_
        show Wp p e below _ (T.setTop (mkF m 185 #[.val (.int x0)] [(.int (1 : Int32))]))
        exact Wp.retI X hlk hx hret (by simp) (by first | rfl | decide) (hb hby own_d2_185) ⟨by rw [hv6_], NF, eT⟩ (by omega) (by omega)
  have J158 : ∀ (T : State) (locs : List Loc) (cells slots : Nat) (X : Stand p l e ({ frames := 0, cells := 0, slots := 0, locals := 0 } : Room) s m #[(.int p0)] below meth c T locs cells slots) (eT : T.heap = h0) (NF : Fr n0 locs) (hC : cells ≤ 0) (hS : slots ≤ 0) (x0 : Int32) , (f2_0 p0) = (f2_158 x0) → Wp p e below (Gd s (Qo2 Z p0 h0 n0) ({ frames := 0, cells := 0, slots := 0, locals := 0 } : Room).cells ({ frames := 0, cells := 0, slots := 0, locals := 0 } : Room).slots) (T.setTop (mkF m 158 #[.val (.int x0)] [])) := by
    intro T locs cells slots X eT NF hC hS x0 hv
    have hv7 : (f2_0 p0) = (if x0 < (55296 : Int32) then (f2_172 x0) else (if (63743 : Int32) < x0 then (f2_172 x0) else (1 : Int32))) := hv
    refine Wp.via (fun _ k => XS.iloadN X.here hx rfl (hb hby own_d2_158) rfl k) ?_
    show Wp p e below _ (T.setTop (mkF m 159 #[.val (.int x0)] [(.int x0)]))
    refine Wp.via (fun _ k => X.ldcInt hx hown (mvT hZ (hw _ (List.mem_of_getElem? (i := 12) rfl))) (g := (mkF m 159 #[.val (.int x0)] [(.int x0)])) rfl (hb hby own_d2_159) _ k) ?_
    show Wp p e below _ (T.setTop (mkF m 161 #[.val (.int x0)] [(.int (55296 : Int32)), (.int x0)]))
    by_cases hc8 : x0 < (55296 : Int32)
    ·
      have hv8_ := hv7.trans (if_pos hc8)
      refine Wp.via (fun _ k => XS.icmpYes X.here hx rfl (pc0 := 161) (pc' := 172) rfl (hb hby own_d2_161) rfl (tlt hc8).1 (by decide) (by decide) k) ?_
      show Wp p e below _ (T.setTop (mkF m 172 #[.val (.int x0)] []))
      exact J172 T _ _ _ X eT NF (by omega) (by omega) x0 hv8_
    ·
      have hv8_ := hv7.trans (if_neg hc8)
      refine Wp.via (fun _ k => XS.icmpNo X.here hx rfl (hb hby own_d2_161) rfl (flt hc8).1 k) ?_
      show Wp p e below _ (T.setTop (mkF m 164 #[.val (.int x0)] []))
      refine Wp.via (fun _ k => XS.iloadN X.here hx rfl (hb hby own_d2_164) rfl k) ?_
      show Wp p e below _ (T.setTop (mkF m 165 #[.val (.int x0)] [(.int x0)]))
      refine Wp.via (fun _ k => X.ldcInt hx hown (mvT hZ (hw _ (List.mem_of_getElem? (i := 20) rfl))) (g := (mkF m 165 #[.val (.int x0)] [(.int x0)])) rfl (hb hby own_d2_165) _ k) ?_
      show Wp p e below _ (T.setTop (mkF m 167 #[.val (.int x0)] [(.int (63743 : Int32)), (.int x0)]))
      by_cases hc9 : (63743 : Int32) < x0
      ·
        have hv9_ := hv8_.trans (if_pos hc9)
        refine Wp.via (fun _ k => XS.icmpYes X.here hx rfl (pc0 := 167) (pc' := 172) rfl (hb hby own_d2_167) rfl (tlt hc9).2.2.1 (by decide) (by decide) k) ?_
        show Wp p e below _ (T.setTop (mkF m 172 #[.val (.int x0)] []))
        exact J172 T _ _ _ X eT NF (by omega) (by omega) x0 hv9_
      ·
        have hv9_ := hv8_.trans (if_neg hc9)
        refine Wp.via (fun _ k => XS.icmpNo X.here hx rfl (hb hby own_d2_167) rfl (flt hc9).2.2.1 k) ?_
        show Wp p e below _ (T.setTop (mkF m 170 #[.val (.int x0)] []))
        refine Wp.via (fun _ k => XS.iconst X.here hx rfl (hb hby own_d2_170) k) ?_
        show Wp p e below _ (T.setTop (mkF m 171 #[.val (.int x0)] [(.int (1 : Int32))]))
        exact Wp.retI X hlk hx hret (by simp) (by first | rfl | decide) (hb hby own_d2_171) ⟨by rw [hv9_], NF, eT⟩ (by omega) (by omega)
  have J142 : ∀ (T : State) (locs : List Loc) (cells slots : Nat) (X : Stand p l e ({ frames := 0, cells := 0, slots := 0, locals := 0 } : Room) s m #[(.int p0)] below meth c T locs cells slots) (eT : T.heap = h0) (NF : Fr n0 locs) (hC : cells ≤ 0) (hS : slots ≤ 0) (x0 : Int32) , (f2_0 p0) = (f2_142 x0) → Wp p e below (Gd s (Qo2 Z p0 h0 n0) ({ frames := 0, cells := 0, slots := 0, locals := 0 } : Room).cells ({ frames := 0, cells := 0, slots := 0, locals := 0 } : Room).slots) (T.setTop (mkF m 142 #[.val (.int x0)] [])) := by
    intro T locs cells slots X eT NF hC hS x0 hv
    have hv10 : (f2_0 p0) = (if x0 < (12272 : Int32) then (f2_158 x0) else (if (12288 : Int32) < x0 then (f2_158 x0) else (1 : Int32))) := hv
    refine Wp.via (fun _ k => XS.iloadN X.here hx rfl (hb hby own_d2_142) rfl k) ?_
    show Wp p e below _ (T.setTop (mkF m 143 #[.val (.int x0)] [(.int x0)]))
    refine Wp.via (fun _ k => XS.sipush X.here hx rfl (hb hby own_d2_143) k) ?_
    show Wp p e below _ (T.setTop (mkF m 146 #[.val (.int x0)] [(.int (12272 : Int32)), (.int x0)]))
    by_cases hc11 : x0 < (12272 : Int32)
    ·
      have hv11_ := hv10.trans (if_pos hc11)
      refine Wp.via (fun _ k => XS.icmpYes X.here hx rfl (pc0 := 146) (pc' := 158) rfl (hb hby own_d2_146) rfl (tlt hc11).1 (by decide) (by decide) k) ?_
      show Wp p e below _ (T.setTop (mkF m 158 #[.val (.int x0)] []))
      exact J158 T _ _ _ X eT NF (by omega) (by omega) x0 hv11_
    ·
      have hv11_ := hv10.trans (if_neg hc11)
      refine Wp.via (fun _ k => XS.icmpNo X.here hx rfl (hb hby own_d2_146) rfl (flt hc11).1 k) ?_
      show Wp p e below _ (T.setTop (mkF m 149 #[.val (.int x0)] []))
      refine Wp.via (fun _ k => XS.iloadN X.here hx rfl (hb hby own_d2_149) rfl k) ?_
      show Wp p e below _ (T.setTop (mkF m 150 #[.val (.int x0)] [(.int x0)]))
      refine Wp.via (fun _ k => XS.sipush X.here hx rfl (hb hby own_d2_150) k) ?_
      show Wp p e below _ (T.setTop (mkF m 153 #[.val (.int x0)] [(.int (12288 : Int32)), (.int x0)]))
      by_cases hc12 : (12288 : Int32) < x0
      ·
        have hv12_ := hv11_.trans (if_pos hc12)
        refine Wp.via (fun _ k => XS.icmpYes X.here hx rfl (pc0 := 153) (pc' := 158) rfl (hb hby own_d2_153) rfl (tlt hc12).2.2.1 (by decide) (by decide) k) ?_
        show Wp p e below _ (T.setTop (mkF m 158 #[.val (.int x0)] []))
        exact J158 T _ _ _ X eT NF (by omega) (by omega) x0 hv12_
      ·
        have hv12_ := hv11_.trans (if_neg hc12)
        refine Wp.via (fun _ k => XS.icmpNo X.here hx rfl (hb hby own_d2_153) rfl (flt hc12).2.2.1 k) ?_
        show Wp p e below _ (T.setTop (mkF m 156 #[.val (.int x0)] []))
        refine Wp.via (fun _ k => XS.iconst X.here hx rfl (hb hby own_d2_156) k) ?_
        show Wp p e below _ (T.setTop (mkF m 157 #[.val (.int x0)] [(.int (1 : Int32))]))
        exact Wp.retI X hlk hx hret (by simp) (by first | rfl | decide) (hb hby own_d2_157) ⟨by rw [hv12_], NF, eT⟩ (by omega) (by omega)
  have J126 : ∀ (T : State) (locs : List Loc) (cells slots : Nat) (X : Stand p l e ({ frames := 0, cells := 0, slots := 0, locals := 0 } : Room) s m #[(.int p0)] below meth c T locs cells slots) (eT : T.heap = h0) (NF : Fr n0 locs) (hC : cells ≤ 0) (hS : slots ≤ 0) (x0 : Int32) , (f2_0 p0) = (f2_126 x0) → Wp p e below (Gd s (Qo2 Z p0 h0 n0) ({ frames := 0, cells := 0, slots := 0, locals := 0 } : Room).cells ({ frames := 0, cells := 0, slots := 0, locals := 0 } : Room).slots) (T.setTop (mkF m 126 #[.val (.int x0)] [])) := by
    intro T locs cells slots X eT NF hC hS x0 hv
    have hv13 : (f2_0 p0) = (if x0 < (8592 : Int32) then (f2_142 x0) else (if (11263 : Int32) < x0 then (f2_142 x0) else (1 : Int32))) := hv
    refine Wp.via (fun _ k => XS.iloadN X.here hx rfl (hb hby own_d2_126) rfl k) ?_
    show Wp p e below _ (T.setTop (mkF m 127 #[.val (.int x0)] [(.int x0)]))
    refine Wp.via (fun _ k => XS.sipush X.here hx rfl (hb hby own_d2_127) k) ?_
    show Wp p e below _ (T.setTop (mkF m 130 #[.val (.int x0)] [(.int (8592 : Int32)), (.int x0)]))
    by_cases hc14 : x0 < (8592 : Int32)
    ·
      have hv14_ := hv13.trans (if_pos hc14)
      refine Wp.via (fun _ k => XS.icmpYes X.here hx rfl (pc0 := 130) (pc' := 142) rfl (hb hby own_d2_130) rfl (tlt hc14).1 (by decide) (by decide) k) ?_
      show Wp p e below _ (T.setTop (mkF m 142 #[.val (.int x0)] []))
      exact J142 T _ _ _ X eT NF (by omega) (by omega) x0 hv14_
    ·
      have hv14_ := hv13.trans (if_neg hc14)
      refine Wp.via (fun _ k => XS.icmpNo X.here hx rfl (hb hby own_d2_130) rfl (flt hc14).1 k) ?_
      show Wp p e below _ (T.setTop (mkF m 133 #[.val (.int x0)] []))
      refine Wp.via (fun _ k => XS.iloadN X.here hx rfl (hb hby own_d2_133) rfl k) ?_
      show Wp p e below _ (T.setTop (mkF m 134 #[.val (.int x0)] [(.int x0)]))
      refine Wp.via (fun _ k => XS.sipush X.here hx rfl (hb hby own_d2_134) k) ?_
      show Wp p e below _ (T.setTop (mkF m 137 #[.val (.int x0)] [(.int (11263 : Int32)), (.int x0)]))
      by_cases hc15 : (11263 : Int32) < x0
      ·
        have hv15_ := hv14_.trans (if_pos hc15)
        refine Wp.via (fun _ k => XS.icmpYes X.here hx rfl (pc0 := 137) (pc' := 142) rfl (hb hby own_d2_137) rfl (tlt hc15).2.2.1 (by decide) (by decide) k) ?_
        show Wp p e below _ (T.setTop (mkF m 142 #[.val (.int x0)] []))
        exact J142 T _ _ _ X eT NF (by omega) (by omega) x0 hv15_
      ·
        have hv15_ := hv14_.trans (if_neg hc15)
        refine Wp.via (fun _ k => XS.icmpNo X.here hx rfl (hb hby own_d2_137) rfl (flt hc15).2.2.1 k) ?_
        show Wp p e below _ (T.setTop (mkF m 140 #[.val (.int x0)] []))
        refine Wp.via (fun _ k => XS.iconst X.here hx rfl (hb hby own_d2_140) k) ?_
        show Wp p e below _ (T.setTop (mkF m 141 #[.val (.int x0)] [(.int (1 : Int32))]))
        exact Wp.retI X hlk hx hret (by simp) (by first | rfl | decide) (hb hby own_d2_141) ⟨by rw [hv15_], NF, eT⟩ (by omega) (by omega)
  have J110 : ∀ (T : State) (locs : List Loc) (cells slots : Nat) (X : Stand p l e ({ frames := 0, cells := 0, slots := 0, locals := 0 } : Room) s m #[(.int p0)] below meth c T locs cells slots) (eT : T.heap = h0) (NF : Fr n0 locs) (hC : cells ≤ 0) (hS : slots ≤ 0) (x0 : Int32) , (f2_0 p0) = (f2_110 x0) → Wp p e below (Gd s (Qo2 Z p0 h0 n0) ({ frames := 0, cells := 0, slots := 0, locals := 0 } : Room).cells ({ frames := 0, cells := 0, slots := 0, locals := 0 } : Room).slots) (T.setTop (mkF m 110 #[.val (.int x0)] [])) := by
    intro T locs cells slots X eT NF hC hS x0 hv
    have hv16 : (f2_0 p0) = (if x0 < (8206 : Int32) then (f2_126 x0) else (if (8303 : Int32) < x0 then (f2_126 x0) else (1 : Int32))) := hv
    refine Wp.via (fun _ k => XS.iloadN X.here hx rfl (hb hby own_d2_110) rfl k) ?_
    show Wp p e below _ (T.setTop (mkF m 111 #[.val (.int x0)] [(.int x0)]))
    refine Wp.via (fun _ k => XS.sipush X.here hx rfl (hb hby own_d2_111) k) ?_
    show Wp p e below _ (T.setTop (mkF m 114 #[.val (.int x0)] [(.int (8206 : Int32)), (.int x0)]))
    by_cases hc17 : x0 < (8206 : Int32)
    ·
      have hv17_ := hv16.trans (if_pos hc17)
      refine Wp.via (fun _ k => XS.icmpYes X.here hx rfl (pc0 := 114) (pc' := 126) rfl (hb hby own_d2_114) rfl (tlt hc17).1 (by decide) (by decide) k) ?_
      show Wp p e below _ (T.setTop (mkF m 126 #[.val (.int x0)] []))
      exact J126 T _ _ _ X eT NF (by omega) (by omega) x0 hv17_
    ·
      have hv17_ := hv16.trans (if_neg hc17)
      refine Wp.via (fun _ k => XS.icmpNo X.here hx rfl (hb hby own_d2_114) rfl (flt hc17).1 k) ?_
      show Wp p e below _ (T.setTop (mkF m 117 #[.val (.int x0)] []))
      refine Wp.via (fun _ k => XS.iloadN X.here hx rfl (hb hby own_d2_117) rfl k) ?_
      show Wp p e below _ (T.setTop (mkF m 118 #[.val (.int x0)] [(.int x0)]))
      refine Wp.via (fun _ k => XS.sipush X.here hx rfl (hb hby own_d2_118) k) ?_
      show Wp p e below _ (T.setTop (mkF m 121 #[.val (.int x0)] [(.int (8303 : Int32)), (.int x0)]))
      by_cases hc18 : (8303 : Int32) < x0
      ·
        have hv18_ := hv17_.trans (if_pos hc18)
        refine Wp.via (fun _ k => XS.icmpYes X.here hx rfl (pc0 := 121) (pc' := 126) rfl (hb hby own_d2_121) rfl (tlt hc18).2.2.1 (by decide) (by decide) k) ?_
        show Wp p e below _ (T.setTop (mkF m 126 #[.val (.int x0)] []))
        exact J126 T _ _ _ X eT NF (by omega) (by omega) x0 hv18_
      ·
        have hv18_ := hv17_.trans (if_neg hc18)
        refine Wp.via (fun _ k => XS.icmpNo X.here hx rfl (hb hby own_d2_121) rfl (flt hc18).2.2.1 k) ?_
        show Wp p e below _ (T.setTop (mkF m 124 #[.val (.int x0)] []))
        refine Wp.via (fun _ k => XS.iconst X.here hx rfl (hb hby own_d2_124) k) ?_
        show Wp p e below _ (T.setTop (mkF m 125 #[.val (.int x0)] [(.int (1 : Int32))]))
        exact Wp.retI X hlk hx hret (by simp) (by first | rfl | decide) (hb hby own_d2_125) ⟨by rw [hv18_], NF, eT⟩ (by omega) (by omega)
  have J85 : ∀ (T : State) (locs : List Loc) (cells slots : Nat) (X : Stand p l e ({ frames := 0, cells := 0, slots := 0, locals := 0 } : Room) s m #[(.int p0)] below meth c T locs cells slots) (eT : T.heap = h0) (NF : Fr n0 locs) (hC : cells ≤ 0) (hS : slots ≤ 0) (x0 : Int32) , (f2_0 p0) = (f2_85 x0) → Wp p e below (Gd s (Qo2 Z p0 h0 n0) ({ frames := 0, cells := 0, slots := 0, locals := 0 } : Room).cells ({ frames := 0, cells := 0, slots := 0, locals := 0 } : Room).slots) (T.setTop (mkF m 85 #[.val (.int x0)] [])) := by
    intro T locs cells slots X eT NF hC hS x0 hv
    have hv19 : (f2_0 p0) = (if x0 = (894 : Int32) then (1 : Int32) else (if x0 < (8192 : Int32) then (f2_110 x0) else (if (8203 : Int32) < x0 then (f2_110 x0) else (1 : Int32)))) := hv
    refine Wp.via (fun _ k => XS.iloadN X.here hx rfl (hb hby own_d2_85) rfl k) ?_
    show Wp p e below _ (T.setTop (mkF m 86 #[.val (.int x0)] [(.int x0)]))
    refine Wp.via (fun _ k => XS.sipush X.here hx rfl (hb hby own_d2_86) k) ?_
    show Wp p e below _ (T.setTop (mkF m 89 #[.val (.int x0)] [(.int (894 : Int32)), (.int x0)]))
    by_cases hc20 : x0 = (894 : Int32)
    ·
      have hv20_ := hv19.trans (if_pos hc20)
      refine Wp.via (fun _ k => XS.icmpNo X.here hx rfl (hb hby own_d2_89) rfl (teq hc20).2 k) ?_
      show Wp p e below _ (T.setTop (mkF m 92 #[.val (.int x0)] []))
      refine Wp.via (fun _ k => XS.iconst X.here hx rfl (hb hby own_d2_92) k) ?_
      show Wp p e below _ (T.setTop (mkF m 93 #[.val (.int x0)] [(.int (1 : Int32))]))
      exact Wp.retI X hlk hx hret (by simp) (by first | rfl | decide) (hb hby own_d2_93) ⟨by rw [hv20_], NF, eT⟩ (by omega) (by omega)
    ·
      have hv20_ := hv19.trans (if_neg hc20)
      refine Wp.via (fun _ k => XS.icmpYes X.here hx rfl (pc0 := 89) (pc' := 94) rfl (hb hby own_d2_89) rfl (feq hc20).2 (by decide) (by decide) k) ?_
      show Wp p e below _ (T.setTop (mkF m 94 #[.val (.int x0)] []))
      refine Wp.via (fun _ k => XS.iloadN X.here hx rfl (hb hby own_d2_94) rfl k) ?_
      show Wp p e below _ (T.setTop (mkF m 95 #[.val (.int x0)] [(.int x0)]))
      refine Wp.via (fun _ k => XS.sipush X.here hx rfl (hb hby own_d2_95) k) ?_
      show Wp p e below _ (T.setTop (mkF m 98 #[.val (.int x0)] [(.int (8192 : Int32)), (.int x0)]))
      by_cases hc21 : x0 < (8192 : Int32)
      ·
        have hv21_ := hv20_.trans (if_pos hc21)
        refine Wp.via (fun _ k => XS.icmpYes X.here hx rfl (pc0 := 98) (pc' := 110) rfl (hb hby own_d2_98) rfl (tlt hc21).1 (by decide) (by decide) k) ?_
        show Wp p e below _ (T.setTop (mkF m 110 #[.val (.int x0)] []))
        exact J110 T _ _ _ X eT NF (by omega) (by omega) x0 hv21_
      ·
        have hv21_ := hv20_.trans (if_neg hc21)
        refine Wp.via (fun _ k => XS.icmpNo X.here hx rfl (hb hby own_d2_98) rfl (flt hc21).1 k) ?_
        show Wp p e below _ (T.setTop (mkF m 101 #[.val (.int x0)] []))
        refine Wp.via (fun _ k => XS.iloadN X.here hx rfl (hb hby own_d2_101) rfl k) ?_
        show Wp p e below _ (T.setTop (mkF m 102 #[.val (.int x0)] [(.int x0)]))
        refine Wp.via (fun _ k => XS.sipush X.here hx rfl (hb hby own_d2_102) k) ?_
        show Wp p e below _ (T.setTop (mkF m 105 #[.val (.int x0)] [(.int (8203 : Int32)), (.int x0)]))
        by_cases hc22 : (8203 : Int32) < x0
        ·
          have hv22_ := hv21_.trans (if_pos hc22)
          refine Wp.via (fun _ k => XS.icmpYes X.here hx rfl (pc0 := 105) (pc' := 110) rfl (hb hby own_d2_105) rfl (tlt hc22).2.2.1 (by decide) (by decide) k) ?_
          show Wp p e below _ (T.setTop (mkF m 110 #[.val (.int x0)] []))
          exact J110 T _ _ _ X eT NF (by omega) (by omega) x0 hv22_
        ·
          have hv22_ := hv21_.trans (if_neg hc22)
          refine Wp.via (fun _ k => XS.icmpNo X.here hx rfl (hb hby own_d2_105) rfl (flt hc22).2.2.1 k) ?_
          show Wp p e below _ (T.setTop (mkF m 108 #[.val (.int x0)] []))
          refine Wp.via (fun _ k => XS.iconst X.here hx rfl (hb hby own_d2_108) k) ?_
          show Wp p e below _ (T.setTop (mkF m 109 #[.val (.int x0)] [(.int (1 : Int32))]))
          exact Wp.retI X hlk hx hret (by simp) (by first | rfl | decide) (hb hby own_d2_109) ⟨by rw [hv22_], NF, eT⟩ (by omega) (by omega)
  have J53 : ∀ (T : State) (locs : List Loc) (cells slots : Nat) (X : Stand p l e ({ frames := 0, cells := 0, slots := 0, locals := 0 } : Room) s m #[(.int p0)] below meth c T locs cells slots) (eT : T.heap = h0) (NF : Fr n0 locs) (hC : cells ≤ 0) (hS : slots ≤ 0) (x0 : Int32) , (f2_0 p0) = (f2_53 x0) → Wp p e below (Gd s (Qo2 Z p0 h0 n0) ({ frames := 0, cells := 0, slots := 0, locals := 0 } : Room).cells ({ frames := 0, cells := 0, slots := 0, locals := 0 } : Room).slots) (T.setTop (mkF m 53 #[.val (.int x0)] [])) := by
    intro T locs cells slots X eT NF hC hS x0 hv
    have hv23 : (f2_0 p0) = (if x0 = (215 : Int32) then (1 : Int32) else (if x0 = (247 : Int32) then (1 : Int32) else (if x0 < (768 : Int32) then (f2_85 x0) else (if (879 : Int32) < x0 then (f2_85 x0) else (1 : Int32))))) := hv
    refine Wp.via (fun _ k => XS.iloadN X.here hx rfl (hb hby own_d2_53) rfl k) ?_
    show Wp p e below _ (T.setTop (mkF m 54 #[.val (.int x0)] [(.int x0)]))
    refine Wp.via (fun _ k => XS.sipush X.here hx rfl (hb hby own_d2_54) k) ?_
    show Wp p e below _ (T.setTop (mkF m 57 #[.val (.int x0)] [(.int (215 : Int32)), (.int x0)]))
    by_cases hc24 : x0 = (215 : Int32)
    ·
      have hv24_ := hv23.trans (if_pos hc24)
      refine Wp.via (fun _ k => XS.icmpYes X.here hx rfl (pc0 := 57) (pc' := 67) rfl (hb hby own_d2_57) rfl (teq hc24).1 (by decide) (by decide) k) ?_
      show Wp p e below _ (T.setTop (mkF m 67 #[.val (.int x0)] []))
      refine Wp.via (fun _ k => XS.iconst X.here hx rfl (hb hby own_d2_67) k) ?_
      show Wp p e below _ (T.setTop (mkF m 68 #[.val (.int x0)] [(.int (1 : Int32))]))
      exact Wp.retI X hlk hx hret (by simp) (by first | rfl | decide) (hb hby own_d2_68) ⟨by rw [hv24_], NF, eT⟩ (by omega) (by omega)
    ·
      have hv24_ := hv23.trans (if_neg hc24)
      refine Wp.via (fun _ k => XS.icmpNo X.here hx rfl (hb hby own_d2_57) rfl (feq hc24).1 k) ?_
      show Wp p e below _ (T.setTop (mkF m 60 #[.val (.int x0)] []))
      refine Wp.via (fun _ k => XS.iloadN X.here hx rfl (hb hby own_d2_60) rfl k) ?_
      show Wp p e below _ (T.setTop (mkF m 61 #[.val (.int x0)] [(.int x0)]))
      refine Wp.via (fun _ k => XS.sipush X.here hx rfl (hb hby own_d2_61) k) ?_
      show Wp p e below _ (T.setTop (mkF m 64 #[.val (.int x0)] [(.int (247 : Int32)), (.int x0)]))
      by_cases hc25 : x0 = (247 : Int32)
      ·
        have hv25_ := hv24_.trans (if_pos hc25)
        refine Wp.via (fun _ k => XS.icmpNo X.here hx rfl (hb hby own_d2_64) rfl (teq hc25).2 k) ?_
        show Wp p e below _ (T.setTop (mkF m 67 #[.val (.int x0)] []))
        refine Wp.via (fun _ k => XS.iconst X.here hx rfl (hb hby own_d2_67) k) ?_
        show Wp p e below _ (T.setTop (mkF m 68 #[.val (.int x0)] [(.int (1 : Int32))]))
        exact Wp.retI X hlk hx hret (by simp) (by first | rfl | decide) (hb hby own_d2_68) ⟨by rw [hv25_], NF, eT⟩ (by omega) (by omega)
      ·
        have hv25_ := hv24_.trans (if_neg hc25)
        refine Wp.via (fun _ k => XS.icmpYes X.here hx rfl (pc0 := 64) (pc' := 69) rfl (hb hby own_d2_64) rfl (feq hc25).2 (by decide) (by decide) k) ?_
        show Wp p e below _ (T.setTop (mkF m 69 #[.val (.int x0)] []))
        refine Wp.via (fun _ k => XS.iloadN X.here hx rfl (hb hby own_d2_69) rfl k) ?_
        show Wp p e below _ (T.setTop (mkF m 70 #[.val (.int x0)] [(.int x0)]))
        refine Wp.via (fun _ k => XS.sipush X.here hx rfl (hb hby own_d2_70) k) ?_
        show Wp p e below _ (T.setTop (mkF m 73 #[.val (.int x0)] [(.int (768 : Int32)), (.int x0)]))
        by_cases hc26 : x0 < (768 : Int32)
        ·
          have hv26_ := hv25_.trans (if_pos hc26)
          refine Wp.via (fun _ k => XS.icmpYes X.here hx rfl (pc0 := 73) (pc' := 85) rfl (hb hby own_d2_73) rfl (tlt hc26).1 (by decide) (by decide) k) ?_
          show Wp p e below _ (T.setTop (mkF m 85 #[.val (.int x0)] []))
          exact J85 T _ _ _ X eT NF (by omega) (by omega) x0 hv26_
        ·
          have hv26_ := hv25_.trans (if_neg hc26)
          refine Wp.via (fun _ k => XS.icmpNo X.here hx rfl (hb hby own_d2_73) rfl (flt hc26).1 k) ?_
          show Wp p e below _ (T.setTop (mkF m 76 #[.val (.int x0)] []))
          refine Wp.via (fun _ k => XS.iloadN X.here hx rfl (hb hby own_d2_76) rfl k) ?_
          show Wp p e below _ (T.setTop (mkF m 77 #[.val (.int x0)] [(.int x0)]))
          refine Wp.via (fun _ k => XS.sipush X.here hx rfl (hb hby own_d2_77) k) ?_
          show Wp p e below _ (T.setTop (mkF m 80 #[.val (.int x0)] [(.int (879 : Int32)), (.int x0)]))
          by_cases hc27 : (879 : Int32) < x0
          ·
            have hv27_ := hv26_.trans (if_pos hc27)
            refine Wp.via (fun _ k => XS.icmpYes X.here hx rfl (pc0 := 80) (pc' := 85) rfl (hb hby own_d2_80) rfl (tlt hc27).2.2.1 (by decide) (by decide) k) ?_
            show Wp p e below _ (T.setTop (mkF m 85 #[.val (.int x0)] []))
            exact J85 T _ _ _ X eT NF (by omega) (by omega) x0 hv27_
          ·
            have hv27_ := hv26_.trans (if_neg hc27)
            refine Wp.via (fun _ k => XS.icmpNo X.here hx rfl (hb hby own_d2_80) rfl (flt hc27).2.2.1 k) ?_
            show Wp p e below _ (T.setTop (mkF m 83 #[.val (.int x0)] []))
            refine Wp.via (fun _ k => XS.iconst X.here hx rfl (hb hby own_d2_83) k) ?_
            show Wp p e below _ (T.setTop (mkF m 84 #[.val (.int x0)] [(.int (1 : Int32))]))
            exact Wp.retI X hlk hx hret (by simp) (by first | rfl | decide) (hb hby own_d2_84) ⟨by rw [hv27_], NF, eT⟩ (by omega) (by omega)
  have J30 : ∀ (T : State) (locs : List Loc) (cells slots : Nat) (X : Stand p l e ({ frames := 0, cells := 0, slots := 0, locals := 0 } : Room) s m #[(.int p0)] below meth c T locs cells slots) (eT : T.heap = h0) (NF : Fr n0 locs) (hC : cells ≤ 0) (hS : slots ≤ 0) (x0 : Int32) , (f2_0 p0) = (f2_30 x0) → Wp p e below (Gd s (Qo2 Z p0 h0 n0) ({ frames := 0, cells := 0, slots := 0, locals := 0 } : Room).cells ({ frames := 0, cells := 0, slots := 0, locals := 0 } : Room).slots) (T.setTop (mkF m 30 #[.val (.int x0)] [])) := by
    intro T locs cells slots X eT NF hC hS x0 hv
    have hv28 : (f2_0 p0) = (if x0 = (96 : Int32) then (1 : Int32) else (if x0 < (123 : Int32) then (f2_53 x0) else (if (191 : Int32) < x0 then (f2_53 x0) else (1 : Int32)))) := hv
    refine Wp.via (fun _ k => XS.iloadN X.here hx rfl (hb hby own_d2_30) rfl k) ?_
    show Wp p e below _ (T.setTop (mkF m 31 #[.val (.int x0)] [(.int x0)]))
    refine Wp.via (fun _ k => XS.bipush X.here hx rfl (hb hby own_d2_31) k) ?_
    show Wp p e below _ (T.setTop (mkF m 33 #[.val (.int x0)] [(.int (96 : Int32)), (.int x0)]))
    by_cases hc29 : x0 = (96 : Int32)
    ·
      have hv29_ := hv28.trans (if_pos hc29)
      refine Wp.via (fun _ k => XS.icmpNo X.here hx rfl (hb hby own_d2_33) rfl (teq hc29).2 k) ?_
      show Wp p e below _ (T.setTop (mkF m 36 #[.val (.int x0)] []))
      refine Wp.via (fun _ k => XS.iconst X.here hx rfl (hb hby own_d2_36) k) ?_
      show Wp p e below _ (T.setTop (mkF m 37 #[.val (.int x0)] [(.int (1 : Int32))]))
      exact Wp.retI X hlk hx hret (by simp) (by first | rfl | decide) (hb hby own_d2_37) ⟨by rw [hv29_], NF, eT⟩ (by omega) (by omega)
    ·
      have hv29_ := hv28.trans (if_neg hc29)
      refine Wp.via (fun _ k => XS.icmpYes X.here hx rfl (pc0 := 33) (pc' := 38) rfl (hb hby own_d2_33) rfl (feq hc29).2 (by decide) (by decide) k) ?_
      show Wp p e below _ (T.setTop (mkF m 38 #[.val (.int x0)] []))
      refine Wp.via (fun _ k => XS.iloadN X.here hx rfl (hb hby own_d2_38) rfl k) ?_
      show Wp p e below _ (T.setTop (mkF m 39 #[.val (.int x0)] [(.int x0)]))
      refine Wp.via (fun _ k => XS.bipush X.here hx rfl (hb hby own_d2_39) k) ?_
      show Wp p e below _ (T.setTop (mkF m 41 #[.val (.int x0)] [(.int (123 : Int32)), (.int x0)]))
      by_cases hc30 : x0 < (123 : Int32)
      ·
        have hv30_ := hv29_.trans (if_pos hc30)
        refine Wp.via (fun _ k => XS.icmpYes X.here hx rfl (pc0 := 41) (pc' := 53) rfl (hb hby own_d2_41) rfl (tlt hc30).1 (by decide) (by decide) k) ?_
        show Wp p e below _ (T.setTop (mkF m 53 #[.val (.int x0)] []))
        exact J53 T _ _ _ X eT NF (by omega) (by omega) x0 hv30_
      ·
        have hv30_ := hv29_.trans (if_neg hc30)
        refine Wp.via (fun _ k => XS.icmpNo X.here hx rfl (hb hby own_d2_41) rfl (flt hc30).1 k) ?_
        show Wp p e below _ (T.setTop (mkF m 44 #[.val (.int x0)] []))
        refine Wp.via (fun _ k => XS.iloadN X.here hx rfl (hb hby own_d2_44) rfl k) ?_
        show Wp p e below _ (T.setTop (mkF m 45 #[.val (.int x0)] [(.int x0)]))
        refine Wp.via (fun _ k => XS.sipush X.here hx rfl (hb hby own_d2_45) k) ?_
        show Wp p e below _ (T.setTop (mkF m 48 #[.val (.int x0)] [(.int (191 : Int32)), (.int x0)]))
        by_cases hc31 : (191 : Int32) < x0
        ·
          have hv31_ := hv30_.trans (if_pos hc31)
          refine Wp.via (fun _ k => XS.icmpYes X.here hx rfl (pc0 := 48) (pc' := 53) rfl (hb hby own_d2_48) rfl (tlt hc31).2.2.1 (by decide) (by decide) k) ?_
          show Wp p e below _ (T.setTop (mkF m 53 #[.val (.int x0)] []))
          exact J53 T _ _ _ X eT NF (by omega) (by omega) x0 hv31_
        ·
          have hv31_ := hv30_.trans (if_neg hc31)
          refine Wp.via (fun _ k => XS.icmpNo X.here hx rfl (hb hby own_d2_48) rfl (flt hc31).2.2.1 k) ?_
          show Wp p e below _ (T.setTop (mkF m 51 #[.val (.int x0)] []))
          refine Wp.via (fun _ k => XS.iconst X.here hx rfl (hb hby own_d2_51) k) ?_
          show Wp p e below _ (T.setTop (mkF m 52 #[.val (.int x0)] [(.int (1 : Int32))]))
          exact Wp.retI X hlk hx hret (by simp) (by first | rfl | decide) (hb hby own_d2_52) ⟨by rw [hv31_], NF, eT⟩ (by omega) (by omega)
  have hv : (f2_0 p0) = (if p0 < (65 : Int32) then (1 : Int32) else (if (983039 : Int32) < p0 then (1 : Int32) else (if p0 < (91 : Int32) then (f2_30 p0) else (if (94 : Int32) < p0 then (f2_30 p0) else (1 : Int32))))) := rfl
  refine Wp.via (fun _ k => XS.iloadN X0.here hx rfl (hb hby own_d2_0) rfl k) ?_
  show Wp p e below _ (T0.setTop (mkF m 1 #[.val (.int p0)] [(.int p0)]))
  refine Wp.via (fun _ k => XS.bipush X0.here hx rfl (hb hby own_d2_1) k) ?_
  show Wp p e below _ (T0.setTop (mkF m 3 #[.val (.int p0)] [(.int (65 : Int32)), (.int p0)]))
  by_cases hc32 : p0 < (65 : Int32)
  ·
    have hv32_ := hv.trans (if_pos hc32)
    refine Wp.via (fun _ k => XS.icmpNo X0.here hx rfl (hb hby own_d2_3) rfl (tlt hc32).2.1 k) ?_
    show Wp p e below _ (T0.setTop (mkF m 6 #[.val (.int p0)] []))
    refine Wp.via (fun _ k => XS.iconst X0.here hx rfl (hb hby own_d2_6) k) ?_
    show Wp p e below _ (T0.setTop (mkF m 7 #[.val (.int p0)] [(.int (1 : Int32))]))
    exact Wp.retI X0 hlk hx hret (by simp) (by first | rfl | decide) (hb hby own_d2_7) ⟨by rw [hv32_], NF0, e0⟩ (by decide) (by decide)
  ·
    have hv32_ := hv.trans (if_neg hc32)
    refine Wp.via (fun _ k => XS.icmpYes X0.here hx rfl (pc0 := 3) (pc' := 8) rfl (hb hby own_d2_3) rfl (flt hc32).2.1 (by decide) (by decide) k) ?_
    show Wp p e below _ (T0.setTop (mkF m 8 #[.val (.int p0)] []))
    refine Wp.via (fun _ k => XS.iloadN X0.here hx rfl (hb hby own_d2_8) rfl k) ?_
    show Wp p e below _ (T0.setTop (mkF m 9 #[.val (.int p0)] [(.int p0)]))
    refine Wp.via (fun _ k => X0.ldcInt hx hown (mvT hZ (hw _ (List.mem_of_getElem? (i := 11) rfl))) (g := (mkF m 9 #[.val (.int p0)] [(.int p0)])) rfl (hb hby own_d2_9) _ k) ?_
    show Wp p e below _ (T0.setTop (mkF m 11 #[.val (.int p0)] [(.int (983039 : Int32)), (.int p0)]))
    by_cases hc33 : (983039 : Int32) < p0
    ·
      have hv33_ := hv32_.trans (if_pos hc33)
      refine Wp.via (fun _ k => XS.icmpNo X0.here hx rfl (hb hby own_d2_11) rfl (tlt hc33).2.2.2 k) ?_
      show Wp p e below _ (T0.setTop (mkF m 14 #[.val (.int p0)] []))
      refine Wp.via (fun _ k => XS.iconst X0.here hx rfl (hb hby own_d2_14) k) ?_
      show Wp p e below _ (T0.setTop (mkF m 15 #[.val (.int p0)] [(.int (1 : Int32))]))
      exact Wp.retI X0 hlk hx hret (by simp) (by first | rfl | decide) (hb hby own_d2_15) ⟨by rw [hv33_], NF0, e0⟩ (by decide) (by decide)
    ·
      have hv33_ := hv32_.trans (if_neg hc33)
      refine Wp.via (fun _ k => XS.icmpYes X0.here hx rfl (pc0 := 11) (pc' := 16) rfl (hb hby own_d2_11) rfl (flt hc33).2.2.2 (by decide) (by decide) k) ?_
      show Wp p e below _ (T0.setTop (mkF m 16 #[.val (.int p0)] []))
      refine Wp.via (fun _ k => XS.iloadN X0.here hx rfl (hb hby own_d2_16) rfl k) ?_
      show Wp p e below _ (T0.setTop (mkF m 17 #[.val (.int p0)] [(.int p0)]))
      refine Wp.via (fun _ k => XS.bipush X0.here hx rfl (hb hby own_d2_17) k) ?_
      show Wp p e below _ (T0.setTop (mkF m 19 #[.val (.int p0)] [(.int (91 : Int32)), (.int p0)]))
      by_cases hc34 : p0 < (91 : Int32)
      ·
        have hv34_ := hv33_.trans (if_pos hc34)
        refine Wp.via (fun _ k => XS.icmpYes X0.here hx rfl (pc0 := 19) (pc' := 30) rfl (hb hby own_d2_19) rfl (tlt hc34).1 (by decide) (by decide) k) ?_
        show Wp p e below _ (T0.setTop (mkF m 30 #[.val (.int p0)] []))
        exact J30 T0 _ _ _ X0 e0 NF0 (by decide) (by decide) p0 hv34_
      ·
        have hv34_ := hv33_.trans (if_neg hc34)
        refine Wp.via (fun _ k => XS.icmpNo X0.here hx rfl (hb hby own_d2_19) rfl (flt hc34).1 k) ?_
        show Wp p e below _ (T0.setTop (mkF m 22 #[.val (.int p0)] []))
        refine Wp.via (fun _ k => XS.iloadN X0.here hx rfl (hb hby own_d2_22) rfl k) ?_
        show Wp p e below _ (T0.setTop (mkF m 23 #[.val (.int p0)] [(.int p0)]))
        refine Wp.via (fun _ k => XS.bipush X0.here hx rfl (hb hby own_d2_23) k) ?_
        show Wp p e below _ (T0.setTop (mkF m 25 #[.val (.int p0)] [(.int (94 : Int32)), (.int p0)]))
        by_cases hc35 : (94 : Int32) < p0
        ·
          have hv35_ := hv34_.trans (if_pos hc35)
          refine Wp.via (fun _ k => XS.icmpYes X0.here hx rfl (pc0 := 25) (pc' := 30) rfl (hb hby own_d2_25) rfl (tlt hc35).2.2.1 (by decide) (by decide) k) ?_
          show Wp p e below _ (T0.setTop (mkF m 30 #[.val (.int p0)] []))
          exact J30 T0 _ _ _ X0 e0 NF0 (by decide) (by decide) p0 hv35_
        ·
          have hv35_ := hv34_.trans (if_neg hc35)
          refine Wp.via (fun _ k => XS.icmpNo X0.here hx rfl (hb hby own_d2_25) rfl (flt hc35).2.2.1 k) ?_
          show Wp p e below _ (T0.setTop (mkF m 28 #[.val (.int p0)] []))
          refine Wp.via (fun _ k => XS.iconst X0.here hx rfl (hb hby own_d2_28) k) ?_
          show Wp p e below _ (T0.setTop (mkF m 29 #[.val (.int p0)] [(.int (1 : Int32))]))
          exact Wp.retI X0 hlk hx hret (by simp) (by first | rfl | decide) (hb hby own_d2_29) ⟨by rw [hv35_], NF0, e0⟩ (by decide) (by decide)
def f0_16 (x0 : Int32) (y0 : Int32) (y1 : Int32) : Int32 := (if y1 = y0 then (1 : Int32) else (0 : Int32))
def f0_0 (p0 : Int32) : Int32 := (if (f2_0 p0) = (0 : Int32) then (f0_16 p0 (1 : Int32) (f1_0 p0)) else (f0_16 p0 (0 : Int32) (f1_0 p0)))
theorem s_f1_179 (x0 : Int32) : ((f1_179 x0).toInt = 1 ∧ ((65536 ≤ x0.toInt ∧ x0.toInt ≤ 983039))) ∨ ((f1_179 x0).toInt = 0 ∧ ¬ ((65536 ≤ x0.toInt ∧ x0.toInt ≤ 983039))) := by
  have l_0 : (0 : Int32).toInt = 0 := by decide
  have l_1 : (1 : Int32).toInt = 1 := by decide
  have l_65536 : (65536 : Int32).toInt = 65536 := by decide
  have l_983039 : (983039 : Int32).toInt = 983039 := by decide
  have rg := rng32 x0
  unfold f1_179
  simp only [Int32.lt_iff_toInt_lt, ← Int32.toInt_inj, l_0, l_1, l_65536, l_983039]
  repeat' split
  all_goals omega
theorem s_f1_167 (x0 : Int32) : ((f1_167 x0).toInt = 1 ∧ ((65008 ≤ x0.toInt ∧ x0.toInt ≤ 65533) ∨ (65536 ≤ x0.toInt ∧ x0.toInt ≤ 983039))) ∨ ((f1_167 x0).toInt = 0 ∧ ¬ ((65008 ≤ x0.toInt ∧ x0.toInt ≤ 65533) ∨ (65536 ≤ x0.toInt ∧ x0.toInt ≤ 983039))) := by
  have k_f1_179 := s_f1_179 x0
  have l_0 : (0 : Int32).toInt = 0 := by decide
  have l_1 : (1 : Int32).toInt = 1 := by decide
  have l_65008 : (65008 : Int32).toInt = 65008 := by decide
  have l_65533 : (65533 : Int32).toInt = 65533 := by decide
  have rg := rng32 x0
  unfold f1_167
  simp only [Int32.lt_iff_toInt_lt, ← Int32.toInt_inj, l_0, l_1, l_65008, l_65533]
  repeat' split
  all_goals omega
theorem s_f1_155 (x0 : Int32) : ((f1_155 x0).toInt = 1 ∧ ((63744 ≤ x0.toInt ∧ x0.toInt ≤ 64975) ∨ (65008 ≤ x0.toInt ∧ x0.toInt ≤ 65533) ∨ (65536 ≤ x0.toInt ∧ x0.toInt ≤ 983039))) ∨ ((f1_155 x0).toInt = 0 ∧ ¬ ((63744 ≤ x0.toInt ∧ x0.toInt ≤ 64975) ∨ (65008 ≤ x0.toInt ∧ x0.toInt ≤ 65533) ∨ (65536 ≤ x0.toInt ∧ x0.toInt ≤ 983039))) := by
  have k_f1_167 := s_f1_167 x0
  have l_0 : (0 : Int32).toInt = 0 := by decide
  have l_1 : (1 : Int32).toInt = 1 := by decide
  have l_63744 : (63744 : Int32).toInt = 63744 := by decide
  have l_64975 : (64975 : Int32).toInt = 64975 := by decide
  have rg := rng32 x0
  unfold f1_155
  simp only [Int32.lt_iff_toInt_lt, ← Int32.toInt_inj, l_0, l_1, l_63744, l_64975]
  repeat' split
  all_goals omega
theorem s_f1_142 (x0 : Int32) : ((f1_142 x0).toInt = 1 ∧ ((12289 ≤ x0.toInt ∧ x0.toInt ≤ 55295) ∨ (63744 ≤ x0.toInt ∧ x0.toInt ≤ 64975) ∨ (65008 ≤ x0.toInt ∧ x0.toInt ≤ 65533) ∨ (65536 ≤ x0.toInt ∧ x0.toInt ≤ 983039))) ∨ ((f1_142 x0).toInt = 0 ∧ ¬ ((12289 ≤ x0.toInt ∧ x0.toInt ≤ 55295) ∨ (63744 ≤ x0.toInt ∧ x0.toInt ≤ 64975) ∨ (65008 ≤ x0.toInt ∧ x0.toInt ≤ 65533) ∨ (65536 ≤ x0.toInt ∧ x0.toInt ≤ 983039))) := by
  have k_f1_155 := s_f1_155 x0
  have l_0 : (0 : Int32).toInt = 0 := by decide
  have l_1 : (1 : Int32).toInt = 1 := by decide
  have l_12289 : (12289 : Int32).toInt = 12289 := by decide
  have l_55295 : (55295 : Int32).toInt = 55295 := by decide
  have rg := rng32 x0
  unfold f1_142
  simp only [Int32.lt_iff_toInt_lt, ← Int32.toInt_inj, l_0, l_1, l_12289, l_55295]
  repeat' split
  all_goals omega
theorem s_f1_128 (x0 : Int32) : ((f1_128 x0).toInt = 1 ∧ ((11264 ≤ x0.toInt ∧ x0.toInt ≤ 12271) ∨ (12289 ≤ x0.toInt ∧ x0.toInt ≤ 55295) ∨ (63744 ≤ x0.toInt ∧ x0.toInt ≤ 64975) ∨ (65008 ≤ x0.toInt ∧ x0.toInt ≤ 65533) ∨ (65536 ≤ x0.toInt ∧ x0.toInt ≤ 983039))) ∨ ((f1_128 x0).toInt = 0 ∧ ¬ ((11264 ≤ x0.toInt ∧ x0.toInt ≤ 12271) ∨ (12289 ≤ x0.toInt ∧ x0.toInt ≤ 55295) ∨ (63744 ≤ x0.toInt ∧ x0.toInt ≤ 64975) ∨ (65008 ≤ x0.toInt ∧ x0.toInt ≤ 65533) ∨ (65536 ≤ x0.toInt ∧ x0.toInt ≤ 983039))) := by
  have k_f1_142 := s_f1_142 x0
  have l_0 : (0 : Int32).toInt = 0 := by decide
  have l_1 : (1 : Int32).toInt = 1 := by decide
  have l_11264 : (11264 : Int32).toInt = 11264 := by decide
  have l_12271 : (12271 : Int32).toInt = 12271 := by decide
  have rg := rng32 x0
  unfold f1_128
  simp only [Int32.lt_iff_toInt_lt, ← Int32.toInt_inj, l_0, l_1, l_11264, l_12271]
  repeat' split
  all_goals omega
theorem s_f1_114 (x0 : Int32) : ((f1_114 x0).toInt = 1 ∧ ((8304 ≤ x0.toInt ∧ x0.toInt ≤ 8591) ∨ (11264 ≤ x0.toInt ∧ x0.toInt ≤ 12271) ∨ (12289 ≤ x0.toInt ∧ x0.toInt ≤ 55295) ∨ (63744 ≤ x0.toInt ∧ x0.toInt ≤ 64975) ∨ (65008 ≤ x0.toInt ∧ x0.toInt ≤ 65533) ∨ (65536 ≤ x0.toInt ∧ x0.toInt ≤ 983039))) ∨ ((f1_114 x0).toInt = 0 ∧ ¬ ((8304 ≤ x0.toInt ∧ x0.toInt ≤ 8591) ∨ (11264 ≤ x0.toInt ∧ x0.toInt ≤ 12271) ∨ (12289 ≤ x0.toInt ∧ x0.toInt ≤ 55295) ∨ (63744 ≤ x0.toInt ∧ x0.toInt ≤ 64975) ∨ (65008 ≤ x0.toInt ∧ x0.toInt ≤ 65533) ∨ (65536 ≤ x0.toInt ∧ x0.toInt ≤ 983039))) := by
  have k_f1_128 := s_f1_128 x0
  have l_0 : (0 : Int32).toInt = 0 := by decide
  have l_1 : (1 : Int32).toInt = 1 := by decide
  have l_8304 : (8304 : Int32).toInt = 8304 := by decide
  have l_8591 : (8591 : Int32).toInt = 8591 := by decide
  have rg := rng32 x0
  unfold f1_114
  simp only [Int32.lt_iff_toInt_lt, ← Int32.toInt_inj, l_0, l_1, l_8304, l_8591]
  repeat' split
  all_goals omega
theorem s_f1_100 (x0 : Int32) : ((f1_100 x0).toInt = 1 ∧ ((8204 ≤ x0.toInt ∧ x0.toInt ≤ 8205) ∨ (8304 ≤ x0.toInt ∧ x0.toInt ≤ 8591) ∨ (11264 ≤ x0.toInt ∧ x0.toInt ≤ 12271) ∨ (12289 ≤ x0.toInt ∧ x0.toInt ≤ 55295) ∨ (63744 ≤ x0.toInt ∧ x0.toInt ≤ 64975) ∨ (65008 ≤ x0.toInt ∧ x0.toInt ≤ 65533) ∨ (65536 ≤ x0.toInt ∧ x0.toInt ≤ 983039))) ∨ ((f1_100 x0).toInt = 0 ∧ ¬ ((8204 ≤ x0.toInt ∧ x0.toInt ≤ 8205) ∨ (8304 ≤ x0.toInt ∧ x0.toInt ≤ 8591) ∨ (11264 ≤ x0.toInt ∧ x0.toInt ≤ 12271) ∨ (12289 ≤ x0.toInt ∧ x0.toInt ≤ 55295) ∨ (63744 ≤ x0.toInt ∧ x0.toInt ≤ 64975) ∨ (65008 ≤ x0.toInt ∧ x0.toInt ≤ 65533) ∨ (65536 ≤ x0.toInt ∧ x0.toInt ≤ 983039))) := by
  have k_f1_114 := s_f1_114 x0
  have l_0 : (0 : Int32).toInt = 0 := by decide
  have l_1 : (1 : Int32).toInt = 1 := by decide
  have l_8204 : (8204 : Int32).toInt = 8204 := by decide
  have l_8205 : (8205 : Int32).toInt = 8205 := by decide
  have rg := rng32 x0
  unfold f1_100
  simp only [Int32.lt_iff_toInt_lt, ← Int32.toInt_inj, l_0, l_1, l_8204, l_8205]
  repeat' split
  all_goals omega
theorem s_f1_86 (x0 : Int32) : ((f1_86 x0).toInt = 1 ∧ ((895 ≤ x0.toInt ∧ x0.toInt ≤ 8191) ∨ (8204 ≤ x0.toInt ∧ x0.toInt ≤ 8205) ∨ (8304 ≤ x0.toInt ∧ x0.toInt ≤ 8591) ∨ (11264 ≤ x0.toInt ∧ x0.toInt ≤ 12271) ∨ (12289 ≤ x0.toInt ∧ x0.toInt ≤ 55295) ∨ (63744 ≤ x0.toInt ∧ x0.toInt ≤ 64975) ∨ (65008 ≤ x0.toInt ∧ x0.toInt ≤ 65533) ∨ (65536 ≤ x0.toInt ∧ x0.toInt ≤ 983039))) ∨ ((f1_86 x0).toInt = 0 ∧ ¬ ((895 ≤ x0.toInt ∧ x0.toInt ≤ 8191) ∨ (8204 ≤ x0.toInt ∧ x0.toInt ≤ 8205) ∨ (8304 ≤ x0.toInt ∧ x0.toInt ≤ 8591) ∨ (11264 ≤ x0.toInt ∧ x0.toInt ≤ 12271) ∨ (12289 ≤ x0.toInt ∧ x0.toInt ≤ 55295) ∨ (63744 ≤ x0.toInt ∧ x0.toInt ≤ 64975) ∨ (65008 ≤ x0.toInt ∧ x0.toInt ≤ 65533) ∨ (65536 ≤ x0.toInt ∧ x0.toInt ≤ 983039))) := by
  have k_f1_100 := s_f1_100 x0
  have l_0 : (0 : Int32).toInt = 0 := by decide
  have l_1 : (1 : Int32).toInt = 1 := by decide
  have l_895 : (895 : Int32).toInt = 895 := by decide
  have l_8191 : (8191 : Int32).toInt = 8191 := by decide
  have rg := rng32 x0
  unfold f1_86
  simp only [Int32.lt_iff_toInt_lt, ← Int32.toInt_inj, l_0, l_1, l_895, l_8191]
  repeat' split
  all_goals omega
theorem s_f1_72 (x0 : Int32) : ((f1_72 x0).toInt = 1 ∧ ((880 ≤ x0.toInt ∧ x0.toInt ≤ 893) ∨ (895 ≤ x0.toInt ∧ x0.toInt ≤ 8191) ∨ (8204 ≤ x0.toInt ∧ x0.toInt ≤ 8205) ∨ (8304 ≤ x0.toInt ∧ x0.toInt ≤ 8591) ∨ (11264 ≤ x0.toInt ∧ x0.toInt ≤ 12271) ∨ (12289 ≤ x0.toInt ∧ x0.toInt ≤ 55295) ∨ (63744 ≤ x0.toInt ∧ x0.toInt ≤ 64975) ∨ (65008 ≤ x0.toInt ∧ x0.toInt ≤ 65533) ∨ (65536 ≤ x0.toInt ∧ x0.toInt ≤ 983039))) ∨ ((f1_72 x0).toInt = 0 ∧ ¬ ((880 ≤ x0.toInt ∧ x0.toInt ≤ 893) ∨ (895 ≤ x0.toInt ∧ x0.toInt ≤ 8191) ∨ (8204 ≤ x0.toInt ∧ x0.toInt ≤ 8205) ∨ (8304 ≤ x0.toInt ∧ x0.toInt ≤ 8591) ∨ (11264 ≤ x0.toInt ∧ x0.toInt ≤ 12271) ∨ (12289 ≤ x0.toInt ∧ x0.toInt ≤ 55295) ∨ (63744 ≤ x0.toInt ∧ x0.toInt ≤ 64975) ∨ (65008 ≤ x0.toInt ∧ x0.toInt ≤ 65533) ∨ (65536 ≤ x0.toInt ∧ x0.toInt ≤ 983039))) := by
  have k_f1_86 := s_f1_86 x0
  have l_0 : (0 : Int32).toInt = 0 := by decide
  have l_1 : (1 : Int32).toInt = 1 := by decide
  have l_880 : (880 : Int32).toInt = 880 := by decide
  have l_893 : (893 : Int32).toInt = 893 := by decide
  have rg := rng32 x0
  unfold f1_72
  simp only [Int32.lt_iff_toInt_lt, ← Int32.toInt_inj, l_0, l_1, l_880, l_893]
  repeat' split
  all_goals omega
theorem s_f1_58 (x0 : Int32) : ((f1_58 x0).toInt = 1 ∧ ((248 ≤ x0.toInt ∧ x0.toInt ≤ 767) ∨ (880 ≤ x0.toInt ∧ x0.toInt ≤ 893) ∨ (895 ≤ x0.toInt ∧ x0.toInt ≤ 8191) ∨ (8204 ≤ x0.toInt ∧ x0.toInt ≤ 8205) ∨ (8304 ≤ x0.toInt ∧ x0.toInt ≤ 8591) ∨ (11264 ≤ x0.toInt ∧ x0.toInt ≤ 12271) ∨ (12289 ≤ x0.toInt ∧ x0.toInt ≤ 55295) ∨ (63744 ≤ x0.toInt ∧ x0.toInt ≤ 64975) ∨ (65008 ≤ x0.toInt ∧ x0.toInt ≤ 65533) ∨ (65536 ≤ x0.toInt ∧ x0.toInt ≤ 983039))) ∨ ((f1_58 x0).toInt = 0 ∧ ¬ ((248 ≤ x0.toInt ∧ x0.toInt ≤ 767) ∨ (880 ≤ x0.toInt ∧ x0.toInt ≤ 893) ∨ (895 ≤ x0.toInt ∧ x0.toInt ≤ 8191) ∨ (8204 ≤ x0.toInt ∧ x0.toInt ≤ 8205) ∨ (8304 ≤ x0.toInt ∧ x0.toInt ≤ 8591) ∨ (11264 ≤ x0.toInt ∧ x0.toInt ≤ 12271) ∨ (12289 ≤ x0.toInt ∧ x0.toInt ≤ 55295) ∨ (63744 ≤ x0.toInt ∧ x0.toInt ≤ 64975) ∨ (65008 ≤ x0.toInt ∧ x0.toInt ≤ 65533) ∨ (65536 ≤ x0.toInt ∧ x0.toInt ≤ 983039))) := by
  have k_f1_72 := s_f1_72 x0
  have l_0 : (0 : Int32).toInt = 0 := by decide
  have l_1 : (1 : Int32).toInt = 1 := by decide
  have l_248 : (248 : Int32).toInt = 248 := by decide
  have l_767 : (767 : Int32).toInt = 767 := by decide
  have rg := rng32 x0
  unfold f1_58
  simp only [Int32.lt_iff_toInt_lt, ← Int32.toInt_inj, l_0, l_1, l_248, l_767]
  repeat' split
  all_goals omega
theorem s_f1_44 (x0 : Int32) : ((f1_44 x0).toInt = 1 ∧ ((216 ≤ x0.toInt ∧ x0.toInt ≤ 246) ∨ (248 ≤ x0.toInt ∧ x0.toInt ≤ 767) ∨ (880 ≤ x0.toInt ∧ x0.toInt ≤ 893) ∨ (895 ≤ x0.toInt ∧ x0.toInt ≤ 8191) ∨ (8204 ≤ x0.toInt ∧ x0.toInt ≤ 8205) ∨ (8304 ≤ x0.toInt ∧ x0.toInt ≤ 8591) ∨ (11264 ≤ x0.toInt ∧ x0.toInt ≤ 12271) ∨ (12289 ≤ x0.toInt ∧ x0.toInt ≤ 55295) ∨ (63744 ≤ x0.toInt ∧ x0.toInt ≤ 64975) ∨ (65008 ≤ x0.toInt ∧ x0.toInt ≤ 65533) ∨ (65536 ≤ x0.toInt ∧ x0.toInt ≤ 983039))) ∨ ((f1_44 x0).toInt = 0 ∧ ¬ ((216 ≤ x0.toInt ∧ x0.toInt ≤ 246) ∨ (248 ≤ x0.toInt ∧ x0.toInt ≤ 767) ∨ (880 ≤ x0.toInt ∧ x0.toInt ≤ 893) ∨ (895 ≤ x0.toInt ∧ x0.toInt ≤ 8191) ∨ (8204 ≤ x0.toInt ∧ x0.toInt ≤ 8205) ∨ (8304 ≤ x0.toInt ∧ x0.toInt ≤ 8591) ∨ (11264 ≤ x0.toInt ∧ x0.toInt ≤ 12271) ∨ (12289 ≤ x0.toInt ∧ x0.toInt ≤ 55295) ∨ (63744 ≤ x0.toInt ∧ x0.toInt ≤ 64975) ∨ (65008 ≤ x0.toInt ∧ x0.toInt ≤ 65533) ∨ (65536 ≤ x0.toInt ∧ x0.toInt ≤ 983039))) := by
  have k_f1_58 := s_f1_58 x0
  have l_0 : (0 : Int32).toInt = 0 := by decide
  have l_1 : (1 : Int32).toInt = 1 := by decide
  have l_216 : (216 : Int32).toInt = 216 := by decide
  have l_246 : (246 : Int32).toInt = 246 := by decide
  have rg := rng32 x0
  unfold f1_44
  simp only [Int32.lt_iff_toInt_lt, ← Int32.toInt_inj, l_0, l_1, l_216, l_246]
  repeat' split
  all_goals omega
theorem s_f1_24 (x0 : Int32) : ((f1_24 x0).toInt = 1 ∧ ((95 ≤ x0.toInt ∧ x0.toInt ≤ 95) ∨ (192 ≤ x0.toInt ∧ x0.toInt ≤ 214) ∨ (216 ≤ x0.toInt ∧ x0.toInt ≤ 246) ∨ (248 ≤ x0.toInt ∧ x0.toInt ≤ 767) ∨ (880 ≤ x0.toInt ∧ x0.toInt ≤ 893) ∨ (895 ≤ x0.toInt ∧ x0.toInt ≤ 8191) ∨ (8204 ≤ x0.toInt ∧ x0.toInt ≤ 8205) ∨ (8304 ≤ x0.toInt ∧ x0.toInt ≤ 8591) ∨ (11264 ≤ x0.toInt ∧ x0.toInt ≤ 12271) ∨ (12289 ≤ x0.toInt ∧ x0.toInt ≤ 55295) ∨ (63744 ≤ x0.toInt ∧ x0.toInt ≤ 64975) ∨ (65008 ≤ x0.toInt ∧ x0.toInt ≤ 65533) ∨ (65536 ≤ x0.toInt ∧ x0.toInt ≤ 983039))) ∨ ((f1_24 x0).toInt = 0 ∧ ¬ ((95 ≤ x0.toInt ∧ x0.toInt ≤ 95) ∨ (192 ≤ x0.toInt ∧ x0.toInt ≤ 214) ∨ (216 ≤ x0.toInt ∧ x0.toInt ≤ 246) ∨ (248 ≤ x0.toInt ∧ x0.toInt ≤ 767) ∨ (880 ≤ x0.toInt ∧ x0.toInt ≤ 893) ∨ (895 ≤ x0.toInt ∧ x0.toInt ≤ 8191) ∨ (8204 ≤ x0.toInt ∧ x0.toInt ≤ 8205) ∨ (8304 ≤ x0.toInt ∧ x0.toInt ≤ 8591) ∨ (11264 ≤ x0.toInt ∧ x0.toInt ≤ 12271) ∨ (12289 ≤ x0.toInt ∧ x0.toInt ≤ 55295) ∨ (63744 ≤ x0.toInt ∧ x0.toInt ≤ 64975) ∨ (65008 ≤ x0.toInt ∧ x0.toInt ≤ 65533) ∨ (65536 ≤ x0.toInt ∧ x0.toInt ≤ 983039))) := by
  have k_f1_44 := s_f1_44 x0
  have l_0 : (0 : Int32).toInt = 0 := by decide
  have l_1 : (1 : Int32).toInt = 1 := by decide
  have l_95 : (95 : Int32).toInt = 95 := by decide
  have l_192 : (192 : Int32).toInt = 192 := by decide
  have l_214 : (214 : Int32).toInt = 214 := by decide
  have rg := rng32 x0
  unfold f1_24
  simp only [Int32.lt_iff_toInt_lt, ← Int32.toInt_inj, l_0, l_1, l_95, l_192, l_214]
  repeat' split
  all_goals omega
theorem s_f1_12 (x0 : Int32) : ((f1_12 x0).toInt = 1 ∧ ((65 ≤ x0.toInt ∧ x0.toInt ≤ 90) ∨ (95 ≤ x0.toInt ∧ x0.toInt ≤ 95) ∨ (192 ≤ x0.toInt ∧ x0.toInt ≤ 214) ∨ (216 ≤ x0.toInt ∧ x0.toInt ≤ 246) ∨ (248 ≤ x0.toInt ∧ x0.toInt ≤ 767) ∨ (880 ≤ x0.toInt ∧ x0.toInt ≤ 893) ∨ (895 ≤ x0.toInt ∧ x0.toInt ≤ 8191) ∨ (8204 ≤ x0.toInt ∧ x0.toInt ≤ 8205) ∨ (8304 ≤ x0.toInt ∧ x0.toInt ≤ 8591) ∨ (11264 ≤ x0.toInt ∧ x0.toInt ≤ 12271) ∨ (12289 ≤ x0.toInt ∧ x0.toInt ≤ 55295) ∨ (63744 ≤ x0.toInt ∧ x0.toInt ≤ 64975) ∨ (65008 ≤ x0.toInt ∧ x0.toInt ≤ 65533) ∨ (65536 ≤ x0.toInt ∧ x0.toInt ≤ 983039))) ∨ ((f1_12 x0).toInt = 0 ∧ ¬ ((65 ≤ x0.toInt ∧ x0.toInt ≤ 90) ∨ (95 ≤ x0.toInt ∧ x0.toInt ≤ 95) ∨ (192 ≤ x0.toInt ∧ x0.toInt ≤ 214) ∨ (216 ≤ x0.toInt ∧ x0.toInt ≤ 246) ∨ (248 ≤ x0.toInt ∧ x0.toInt ≤ 767) ∨ (880 ≤ x0.toInt ∧ x0.toInt ≤ 893) ∨ (895 ≤ x0.toInt ∧ x0.toInt ≤ 8191) ∨ (8204 ≤ x0.toInt ∧ x0.toInt ≤ 8205) ∨ (8304 ≤ x0.toInt ∧ x0.toInt ≤ 8591) ∨ (11264 ≤ x0.toInt ∧ x0.toInt ≤ 12271) ∨ (12289 ≤ x0.toInt ∧ x0.toInt ≤ 55295) ∨ (63744 ≤ x0.toInt ∧ x0.toInt ≤ 64975) ∨ (65008 ≤ x0.toInt ∧ x0.toInt ≤ 65533) ∨ (65536 ≤ x0.toInt ∧ x0.toInt ≤ 983039))) := by
  have k_f1_24 := s_f1_24 x0
  have l_0 : (0 : Int32).toInt = 0 := by decide
  have l_1 : (1 : Int32).toInt = 1 := by decide
  have l_65 : (65 : Int32).toInt = 65 := by decide
  have l_90 : (90 : Int32).toInt = 90 := by decide
  have rg := rng32 x0
  unfold f1_12
  simp only [Int32.lt_iff_toInt_lt, ← Int32.toInt_inj, l_0, l_1, l_65, l_90]
  repeat' split
  all_goals omega
theorem s_f1_0 (p0 : Int32) : ((f1_0 p0).toInt = 1 ∧ ((65 ≤ p0.toInt ∧ p0.toInt ≤ 90) ∨ (95 ≤ p0.toInt ∧ p0.toInt ≤ 95) ∨ (97 ≤ p0.toInt ∧ p0.toInt ≤ 122) ∨ (192 ≤ p0.toInt ∧ p0.toInt ≤ 214) ∨ (216 ≤ p0.toInt ∧ p0.toInt ≤ 246) ∨ (248 ≤ p0.toInt ∧ p0.toInt ≤ 767) ∨ (880 ≤ p0.toInt ∧ p0.toInt ≤ 893) ∨ (895 ≤ p0.toInt ∧ p0.toInt ≤ 8191) ∨ (8204 ≤ p0.toInt ∧ p0.toInt ≤ 8205) ∨ (8304 ≤ p0.toInt ∧ p0.toInt ≤ 8591) ∨ (11264 ≤ p0.toInt ∧ p0.toInt ≤ 12271) ∨ (12289 ≤ p0.toInt ∧ p0.toInt ≤ 55295) ∨ (63744 ≤ p0.toInt ∧ p0.toInt ≤ 64975) ∨ (65008 ≤ p0.toInt ∧ p0.toInt ≤ 65533) ∨ (65536 ≤ p0.toInt ∧ p0.toInt ≤ 983039))) ∨ ((f1_0 p0).toInt = 0 ∧ ¬ ((65 ≤ p0.toInt ∧ p0.toInt ≤ 90) ∨ (95 ≤ p0.toInt ∧ p0.toInt ≤ 95) ∨ (97 ≤ p0.toInt ∧ p0.toInt ≤ 122) ∨ (192 ≤ p0.toInt ∧ p0.toInt ≤ 214) ∨ (216 ≤ p0.toInt ∧ p0.toInt ≤ 246) ∨ (248 ≤ p0.toInt ∧ p0.toInt ≤ 767) ∨ (880 ≤ p0.toInt ∧ p0.toInt ≤ 893) ∨ (895 ≤ p0.toInt ∧ p0.toInt ≤ 8191) ∨ (8204 ≤ p0.toInt ∧ p0.toInt ≤ 8205) ∨ (8304 ≤ p0.toInt ∧ p0.toInt ≤ 8591) ∨ (11264 ≤ p0.toInt ∧ p0.toInt ≤ 12271) ∨ (12289 ≤ p0.toInt ∧ p0.toInt ≤ 55295) ∨ (63744 ≤ p0.toInt ∧ p0.toInt ≤ 64975) ∨ (65008 ≤ p0.toInt ∧ p0.toInt ≤ 65533) ∨ (65536 ≤ p0.toInt ∧ p0.toInt ≤ 983039))) := by
  have k_f1_12 := s_f1_12 p0
  have l_0 : (0 : Int32).toInt = 0 := by decide
  have l_1 : (1 : Int32).toInt = 1 := by decide
  have l_97 : (97 : Int32).toInt = 97 := by decide
  have l_122 : (122 : Int32).toInt = 122 := by decide
  have rg := rng32 p0
  unfold f1_0
  simp only [Int32.lt_iff_toInt_lt, ← Int32.toInt_inj, l_0, l_1, l_97, l_122]
  repeat' split
  all_goals omega
theorem s_f2_186 (x0 : Int32) : ((f2_186 x0).toInt = 1 ∧ ((65534 ≤ x0.toInt ∧ x0.toInt ≤ 65535))) ∨ ((f2_186 x0).toInt = 0 ∧ ¬ ((65534 ≤ x0.toInt ∧ x0.toInt ≤ 65535))) := by
  have l_0 : (0 : Int32).toInt = 0 := by decide
  have l_1 : (1 : Int32).toInt = 1 := by decide
  have l_65534 : (65534 : Int32).toInt = 65534 := by decide
  have l_65535 : (65535 : Int32).toInt = 65535 := by decide
  have rg := rng32 x0
  unfold f2_186
  simp only [Int32.lt_iff_toInt_lt, ← Int32.toInt_inj, l_0, l_1, l_65534, l_65535]
  repeat' split
  all_goals omega
theorem s_f2_172 (x0 : Int32) : ((f2_172 x0).toInt = 1 ∧ ((64976 ≤ x0.toInt ∧ x0.toInt ≤ 65007) ∨ (65534 ≤ x0.toInt ∧ x0.toInt ≤ 65535))) ∨ ((f2_172 x0).toInt = 0 ∧ ¬ ((64976 ≤ x0.toInt ∧ x0.toInt ≤ 65007) ∨ (65534 ≤ x0.toInt ∧ x0.toInt ≤ 65535))) := by
  have k_f2_186 := s_f2_186 x0
  have l_0 : (0 : Int32).toInt = 0 := by decide
  have l_1 : (1 : Int32).toInt = 1 := by decide
  have l_64976 : (64976 : Int32).toInt = 64976 := by decide
  have l_65007 : (65007 : Int32).toInt = 65007 := by decide
  have rg := rng32 x0
  unfold f2_172
  simp only [Int32.lt_iff_toInt_lt, ← Int32.toInt_inj, l_0, l_1, l_64976, l_65007]
  repeat' split
  all_goals omega
theorem s_f2_158 (x0 : Int32) : ((f2_158 x0).toInt = 1 ∧ ((55296 ≤ x0.toInt ∧ x0.toInt ≤ 63743) ∨ (64976 ≤ x0.toInt ∧ x0.toInt ≤ 65007) ∨ (65534 ≤ x0.toInt ∧ x0.toInt ≤ 65535))) ∨ ((f2_158 x0).toInt = 0 ∧ ¬ ((55296 ≤ x0.toInt ∧ x0.toInt ≤ 63743) ∨ (64976 ≤ x0.toInt ∧ x0.toInt ≤ 65007) ∨ (65534 ≤ x0.toInt ∧ x0.toInt ≤ 65535))) := by
  have k_f2_172 := s_f2_172 x0
  have l_0 : (0 : Int32).toInt = 0 := by decide
  have l_1 : (1 : Int32).toInt = 1 := by decide
  have l_55296 : (55296 : Int32).toInt = 55296 := by decide
  have l_63743 : (63743 : Int32).toInt = 63743 := by decide
  have rg := rng32 x0
  unfold f2_158
  simp only [Int32.lt_iff_toInt_lt, ← Int32.toInt_inj, l_0, l_1, l_55296, l_63743]
  repeat' split
  all_goals omega
theorem s_f2_142 (x0 : Int32) : ((f2_142 x0).toInt = 1 ∧ ((12272 ≤ x0.toInt ∧ x0.toInt ≤ 12288) ∨ (55296 ≤ x0.toInt ∧ x0.toInt ≤ 63743) ∨ (64976 ≤ x0.toInt ∧ x0.toInt ≤ 65007) ∨ (65534 ≤ x0.toInt ∧ x0.toInt ≤ 65535))) ∨ ((f2_142 x0).toInt = 0 ∧ ¬ ((12272 ≤ x0.toInt ∧ x0.toInt ≤ 12288) ∨ (55296 ≤ x0.toInt ∧ x0.toInt ≤ 63743) ∨ (64976 ≤ x0.toInt ∧ x0.toInt ≤ 65007) ∨ (65534 ≤ x0.toInt ∧ x0.toInt ≤ 65535))) := by
  have k_f2_158 := s_f2_158 x0
  have l_0 : (0 : Int32).toInt = 0 := by decide
  have l_1 : (1 : Int32).toInt = 1 := by decide
  have l_12272 : (12272 : Int32).toInt = 12272 := by decide
  have l_12288 : (12288 : Int32).toInt = 12288 := by decide
  have rg := rng32 x0
  unfold f2_142
  simp only [Int32.lt_iff_toInt_lt, ← Int32.toInt_inj, l_0, l_1, l_12272, l_12288]
  repeat' split
  all_goals omega
theorem s_f2_126 (x0 : Int32) : ((f2_126 x0).toInt = 1 ∧ ((8592 ≤ x0.toInt ∧ x0.toInt ≤ 11263) ∨ (12272 ≤ x0.toInt ∧ x0.toInt ≤ 12288) ∨ (55296 ≤ x0.toInt ∧ x0.toInt ≤ 63743) ∨ (64976 ≤ x0.toInt ∧ x0.toInt ≤ 65007) ∨ (65534 ≤ x0.toInt ∧ x0.toInt ≤ 65535))) ∨ ((f2_126 x0).toInt = 0 ∧ ¬ ((8592 ≤ x0.toInt ∧ x0.toInt ≤ 11263) ∨ (12272 ≤ x0.toInt ∧ x0.toInt ≤ 12288) ∨ (55296 ≤ x0.toInt ∧ x0.toInt ≤ 63743) ∨ (64976 ≤ x0.toInt ∧ x0.toInt ≤ 65007) ∨ (65534 ≤ x0.toInt ∧ x0.toInt ≤ 65535))) := by
  have k_f2_142 := s_f2_142 x0
  have l_0 : (0 : Int32).toInt = 0 := by decide
  have l_1 : (1 : Int32).toInt = 1 := by decide
  have l_8592 : (8592 : Int32).toInt = 8592 := by decide
  have l_11263 : (11263 : Int32).toInt = 11263 := by decide
  have rg := rng32 x0
  unfold f2_126
  simp only [Int32.lt_iff_toInt_lt, ← Int32.toInt_inj, l_0, l_1, l_8592, l_11263]
  repeat' split
  all_goals omega
theorem s_f2_110 (x0 : Int32) : ((f2_110 x0).toInt = 1 ∧ ((8206 ≤ x0.toInt ∧ x0.toInt ≤ 8303) ∨ (8592 ≤ x0.toInt ∧ x0.toInt ≤ 11263) ∨ (12272 ≤ x0.toInt ∧ x0.toInt ≤ 12288) ∨ (55296 ≤ x0.toInt ∧ x0.toInt ≤ 63743) ∨ (64976 ≤ x0.toInt ∧ x0.toInt ≤ 65007) ∨ (65534 ≤ x0.toInt ∧ x0.toInt ≤ 65535))) ∨ ((f2_110 x0).toInt = 0 ∧ ¬ ((8206 ≤ x0.toInt ∧ x0.toInt ≤ 8303) ∨ (8592 ≤ x0.toInt ∧ x0.toInt ≤ 11263) ∨ (12272 ≤ x0.toInt ∧ x0.toInt ≤ 12288) ∨ (55296 ≤ x0.toInt ∧ x0.toInt ≤ 63743) ∨ (64976 ≤ x0.toInt ∧ x0.toInt ≤ 65007) ∨ (65534 ≤ x0.toInt ∧ x0.toInt ≤ 65535))) := by
  have k_f2_126 := s_f2_126 x0
  have l_0 : (0 : Int32).toInt = 0 := by decide
  have l_1 : (1 : Int32).toInt = 1 := by decide
  have l_8206 : (8206 : Int32).toInt = 8206 := by decide
  have l_8303 : (8303 : Int32).toInt = 8303 := by decide
  have rg := rng32 x0
  unfold f2_110
  simp only [Int32.lt_iff_toInt_lt, ← Int32.toInt_inj, l_0, l_1, l_8206, l_8303]
  repeat' split
  all_goals omega
theorem s_f2_85 (x0 : Int32) : ((f2_85 x0).toInt = 1 ∧ ((894 ≤ x0.toInt ∧ x0.toInt ≤ 894) ∨ (8192 ≤ x0.toInt ∧ x0.toInt ≤ 8203) ∨ (8206 ≤ x0.toInt ∧ x0.toInt ≤ 8303) ∨ (8592 ≤ x0.toInt ∧ x0.toInt ≤ 11263) ∨ (12272 ≤ x0.toInt ∧ x0.toInt ≤ 12288) ∨ (55296 ≤ x0.toInt ∧ x0.toInt ≤ 63743) ∨ (64976 ≤ x0.toInt ∧ x0.toInt ≤ 65007) ∨ (65534 ≤ x0.toInt ∧ x0.toInt ≤ 65535))) ∨ ((f2_85 x0).toInt = 0 ∧ ¬ ((894 ≤ x0.toInt ∧ x0.toInt ≤ 894) ∨ (8192 ≤ x0.toInt ∧ x0.toInt ≤ 8203) ∨ (8206 ≤ x0.toInt ∧ x0.toInt ≤ 8303) ∨ (8592 ≤ x0.toInt ∧ x0.toInt ≤ 11263) ∨ (12272 ≤ x0.toInt ∧ x0.toInt ≤ 12288) ∨ (55296 ≤ x0.toInt ∧ x0.toInt ≤ 63743) ∨ (64976 ≤ x0.toInt ∧ x0.toInt ≤ 65007) ∨ (65534 ≤ x0.toInt ∧ x0.toInt ≤ 65535))) := by
  have k_f2_110 := s_f2_110 x0
  have l_0 : (0 : Int32).toInt = 0 := by decide
  have l_1 : (1 : Int32).toInt = 1 := by decide
  have l_894 : (894 : Int32).toInt = 894 := by decide
  have l_8192 : (8192 : Int32).toInt = 8192 := by decide
  have l_8203 : (8203 : Int32).toInt = 8203 := by decide
  have rg := rng32 x0
  unfold f2_85
  simp only [Int32.lt_iff_toInt_lt, ← Int32.toInt_inj, l_0, l_1, l_894, l_8192, l_8203]
  repeat' split
  all_goals omega
theorem s_f2_53 (x0 : Int32) : ((f2_53 x0).toInt = 1 ∧ ((215 ≤ x0.toInt ∧ x0.toInt ≤ 215) ∨ (247 ≤ x0.toInt ∧ x0.toInt ≤ 247) ∨ (768 ≤ x0.toInt ∧ x0.toInt ≤ 879) ∨ (894 ≤ x0.toInt ∧ x0.toInt ≤ 894) ∨ (8192 ≤ x0.toInt ∧ x0.toInt ≤ 8203) ∨ (8206 ≤ x0.toInt ∧ x0.toInt ≤ 8303) ∨ (8592 ≤ x0.toInt ∧ x0.toInt ≤ 11263) ∨ (12272 ≤ x0.toInt ∧ x0.toInt ≤ 12288) ∨ (55296 ≤ x0.toInt ∧ x0.toInt ≤ 63743) ∨ (64976 ≤ x0.toInt ∧ x0.toInt ≤ 65007) ∨ (65534 ≤ x0.toInt ∧ x0.toInt ≤ 65535))) ∨ ((f2_53 x0).toInt = 0 ∧ ¬ ((215 ≤ x0.toInt ∧ x0.toInt ≤ 215) ∨ (247 ≤ x0.toInt ∧ x0.toInt ≤ 247) ∨ (768 ≤ x0.toInt ∧ x0.toInt ≤ 879) ∨ (894 ≤ x0.toInt ∧ x0.toInt ≤ 894) ∨ (8192 ≤ x0.toInt ∧ x0.toInt ≤ 8203) ∨ (8206 ≤ x0.toInt ∧ x0.toInt ≤ 8303) ∨ (8592 ≤ x0.toInt ∧ x0.toInt ≤ 11263) ∨ (12272 ≤ x0.toInt ∧ x0.toInt ≤ 12288) ∨ (55296 ≤ x0.toInt ∧ x0.toInt ≤ 63743) ∨ (64976 ≤ x0.toInt ∧ x0.toInt ≤ 65007) ∨ (65534 ≤ x0.toInt ∧ x0.toInt ≤ 65535))) := by
  have k_f2_85 := s_f2_85 x0
  have l_0 : (0 : Int32).toInt = 0 := by decide
  have l_1 : (1 : Int32).toInt = 1 := by decide
  have l_215 : (215 : Int32).toInt = 215 := by decide
  have l_247 : (247 : Int32).toInt = 247 := by decide
  have l_768 : (768 : Int32).toInt = 768 := by decide
  have l_879 : (879 : Int32).toInt = 879 := by decide
  have rg := rng32 x0
  unfold f2_53
  simp only [Int32.lt_iff_toInt_lt, ← Int32.toInt_inj, l_0, l_1, l_215, l_247, l_768, l_879]
  repeat' split
  all_goals omega
theorem s_f2_30 (x0 : Int32) : ((f2_30 x0).toInt = 1 ∧ ((96 ≤ x0.toInt ∧ x0.toInt ≤ 96) ∨ (123 ≤ x0.toInt ∧ x0.toInt ≤ 191) ∨ (215 ≤ x0.toInt ∧ x0.toInt ≤ 215) ∨ (247 ≤ x0.toInt ∧ x0.toInt ≤ 247) ∨ (768 ≤ x0.toInt ∧ x0.toInt ≤ 879) ∨ (894 ≤ x0.toInt ∧ x0.toInt ≤ 894) ∨ (8192 ≤ x0.toInt ∧ x0.toInt ≤ 8203) ∨ (8206 ≤ x0.toInt ∧ x0.toInt ≤ 8303) ∨ (8592 ≤ x0.toInt ∧ x0.toInt ≤ 11263) ∨ (12272 ≤ x0.toInt ∧ x0.toInt ≤ 12288) ∨ (55296 ≤ x0.toInt ∧ x0.toInt ≤ 63743) ∨ (64976 ≤ x0.toInt ∧ x0.toInt ≤ 65007) ∨ (65534 ≤ x0.toInt ∧ x0.toInt ≤ 65535))) ∨ ((f2_30 x0).toInt = 0 ∧ ¬ ((96 ≤ x0.toInt ∧ x0.toInt ≤ 96) ∨ (123 ≤ x0.toInt ∧ x0.toInt ≤ 191) ∨ (215 ≤ x0.toInt ∧ x0.toInt ≤ 215) ∨ (247 ≤ x0.toInt ∧ x0.toInt ≤ 247) ∨ (768 ≤ x0.toInt ∧ x0.toInt ≤ 879) ∨ (894 ≤ x0.toInt ∧ x0.toInt ≤ 894) ∨ (8192 ≤ x0.toInt ∧ x0.toInt ≤ 8203) ∨ (8206 ≤ x0.toInt ∧ x0.toInt ≤ 8303) ∨ (8592 ≤ x0.toInt ∧ x0.toInt ≤ 11263) ∨ (12272 ≤ x0.toInt ∧ x0.toInt ≤ 12288) ∨ (55296 ≤ x0.toInt ∧ x0.toInt ≤ 63743) ∨ (64976 ≤ x0.toInt ∧ x0.toInt ≤ 65007) ∨ (65534 ≤ x0.toInt ∧ x0.toInt ≤ 65535))) := by
  have k_f2_53 := s_f2_53 x0
  have l_0 : (0 : Int32).toInt = 0 := by decide
  have l_1 : (1 : Int32).toInt = 1 := by decide
  have l_96 : (96 : Int32).toInt = 96 := by decide
  have l_123 : (123 : Int32).toInt = 123 := by decide
  have l_191 : (191 : Int32).toInt = 191 := by decide
  have rg := rng32 x0
  unfold f2_30
  simp only [Int32.lt_iff_toInt_lt, ← Int32.toInt_inj, l_0, l_1, l_96, l_123, l_191]
  repeat' split
  all_goals omega
theorem s_f2_0 (p0 : Int32) : ((f2_0 p0).toInt = 1 ∧ (p0.toInt ≤ 64 ∨ (91 ≤ p0.toInt ∧ p0.toInt ≤ 94) ∨ (96 ≤ p0.toInt ∧ p0.toInt ≤ 96) ∨ (123 ≤ p0.toInt ∧ p0.toInt ≤ 191) ∨ (215 ≤ p0.toInt ∧ p0.toInt ≤ 215) ∨ (247 ≤ p0.toInt ∧ p0.toInt ≤ 247) ∨ (768 ≤ p0.toInt ∧ p0.toInt ≤ 879) ∨ (894 ≤ p0.toInt ∧ p0.toInt ≤ 894) ∨ (8192 ≤ p0.toInt ∧ p0.toInt ≤ 8203) ∨ (8206 ≤ p0.toInt ∧ p0.toInt ≤ 8303) ∨ (8592 ≤ p0.toInt ∧ p0.toInt ≤ 11263) ∨ (12272 ≤ p0.toInt ∧ p0.toInt ≤ 12288) ∨ (55296 ≤ p0.toInt ∧ p0.toInt ≤ 63743) ∨ (64976 ≤ p0.toInt ∧ p0.toInt ≤ 65007) ∨ (65534 ≤ p0.toInt ∧ p0.toInt ≤ 65535) ∨ 983040 ≤ p0.toInt)) ∨ ((f2_0 p0).toInt = 0 ∧ ¬ (p0.toInt ≤ 64 ∨ (91 ≤ p0.toInt ∧ p0.toInt ≤ 94) ∨ (96 ≤ p0.toInt ∧ p0.toInt ≤ 96) ∨ (123 ≤ p0.toInt ∧ p0.toInt ≤ 191) ∨ (215 ≤ p0.toInt ∧ p0.toInt ≤ 215) ∨ (247 ≤ p0.toInt ∧ p0.toInt ≤ 247) ∨ (768 ≤ p0.toInt ∧ p0.toInt ≤ 879) ∨ (894 ≤ p0.toInt ∧ p0.toInt ≤ 894) ∨ (8192 ≤ p0.toInt ∧ p0.toInt ≤ 8203) ∨ (8206 ≤ p0.toInt ∧ p0.toInt ≤ 8303) ∨ (8592 ≤ p0.toInt ∧ p0.toInt ≤ 11263) ∨ (12272 ≤ p0.toInt ∧ p0.toInt ≤ 12288) ∨ (55296 ≤ p0.toInt ∧ p0.toInt ≤ 63743) ∨ (64976 ≤ p0.toInt ∧ p0.toInt ≤ 65007) ∨ (65534 ≤ p0.toInt ∧ p0.toInt ≤ 65535) ∨ 983040 ≤ p0.toInt)) := by
  have k_f2_30 := s_f2_30 p0
  have l_0 : (0 : Int32).toInt = 0 := by decide
  have l_1 : (1 : Int32).toInt = 1 := by decide
  have l_65 : (65 : Int32).toInt = 65 := by decide
  have l_91 : (91 : Int32).toInt = 91 := by decide
  have l_94 : (94 : Int32).toInt = 94 := by decide
  have l_983039 : (983039 : Int32).toInt = 983039 := by decide
  have rg := rng32 p0
  unfold f2_0
  simp only [Int32.lt_iff_toInt_lt, ← Int32.toInt_inj, l_0, l_1, l_65, l_91, l_94, l_983039]
  repeat' split
  all_goals omega
theorem own_law (p0 : Int32) : f0_0 p0 = 1 := by
  have k1 := s_f1_0 p0
  have k2 := s_f2_0 p0
  have l0 : (0 : Int32).toInt = 0 := by decide
  have l1 : (1 : Int32).toInt = 1 := by decide
  have rg := rng32 p0
  unfold f0_0 f0_16
  simp only [← Int32.toInt_inj, l0, l1]
  rcases k1 with ⟨e1, d1⟩ | ⟨e1, d1⟩ <;> rcases k2 with ⟨e2, d2⟩ | ⟨e2, d2⟩ <;> simp only [e1, e2]
  all_goals first | (exfalso; omega) | decide
theorem own_pd0 : parseMethodDescriptor "(I)Z" = some ⟨[.int], some .boolean⟩ := by decide +kernel
theorem own_pl0 : plainFor (⟨"com/example/antipolis/antipolis/value/XmlCharsIsNameStartPinLaw", "law", "(I)Z"⟩ : MethodName) = true := plainFor_of_name (by first | (simp [plainName, overriddenIn]; done) | decide +kernel)
theorem own_ef0 (m : MethodId) (p0 : Int32) : entryFrame m #[(.int p0)] maxLocals = mkF m 0 #[.val (.int p0)] [] := by first | (simp [entryFrame, mkF, argsToLocals, Value.category, maxLocals]; done) | rfl
def Qo0 (Z : State) (p0 : Int32)  (h0 : Heap) (n0 : Nat) (v : Option Value) (h : Heap) (L : List Loc) : Prop := v = some (.int 1) ∧ Fr n0 L
set_option maxRecDepth 65536 in
set_option maxHeartbeats 40000000 in
theorem rm0 (l : Launch) (Z : State) (aw : Array Value) (hw : ∀ d ∈ tables_1, d.before aw Z = true) (ws : List Jvm.Cond) (p0 : Int32)  (h0 : Heap) (n0 : Nat) (Z0 : n0 ≤ h0.size)  :
    MetFree l x (head1 (Jvm.Cond.code x code maxLocals ret :: ws) room_1) (fun a U => a = #[(.int p0)] ∧ Z.Warmed39 U.vm ∧ U.heap = h0) (fun _ _ _ _ _ => True) (fun _ U o U' => ∃ v L, o = .returned v ∧ (Qo0 Z p0 h0 n0) v U'.heap L ∧ FrameEnd U o U' L 0 0) := by
  refine ofWp (Q := Qo0 Z p0 h0 n0) own_pl0 (fun m => own_ef0 m p0) ?_
  intro p e s m below meth c T0 hx hby hml hown hnm hlk hret hZ X0 e0
  change s.vm.findClass "com/example/antipolis/antipolis/value/XmlCharsIsNameStartPinLaw" = some m.cls at hown
  have NF0 := Fr.nil n0
  have J16 : ∀ (T : State) (locs : List Loc) (cells slots : Nat) (X : Stand p l e room_1 s m #[(.int p0)] below meth c T locs cells slots) (eT : T.heap = h0) (NF : Fr n0 locs) (hC : cells ≤ 0) (hS : slots ≤ 0) (x0 : Int32) (y0 : Int32) (y1 : Int32) , (f0_0 p0) = (f0_16 x0 y0 y1) → Wp p e below (Gd s (Qo0 Z p0 h0 n0) 0 0) (T.setTop (mkF m 16 #[.val (.int x0)] [(.int y0), (.int y1)])) := by
    intro T locs cells slots X eT NF hC hS x0 y0 y1 hv
    have hv1 : (f0_0 p0) = (if y1 = y0 then (1 : Int32) else (0 : Int32)) := hv
    by_cases hc2 : y1 = y0
    ·
      have hv2_ := hv1.trans (if_pos hc2)
      refine Wp.via (fun _ k => XS.icmpNo X.here hx rfl (hb hby at_16) rfl (teq hc2).2 k) ?_
      show Wp p e below _ (T.setTop (mkF m 19 #[.val (.int x0)] []))
      refine Wp.via (fun _ k => XS.iconst X.here hx rfl (hb hby at_19) k) ?_
      show Wp p e below _ (T.setTop (mkF m 20 #[.val (.int x0)] [(.int (1 : Int32))]))
      refine Wp.via (fun _ k => XS.goto X.here hx rfl (pc0 := 20) (pc' := 24) rfl (hb hby at_20) (by decide) (by decide) k) ?_
      show Wp p e below _ (T.setTop (mkF m 24 #[.val (.int x0)] [(.int (1 : Int32))]))
      exact Wp.retI X hlk hx hret (by simp) (by first | rfl | decide) (hb hby at_24) ⟨by rw [← hv2_, own_law], NF⟩ (by omega) (by omega)
    ·
      have hv2_ := hv1.trans (if_neg hc2)
      refine Wp.via (fun _ k => XS.icmpYes X.here hx rfl (pc0 := 16) (pc' := 23) rfl (hb hby at_16) rfl (feq hc2).2 (by decide) (by decide) k) ?_
      show Wp p e below _ (T.setTop (mkF m 23 #[.val (.int x0)] []))
      refine Wp.via (fun _ k => XS.iconst X.here hx rfl (hb hby at_23) k) ?_
      show Wp p e below _ (T.setTop (mkF m 24 #[.val (.int x0)] [(.int (0 : Int32))]))
      exact Wp.retI X hlk hx hret (by simp) (by first | rfl | decide) (hb hby at_24) ⟨by rw [← hv2_, own_law], NF⟩ (by omega) (by omega)
  have hv : (f0_0 p0) = (if (f2_0 p0) = (0 : Int32) then (f0_16 p0 (1 : Int32) (f1_0 p0)) else (f0_16 p0 (0 : Int32) (f1_0 p0))) := rfl
  refine Wp.via (fun _ k => XS.iloadN X0.here hx rfl (hb hby at_0) rfl k) ?_
  show Wp p e below _ (T0.setTop (mkF m 1 #[.val (.int p0)] [(.int p0)]))
  obtain ⟨_, _, ⟨T3, L3, k3, n3⟩, -, X3, ⟨Lc3, hQ3, l3, y3, z3⟩, st3⟩ := Jvm.LawKit.callS X0 hx (y := (⟨"com/example/antipolis/antipolis/value/XmlChars", "isNameStart", "(I)Z"⟩ : MethodName)) hown (mvT hZ (hw _ (List.mem_of_getElem? (i := 0) rfl))) (mvT hZ (hw _ (List.mem_of_getElem? (i := 1) rfl))) (mvT hZ (hw _ (List.mem_of_getElem? (i := 2) rfl))) (mvT hZ (hw _ (List.mem_of_getElem? (i := 3) rfl))) (by decide) (backOf (W := 0) (rm1 l Z aw hw [] p0  h0 n0 Z0 ) hZ (hw _ (List.mem_of_getElem? (i := 3) rfl)) (hw _ (List.mem_of_getElem? (i := 2) rfl)) (by decide) (by decide)) (g := (mkF m 1 #[.val (.int p0)] [(.int p0)])) rfl (by rw [hml]; rfl) (argsL := [(.int p0)]) (rest := []) (lenOf own_pd0 rfl) rfl (by show 2 * 0 + _ ≤ _; exact Nat.le_of_eq rfl) (hb hby at_1) (fun _ _ => ⟨rfl, e0, (by decide : 0 + 0 ≤ _), (by decide : 0 + 0 ≤ _)⟩)
  dsimp only [Pt.U, Pt.locs, Pt.cells, Pt.slots] at X3 l3 y3 z3 st3 hQ3
  subst l3 y3 z3
  obtain ⟨rfl, N3, e3⟩ := hQ3
  have NF3 := Fr.app NF0 N3
  refine Wp.via st3 ?_
  show Wp p e below _ (T3.setTop (mkF m 4 #[.val (.int p0)] [(.int (f1_0 p0))]))
  refine Wp.via (fun _ k => XS.iloadN X3.here hx rfl (hb hby at_4) rfl k) ?_
  show Wp p e below _ (T3.setTop (mkF m 5 #[.val (.int p0)] [(.int p0), (.int (f1_0 p0))]))
  obtain ⟨_, _, ⟨T4, L4, k4, n4⟩, -, X4, ⟨Lc4, hQ4, l4, y4, z4⟩, st4⟩ := Jvm.LawKit.callS X3 hx (y := (⟨"com/example/antipolis/antipolis/value/XmlCharsIsNameStartPinLaw", "excluded", "(I)Z"⟩ : MethodName)) hown (mvT hZ (hw _ (List.mem_of_getElem? (i := 7) rfl))) (mvT hZ (hw _ (List.mem_of_getElem? (i := 8) rfl))) (mvT hZ (hw _ (List.mem_of_getElem? (i := 9) rfl))) (mvT hZ (hw _ (List.mem_of_getElem? (i := 10) rfl))) (by decide) (backOf (W := 1) (rm2 l Z aw hw [] p0  h0 n0 Z0 ) hZ (hw _ (List.mem_of_getElem? (i := 10) rfl)) (hw _ (List.mem_of_getElem? (i := 9) rfl)) (by decide) (by decide)) (g := (mkF m 5 #[.val (.int p0)] [(.int p0), (.int (f1_0 p0))])) rfl (by rw [hml]; rfl) (argsL := [(.int p0)]) (rest := [(.int (f1_0 p0))]) (lenOf own_pd0 rfl) rfl (by show 2 * 0 + _ ≤ _; exact Nat.le_of_eq rfl) (hb hby at_5) (fun _ _ => ⟨rfl, e3, (by decide : 0 + 0 ≤ _), (by decide : 0 + 0 ≤ _)⟩)
  dsimp only [Pt.U, Pt.locs, Pt.cells, Pt.slots] at X4 l4 y4 z4 st4 hQ4
  subst l4 y4 z4
  obtain ⟨rfl, N4, e4⟩ := hQ4
  have NF4 := Fr.app NF3 N4
  refine Wp.via st4 ?_
  show Wp p e below _ (T4.setTop (mkF m 8 #[.val (.int p0)] [(.int (f2_0 p0)), (.int (f1_0 p0))]))
  by_cases hc5 : (f2_0 p0) = (0 : Int32)
  ·
    have hv5_ := hv.trans (if_pos hc5)
    refine Wp.via (fun _ k => XS.ifNo X4.here hx rfl (hb hby at_8) rfl ((if0 _ _).trans (teq hc5).2) k) ?_
    show Wp p e below _ (T4.setTop (mkF m 11 #[.val (.int p0)] [(.int (f1_0 p0))]))
    refine Wp.via (fun _ k => XS.iconst X4.here hx rfl (hb hby at_11) k) ?_
    show Wp p e below _ (T4.setTop (mkF m 12 #[.val (.int p0)] [(.int (1 : Int32)), (.int (f1_0 p0))]))
    refine Wp.via (fun _ k => XS.goto X4.here hx rfl (pc0 := 12) (pc' := 16) rfl (hb hby at_12) (by decide) (by decide) k) ?_
    show Wp p e below _ (T4.setTop (mkF m 16 #[.val (.int p0)] [(.int (1 : Int32)), (.int (f1_0 p0))]))
    exact J16 T4 _ _ _ X4 e4 NF4 (by decide) (by decide) p0 (1 : Int32) (f1_0 p0) hv5_
  ·
    have hv5_ := hv.trans (if_neg hc5)
    refine Wp.via (fun _ k => XS.ifYes X4.here hx rfl (pc0 := 8) (pc' := 15) rfl (hb hby at_8) rfl ((if0 _ _).trans (feq hc5).2) (by decide) (by decide) k) ?_
    show Wp p e below _ (T4.setTop (mkF m 15 #[.val (.int p0)] [(.int (f1_0 p0))]))
    refine Wp.via (fun _ k => XS.iconst X4.here hx rfl (hb hby at_15) k) ?_
    show Wp p e below _ (T4.setTop (mkF m 16 #[.val (.int p0)] [(.int (0 : Int32)), (.int (f1_0 p0))]))
    exact J16 T4 _ _ _ X4 e4 NF4 (by decide) (by decide) p0 (0 : Int32) (f1_0 p0) hv5_
set_option maxRecDepth 65536 in
set_option maxHeartbeats 40000000 in
theorem comes_1 {Post : Tables → Env → Array Value → State → Outcome → State → Prop} (hpost : ∀ tb e args s v u, (limb_1_1.after args s (.returned v) u = true ∧ limb_1_2.after args s (.returned v) u = true ∧ True) → FrameEnd s (.returned v) u (Jvm.fieldLocs frame_1_writes args s ++ Jvm.arrayLocs frame_1_arrays args s ++ Jvm.staticLocs frame_1_statics s) 0 0 → Post tb e args s (.returned v) u) :
    ArmFor flags0 classFile x code maxLocals ret World_1 tables_1 room_1 Calls_1 rest_1 Pre_1 Post := by
  intro l hfl _ _ p e ha hc hk s m args below hf hA hF happ hP
  obtain ⟨hcalls, hrest, hpre⟩ := hP
  obtain ⟨-, -, -, hnamed, -, -, -, hat⟩ := (Spec.applies_iff hf).mp happ
  obtain ⟨hg, hn⟩ := and_e (Cond.before_iff.mp (show (Jvm.Cond.and given_1 narrow_1).before args s = true from hpre))
  obtain ⟨g1, g2⟩ := and_e hg
  obtain ⟨w0, rfl⟩ : ∃ w0 : Value, args = #[w0] := by
    have hs : args.size = 1 := by simpa [Cond.value, given_1] using g1
    obtain ⟨L⟩ := args
    match L, hs with
    | [w0], _ => exact ⟨w0, rfl⟩
  have hw := fun d (hd : d ∈ tables_1) => atoms_spec (ws := Jvm.Cond.code x code maxLocals ret :: tables_1) hat d (List.mem_cons_of_mem _ hd)
  obtain ⟨i0, ei0⟩ := is_v g2
  obtain rfl : w0 = (.int i0) := Option.some.inj ei0
  obtain ⟨n, o, h1, h2, h3, _, L, rfl, ⟨rfl, N⟩, hq⟩ := rm0 l s _ hw tables_1 i0 s.heap s.heap.size (Nat.le_refl _)  p e ha hc hk s m _ below hf ((Spec.applies_iff_loose hf).mp happ).1 ⟨rfl, State.Warmed39.refl s, rfl⟩ trivial
  refine ⟨n, _, h1, h2, h3, hpost _ _ _ _ _ _ ⟨Cond.after_iff.mpr rfl, Cond.after_iff.mpr (eq_i res_at (Term.int_eval (1)) rfl), trivial⟩ ⟨hq.1, hq.2.1, (hq.2.2.sift fun y hy => Or.inr (N y hy)).mono (by decide) (by decide)⟩⟩
theorem main_1_1 : Claimed_1_1 := comes_1 fun _ _ _ _ _ _ h hF => ⟨h.1, hF⟩
theorem main_1_2 : Claimed_1_2 := comes_1 fun _ _ _ _ _ _ h hF => ⟨h.2.1, hF⟩
end Jvm.Pilot.@@N@@
namespace Jvm.Pilot.@@N@@
open Jvm Jvm.ClassFile Sem Op Lib Jvm.Free Jvm.Stand Jvm.Pilot.@@N@@.Jvm.D
/-! MADE BY PROGRAM (witnessworld.py) out of the Statement's table words and the real class files: 9 classes; the members and pool entries that the words name. The judged class is class 1, her method 2. -/
namespace start1
open Jvm.ClassFile
def u (s : String) : CpInfo := .utf8 (stringToUtf16 s)
/-- a pool by its gaps: so many unusable entries, then the entry; so many at the end -/
def gap : Nat → List CpInfo → List CpInfo
  | 0, r => r
  | n + 1, r => .unusable :: gap n r
def poolList (es : List (Nat × CpInfo)) (last : Nat) : List CpInfo := es.foldr (fun e r => gap e.1 (e.2 :: r)) (gap last [])
def pool (es : List (Nat × CpInfo)) (last : Nat) : Array CpInfo := ⟨poolList es last⟩
def fileOf (pool : Array CpInfo) (this : Nat) (attrs : Array Attribute := #[]) (ms : Array MethodInfo := #[]) (fl : Nat := 33) (sup : Nat := 0) (ifs : Array Nat := #[]) (fds : Array FieldInfo := #[]) : ClassFile where
  minorVersion := 0
  majorVersion := 65
  constantPool := pool
  accessFlags := fl
  thisClass := this
  superClass := sup
  interfaces := ifs
  fields := fds
  methods := ms
  attributes := attrs
def plain (name : String) (sup : Option ClassId) : Class where
  name := name
  kind := .ordinary
  loader := none
  accessFlags := 33
  super := sup
  interfaces := #[]
  cf := none
  fields := #[]
  methods := #[]
  instanceTypes := #[]
  staticTypes := #[]
  resolved := #[]
  callSites := []
  init := .initialized
  statics := none
  mirror := none

def pool0 : Array CpInfo := pool [(5, u "<init>"), (0, u "()V"), (1, .class_ 10), (1, u "java/lang/Object")] 113

def k0m0 : Method := { name := "<init>", desc := "()V", sig := { parameters := [], returnType := none }, accessFlags := 1, code := none }
/-- java/lang/Object -/
def k0 : Class := { plain "java/lang/Object" none with
  accessFlags := 33
  interfaces := #[]
  cf := some (fileOf pool0 8 #[] #[{ accessFlags := 1, nameIndex := 5, descriptorIndex := 6, attributes := #[] }] 33 0 #[] #[])
  fields := #[]
  methods := #[k0m0]
  instanceTypes := #[]
  staticTypes := #[]
  resolved := Array.replicate 124 none
  statics := none }

def pool1 : Array CpInfo := pool [(2, .class_ 4), (1, u "java/lang/Object"), (0, u "<init>"), (0, u "()V"), (0, .integer 983039), (0, .integer 55296), (0, .integer 63743), (0, .integer 64976), (0, .integer 65007), (0, .integer 65534), (0, .integer 65535), (0, .methodref 15 16), (0, .class_ 17), (0, .nameAndType 18 19), (0, u "com/example/antipolis/antipolis/value/XmlChars"), (0, u "isNameStart"), (0, u "(I)Z"), (0, .methodref 21 22), (0, .class_ 23), (0, .nameAndType 24 19), (0, u "com/example/antipolis/antipolis/value/XmlCharsIsNameStartPinLaw"), (0, u "excluded"), (3, u "law")] 2

def k1m0 : Method := { name := "<init>", desc := "()V", sig := { parameters := [], returnType := none }, accessFlags := 2, code := none }
def k1c1 : Code := { maxStack := 2, maxLocals := 1, code := method_2_code, exceptionTable := #[], attributes := #[] }
def k1m1 : Method := { name := "excluded", desc := "(I)Z", sig := { parameters := [.int], returnType := some .boolean }, accessFlags := 10, code := some k1c1 }
def k1c2 : Code := { maxStack := 2, maxLocals := 1, code := code, exceptionTable := #[], attributes := #[] }
def k1m2 : Method := { name := "law", desc := "(I)Z", sig := { parameters := [.int], returnType := some .boolean }, accessFlags := 9, code := some k1c2 }
/-- com/example/antipolis/antipolis/value/XmlCharsIsNameStartPinLaw -/
def k1 : Class := { plain "com/example/antipolis/antipolis/value/XmlCharsIsNameStartPinLaw" (some 0) with
  accessFlags := 49
  interfaces := #[]
  cf := some (fileOf pool1 21 #[] #[{ accessFlags := 2, nameIndex := 5, descriptorIndex := 6, attributes := #[] }, { accessFlags := 10, nameIndex := 24, descriptorIndex := 19, attributes := #[] }, { accessFlags := 9, nameIndex := 28, descriptorIndex := 19, attributes := #[] }] 49 2 #[] #[])
  fields := #[]
  methods := #[k1m0, k1m1, k1m2]
  instanceTypes := #[]
  staticTypes := #[]
  resolved := Array.replicate 31 none
  statics := none }

def pool2 : Array CpInfo := pool [(2, .class_ 4), (1, u "java/lang/Object"), (0, u "<init>"), (0, u "()V"), (0, .integer 55295), (1, .integer 65533), (0, .integer 65536), (12, .class_ 25), (1, u "com/example/antipolis/antipolis/value/XmlChars"), (1, u "(I)Z"), (14, .integer 63744), (0, .integer 64975), (0, .integer 65008), (0, .integer 983039), (8, u "isNameStart")] 48

def k2m0 : Method := { name := "<init>", desc := "()V", sig := { parameters := [], returnType := none }, accessFlags := 2, code := none }
def k2c1 : Code := { maxStack := 2, maxLocals := 1, code := prog_60_method_6_code, exceptionTable := #[], attributes := #[] }
def k2m1 : Method := { name := "isNameStart", desc := "(I)Z", sig := { parameters := [.int], returnType := some .boolean }, accessFlags := 9, code := some k2c1 }
/-- com/example/antipolis/antipolis/value/XmlChars -/
def k2 : Class := { plain "com/example/antipolis/antipolis/value/XmlChars" (some 0) with
  accessFlags := 49
  interfaces := #[]
  cf := some (fileOf pool2 23 #[] #[{ accessFlags := 2, nameIndex := 5, descriptorIndex := 6, attributes := #[] }, { accessFlags := 9, nameIndex := 54, descriptorIndex := 27, attributes := #[] }] 49 2 #[] #[])
  fields := #[]
  methods := #[k2m0, k2m1]
  instanceTypes := #[]
  staticTypes := #[]
  resolved := Array.replicate 103 none
  statics := none }

def pool3 : Array CpInfo := pool [(1, u "java/lang/Cloneable"), (0, .class_ 1), (0, u "java/lang/Object"), (0, .class_ 3)] 3

/-- java/lang/Cloneable -/
def k3 : Class := { plain "java/lang/Cloneable" (some 0) with
  accessFlags := 1537
  interfaces := #[]
  cf := some (fileOf pool3 2 #[] #[] 1537 4 #[] #[])
  fields := #[]
  methods := #[]
  instanceTypes := #[]
  staticTypes := #[]
  resolved := Array.replicate 8 none
  statics := none }

def pool4 : Array CpInfo := pool [(1, u "java/io/Serializable"), (0, .class_ 1), (0, u "java/lang/Object"), (0, .class_ 3)] 3

/-- java/io/Serializable -/
def k4 : Class := { plain "java/io/Serializable" (some 0) with
  accessFlags := 1537
  interfaces := #[]
  cf := some (fileOf pool4 2 #[] #[] 1537 4 #[] #[])
  fields := #[]
  methods := #[]
  instanceTypes := #[]
  staticTypes := #[]
  resolved := Array.replicate 8 none
  statics := none }

/-- the primitive byte -/
def k5 : Class := { plain "byte" none with kind := .primitive 'B', accessFlags := 0x411 }
/-- [B -/
def k6 : Class := { plain "[B" (some 0) with kind := .array 5 .byte, interfaces := #[3, 4], accessFlags := 1041 }

/-- the primitive int -/
def k7 : Class := { plain "int" none with kind := .primitive 'I', accessFlags := 0x411 }
/-- [I -/
def k8 : Class := { plain "[I" (some 0) with kind := .array 7 .int, interfaces := #[3, 4], accessFlags := 1041 }

def heap : Heap := #[]
def classes : Array Class := #[k0, k1, k2, k3, k4, k5, k6, k7, k8]
def interned : List (Array UInt16 × Addr) := []
def slotsUsed : Nat := 0
def theMethod : MethodId := ⟨1, 2⟩
def args0 : Array Value := #[.int 5]
def aboutOver (below : List Frame) : State where
  vm := { classes := classes, interned := interned.toArray }
  heap := heap
  slotsUsed := slotsUsed
  threads := #[{ frames := .invoking theMethod args0 :: below }]
def below0 : List Frame := [.native { method := ⟨0, 0⟩, args := #[] }]
def about1 : State := aboutOver below0
def p0 : Program := .bare "" "" ""
def e0 : Env := launch0.env 0 0 0
theorem w_frames : about1.frames = Frame.invoking theMethod args0 :: below0 := rfl
set_option maxRecDepth 65536 in
theorem w_args : argsFit about1.vm theMethod args0 = true := by decide +kernel
set_option maxRecDepth 65536 in
theorem w_heap : heapFits about1 = true := by decide +kernel
set_option maxRecDepth 65536 in
theorem w_runnable : about1.curStatus? = some .runnable := by decide +kernel
set_option maxRecDepth 65536 in
theorem w_alone : about1.alone = true := by decide +kernel
set_option maxRecDepth 65536 in
theorem w_named : about1.methodNamed? x = some theMethod := by decide +kernel
set_option maxRecDepth 65536 in
theorem w_hears : about1.hears theMethod below0 = true := by decide +kernel
set_option maxRecDepth 65536 in
theorem w_ripe : about1.ripe theMethod args0 below0 = true := by decide +kernel
theorem w_running : about1.status = .running := rfl
set_option maxRecDepth 65536 in
theorem w_room : about1.hasRoom e0.platform room_1 = true :=
  launch0.hasRoom_least _ room_1 (by decide +kernel) (by decide +kernel) (by decide +kernel) (by decide +kernel) (by decide +kernel) (by decide +kernel)
theorem allAtoms_all (ts : List Jvm.Cond) (a : Array Jvm.Value) (st : Jvm.State) : (allAtoms ts).before a st = ts.all (fun c => c.before a st) := by
  induction ts with
  | nil => rfl
  | cons c t ih =>
    show (Jvm.Cond.and c (allAtoms t)).before a st = _
    rw [Jvm.Cond.before_and, ih, List.all_cons]
def words1 : List Jvm.Cond := Jvm.Cond.code x code maxLocals ret :: tables_1
/-- a 'code' word, met by the world's own term for the bytes: nothing is compared byte by byte -/
theorem code_word {y : MethodName} {bytes : ByteArray} {mx : Nat} {rt : Option FieldType} {a : Array Value} {s : State} {m : MethodId} {meth : Method} {c : Code} (h1 : s.methodNamed? y = some m) (h2 : s.vm.method? m = some meth) (h3 : meth.code = some c) (h4 : c.code = bytes)
    (h5 : (c.maxLocals == mx && c.exceptionTable.isEmpty && decide (c.maxStack ≤ mostOperands) && decide (meth.sig.returnType = rt) && !meth.locks && decide (parseMethodDescriptor y.desc = some meth.sig)) = true) : (Jvm.Cond.code y bytes mx rt).before a s = true := by
  simp only [Bool.and_eq_true, beq_iff_eq, Bool.not_eq_true', decide_eq_true_eq] at h5
  obtain ⟨⟨⟨⟨⟨g1, g2⟩, g3⟩, g4⟩, g5⟩, g6⟩ := h5
  simp [Cond.before, Cond.holds, Cond.value, h1, h2, h3, h4, g1, g2, g3, g4, g5, g6]
def isCode : Jvm.Cond → Bool
  | .code _ _ _ _ => true
  | _ => false
theorem all_split {L : List Jvm.Cond} {P : Jvm.Cond → Bool} (h1 : L.all (fun c => isCode c || P c) = true) (h2 : ∀ c ∈ L.filter isCode, P c = true) : L.all P = true := by
  refine List.all_eq_true.mpr fun c hc => ?_
  have h := List.all_eq_true.mp h1 c hc
  rcases Bool.eq_false_or_eq_true (isCode c) with hi | hi
  · exact h2 c (List.mem_filter.mpr ⟨hc, hi⟩)
  · simpa [hi] using h
set_option maxRecDepth 65536 in
theorem w_c0 : (Jvm.Cond.code x code maxLocals ret).before args0 about1 = true := code_word (m := ⟨1, 2⟩) (meth := k1m2) (c := k1c2) (by decide +kernel) rfl rfl rfl (by decide +kernel)
set_option maxRecDepth 65536 in
theorem w_c1 : (Jvm.Cond.code ({ cls := "com/example/antipolis/antipolis/value/XmlChars", name := "isNameStart", desc := "(I)Z" } : Jvm.MethodName) prog_60_method_6_code (1 : Nat) (Option.some Jvm.ClassFile.FieldType.boolean)).before args0 about1 = true := code_word (m := ⟨2, 1⟩) (meth := k2m1) (c := k2c1) (by decide +kernel) rfl rfl rfl (by decide +kernel)
set_option maxRecDepth 65536 in
theorem w_c2 : (Jvm.Cond.code ({ cls := "com/example/antipolis/antipolis/value/XmlCharsIsNameStartPinLaw", name := "excluded", desc := "(I)Z" } : Jvm.MethodName) method_2_code (1 : Nat) (Option.some Jvm.ClassFile.FieldType.boolean)).before args0 about1 = true := code_word (m := ⟨1, 1⟩) (meth := k1m1) (c := k1c1) (by decide +kernel) rfl rfl rfl (by decide +kernel)
def codes1 : List Jvm.Cond := [Jvm.Cond.code x code maxLocals ret, Jvm.Cond.code ({ cls := "com/example/antipolis/antipolis/value/XmlChars", name := "isNameStart", desc := "(I)Z" } : Jvm.MethodName) prog_60_method_6_code (1 : Nat) (Option.some Jvm.ClassFile.FieldType.boolean), Jvm.Cond.code ({ cls := "com/example/antipolis/antipolis/value/XmlCharsIsNameStartPinLaw", name := "excluded", desc := "(I)Z" } : Jvm.MethodName) method_2_code (1 : Nat) (Option.some Jvm.ClassFile.FieldType.boolean)]
set_option maxRecDepth 65536 in
theorem codes_eq : words1.filter isCode = codes1 := rfl
theorem w_codes : ∀ c ∈ words1.filter isCode, c.before args0 about1 = true := by
  rw [codes_eq]
  intro c hc
  simp only [codes1, List.mem_cons, List.not_mem_nil, or_false] at hc
  rcases hc with rfl | rfl | rfl
  · exact w_c0
  · exact w_c1
  · exact w_c2
set_option maxRecDepth 65536 in
theorem w_t1 : words1.all (fun c => isCode c || c.before args0 about1) = true := by decide +kernel
theorem w_tables : (allAtoms (Jvm.Cond.code x code maxLocals ret :: tables_1)).before args0 about1 = true := by
  rw [allAtoms_all]
  show words1.all (fun c => c.before args0 about1) = true
  refine all_split ?_ w_codes
  rw [w_t1]
set_option maxRecDepth 65536 in
theorem w_case : (Jvm.Cond.and given_1 narrow_1).before args0 about1 = true := by decide +kernel
theorem w_applies : (headSpec (Jvm.Cond.code x code maxLocals ret :: tables_1) room_1).applies x e0.platform about1 = true :=
  (Spec.applies_iff w_frames).mpr ⟨w_running, w_runnable, w_alone, w_named, w_hears, w_ripe, w_room, w_tables⟩
theorem atStart : AtStart classFile x code maxLocals ret World_1 tables_1 room_1 Calls_1 rest_1 Pre_1 launch0 p0 e0 about1 theMethod args0 below0 :=
  ⟨lists_1, trivial, launch0.admits_env _ _ _, launch0.least_env, fairChoices_fair.cas, fairChoices_fair.clock, w_frames, w_args, w_heap, w_applies, trivial, trivial, w_case⟩
end start1
theorem witness_1 : WitnessClaimed_1 := ⟨start1.p0, start1.e0, start1.about1, start1.theMethod, start1.args0, start1.below0, start1.atStart⟩
end Jvm.Pilot.@@N@@
