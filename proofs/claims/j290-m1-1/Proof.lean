import JvmDerived
import JvmDerived.Pilot.@@N@@Statement
import JvmDerived.Pilot.@@N@@Code
set_option linter.unusedVariables false
set_option linter.unusedSimpArgs false
namespace Jvm.Pilot.@@N@@
open Jvm Jvm.ClassFile Sem Op Lib Jvm.Free Jvm.Stand Jvm.LawKit Jvm.RoadKit Bundle Jvm.Pilot.@@N@@.Jvm.D
/-! the goal of a walk: from this frame the run comes to an end of which K holds -/
def own_Go (p : Program) (e : Env) (below : List Frame) (T : State) (f : JFrame) (K : State → Outcome → Prop) : Prop := ∃ s₂ o, Steps p.tables e below (T.setTop f) s₂ ∧ K s₂ o
theorem own_Go.mono {p : Program} {e : Env} {below : List Frame} {T T' : State} {f f' : JFrame} {K : State → Outcome → Prop} (h : ∀ t, Steps p.tables e below (T'.setTop f') t → Steps p.tables e below (T.setTop f) t) (g : own_Go p e below T' f' K) : own_Go p e below T f K := by
  obtain ⟨a, o, h1, h2⟩ := g; exact ⟨a, o, h _ h1, h2⟩
def own_K (s : State) (below : List Frame) (Qv : Option Value → Heap → List Loc → Prop) (cc ss : Nat) : State → Outcome → Prop := fun s₂ o => s₂.status = .running ∧ Ended s₂ below o ∧ ∃ v L, o = .returned v ∧ Qv v s₂.heap L ∧ FrameEnd s o s₂ L cc ss
theorem own_body {l : Launch} {y : MethodName} {bytes : ByteArray} {maxL : Nat} {ret : Option FieldType} {ws : List Jvm.Cond} {rm : Room} {Z : State} {as' : Array Value} {h0 : Heap} {Qv : Option Value → Heap → List Loc → Prop} {cc ss : Nat} (hpn : plainFor y = true)
    (body : ∀ (p : Program) (e : Env) (s : State) (m : MethodId) (below : List Frame) (meth : Method) (c : Code) (s₁ : State), p.tables.exec = Jvm.exec → c.code = bytes → c.maxLocals = maxL → meth.sig.returnType = ret → meth.locks = false → s.vm.findClass y.cls = some m.cls → meth.name = y.name → Z.Warmed39 s.vm → Stand p l e rm s m as' below meth c s₁ [] 0 0 → s₁.heap = h0 → own_Go p e below s₁ (entryFrame m as' maxL) (own_K s below Qv cc ss)) :
    MetFree l y (head1 (Jvm.Cond.code y bytes maxL ret :: ws) rm) (fun a U => a = as' ∧ Z.Warmed39 U.vm ∧ U.heap = h0) (fun _ _ _ _ _ => True) (fun _ U o U' => ∃ v L, o = .returned v ∧ Qv v U'.heap L ∧ FrameEnd U o U' L cc ss) := by
  refine MetFree.of_bodySF hpn hisR ?_
  intro p e s m args below meth c s₁ Bd hml0 hP hK
  obtain ⟨rfl, hZ, hh⟩ := hP
  exact body p e s m below meth c s₁ Bd.exec Bd.bytes hml0 Bd.returns Bd.notSynchronized (findClass_of_methodNamed Bd.named) (name_of_methodNamed Bd.named Bd.method).1 hZ (Stand.of_body Bd) (by rw [← hh, Bd.state]; rfl)
section Ret
variable {p : Program} {l : Launch} {e : Env} {R : Room} {s : State} {m : MethodId} {args : Array Value} {below : List Frame} {meth : Method} {c : Code} {T : State} {locs : List Loc} {cells slots : Nat} {Qv : Option Value → Heap → List Loc → Prop} {cc ss pc : Nat} {Ls : Array Slot} {rest : List Value}
theorem own_ret (X : Stand p l e R s m args below meth c T locs cells slots) {f : JFrame} {v : Option Value} (hv : meth.sig.returnType = none → v = none) (hlk : meth.locks = false)
    (hst : ∀ fs, (∀ (f : JFrame) (acts : List Action), f.method = m → f.locked = none → f.entered = [] → (doReturn e (T.setTop f) acts v).1 = T.setFrames fs) → Steps p.tables e below (T.setTop f) (T.setFrames fs)) (hq : Qv v T.heap locs) (hc : cells ≤ cc) (hs : slots ≤ ss) :
    own_Go p e below T f (own_K s below Qv cc ss) := by
  obtain ⟨fs, hr, hrun, hended, hW, hsame⟩ := X.leave (v := v) hv hlk
  exact ⟨_, _, hst fs hr, hrun, hended, v, locs, rfl, hq, ⟨_, rfl⟩, hW, hsame.mono hc hs⟩
theorem own_retN (X : Stand p l e R s m args below meth c T locs cells slots) (hx : p.tables.exec = Jvm.exec) {z : Int32} {t : FieldType} (hret : meth.sig.returnType = some t) (ht : t = .boolean ∨ t = .byte ∨ t = .char ∨ t = .short) (hlk : meth.locks = false) (hd : decode c.code pc = .ok (.ireturn, 1))
    (hq : Qv (some (.int (nar t z))) T.heap locs) (hc : cells ≤ cc) (hs : slots ≤ ss) : own_Go p e below T (mkF m pc Ls (.int z :: rest)) (own_K s below Qv cc ss) :=
  own_ret X (fun h => by rw [hret] at h; cases h) hlk (fun fs hr => retN X hx hret ht hd hr) hq hc hs
theorem own_retI (X : Stand p l e R s m args below meth c T locs cells slots) (hx : p.tables.exec = Jvm.exec) {z : Int32} (hret : meth.sig.returnType = some .int) (hlk : meth.locks = false) (hd : decode c.code pc = .ok (.ireturn, 1))
    (hq : Qv (some (.int z)) T.heap locs) (hc : cells ≤ cc) (hs : slots ≤ ss) : own_Go p e below T (mkF m pc Ls (.int z :: rest)) (own_K s below Qv cc ss) :=
  own_ret X (fun h => by rw [hret] at h; cases h) hlk (fun fs hr => retOut X hx hret rfl (Or.inl ⟨rfl, Or.inl rfl, z, rfl⟩) hd hr) hq hc hs
theorem own_retJ (X : Stand p l e R s m args below meth c T locs cells slots) (hx : p.tables.exec = Jvm.exec) {z : Int64} (hret : meth.sig.returnType = some .long) (hlk : meth.locks = false) (hd : decode c.code pc = .ok (.lreturn, 1))
    (hq : Qv (some (.long z)) T.heap locs) (hc : cells ≤ cc) (hs : slots ≤ ss) : own_Go p e below T (mkF m pc Ls (.long z :: rest)) (own_K s below Qv cc ss) :=
  own_ret X (fun h => by rw [hret] at h; cases h) hlk (fun fs hr => retOut X hx hret rfl (Or.inr (Or.inl ⟨rfl, rfl, z, rfl⟩)) hd hr) hq hc hs
theorem own_retA (X : Stand p l e R s m args below meth c T locs cells slots) (hx : p.tables.exec = Jvm.exec) {w : Value} {t : FieldType} (hret : meth.sig.returnType = some t) (hn : narrow t w = w) (ht : t.isReference = true ∧ w.isRef = true) (hlk : meth.locks = false) (hd : decode c.code pc = .ok (.areturn, 1))
    (hq : Qv (some w) T.heap locs) (hc : cells ≤ cc) (hs : slots ≤ ss) : own_Go p e below T (mkF m pc Ls (w :: rest)) (own_K s below Qv cc ss) :=
  own_ret X (fun h => by rw [hret] at h; cases h) hlk (fun fs hr => retOut X hx hret hn (Or.inr (Or.inr (Or.inr (Or.inr ⟨rfl, ht.1, ht.2⟩)))) hd hr) hq hc hs
theorem own_retV (X : Stand p l e R s m args below meth c T locs cells slots) (hx : p.tables.exec = Jvm.exec) (hret : meth.sig.returnType = none) (hlk : meth.locks = false) (hd : decode c.code pc = .ok (.return_, 1))
    (hq : Qv none T.heap locs) (hc : cells ≤ cc) (hs : slots ≤ ss) : own_Go p e below T (mkF m pc Ls []) (own_K s below Qv cc ss) :=
  own_ret X (fun _ => rfl) hlk (fun fs hr => X.returnOut hx hret hd hr) hq hc hs
theorem own_lremM {g : JFrame} {target : State} (X : Stand p l e R s m args below meth c T locs cells slots) (hx : p.tables.exec = Jvm.exec) (hg : g.method = m) {x y : Int64} (hd : decode c.code g.pc = .ok (.lrem, 1)) (hs : g.stack = .long y :: .long x :: rest) (hy : y ≠ 0)
    (hr : Steps p.tables e below (T.setTop { g with pc := g.pc + 1, stack := .long (x % y) :: rest }) target) : Steps p.tables e below (T.setTop g) target := XS.lrem X.here hx hg hd hs hy (by rw [lrem_mod]; exact hr)
end Ret
theorem pd_0 : parseMethodDescriptor "(I)Z" = some ⟨[.int], some .boolean⟩ := by decide +kernel
theorem d1_0 : decode prog_16_method_2_code 0 = .ok (.iload_n 0, 1) := by decide +kernel
theorem d1_1 : decode prog_16_method_2_code 1 = .ok (.sipush 192, 3) := by decide +kernel
theorem d1_4 : decode prog_16_method_2_code 4 = .ok (.if_icmp .lt 10, 3) := by decide +kernel
theorem d1_7 : decode prog_16_method_2_code 7 = .ok (.iload_n 0, 1) := by decide +kernel
theorem d1_8 : decode prog_16_method_2_code 8 = .ok (.sipush 214, 3) := by decide +kernel
theorem d1_11 : decode prog_16_method_2_code 11 = .ok (.if_icmp .le 150, 3) := by decide +kernel
theorem d1_14 : decode prog_16_method_2_code 14 = .ok (.iload_n 0, 1) := by decide +kernel
theorem d1_15 : decode prog_16_method_2_code 15 = .ok (.sipush 216, 3) := by decide +kernel
theorem d1_18 : decode prog_16_method_2_code 18 = .ok (.if_icmp .lt 10, 3) := by decide +kernel
theorem d1_21 : decode prog_16_method_2_code 21 = .ok (.iload_n 0, 1) := by decide +kernel
theorem d1_22 : decode prog_16_method_2_code 22 = .ok (.sipush 246, 3) := by decide +kernel
theorem d1_25 : decode prog_16_method_2_code 25 = .ok (.if_icmp .le 136, 3) := by decide +kernel
theorem d1_28 : decode prog_16_method_2_code 28 = .ok (.iload_n 0, 1) := by decide +kernel
theorem d1_29 : decode prog_16_method_2_code 29 = .ok (.sipush 248, 3) := by decide +kernel
theorem d1_32 : decode prog_16_method_2_code 32 = .ok (.if_icmp .lt 10, 3) := by decide +kernel
theorem d1_35 : decode prog_16_method_2_code 35 = .ok (.iload_n 0, 1) := by decide +kernel
theorem d1_36 : decode prog_16_method_2_code 36 = .ok (.sipush 767, 3) := by decide +kernel
theorem d1_39 : decode prog_16_method_2_code 39 = .ok (.if_icmp .le 122, 3) := by decide +kernel
theorem d1_42 : decode prog_16_method_2_code 42 = .ok (.iload_n 0, 1) := by decide +kernel
theorem d1_43 : decode prog_16_method_2_code 43 = .ok (.sipush 880, 3) := by decide +kernel
theorem d1_46 : decode prog_16_method_2_code 46 = .ok (.if_icmp .lt 10, 3) := by decide +kernel
theorem d1_49 : decode prog_16_method_2_code 49 = .ok (.iload_n 0, 1) := by decide +kernel
theorem d1_50 : decode prog_16_method_2_code 50 = .ok (.sipush 893, 3) := by decide +kernel
theorem d1_53 : decode prog_16_method_2_code 53 = .ok (.if_icmp .le 108, 3) := by decide +kernel
theorem d1_56 : decode prog_16_method_2_code 56 = .ok (.iload_n 0, 1) := by decide +kernel
theorem d1_57 : decode prog_16_method_2_code 57 = .ok (.sipush 895, 3) := by decide +kernel
theorem d1_60 : decode prog_16_method_2_code 60 = .ok (.if_icmp .lt 10, 3) := by decide +kernel
theorem d1_63 : decode prog_16_method_2_code 63 = .ok (.iload_n 0, 1) := by decide +kernel
theorem d1_64 : decode prog_16_method_2_code 64 = .ok (.sipush 8191, 3) := by decide +kernel
theorem d1_67 : decode prog_16_method_2_code 67 = .ok (.if_icmp .le 94, 3) := by decide +kernel
theorem d1_70 : decode prog_16_method_2_code 70 = .ok (.iload_n 0, 1) := by decide +kernel
theorem d1_71 : decode prog_16_method_2_code 71 = .ok (.sipush 8204, 3) := by decide +kernel
theorem d1_74 : decode prog_16_method_2_code 74 = .ok (.if_icmp .lt 10, 3) := by decide +kernel
theorem d1_77 : decode prog_16_method_2_code 77 = .ok (.iload_n 0, 1) := by decide +kernel
theorem d1_78 : decode prog_16_method_2_code 78 = .ok (.sipush 8205, 3) := by decide +kernel
theorem d1_81 : decode prog_16_method_2_code 81 = .ok (.if_icmp .le 80, 3) := by decide +kernel
theorem d1_84 : decode prog_16_method_2_code 84 = .ok (.iload_n 0, 1) := by decide +kernel
theorem d1_85 : decode prog_16_method_2_code 85 = .ok (.sipush 8304, 3) := by decide +kernel
theorem d1_88 : decode prog_16_method_2_code 88 = .ok (.if_icmp .lt 10, 3) := by decide +kernel
theorem d1_91 : decode prog_16_method_2_code 91 = .ok (.iload_n 0, 1) := by decide +kernel
theorem d1_92 : decode prog_16_method_2_code 92 = .ok (.sipush 8591, 3) := by decide +kernel
theorem d1_95 : decode prog_16_method_2_code 95 = .ok (.if_icmp .le 66, 3) := by decide +kernel
theorem d1_98 : decode prog_16_method_2_code 98 = .ok (.iload_n 0, 1) := by decide +kernel
theorem d1_99 : decode prog_16_method_2_code 99 = .ok (.sipush 11264, 3) := by decide +kernel
theorem d1_102 : decode prog_16_method_2_code 102 = .ok (.if_icmp .lt 10, 3) := by decide +kernel
theorem d1_105 : decode prog_16_method_2_code 105 = .ok (.iload_n 0, 1) := by decide +kernel
theorem d1_106 : decode prog_16_method_2_code 106 = .ok (.sipush 12271, 3) := by decide +kernel
theorem d1_109 : decode prog_16_method_2_code 109 = .ok (.if_icmp .le 52, 3) := by decide +kernel
theorem d1_112 : decode prog_16_method_2_code 112 = .ok (.iload_n 0, 1) := by decide +kernel
theorem d1_113 : decode prog_16_method_2_code 113 = .ok (.sipush 12289, 3) := by decide +kernel
theorem d1_116 : decode prog_16_method_2_code 116 = .ok (.if_icmp .lt 9, 3) := by decide +kernel
theorem d1_119 : decode prog_16_method_2_code 119 = .ok (.iload_n 0, 1) := by decide +kernel
theorem d1_120 : decode prog_16_method_2_code 120 = .ok (.ldc 7, 2) := by decide +kernel
theorem d1_122 : decode prog_16_method_2_code 122 = .ok (.if_icmp .le 39, 3) := by decide +kernel
theorem d1_125 : decode prog_16_method_2_code 125 = .ok (.iload_n 0, 1) := by decide +kernel
theorem d1_126 : decode prog_16_method_2_code 126 = .ok (.ldc 8, 2) := by decide +kernel
theorem d1_128 : decode prog_16_method_2_code 128 = .ok (.if_icmp .lt 9, 3) := by decide +kernel
theorem d1_131 : decode prog_16_method_2_code 131 = .ok (.iload_n 0, 1) := by decide +kernel
theorem d1_132 : decode prog_16_method_2_code 132 = .ok (.ldc 9, 2) := by decide +kernel
theorem d1_134 : decode prog_16_method_2_code 134 = .ok (.if_icmp .le 27, 3) := by decide +kernel
theorem d1_137 : decode prog_16_method_2_code 137 = .ok (.iload_n 0, 1) := by decide +kernel
theorem d1_138 : decode prog_16_method_2_code 138 = .ok (.ldc 10, 2) := by decide +kernel
theorem d1_140 : decode prog_16_method_2_code 140 = .ok (.if_icmp .lt 9, 3) := by decide +kernel
theorem d1_143 : decode prog_16_method_2_code 143 = .ok (.iload_n 0, 1) := by decide +kernel
theorem d1_144 : decode prog_16_method_2_code 144 = .ok (.ldc 11, 2) := by decide +kernel
theorem d1_146 : decode prog_16_method_2_code 146 = .ok (.if_icmp .le 15, 3) := by decide +kernel
theorem d1_149 : decode prog_16_method_2_code 149 = .ok (.iload_n 0, 1) := by decide +kernel
theorem d1_150 : decode prog_16_method_2_code 150 = .ok (.ldc 12, 2) := by decide +kernel
theorem d1_152 : decode prog_16_method_2_code 152 = .ok (.if_icmp .lt 13, 3) := by decide +kernel
theorem d1_155 : decode prog_16_method_2_code 155 = .ok (.iload_n 0, 1) := by decide +kernel
theorem d1_156 : decode prog_16_method_2_code 156 = .ok (.ldc 13, 2) := by decide +kernel
theorem d1_158 : decode prog_16_method_2_code 158 = .ok (.if_icmp .gt 7, 3) := by decide +kernel
theorem d1_161 : decode prog_16_method_2_code 161 = .ok (.iconst 1, 1) := by decide +kernel
theorem d1_162 : decode prog_16_method_2_code 162 = .ok (.goto 4, 3) := by decide +kernel
theorem d1_165 : decode prog_16_method_2_code 165 = .ok (.iconst 0, 1) := by decide +kernel
theorem d1_166 : decode prog_16_method_2_code 166 = .ok (.ireturn, 1) := by decide +kernel
def B1_165 (l0 : Int32) : Int32 := (0 : Int32)
def B1_161 (l0 : Int32) : Int32 := (1 : Int32)
def B1_149 (l0 : Int32) : Int32 := (if l0 < (65536 : Int32) then B1_165 l0 else (if (983039 : Int32) < l0 then B1_165 l0 else B1_161 l0))
def B1_137 (l0 : Int32) : Int32 := (if l0 < (65008 : Int32) then B1_149 l0 else (if (65533 : Int32) < l0 then B1_149 l0 else B1_161 l0))
def B1_125 (l0 : Int32) : Int32 := (if l0 < (63744 : Int32) then B1_137 l0 else (if (64975 : Int32) < l0 then B1_137 l0 else B1_161 l0))
def B1_112 (l0 : Int32) : Int32 := (if l0 < (12289 : Int32) then B1_125 l0 else (if (55295 : Int32) < l0 then B1_125 l0 else B1_161 l0))
def B1_98 (l0 : Int32) : Int32 := (if l0 < (11264 : Int32) then B1_112 l0 else (if (12271 : Int32) < l0 then B1_112 l0 else B1_161 l0))
def B1_84 (l0 : Int32) : Int32 := (if l0 < (8304 : Int32) then B1_98 l0 else (if (8591 : Int32) < l0 then B1_98 l0 else B1_161 l0))
def B1_70 (l0 : Int32) : Int32 := (if l0 < (8204 : Int32) then B1_84 l0 else (if (8205 : Int32) < l0 then B1_84 l0 else B1_161 l0))
def B1_56 (l0 : Int32) : Int32 := (if l0 < (895 : Int32) then B1_70 l0 else (if (8191 : Int32) < l0 then B1_70 l0 else B1_161 l0))
def B1_42 (l0 : Int32) : Int32 := (if l0 < (880 : Int32) then B1_56 l0 else (if (893 : Int32) < l0 then B1_56 l0 else B1_161 l0))
def B1_28 (l0 : Int32) : Int32 := (if l0 < (248 : Int32) then B1_42 l0 else (if (767 : Int32) < l0 then B1_42 l0 else B1_161 l0))
def B1_14 (l0 : Int32) : Int32 := (if l0 < (216 : Int32) then B1_28 l0 else (if (246 : Int32) < l0 then B1_28 l0 else B1_161 l0))
def B1_0 (p0 : Int32) : Int32 := (if p0 < (192 : Int32) then B1_14 p0 else (if (214 : Int32) < p0 then B1_14 p0 else B1_161 p0))
theorem ef_rm1 (m : MethodId) (x0 : Int32) : entryFrame m #[(.int x0)] 1 = mkF m 0 #[.val (.int x0)] [] := by first | (simp [entryFrame, mkF, argsToLocals, Value.category]; done) | rfl
def Q1 (Z : State) (p0 : Int32)  (h0 : Heap) (n0 : Nat) (v : Option Value) (h : Heap) (L : List Loc) : Prop := v = some (.int (B1_0 p0)) ∧ Fr n0 L ∧ h = h0
set_option maxRecDepth 65536 in
set_option maxHeartbeats 40000000 in
theorem rm1 (l : Launch) (Z : State) (a0 : Array Value) (hw : ∀ d ∈ tables_1, d.before a0 Z = true) (ws : List Jvm.Cond) (p0 : Int32)  (h0 : Heap) (n0 : Nat) (Z0 : n0 ≤ h0.size)  :
    MetFree l (⟨"com/example/vetted_path/vettedpath/NameCharacters", "isFifthEditionNameStart", "(I)Z"⟩ : MethodName) (head1 (Jvm.Cond.code (⟨"com/example/vetted_path/vettedpath/NameCharacters", "isFifthEditionNameStart", "(I)Z"⟩ : MethodName) prog_16_method_2_code 1 (some .boolean) :: ws) ({ frames := 0, cells := 0, slots := 0, locals := 0 } : Room)) (fun a U => a = #[(.int p0)] ∧ Z.Warmed39 U.vm ∧ U.heap = h0) (fun _ _ _ _ _ => True) (fun _ U o U' => ∃ v L, o = .returned v ∧ Q1 Z p0  h0 n0 v U'.heap L ∧ FrameEnd U o U' L 0 0) := by
  refine own_body (Qv := Q1 Z p0  h0 n0) (plainFor_of_name (by first | (simp [plainName, overriddenIn]; done) | decide +kernel)) ?_
  intro p e s m below meth c s₁ hx hby hml hret hlk hown hnm hZ X0 e0
  replace hown : s.vm.findClass "com/example/vetted_path/vettedpath/NameCharacters" = some m.cls := hown
  replace hnm : meth.name = "isFifthEditionNameStart" := hnm
  have N0 := Fr.nil n0
  refine own_Go.mono (T' := s₁) (f' := (mkF m 0 #[.val (.int p0)] [])) (fun t k => castTop (ef_rm1 m p0) k) ?_
  have b_165 : ∀ {T : State} {locs : List Loc} (l0 : Int32) (X : Stand p l e ({ frames := 0, cells := 0, slots := 0, locals := 0 } : Room) s m #[(.int p0)] below meth c T locs 0 0) (N : Fr n0 locs) (eT : T.heap = h0) (hv : B1_165 l0 = (B1_0 p0)), own_Go p e below T (mkF m 165 #[.val (.int l0)] []) (own_K s below (Q1 Z p0 h0 n0) 0 0) := by
    intro T locs l0 X N eT hv
    refine own_Go.mono (T' := T) (f' := (mkF m 166 #[.val (.int l0)] [(.int (0 : Int32))])) (fun t k => ?_) ?_
    · show Steps p.tables e below (T.setTop (mkF m 165 #[.val (.int l0)] [])) _
      refine XS.iconst X.here hx rfl (hb hby d1_165) ?_
      show Steps p.tables e below (T.setTop (mkF m 166 #[.val (.int l0)] [(.int (0 : Int32))])) _
      exact k
    exact own_retN X hx (t := .boolean) hret (by simp) hlk (hb hby d1_166) (⟨congrArg some (congrArg Value.int (by rw [← hv]; unfold B1_165; first | done | rfl)), N, eT⟩) (by decide) (by decide)
  have b_161 : ∀ {T : State} {locs : List Loc} (l0 : Int32) (X : Stand p l e ({ frames := 0, cells := 0, slots := 0, locals := 0 } : Room) s m #[(.int p0)] below meth c T locs 0 0) (N : Fr n0 locs) (eT : T.heap = h0) (hv : B1_161 l0 = (B1_0 p0)), own_Go p e below T (mkF m 161 #[.val (.int l0)] []) (own_K s below (Q1 Z p0 h0 n0) 0 0) := by
    intro T locs l0 X N eT hv
    refine own_Go.mono (T' := T) (f' := (mkF m 166 #[.val (.int l0)] [(.int (1 : Int32))])) (fun t k => ?_) ?_
    · show Steps p.tables e below (T.setTop (mkF m 161 #[.val (.int l0)] [])) _
      refine XS.iconst X.here hx rfl (hb hby d1_161) ?_
      show Steps p.tables e below (T.setTop (mkF m 162 #[.val (.int l0)] [(.int (1 : Int32))])) _
      refine XS.goto X.here hx rfl (pc0 := 162) (pc' := 166) rfl (hb hby d1_162) (by decide) (by decide) ?_
      show Steps p.tables e below (T.setTop (mkF m 166 #[.val (.int l0)] [(.int (1 : Int32))])) _
      exact k
    exact own_retN X hx (t := .boolean) hret (by simp) hlk (hb hby d1_166) (⟨congrArg some (congrArg Value.int (by rw [← hv]; unfold B1_161; first | done | rfl)), N, eT⟩) (by decide) (by decide)
  have b_149 : ∀ {T : State} {locs : List Loc} (l0 : Int32) (X : Stand p l e ({ frames := 0, cells := 0, slots := 0, locals := 0 } : Room) s m #[(.int p0)] below meth c T locs 0 0) (N : Fr n0 locs) (eT : T.heap = h0) (hv : B1_149 l0 = (B1_0 p0)), own_Go p e below T (mkF m 149 #[.val (.int l0)] []) (own_K s below (Q1 Z p0 h0 n0) 0 0) := by
    intro T locs l0 X N eT hv
    refine own_Go.mono (T' := T) (f' := (mkF m 152 #[.val (.int l0)] [(.int (65536 : Int32)), (.int l0)])) (fun t k => ?_) ?_
    · show Steps p.tables e below (T.setTop (mkF m 149 #[.val (.int l0)] [])) _
      refine XS.iloadN X.here hx rfl (hb hby d1_149) rfl ?_
      show Steps p.tables e below (T.setTop (mkF m 150 #[.val (.int l0)] [(.int l0)])) _
      refine X.ldcInt hx hown (mvT hZ (hw _ (List.mem_of_getElem? (i := 15) rfl))) (g := (mkF m 150 #[.val (.int l0)] [(.int l0)])) rfl (hb hby d1_150) _ ?_
      show Steps p.tables e below (T.setTop (mkF m 152 #[.val (.int l0)] [(.int (65536 : Int32)), (.int l0)])) _
      exact k
    by_cases c152_1 : l0 < (65536 : Int32)
    · refine own_Go.mono (T' := T) (f' := (mkF m 165 #[.val (.int l0)] [])) (fun t k => ?_) ?_
      · show Steps p.tables e below (T.setTop (mkF m 152 #[.val (.int l0)] [(.int (65536 : Int32)), (.int l0)])) _
        refine XS.icmpYes X.here hx rfl (pc0 := 152) (pc' := 165) rfl (hb hby d1_152) rfl (tlt c152_1).1 (by decide) (by decide) ?_
        show Steps p.tables e below (T.setTop (mkF m 165 #[.val (.int l0)] [])) _
        exact k
      exact b_165 l0 X N eT (by rw [← hv]; unfold B1_149; rw [if_pos c152_1]; first | done | rfl)
    · refine own_Go.mono (T' := T) (f' := (mkF m 158 #[.val (.int l0)] [(.int (983039 : Int32)), (.int l0)])) (fun t k => ?_) ?_
      · show Steps p.tables e below (T.setTop (mkF m 152 #[.val (.int l0)] [(.int (65536 : Int32)), (.int l0)])) _
        refine XS.icmpNo X.here hx rfl (hb hby d1_152) rfl (flt c152_1).1 ?_
        show Steps p.tables e below (T.setTop (mkF m 155 #[.val (.int l0)] [])) _
        refine XS.iloadN X.here hx rfl (hb hby d1_155) rfl ?_
        show Steps p.tables e below (T.setTop (mkF m 156 #[.val (.int l0)] [(.int l0)])) _
        refine X.ldcInt hx hown (mvT hZ (hw _ (List.mem_of_getElem? (i := 26) rfl))) (g := (mkF m 156 #[.val (.int l0)] [(.int l0)])) rfl (hb hby d1_156) _ ?_
        show Steps p.tables e below (T.setTop (mkF m 158 #[.val (.int l0)] [(.int (983039 : Int32)), (.int l0)])) _
        exact k
      by_cases c158_2 : (983039 : Int32) < l0
      · refine own_Go.mono (T' := T) (f' := (mkF m 165 #[.val (.int l0)] [])) (fun t k => ?_) ?_
        · show Steps p.tables e below (T.setTop (mkF m 158 #[.val (.int l0)] [(.int (983039 : Int32)), (.int l0)])) _
          refine XS.icmpYes X.here hx rfl (pc0 := 158) (pc' := 165) rfl (hb hby d1_158) rfl (tlt c158_2).2.2.1 (by decide) (by decide) ?_
          show Steps p.tables e below (T.setTop (mkF m 165 #[.val (.int l0)] [])) _
          exact k
        exact b_165 l0 X N eT (by rw [← hv]; unfold B1_149; rw [if_neg c152_1]; rw [if_pos c158_2]; first | done | rfl)
      · refine own_Go.mono (T' := T) (f' := (mkF m 161 #[.val (.int l0)] [])) (fun t k => ?_) ?_
        · show Steps p.tables e below (T.setTop (mkF m 158 #[.val (.int l0)] [(.int (983039 : Int32)), (.int l0)])) _
          refine XS.icmpNo X.here hx rfl (hb hby d1_158) rfl (flt c158_2).2.2.1 ?_
          show Steps p.tables e below (T.setTop (mkF m 161 #[.val (.int l0)] [])) _
          exact k
        exact b_161 l0 X N eT (by rw [← hv]; unfold B1_149; rw [if_neg c152_1]; rw [if_neg c158_2]; first | done | rfl)
  have b_137 : ∀ {T : State} {locs : List Loc} (l0 : Int32) (X : Stand p l e ({ frames := 0, cells := 0, slots := 0, locals := 0 } : Room) s m #[(.int p0)] below meth c T locs 0 0) (N : Fr n0 locs) (eT : T.heap = h0) (hv : B1_137 l0 = (B1_0 p0)), own_Go p e below T (mkF m 137 #[.val (.int l0)] []) (own_K s below (Q1 Z p0 h0 n0) 0 0) := by
    intro T locs l0 X N eT hv
    refine own_Go.mono (T' := T) (f' := (mkF m 140 #[.val (.int l0)] [(.int (65008 : Int32)), (.int l0)])) (fun t k => ?_) ?_
    · show Steps p.tables e below (T.setTop (mkF m 137 #[.val (.int l0)] [])) _
      refine XS.iloadN X.here hx rfl (hb hby d1_137) rfl ?_
      show Steps p.tables e below (T.setTop (mkF m 138 #[.val (.int l0)] [(.int l0)])) _
      refine X.ldcInt hx hown (mvT hZ (hw _ (List.mem_of_getElem? (i := 14) rfl))) (g := (mkF m 138 #[.val (.int l0)] [(.int l0)])) rfl (hb hby d1_138) _ ?_
      show Steps p.tables e below (T.setTop (mkF m 140 #[.val (.int l0)] [(.int (65008 : Int32)), (.int l0)])) _
      exact k
    by_cases c140_3 : l0 < (65008 : Int32)
    · refine own_Go.mono (T' := T) (f' := (mkF m 149 #[.val (.int l0)] [])) (fun t k => ?_) ?_
      · show Steps p.tables e below (T.setTop (mkF m 140 #[.val (.int l0)] [(.int (65008 : Int32)), (.int l0)])) _
        refine XS.icmpYes X.here hx rfl (pc0 := 140) (pc' := 149) rfl (hb hby d1_140) rfl (tlt c140_3).1 (by decide) (by decide) ?_
        show Steps p.tables e below (T.setTop (mkF m 149 #[.val (.int l0)] [])) _
        exact k
      exact b_149 l0 X N eT (by rw [← hv]; unfold B1_137; rw [if_pos c140_3]; first | done | rfl)
    · refine own_Go.mono (T' := T) (f' := (mkF m 146 #[.val (.int l0)] [(.int (65533 : Int32)), (.int l0)])) (fun t k => ?_) ?_
      · show Steps p.tables e below (T.setTop (mkF m 140 #[.val (.int l0)] [(.int (65008 : Int32)), (.int l0)])) _
        refine XS.icmpNo X.here hx rfl (hb hby d1_140) rfl (flt c140_3).1 ?_
        show Steps p.tables e below (T.setTop (mkF m 143 #[.val (.int l0)] [])) _
        refine XS.iloadN X.here hx rfl (hb hby d1_143) rfl ?_
        show Steps p.tables e below (T.setTop (mkF m 144 #[.val (.int l0)] [(.int l0)])) _
        refine X.ldcInt hx hown (mvT hZ (hw _ (List.mem_of_getElem? (i := 25) rfl))) (g := (mkF m 144 #[.val (.int l0)] [(.int l0)])) rfl (hb hby d1_144) _ ?_
        show Steps p.tables e below (T.setTop (mkF m 146 #[.val (.int l0)] [(.int (65533 : Int32)), (.int l0)])) _
        exact k
      by_cases c146_4 : (65533 : Int32) < l0
      · refine own_Go.mono (T' := T) (f' := (mkF m 149 #[.val (.int l0)] [])) (fun t k => ?_) ?_
        · show Steps p.tables e below (T.setTop (mkF m 146 #[.val (.int l0)] [(.int (65533 : Int32)), (.int l0)])) _
          refine XS.icmpNo X.here hx rfl (hb hby d1_146) rfl (tlt c146_4).2.2.2 ?_
          show Steps p.tables e below (T.setTop (mkF m 149 #[.val (.int l0)] [])) _
          exact k
        exact b_149 l0 X N eT (by rw [← hv]; unfold B1_137; rw [if_neg c140_3]; rw [if_pos c146_4]; first | done | rfl)
      · refine own_Go.mono (T' := T) (f' := (mkF m 161 #[.val (.int l0)] [])) (fun t k => ?_) ?_
        · show Steps p.tables e below (T.setTop (mkF m 146 #[.val (.int l0)] [(.int (65533 : Int32)), (.int l0)])) _
          refine XS.icmpYes X.here hx rfl (pc0 := 146) (pc' := 161) rfl (hb hby d1_146) rfl (flt c146_4).2.2.2 (by decide) (by decide) ?_
          show Steps p.tables e below (T.setTop (mkF m 161 #[.val (.int l0)] [])) _
          exact k
        exact b_161 l0 X N eT (by rw [← hv]; unfold B1_137; rw [if_neg c140_3]; rw [if_neg c146_4]; first | done | rfl)
  have b_125 : ∀ {T : State} {locs : List Loc} (l0 : Int32) (X : Stand p l e ({ frames := 0, cells := 0, slots := 0, locals := 0 } : Room) s m #[(.int p0)] below meth c T locs 0 0) (N : Fr n0 locs) (eT : T.heap = h0) (hv : B1_125 l0 = (B1_0 p0)), own_Go p e below T (mkF m 125 #[.val (.int l0)] []) (own_K s below (Q1 Z p0 h0 n0) 0 0) := by
    intro T locs l0 X N eT hv
    refine own_Go.mono (T' := T) (f' := (mkF m 128 #[.val (.int l0)] [(.int (63744 : Int32)), (.int l0)])) (fun t k => ?_) ?_
    · show Steps p.tables e below (T.setTop (mkF m 125 #[.val (.int l0)] [])) _
      refine XS.iloadN X.here hx rfl (hb hby d1_125) rfl ?_
      show Steps p.tables e below (T.setTop (mkF m 126 #[.val (.int l0)] [(.int l0)])) _
      refine X.ldcInt hx hown (mvT hZ (hw _ (List.mem_of_getElem? (i := 13) rfl))) (g := (mkF m 126 #[.val (.int l0)] [(.int l0)])) rfl (hb hby d1_126) _ ?_
      show Steps p.tables e below (T.setTop (mkF m 128 #[.val (.int l0)] [(.int (63744 : Int32)), (.int l0)])) _
      exact k
    by_cases c128_5 : l0 < (63744 : Int32)
    · refine own_Go.mono (T' := T) (f' := (mkF m 137 #[.val (.int l0)] [])) (fun t k => ?_) ?_
      · show Steps p.tables e below (T.setTop (mkF m 128 #[.val (.int l0)] [(.int (63744 : Int32)), (.int l0)])) _
        refine XS.icmpYes X.here hx rfl (pc0 := 128) (pc' := 137) rfl (hb hby d1_128) rfl (tlt c128_5).1 (by decide) (by decide) ?_
        show Steps p.tables e below (T.setTop (mkF m 137 #[.val (.int l0)] [])) _
        exact k
      exact b_137 l0 X N eT (by rw [← hv]; unfold B1_125; rw [if_pos c128_5]; first | done | rfl)
    · refine own_Go.mono (T' := T) (f' := (mkF m 134 #[.val (.int l0)] [(.int (64975 : Int32)), (.int l0)])) (fun t k => ?_) ?_
      · show Steps p.tables e below (T.setTop (mkF m 128 #[.val (.int l0)] [(.int (63744 : Int32)), (.int l0)])) _
        refine XS.icmpNo X.here hx rfl (hb hby d1_128) rfl (flt c128_5).1 ?_
        show Steps p.tables e below (T.setTop (mkF m 131 #[.val (.int l0)] [])) _
        refine XS.iloadN X.here hx rfl (hb hby d1_131) rfl ?_
        show Steps p.tables e below (T.setTop (mkF m 132 #[.val (.int l0)] [(.int l0)])) _
        refine X.ldcInt hx hown (mvT hZ (hw _ (List.mem_of_getElem? (i := 24) rfl))) (g := (mkF m 132 #[.val (.int l0)] [(.int l0)])) rfl (hb hby d1_132) _ ?_
        show Steps p.tables e below (T.setTop (mkF m 134 #[.val (.int l0)] [(.int (64975 : Int32)), (.int l0)])) _
        exact k
      by_cases c134_6 : (64975 : Int32) < l0
      · refine own_Go.mono (T' := T) (f' := (mkF m 137 #[.val (.int l0)] [])) (fun t k => ?_) ?_
        · show Steps p.tables e below (T.setTop (mkF m 134 #[.val (.int l0)] [(.int (64975 : Int32)), (.int l0)])) _
          refine XS.icmpNo X.here hx rfl (hb hby d1_134) rfl (tlt c134_6).2.2.2 ?_
          show Steps p.tables e below (T.setTop (mkF m 137 #[.val (.int l0)] [])) _
          exact k
        exact b_137 l0 X N eT (by rw [← hv]; unfold B1_125; rw [if_neg c128_5]; rw [if_pos c134_6]; first | done | rfl)
      · refine own_Go.mono (T' := T) (f' := (mkF m 161 #[.val (.int l0)] [])) (fun t k => ?_) ?_
        · show Steps p.tables e below (T.setTop (mkF m 134 #[.val (.int l0)] [(.int (64975 : Int32)), (.int l0)])) _
          refine XS.icmpYes X.here hx rfl (pc0 := 134) (pc' := 161) rfl (hb hby d1_134) rfl (flt c134_6).2.2.2 (by decide) (by decide) ?_
          show Steps p.tables e below (T.setTop (mkF m 161 #[.val (.int l0)] [])) _
          exact k
        exact b_161 l0 X N eT (by rw [← hv]; unfold B1_125; rw [if_neg c128_5]; rw [if_neg c134_6]; first | done | rfl)
  have b_112 : ∀ {T : State} {locs : List Loc} (l0 : Int32) (X : Stand p l e ({ frames := 0, cells := 0, slots := 0, locals := 0 } : Room) s m #[(.int p0)] below meth c T locs 0 0) (N : Fr n0 locs) (eT : T.heap = h0) (hv : B1_112 l0 = (B1_0 p0)), own_Go p e below T (mkF m 112 #[.val (.int l0)] []) (own_K s below (Q1 Z p0 h0 n0) 0 0) := by
    intro T locs l0 X N eT hv
    refine own_Go.mono (T' := T) (f' := (mkF m 116 #[.val (.int l0)] [(.int (12289 : Int32)), (.int l0)])) (fun t k => ?_) ?_
    · show Steps p.tables e below (T.setTop (mkF m 112 #[.val (.int l0)] [])) _
      refine XS.iloadN X.here hx rfl (hb hby d1_112) rfl ?_
      show Steps p.tables e below (T.setTop (mkF m 113 #[.val (.int l0)] [(.int l0)])) _
      refine XS.sipush X.here hx rfl (hb hby d1_113) ?_
      show Steps p.tables e below (T.setTop (mkF m 116 #[.val (.int l0)] [(.int (12289 : Int32)), (.int l0)])) _
      exact k
    by_cases c116_7 : l0 < (12289 : Int32)
    · refine own_Go.mono (T' := T) (f' := (mkF m 125 #[.val (.int l0)] [])) (fun t k => ?_) ?_
      · show Steps p.tables e below (T.setTop (mkF m 116 #[.val (.int l0)] [(.int (12289 : Int32)), (.int l0)])) _
        refine XS.icmpYes X.here hx rfl (pc0 := 116) (pc' := 125) rfl (hb hby d1_116) rfl (tlt c116_7).1 (by decide) (by decide) ?_
        show Steps p.tables e below (T.setTop (mkF m 125 #[.val (.int l0)] [])) _
        exact k
      exact b_125 l0 X N eT (by rw [← hv]; unfold B1_112; rw [if_pos c116_7]; first | done | rfl)
    · refine own_Go.mono (T' := T) (f' := (mkF m 122 #[.val (.int l0)] [(.int (55295 : Int32)), (.int l0)])) (fun t k => ?_) ?_
      · show Steps p.tables e below (T.setTop (mkF m 116 #[.val (.int l0)] [(.int (12289 : Int32)), (.int l0)])) _
        refine XS.icmpNo X.here hx rfl (hb hby d1_116) rfl (flt c116_7).1 ?_
        show Steps p.tables e below (T.setTop (mkF m 119 #[.val (.int l0)] [])) _
        refine XS.iloadN X.here hx rfl (hb hby d1_119) rfl ?_
        show Steps p.tables e below (T.setTop (mkF m 120 #[.val (.int l0)] [(.int l0)])) _
        refine X.ldcInt hx hown (mvT hZ (hw _ (List.mem_of_getElem? (i := 23) rfl))) (g := (mkF m 120 #[.val (.int l0)] [(.int l0)])) rfl (hb hby d1_120) _ ?_
        show Steps p.tables e below (T.setTop (mkF m 122 #[.val (.int l0)] [(.int (55295 : Int32)), (.int l0)])) _
        exact k
      by_cases c122_8 : (55295 : Int32) < l0
      · refine own_Go.mono (T' := T) (f' := (mkF m 125 #[.val (.int l0)] [])) (fun t k => ?_) ?_
        · show Steps p.tables e below (T.setTop (mkF m 122 #[.val (.int l0)] [(.int (55295 : Int32)), (.int l0)])) _
          refine XS.icmpNo X.here hx rfl (hb hby d1_122) rfl (tlt c122_8).2.2.2 ?_
          show Steps p.tables e below (T.setTop (mkF m 125 #[.val (.int l0)] [])) _
          exact k
        exact b_125 l0 X N eT (by rw [← hv]; unfold B1_112; rw [if_neg c116_7]; rw [if_pos c122_8]; first | done | rfl)
      · refine own_Go.mono (T' := T) (f' := (mkF m 161 #[.val (.int l0)] [])) (fun t k => ?_) ?_
        · show Steps p.tables e below (T.setTop (mkF m 122 #[.val (.int l0)] [(.int (55295 : Int32)), (.int l0)])) _
          refine XS.icmpYes X.here hx rfl (pc0 := 122) (pc' := 161) rfl (hb hby d1_122) rfl (flt c122_8).2.2.2 (by decide) (by decide) ?_
          show Steps p.tables e below (T.setTop (mkF m 161 #[.val (.int l0)] [])) _
          exact k
        exact b_161 l0 X N eT (by rw [← hv]; unfold B1_112; rw [if_neg c116_7]; rw [if_neg c122_8]; first | done | rfl)
  have b_98 : ∀ {T : State} {locs : List Loc} (l0 : Int32) (X : Stand p l e ({ frames := 0, cells := 0, slots := 0, locals := 0 } : Room) s m #[(.int p0)] below meth c T locs 0 0) (N : Fr n0 locs) (eT : T.heap = h0) (hv : B1_98 l0 = (B1_0 p0)), own_Go p e below T (mkF m 98 #[.val (.int l0)] []) (own_K s below (Q1 Z p0 h0 n0) 0 0) := by
    intro T locs l0 X N eT hv
    refine own_Go.mono (T' := T) (f' := (mkF m 102 #[.val (.int l0)] [(.int (11264 : Int32)), (.int l0)])) (fun t k => ?_) ?_
    · show Steps p.tables e below (T.setTop (mkF m 98 #[.val (.int l0)] [])) _
      refine XS.iloadN X.here hx rfl (hb hby d1_98) rfl ?_
      show Steps p.tables e below (T.setTop (mkF m 99 #[.val (.int l0)] [(.int l0)])) _
      refine XS.sipush X.here hx rfl (hb hby d1_99) ?_
      show Steps p.tables e below (T.setTop (mkF m 102 #[.val (.int l0)] [(.int (11264 : Int32)), (.int l0)])) _
      exact k
    by_cases c102_9 : l0 < (11264 : Int32)
    · refine own_Go.mono (T' := T) (f' := (mkF m 112 #[.val (.int l0)] [])) (fun t k => ?_) ?_
      · show Steps p.tables e below (T.setTop (mkF m 102 #[.val (.int l0)] [(.int (11264 : Int32)), (.int l0)])) _
        refine XS.icmpYes X.here hx rfl (pc0 := 102) (pc' := 112) rfl (hb hby d1_102) rfl (tlt c102_9).1 (by decide) (by decide) ?_
        show Steps p.tables e below (T.setTop (mkF m 112 #[.val (.int l0)] [])) _
        exact k
      exact b_112 l0 X N eT (by rw [← hv]; unfold B1_98; rw [if_pos c102_9]; first | done | rfl)
    · refine own_Go.mono (T' := T) (f' := (mkF m 109 #[.val (.int l0)] [(.int (12271 : Int32)), (.int l0)])) (fun t k => ?_) ?_
      · show Steps p.tables e below (T.setTop (mkF m 102 #[.val (.int l0)] [(.int (11264 : Int32)), (.int l0)])) _
        refine XS.icmpNo X.here hx rfl (hb hby d1_102) rfl (flt c102_9).1 ?_
        show Steps p.tables e below (T.setTop (mkF m 105 #[.val (.int l0)] [])) _
        refine XS.iloadN X.here hx rfl (hb hby d1_105) rfl ?_
        show Steps p.tables e below (T.setTop (mkF m 106 #[.val (.int l0)] [(.int l0)])) _
        refine XS.sipush X.here hx rfl (hb hby d1_106) ?_
        show Steps p.tables e below (T.setTop (mkF m 109 #[.val (.int l0)] [(.int (12271 : Int32)), (.int l0)])) _
        exact k
      by_cases c109_10 : (12271 : Int32) < l0
      · refine own_Go.mono (T' := T) (f' := (mkF m 112 #[.val (.int l0)] [])) (fun t k => ?_) ?_
        · show Steps p.tables e below (T.setTop (mkF m 109 #[.val (.int l0)] [(.int (12271 : Int32)), (.int l0)])) _
          refine XS.icmpNo X.here hx rfl (hb hby d1_109) rfl (tlt c109_10).2.2.2 ?_
          show Steps p.tables e below (T.setTop (mkF m 112 #[.val (.int l0)] [])) _
          exact k
        exact b_112 l0 X N eT (by rw [← hv]; unfold B1_98; rw [if_neg c102_9]; rw [if_pos c109_10]; first | done | rfl)
      · refine own_Go.mono (T' := T) (f' := (mkF m 161 #[.val (.int l0)] [])) (fun t k => ?_) ?_
        · show Steps p.tables e below (T.setTop (mkF m 109 #[.val (.int l0)] [(.int (12271 : Int32)), (.int l0)])) _
          refine XS.icmpYes X.here hx rfl (pc0 := 109) (pc' := 161) rfl (hb hby d1_109) rfl (flt c109_10).2.2.2 (by decide) (by decide) ?_
          show Steps p.tables e below (T.setTop (mkF m 161 #[.val (.int l0)] [])) _
          exact k
        exact b_161 l0 X N eT (by rw [← hv]; unfold B1_98; rw [if_neg c102_9]; rw [if_neg c109_10]; first | done | rfl)
  have b_84 : ∀ {T : State} {locs : List Loc} (l0 : Int32) (X : Stand p l e ({ frames := 0, cells := 0, slots := 0, locals := 0 } : Room) s m #[(.int p0)] below meth c T locs 0 0) (N : Fr n0 locs) (eT : T.heap = h0) (hv : B1_84 l0 = (B1_0 p0)), own_Go p e below T (mkF m 84 #[.val (.int l0)] []) (own_K s below (Q1 Z p0 h0 n0) 0 0) := by
    intro T locs l0 X N eT hv
    refine own_Go.mono (T' := T) (f' := (mkF m 88 #[.val (.int l0)] [(.int (8304 : Int32)), (.int l0)])) (fun t k => ?_) ?_
    · show Steps p.tables e below (T.setTop (mkF m 84 #[.val (.int l0)] [])) _
      refine XS.iloadN X.here hx rfl (hb hby d1_84) rfl ?_
      show Steps p.tables e below (T.setTop (mkF m 85 #[.val (.int l0)] [(.int l0)])) _
      refine XS.sipush X.here hx rfl (hb hby d1_85) ?_
      show Steps p.tables e below (T.setTop (mkF m 88 #[.val (.int l0)] [(.int (8304 : Int32)), (.int l0)])) _
      exact k
    by_cases c88_11 : l0 < (8304 : Int32)
    · refine own_Go.mono (T' := T) (f' := (mkF m 98 #[.val (.int l0)] [])) (fun t k => ?_) ?_
      · show Steps p.tables e below (T.setTop (mkF m 88 #[.val (.int l0)] [(.int (8304 : Int32)), (.int l0)])) _
        refine XS.icmpYes X.here hx rfl (pc0 := 88) (pc' := 98) rfl (hb hby d1_88) rfl (tlt c88_11).1 (by decide) (by decide) ?_
        show Steps p.tables e below (T.setTop (mkF m 98 #[.val (.int l0)] [])) _
        exact k
      exact b_98 l0 X N eT (by rw [← hv]; unfold B1_84; rw [if_pos c88_11]; first | done | rfl)
    · refine own_Go.mono (T' := T) (f' := (mkF m 95 #[.val (.int l0)] [(.int (8591 : Int32)), (.int l0)])) (fun t k => ?_) ?_
      · show Steps p.tables e below (T.setTop (mkF m 88 #[.val (.int l0)] [(.int (8304 : Int32)), (.int l0)])) _
        refine XS.icmpNo X.here hx rfl (hb hby d1_88) rfl (flt c88_11).1 ?_
        show Steps p.tables e below (T.setTop (mkF m 91 #[.val (.int l0)] [])) _
        refine XS.iloadN X.here hx rfl (hb hby d1_91) rfl ?_
        show Steps p.tables e below (T.setTop (mkF m 92 #[.val (.int l0)] [(.int l0)])) _
        refine XS.sipush X.here hx rfl (hb hby d1_92) ?_
        show Steps p.tables e below (T.setTop (mkF m 95 #[.val (.int l0)] [(.int (8591 : Int32)), (.int l0)])) _
        exact k
      by_cases c95_12 : (8591 : Int32) < l0
      · refine own_Go.mono (T' := T) (f' := (mkF m 98 #[.val (.int l0)] [])) (fun t k => ?_) ?_
        · show Steps p.tables e below (T.setTop (mkF m 95 #[.val (.int l0)] [(.int (8591 : Int32)), (.int l0)])) _
          refine XS.icmpNo X.here hx rfl (hb hby d1_95) rfl (tlt c95_12).2.2.2 ?_
          show Steps p.tables e below (T.setTop (mkF m 98 #[.val (.int l0)] [])) _
          exact k
        exact b_98 l0 X N eT (by rw [← hv]; unfold B1_84; rw [if_neg c88_11]; rw [if_pos c95_12]; first | done | rfl)
      · refine own_Go.mono (T' := T) (f' := (mkF m 161 #[.val (.int l0)] [])) (fun t k => ?_) ?_
        · show Steps p.tables e below (T.setTop (mkF m 95 #[.val (.int l0)] [(.int (8591 : Int32)), (.int l0)])) _
          refine XS.icmpYes X.here hx rfl (pc0 := 95) (pc' := 161) rfl (hb hby d1_95) rfl (flt c95_12).2.2.2 (by decide) (by decide) ?_
          show Steps p.tables e below (T.setTop (mkF m 161 #[.val (.int l0)] [])) _
          exact k
        exact b_161 l0 X N eT (by rw [← hv]; unfold B1_84; rw [if_neg c88_11]; rw [if_neg c95_12]; first | done | rfl)
  have b_70 : ∀ {T : State} {locs : List Loc} (l0 : Int32) (X : Stand p l e ({ frames := 0, cells := 0, slots := 0, locals := 0 } : Room) s m #[(.int p0)] below meth c T locs 0 0) (N : Fr n0 locs) (eT : T.heap = h0) (hv : B1_70 l0 = (B1_0 p0)), own_Go p e below T (mkF m 70 #[.val (.int l0)] []) (own_K s below (Q1 Z p0 h0 n0) 0 0) := by
    intro T locs l0 X N eT hv
    refine own_Go.mono (T' := T) (f' := (mkF m 74 #[.val (.int l0)] [(.int (8204 : Int32)), (.int l0)])) (fun t k => ?_) ?_
    · show Steps p.tables e below (T.setTop (mkF m 70 #[.val (.int l0)] [])) _
      refine XS.iloadN X.here hx rfl (hb hby d1_70) rfl ?_
      show Steps p.tables e below (T.setTop (mkF m 71 #[.val (.int l0)] [(.int l0)])) _
      refine XS.sipush X.here hx rfl (hb hby d1_71) ?_
      show Steps p.tables e below (T.setTop (mkF m 74 #[.val (.int l0)] [(.int (8204 : Int32)), (.int l0)])) _
      exact k
    by_cases c74_13 : l0 < (8204 : Int32)
    · refine own_Go.mono (T' := T) (f' := (mkF m 84 #[.val (.int l0)] [])) (fun t k => ?_) ?_
      · show Steps p.tables e below (T.setTop (mkF m 74 #[.val (.int l0)] [(.int (8204 : Int32)), (.int l0)])) _
        refine XS.icmpYes X.here hx rfl (pc0 := 74) (pc' := 84) rfl (hb hby d1_74) rfl (tlt c74_13).1 (by decide) (by decide) ?_
        show Steps p.tables e below (T.setTop (mkF m 84 #[.val (.int l0)] [])) _
        exact k
      exact b_84 l0 X N eT (by rw [← hv]; unfold B1_70; rw [if_pos c74_13]; first | done | rfl)
    · refine own_Go.mono (T' := T) (f' := (mkF m 81 #[.val (.int l0)] [(.int (8205 : Int32)), (.int l0)])) (fun t k => ?_) ?_
      · show Steps p.tables e below (T.setTop (mkF m 74 #[.val (.int l0)] [(.int (8204 : Int32)), (.int l0)])) _
        refine XS.icmpNo X.here hx rfl (hb hby d1_74) rfl (flt c74_13).1 ?_
        show Steps p.tables e below (T.setTop (mkF m 77 #[.val (.int l0)] [])) _
        refine XS.iloadN X.here hx rfl (hb hby d1_77) rfl ?_
        show Steps p.tables e below (T.setTop (mkF m 78 #[.val (.int l0)] [(.int l0)])) _
        refine XS.sipush X.here hx rfl (hb hby d1_78) ?_
        show Steps p.tables e below (T.setTop (mkF m 81 #[.val (.int l0)] [(.int (8205 : Int32)), (.int l0)])) _
        exact k
      by_cases c81_14 : (8205 : Int32) < l0
      · refine own_Go.mono (T' := T) (f' := (mkF m 84 #[.val (.int l0)] [])) (fun t k => ?_) ?_
        · show Steps p.tables e below (T.setTop (mkF m 81 #[.val (.int l0)] [(.int (8205 : Int32)), (.int l0)])) _
          refine XS.icmpNo X.here hx rfl (hb hby d1_81) rfl (tlt c81_14).2.2.2 ?_
          show Steps p.tables e below (T.setTop (mkF m 84 #[.val (.int l0)] [])) _
          exact k
        exact b_84 l0 X N eT (by rw [← hv]; unfold B1_70; rw [if_neg c74_13]; rw [if_pos c81_14]; first | done | rfl)
      · refine own_Go.mono (T' := T) (f' := (mkF m 161 #[.val (.int l0)] [])) (fun t k => ?_) ?_
        · show Steps p.tables e below (T.setTop (mkF m 81 #[.val (.int l0)] [(.int (8205 : Int32)), (.int l0)])) _
          refine XS.icmpYes X.here hx rfl (pc0 := 81) (pc' := 161) rfl (hb hby d1_81) rfl (flt c81_14).2.2.2 (by decide) (by decide) ?_
          show Steps p.tables e below (T.setTop (mkF m 161 #[.val (.int l0)] [])) _
          exact k
        exact b_161 l0 X N eT (by rw [← hv]; unfold B1_70; rw [if_neg c74_13]; rw [if_neg c81_14]; first | done | rfl)
  have b_56 : ∀ {T : State} {locs : List Loc} (l0 : Int32) (X : Stand p l e ({ frames := 0, cells := 0, slots := 0, locals := 0 } : Room) s m #[(.int p0)] below meth c T locs 0 0) (N : Fr n0 locs) (eT : T.heap = h0) (hv : B1_56 l0 = (B1_0 p0)), own_Go p e below T (mkF m 56 #[.val (.int l0)] []) (own_K s below (Q1 Z p0 h0 n0) 0 0) := by
    intro T locs l0 X N eT hv
    refine own_Go.mono (T' := T) (f' := (mkF m 60 #[.val (.int l0)] [(.int (895 : Int32)), (.int l0)])) (fun t k => ?_) ?_
    · show Steps p.tables e below (T.setTop (mkF m 56 #[.val (.int l0)] [])) _
      refine XS.iloadN X.here hx rfl (hb hby d1_56) rfl ?_
      show Steps p.tables e below (T.setTop (mkF m 57 #[.val (.int l0)] [(.int l0)])) _
      refine XS.sipush X.here hx rfl (hb hby d1_57) ?_
      show Steps p.tables e below (T.setTop (mkF m 60 #[.val (.int l0)] [(.int (895 : Int32)), (.int l0)])) _
      exact k
    by_cases c60_15 : l0 < (895 : Int32)
    · refine own_Go.mono (T' := T) (f' := (mkF m 70 #[.val (.int l0)] [])) (fun t k => ?_) ?_
      · show Steps p.tables e below (T.setTop (mkF m 60 #[.val (.int l0)] [(.int (895 : Int32)), (.int l0)])) _
        refine XS.icmpYes X.here hx rfl (pc0 := 60) (pc' := 70) rfl (hb hby d1_60) rfl (tlt c60_15).1 (by decide) (by decide) ?_
        show Steps p.tables e below (T.setTop (mkF m 70 #[.val (.int l0)] [])) _
        exact k
      exact b_70 l0 X N eT (by rw [← hv]; unfold B1_56; rw [if_pos c60_15]; first | done | rfl)
    · refine own_Go.mono (T' := T) (f' := (mkF m 67 #[.val (.int l0)] [(.int (8191 : Int32)), (.int l0)])) (fun t k => ?_) ?_
      · show Steps p.tables e below (T.setTop (mkF m 60 #[.val (.int l0)] [(.int (895 : Int32)), (.int l0)])) _
        refine XS.icmpNo X.here hx rfl (hb hby d1_60) rfl (flt c60_15).1 ?_
        show Steps p.tables e below (T.setTop (mkF m 63 #[.val (.int l0)] [])) _
        refine XS.iloadN X.here hx rfl (hb hby d1_63) rfl ?_
        show Steps p.tables e below (T.setTop (mkF m 64 #[.val (.int l0)] [(.int l0)])) _
        refine XS.sipush X.here hx rfl (hb hby d1_64) ?_
        show Steps p.tables e below (T.setTop (mkF m 67 #[.val (.int l0)] [(.int (8191 : Int32)), (.int l0)])) _
        exact k
      by_cases c67_16 : (8191 : Int32) < l0
      · refine own_Go.mono (T' := T) (f' := (mkF m 70 #[.val (.int l0)] [])) (fun t k => ?_) ?_
        · show Steps p.tables e below (T.setTop (mkF m 67 #[.val (.int l0)] [(.int (8191 : Int32)), (.int l0)])) _
          refine XS.icmpNo X.here hx rfl (hb hby d1_67) rfl (tlt c67_16).2.2.2 ?_
          show Steps p.tables e below (T.setTop (mkF m 70 #[.val (.int l0)] [])) _
          exact k
        exact b_70 l0 X N eT (by rw [← hv]; unfold B1_56; rw [if_neg c60_15]; rw [if_pos c67_16]; first | done | rfl)
      · refine own_Go.mono (T' := T) (f' := (mkF m 161 #[.val (.int l0)] [])) (fun t k => ?_) ?_
        · show Steps p.tables e below (T.setTop (mkF m 67 #[.val (.int l0)] [(.int (8191 : Int32)), (.int l0)])) _
          refine XS.icmpYes X.here hx rfl (pc0 := 67) (pc' := 161) rfl (hb hby d1_67) rfl (flt c67_16).2.2.2 (by decide) (by decide) ?_
          show Steps p.tables e below (T.setTop (mkF m 161 #[.val (.int l0)] [])) _
          exact k
        exact b_161 l0 X N eT (by rw [← hv]; unfold B1_56; rw [if_neg c60_15]; rw [if_neg c67_16]; first | done | rfl)
  have b_42 : ∀ {T : State} {locs : List Loc} (l0 : Int32) (X : Stand p l e ({ frames := 0, cells := 0, slots := 0, locals := 0 } : Room) s m #[(.int p0)] below meth c T locs 0 0) (N : Fr n0 locs) (eT : T.heap = h0) (hv : B1_42 l0 = (B1_0 p0)), own_Go p e below T (mkF m 42 #[.val (.int l0)] []) (own_K s below (Q1 Z p0 h0 n0) 0 0) := by
    intro T locs l0 X N eT hv
    refine own_Go.mono (T' := T) (f' := (mkF m 46 #[.val (.int l0)] [(.int (880 : Int32)), (.int l0)])) (fun t k => ?_) ?_
    · show Steps p.tables e below (T.setTop (mkF m 42 #[.val (.int l0)] [])) _
      refine XS.iloadN X.here hx rfl (hb hby d1_42) rfl ?_
      show Steps p.tables e below (T.setTop (mkF m 43 #[.val (.int l0)] [(.int l0)])) _
      refine XS.sipush X.here hx rfl (hb hby d1_43) ?_
      show Steps p.tables e below (T.setTop (mkF m 46 #[.val (.int l0)] [(.int (880 : Int32)), (.int l0)])) _
      exact k
    by_cases c46_17 : l0 < (880 : Int32)
    · refine own_Go.mono (T' := T) (f' := (mkF m 56 #[.val (.int l0)] [])) (fun t k => ?_) ?_
      · show Steps p.tables e below (T.setTop (mkF m 46 #[.val (.int l0)] [(.int (880 : Int32)), (.int l0)])) _
        refine XS.icmpYes X.here hx rfl (pc0 := 46) (pc' := 56) rfl (hb hby d1_46) rfl (tlt c46_17).1 (by decide) (by decide) ?_
        show Steps p.tables e below (T.setTop (mkF m 56 #[.val (.int l0)] [])) _
        exact k
      exact b_56 l0 X N eT (by rw [← hv]; unfold B1_42; rw [if_pos c46_17]; first | done | rfl)
    · refine own_Go.mono (T' := T) (f' := (mkF m 53 #[.val (.int l0)] [(.int (893 : Int32)), (.int l0)])) (fun t k => ?_) ?_
      · show Steps p.tables e below (T.setTop (mkF m 46 #[.val (.int l0)] [(.int (880 : Int32)), (.int l0)])) _
        refine XS.icmpNo X.here hx rfl (hb hby d1_46) rfl (flt c46_17).1 ?_
        show Steps p.tables e below (T.setTop (mkF m 49 #[.val (.int l0)] [])) _
        refine XS.iloadN X.here hx rfl (hb hby d1_49) rfl ?_
        show Steps p.tables e below (T.setTop (mkF m 50 #[.val (.int l0)] [(.int l0)])) _
        refine XS.sipush X.here hx rfl (hb hby d1_50) ?_
        show Steps p.tables e below (T.setTop (mkF m 53 #[.val (.int l0)] [(.int (893 : Int32)), (.int l0)])) _
        exact k
      by_cases c53_18 : (893 : Int32) < l0
      · refine own_Go.mono (T' := T) (f' := (mkF m 56 #[.val (.int l0)] [])) (fun t k => ?_) ?_
        · show Steps p.tables e below (T.setTop (mkF m 53 #[.val (.int l0)] [(.int (893 : Int32)), (.int l0)])) _
          refine XS.icmpNo X.here hx rfl (hb hby d1_53) rfl (tlt c53_18).2.2.2 ?_
          show Steps p.tables e below (T.setTop (mkF m 56 #[.val (.int l0)] [])) _
          exact k
        exact b_56 l0 X N eT (by rw [← hv]; unfold B1_42; rw [if_neg c46_17]; rw [if_pos c53_18]; first | done | rfl)
      · refine own_Go.mono (T' := T) (f' := (mkF m 161 #[.val (.int l0)] [])) (fun t k => ?_) ?_
        · show Steps p.tables e below (T.setTop (mkF m 53 #[.val (.int l0)] [(.int (893 : Int32)), (.int l0)])) _
          refine XS.icmpYes X.here hx rfl (pc0 := 53) (pc' := 161) rfl (hb hby d1_53) rfl (flt c53_18).2.2.2 (by decide) (by decide) ?_
          show Steps p.tables e below (T.setTop (mkF m 161 #[.val (.int l0)] [])) _
          exact k
        exact b_161 l0 X N eT (by rw [← hv]; unfold B1_42; rw [if_neg c46_17]; rw [if_neg c53_18]; first | done | rfl)
  have b_28 : ∀ {T : State} {locs : List Loc} (l0 : Int32) (X : Stand p l e ({ frames := 0, cells := 0, slots := 0, locals := 0 } : Room) s m #[(.int p0)] below meth c T locs 0 0) (N : Fr n0 locs) (eT : T.heap = h0) (hv : B1_28 l0 = (B1_0 p0)), own_Go p e below T (mkF m 28 #[.val (.int l0)] []) (own_K s below (Q1 Z p0 h0 n0) 0 0) := by
    intro T locs l0 X N eT hv
    refine own_Go.mono (T' := T) (f' := (mkF m 32 #[.val (.int l0)] [(.int (248 : Int32)), (.int l0)])) (fun t k => ?_) ?_
    · show Steps p.tables e below (T.setTop (mkF m 28 #[.val (.int l0)] [])) _
      refine XS.iloadN X.here hx rfl (hb hby d1_28) rfl ?_
      show Steps p.tables e below (T.setTop (mkF m 29 #[.val (.int l0)] [(.int l0)])) _
      refine XS.sipush X.here hx rfl (hb hby d1_29) ?_
      show Steps p.tables e below (T.setTop (mkF m 32 #[.val (.int l0)] [(.int (248 : Int32)), (.int l0)])) _
      exact k
    by_cases c32_19 : l0 < (248 : Int32)
    · refine own_Go.mono (T' := T) (f' := (mkF m 42 #[.val (.int l0)] [])) (fun t k => ?_) ?_
      · show Steps p.tables e below (T.setTop (mkF m 32 #[.val (.int l0)] [(.int (248 : Int32)), (.int l0)])) _
        refine XS.icmpYes X.here hx rfl (pc0 := 32) (pc' := 42) rfl (hb hby d1_32) rfl (tlt c32_19).1 (by decide) (by decide) ?_
        show Steps p.tables e below (T.setTop (mkF m 42 #[.val (.int l0)] [])) _
        exact k
      exact b_42 l0 X N eT (by rw [← hv]; unfold B1_28; rw [if_pos c32_19]; first | done | rfl)
    · refine own_Go.mono (T' := T) (f' := (mkF m 39 #[.val (.int l0)] [(.int (767 : Int32)), (.int l0)])) (fun t k => ?_) ?_
      · show Steps p.tables e below (T.setTop (mkF m 32 #[.val (.int l0)] [(.int (248 : Int32)), (.int l0)])) _
        refine XS.icmpNo X.here hx rfl (hb hby d1_32) rfl (flt c32_19).1 ?_
        show Steps p.tables e below (T.setTop (mkF m 35 #[.val (.int l0)] [])) _
        refine XS.iloadN X.here hx rfl (hb hby d1_35) rfl ?_
        show Steps p.tables e below (T.setTop (mkF m 36 #[.val (.int l0)] [(.int l0)])) _
        refine XS.sipush X.here hx rfl (hb hby d1_36) ?_
        show Steps p.tables e below (T.setTop (mkF m 39 #[.val (.int l0)] [(.int (767 : Int32)), (.int l0)])) _
        exact k
      by_cases c39_20 : (767 : Int32) < l0
      · refine own_Go.mono (T' := T) (f' := (mkF m 42 #[.val (.int l0)] [])) (fun t k => ?_) ?_
        · show Steps p.tables e below (T.setTop (mkF m 39 #[.val (.int l0)] [(.int (767 : Int32)), (.int l0)])) _
          refine XS.icmpNo X.here hx rfl (hb hby d1_39) rfl (tlt c39_20).2.2.2 ?_
          show Steps p.tables e below (T.setTop (mkF m 42 #[.val (.int l0)] [])) _
          exact k
        exact b_42 l0 X N eT (by rw [← hv]; unfold B1_28; rw [if_neg c32_19]; rw [if_pos c39_20]; first | done | rfl)
      · refine own_Go.mono (T' := T) (f' := (mkF m 161 #[.val (.int l0)] [])) (fun t k => ?_) ?_
        · show Steps p.tables e below (T.setTop (mkF m 39 #[.val (.int l0)] [(.int (767 : Int32)), (.int l0)])) _
          refine XS.icmpYes X.here hx rfl (pc0 := 39) (pc' := 161) rfl (hb hby d1_39) rfl (flt c39_20).2.2.2 (by decide) (by decide) ?_
          show Steps p.tables e below (T.setTop (mkF m 161 #[.val (.int l0)] [])) _
          exact k
        exact b_161 l0 X N eT (by rw [← hv]; unfold B1_28; rw [if_neg c32_19]; rw [if_neg c39_20]; first | done | rfl)
  have b_14 : ∀ {T : State} {locs : List Loc} (l0 : Int32) (X : Stand p l e ({ frames := 0, cells := 0, slots := 0, locals := 0 } : Room) s m #[(.int p0)] below meth c T locs 0 0) (N : Fr n0 locs) (eT : T.heap = h0) (hv : B1_14 l0 = (B1_0 p0)), own_Go p e below T (mkF m 14 #[.val (.int l0)] []) (own_K s below (Q1 Z p0 h0 n0) 0 0) := by
    intro T locs l0 X N eT hv
    refine own_Go.mono (T' := T) (f' := (mkF m 18 #[.val (.int l0)] [(.int (216 : Int32)), (.int l0)])) (fun t k => ?_) ?_
    · show Steps p.tables e below (T.setTop (mkF m 14 #[.val (.int l0)] [])) _
      refine XS.iloadN X.here hx rfl (hb hby d1_14) rfl ?_
      show Steps p.tables e below (T.setTop (mkF m 15 #[.val (.int l0)] [(.int l0)])) _
      refine XS.sipush X.here hx rfl (hb hby d1_15) ?_
      show Steps p.tables e below (T.setTop (mkF m 18 #[.val (.int l0)] [(.int (216 : Int32)), (.int l0)])) _
      exact k
    by_cases c18_21 : l0 < (216 : Int32)
    · refine own_Go.mono (T' := T) (f' := (mkF m 28 #[.val (.int l0)] [])) (fun t k => ?_) ?_
      · show Steps p.tables e below (T.setTop (mkF m 18 #[.val (.int l0)] [(.int (216 : Int32)), (.int l0)])) _
        refine XS.icmpYes X.here hx rfl (pc0 := 18) (pc' := 28) rfl (hb hby d1_18) rfl (tlt c18_21).1 (by decide) (by decide) ?_
        show Steps p.tables e below (T.setTop (mkF m 28 #[.val (.int l0)] [])) _
        exact k
      exact b_28 l0 X N eT (by rw [← hv]; unfold B1_14; rw [if_pos c18_21]; first | done | rfl)
    · refine own_Go.mono (T' := T) (f' := (mkF m 25 #[.val (.int l0)] [(.int (246 : Int32)), (.int l0)])) (fun t k => ?_) ?_
      · show Steps p.tables e below (T.setTop (mkF m 18 #[.val (.int l0)] [(.int (216 : Int32)), (.int l0)])) _
        refine XS.icmpNo X.here hx rfl (hb hby d1_18) rfl (flt c18_21).1 ?_
        show Steps p.tables e below (T.setTop (mkF m 21 #[.val (.int l0)] [])) _
        refine XS.iloadN X.here hx rfl (hb hby d1_21) rfl ?_
        show Steps p.tables e below (T.setTop (mkF m 22 #[.val (.int l0)] [(.int l0)])) _
        refine XS.sipush X.here hx rfl (hb hby d1_22) ?_
        show Steps p.tables e below (T.setTop (mkF m 25 #[.val (.int l0)] [(.int (246 : Int32)), (.int l0)])) _
        exact k
      by_cases c25_22 : (246 : Int32) < l0
      · refine own_Go.mono (T' := T) (f' := (mkF m 28 #[.val (.int l0)] [])) (fun t k => ?_) ?_
        · show Steps p.tables e below (T.setTop (mkF m 25 #[.val (.int l0)] [(.int (246 : Int32)), (.int l0)])) _
          refine XS.icmpNo X.here hx rfl (hb hby d1_25) rfl (tlt c25_22).2.2.2 ?_
          show Steps p.tables e below (T.setTop (mkF m 28 #[.val (.int l0)] [])) _
          exact k
        exact b_28 l0 X N eT (by rw [← hv]; unfold B1_14; rw [if_neg c18_21]; rw [if_pos c25_22]; first | done | rfl)
      · refine own_Go.mono (T' := T) (f' := (mkF m 161 #[.val (.int l0)] [])) (fun t k => ?_) ?_
        · show Steps p.tables e below (T.setTop (mkF m 25 #[.val (.int l0)] [(.int (246 : Int32)), (.int l0)])) _
          refine XS.icmpYes X.here hx rfl (pc0 := 25) (pc' := 161) rfl (hb hby d1_25) rfl (flt c25_22).2.2.2 (by decide) (by decide) ?_
          show Steps p.tables e below (T.setTop (mkF m 161 #[.val (.int l0)] [])) _
          exact k
        exact b_161 l0 X N eT (by rw [← hv]; unfold B1_14; rw [if_neg c18_21]; rw [if_neg c25_22]; first | done | rfl)
  have hv : (B1_0 p0) = (B1_0 p0) := rfl
  refine own_Go.mono (T' := s₁) (f' := (mkF m 4 #[.val (.int p0)] [(.int (192 : Int32)), (.int p0)])) (fun t k => ?_) ?_
  · show Steps p.tables e below (s₁.setTop (mkF m 0 #[.val (.int p0)] [])) _
    refine XS.iloadN X0.here hx rfl (hb hby d1_0) rfl ?_
    show Steps p.tables e below (s₁.setTop (mkF m 1 #[.val (.int p0)] [(.int p0)])) _
    refine XS.sipush X0.here hx rfl (hb hby d1_1) ?_
    show Steps p.tables e below (s₁.setTop (mkF m 4 #[.val (.int p0)] [(.int (192 : Int32)), (.int p0)])) _
    exact k
  by_cases c4_23 : p0 < (192 : Int32)
  · refine own_Go.mono (T' := s₁) (f' := (mkF m 14 #[.val (.int p0)] [])) (fun t k => ?_) ?_
    · show Steps p.tables e below (s₁.setTop (mkF m 4 #[.val (.int p0)] [(.int (192 : Int32)), (.int p0)])) _
      refine XS.icmpYes X0.here hx rfl (pc0 := 4) (pc' := 14) rfl (hb hby d1_4) rfl (tlt c4_23).1 (by decide) (by decide) ?_
      show Steps p.tables e below (s₁.setTop (mkF m 14 #[.val (.int p0)] [])) _
      exact k
    exact b_14 p0 X0 N0 e0 (by rw [← hv]; unfold B1_0; rw [if_pos c4_23]; first | done | rfl)
  · refine own_Go.mono (T' := s₁) (f' := (mkF m 11 #[.val (.int p0)] [(.int (214 : Int32)), (.int p0)])) (fun t k => ?_) ?_
    · show Steps p.tables e below (s₁.setTop (mkF m 4 #[.val (.int p0)] [(.int (192 : Int32)), (.int p0)])) _
      refine XS.icmpNo X0.here hx rfl (hb hby d1_4) rfl (flt c4_23).1 ?_
      show Steps p.tables e below (s₁.setTop (mkF m 7 #[.val (.int p0)] [])) _
      refine XS.iloadN X0.here hx rfl (hb hby d1_7) rfl ?_
      show Steps p.tables e below (s₁.setTop (mkF m 8 #[.val (.int p0)] [(.int p0)])) _
      refine XS.sipush X0.here hx rfl (hb hby d1_8) ?_
      show Steps p.tables e below (s₁.setTop (mkF m 11 #[.val (.int p0)] [(.int (214 : Int32)), (.int p0)])) _
      exact k
    by_cases c11_24 : (214 : Int32) < p0
    · refine own_Go.mono (T' := s₁) (f' := (mkF m 14 #[.val (.int p0)] [])) (fun t k => ?_) ?_
      · show Steps p.tables e below (s₁.setTop (mkF m 11 #[.val (.int p0)] [(.int (214 : Int32)), (.int p0)])) _
        refine XS.icmpNo X0.here hx rfl (hb hby d1_11) rfl (tlt c11_24).2.2.2 ?_
        show Steps p.tables e below (s₁.setTop (mkF m 14 #[.val (.int p0)] [])) _
        exact k
      exact b_14 p0 X0 N0 e0 (by rw [← hv]; unfold B1_0; rw [if_neg c4_23]; rw [if_pos c11_24]; first | done | rfl)
    · refine own_Go.mono (T' := s₁) (f' := (mkF m 161 #[.val (.int p0)] [])) (fun t k => ?_) ?_
      · show Steps p.tables e below (s₁.setTop (mkF m 11 #[.val (.int p0)] [(.int (214 : Int32)), (.int p0)])) _
        refine XS.icmpYes X0.here hx rfl (pc0 := 11) (pc' := 161) rfl (hb hby d1_11) rfl (flt c11_24).2.2.2 (by decide) (by decide) ?_
        show Steps p.tables e below (s₁.setTop (mkF m 161 #[.val (.int p0)] [])) _
        exact k
      exact b_161 p0 X0 N0 e0 (by rw [← hv]; unfold B1_0; rw [if_neg c4_23]; rw [if_neg c11_24]; first | done | rfl)
theorem d2_0 : decode method_2_code 0 = .ok (.iload_n 0, 1) := by decide +kernel
theorem d2_1 : decode method_2_code 1 = .ok (.sipush 192, 3) := by decide +kernel
theorem d2_4 : decode method_2_code 4 = .ok (.if_icmp .lt 9, 3) := by decide +kernel
theorem d2_7 : decode method_2_code 7 = .ok (.iload_n 0, 1) := by decide +kernel
theorem d2_8 : decode method_2_code 8 = .ok (.ldc 7, 2) := by decide +kernel
theorem d2_10 : decode method_2_code 10 = .ok (.if_icmp .le 5, 3) := by decide +kernel
theorem d2_13 : decode method_2_code 13 = .ok (.iconst 0, 1) := by decide +kernel
theorem d2_14 : decode method_2_code 14 = .ok (.ireturn, 1) := by decide +kernel
theorem d2_15 : decode method_2_code 15 = .ok (.iload_n 0, 1) := by decide +kernel
theorem d2_16 : decode method_2_code 16 = .ok (.sipush 215, 3) := by decide +kernel
theorem d2_19 : decode method_2_code 19 = .ok (.if_icmp .eq 17, 3) := by decide +kernel
theorem d2_22 : decode method_2_code 22 = .ok (.iload_n 0, 1) := by decide +kernel
theorem d2_23 : decode method_2_code 23 = .ok (.sipush 247, 3) := by decide +kernel
theorem d2_26 : decode method_2_code 26 = .ok (.if_icmp .eq 10, 3) := by decide +kernel
theorem d2_29 : decode method_2_code 29 = .ok (.iload_n 0, 1) := by decide +kernel
theorem d2_30 : decode method_2_code 30 = .ok (.sipush 894, 3) := by decide +kernel
theorem d2_33 : decode method_2_code 33 = .ok (.if_icmp .ne 5, 3) := by decide +kernel
theorem d2_36 : decode method_2_code 36 = .ok (.iconst 0, 1) := by decide +kernel
theorem d2_37 : decode method_2_code 37 = .ok (.ireturn, 1) := by decide +kernel
theorem d2_38 : decode method_2_code 38 = .ok (.iload_n 0, 1) := by decide +kernel
theorem d2_39 : decode method_2_code 39 = .ok (.sipush 768, 3) := by decide +kernel
theorem d2_42 : decode method_2_code 42 = .ok (.if_icmp .lt 12, 3) := by decide +kernel
theorem d2_45 : decode method_2_code 45 = .ok (.iload_n 0, 1) := by decide +kernel
theorem d2_46 : decode method_2_code 46 = .ok (.sipush 879, 3) := by decide +kernel
theorem d2_49 : decode method_2_code 49 = .ok (.if_icmp .gt 5, 3) := by decide +kernel
theorem d2_52 : decode method_2_code 52 = .ok (.iconst 0, 1) := by decide +kernel
theorem d2_53 : decode method_2_code 53 = .ok (.ireturn, 1) := by decide +kernel
theorem d2_54 : decode method_2_code 54 = .ok (.iload_n 0, 1) := by decide +kernel
theorem d2_55 : decode method_2_code 55 = .ok (.sipush 8192, 3) := by decide +kernel
theorem d2_58 : decode method_2_code 58 = .ok (.if_icmp .lt 12, 3) := by decide +kernel
theorem d2_61 : decode method_2_code 61 = .ok (.iload_n 0, 1) := by decide +kernel
theorem d2_62 : decode method_2_code 62 = .ok (.sipush 8203, 3) := by decide +kernel
theorem d2_65 : decode method_2_code 65 = .ok (.if_icmp .gt 5, 3) := by decide +kernel
theorem d2_68 : decode method_2_code 68 = .ok (.iconst 0, 1) := by decide +kernel
theorem d2_69 : decode method_2_code 69 = .ok (.ireturn, 1) := by decide +kernel
theorem d2_70 : decode method_2_code 70 = .ok (.iload_n 0, 1) := by decide +kernel
theorem d2_71 : decode method_2_code 71 = .ok (.sipush 8206, 3) := by decide +kernel
theorem d2_74 : decode method_2_code 74 = .ok (.if_icmp .lt 12, 3) := by decide +kernel
theorem d2_77 : decode method_2_code 77 = .ok (.iload_n 0, 1) := by decide +kernel
theorem d2_78 : decode method_2_code 78 = .ok (.sipush 8303, 3) := by decide +kernel
theorem d2_81 : decode method_2_code 81 = .ok (.if_icmp .gt 5, 3) := by decide +kernel
theorem d2_84 : decode method_2_code 84 = .ok (.iconst 0, 1) := by decide +kernel
theorem d2_85 : decode method_2_code 85 = .ok (.ireturn, 1) := by decide +kernel
theorem d2_86 : decode method_2_code 86 = .ok (.iload_n 0, 1) := by decide +kernel
theorem d2_87 : decode method_2_code 87 = .ok (.sipush 8592, 3) := by decide +kernel
theorem d2_90 : decode method_2_code 90 = .ok (.if_icmp .lt 12, 3) := by decide +kernel
theorem d2_93 : decode method_2_code 93 = .ok (.iload_n 0, 1) := by decide +kernel
theorem d2_94 : decode method_2_code 94 = .ok (.sipush 11263, 3) := by decide +kernel
theorem d2_97 : decode method_2_code 97 = .ok (.if_icmp .gt 5, 3) := by decide +kernel
theorem d2_100 : decode method_2_code 100 = .ok (.iconst 0, 1) := by decide +kernel
theorem d2_101 : decode method_2_code 101 = .ok (.ireturn, 1) := by decide +kernel
theorem d2_102 : decode method_2_code 102 = .ok (.iload_n 0, 1) := by decide +kernel
theorem d2_103 : decode method_2_code 103 = .ok (.sipush 12272, 3) := by decide +kernel
theorem d2_106 : decode method_2_code 106 = .ok (.if_icmp .lt 12, 3) := by decide +kernel
theorem d2_109 : decode method_2_code 109 = .ok (.iload_n 0, 1) := by decide +kernel
theorem d2_110 : decode method_2_code 110 = .ok (.sipush 12288, 3) := by decide +kernel
theorem d2_113 : decode method_2_code 113 = .ok (.if_icmp .gt 5, 3) := by decide +kernel
theorem d2_116 : decode method_2_code 116 = .ok (.iconst 0, 1) := by decide +kernel
theorem d2_117 : decode method_2_code 117 = .ok (.ireturn, 1) := by decide +kernel
theorem d2_118 : decode method_2_code 118 = .ok (.iload_n 0, 1) := by decide +kernel
theorem d2_119 : decode method_2_code 119 = .ok (.ldc 8, 2) := by decide +kernel
theorem d2_121 : decode method_2_code 121 = .ok (.if_icmp .lt 11, 3) := by decide +kernel
theorem d2_124 : decode method_2_code 124 = .ok (.iload_n 0, 1) := by decide +kernel
theorem d2_125 : decode method_2_code 125 = .ok (.ldc 9, 2) := by decide +kernel
theorem d2_127 : decode method_2_code 127 = .ok (.if_icmp .gt 5, 3) := by decide +kernel
theorem d2_130 : decode method_2_code 130 = .ok (.iconst 0, 1) := by decide +kernel
theorem d2_131 : decode method_2_code 131 = .ok (.ireturn, 1) := by decide +kernel
theorem d2_132 : decode method_2_code 132 = .ok (.iload_n 0, 1) := by decide +kernel
theorem d2_133 : decode method_2_code 133 = .ok (.ldc 10, 2) := by decide +kernel
theorem d2_135 : decode method_2_code 135 = .ok (.if_icmp .lt 11, 3) := by decide +kernel
theorem d2_138 : decode method_2_code 138 = .ok (.iload_n 0, 1) := by decide +kernel
theorem d2_139 : decode method_2_code 139 = .ok (.ldc 11, 2) := by decide +kernel
theorem d2_141 : decode method_2_code 141 = .ok (.if_icmp .gt 5, 3) := by decide +kernel
theorem d2_144 : decode method_2_code 144 = .ok (.iconst 0, 1) := by decide +kernel
theorem d2_145 : decode method_2_code 145 = .ok (.ireturn, 1) := by decide +kernel
theorem d2_146 : decode method_2_code 146 = .ok (.iload_n 0, 1) := by decide +kernel
theorem d2_147 : decode method_2_code 147 = .ok (.ldc 12, 2) := by decide +kernel
theorem d2_149 : decode method_2_code 149 = .ok (.if_icmp .lt 11, 3) := by decide +kernel
theorem d2_152 : decode method_2_code 152 = .ok (.iload_n 0, 1) := by decide +kernel
theorem d2_153 : decode method_2_code 153 = .ok (.ldc 13, 2) := by decide +kernel
theorem d2_155 : decode method_2_code 155 = .ok (.if_icmp .gt 5, 3) := by decide +kernel
theorem d2_158 : decode method_2_code 158 = .ok (.iconst 0, 1) := by decide +kernel
theorem d2_159 : decode method_2_code 159 = .ok (.ireturn, 1) := by decide +kernel
theorem d2_160 : decode method_2_code 160 = .ok (.iconst 1, 1) := by decide +kernel
theorem d2_161 : decode method_2_code 161 = .ok (.ireturn, 1) := by decide +kernel
def B2_160 (l0 : Int32) : Int32 := (1 : Int32)
def B2_146 (l0 : Int32) : Int32 := (if l0 < (65534 : Int32) then B2_160 l0 else (if (65535 : Int32) < l0 then B2_160 l0 else (0 : Int32)))
def B2_132 (l0 : Int32) : Int32 := (if l0 < (64976 : Int32) then B2_146 l0 else (if (65007 : Int32) < l0 then B2_146 l0 else (0 : Int32)))
def B2_118 (l0 : Int32) : Int32 := (if l0 < (55296 : Int32) then B2_132 l0 else (if (63743 : Int32) < l0 then B2_132 l0 else (0 : Int32)))
def B2_102 (l0 : Int32) : Int32 := (if l0 < (12272 : Int32) then B2_118 l0 else (if (12288 : Int32) < l0 then B2_118 l0 else (0 : Int32)))
def B2_86 (l0 : Int32) : Int32 := (if l0 < (8592 : Int32) then B2_102 l0 else (if (11263 : Int32) < l0 then B2_102 l0 else (0 : Int32)))
def B2_70 (l0 : Int32) : Int32 := (if l0 < (8206 : Int32) then B2_86 l0 else (if (8303 : Int32) < l0 then B2_86 l0 else (0 : Int32)))
def B2_54 (l0 : Int32) : Int32 := (if l0 < (8192 : Int32) then B2_70 l0 else (if (8203 : Int32) < l0 then B2_70 l0 else (0 : Int32)))
def B2_38 (l0 : Int32) : Int32 := (if l0 < (768 : Int32) then B2_54 l0 else (if (879 : Int32) < l0 then B2_54 l0 else (0 : Int32)))
def B2_36 (l0 : Int32) : Int32 := (0 : Int32)
def B2_15 (l0 : Int32) : Int32 := (if l0 = (215 : Int32) then B2_36 l0 else (if l0 = (247 : Int32) then B2_36 l0 else (if l0 = (894 : Int32) then B2_36 l0 else B2_38 l0)))
def B2_0 (p0 : Int32) : Int32 := (if p0 < (192 : Int32) then (0 : Int32) else (if (983039 : Int32) < p0 then (0 : Int32) else B2_15 p0))
theorem ef_rm2 (m : MethodId) (x0 : Int32) : entryFrame m #[(.int x0)] 1 = mkF m 0 #[.val (.int x0)] [] := by first | (simp [entryFrame, mkF, argsToLocals, Value.category]; done) | rfl
def Q2 (Z : State) (p0 : Int32)  (h0 : Heap) (n0 : Nat) (v : Option Value) (h : Heap) (L : List Loc) : Prop := v = some (.int (B2_0 p0)) ∧ Fr n0 L ∧ h = h0
set_option maxRecDepth 65536 in
set_option maxHeartbeats 40000000 in
theorem rm2 (l : Launch) (Z : State) (a0 : Array Value) (hw : ∀ d ∈ tables_1, d.before a0 Z = true) (ws : List Jvm.Cond) (p0 : Int32)  (h0 : Heap) (n0 : Nat) (Z0 : n0 ≤ h0.size)  :
    MetFree l (⟨"com/example/vetted_path/vettedpath/NameCharactersIsFifthEditionNameStartPinLaw", "ref", "(I)Z"⟩ : MethodName) (head1 (Jvm.Cond.code (⟨"com/example/vetted_path/vettedpath/NameCharactersIsFifthEditionNameStartPinLaw", "ref", "(I)Z"⟩ : MethodName) method_2_code 1 (some .boolean) :: ws) ({ frames := 0, cells := 0, slots := 0, locals := 0 } : Room)) (fun a U => a = #[(.int p0)] ∧ Z.Warmed39 U.vm ∧ U.heap = h0) (fun _ _ _ _ _ => True) (fun _ U o U' => ∃ v L, o = .returned v ∧ Q2 Z p0  h0 n0 v U'.heap L ∧ FrameEnd U o U' L 0 0) := by
  refine own_body (Qv := Q2 Z p0  h0 n0) (plainFor_of_name (by first | (simp [plainName, overriddenIn]; done) | decide +kernel)) ?_
  intro p e s m below meth c s₁ hx hby hml hret hlk hown hnm hZ X0 e0
  replace hown : s.vm.findClass "com/example/vetted_path/vettedpath/NameCharactersIsFifthEditionNameStartPinLaw" = some m.cls := hown
  replace hnm : meth.name = "ref" := hnm
  have N0 := Fr.nil n0
  refine own_Go.mono (T' := s₁) (f' := (mkF m 0 #[.val (.int p0)] [])) (fun t k => castTop (ef_rm2 m p0) k) ?_
  have b_160 : ∀ {T : State} {locs : List Loc} (l0 : Int32) (X : Stand p l e ({ frames := 0, cells := 0, slots := 0, locals := 0 } : Room) s m #[(.int p0)] below meth c T locs 0 0) (N : Fr n0 locs) (eT : T.heap = h0) (hv : B2_160 l0 = (B2_0 p0)), own_Go p e below T (mkF m 160 #[.val (.int l0)] []) (own_K s below (Q2 Z p0 h0 n0) 0 0) := by
    intro T locs l0 X N eT hv
    refine own_Go.mono (T' := T) (f' := (mkF m 161 #[.val (.int l0)] [(.int (1 : Int32))])) (fun t k => ?_) ?_
    · show Steps p.tables e below (T.setTop (mkF m 160 #[.val (.int l0)] [])) _
      refine XS.iconst X.here hx rfl (hb hby d2_160) ?_
      show Steps p.tables e below (T.setTop (mkF m 161 #[.val (.int l0)] [(.int (1 : Int32))])) _
      exact k
    exact own_retN X hx (t := .boolean) hret (by simp) hlk (hb hby d2_161) (⟨congrArg some (congrArg Value.int (by rw [← hv]; unfold B2_160; first | done | rfl)), N, eT⟩) (by decide) (by decide)
  have b_146 : ∀ {T : State} {locs : List Loc} (l0 : Int32) (X : Stand p l e ({ frames := 0, cells := 0, slots := 0, locals := 0 } : Room) s m #[(.int p0)] below meth c T locs 0 0) (N : Fr n0 locs) (eT : T.heap = h0) (hv : B2_146 l0 = (B2_0 p0)), own_Go p e below T (mkF m 146 #[.val (.int l0)] []) (own_K s below (Q2 Z p0 h0 n0) 0 0) := by
    intro T locs l0 X N eT hv
    refine own_Go.mono (T' := T) (f' := (mkF m 149 #[.val (.int l0)] [(.int (65534 : Int32)), (.int l0)])) (fun t k => ?_) ?_
    · show Steps p.tables e below (T.setTop (mkF m 146 #[.val (.int l0)] [])) _
      refine XS.iloadN X.here hx rfl (hb hby d2_146) rfl ?_
      show Steps p.tables e below (T.setTop (mkF m 147 #[.val (.int l0)] [(.int l0)])) _
      refine X.ldcInt hx hown (mvT hZ (hw _ (List.mem_of_getElem? (i := 22) rfl))) (g := (mkF m 147 #[.val (.int l0)] [(.int l0)])) rfl (hb hby d2_147) _ ?_
      show Steps p.tables e below (T.setTop (mkF m 149 #[.val (.int l0)] [(.int (65534 : Int32)), (.int l0)])) _
      exact k
    by_cases c149_25 : l0 < (65534 : Int32)
    · refine own_Go.mono (T' := T) (f' := (mkF m 160 #[.val (.int l0)] [])) (fun t k => ?_) ?_
      · show Steps p.tables e below (T.setTop (mkF m 149 #[.val (.int l0)] [(.int (65534 : Int32)), (.int l0)])) _
        refine XS.icmpYes X.here hx rfl (pc0 := 149) (pc' := 160) rfl (hb hby d2_149) rfl (tlt c149_25).1 (by decide) (by decide) ?_
        show Steps p.tables e below (T.setTop (mkF m 160 #[.val (.int l0)] [])) _
        exact k
      exact b_160 l0 X N eT (by rw [← hv]; unfold B2_146; rw [if_pos c149_25]; first | done | rfl)
    · refine own_Go.mono (T' := T) (f' := (mkF m 155 #[.val (.int l0)] [(.int (65535 : Int32)), (.int l0)])) (fun t k => ?_) ?_
      · show Steps p.tables e below (T.setTop (mkF m 149 #[.val (.int l0)] [(.int (65534 : Int32)), (.int l0)])) _
        refine XS.icmpNo X.here hx rfl (hb hby d2_149) rfl (flt c149_25).1 ?_
        show Steps p.tables e below (T.setTop (mkF m 152 #[.val (.int l0)] [])) _
        refine XS.iloadN X.here hx rfl (hb hby d2_152) rfl ?_
        show Steps p.tables e below (T.setTop (mkF m 153 #[.val (.int l0)] [(.int l0)])) _
        refine X.ldcInt hx hown (mvT hZ (hw _ (List.mem_of_getElem? (i := 29) rfl))) (g := (mkF m 153 #[.val (.int l0)] [(.int l0)])) rfl (hb hby d2_153) _ ?_
        show Steps p.tables e below (T.setTop (mkF m 155 #[.val (.int l0)] [(.int (65535 : Int32)), (.int l0)])) _
        exact k
      by_cases c155_26 : (65535 : Int32) < l0
      · refine own_Go.mono (T' := T) (f' := (mkF m 160 #[.val (.int l0)] [])) (fun t k => ?_) ?_
        · show Steps p.tables e below (T.setTop (mkF m 155 #[.val (.int l0)] [(.int (65535 : Int32)), (.int l0)])) _
          refine XS.icmpYes X.here hx rfl (pc0 := 155) (pc' := 160) rfl (hb hby d2_155) rfl (tlt c155_26).2.2.1 (by decide) (by decide) ?_
          show Steps p.tables e below (T.setTop (mkF m 160 #[.val (.int l0)] [])) _
          exact k
        exact b_160 l0 X N eT (by rw [← hv]; unfold B2_146; rw [if_neg c149_25]; rw [if_pos c155_26]; first | done | rfl)
      · refine own_Go.mono (T' := T) (f' := (mkF m 159 #[.val (.int l0)] [(.int (0 : Int32))])) (fun t k => ?_) ?_
        · show Steps p.tables e below (T.setTop (mkF m 155 #[.val (.int l0)] [(.int (65535 : Int32)), (.int l0)])) _
          refine XS.icmpNo X.here hx rfl (hb hby d2_155) rfl (flt c155_26).2.2.1 ?_
          show Steps p.tables e below (T.setTop (mkF m 158 #[.val (.int l0)] [])) _
          refine XS.iconst X.here hx rfl (hb hby d2_158) ?_
          show Steps p.tables e below (T.setTop (mkF m 159 #[.val (.int l0)] [(.int (0 : Int32))])) _
          exact k
        exact own_retN X hx (t := .boolean) hret (by simp) hlk (hb hby d2_159) (⟨congrArg some (congrArg Value.int (by rw [← hv]; unfold B2_146; rw [if_neg c149_25]; rw [if_neg c155_26]; first | done | rfl)), N, eT⟩) (by decide) (by decide)
  have b_132 : ∀ {T : State} {locs : List Loc} (l0 : Int32) (X : Stand p l e ({ frames := 0, cells := 0, slots := 0, locals := 0 } : Room) s m #[(.int p0)] below meth c T locs 0 0) (N : Fr n0 locs) (eT : T.heap = h0) (hv : B2_132 l0 = (B2_0 p0)), own_Go p e below T (mkF m 132 #[.val (.int l0)] []) (own_K s below (Q2 Z p0 h0 n0) 0 0) := by
    intro T locs l0 X N eT hv
    refine own_Go.mono (T' := T) (f' := (mkF m 135 #[.val (.int l0)] [(.int (64976 : Int32)), (.int l0)])) (fun t k => ?_) ?_
    · show Steps p.tables e below (T.setTop (mkF m 132 #[.val (.int l0)] [])) _
      refine XS.iloadN X.here hx rfl (hb hby d2_132) rfl ?_
      show Steps p.tables e below (T.setTop (mkF m 133 #[.val (.int l0)] [(.int l0)])) _
      refine X.ldcInt hx hown (mvT hZ (hw _ (List.mem_of_getElem? (i := 21) rfl))) (g := (mkF m 133 #[.val (.int l0)] [(.int l0)])) rfl (hb hby d2_133) _ ?_
      show Steps p.tables e below (T.setTop (mkF m 135 #[.val (.int l0)] [(.int (64976 : Int32)), (.int l0)])) _
      exact k
    by_cases c135_27 : l0 < (64976 : Int32)
    · refine own_Go.mono (T' := T) (f' := (mkF m 146 #[.val (.int l0)] [])) (fun t k => ?_) ?_
      · show Steps p.tables e below (T.setTop (mkF m 135 #[.val (.int l0)] [(.int (64976 : Int32)), (.int l0)])) _
        refine XS.icmpYes X.here hx rfl (pc0 := 135) (pc' := 146) rfl (hb hby d2_135) rfl (tlt c135_27).1 (by decide) (by decide) ?_
        show Steps p.tables e below (T.setTop (mkF m 146 #[.val (.int l0)] [])) _
        exact k
      exact b_146 l0 X N eT (by rw [← hv]; unfold B2_132; rw [if_pos c135_27]; first | done | rfl)
    · refine own_Go.mono (T' := T) (f' := (mkF m 141 #[.val (.int l0)] [(.int (65007 : Int32)), (.int l0)])) (fun t k => ?_) ?_
      · show Steps p.tables e below (T.setTop (mkF m 135 #[.val (.int l0)] [(.int (64976 : Int32)), (.int l0)])) _
        refine XS.icmpNo X.here hx rfl (hb hby d2_135) rfl (flt c135_27).1 ?_
        show Steps p.tables e below (T.setTop (mkF m 138 #[.val (.int l0)] [])) _
        refine XS.iloadN X.here hx rfl (hb hby d2_138) rfl ?_
        show Steps p.tables e below (T.setTop (mkF m 139 #[.val (.int l0)] [(.int l0)])) _
        refine X.ldcInt hx hown (mvT hZ (hw _ (List.mem_of_getElem? (i := 28) rfl))) (g := (mkF m 139 #[.val (.int l0)] [(.int l0)])) rfl (hb hby d2_139) _ ?_
        show Steps p.tables e below (T.setTop (mkF m 141 #[.val (.int l0)] [(.int (65007 : Int32)), (.int l0)])) _
        exact k
      by_cases c141_28 : (65007 : Int32) < l0
      · refine own_Go.mono (T' := T) (f' := (mkF m 146 #[.val (.int l0)] [])) (fun t k => ?_) ?_
        · show Steps p.tables e below (T.setTop (mkF m 141 #[.val (.int l0)] [(.int (65007 : Int32)), (.int l0)])) _
          refine XS.icmpYes X.here hx rfl (pc0 := 141) (pc' := 146) rfl (hb hby d2_141) rfl (tlt c141_28).2.2.1 (by decide) (by decide) ?_
          show Steps p.tables e below (T.setTop (mkF m 146 #[.val (.int l0)] [])) _
          exact k
        exact b_146 l0 X N eT (by rw [← hv]; unfold B2_132; rw [if_neg c135_27]; rw [if_pos c141_28]; first | done | rfl)
      · refine own_Go.mono (T' := T) (f' := (mkF m 145 #[.val (.int l0)] [(.int (0 : Int32))])) (fun t k => ?_) ?_
        · show Steps p.tables e below (T.setTop (mkF m 141 #[.val (.int l0)] [(.int (65007 : Int32)), (.int l0)])) _
          refine XS.icmpNo X.here hx rfl (hb hby d2_141) rfl (flt c141_28).2.2.1 ?_
          show Steps p.tables e below (T.setTop (mkF m 144 #[.val (.int l0)] [])) _
          refine XS.iconst X.here hx rfl (hb hby d2_144) ?_
          show Steps p.tables e below (T.setTop (mkF m 145 #[.val (.int l0)] [(.int (0 : Int32))])) _
          exact k
        exact own_retN X hx (t := .boolean) hret (by simp) hlk (hb hby d2_145) (⟨congrArg some (congrArg Value.int (by rw [← hv]; unfold B2_132; rw [if_neg c135_27]; rw [if_neg c141_28]; first | done | rfl)), N, eT⟩) (by decide) (by decide)
  have b_118 : ∀ {T : State} {locs : List Loc} (l0 : Int32) (X : Stand p l e ({ frames := 0, cells := 0, slots := 0, locals := 0 } : Room) s m #[(.int p0)] below meth c T locs 0 0) (N : Fr n0 locs) (eT : T.heap = h0) (hv : B2_118 l0 = (B2_0 p0)), own_Go p e below T (mkF m 118 #[.val (.int l0)] []) (own_K s below (Q2 Z p0 h0 n0) 0 0) := by
    intro T locs l0 X N eT hv
    refine own_Go.mono (T' := T) (f' := (mkF m 121 #[.val (.int l0)] [(.int (55296 : Int32)), (.int l0)])) (fun t k => ?_) ?_
    · show Steps p.tables e below (T.setTop (mkF m 118 #[.val (.int l0)] [])) _
      refine XS.iloadN X.here hx rfl (hb hby d2_118) rfl ?_
      show Steps p.tables e below (T.setTop (mkF m 119 #[.val (.int l0)] [(.int l0)])) _
      refine X.ldcInt hx hown (mvT hZ (hw _ (List.mem_of_getElem? (i := 20) rfl))) (g := (mkF m 119 #[.val (.int l0)] [(.int l0)])) rfl (hb hby d2_119) _ ?_
      show Steps p.tables e below (T.setTop (mkF m 121 #[.val (.int l0)] [(.int (55296 : Int32)), (.int l0)])) _
      exact k
    by_cases c121_29 : l0 < (55296 : Int32)
    · refine own_Go.mono (T' := T) (f' := (mkF m 132 #[.val (.int l0)] [])) (fun t k => ?_) ?_
      · show Steps p.tables e below (T.setTop (mkF m 121 #[.val (.int l0)] [(.int (55296 : Int32)), (.int l0)])) _
        refine XS.icmpYes X.here hx rfl (pc0 := 121) (pc' := 132) rfl (hb hby d2_121) rfl (tlt c121_29).1 (by decide) (by decide) ?_
        show Steps p.tables e below (T.setTop (mkF m 132 #[.val (.int l0)] [])) _
        exact k
      exact b_132 l0 X N eT (by rw [← hv]; unfold B2_118; rw [if_pos c121_29]; first | done | rfl)
    · refine own_Go.mono (T' := T) (f' := (mkF m 127 #[.val (.int l0)] [(.int (63743 : Int32)), (.int l0)])) (fun t k => ?_) ?_
      · show Steps p.tables e below (T.setTop (mkF m 121 #[.val (.int l0)] [(.int (55296 : Int32)), (.int l0)])) _
        refine XS.icmpNo X.here hx rfl (hb hby d2_121) rfl (flt c121_29).1 ?_
        show Steps p.tables e below (T.setTop (mkF m 124 #[.val (.int l0)] [])) _
        refine XS.iloadN X.here hx rfl (hb hby d2_124) rfl ?_
        show Steps p.tables e below (T.setTop (mkF m 125 #[.val (.int l0)] [(.int l0)])) _
        refine X.ldcInt hx hown (mvT hZ (hw _ (List.mem_of_getElem? (i := 27) rfl))) (g := (mkF m 125 #[.val (.int l0)] [(.int l0)])) rfl (hb hby d2_125) _ ?_
        show Steps p.tables e below (T.setTop (mkF m 127 #[.val (.int l0)] [(.int (63743 : Int32)), (.int l0)])) _
        exact k
      by_cases c127_30 : (63743 : Int32) < l0
      · refine own_Go.mono (T' := T) (f' := (mkF m 132 #[.val (.int l0)] [])) (fun t k => ?_) ?_
        · show Steps p.tables e below (T.setTop (mkF m 127 #[.val (.int l0)] [(.int (63743 : Int32)), (.int l0)])) _
          refine XS.icmpYes X.here hx rfl (pc0 := 127) (pc' := 132) rfl (hb hby d2_127) rfl (tlt c127_30).2.2.1 (by decide) (by decide) ?_
          show Steps p.tables e below (T.setTop (mkF m 132 #[.val (.int l0)] [])) _
          exact k
        exact b_132 l0 X N eT (by rw [← hv]; unfold B2_118; rw [if_neg c121_29]; rw [if_pos c127_30]; first | done | rfl)
      · refine own_Go.mono (T' := T) (f' := (mkF m 131 #[.val (.int l0)] [(.int (0 : Int32))])) (fun t k => ?_) ?_
        · show Steps p.tables e below (T.setTop (mkF m 127 #[.val (.int l0)] [(.int (63743 : Int32)), (.int l0)])) _
          refine XS.icmpNo X.here hx rfl (hb hby d2_127) rfl (flt c127_30).2.2.1 ?_
          show Steps p.tables e below (T.setTop (mkF m 130 #[.val (.int l0)] [])) _
          refine XS.iconst X.here hx rfl (hb hby d2_130) ?_
          show Steps p.tables e below (T.setTop (mkF m 131 #[.val (.int l0)] [(.int (0 : Int32))])) _
          exact k
        exact own_retN X hx (t := .boolean) hret (by simp) hlk (hb hby d2_131) (⟨congrArg some (congrArg Value.int (by rw [← hv]; unfold B2_118; rw [if_neg c121_29]; rw [if_neg c127_30]; first | done | rfl)), N, eT⟩) (by decide) (by decide)
  have b_102 : ∀ {T : State} {locs : List Loc} (l0 : Int32) (X : Stand p l e ({ frames := 0, cells := 0, slots := 0, locals := 0 } : Room) s m #[(.int p0)] below meth c T locs 0 0) (N : Fr n0 locs) (eT : T.heap = h0) (hv : B2_102 l0 = (B2_0 p0)), own_Go p e below T (mkF m 102 #[.val (.int l0)] []) (own_K s below (Q2 Z p0 h0 n0) 0 0) := by
    intro T locs l0 X N eT hv
    refine own_Go.mono (T' := T) (f' := (mkF m 106 #[.val (.int l0)] [(.int (12272 : Int32)), (.int l0)])) (fun t k => ?_) ?_
    · show Steps p.tables e below (T.setTop (mkF m 102 #[.val (.int l0)] [])) _
      refine XS.iloadN X.here hx rfl (hb hby d2_102) rfl ?_
      show Steps p.tables e below (T.setTop (mkF m 103 #[.val (.int l0)] [(.int l0)])) _
      refine XS.sipush X.here hx rfl (hb hby d2_103) ?_
      show Steps p.tables e below (T.setTop (mkF m 106 #[.val (.int l0)] [(.int (12272 : Int32)), (.int l0)])) _
      exact k
    by_cases c106_31 : l0 < (12272 : Int32)
    · refine own_Go.mono (T' := T) (f' := (mkF m 118 #[.val (.int l0)] [])) (fun t k => ?_) ?_
      · show Steps p.tables e below (T.setTop (mkF m 106 #[.val (.int l0)] [(.int (12272 : Int32)), (.int l0)])) _
        refine XS.icmpYes X.here hx rfl (pc0 := 106) (pc' := 118) rfl (hb hby d2_106) rfl (tlt c106_31).1 (by decide) (by decide) ?_
        show Steps p.tables e below (T.setTop (mkF m 118 #[.val (.int l0)] [])) _
        exact k
      exact b_118 l0 X N eT (by rw [← hv]; unfold B2_102; rw [if_pos c106_31]; first | done | rfl)
    · refine own_Go.mono (T' := T) (f' := (mkF m 113 #[.val (.int l0)] [(.int (12288 : Int32)), (.int l0)])) (fun t k => ?_) ?_
      · show Steps p.tables e below (T.setTop (mkF m 106 #[.val (.int l0)] [(.int (12272 : Int32)), (.int l0)])) _
        refine XS.icmpNo X.here hx rfl (hb hby d2_106) rfl (flt c106_31).1 ?_
        show Steps p.tables e below (T.setTop (mkF m 109 #[.val (.int l0)] [])) _
        refine XS.iloadN X.here hx rfl (hb hby d2_109) rfl ?_
        show Steps p.tables e below (T.setTop (mkF m 110 #[.val (.int l0)] [(.int l0)])) _
        refine XS.sipush X.here hx rfl (hb hby d2_110) ?_
        show Steps p.tables e below (T.setTop (mkF m 113 #[.val (.int l0)] [(.int (12288 : Int32)), (.int l0)])) _
        exact k
      by_cases c113_32 : (12288 : Int32) < l0
      · refine own_Go.mono (T' := T) (f' := (mkF m 118 #[.val (.int l0)] [])) (fun t k => ?_) ?_
        · show Steps p.tables e below (T.setTop (mkF m 113 #[.val (.int l0)] [(.int (12288 : Int32)), (.int l0)])) _
          refine XS.icmpYes X.here hx rfl (pc0 := 113) (pc' := 118) rfl (hb hby d2_113) rfl (tlt c113_32).2.2.1 (by decide) (by decide) ?_
          show Steps p.tables e below (T.setTop (mkF m 118 #[.val (.int l0)] [])) _
          exact k
        exact b_118 l0 X N eT (by rw [← hv]; unfold B2_102; rw [if_neg c106_31]; rw [if_pos c113_32]; first | done | rfl)
      · refine own_Go.mono (T' := T) (f' := (mkF m 117 #[.val (.int l0)] [(.int (0 : Int32))])) (fun t k => ?_) ?_
        · show Steps p.tables e below (T.setTop (mkF m 113 #[.val (.int l0)] [(.int (12288 : Int32)), (.int l0)])) _
          refine XS.icmpNo X.here hx rfl (hb hby d2_113) rfl (flt c113_32).2.2.1 ?_
          show Steps p.tables e below (T.setTop (mkF m 116 #[.val (.int l0)] [])) _
          refine XS.iconst X.here hx rfl (hb hby d2_116) ?_
          show Steps p.tables e below (T.setTop (mkF m 117 #[.val (.int l0)] [(.int (0 : Int32))])) _
          exact k
        exact own_retN X hx (t := .boolean) hret (by simp) hlk (hb hby d2_117) (⟨congrArg some (congrArg Value.int (by rw [← hv]; unfold B2_102; rw [if_neg c106_31]; rw [if_neg c113_32]; first | done | rfl)), N, eT⟩) (by decide) (by decide)
  have b_86 : ∀ {T : State} {locs : List Loc} (l0 : Int32) (X : Stand p l e ({ frames := 0, cells := 0, slots := 0, locals := 0 } : Room) s m #[(.int p0)] below meth c T locs 0 0) (N : Fr n0 locs) (eT : T.heap = h0) (hv : B2_86 l0 = (B2_0 p0)), own_Go p e below T (mkF m 86 #[.val (.int l0)] []) (own_K s below (Q2 Z p0 h0 n0) 0 0) := by
    intro T locs l0 X N eT hv
    refine own_Go.mono (T' := T) (f' := (mkF m 90 #[.val (.int l0)] [(.int (8592 : Int32)), (.int l0)])) (fun t k => ?_) ?_
    · show Steps p.tables e below (T.setTop (mkF m 86 #[.val (.int l0)] [])) _
      refine XS.iloadN X.here hx rfl (hb hby d2_86) rfl ?_
      show Steps p.tables e below (T.setTop (mkF m 87 #[.val (.int l0)] [(.int l0)])) _
      refine XS.sipush X.here hx rfl (hb hby d2_87) ?_
      show Steps p.tables e below (T.setTop (mkF m 90 #[.val (.int l0)] [(.int (8592 : Int32)), (.int l0)])) _
      exact k
    by_cases c90_33 : l0 < (8592 : Int32)
    · refine own_Go.mono (T' := T) (f' := (mkF m 102 #[.val (.int l0)] [])) (fun t k => ?_) ?_
      · show Steps p.tables e below (T.setTop (mkF m 90 #[.val (.int l0)] [(.int (8592 : Int32)), (.int l0)])) _
        refine XS.icmpYes X.here hx rfl (pc0 := 90) (pc' := 102) rfl (hb hby d2_90) rfl (tlt c90_33).1 (by decide) (by decide) ?_
        show Steps p.tables e below (T.setTop (mkF m 102 #[.val (.int l0)] [])) _
        exact k
      exact b_102 l0 X N eT (by rw [← hv]; unfold B2_86; rw [if_pos c90_33]; first | done | rfl)
    · refine own_Go.mono (T' := T) (f' := (mkF m 97 #[.val (.int l0)] [(.int (11263 : Int32)), (.int l0)])) (fun t k => ?_) ?_
      · show Steps p.tables e below (T.setTop (mkF m 90 #[.val (.int l0)] [(.int (8592 : Int32)), (.int l0)])) _
        refine XS.icmpNo X.here hx rfl (hb hby d2_90) rfl (flt c90_33).1 ?_
        show Steps p.tables e below (T.setTop (mkF m 93 #[.val (.int l0)] [])) _
        refine XS.iloadN X.here hx rfl (hb hby d2_93) rfl ?_
        show Steps p.tables e below (T.setTop (mkF m 94 #[.val (.int l0)] [(.int l0)])) _
        refine XS.sipush X.here hx rfl (hb hby d2_94) ?_
        show Steps p.tables e below (T.setTop (mkF m 97 #[.val (.int l0)] [(.int (11263 : Int32)), (.int l0)])) _
        exact k
      by_cases c97_34 : (11263 : Int32) < l0
      · refine own_Go.mono (T' := T) (f' := (mkF m 102 #[.val (.int l0)] [])) (fun t k => ?_) ?_
        · show Steps p.tables e below (T.setTop (mkF m 97 #[.val (.int l0)] [(.int (11263 : Int32)), (.int l0)])) _
          refine XS.icmpYes X.here hx rfl (pc0 := 97) (pc' := 102) rfl (hb hby d2_97) rfl (tlt c97_34).2.2.1 (by decide) (by decide) ?_
          show Steps p.tables e below (T.setTop (mkF m 102 #[.val (.int l0)] [])) _
          exact k
        exact b_102 l0 X N eT (by rw [← hv]; unfold B2_86; rw [if_neg c90_33]; rw [if_pos c97_34]; first | done | rfl)
      · refine own_Go.mono (T' := T) (f' := (mkF m 101 #[.val (.int l0)] [(.int (0 : Int32))])) (fun t k => ?_) ?_
        · show Steps p.tables e below (T.setTop (mkF m 97 #[.val (.int l0)] [(.int (11263 : Int32)), (.int l0)])) _
          refine XS.icmpNo X.here hx rfl (hb hby d2_97) rfl (flt c97_34).2.2.1 ?_
          show Steps p.tables e below (T.setTop (mkF m 100 #[.val (.int l0)] [])) _
          refine XS.iconst X.here hx rfl (hb hby d2_100) ?_
          show Steps p.tables e below (T.setTop (mkF m 101 #[.val (.int l0)] [(.int (0 : Int32))])) _
          exact k
        exact own_retN X hx (t := .boolean) hret (by simp) hlk (hb hby d2_101) (⟨congrArg some (congrArg Value.int (by rw [← hv]; unfold B2_86; rw [if_neg c90_33]; rw [if_neg c97_34]; first | done | rfl)), N, eT⟩) (by decide) (by decide)
  have b_70 : ∀ {T : State} {locs : List Loc} (l0 : Int32) (X : Stand p l e ({ frames := 0, cells := 0, slots := 0, locals := 0 } : Room) s m #[(.int p0)] below meth c T locs 0 0) (N : Fr n0 locs) (eT : T.heap = h0) (hv : B2_70 l0 = (B2_0 p0)), own_Go p e below T (mkF m 70 #[.val (.int l0)] []) (own_K s below (Q2 Z p0 h0 n0) 0 0) := by
    intro T locs l0 X N eT hv
    refine own_Go.mono (T' := T) (f' := (mkF m 74 #[.val (.int l0)] [(.int (8206 : Int32)), (.int l0)])) (fun t k => ?_) ?_
    · show Steps p.tables e below (T.setTop (mkF m 70 #[.val (.int l0)] [])) _
      refine XS.iloadN X.here hx rfl (hb hby d2_70) rfl ?_
      show Steps p.tables e below (T.setTop (mkF m 71 #[.val (.int l0)] [(.int l0)])) _
      refine XS.sipush X.here hx rfl (hb hby d2_71) ?_
      show Steps p.tables e below (T.setTop (mkF m 74 #[.val (.int l0)] [(.int (8206 : Int32)), (.int l0)])) _
      exact k
    by_cases c74_35 : l0 < (8206 : Int32)
    · refine own_Go.mono (T' := T) (f' := (mkF m 86 #[.val (.int l0)] [])) (fun t k => ?_) ?_
      · show Steps p.tables e below (T.setTop (mkF m 74 #[.val (.int l0)] [(.int (8206 : Int32)), (.int l0)])) _
        refine XS.icmpYes X.here hx rfl (pc0 := 74) (pc' := 86) rfl (hb hby d2_74) rfl (tlt c74_35).1 (by decide) (by decide) ?_
        show Steps p.tables e below (T.setTop (mkF m 86 #[.val (.int l0)] [])) _
        exact k
      exact b_86 l0 X N eT (by rw [← hv]; unfold B2_70; rw [if_pos c74_35]; first | done | rfl)
    · refine own_Go.mono (T' := T) (f' := (mkF m 81 #[.val (.int l0)] [(.int (8303 : Int32)), (.int l0)])) (fun t k => ?_) ?_
      · show Steps p.tables e below (T.setTop (mkF m 74 #[.val (.int l0)] [(.int (8206 : Int32)), (.int l0)])) _
        refine XS.icmpNo X.here hx rfl (hb hby d2_74) rfl (flt c74_35).1 ?_
        show Steps p.tables e below (T.setTop (mkF m 77 #[.val (.int l0)] [])) _
        refine XS.iloadN X.here hx rfl (hb hby d2_77) rfl ?_
        show Steps p.tables e below (T.setTop (mkF m 78 #[.val (.int l0)] [(.int l0)])) _
        refine XS.sipush X.here hx rfl (hb hby d2_78) ?_
        show Steps p.tables e below (T.setTop (mkF m 81 #[.val (.int l0)] [(.int (8303 : Int32)), (.int l0)])) _
        exact k
      by_cases c81_36 : (8303 : Int32) < l0
      · refine own_Go.mono (T' := T) (f' := (mkF m 86 #[.val (.int l0)] [])) (fun t k => ?_) ?_
        · show Steps p.tables e below (T.setTop (mkF m 81 #[.val (.int l0)] [(.int (8303 : Int32)), (.int l0)])) _
          refine XS.icmpYes X.here hx rfl (pc0 := 81) (pc' := 86) rfl (hb hby d2_81) rfl (tlt c81_36).2.2.1 (by decide) (by decide) ?_
          show Steps p.tables e below (T.setTop (mkF m 86 #[.val (.int l0)] [])) _
          exact k
        exact b_86 l0 X N eT (by rw [← hv]; unfold B2_70; rw [if_neg c74_35]; rw [if_pos c81_36]; first | done | rfl)
      · refine own_Go.mono (T' := T) (f' := (mkF m 85 #[.val (.int l0)] [(.int (0 : Int32))])) (fun t k => ?_) ?_
        · show Steps p.tables e below (T.setTop (mkF m 81 #[.val (.int l0)] [(.int (8303 : Int32)), (.int l0)])) _
          refine XS.icmpNo X.here hx rfl (hb hby d2_81) rfl (flt c81_36).2.2.1 ?_
          show Steps p.tables e below (T.setTop (mkF m 84 #[.val (.int l0)] [])) _
          refine XS.iconst X.here hx rfl (hb hby d2_84) ?_
          show Steps p.tables e below (T.setTop (mkF m 85 #[.val (.int l0)] [(.int (0 : Int32))])) _
          exact k
        exact own_retN X hx (t := .boolean) hret (by simp) hlk (hb hby d2_85) (⟨congrArg some (congrArg Value.int (by rw [← hv]; unfold B2_70; rw [if_neg c74_35]; rw [if_neg c81_36]; first | done | rfl)), N, eT⟩) (by decide) (by decide)
  have b_54 : ∀ {T : State} {locs : List Loc} (l0 : Int32) (X : Stand p l e ({ frames := 0, cells := 0, slots := 0, locals := 0 } : Room) s m #[(.int p0)] below meth c T locs 0 0) (N : Fr n0 locs) (eT : T.heap = h0) (hv : B2_54 l0 = (B2_0 p0)), own_Go p e below T (mkF m 54 #[.val (.int l0)] []) (own_K s below (Q2 Z p0 h0 n0) 0 0) := by
    intro T locs l0 X N eT hv
    refine own_Go.mono (T' := T) (f' := (mkF m 58 #[.val (.int l0)] [(.int (8192 : Int32)), (.int l0)])) (fun t k => ?_) ?_
    · show Steps p.tables e below (T.setTop (mkF m 54 #[.val (.int l0)] [])) _
      refine XS.iloadN X.here hx rfl (hb hby d2_54) rfl ?_
      show Steps p.tables e below (T.setTop (mkF m 55 #[.val (.int l0)] [(.int l0)])) _
      refine XS.sipush X.here hx rfl (hb hby d2_55) ?_
      show Steps p.tables e below (T.setTop (mkF m 58 #[.val (.int l0)] [(.int (8192 : Int32)), (.int l0)])) _
      exact k
    by_cases c58_37 : l0 < (8192 : Int32)
    · refine own_Go.mono (T' := T) (f' := (mkF m 70 #[.val (.int l0)] [])) (fun t k => ?_) ?_
      · show Steps p.tables e below (T.setTop (mkF m 58 #[.val (.int l0)] [(.int (8192 : Int32)), (.int l0)])) _
        refine XS.icmpYes X.here hx rfl (pc0 := 58) (pc' := 70) rfl (hb hby d2_58) rfl (tlt c58_37).1 (by decide) (by decide) ?_
        show Steps p.tables e below (T.setTop (mkF m 70 #[.val (.int l0)] [])) _
        exact k
      exact b_70 l0 X N eT (by rw [← hv]; unfold B2_54; rw [if_pos c58_37]; first | done | rfl)
    · refine own_Go.mono (T' := T) (f' := (mkF m 65 #[.val (.int l0)] [(.int (8203 : Int32)), (.int l0)])) (fun t k => ?_) ?_
      · show Steps p.tables e below (T.setTop (mkF m 58 #[.val (.int l0)] [(.int (8192 : Int32)), (.int l0)])) _
        refine XS.icmpNo X.here hx rfl (hb hby d2_58) rfl (flt c58_37).1 ?_
        show Steps p.tables e below (T.setTop (mkF m 61 #[.val (.int l0)] [])) _
        refine XS.iloadN X.here hx rfl (hb hby d2_61) rfl ?_
        show Steps p.tables e below (T.setTop (mkF m 62 #[.val (.int l0)] [(.int l0)])) _
        refine XS.sipush X.here hx rfl (hb hby d2_62) ?_
        show Steps p.tables e below (T.setTop (mkF m 65 #[.val (.int l0)] [(.int (8203 : Int32)), (.int l0)])) _
        exact k
      by_cases c65_38 : (8203 : Int32) < l0
      · refine own_Go.mono (T' := T) (f' := (mkF m 70 #[.val (.int l0)] [])) (fun t k => ?_) ?_
        · show Steps p.tables e below (T.setTop (mkF m 65 #[.val (.int l0)] [(.int (8203 : Int32)), (.int l0)])) _
          refine XS.icmpYes X.here hx rfl (pc0 := 65) (pc' := 70) rfl (hb hby d2_65) rfl (tlt c65_38).2.2.1 (by decide) (by decide) ?_
          show Steps p.tables e below (T.setTop (mkF m 70 #[.val (.int l0)] [])) _
          exact k
        exact b_70 l0 X N eT (by rw [← hv]; unfold B2_54; rw [if_neg c58_37]; rw [if_pos c65_38]; first | done | rfl)
      · refine own_Go.mono (T' := T) (f' := (mkF m 69 #[.val (.int l0)] [(.int (0 : Int32))])) (fun t k => ?_) ?_
        · show Steps p.tables e below (T.setTop (mkF m 65 #[.val (.int l0)] [(.int (8203 : Int32)), (.int l0)])) _
          refine XS.icmpNo X.here hx rfl (hb hby d2_65) rfl (flt c65_38).2.2.1 ?_
          show Steps p.tables e below (T.setTop (mkF m 68 #[.val (.int l0)] [])) _
          refine XS.iconst X.here hx rfl (hb hby d2_68) ?_
          show Steps p.tables e below (T.setTop (mkF m 69 #[.val (.int l0)] [(.int (0 : Int32))])) _
          exact k
        exact own_retN X hx (t := .boolean) hret (by simp) hlk (hb hby d2_69) (⟨congrArg some (congrArg Value.int (by rw [← hv]; unfold B2_54; rw [if_neg c58_37]; rw [if_neg c65_38]; first | done | rfl)), N, eT⟩) (by decide) (by decide)
  have b_38 : ∀ {T : State} {locs : List Loc} (l0 : Int32) (X : Stand p l e ({ frames := 0, cells := 0, slots := 0, locals := 0 } : Room) s m #[(.int p0)] below meth c T locs 0 0) (N : Fr n0 locs) (eT : T.heap = h0) (hv : B2_38 l0 = (B2_0 p0)), own_Go p e below T (mkF m 38 #[.val (.int l0)] []) (own_K s below (Q2 Z p0 h0 n0) 0 0) := by
    intro T locs l0 X N eT hv
    refine own_Go.mono (T' := T) (f' := (mkF m 42 #[.val (.int l0)] [(.int (768 : Int32)), (.int l0)])) (fun t k => ?_) ?_
    · show Steps p.tables e below (T.setTop (mkF m 38 #[.val (.int l0)] [])) _
      refine XS.iloadN X.here hx rfl (hb hby d2_38) rfl ?_
      show Steps p.tables e below (T.setTop (mkF m 39 #[.val (.int l0)] [(.int l0)])) _
      refine XS.sipush X.here hx rfl (hb hby d2_39) ?_
      show Steps p.tables e below (T.setTop (mkF m 42 #[.val (.int l0)] [(.int (768 : Int32)), (.int l0)])) _
      exact k
    by_cases c42_39 : l0 < (768 : Int32)
    · refine own_Go.mono (T' := T) (f' := (mkF m 54 #[.val (.int l0)] [])) (fun t k => ?_) ?_
      · show Steps p.tables e below (T.setTop (mkF m 42 #[.val (.int l0)] [(.int (768 : Int32)), (.int l0)])) _
        refine XS.icmpYes X.here hx rfl (pc0 := 42) (pc' := 54) rfl (hb hby d2_42) rfl (tlt c42_39).1 (by decide) (by decide) ?_
        show Steps p.tables e below (T.setTop (mkF m 54 #[.val (.int l0)] [])) _
        exact k
      exact b_54 l0 X N eT (by rw [← hv]; unfold B2_38; rw [if_pos c42_39]; first | done | rfl)
    · refine own_Go.mono (T' := T) (f' := (mkF m 49 #[.val (.int l0)] [(.int (879 : Int32)), (.int l0)])) (fun t k => ?_) ?_
      · show Steps p.tables e below (T.setTop (mkF m 42 #[.val (.int l0)] [(.int (768 : Int32)), (.int l0)])) _
        refine XS.icmpNo X.here hx rfl (hb hby d2_42) rfl (flt c42_39).1 ?_
        show Steps p.tables e below (T.setTop (mkF m 45 #[.val (.int l0)] [])) _
        refine XS.iloadN X.here hx rfl (hb hby d2_45) rfl ?_
        show Steps p.tables e below (T.setTop (mkF m 46 #[.val (.int l0)] [(.int l0)])) _
        refine XS.sipush X.here hx rfl (hb hby d2_46) ?_
        show Steps p.tables e below (T.setTop (mkF m 49 #[.val (.int l0)] [(.int (879 : Int32)), (.int l0)])) _
        exact k
      by_cases c49_40 : (879 : Int32) < l0
      · refine own_Go.mono (T' := T) (f' := (mkF m 54 #[.val (.int l0)] [])) (fun t k => ?_) ?_
        · show Steps p.tables e below (T.setTop (mkF m 49 #[.val (.int l0)] [(.int (879 : Int32)), (.int l0)])) _
          refine XS.icmpYes X.here hx rfl (pc0 := 49) (pc' := 54) rfl (hb hby d2_49) rfl (tlt c49_40).2.2.1 (by decide) (by decide) ?_
          show Steps p.tables e below (T.setTop (mkF m 54 #[.val (.int l0)] [])) _
          exact k
        exact b_54 l0 X N eT (by rw [← hv]; unfold B2_38; rw [if_neg c42_39]; rw [if_pos c49_40]; first | done | rfl)
      · refine own_Go.mono (T' := T) (f' := (mkF m 53 #[.val (.int l0)] [(.int (0 : Int32))])) (fun t k => ?_) ?_
        · show Steps p.tables e below (T.setTop (mkF m 49 #[.val (.int l0)] [(.int (879 : Int32)), (.int l0)])) _
          refine XS.icmpNo X.here hx rfl (hb hby d2_49) rfl (flt c49_40).2.2.1 ?_
          show Steps p.tables e below (T.setTop (mkF m 52 #[.val (.int l0)] [])) _
          refine XS.iconst X.here hx rfl (hb hby d2_52) ?_
          show Steps p.tables e below (T.setTop (mkF m 53 #[.val (.int l0)] [(.int (0 : Int32))])) _
          exact k
        exact own_retN X hx (t := .boolean) hret (by simp) hlk (hb hby d2_53) (⟨congrArg some (congrArg Value.int (by rw [← hv]; unfold B2_38; rw [if_neg c42_39]; rw [if_neg c49_40]; first | done | rfl)), N, eT⟩) (by decide) (by decide)
  have b_36 : ∀ {T : State} {locs : List Loc} (l0 : Int32) (X : Stand p l e ({ frames := 0, cells := 0, slots := 0, locals := 0 } : Room) s m #[(.int p0)] below meth c T locs 0 0) (N : Fr n0 locs) (eT : T.heap = h0) (hv : B2_36 l0 = (B2_0 p0)), own_Go p e below T (mkF m 36 #[.val (.int l0)] []) (own_K s below (Q2 Z p0 h0 n0) 0 0) := by
    intro T locs l0 X N eT hv
    refine own_Go.mono (T' := T) (f' := (mkF m 37 #[.val (.int l0)] [(.int (0 : Int32))])) (fun t k => ?_) ?_
    · show Steps p.tables e below (T.setTop (mkF m 36 #[.val (.int l0)] [])) _
      refine XS.iconst X.here hx rfl (hb hby d2_36) ?_
      show Steps p.tables e below (T.setTop (mkF m 37 #[.val (.int l0)] [(.int (0 : Int32))])) _
      exact k
    exact own_retN X hx (t := .boolean) hret (by simp) hlk (hb hby d2_37) (⟨congrArg some (congrArg Value.int (by rw [← hv]; unfold B2_36; first | done | rfl)), N, eT⟩) (by decide) (by decide)
  have b_15 : ∀ {T : State} {locs : List Loc} (l0 : Int32) (X : Stand p l e ({ frames := 0, cells := 0, slots := 0, locals := 0 } : Room) s m #[(.int p0)] below meth c T locs 0 0) (N : Fr n0 locs) (eT : T.heap = h0) (hv : B2_15 l0 = (B2_0 p0)), own_Go p e below T (mkF m 15 #[.val (.int l0)] []) (own_K s below (Q2 Z p0 h0 n0) 0 0) := by
    intro T locs l0 X N eT hv
    refine own_Go.mono (T' := T) (f' := (mkF m 19 #[.val (.int l0)] [(.int (215 : Int32)), (.int l0)])) (fun t k => ?_) ?_
    · show Steps p.tables e below (T.setTop (mkF m 15 #[.val (.int l0)] [])) _
      refine XS.iloadN X.here hx rfl (hb hby d2_15) rfl ?_
      show Steps p.tables e below (T.setTop (mkF m 16 #[.val (.int l0)] [(.int l0)])) _
      refine XS.sipush X.here hx rfl (hb hby d2_16) ?_
      show Steps p.tables e below (T.setTop (mkF m 19 #[.val (.int l0)] [(.int (215 : Int32)), (.int l0)])) _
      exact k
    by_cases c19_41 : l0 = (215 : Int32)
    · refine own_Go.mono (T' := T) (f' := (mkF m 36 #[.val (.int l0)] [])) (fun t k => ?_) ?_
      · show Steps p.tables e below (T.setTop (mkF m 19 #[.val (.int l0)] [(.int (215 : Int32)), (.int l0)])) _
        refine XS.icmpYes X.here hx rfl (pc0 := 19) (pc' := 36) rfl (hb hby d2_19) rfl (teq c19_41).1 (by decide) (by decide) ?_
        show Steps p.tables e below (T.setTop (mkF m 36 #[.val (.int l0)] [])) _
        exact k
      exact b_36 l0 X N eT (by rw [← hv]; unfold B2_15; rw [if_pos c19_41]; first | done | rfl)
    · refine own_Go.mono (T' := T) (f' := (mkF m 26 #[.val (.int l0)] [(.int (247 : Int32)), (.int l0)])) (fun t k => ?_) ?_
      · show Steps p.tables e below (T.setTop (mkF m 19 #[.val (.int l0)] [(.int (215 : Int32)), (.int l0)])) _
        refine XS.icmpNo X.here hx rfl (hb hby d2_19) rfl (feq c19_41).1 ?_
        show Steps p.tables e below (T.setTop (mkF m 22 #[.val (.int l0)] [])) _
        refine XS.iloadN X.here hx rfl (hb hby d2_22) rfl ?_
        show Steps p.tables e below (T.setTop (mkF m 23 #[.val (.int l0)] [(.int l0)])) _
        refine XS.sipush X.here hx rfl (hb hby d2_23) ?_
        show Steps p.tables e below (T.setTop (mkF m 26 #[.val (.int l0)] [(.int (247 : Int32)), (.int l0)])) _
        exact k
      by_cases c26_42 : l0 = (247 : Int32)
      · refine own_Go.mono (T' := T) (f' := (mkF m 36 #[.val (.int l0)] [])) (fun t k => ?_) ?_
        · show Steps p.tables e below (T.setTop (mkF m 26 #[.val (.int l0)] [(.int (247 : Int32)), (.int l0)])) _
          refine XS.icmpYes X.here hx rfl (pc0 := 26) (pc' := 36) rfl (hb hby d2_26) rfl (teq c26_42).1 (by decide) (by decide) ?_
          show Steps p.tables e below (T.setTop (mkF m 36 #[.val (.int l0)] [])) _
          exact k
        exact b_36 l0 X N eT (by rw [← hv]; unfold B2_15; rw [if_neg c19_41]; rw [if_pos c26_42]; first | done | rfl)
      · refine own_Go.mono (T' := T) (f' := (mkF m 33 #[.val (.int l0)] [(.int (894 : Int32)), (.int l0)])) (fun t k => ?_) ?_
        · show Steps p.tables e below (T.setTop (mkF m 26 #[.val (.int l0)] [(.int (247 : Int32)), (.int l0)])) _
          refine XS.icmpNo X.here hx rfl (hb hby d2_26) rfl (feq c26_42).1 ?_
          show Steps p.tables e below (T.setTop (mkF m 29 #[.val (.int l0)] [])) _
          refine XS.iloadN X.here hx rfl (hb hby d2_29) rfl ?_
          show Steps p.tables e below (T.setTop (mkF m 30 #[.val (.int l0)] [(.int l0)])) _
          refine XS.sipush X.here hx rfl (hb hby d2_30) ?_
          show Steps p.tables e below (T.setTop (mkF m 33 #[.val (.int l0)] [(.int (894 : Int32)), (.int l0)])) _
          exact k
        by_cases c33_43 : l0 = (894 : Int32)
        · refine own_Go.mono (T' := T) (f' := (mkF m 36 #[.val (.int l0)] [])) (fun t k => ?_) ?_
          · show Steps p.tables e below (T.setTop (mkF m 33 #[.val (.int l0)] [(.int (894 : Int32)), (.int l0)])) _
            refine XS.icmpNo X.here hx rfl (hb hby d2_33) rfl (teq c33_43).2 ?_
            show Steps p.tables e below (T.setTop (mkF m 36 #[.val (.int l0)] [])) _
            exact k
          exact b_36 l0 X N eT (by rw [← hv]; unfold B2_15; rw [if_neg c19_41]; rw [if_neg c26_42]; rw [if_pos c33_43]; first | done | rfl)
        · refine own_Go.mono (T' := T) (f' := (mkF m 38 #[.val (.int l0)] [])) (fun t k => ?_) ?_
          · show Steps p.tables e below (T.setTop (mkF m 33 #[.val (.int l0)] [(.int (894 : Int32)), (.int l0)])) _
            refine XS.icmpYes X.here hx rfl (pc0 := 33) (pc' := 38) rfl (hb hby d2_33) rfl (feq c33_43).2 (by decide) (by decide) ?_
            show Steps p.tables e below (T.setTop (mkF m 38 #[.val (.int l0)] [])) _
            exact k
          exact b_38 l0 X N eT (by rw [← hv]; unfold B2_15; rw [if_neg c19_41]; rw [if_neg c26_42]; rw [if_neg c33_43]; first | done | rfl)
  have hv : (B2_0 p0) = (B2_0 p0) := rfl
  refine own_Go.mono (T' := s₁) (f' := (mkF m 4 #[.val (.int p0)] [(.int (192 : Int32)), (.int p0)])) (fun t k => ?_) ?_
  · show Steps p.tables e below (s₁.setTop (mkF m 0 #[.val (.int p0)] [])) _
    refine XS.iloadN X0.here hx rfl (hb hby d2_0) rfl ?_
    show Steps p.tables e below (s₁.setTop (mkF m 1 #[.val (.int p0)] [(.int p0)])) _
    refine XS.sipush X0.here hx rfl (hb hby d2_1) ?_
    show Steps p.tables e below (s₁.setTop (mkF m 4 #[.val (.int p0)] [(.int (192 : Int32)), (.int p0)])) _
    exact k
  by_cases c4_44 : p0 < (192 : Int32)
  · refine own_Go.mono (T' := s₁) (f' := (mkF m 14 #[.val (.int p0)] [(.int (0 : Int32))])) (fun t k => ?_) ?_
    · show Steps p.tables e below (s₁.setTop (mkF m 4 #[.val (.int p0)] [(.int (192 : Int32)), (.int p0)])) _
      refine XS.icmpYes X0.here hx rfl (pc0 := 4) (pc' := 13) rfl (hb hby d2_4) rfl (tlt c4_44).1 (by decide) (by decide) ?_
      show Steps p.tables e below (s₁.setTop (mkF m 13 #[.val (.int p0)] [])) _
      refine XS.iconst X0.here hx rfl (hb hby d2_13) ?_
      show Steps p.tables e below (s₁.setTop (mkF m 14 #[.val (.int p0)] [(.int (0 : Int32))])) _
      exact k
    exact own_retN X0 hx (t := .boolean) hret (by simp) hlk (hb hby d2_14) (⟨congrArg some (congrArg Value.int (by rw [← hv]; unfold B2_0; rw [if_pos c4_44]; first | done | rfl)), N0, e0⟩) (by decide) (by decide)
  · refine own_Go.mono (T' := s₁) (f' := (mkF m 10 #[.val (.int p0)] [(.int (983039 : Int32)), (.int p0)])) (fun t k => ?_) ?_
    · show Steps p.tables e below (s₁.setTop (mkF m 4 #[.val (.int p0)] [(.int (192 : Int32)), (.int p0)])) _
      refine XS.icmpNo X0.here hx rfl (hb hby d2_4) rfl (flt c4_44).1 ?_
      show Steps p.tables e below (s₁.setTop (mkF m 7 #[.val (.int p0)] [])) _
      refine XS.iloadN X0.here hx rfl (hb hby d2_7) rfl ?_
      show Steps p.tables e below (s₁.setTop (mkF m 8 #[.val (.int p0)] [(.int p0)])) _
      refine X0.ldcInt hx hown (mvT hZ (hw _ (List.mem_of_getElem? (i := 7) rfl))) (g := (mkF m 8 #[.val (.int p0)] [(.int p0)])) rfl (hb hby d2_8) _ ?_
      show Steps p.tables e below (s₁.setTop (mkF m 10 #[.val (.int p0)] [(.int (983039 : Int32)), (.int p0)])) _
      exact k
    by_cases c10_45 : (983039 : Int32) < p0
    · refine own_Go.mono (T' := s₁) (f' := (mkF m 14 #[.val (.int p0)] [(.int (0 : Int32))])) (fun t k => ?_) ?_
      · show Steps p.tables e below (s₁.setTop (mkF m 10 #[.val (.int p0)] [(.int (983039 : Int32)), (.int p0)])) _
        refine XS.icmpNo X0.here hx rfl (hb hby d2_10) rfl (tlt c10_45).2.2.2 ?_
        show Steps p.tables e below (s₁.setTop (mkF m 13 #[.val (.int p0)] [])) _
        refine XS.iconst X0.here hx rfl (hb hby d2_13) ?_
        show Steps p.tables e below (s₁.setTop (mkF m 14 #[.val (.int p0)] [(.int (0 : Int32))])) _
        exact k
      exact own_retN X0 hx (t := .boolean) hret (by simp) hlk (hb hby d2_14) (⟨congrArg some (congrArg Value.int (by rw [← hv]; unfold B2_0; rw [if_neg c4_44]; rw [if_pos c10_45]; first | done | rfl)), N0, e0⟩) (by decide) (by decide)
    · refine own_Go.mono (T' := s₁) (f' := (mkF m 15 #[.val (.int p0)] [])) (fun t k => ?_) ?_
      · show Steps p.tables e below (s₁.setTop (mkF m 10 #[.val (.int p0)] [(.int (983039 : Int32)), (.int p0)])) _
        refine XS.icmpYes X0.here hx rfl (pc0 := 10) (pc' := 15) rfl (hb hby d2_10) rfl (flt c10_45).2.2.2 (by decide) (by decide) ?_
        show Steps p.tables e below (s₁.setTop (mkF m 15 #[.val (.int p0)] [])) _
        exact k
      exact b_15 p0 X0 N0 e0 (by rw [← hv]; unfold B2_0; rw [if_neg c4_44]; rw [if_neg c10_45]; first | done | rfl)
theorem own_ite {P Q : Prop} [Decidable P] [Decidable Q] (h : P ↔ Q) : (if P then (1 : Int32) else 0) = if Q then 1 else 0 := by by_cases q : Q; rw [if_pos q, if_pos (h.mpr q)]; rw [if_neg q, if_neg (mt h.mp q)]
theorem e1_165 (c : Int32) : B1_165 c = if (0 : Int) = 1 then (1 : Int32) else 0 := by
  unfold B1_165
  exact (if_neg (by omega)).symm
theorem e1_161 (c : Int32) : B1_161 c = if (0 : Int) = 0 then (1 : Int32) else 0 := by
  unfold B1_161
  exact (if_pos (by omega)).symm
theorem e1_149 (c : Int32) : B1_149 c = if 65536 ≤ c.toInt ∧ c.toInt ≤ 983039 then (1 : Int32) else 0 := by
  have k0 : (65536 : Int32).toInt = 65536 := rfl
  have k1 : (983039 : Int32).toInt = 983039 := rfl
  unfold B1_149
  by_cases h0 : c < (65536 : Int32)
  · rw [if_pos h0]
    have h0' := Int32.lt_iff_toInt_lt.mp h0
    rw [e1_165 c]; exact own_ite (by omega)
  · rw [if_neg h0]
    have h0' := mt Int32.lt_iff_toInt_lt.mpr h0
    by_cases h1 : (983039 : Int32) < c
    · rw [if_pos h1]
      have h1' := Int32.lt_iff_toInt_lt.mp h1
      rw [e1_165 c]; exact own_ite (by omega)
    · rw [if_neg h1]
      have h1' := mt Int32.lt_iff_toInt_lt.mpr h1
      rw [e1_161 c]; exact own_ite (by omega)
theorem e1_137 (c : Int32) : B1_137 c = if (65008 ≤ c.toInt ∧ c.toInt ≤ 65533) ∨ (65536 ≤ c.toInt ∧ c.toInt ≤ 983039) then (1 : Int32) else 0 := by
  have k0 : (65008 : Int32).toInt = 65008 := rfl
  have k1 : (65533 : Int32).toInt = 65533 := rfl
  unfold B1_137
  by_cases h0 : c < (65008 : Int32)
  · rw [if_pos h0]
    have h0' := Int32.lt_iff_toInt_lt.mp h0
    rw [e1_149 c]; exact own_ite (or_iff_right (by omega)).symm
  · rw [if_neg h0]
    have h0' := mt Int32.lt_iff_toInt_lt.mpr h0
    by_cases h1 : (65533 : Int32) < c
    · rw [if_pos h1]
      have h1' := Int32.lt_iff_toInt_lt.mp h1
      rw [e1_149 c]; exact own_ite (or_iff_right (by omega)).symm
    · rw [if_neg h1]
      have h1' := mt Int32.lt_iff_toInt_lt.mpr h1
      rw [e1_161 c]; exact own_ite ⟨fun _ => Or.inl ⟨by omega, by omega⟩, fun _ => rfl⟩
theorem e1_125 (c : Int32) : B1_125 c = if (63744 ≤ c.toInt ∧ c.toInt ≤ 64975) ∨ (65008 ≤ c.toInt ∧ c.toInt ≤ 65533) ∨ (65536 ≤ c.toInt ∧ c.toInt ≤ 983039) then (1 : Int32) else 0 := by
  have k0 : (63744 : Int32).toInt = 63744 := rfl
  have k1 : (64975 : Int32).toInt = 64975 := rfl
  unfold B1_125
  by_cases h0 : c < (63744 : Int32)
  · rw [if_pos h0]
    have h0' := Int32.lt_iff_toInt_lt.mp h0
    rw [e1_137 c]; exact own_ite (or_iff_right (by omega)).symm
  · rw [if_neg h0]
    have h0' := mt Int32.lt_iff_toInt_lt.mpr h0
    by_cases h1 : (64975 : Int32) < c
    · rw [if_pos h1]
      have h1' := Int32.lt_iff_toInt_lt.mp h1
      rw [e1_137 c]; exact own_ite (or_iff_right (by omega)).symm
    · rw [if_neg h1]
      have h1' := mt Int32.lt_iff_toInt_lt.mpr h1
      rw [e1_161 c]; exact own_ite ⟨fun _ => Or.inl ⟨by omega, by omega⟩, fun _ => rfl⟩
theorem e1_112 (c : Int32) : B1_112 c = if (12289 ≤ c.toInt ∧ c.toInt ≤ 55295) ∨ (63744 ≤ c.toInt ∧ c.toInt ≤ 64975) ∨ (65008 ≤ c.toInt ∧ c.toInt ≤ 65533) ∨ (65536 ≤ c.toInt ∧ c.toInt ≤ 983039) then (1 : Int32) else 0 := by
  have k0 : (12289 : Int32).toInt = 12289 := rfl
  have k1 : (55295 : Int32).toInt = 55295 := rfl
  unfold B1_112
  by_cases h0 : c < (12289 : Int32)
  · rw [if_pos h0]
    have h0' := Int32.lt_iff_toInt_lt.mp h0
    rw [e1_125 c]; exact own_ite (or_iff_right (by omega)).symm
  · rw [if_neg h0]
    have h0' := mt Int32.lt_iff_toInt_lt.mpr h0
    by_cases h1 : (55295 : Int32) < c
    · rw [if_pos h1]
      have h1' := Int32.lt_iff_toInt_lt.mp h1
      rw [e1_125 c]; exact own_ite (or_iff_right (by omega)).symm
    · rw [if_neg h1]
      have h1' := mt Int32.lt_iff_toInt_lt.mpr h1
      rw [e1_161 c]; exact own_ite ⟨fun _ => Or.inl ⟨by omega, by omega⟩, fun _ => rfl⟩
theorem e1_98 (c : Int32) : B1_98 c = if (11264 ≤ c.toInt ∧ c.toInt ≤ 12271) ∨ (12289 ≤ c.toInt ∧ c.toInt ≤ 55295) ∨ (63744 ≤ c.toInt ∧ c.toInt ≤ 64975) ∨ (65008 ≤ c.toInt ∧ c.toInt ≤ 65533) ∨ (65536 ≤ c.toInt ∧ c.toInt ≤ 983039) then (1 : Int32) else 0 := by
  have k0 : (11264 : Int32).toInt = 11264 := rfl
  have k1 : (12271 : Int32).toInt = 12271 := rfl
  unfold B1_98
  by_cases h0 : c < (11264 : Int32)
  · rw [if_pos h0]
    have h0' := Int32.lt_iff_toInt_lt.mp h0
    rw [e1_112 c]; exact own_ite (or_iff_right (by omega)).symm
  · rw [if_neg h0]
    have h0' := mt Int32.lt_iff_toInt_lt.mpr h0
    by_cases h1 : (12271 : Int32) < c
    · rw [if_pos h1]
      have h1' := Int32.lt_iff_toInt_lt.mp h1
      rw [e1_112 c]; exact own_ite (or_iff_right (by omega)).symm
    · rw [if_neg h1]
      have h1' := mt Int32.lt_iff_toInt_lt.mpr h1
      rw [e1_161 c]; exact own_ite ⟨fun _ => Or.inl ⟨by omega, by omega⟩, fun _ => rfl⟩
theorem e1_84 (c : Int32) : B1_84 c = if (8304 ≤ c.toInt ∧ c.toInt ≤ 8591) ∨ (11264 ≤ c.toInt ∧ c.toInt ≤ 12271) ∨ (12289 ≤ c.toInt ∧ c.toInt ≤ 55295) ∨ (63744 ≤ c.toInt ∧ c.toInt ≤ 64975) ∨ (65008 ≤ c.toInt ∧ c.toInt ≤ 65533) ∨ (65536 ≤ c.toInt ∧ c.toInt ≤ 983039) then (1 : Int32) else 0 := by
  have k0 : (8304 : Int32).toInt = 8304 := rfl
  have k1 : (8591 : Int32).toInt = 8591 := rfl
  unfold B1_84
  by_cases h0 : c < (8304 : Int32)
  · rw [if_pos h0]
    have h0' := Int32.lt_iff_toInt_lt.mp h0
    rw [e1_98 c]; exact own_ite (or_iff_right (by omega)).symm
  · rw [if_neg h0]
    have h0' := mt Int32.lt_iff_toInt_lt.mpr h0
    by_cases h1 : (8591 : Int32) < c
    · rw [if_pos h1]
      have h1' := Int32.lt_iff_toInt_lt.mp h1
      rw [e1_98 c]; exact own_ite (or_iff_right (by omega)).symm
    · rw [if_neg h1]
      have h1' := mt Int32.lt_iff_toInt_lt.mpr h1
      rw [e1_161 c]; exact own_ite ⟨fun _ => Or.inl ⟨by omega, by omega⟩, fun _ => rfl⟩
theorem e1_70 (c : Int32) : B1_70 c = if (8204 ≤ c.toInt ∧ c.toInt ≤ 8205) ∨ (8304 ≤ c.toInt ∧ c.toInt ≤ 8591) ∨ (11264 ≤ c.toInt ∧ c.toInt ≤ 12271) ∨ (12289 ≤ c.toInt ∧ c.toInt ≤ 55295) ∨ (63744 ≤ c.toInt ∧ c.toInt ≤ 64975) ∨ (65008 ≤ c.toInt ∧ c.toInt ≤ 65533) ∨ (65536 ≤ c.toInt ∧ c.toInt ≤ 983039) then (1 : Int32) else 0 := by
  have k0 : (8204 : Int32).toInt = 8204 := rfl
  have k1 : (8205 : Int32).toInt = 8205 := rfl
  unfold B1_70
  by_cases h0 : c < (8204 : Int32)
  · rw [if_pos h0]
    have h0' := Int32.lt_iff_toInt_lt.mp h0
    rw [e1_84 c]; exact own_ite (or_iff_right (by omega)).symm
  · rw [if_neg h0]
    have h0' := mt Int32.lt_iff_toInt_lt.mpr h0
    by_cases h1 : (8205 : Int32) < c
    · rw [if_pos h1]
      have h1' := Int32.lt_iff_toInt_lt.mp h1
      rw [e1_84 c]; exact own_ite (or_iff_right (by omega)).symm
    · rw [if_neg h1]
      have h1' := mt Int32.lt_iff_toInt_lt.mpr h1
      rw [e1_161 c]; exact own_ite ⟨fun _ => Or.inl ⟨by omega, by omega⟩, fun _ => rfl⟩
theorem e1_56 (c : Int32) : B1_56 c = if (895 ≤ c.toInt ∧ c.toInt ≤ 8191) ∨ (8204 ≤ c.toInt ∧ c.toInt ≤ 8205) ∨ (8304 ≤ c.toInt ∧ c.toInt ≤ 8591) ∨ (11264 ≤ c.toInt ∧ c.toInt ≤ 12271) ∨ (12289 ≤ c.toInt ∧ c.toInt ≤ 55295) ∨ (63744 ≤ c.toInt ∧ c.toInt ≤ 64975) ∨ (65008 ≤ c.toInt ∧ c.toInt ≤ 65533) ∨ (65536 ≤ c.toInt ∧ c.toInt ≤ 983039) then (1 : Int32) else 0 := by
  have k0 : (8191 : Int32).toInt = 8191 := rfl
  have k1 : (895 : Int32).toInt = 895 := rfl
  unfold B1_56
  by_cases h0 : c < (895 : Int32)
  · rw [if_pos h0]
    have h0' := Int32.lt_iff_toInt_lt.mp h0
    rw [e1_70 c]; exact own_ite (or_iff_right (by omega)).symm
  · rw [if_neg h0]
    have h0' := mt Int32.lt_iff_toInt_lt.mpr h0
    by_cases h1 : (8191 : Int32) < c
    · rw [if_pos h1]
      have h1' := Int32.lt_iff_toInt_lt.mp h1
      rw [e1_70 c]; exact own_ite (or_iff_right (by omega)).symm
    · rw [if_neg h1]
      have h1' := mt Int32.lt_iff_toInt_lt.mpr h1
      rw [e1_161 c]; exact own_ite ⟨fun _ => Or.inl ⟨by omega, by omega⟩, fun _ => rfl⟩
theorem e1_42 (c : Int32) : B1_42 c = if (880 ≤ c.toInt ∧ c.toInt ≤ 893) ∨ (895 ≤ c.toInt ∧ c.toInt ≤ 8191) ∨ (8204 ≤ c.toInt ∧ c.toInt ≤ 8205) ∨ (8304 ≤ c.toInt ∧ c.toInt ≤ 8591) ∨ (11264 ≤ c.toInt ∧ c.toInt ≤ 12271) ∨ (12289 ≤ c.toInt ∧ c.toInt ≤ 55295) ∨ (63744 ≤ c.toInt ∧ c.toInt ≤ 64975) ∨ (65008 ≤ c.toInt ∧ c.toInt ≤ 65533) ∨ (65536 ≤ c.toInt ∧ c.toInt ≤ 983039) then (1 : Int32) else 0 := by
  have k0 : (880 : Int32).toInt = 880 := rfl
  have k1 : (893 : Int32).toInt = 893 := rfl
  unfold B1_42
  by_cases h0 : c < (880 : Int32)
  · rw [if_pos h0]
    have h0' := Int32.lt_iff_toInt_lt.mp h0
    rw [e1_56 c]; exact own_ite (or_iff_right (by omega)).symm
  · rw [if_neg h0]
    have h0' := mt Int32.lt_iff_toInt_lt.mpr h0
    by_cases h1 : (893 : Int32) < c
    · rw [if_pos h1]
      have h1' := Int32.lt_iff_toInt_lt.mp h1
      rw [e1_56 c]; exact own_ite (or_iff_right (by omega)).symm
    · rw [if_neg h1]
      have h1' := mt Int32.lt_iff_toInt_lt.mpr h1
      rw [e1_161 c]; exact own_ite ⟨fun _ => Or.inl ⟨by omega, by omega⟩, fun _ => rfl⟩
theorem e1_28 (c : Int32) : B1_28 c = if (248 ≤ c.toInt ∧ c.toInt ≤ 767) ∨ (880 ≤ c.toInt ∧ c.toInt ≤ 893) ∨ (895 ≤ c.toInt ∧ c.toInt ≤ 8191) ∨ (8204 ≤ c.toInt ∧ c.toInt ≤ 8205) ∨ (8304 ≤ c.toInt ∧ c.toInt ≤ 8591) ∨ (11264 ≤ c.toInt ∧ c.toInt ≤ 12271) ∨ (12289 ≤ c.toInt ∧ c.toInt ≤ 55295) ∨ (63744 ≤ c.toInt ∧ c.toInt ≤ 64975) ∨ (65008 ≤ c.toInt ∧ c.toInt ≤ 65533) ∨ (65536 ≤ c.toInt ∧ c.toInt ≤ 983039) then (1 : Int32) else 0 := by
  have k0 : (248 : Int32).toInt = 248 := rfl
  have k1 : (767 : Int32).toInt = 767 := rfl
  unfold B1_28
  by_cases h0 : c < (248 : Int32)
  · rw [if_pos h0]
    have h0' := Int32.lt_iff_toInt_lt.mp h0
    rw [e1_42 c]; exact own_ite (or_iff_right (by omega)).symm
  · rw [if_neg h0]
    have h0' := mt Int32.lt_iff_toInt_lt.mpr h0
    by_cases h1 : (767 : Int32) < c
    · rw [if_pos h1]
      have h1' := Int32.lt_iff_toInt_lt.mp h1
      rw [e1_42 c]; exact own_ite (or_iff_right (by omega)).symm
    · rw [if_neg h1]
      have h1' := mt Int32.lt_iff_toInt_lt.mpr h1
      rw [e1_161 c]; exact own_ite ⟨fun _ => Or.inl ⟨by omega, by omega⟩, fun _ => rfl⟩
theorem e1_14 (c : Int32) : B1_14 c = if (216 ≤ c.toInt ∧ c.toInt ≤ 246) ∨ (248 ≤ c.toInt ∧ c.toInt ≤ 767) ∨ (880 ≤ c.toInt ∧ c.toInt ≤ 893) ∨ (895 ≤ c.toInt ∧ c.toInt ≤ 8191) ∨ (8204 ≤ c.toInt ∧ c.toInt ≤ 8205) ∨ (8304 ≤ c.toInt ∧ c.toInt ≤ 8591) ∨ (11264 ≤ c.toInt ∧ c.toInt ≤ 12271) ∨ (12289 ≤ c.toInt ∧ c.toInt ≤ 55295) ∨ (63744 ≤ c.toInt ∧ c.toInt ≤ 64975) ∨ (65008 ≤ c.toInt ∧ c.toInt ≤ 65533) ∨ (65536 ≤ c.toInt ∧ c.toInt ≤ 983039) then (1 : Int32) else 0 := by
  have k0 : (216 : Int32).toInt = 216 := rfl
  have k1 : (246 : Int32).toInt = 246 := rfl
  unfold B1_14
  by_cases h0 : c < (216 : Int32)
  · rw [if_pos h0]
    have h0' := Int32.lt_iff_toInt_lt.mp h0
    rw [e1_28 c]; exact own_ite (or_iff_right (by omega)).symm
  · rw [if_neg h0]
    have h0' := mt Int32.lt_iff_toInt_lt.mpr h0
    by_cases h1 : (246 : Int32) < c
    · rw [if_pos h1]
      have h1' := Int32.lt_iff_toInt_lt.mp h1
      rw [e1_28 c]; exact own_ite (or_iff_right (by omega)).symm
    · rw [if_neg h1]
      have h1' := mt Int32.lt_iff_toInt_lt.mpr h1
      rw [e1_161 c]; exact own_ite ⟨fun _ => Or.inl ⟨by omega, by omega⟩, fun _ => rfl⟩
theorem e1_0 (c : Int32) : B1_0 c = if (192 ≤ c.toInt ∧ c.toInt ≤ 214) ∨ (216 ≤ c.toInt ∧ c.toInt ≤ 246) ∨ (248 ≤ c.toInt ∧ c.toInt ≤ 767) ∨ (880 ≤ c.toInt ∧ c.toInt ≤ 893) ∨ (895 ≤ c.toInt ∧ c.toInt ≤ 8191) ∨ (8204 ≤ c.toInt ∧ c.toInt ≤ 8205) ∨ (8304 ≤ c.toInt ∧ c.toInt ≤ 8591) ∨ (11264 ≤ c.toInt ∧ c.toInt ≤ 12271) ∨ (12289 ≤ c.toInt ∧ c.toInt ≤ 55295) ∨ (63744 ≤ c.toInt ∧ c.toInt ≤ 64975) ∨ (65008 ≤ c.toInt ∧ c.toInt ≤ 65533) ∨ (65536 ≤ c.toInt ∧ c.toInt ≤ 983039) then (1 : Int32) else 0 := by
  have k0 : (192 : Int32).toInt = 192 := rfl
  have k1 : (214 : Int32).toInt = 214 := rfl
  unfold B1_0
  by_cases h0 : c < (192 : Int32)
  · rw [if_pos h0]
    have h0' := Int32.lt_iff_toInt_lt.mp h0
    rw [e1_14 c]; exact own_ite (or_iff_right (by omega)).symm
  · rw [if_neg h0]
    have h0' := mt Int32.lt_iff_toInt_lt.mpr h0
    by_cases h1 : (214 : Int32) < c
    · rw [if_pos h1]
      have h1' := Int32.lt_iff_toInt_lt.mp h1
      rw [e1_14 c]; exact own_ite (or_iff_right (by omega)).symm
    · rw [if_neg h1]
      have h1' := mt Int32.lt_iff_toInt_lt.mpr h1
      rw [e1_161 c]; exact own_ite ⟨fun _ => Or.inl ⟨by omega, by omega⟩, fun _ => rfl⟩
theorem e2_160 (c : Int32) : B2_160 c = if (0 : Int) = 0 then (1 : Int32) else 0 := by
  unfold B2_160
  exact (if_pos (by omega)).symm
theorem e2_146 (c : Int32) : B2_146 c = if ¬ (65534 ≤ c.toInt ∧ c.toInt ≤ 65535) then (1 : Int32) else 0 := by
  have k0 : (65534 : Int32).toInt = 65534 := rfl
  have k1 : (65535 : Int32).toInt = 65535 := rfl
  unfold B2_146
  by_cases h0 : c < (65534 : Int32)
  · rw [if_pos h0]
    have h0' := Int32.lt_iff_toInt_lt.mp h0
    rw [e2_160 c]; exact own_ite (by omega)
  · rw [if_neg h0]
    have h0' := mt Int32.lt_iff_toInt_lt.mpr h0
    by_cases h1 : (65535 : Int32) < c
    · rw [if_pos h1]
      have h1' := Int32.lt_iff_toInt_lt.mp h1
      rw [e2_160 c]; exact own_ite (by omega)
    · rw [if_neg h1]
      have h1' := mt Int32.lt_iff_toInt_lt.mpr h1
      exact (if_neg (by omega)).symm
theorem e2_132 (c : Int32) : B2_132 c = if (¬ (64976 ≤ c.toInt ∧ c.toInt ≤ 65007)) ∧ (¬ (65534 ≤ c.toInt ∧ c.toInt ≤ 65535)) then (1 : Int32) else 0 := by
  have k0 : (64976 : Int32).toInt = 64976 := rfl
  have k1 : (65007 : Int32).toInt = 65007 := rfl
  unfold B2_132
  by_cases h0 : c < (64976 : Int32)
  · rw [if_pos h0]
    have h0' := Int32.lt_iff_toInt_lt.mp h0
    rw [e2_146 c]; exact own_ite (and_iff_right (by omega)).symm
  · rw [if_neg h0]
    have h0' := mt Int32.lt_iff_toInt_lt.mpr h0
    by_cases h1 : (65007 : Int32) < c
    · rw [if_pos h1]
      have h1' := Int32.lt_iff_toInt_lt.mp h1
      rw [e2_146 c]; exact own_ite (and_iff_right (by omega)).symm
    · rw [if_neg h1]
      have h1' := mt Int32.lt_iff_toInt_lt.mpr h1
      exact (if_neg (fun h => absurd h.1 (by omega))).symm
theorem e2_118 (c : Int32) : B2_118 c = if (¬ (55296 ≤ c.toInt ∧ c.toInt ≤ 63743)) ∧ (¬ (64976 ≤ c.toInt ∧ c.toInt ≤ 65007)) ∧ (¬ (65534 ≤ c.toInt ∧ c.toInt ≤ 65535)) then (1 : Int32) else 0 := by
  have k0 : (55296 : Int32).toInt = 55296 := rfl
  have k1 : (63743 : Int32).toInt = 63743 := rfl
  unfold B2_118
  by_cases h0 : c < (55296 : Int32)
  · rw [if_pos h0]
    have h0' := Int32.lt_iff_toInt_lt.mp h0
    rw [e2_132 c]; exact own_ite (and_iff_right (by omega)).symm
  · rw [if_neg h0]
    have h0' := mt Int32.lt_iff_toInt_lt.mpr h0
    by_cases h1 : (63743 : Int32) < c
    · rw [if_pos h1]
      have h1' := Int32.lt_iff_toInt_lt.mp h1
      rw [e2_132 c]; exact own_ite (and_iff_right (by omega)).symm
    · rw [if_neg h1]
      have h1' := mt Int32.lt_iff_toInt_lt.mpr h1
      exact (if_neg (fun h => absurd h.1 (by omega))).symm
theorem e2_102 (c : Int32) : B2_102 c = if (¬ (12272 ≤ c.toInt ∧ c.toInt ≤ 12288)) ∧ (¬ (55296 ≤ c.toInt ∧ c.toInt ≤ 63743)) ∧ (¬ (64976 ≤ c.toInt ∧ c.toInt ≤ 65007)) ∧ (¬ (65534 ≤ c.toInt ∧ c.toInt ≤ 65535)) then (1 : Int32) else 0 := by
  have k0 : (12272 : Int32).toInt = 12272 := rfl
  have k1 : (12288 : Int32).toInt = 12288 := rfl
  unfold B2_102
  by_cases h0 : c < (12272 : Int32)
  · rw [if_pos h0]
    have h0' := Int32.lt_iff_toInt_lt.mp h0
    rw [e2_118 c]; exact own_ite (and_iff_right (by omega)).symm
  · rw [if_neg h0]
    have h0' := mt Int32.lt_iff_toInt_lt.mpr h0
    by_cases h1 : (12288 : Int32) < c
    · rw [if_pos h1]
      have h1' := Int32.lt_iff_toInt_lt.mp h1
      rw [e2_118 c]; exact own_ite (and_iff_right (by omega)).symm
    · rw [if_neg h1]
      have h1' := mt Int32.lt_iff_toInt_lt.mpr h1
      exact (if_neg (fun h => absurd h.1 (by omega))).symm
theorem e2_86 (c : Int32) : B2_86 c = if (¬ (8592 ≤ c.toInt ∧ c.toInt ≤ 11263)) ∧ (¬ (12272 ≤ c.toInt ∧ c.toInt ≤ 12288)) ∧ (¬ (55296 ≤ c.toInt ∧ c.toInt ≤ 63743)) ∧ (¬ (64976 ≤ c.toInt ∧ c.toInt ≤ 65007)) ∧ (¬ (65534 ≤ c.toInt ∧ c.toInt ≤ 65535)) then (1 : Int32) else 0 := by
  have k0 : (11263 : Int32).toInt = 11263 := rfl
  have k1 : (8592 : Int32).toInt = 8592 := rfl
  unfold B2_86
  by_cases h0 : c < (8592 : Int32)
  · rw [if_pos h0]
    have h0' := Int32.lt_iff_toInt_lt.mp h0
    rw [e2_102 c]; exact own_ite (and_iff_right (by omega)).symm
  · rw [if_neg h0]
    have h0' := mt Int32.lt_iff_toInt_lt.mpr h0
    by_cases h1 : (11263 : Int32) < c
    · rw [if_pos h1]
      have h1' := Int32.lt_iff_toInt_lt.mp h1
      rw [e2_102 c]; exact own_ite (and_iff_right (by omega)).symm
    · rw [if_neg h1]
      have h1' := mt Int32.lt_iff_toInt_lt.mpr h1
      exact (if_neg (fun h => absurd h.1 (by omega))).symm
theorem e2_70 (c : Int32) : B2_70 c = if (¬ (8206 ≤ c.toInt ∧ c.toInt ≤ 8303)) ∧ (¬ (8592 ≤ c.toInt ∧ c.toInt ≤ 11263)) ∧ (¬ (12272 ≤ c.toInt ∧ c.toInt ≤ 12288)) ∧ (¬ (55296 ≤ c.toInt ∧ c.toInt ≤ 63743)) ∧ (¬ (64976 ≤ c.toInt ∧ c.toInt ≤ 65007)) ∧ (¬ (65534 ≤ c.toInt ∧ c.toInt ≤ 65535)) then (1 : Int32) else 0 := by
  have k0 : (8206 : Int32).toInt = 8206 := rfl
  have k1 : (8303 : Int32).toInt = 8303 := rfl
  unfold B2_70
  by_cases h0 : c < (8206 : Int32)
  · rw [if_pos h0]
    have h0' := Int32.lt_iff_toInt_lt.mp h0
    rw [e2_86 c]; exact own_ite (and_iff_right (by omega)).symm
  · rw [if_neg h0]
    have h0' := mt Int32.lt_iff_toInt_lt.mpr h0
    by_cases h1 : (8303 : Int32) < c
    · rw [if_pos h1]
      have h1' := Int32.lt_iff_toInt_lt.mp h1
      rw [e2_86 c]; exact own_ite (and_iff_right (by omega)).symm
    · rw [if_neg h1]
      have h1' := mt Int32.lt_iff_toInt_lt.mpr h1
      exact (if_neg (fun h => absurd h.1 (by omega))).symm
theorem e2_54 (c : Int32) : B2_54 c = if (¬ (8192 ≤ c.toInt ∧ c.toInt ≤ 8203)) ∧ (¬ (8206 ≤ c.toInt ∧ c.toInt ≤ 8303)) ∧ (¬ (8592 ≤ c.toInt ∧ c.toInt ≤ 11263)) ∧ (¬ (12272 ≤ c.toInt ∧ c.toInt ≤ 12288)) ∧ (¬ (55296 ≤ c.toInt ∧ c.toInt ≤ 63743)) ∧ (¬ (64976 ≤ c.toInt ∧ c.toInt ≤ 65007)) ∧ (¬ (65534 ≤ c.toInt ∧ c.toInt ≤ 65535)) then (1 : Int32) else 0 := by
  have k0 : (8192 : Int32).toInt = 8192 := rfl
  have k1 : (8203 : Int32).toInt = 8203 := rfl
  unfold B2_54
  by_cases h0 : c < (8192 : Int32)
  · rw [if_pos h0]
    have h0' := Int32.lt_iff_toInt_lt.mp h0
    rw [e2_70 c]; exact own_ite (and_iff_right (by omega)).symm
  · rw [if_neg h0]
    have h0' := mt Int32.lt_iff_toInt_lt.mpr h0
    by_cases h1 : (8203 : Int32) < c
    · rw [if_pos h1]
      have h1' := Int32.lt_iff_toInt_lt.mp h1
      rw [e2_70 c]; exact own_ite (and_iff_right (by omega)).symm
    · rw [if_neg h1]
      have h1' := mt Int32.lt_iff_toInt_lt.mpr h1
      exact (if_neg (fun h => absurd h.1 (by omega))).symm
theorem e2_38 (c : Int32) : B2_38 c = if (¬ (768 ≤ c.toInt ∧ c.toInt ≤ 879)) ∧ (¬ (8192 ≤ c.toInt ∧ c.toInt ≤ 8203)) ∧ (¬ (8206 ≤ c.toInt ∧ c.toInt ≤ 8303)) ∧ (¬ (8592 ≤ c.toInt ∧ c.toInt ≤ 11263)) ∧ (¬ (12272 ≤ c.toInt ∧ c.toInt ≤ 12288)) ∧ (¬ (55296 ≤ c.toInt ∧ c.toInt ≤ 63743)) ∧ (¬ (64976 ≤ c.toInt ∧ c.toInt ≤ 65007)) ∧ (¬ (65534 ≤ c.toInt ∧ c.toInt ≤ 65535)) then (1 : Int32) else 0 := by
  have k0 : (768 : Int32).toInt = 768 := rfl
  have k1 : (879 : Int32).toInt = 879 := rfl
  unfold B2_38
  by_cases h0 : c < (768 : Int32)
  · rw [if_pos h0]
    have h0' := Int32.lt_iff_toInt_lt.mp h0
    rw [e2_54 c]; exact own_ite (and_iff_right (by omega)).symm
  · rw [if_neg h0]
    have h0' := mt Int32.lt_iff_toInt_lt.mpr h0
    by_cases h1 : (879 : Int32) < c
    · rw [if_pos h1]
      have h1' := Int32.lt_iff_toInt_lt.mp h1
      rw [e2_54 c]; exact own_ite (and_iff_right (by omega)).symm
    · rw [if_neg h1]
      have h1' := mt Int32.lt_iff_toInt_lt.mpr h1
      exact (if_neg (fun h => absurd h.1 (by omega))).symm
theorem e2_36 (c : Int32) : B2_36 c = if (0 : Int) = 1 then (1 : Int32) else 0 := by
  unfold B2_36
  exact (if_neg (by omega)).symm
theorem e2_15 (c : Int32) : B2_15 c = if (¬ (c.toInt = 215 ∨ c.toInt = 247 ∨ c.toInt = 894)) ∧ (¬ (768 ≤ c.toInt ∧ c.toInt ≤ 879)) ∧ (¬ (8192 ≤ c.toInt ∧ c.toInt ≤ 8203)) ∧ (¬ (8206 ≤ c.toInt ∧ c.toInt ≤ 8303)) ∧ (¬ (8592 ≤ c.toInt ∧ c.toInt ≤ 11263)) ∧ (¬ (12272 ≤ c.toInt ∧ c.toInt ≤ 12288)) ∧ (¬ (55296 ≤ c.toInt ∧ c.toInt ≤ 63743)) ∧ (¬ (64976 ≤ c.toInt ∧ c.toInt ≤ 65007)) ∧ (¬ (65534 ≤ c.toInt ∧ c.toInt ≤ 65535)) then (1 : Int32) else 0 := by
  have k0 : (215 : Int32).toInt = 215 := rfl
  have k1 : (247 : Int32).toInt = 247 := rfl
  have k2 : (894 : Int32).toInt = 894 := rfl
  unfold B2_15
  by_cases h0 : c = (215 : Int32)
  · rw [if_pos h0]
    have h0' := congrArg Int32.toInt h0
    rw [e2_36 c]; exact own_ite ⟨fun h => absurd h (by decide), fun h => absurd h.1 (by omega)⟩
  · rw [if_neg h0]
    have h0' := mt Int32.toInt_inj.mp h0
    by_cases h1 : c = (247 : Int32)
    · rw [if_pos h1]
      have h1' := congrArg Int32.toInt h1
      rw [e2_36 c]; exact own_ite ⟨fun h => absurd h (by decide), fun h => absurd h.1 (by omega)⟩
    · rw [if_neg h1]
      have h1' := mt Int32.toInt_inj.mp h1
      by_cases h2 : c = (894 : Int32)
      · rw [if_pos h2]
        have h2' := congrArg Int32.toInt h2
        rw [e2_36 c]; exact own_ite ⟨fun h => absurd h (by decide), fun h => absurd h.1 (by omega)⟩
      · rw [if_neg h2]
        have h2' := mt Int32.toInt_inj.mp h2
        rw [e2_38 c]; exact own_ite (and_iff_right (by omega)).symm
theorem e2_0 (c : Int32) : B2_0 c = if (192 ≤ c.toInt ∧ c.toInt ≤ 983039) ∧ (¬ (c.toInt = 215 ∨ c.toInt = 247 ∨ c.toInt = 894)) ∧ (¬ (768 ≤ c.toInt ∧ c.toInt ≤ 879)) ∧ (¬ (8192 ≤ c.toInt ∧ c.toInt ≤ 8203)) ∧ (¬ (8206 ≤ c.toInt ∧ c.toInt ≤ 8303)) ∧ (¬ (8592 ≤ c.toInt ∧ c.toInt ≤ 11263)) ∧ (¬ (12272 ≤ c.toInt ∧ c.toInt ≤ 12288)) ∧ (¬ (55296 ≤ c.toInt ∧ c.toInt ≤ 63743)) ∧ (¬ (64976 ≤ c.toInt ∧ c.toInt ≤ 65007)) ∧ (¬ (65534 ≤ c.toInt ∧ c.toInt ≤ 65535)) then (1 : Int32) else 0 := by
  have k0 : (192 : Int32).toInt = 192 := rfl
  have k1 : (983039 : Int32).toInt = 983039 := rfl
  unfold B2_0
  by_cases h0 : c < (192 : Int32)
  · rw [if_pos h0]
    have h0' := Int32.lt_iff_toInt_lt.mp h0
    exact (if_neg (fun h => absurd h.1 (by omega))).symm
  · rw [if_neg h0]
    have h0' := mt Int32.lt_iff_toInt_lt.mpr h0
    by_cases h1 : (983039 : Int32) < c
    · rw [if_pos h1]
      have h1' := Int32.lt_iff_toInt_lt.mp h1
      exact (if_neg (fun h => absurd h.1 (by omega))).symm
    · rw [if_neg h1]
      have h1' := mt Int32.lt_iff_toInt_lt.mpr h1
      rw [e2_15 c]; exact own_ite (and_iff_right (by omega)).symm
theorem own_gap {x g1 g2 q lo : Int} (h : ¬ (g1 ≤ x ∧ x ≤ g2)) (hq : ¬ x ≤ q) (e1 : g1 = q + 1) (e2 : lo = g2 + 1) : lo ≤ x := by omega
theorem own_gap1 {x g q lo : Int} (h : ¬ x = g) (hq : ¬ x ≤ q) (e1 : g = q + 1) (e2 : lo = g + 1) : lo ≤ x := by omega
theorem own_iff (x : Int) : ((192 ≤ x ∧ x ≤ 214) ∨ (216 ≤ x ∧ x ≤ 246) ∨ (248 ≤ x ∧ x ≤ 767) ∨ (880 ≤ x ∧ x ≤ 893) ∨ (895 ≤ x ∧ x ≤ 8191) ∨ (8204 ≤ x ∧ x ≤ 8205) ∨ (8304 ≤ x ∧ x ≤ 8591) ∨ (11264 ≤ x ∧ x ≤ 12271) ∨ (12289 ≤ x ∧ x ≤ 55295) ∨ (63744 ≤ x ∧ x ≤ 64975) ∨ (65008 ≤ x ∧ x ≤ 65533) ∨ (65536 ≤ x ∧ x ≤ 983039)) ↔ ((192 ≤ x ∧ x ≤ 983039) ∧ (¬ (x = 215 ∨ x = 247 ∨ x = 894)) ∧ (¬ (768 ≤ x ∧ x ≤ 879)) ∧ (¬ (8192 ≤ x ∧ x ≤ 8203)) ∧ (¬ (8206 ≤ x ∧ x ≤ 8303)) ∧ (¬ (8592 ≤ x ∧ x ≤ 11263)) ∧ (¬ (12272 ≤ x ∧ x ≤ 12288)) ∧ (¬ (55296 ≤ x ∧ x ≤ 63743)) ∧ (¬ (64976 ≤ x ∧ x ≤ 65007)) ∧ (¬ (65534 ≤ x ∧ x ≤ 65535))) := by
  constructor
  · intro h; rcases h with h | h | h | h | h | h | h | h | h | h | h | h
    · exact ⟨⟨by omega, by omega⟩, by omega, by omega, by omega, by omega, by omega, by omega, by omega, by omega, by omega⟩
    · exact ⟨⟨by omega, by omega⟩, by omega, by omega, by omega, by omega, by omega, by omega, by omega, by omega, by omega⟩
    · exact ⟨⟨by omega, by omega⟩, by omega, by omega, by omega, by omega, by omega, by omega, by omega, by omega, by omega⟩
    · exact ⟨⟨by omega, by omega⟩, by omega, by omega, by omega, by omega, by omega, by omega, by omega, by omega, by omega⟩
    · exact ⟨⟨by omega, by omega⟩, by omega, by omega, by omega, by omega, by omega, by omega, by omega, by omega, by omega⟩
    · exact ⟨⟨by omega, by omega⟩, by omega, by omega, by omega, by omega, by omega, by omega, by omega, by omega, by omega⟩
    · exact ⟨⟨by omega, by omega⟩, by omega, by omega, by omega, by omega, by omega, by omega, by omega, by omega, by omega⟩
    · exact ⟨⟨by omega, by omega⟩, by omega, by omega, by omega, by omega, by omega, by omega, by omega, by omega, by omega⟩
    · exact ⟨⟨by omega, by omega⟩, by omega, by omega, by omega, by omega, by omega, by omega, by omega, by omega, by omega⟩
    · exact ⟨⟨by omega, by omega⟩, by omega, by omega, by omega, by omega, by omega, by omega, by omega, by omega, by omega⟩
    · exact ⟨⟨by omega, by omega⟩, by omega, by omega, by omega, by omega, by omega, by omega, by omega, by omega, by omega⟩
    · exact ⟨⟨by omega, by omega⟩, by omega, by omega, by omega, by omega, by omega, by omega, by omega, by omega, by omega⟩
  · intro h; obtain ⟨⟨l0, u0⟩, q1, q2, q3, q4, q5, q6, q7, q8, q9⟩ := h
    by_cases n0 : x ≤ 214
    · exact Or.inl ⟨l0, n0⟩
    have l1 : (216 : Int) ≤ x := own_gap1 (fun y => q1 (Or.inl y)) n0 (by decide) (by decide)
    by_cases n1 : x ≤ 246
    · exact Or.inr (Or.inl ⟨l1, n1⟩)
    have l2 : (248 : Int) ≤ x := own_gap1 (fun y => q1 (Or.inr (Or.inl y))) n1 (by decide) (by decide)
    by_cases n2 : x ≤ 767
    · exact Or.inr (Or.inr (Or.inl ⟨l2, n2⟩))
    have l3 : (880 : Int) ≤ x := own_gap q2 n2 (by decide) (by decide)
    by_cases n3 : x ≤ 893
    · exact Or.inr (Or.inr (Or.inr (Or.inl ⟨l3, n3⟩)))
    have l4 : (895 : Int) ≤ x := own_gap1 (fun y => q1 (Or.inr (Or.inr y))) n3 (by decide) (by decide)
    by_cases n4 : x ≤ 8191
    · exact Or.inr (Or.inr (Or.inr (Or.inr (Or.inl ⟨l4, n4⟩))))
    have l5 : (8204 : Int) ≤ x := own_gap q3 n4 (by decide) (by decide)
    by_cases n5 : x ≤ 8205
    · exact Or.inr (Or.inr (Or.inr (Or.inr (Or.inr (Or.inl ⟨l5, n5⟩)))))
    have l6 : (8304 : Int) ≤ x := own_gap q4 n5 (by decide) (by decide)
    by_cases n6 : x ≤ 8591
    · exact Or.inr (Or.inr (Or.inr (Or.inr (Or.inr (Or.inr (Or.inl ⟨l6, n6⟩))))))
    have l7 : (11264 : Int) ≤ x := own_gap q5 n6 (by decide) (by decide)
    by_cases n7 : x ≤ 12271
    · exact Or.inr (Or.inr (Or.inr (Or.inr (Or.inr (Or.inr (Or.inr (Or.inl ⟨l7, n7⟩)))))))
    have l8 : (12289 : Int) ≤ x := own_gap q6 n7 (by decide) (by decide)
    by_cases n8 : x ≤ 55295
    · exact Or.inr (Or.inr (Or.inr (Or.inr (Or.inr (Or.inr (Or.inr (Or.inr (Or.inl ⟨l8, n8⟩))))))))
    have l9 : (63744 : Int) ≤ x := own_gap q7 n8 (by decide) (by decide)
    by_cases n9 : x ≤ 64975
    · exact Or.inr (Or.inr (Or.inr (Or.inr (Or.inr (Or.inr (Or.inr (Or.inr (Or.inr (Or.inl ⟨l9, n9⟩)))))))))
    have l10 : (65008 : Int) ≤ x := own_gap q8 n9 (by decide) (by decide)
    by_cases n10 : x ≤ 65533
    · exact Or.inr (Or.inr (Or.inr (Or.inr (Or.inr (Or.inr (Or.inr (Or.inr (Or.inr (Or.inr (Or.inl ⟨l10, n10⟩))))))))))
    have l11 : (65536 : Int) ≤ x := own_gap q9 n10 (by decide) (by decide)
    exact Or.inr (Or.inr (Or.inr (Or.inr (Or.inr (Or.inr (Or.inr (Or.inr (Or.inr (Or.inr (Or.inr (⟨l11, u0⟩)))))))))))
theorem own_same (c : Int32) : B1_0 c = B2_0 c := by
  rw [e1_0, e2_0]; exact own_ite (own_iff c.toInt)
theorem own_idx (k : Int32) : ¬ ((k &&& (2147483647 : Int32)) % (24 : Int32)) < 0 ∧ ((k &&& (2147483647 : Int32)) % (24 : Int32)) < (24 : Int32) := by
  have h := c_mask k 2147483647 31 (by decide) (by decide)
  have h1 : 0 ≤ (k &&& (2147483647 : Int32)).toInt := by rw [h]; exact Int.emod_nonneg _ (by decide)
  have h2 := (c_irem (k &&& 2147483647) 24 24 rfl).1 h1
  have k0 : (0 : Int32).toInt = 0 := rfl
  have k1 : (24 : Int32).toInt = 24 := rfl
  rw [Int32.lt_iff_toInt_lt, Int32.lt_iff_toInt_lt, h2, k0, k1]; omega
theorem own_elem {Z : State} {h : Heap} {a : Addr} {k : ClassId} {z : Int32} {vs : List Value} {d : Value} (V : Arv Z h a k .int z vs d) (q : Int32) (hj : ¬ ((q &&& (2147483647 : Int32)) % (24 : Int32)) < 0 ∧ ((q &&& (2147483647 : Int32)) % (24 : Int32)) < z) : ∃ x : Int32, vs.getD ((q &&& (2147483647 : Int32)) % (24 : Int32)).toNatClampNeg d = .int x := by
  obtain ⟨cl, A, q1, S, P, H, G⟩ := V
  have hin := inb_of S hj
  exact fit_I (G _ (Nat.lt_of_not_le fun y => hin (Or.inr y))) (Or.inl rfl)
theorem ef_rm0 (m : MethodId) (x0 : Int32) (x1 : Int32) (x2 : Int32) : entryFrame m #[(.int x0), (.int x1), (.int x2)] maxLocals = mkF m 0 #[.val (.int x0), .val (.int x1), .val (.int x2), .unset, .unset, .unset, .unset] [] := by first | (simp [entryFrame, mkF, argsToLocals, Value.category, maxLocals]; done) | rfl
def Q0 (Z : State) (p0 : Int32) (p1 : Int32) (p2 : Int32)  (h0 : Heap) (n0 : Nat) (v : Option Value) (h : Heap) (L : List Loc) : Prop := v = some (.int 1) ∧ Fr n0 L
set_option maxRecDepth 65536 in
set_option maxHeartbeats 40000000 in
theorem rm0 (l : Launch) (Z : State) (a0 : Array Value) (hw : ∀ d ∈ tables_1, d.before a0 Z = true) (ws : List Jvm.Cond) (p0 : Int32) (p1 : Int32) (p2 : Int32)  (h0 : Heap) (n0 : Nat) (Z0 : n0 ≤ h0.size)  :
    MetFree l x (head1 (Jvm.Cond.code x code maxLocals ret :: ws) room_1) (fun a U => a = #[(.int p0), (.int p1), (.int p2)] ∧ Z.Warmed39 U.vm ∧ U.heap = h0) (fun _ _ _ _ _ => True) (fun _ U o U' => ∃ v L, o = .returned v ∧ Q0 Z p0 p1 p2  h0 n0 v U'.heap L ∧ FrameEnd U o U' L 16 128) := by
  refine own_body (Qv := Q0 Z p0 p1 p2  h0 n0) (plainFor_of_name (by first | (simp [plainName, overriddenIn]; done) | decide +kernel)) ?_
  intro p e s m below meth c s₁ hx hby hml hret hlk hown hnm hZ X0 e0
  replace hown : s.vm.findClass "com/example/vetted_path/vettedpath/NameCharactersIsFifthEditionNameStartPinLaw" = some m.cls := hown
  replace hnm : meth.name = "law" := hnm
  have N0 := Fr.nil n0
  replace hml : c.maxLocals = 7 := hml
  refine own_Go.mono (T' := s₁) (f' := (mkF m 0 #[.val (.int p0), .val (.int p1), .val (.int p2), .unset, .unset, .unset, .unset] [])) (fun t k => castTop (ef_rm0 m p0 p1 p2) k) ?_
  obtain ⟨T46, h46, k46, X46, e46, E46, A46, st46⟩ := newP X0 hx hZ (hw _ (List.mem_of_getElem? (i := 0) rfl)) e0 (g := (mkF m 2 #[.val (.int p0), .val (.int p1), .val (.int p2), .unset, .unset, .unset, .unset] [(.int (24 : Int32))])) rfl (hb hby at_2) rfl (by decide) (cap := 24) (by decide) (by decide) (by decide) (by decide)
  obtain ⟨b, g46⟩ : ∃ z, z = h0.size := ⟨_, rfl⟩
  rw [← g46] at A46 st46
  have lo_b : n0 ≤ b := Nat.le_trans Z0 (Nat.le_of_eq g46.symm)
  have zh46 : n0 ≤ h46.size := Nat.le_trans Z0 E46.1
  have V_b_46 : Arv Z h46 b k46 .int (24 : Int32) [(.int (0 : Int32)), (.int (0 : Int32)), (.int (0 : Int32)), (.int (0 : Int32)), (.int (0 : Int32)), (.int (0 : Int32)), (.int (0 : Int32)), (.int (0 : Int32)), (.int (0 : Int32)), (.int (0 : Int32)), (.int (0 : Int32)), (.int (0 : Int32)), (.int (0 : Int32)), (.int (0 : Int32)), (.int (0 : Int32)), (.int (0 : Int32)), (.int (0 : Int32)), (.int (0 : Int32)), (.int (0 : Int32)), (.int (0 : Int32)), (.int (0 : Int32)), (.int (0 : Int32)), (.int (0 : Int32)), (.int (0 : Int32))] (.int (0 : Int32)) := (Arv.new A46 (by decide)).pad (pad_rep [] (.int (0 : Int32)) 24)
  obtain ⟨cl47, Ar47, q47, S47, P47, H47, G47⟩ := V_b_46
  have hin48 : ¬ ((0 : Int32) < 0 ∨ cl47.slots.size ≤ ((0 : Int32)).toNatClampNeg) := inb_of S47 ⟨by decide, by decide⟩
  obtain ⟨T48, h48, X48, e48, W48, st48⟩ := stI X46 hx hZ e46 Ar47 (j := (0 : Int32)) hin48 (g := (mkF m 9 #[.val (.int p0), .val (.int p1), .val (.int p2), .unset, .unset, .unset, .unset] [(.int (192 : Int32)), (.int (0 : Int32)), (.ref b), (.ref b)])) rfl rfl (hb hby at_9)
  have V_b_48 : Arv Z h48 b k46 .int (24 : Int32) [(.int (192 : Int32)), (.int (0 : Int32)), (.int (0 : Int32)), (.int (0 : Int32)), (.int (0 : Int32)), (.int (0 : Int32)), (.int (0 : Int32)), (.int (0 : Int32)), (.int (0 : Int32)), (.int (0 : Int32)), (.int (0 : Int32)), (.int (0 : Int32)), (.int (0 : Int32)), (.int (0 : Int32)), (.int (0 : Int32)), (.int (0 : Int32)), (.int (0 : Int32)), (.int (0 : Int32)), (.int (0 : Int32)), (.int (0 : Int32)), (.int (0 : Int32)), (.int (0 : Int32)), (.int (0 : Int32)), (.int (0 : Int32))] (.int (0 : Int32)) := Arv.set Ar47 q47 S47 P47 H47 G47 rfl W48 0 rfl (Nat.le_of_ble_eq_true rfl)
  have zh48 : n0 ≤ h48.size := Nat.le_trans zh46 (Nat.le_of_eq W48.size.symm)
  obtain ⟨Lh48, N48, X48⟩ : ∃ L, Fr n0 L ∧ Stand p l e _ _ m _ below meth c T48 L _ _ := ⟨_, Fr.snoc X48 N0 lo_b, X48⟩
  obtain ⟨cl49, Ar49, q49, S49, P49, H49, G49⟩ := V_b_48
  have hin50 : ¬ ((1 : Int32) < 0 ∨ cl49.slots.size ≤ ((1 : Int32)).toNatClampNeg) := inb_of S49 ⟨by decide, by decide⟩
  obtain ⟨T50, h50, X50, e50, W50, st50⟩ := stI X48 hx hZ e48 Ar49 (j := (1 : Int32)) hin50 (g := (mkF m 15 #[.val (.int p0), .val (.int p1), .val (.int p2), .unset, .unset, .unset, .unset] [(.int (214 : Int32)), (.int (1 : Int32)), (.ref b), (.ref b)])) rfl rfl (hb hby at_15)
  have V_b_50 : Arv Z h50 b k46 .int (24 : Int32) [(.int (192 : Int32)), (.int (214 : Int32)), (.int (0 : Int32)), (.int (0 : Int32)), (.int (0 : Int32)), (.int (0 : Int32)), (.int (0 : Int32)), (.int (0 : Int32)), (.int (0 : Int32)), (.int (0 : Int32)), (.int (0 : Int32)), (.int (0 : Int32)), (.int (0 : Int32)), (.int (0 : Int32)), (.int (0 : Int32)), (.int (0 : Int32)), (.int (0 : Int32)), (.int (0 : Int32)), (.int (0 : Int32)), (.int (0 : Int32)), (.int (0 : Int32)), (.int (0 : Int32)), (.int (0 : Int32)), (.int (0 : Int32))] (.int (0 : Int32)) := Arv.set Ar49 q49 S49 P49 H49 G49 rfl W50 1 rfl (Nat.le_of_ble_eq_true rfl)
  have zh50 : n0 ≤ h50.size := Nat.le_trans zh48 (Nat.le_of_eq W50.size.symm)
  obtain ⟨Lh50, N50, X50⟩ : ∃ L, Fr n0 L ∧ Stand p l e _ _ m _ below meth c T50 L _ _ := ⟨_, Fr.snoc X50 N48 lo_b, X50⟩
  obtain ⟨cl51, Ar51, q51, S51, P51, H51, G51⟩ := V_b_50
  have hin52 : ¬ ((2 : Int32) < 0 ∨ cl51.slots.size ≤ ((2 : Int32)).toNatClampNeg) := inb_of S51 ⟨by decide, by decide⟩
  obtain ⟨T52, h52, X52, e52, W52, st52⟩ := stI X50 hx hZ e50 Ar51 (j := (2 : Int32)) hin52 (g := (mkF m 21 #[.val (.int p0), .val (.int p1), .val (.int p2), .unset, .unset, .unset, .unset] [(.int (216 : Int32)), (.int (2 : Int32)), (.ref b), (.ref b)])) rfl rfl (hb hby at_21)
  have V_b_52 : Arv Z h52 b k46 .int (24 : Int32) [(.int (192 : Int32)), (.int (214 : Int32)), (.int (216 : Int32)), (.int (0 : Int32)), (.int (0 : Int32)), (.int (0 : Int32)), (.int (0 : Int32)), (.int (0 : Int32)), (.int (0 : Int32)), (.int (0 : Int32)), (.int (0 : Int32)), (.int (0 : Int32)), (.int (0 : Int32)), (.int (0 : Int32)), (.int (0 : Int32)), (.int (0 : Int32)), (.int (0 : Int32)), (.int (0 : Int32)), (.int (0 : Int32)), (.int (0 : Int32)), (.int (0 : Int32)), (.int (0 : Int32)), (.int (0 : Int32)), (.int (0 : Int32))] (.int (0 : Int32)) := Arv.set Ar51 q51 S51 P51 H51 G51 rfl W52 2 rfl (Nat.le_of_ble_eq_true rfl)
  have zh52 : n0 ≤ h52.size := Nat.le_trans zh50 (Nat.le_of_eq W52.size.symm)
  obtain ⟨Lh52, N52, X52⟩ : ∃ L, Fr n0 L ∧ Stand p l e _ _ m _ below meth c T52 L _ _ := ⟨_, Fr.snoc X52 N50 lo_b, X52⟩
  obtain ⟨cl53, Ar53, q53, S53, P53, H53, G53⟩ := V_b_52
  have hin54 : ¬ ((3 : Int32) < 0 ∨ cl53.slots.size ≤ ((3 : Int32)).toNatClampNeg) := inb_of S53 ⟨by decide, by decide⟩
  obtain ⟨T54, h54, X54, e54, W54, st54⟩ := stI X52 hx hZ e52 Ar53 (j := (3 : Int32)) hin54 (g := (mkF m 27 #[.val (.int p0), .val (.int p1), .val (.int p2), .unset, .unset, .unset, .unset] [(.int (246 : Int32)), (.int (3 : Int32)), (.ref b), (.ref b)])) rfl rfl (hb hby at_27)
  have V_b_54 : Arv Z h54 b k46 .int (24 : Int32) [(.int (192 : Int32)), (.int (214 : Int32)), (.int (216 : Int32)), (.int (246 : Int32)), (.int (0 : Int32)), (.int (0 : Int32)), (.int (0 : Int32)), (.int (0 : Int32)), (.int (0 : Int32)), (.int (0 : Int32)), (.int (0 : Int32)), (.int (0 : Int32)), (.int (0 : Int32)), (.int (0 : Int32)), (.int (0 : Int32)), (.int (0 : Int32)), (.int (0 : Int32)), (.int (0 : Int32)), (.int (0 : Int32)), (.int (0 : Int32)), (.int (0 : Int32)), (.int (0 : Int32)), (.int (0 : Int32)), (.int (0 : Int32))] (.int (0 : Int32)) := Arv.set Ar53 q53 S53 P53 H53 G53 rfl W54 3 rfl (Nat.le_of_ble_eq_true rfl)
  have zh54 : n0 ≤ h54.size := Nat.le_trans zh52 (Nat.le_of_eq W54.size.symm)
  obtain ⟨Lh54, N54, X54⟩ : ∃ L, Fr n0 L ∧ Stand p l e _ _ m _ below meth c T54 L _ _ := ⟨_, Fr.snoc X54 N52 lo_b, X54⟩
  obtain ⟨cl55, Ar55, q55, S55, P55, H55, G55⟩ := V_b_54
  have hin56 : ¬ ((4 : Int32) < 0 ∨ cl55.slots.size ≤ ((4 : Int32)).toNatClampNeg) := inb_of S55 ⟨by decide, by decide⟩
  obtain ⟨T56, h56, X56, e56, W56, st56⟩ := stI X54 hx hZ e54 Ar55 (j := (4 : Int32)) hin56 (g := (mkF m 33 #[.val (.int p0), .val (.int p1), .val (.int p2), .unset, .unset, .unset, .unset] [(.int (248 : Int32)), (.int (4 : Int32)), (.ref b), (.ref b)])) rfl rfl (hb hby at_33)
  have V_b_56 : Arv Z h56 b k46 .int (24 : Int32) [(.int (192 : Int32)), (.int (214 : Int32)), (.int (216 : Int32)), (.int (246 : Int32)), (.int (248 : Int32)), (.int (0 : Int32)), (.int (0 : Int32)), (.int (0 : Int32)), (.int (0 : Int32)), (.int (0 : Int32)), (.int (0 : Int32)), (.int (0 : Int32)), (.int (0 : Int32)), (.int (0 : Int32)), (.int (0 : Int32)), (.int (0 : Int32)), (.int (0 : Int32)), (.int (0 : Int32)), (.int (0 : Int32)), (.int (0 : Int32)), (.int (0 : Int32)), (.int (0 : Int32)), (.int (0 : Int32)), (.int (0 : Int32))] (.int (0 : Int32)) := Arv.set Ar55 q55 S55 P55 H55 G55 rfl W56 4 rfl (Nat.le_of_ble_eq_true rfl)
  have zh56 : n0 ≤ h56.size := Nat.le_trans zh54 (Nat.le_of_eq W56.size.symm)
  obtain ⟨Lh56, N56, X56⟩ : ∃ L, Fr n0 L ∧ Stand p l e _ _ m _ below meth c T56 L _ _ := ⟨_, Fr.snoc X56 N54 lo_b, X56⟩
  obtain ⟨cl57, Ar57, q57, S57, P57, H57, G57⟩ := V_b_56
  have hin58 : ¬ ((5 : Int32) < 0 ∨ cl57.slots.size ≤ ((5 : Int32)).toNatClampNeg) := inb_of S57 ⟨by decide, by decide⟩
  obtain ⟨T58, h58, X58, e58, W58, st58⟩ := stI X56 hx hZ e56 Ar57 (j := (5 : Int32)) hin58 (g := (mkF m 39 #[.val (.int p0), .val (.int p1), .val (.int p2), .unset, .unset, .unset, .unset] [(.int (767 : Int32)), (.int (5 : Int32)), (.ref b), (.ref b)])) rfl rfl (hb hby at_39)
  have V_b_58 : Arv Z h58 b k46 .int (24 : Int32) [(.int (192 : Int32)), (.int (214 : Int32)), (.int (216 : Int32)), (.int (246 : Int32)), (.int (248 : Int32)), (.int (767 : Int32)), (.int (0 : Int32)), (.int (0 : Int32)), (.int (0 : Int32)), (.int (0 : Int32)), (.int (0 : Int32)), (.int (0 : Int32)), (.int (0 : Int32)), (.int (0 : Int32)), (.int (0 : Int32)), (.int (0 : Int32)), (.int (0 : Int32)), (.int (0 : Int32)), (.int (0 : Int32)), (.int (0 : Int32)), (.int (0 : Int32)), (.int (0 : Int32)), (.int (0 : Int32)), (.int (0 : Int32))] (.int (0 : Int32)) := Arv.set Ar57 q57 S57 P57 H57 G57 rfl W58 5 rfl (Nat.le_of_ble_eq_true rfl)
  have zh58 : n0 ≤ h58.size := Nat.le_trans zh56 (Nat.le_of_eq W58.size.symm)
  obtain ⟨Lh58, N58, X58⟩ : ∃ L, Fr n0 L ∧ Stand p l e _ _ m _ below meth c T58 L _ _ := ⟨_, Fr.snoc X58 N56 lo_b, X58⟩
  obtain ⟨cl59, Ar59, q59, S59, P59, H59, G59⟩ := V_b_58
  have hin60 : ¬ ((6 : Int32) < 0 ∨ cl59.slots.size ≤ ((6 : Int32)).toNatClampNeg) := inb_of S59 ⟨by decide, by decide⟩
  obtain ⟨T60, h60, X60, e60, W60, st60⟩ := stI X58 hx hZ e58 Ar59 (j := (6 : Int32)) hin60 (g := (mkF m 46 #[.val (.int p0), .val (.int p1), .val (.int p2), .unset, .unset, .unset, .unset] [(.int (880 : Int32)), (.int (6 : Int32)), (.ref b), (.ref b)])) rfl rfl (hb hby at_46)
  have V_b_60 : Arv Z h60 b k46 .int (24 : Int32) [(.int (192 : Int32)), (.int (214 : Int32)), (.int (216 : Int32)), (.int (246 : Int32)), (.int (248 : Int32)), (.int (767 : Int32)), (.int (880 : Int32)), (.int (0 : Int32)), (.int (0 : Int32)), (.int (0 : Int32)), (.int (0 : Int32)), (.int (0 : Int32)), (.int (0 : Int32)), (.int (0 : Int32)), (.int (0 : Int32)), (.int (0 : Int32)), (.int (0 : Int32)), (.int (0 : Int32)), (.int (0 : Int32)), (.int (0 : Int32)), (.int (0 : Int32)), (.int (0 : Int32)), (.int (0 : Int32)), (.int (0 : Int32))] (.int (0 : Int32)) := Arv.set Ar59 q59 S59 P59 H59 G59 rfl W60 6 rfl (Nat.le_of_ble_eq_true rfl)
  have zh60 : n0 ≤ h60.size := Nat.le_trans zh58 (Nat.le_of_eq W60.size.symm)
  obtain ⟨Lh60, N60, X60⟩ : ∃ L, Fr n0 L ∧ Stand p l e _ _ m _ below meth c T60 L _ _ := ⟨_, Fr.snoc X60 N58 lo_b, X60⟩
  obtain ⟨cl61, Ar61, q61, S61, P61, H61, G61⟩ := V_b_60
  have hin62 : ¬ ((7 : Int32) < 0 ∨ cl61.slots.size ≤ ((7 : Int32)).toNatClampNeg) := inb_of S61 ⟨by decide, by decide⟩
  obtain ⟨T62, h62, X62, e62, W62, st62⟩ := stI X60 hx hZ e60 Ar61 (j := (7 : Int32)) hin62 (g := (mkF m 53 #[.val (.int p0), .val (.int p1), .val (.int p2), .unset, .unset, .unset, .unset] [(.int (893 : Int32)), (.int (7 : Int32)), (.ref b), (.ref b)])) rfl rfl (hb hby at_53)
  have V_b_62 : Arv Z h62 b k46 .int (24 : Int32) [(.int (192 : Int32)), (.int (214 : Int32)), (.int (216 : Int32)), (.int (246 : Int32)), (.int (248 : Int32)), (.int (767 : Int32)), (.int (880 : Int32)), (.int (893 : Int32)), (.int (0 : Int32)), (.int (0 : Int32)), (.int (0 : Int32)), (.int (0 : Int32)), (.int (0 : Int32)), (.int (0 : Int32)), (.int (0 : Int32)), (.int (0 : Int32)), (.int (0 : Int32)), (.int (0 : Int32)), (.int (0 : Int32)), (.int (0 : Int32)), (.int (0 : Int32)), (.int (0 : Int32)), (.int (0 : Int32)), (.int (0 : Int32))] (.int (0 : Int32)) := Arv.set Ar61 q61 S61 P61 H61 G61 rfl W62 7 rfl (Nat.le_of_ble_eq_true rfl)
  have zh62 : n0 ≤ h62.size := Nat.le_trans zh60 (Nat.le_of_eq W62.size.symm)
  obtain ⟨Lh62, N62, X62⟩ : ∃ L, Fr n0 L ∧ Stand p l e _ _ m _ below meth c T62 L _ _ := ⟨_, Fr.snoc X62 N60 lo_b, X62⟩
  obtain ⟨cl63, Ar63, q63, S63, P63, H63, G63⟩ := V_b_62
  have hin64 : ¬ ((8 : Int32) < 0 ∨ cl63.slots.size ≤ ((8 : Int32)).toNatClampNeg) := inb_of S63 ⟨by decide, by decide⟩
  obtain ⟨T64, h64, X64, e64, W64, st64⟩ := stI X62 hx hZ e62 Ar63 (j := (8 : Int32)) hin64 (g := (mkF m 60 #[.val (.int p0), .val (.int p1), .val (.int p2), .unset, .unset, .unset, .unset] [(.int (895 : Int32)), (.int (8 : Int32)), (.ref b), (.ref b)])) rfl rfl (hb hby at_60)
  have V_b_64 : Arv Z h64 b k46 .int (24 : Int32) [(.int (192 : Int32)), (.int (214 : Int32)), (.int (216 : Int32)), (.int (246 : Int32)), (.int (248 : Int32)), (.int (767 : Int32)), (.int (880 : Int32)), (.int (893 : Int32)), (.int (895 : Int32)), (.int (0 : Int32)), (.int (0 : Int32)), (.int (0 : Int32)), (.int (0 : Int32)), (.int (0 : Int32)), (.int (0 : Int32)), (.int (0 : Int32)), (.int (0 : Int32)), (.int (0 : Int32)), (.int (0 : Int32)), (.int (0 : Int32)), (.int (0 : Int32)), (.int (0 : Int32)), (.int (0 : Int32)), (.int (0 : Int32))] (.int (0 : Int32)) := Arv.set Ar63 q63 S63 P63 H63 G63 rfl W64 8 rfl (Nat.le_of_ble_eq_true rfl)
  have zh64 : n0 ≤ h64.size := Nat.le_trans zh62 (Nat.le_of_eq W64.size.symm)
  obtain ⟨Lh64, N64, X64⟩ : ∃ L, Fr n0 L ∧ Stand p l e _ _ m _ below meth c T64 L _ _ := ⟨_, Fr.snoc X64 N62 lo_b, X64⟩
  obtain ⟨cl65, Ar65, q65, S65, P65, H65, G65⟩ := V_b_64
  have hin66 : ¬ ((9 : Int32) < 0 ∨ cl65.slots.size ≤ ((9 : Int32)).toNatClampNeg) := inb_of S65 ⟨by decide, by decide⟩
  obtain ⟨T66, h66, X66, e66, W66, st66⟩ := stI X64 hx hZ e64 Ar65 (j := (9 : Int32)) hin66 (g := (mkF m 67 #[.val (.int p0), .val (.int p1), .val (.int p2), .unset, .unset, .unset, .unset] [(.int (8191 : Int32)), (.int (9 : Int32)), (.ref b), (.ref b)])) rfl rfl (hb hby at_67)
  have V_b_66 : Arv Z h66 b k46 .int (24 : Int32) [(.int (192 : Int32)), (.int (214 : Int32)), (.int (216 : Int32)), (.int (246 : Int32)), (.int (248 : Int32)), (.int (767 : Int32)), (.int (880 : Int32)), (.int (893 : Int32)), (.int (895 : Int32)), (.int (8191 : Int32)), (.int (0 : Int32)), (.int (0 : Int32)), (.int (0 : Int32)), (.int (0 : Int32)), (.int (0 : Int32)), (.int (0 : Int32)), (.int (0 : Int32)), (.int (0 : Int32)), (.int (0 : Int32)), (.int (0 : Int32)), (.int (0 : Int32)), (.int (0 : Int32)), (.int (0 : Int32)), (.int (0 : Int32))] (.int (0 : Int32)) := Arv.set Ar65 q65 S65 P65 H65 G65 rfl W66 9 rfl (Nat.le_of_ble_eq_true rfl)
  have zh66 : n0 ≤ h66.size := Nat.le_trans zh64 (Nat.le_of_eq W66.size.symm)
  obtain ⟨Lh66, N66, X66⟩ : ∃ L, Fr n0 L ∧ Stand p l e _ _ m _ below meth c T66 L _ _ := ⟨_, Fr.snoc X66 N64 lo_b, X66⟩
  obtain ⟨cl67, Ar67, q67, S67, P67, H67, G67⟩ := V_b_66
  have hin68 : ¬ ((10 : Int32) < 0 ∨ cl67.slots.size ≤ ((10 : Int32)).toNatClampNeg) := inb_of S67 ⟨by decide, by decide⟩
  obtain ⟨T68, h68, X68, e68, W68, st68⟩ := stI X66 hx hZ e66 Ar67 (j := (10 : Int32)) hin68 (g := (mkF m 74 #[.val (.int p0), .val (.int p1), .val (.int p2), .unset, .unset, .unset, .unset] [(.int (8204 : Int32)), (.int (10 : Int32)), (.ref b), (.ref b)])) rfl rfl (hb hby at_74)
  have V_b_68 : Arv Z h68 b k46 .int (24 : Int32) [(.int (192 : Int32)), (.int (214 : Int32)), (.int (216 : Int32)), (.int (246 : Int32)), (.int (248 : Int32)), (.int (767 : Int32)), (.int (880 : Int32)), (.int (893 : Int32)), (.int (895 : Int32)), (.int (8191 : Int32)), (.int (8204 : Int32)), (.int (0 : Int32)), (.int (0 : Int32)), (.int (0 : Int32)), (.int (0 : Int32)), (.int (0 : Int32)), (.int (0 : Int32)), (.int (0 : Int32)), (.int (0 : Int32)), (.int (0 : Int32)), (.int (0 : Int32)), (.int (0 : Int32)), (.int (0 : Int32)), (.int (0 : Int32))] (.int (0 : Int32)) := Arv.set Ar67 q67 S67 P67 H67 G67 rfl W68 10 rfl (Nat.le_of_ble_eq_true rfl)
  have zh68 : n0 ≤ h68.size := Nat.le_trans zh66 (Nat.le_of_eq W68.size.symm)
  obtain ⟨Lh68, N68, X68⟩ : ∃ L, Fr n0 L ∧ Stand p l e _ _ m _ below meth c T68 L _ _ := ⟨_, Fr.snoc X68 N66 lo_b, X68⟩
  obtain ⟨cl69, Ar69, q69, S69, P69, H69, G69⟩ := V_b_68
  have hin70 : ¬ ((11 : Int32) < 0 ∨ cl69.slots.size ≤ ((11 : Int32)).toNatClampNeg) := inb_of S69 ⟨by decide, by decide⟩
  obtain ⟨T70, h70, X70, e70, W70, st70⟩ := stI X68 hx hZ e68 Ar69 (j := (11 : Int32)) hin70 (g := (mkF m 81 #[.val (.int p0), .val (.int p1), .val (.int p2), .unset, .unset, .unset, .unset] [(.int (8205 : Int32)), (.int (11 : Int32)), (.ref b), (.ref b)])) rfl rfl (hb hby at_81)
  have V_b_70 : Arv Z h70 b k46 .int (24 : Int32) [(.int (192 : Int32)), (.int (214 : Int32)), (.int (216 : Int32)), (.int (246 : Int32)), (.int (248 : Int32)), (.int (767 : Int32)), (.int (880 : Int32)), (.int (893 : Int32)), (.int (895 : Int32)), (.int (8191 : Int32)), (.int (8204 : Int32)), (.int (8205 : Int32)), (.int (0 : Int32)), (.int (0 : Int32)), (.int (0 : Int32)), (.int (0 : Int32)), (.int (0 : Int32)), (.int (0 : Int32)), (.int (0 : Int32)), (.int (0 : Int32)), (.int (0 : Int32)), (.int (0 : Int32)), (.int (0 : Int32)), (.int (0 : Int32))] (.int (0 : Int32)) := Arv.set Ar69 q69 S69 P69 H69 G69 rfl W70 11 rfl (Nat.le_of_ble_eq_true rfl)
  have zh70 : n0 ≤ h70.size := Nat.le_trans zh68 (Nat.le_of_eq W70.size.symm)
  obtain ⟨Lh70, N70, X70⟩ : ∃ L, Fr n0 L ∧ Stand p l e _ _ m _ below meth c T70 L _ _ := ⟨_, Fr.snoc X70 N68 lo_b, X70⟩
  obtain ⟨cl71, Ar71, q71, S71, P71, H71, G71⟩ := V_b_70
  have hin72 : ¬ ((12 : Int32) < 0 ∨ cl71.slots.size ≤ ((12 : Int32)).toNatClampNeg) := inb_of S71 ⟨by decide, by decide⟩
  obtain ⟨T72, h72, X72, e72, W72, st72⟩ := stI X70 hx hZ e70 Ar71 (j := (12 : Int32)) hin72 (g := (mkF m 88 #[.val (.int p0), .val (.int p1), .val (.int p2), .unset, .unset, .unset, .unset] [(.int (8304 : Int32)), (.int (12 : Int32)), (.ref b), (.ref b)])) rfl rfl (hb hby at_88)
  have V_b_72 : Arv Z h72 b k46 .int (24 : Int32) [(.int (192 : Int32)), (.int (214 : Int32)), (.int (216 : Int32)), (.int (246 : Int32)), (.int (248 : Int32)), (.int (767 : Int32)), (.int (880 : Int32)), (.int (893 : Int32)), (.int (895 : Int32)), (.int (8191 : Int32)), (.int (8204 : Int32)), (.int (8205 : Int32)), (.int (8304 : Int32)), (.int (0 : Int32)), (.int (0 : Int32)), (.int (0 : Int32)), (.int (0 : Int32)), (.int (0 : Int32)), (.int (0 : Int32)), (.int (0 : Int32)), (.int (0 : Int32)), (.int (0 : Int32)), (.int (0 : Int32)), (.int (0 : Int32))] (.int (0 : Int32)) := Arv.set Ar71 q71 S71 P71 H71 G71 rfl W72 12 rfl (Nat.le_of_ble_eq_true rfl)
  have zh72 : n0 ≤ h72.size := Nat.le_trans zh70 (Nat.le_of_eq W72.size.symm)
  obtain ⟨Lh72, N72, X72⟩ : ∃ L, Fr n0 L ∧ Stand p l e _ _ m _ below meth c T72 L _ _ := ⟨_, Fr.snoc X72 N70 lo_b, X72⟩
  obtain ⟨cl73, Ar73, q73, S73, P73, H73, G73⟩ := V_b_72
  have hin74 : ¬ ((13 : Int32) < 0 ∨ cl73.slots.size ≤ ((13 : Int32)).toNatClampNeg) := inb_of S73 ⟨by decide, by decide⟩
  obtain ⟨T74, h74, X74, e74, W74, st74⟩ := stI X72 hx hZ e72 Ar73 (j := (13 : Int32)) hin74 (g := (mkF m 95 #[.val (.int p0), .val (.int p1), .val (.int p2), .unset, .unset, .unset, .unset] [(.int (8591 : Int32)), (.int (13 : Int32)), (.ref b), (.ref b)])) rfl rfl (hb hby at_95)
  have V_b_74 : Arv Z h74 b k46 .int (24 : Int32) [(.int (192 : Int32)), (.int (214 : Int32)), (.int (216 : Int32)), (.int (246 : Int32)), (.int (248 : Int32)), (.int (767 : Int32)), (.int (880 : Int32)), (.int (893 : Int32)), (.int (895 : Int32)), (.int (8191 : Int32)), (.int (8204 : Int32)), (.int (8205 : Int32)), (.int (8304 : Int32)), (.int (8591 : Int32)), (.int (0 : Int32)), (.int (0 : Int32)), (.int (0 : Int32)), (.int (0 : Int32)), (.int (0 : Int32)), (.int (0 : Int32)), (.int (0 : Int32)), (.int (0 : Int32)), (.int (0 : Int32)), (.int (0 : Int32))] (.int (0 : Int32)) := Arv.set Ar73 q73 S73 P73 H73 G73 rfl W74 13 rfl (Nat.le_of_ble_eq_true rfl)
  have zh74 : n0 ≤ h74.size := Nat.le_trans zh72 (Nat.le_of_eq W74.size.symm)
  obtain ⟨Lh74, N74, X74⟩ : ∃ L, Fr n0 L ∧ Stand p l e _ _ m _ below meth c T74 L _ _ := ⟨_, Fr.snoc X74 N72 lo_b, X74⟩
  obtain ⟨cl75, Ar75, q75, S75, P75, H75, G75⟩ := V_b_74
  have hin76 : ¬ ((14 : Int32) < 0 ∨ cl75.slots.size ≤ ((14 : Int32)).toNatClampNeg) := inb_of S75 ⟨by decide, by decide⟩
  obtain ⟨T76, h76, X76, e76, W76, st76⟩ := stI X74 hx hZ e74 Ar75 (j := (14 : Int32)) hin76 (g := (mkF m 102 #[.val (.int p0), .val (.int p1), .val (.int p2), .unset, .unset, .unset, .unset] [(.int (11264 : Int32)), (.int (14 : Int32)), (.ref b), (.ref b)])) rfl rfl (hb hby at_102)
  have V_b_76 : Arv Z h76 b k46 .int (24 : Int32) [(.int (192 : Int32)), (.int (214 : Int32)), (.int (216 : Int32)), (.int (246 : Int32)), (.int (248 : Int32)), (.int (767 : Int32)), (.int (880 : Int32)), (.int (893 : Int32)), (.int (895 : Int32)), (.int (8191 : Int32)), (.int (8204 : Int32)), (.int (8205 : Int32)), (.int (8304 : Int32)), (.int (8591 : Int32)), (.int (11264 : Int32)), (.int (0 : Int32)), (.int (0 : Int32)), (.int (0 : Int32)), (.int (0 : Int32)), (.int (0 : Int32)), (.int (0 : Int32)), (.int (0 : Int32)), (.int (0 : Int32)), (.int (0 : Int32))] (.int (0 : Int32)) := Arv.set Ar75 q75 S75 P75 H75 G75 rfl W76 14 rfl (Nat.le_of_ble_eq_true rfl)
  have zh76 : n0 ≤ h76.size := Nat.le_trans zh74 (Nat.le_of_eq W76.size.symm)
  obtain ⟨Lh76, N76, X76⟩ : ∃ L, Fr n0 L ∧ Stand p l e _ _ m _ below meth c T76 L _ _ := ⟨_, Fr.snoc X76 N74 lo_b, X76⟩
  obtain ⟨cl77, Ar77, q77, S77, P77, H77, G77⟩ := V_b_76
  have hin78 : ¬ ((15 : Int32) < 0 ∨ cl77.slots.size ≤ ((15 : Int32)).toNatClampNeg) := inb_of S77 ⟨by decide, by decide⟩
  obtain ⟨T78, h78, X78, e78, W78, st78⟩ := stI X76 hx hZ e76 Ar77 (j := (15 : Int32)) hin78 (g := (mkF m 109 #[.val (.int p0), .val (.int p1), .val (.int p2), .unset, .unset, .unset, .unset] [(.int (12271 : Int32)), (.int (15 : Int32)), (.ref b), (.ref b)])) rfl rfl (hb hby at_109)
  have V_b_78 : Arv Z h78 b k46 .int (24 : Int32) [(.int (192 : Int32)), (.int (214 : Int32)), (.int (216 : Int32)), (.int (246 : Int32)), (.int (248 : Int32)), (.int (767 : Int32)), (.int (880 : Int32)), (.int (893 : Int32)), (.int (895 : Int32)), (.int (8191 : Int32)), (.int (8204 : Int32)), (.int (8205 : Int32)), (.int (8304 : Int32)), (.int (8591 : Int32)), (.int (11264 : Int32)), (.int (12271 : Int32)), (.int (0 : Int32)), (.int (0 : Int32)), (.int (0 : Int32)), (.int (0 : Int32)), (.int (0 : Int32)), (.int (0 : Int32)), (.int (0 : Int32)), (.int (0 : Int32))] (.int (0 : Int32)) := Arv.set Ar77 q77 S77 P77 H77 G77 rfl W78 15 rfl (Nat.le_of_ble_eq_true rfl)
  have zh78 : n0 ≤ h78.size := Nat.le_trans zh76 (Nat.le_of_eq W78.size.symm)
  obtain ⟨Lh78, N78, X78⟩ : ∃ L, Fr n0 L ∧ Stand p l e _ _ m _ below meth c T78 L _ _ := ⟨_, Fr.snoc X78 N76 lo_b, X78⟩
  obtain ⟨cl79, Ar79, q79, S79, P79, H79, G79⟩ := V_b_78
  have hin80 : ¬ ((16 : Int32) < 0 ∨ cl79.slots.size ≤ ((16 : Int32)).toNatClampNeg) := inb_of S79 ⟨by decide, by decide⟩
  obtain ⟨T80, h80, X80, e80, W80, st80⟩ := stI X78 hx hZ e78 Ar79 (j := (16 : Int32)) hin80 (g := (mkF m 116 #[.val (.int p0), .val (.int p1), .val (.int p2), .unset, .unset, .unset, .unset] [(.int (12289 : Int32)), (.int (16 : Int32)), (.ref b), (.ref b)])) rfl rfl (hb hby at_116)
  have V_b_80 : Arv Z h80 b k46 .int (24 : Int32) [(.int (192 : Int32)), (.int (214 : Int32)), (.int (216 : Int32)), (.int (246 : Int32)), (.int (248 : Int32)), (.int (767 : Int32)), (.int (880 : Int32)), (.int (893 : Int32)), (.int (895 : Int32)), (.int (8191 : Int32)), (.int (8204 : Int32)), (.int (8205 : Int32)), (.int (8304 : Int32)), (.int (8591 : Int32)), (.int (11264 : Int32)), (.int (12271 : Int32)), (.int (12289 : Int32)), (.int (0 : Int32)), (.int (0 : Int32)), (.int (0 : Int32)), (.int (0 : Int32)), (.int (0 : Int32)), (.int (0 : Int32)), (.int (0 : Int32))] (.int (0 : Int32)) := Arv.set Ar79 q79 S79 P79 H79 G79 rfl W80 16 rfl (Nat.le_of_ble_eq_true rfl)
  have zh80 : n0 ≤ h80.size := Nat.le_trans zh78 (Nat.le_of_eq W80.size.symm)
  obtain ⟨Lh80, N80, X80⟩ : ∃ L, Fr n0 L ∧ Stand p l e _ _ m _ below meth c T80 L _ _ := ⟨_, Fr.snoc X80 N78 lo_b, X80⟩
  obtain ⟨cl81, Ar81, q81, S81, P81, H81, G81⟩ := V_b_80
  have hin82 : ¬ ((17 : Int32) < 0 ∨ cl81.slots.size ≤ ((17 : Int32)).toNatClampNeg) := inb_of S81 ⟨by decide, by decide⟩
  obtain ⟨T82, h82, X82, e82, W82, st82⟩ := stI X80 hx hZ e80 Ar81 (j := (17 : Int32)) hin82 (g := (mkF m 122 #[.val (.int p0), .val (.int p1), .val (.int p2), .unset, .unset, .unset, .unset] [(.int (55295 : Int32)), (.int (17 : Int32)), (.ref b), (.ref b)])) rfl rfl (hb hby at_122)
  have V_b_82 : Arv Z h82 b k46 .int (24 : Int32) [(.int (192 : Int32)), (.int (214 : Int32)), (.int (216 : Int32)), (.int (246 : Int32)), (.int (248 : Int32)), (.int (767 : Int32)), (.int (880 : Int32)), (.int (893 : Int32)), (.int (895 : Int32)), (.int (8191 : Int32)), (.int (8204 : Int32)), (.int (8205 : Int32)), (.int (8304 : Int32)), (.int (8591 : Int32)), (.int (11264 : Int32)), (.int (12271 : Int32)), (.int (12289 : Int32)), (.int (55295 : Int32)), (.int (0 : Int32)), (.int (0 : Int32)), (.int (0 : Int32)), (.int (0 : Int32)), (.int (0 : Int32)), (.int (0 : Int32))] (.int (0 : Int32)) := Arv.set Ar81 q81 S81 P81 H81 G81 rfl W82 17 rfl (Nat.le_of_ble_eq_true rfl)
  have zh82 : n0 ≤ h82.size := Nat.le_trans zh80 (Nat.le_of_eq W82.size.symm)
  obtain ⟨Lh82, N82, X82⟩ : ∃ L, Fr n0 L ∧ Stand p l e _ _ m _ below meth c T82 L _ _ := ⟨_, Fr.snoc X82 N80 lo_b, X82⟩
  obtain ⟨cl83, Ar83, q83, S83, P83, H83, G83⟩ := V_b_82
  have hin84 : ¬ ((18 : Int32) < 0 ∨ cl83.slots.size ≤ ((18 : Int32)).toNatClampNeg) := inb_of S83 ⟨by decide, by decide⟩
  obtain ⟨T84, h84, X84, e84, W84, st84⟩ := stI X82 hx hZ e82 Ar83 (j := (18 : Int32)) hin84 (g := (mkF m 128 #[.val (.int p0), .val (.int p1), .val (.int p2), .unset, .unset, .unset, .unset] [(.int (63744 : Int32)), (.int (18 : Int32)), (.ref b), (.ref b)])) rfl rfl (hb hby at_128)
  have V_b_84 : Arv Z h84 b k46 .int (24 : Int32) [(.int (192 : Int32)), (.int (214 : Int32)), (.int (216 : Int32)), (.int (246 : Int32)), (.int (248 : Int32)), (.int (767 : Int32)), (.int (880 : Int32)), (.int (893 : Int32)), (.int (895 : Int32)), (.int (8191 : Int32)), (.int (8204 : Int32)), (.int (8205 : Int32)), (.int (8304 : Int32)), (.int (8591 : Int32)), (.int (11264 : Int32)), (.int (12271 : Int32)), (.int (12289 : Int32)), (.int (55295 : Int32)), (.int (63744 : Int32)), (.int (0 : Int32)), (.int (0 : Int32)), (.int (0 : Int32)), (.int (0 : Int32)), (.int (0 : Int32))] (.int (0 : Int32)) := Arv.set Ar83 q83 S83 P83 H83 G83 rfl W84 18 rfl (Nat.le_of_ble_eq_true rfl)
  have zh84 : n0 ≤ h84.size := Nat.le_trans zh82 (Nat.le_of_eq W84.size.symm)
  obtain ⟨Lh84, N84, X84⟩ : ∃ L, Fr n0 L ∧ Stand p l e _ _ m _ below meth c T84 L _ _ := ⟨_, Fr.snoc X84 N82 lo_b, X84⟩
  obtain ⟨cl85, Ar85, q85, S85, P85, H85, G85⟩ := V_b_84
  have hin86 : ¬ ((19 : Int32) < 0 ∨ cl85.slots.size ≤ ((19 : Int32)).toNatClampNeg) := inb_of S85 ⟨by decide, by decide⟩
  obtain ⟨T86, h86, X86, e86, W86, st86⟩ := stI X84 hx hZ e84 Ar85 (j := (19 : Int32)) hin86 (g := (mkF m 134 #[.val (.int p0), .val (.int p1), .val (.int p2), .unset, .unset, .unset, .unset] [(.int (64975 : Int32)), (.int (19 : Int32)), (.ref b), (.ref b)])) rfl rfl (hb hby at_134)
  have V_b_86 : Arv Z h86 b k46 .int (24 : Int32) [(.int (192 : Int32)), (.int (214 : Int32)), (.int (216 : Int32)), (.int (246 : Int32)), (.int (248 : Int32)), (.int (767 : Int32)), (.int (880 : Int32)), (.int (893 : Int32)), (.int (895 : Int32)), (.int (8191 : Int32)), (.int (8204 : Int32)), (.int (8205 : Int32)), (.int (8304 : Int32)), (.int (8591 : Int32)), (.int (11264 : Int32)), (.int (12271 : Int32)), (.int (12289 : Int32)), (.int (55295 : Int32)), (.int (63744 : Int32)), (.int (64975 : Int32)), (.int (0 : Int32)), (.int (0 : Int32)), (.int (0 : Int32)), (.int (0 : Int32))] (.int (0 : Int32)) := Arv.set Ar85 q85 S85 P85 H85 G85 rfl W86 19 rfl (Nat.le_of_ble_eq_true rfl)
  have zh86 : n0 ≤ h86.size := Nat.le_trans zh84 (Nat.le_of_eq W86.size.symm)
  obtain ⟨Lh86, N86, X86⟩ : ∃ L, Fr n0 L ∧ Stand p l e _ _ m _ below meth c T86 L _ _ := ⟨_, Fr.snoc X86 N84 lo_b, X86⟩
  obtain ⟨cl87, Ar87, q87, S87, P87, H87, G87⟩ := V_b_86
  have hin88 : ¬ ((20 : Int32) < 0 ∨ cl87.slots.size ≤ ((20 : Int32)).toNatClampNeg) := inb_of S87 ⟨by decide, by decide⟩
  obtain ⟨T88, h88, X88, e88, W88, st88⟩ := stI X86 hx hZ e86 Ar87 (j := (20 : Int32)) hin88 (g := (mkF m 140 #[.val (.int p0), .val (.int p1), .val (.int p2), .unset, .unset, .unset, .unset] [(.int (65008 : Int32)), (.int (20 : Int32)), (.ref b), (.ref b)])) rfl rfl (hb hby at_140)
  have V_b_88 : Arv Z h88 b k46 .int (24 : Int32) [(.int (192 : Int32)), (.int (214 : Int32)), (.int (216 : Int32)), (.int (246 : Int32)), (.int (248 : Int32)), (.int (767 : Int32)), (.int (880 : Int32)), (.int (893 : Int32)), (.int (895 : Int32)), (.int (8191 : Int32)), (.int (8204 : Int32)), (.int (8205 : Int32)), (.int (8304 : Int32)), (.int (8591 : Int32)), (.int (11264 : Int32)), (.int (12271 : Int32)), (.int (12289 : Int32)), (.int (55295 : Int32)), (.int (63744 : Int32)), (.int (64975 : Int32)), (.int (65008 : Int32)), (.int (0 : Int32)), (.int (0 : Int32)), (.int (0 : Int32))] (.int (0 : Int32)) := Arv.set Ar87 q87 S87 P87 H87 G87 rfl W88 20 rfl (Nat.le_of_ble_eq_true rfl)
  have zh88 : n0 ≤ h88.size := Nat.le_trans zh86 (Nat.le_of_eq W88.size.symm)
  obtain ⟨Lh88, N88, X88⟩ : ∃ L, Fr n0 L ∧ Stand p l e _ _ m _ below meth c T88 L _ _ := ⟨_, Fr.snoc X88 N86 lo_b, X88⟩
  obtain ⟨cl89, Ar89, q89, S89, P89, H89, G89⟩ := V_b_88
  have hin90 : ¬ ((21 : Int32) < 0 ∨ cl89.slots.size ≤ ((21 : Int32)).toNatClampNeg) := inb_of S89 ⟨by decide, by decide⟩
  obtain ⟨T90, h90, X90, e90, W90, st90⟩ := stI X88 hx hZ e88 Ar89 (j := (21 : Int32)) hin90 (g := (mkF m 146 #[.val (.int p0), .val (.int p1), .val (.int p2), .unset, .unset, .unset, .unset] [(.int (65533 : Int32)), (.int (21 : Int32)), (.ref b), (.ref b)])) rfl rfl (hb hby at_146)
  have V_b_90 : Arv Z h90 b k46 .int (24 : Int32) [(.int (192 : Int32)), (.int (214 : Int32)), (.int (216 : Int32)), (.int (246 : Int32)), (.int (248 : Int32)), (.int (767 : Int32)), (.int (880 : Int32)), (.int (893 : Int32)), (.int (895 : Int32)), (.int (8191 : Int32)), (.int (8204 : Int32)), (.int (8205 : Int32)), (.int (8304 : Int32)), (.int (8591 : Int32)), (.int (11264 : Int32)), (.int (12271 : Int32)), (.int (12289 : Int32)), (.int (55295 : Int32)), (.int (63744 : Int32)), (.int (64975 : Int32)), (.int (65008 : Int32)), (.int (65533 : Int32)), (.int (0 : Int32)), (.int (0 : Int32))] (.int (0 : Int32)) := Arv.set Ar89 q89 S89 P89 H89 G89 rfl W90 21 rfl (Nat.le_of_ble_eq_true rfl)
  have zh90 : n0 ≤ h90.size := Nat.le_trans zh88 (Nat.le_of_eq W90.size.symm)
  obtain ⟨Lh90, N90, X90⟩ : ∃ L, Fr n0 L ∧ Stand p l e _ _ m _ below meth c T90 L _ _ := ⟨_, Fr.snoc X90 N88 lo_b, X90⟩
  obtain ⟨cl91, Ar91, q91, S91, P91, H91, G91⟩ := V_b_90
  have hin92 : ¬ ((22 : Int32) < 0 ∨ cl91.slots.size ≤ ((22 : Int32)).toNatClampNeg) := inb_of S91 ⟨by decide, by decide⟩
  obtain ⟨T92, h92, X92, e92, W92, st92⟩ := stI X90 hx hZ e90 Ar91 (j := (22 : Int32)) hin92 (g := (mkF m 152 #[.val (.int p0), .val (.int p1), .val (.int p2), .unset, .unset, .unset, .unset] [(.int (65536 : Int32)), (.int (22 : Int32)), (.ref b), (.ref b)])) rfl rfl (hb hby at_152)
  have V_b_92 : Arv Z h92 b k46 .int (24 : Int32) [(.int (192 : Int32)), (.int (214 : Int32)), (.int (216 : Int32)), (.int (246 : Int32)), (.int (248 : Int32)), (.int (767 : Int32)), (.int (880 : Int32)), (.int (893 : Int32)), (.int (895 : Int32)), (.int (8191 : Int32)), (.int (8204 : Int32)), (.int (8205 : Int32)), (.int (8304 : Int32)), (.int (8591 : Int32)), (.int (11264 : Int32)), (.int (12271 : Int32)), (.int (12289 : Int32)), (.int (55295 : Int32)), (.int (63744 : Int32)), (.int (64975 : Int32)), (.int (65008 : Int32)), (.int (65533 : Int32)), (.int (65536 : Int32)), (.int (0 : Int32))] (.int (0 : Int32)) := Arv.set Ar91 q91 S91 P91 H91 G91 rfl W92 22 rfl (Nat.le_of_ble_eq_true rfl)
  have zh92 : n0 ≤ h92.size := Nat.le_trans zh90 (Nat.le_of_eq W92.size.symm)
  obtain ⟨Lh92, N92, X92⟩ : ∃ L, Fr n0 L ∧ Stand p l e _ _ m _ below meth c T92 L _ _ := ⟨_, Fr.snoc X92 N90 lo_b, X92⟩
  obtain ⟨cl93, Ar93, q93, S93, P93, H93, G93⟩ := V_b_92
  have hin94 : ¬ ((23 : Int32) < 0 ∨ cl93.slots.size ≤ ((23 : Int32)).toNatClampNeg) := inb_of S93 ⟨by decide, by decide⟩
  obtain ⟨T94, h94, X94, e94, W94, st94⟩ := stI X92 hx hZ e92 Ar93 (j := (23 : Int32)) hin94 (g := (mkF m 158 #[.val (.int p0), .val (.int p1), .val (.int p2), .unset, .unset, .unset, .unset] [(.int (983039 : Int32)), (.int (23 : Int32)), (.ref b), (.ref b)])) rfl rfl (hb hby at_158)
  have V_b_94 : Arv Z h94 b k46 .int (24 : Int32) [(.int (192 : Int32)), (.int (214 : Int32)), (.int (216 : Int32)), (.int (246 : Int32)), (.int (248 : Int32)), (.int (767 : Int32)), (.int (880 : Int32)), (.int (893 : Int32)), (.int (895 : Int32)), (.int (8191 : Int32)), (.int (8204 : Int32)), (.int (8205 : Int32)), (.int (8304 : Int32)), (.int (8591 : Int32)), (.int (11264 : Int32)), (.int (12271 : Int32)), (.int (12289 : Int32)), (.int (55295 : Int32)), (.int (63744 : Int32)), (.int (64975 : Int32)), (.int (65008 : Int32)), (.int (65533 : Int32)), (.int (65536 : Int32)), (.int (983039 : Int32))] (.int (0 : Int32)) := Arv.set Ar93 q93 S93 P93 H93 G93 rfl W94 23 rfl (Nat.le_of_ble_eq_true rfl)
  have zh94 : n0 ≤ h94.size := Nat.le_trans zh92 (Nat.le_of_eq W94.size.symm)
  obtain ⟨Lh94, N94, X94⟩ : ∃ L, Fr n0 L ∧ Stand p l e _ _ m _ below meth c T94 L _ _ := ⟨_, Fr.snoc X94 N92 lo_b, X94⟩
  have hj := own_idx p1
  obtain ⟨x0, hx0⟩ := own_elem V_b_94 p1 hj
  obtain ⟨cl95, Ar95, q95, S95, P95, H95, G95⟩ := V_b_94
  have hin96 : ¬ (((p1 &&& (2147483647 : Int32)) % (24 : Int32)) < 0 ∨ cl95.slots.size ≤ (((p1 &&& (2147483647 : Int32)) % (24 : Int32))).toNatClampNeg) := inb_of S95 hj
  have hat96 : cl95.slots[(((p1 &&& (2147483647 : Int32)) % (24 : Int32))).toNatClampNeg]? = some (.int x0) := H95.at hin96 hx0
  have V_b_96 : Arv Z h94 b k46 .int (24 : Int32) [(.int (192 : Int32)), (.int (214 : Int32)), (.int (216 : Int32)), (.int (246 : Int32)), (.int (248 : Int32)), (.int (767 : Int32)), (.int (880 : Int32)), (.int (893 : Int32)), (.int (895 : Int32)), (.int (8191 : Int32)), (.int (8204 : Int32)), (.int (8205 : Int32)), (.int (8304 : Int32)), (.int (8591 : Int32)), (.int (11264 : Int32)), (.int (12271 : Int32)), (.int (12289 : Int32)), (.int (55295 : Int32)), (.int (63744 : Int32)), (.int (64975 : Int32)), (.int (65008 : Int32)), (.int (65533 : Int32)), (.int (65536 : Int32)), (.int (983039 : Int32))] (.int (0 : Int32)) := ⟨cl95, Ar95, q95, S95, P95, H95, G95⟩
  obtain ⟨_, _, ⟨T97, L97, k97, n97⟩, -, X97, ⟨Lc97, hQ97, l97, y97, z97⟩, st97⟩ := Jvm.LawKit.callS X94 hx (y := (⟨"com/example/vetted_path/vettedpath/NameCharacters", "isFifthEditionNameStart", "(I)Z"⟩ : MethodName)) hown (mvT hZ (hw _ (List.mem_of_getElem? (i := 9) rfl))) (mvT hZ (hw _ (List.mem_of_getElem? (i := 10) rfl))) (mvT hZ (hw _ (List.mem_of_getElem? (i := 11) rfl))) (mvT hZ (hw _ (List.mem_of_getElem? (i := 12) rfl))) (by decide) (backOf (W := 0) (rm1 l Z a0 hw [] p0 h94 n0 zh94) hZ (hw _ (List.mem_of_getElem? (i := 12) rfl)) (hw _ (List.mem_of_getElem? (i := 11) rfl)) (by decide) (by decide)) (g := (mkF m 178 #[.val (.int p0), .val (.int p1), .val (.int p2), .val (.ref b), .val (.int (x0 + ((p2 &&& (3 : Int32)) - (1 : Int32)))), .unset, .unset] [(.int p0)])) rfl (by rw [hml]; rfl) (argsL := [(.int p0)]) (rest := []) (lenOf pd_0 rfl) rfl (by show 2 * 0 + _ ≤ _; exact Nat.le_of_eq rfl) (hb hby at_178) (fun _ _ => ⟨rfl, e94, (by decide : 1 + 0 ≤ _), (by decide : 24 + 0 ≤ _)⟩)
  dsimp only [Pt.U, Pt.locs, Pt.cells, Pt.slots] at X97 l97 y97 z97 st97 hQ97
  subst l97 y97 z97
  obtain ⟨rfl, N97q, hh97⟩ := hQ97
  have N97 := Fr.app N94 N97q
  have zh97 : n0 ≤ T97.heap.size := by rw [hh97]; exact zh94
  obtain ⟨_, _, ⟨T98, L98, k98, n98⟩, -, X98, ⟨Lc98, hQ98, l98, y98, z98⟩, st98⟩ := Jvm.LawKit.callS X97 hx (y := (⟨"com/example/vetted_path/vettedpath/NameCharactersIsFifthEditionNameStartPinLaw", "ref", "(I)Z"⟩ : MethodName)) hown (mvT hZ (hw _ (List.mem_of_getElem? (i := 16) rfl))) (mvT hZ (hw _ (List.mem_of_getElem? (i := 17) rfl))) (mvT hZ (hw _ (List.mem_of_getElem? (i := 18) rfl))) (mvT hZ (hw _ (List.mem_of_getElem? (i := 19) rfl))) (by decide) (backOf (W := 1) (rm2 l Z a0 hw [] p0 T97.heap n0 zh97) hZ (hw _ (List.mem_of_getElem? (i := 19) rfl)) (hw _ (List.mem_of_getElem? (i := 18) rfl)) (by decide) (by decide)) (g := (mkF m 182 #[.val (.int p0), .val (.int p1), .val (.int p2), .val (.ref b), .val (.int (x0 + ((p2 &&& (3 : Int32)) - (1 : Int32)))), .unset, .unset] [(.int p0), (.int (B1_0 p0))])) rfl (by rw [hml]; rfl) (argsL := [(.int p0)]) (rest := [(.int (B1_0 p0))]) (lenOf pd_0 rfl) rfl (by show 2 * 0 + _ ≤ _; exact Nat.le_of_eq rfl) (hb hby at_182) (fun _ _ => ⟨rfl, rfl, (by decide : 1 + 0 ≤ _), (by decide : 24 + 0 ≤ _)⟩)
  dsimp only [Pt.U, Pt.locs, Pt.cells, Pt.slots] at X98 l98 y98 z98 st98 hQ98
  subst l98 y98 z98
  obtain ⟨rfl, N98q, hh98⟩ := hQ98
  have N98 := Fr.app N97 N98q
  have zh98 : n0 ≤ T98.heap.size := by rw [hh98]; exact zh97
  obtain ⟨_, _, ⟨T99, L99, k99, n99⟩, -, X99, ⟨Lc99, hQ99, l99, y99, z99⟩, st99⟩ := Jvm.LawKit.callS X98 hx (y := (⟨"com/example/vetted_path/vettedpath/NameCharacters", "isFifthEditionNameStart", "(I)Z"⟩ : MethodName)) hown (mvT hZ (hw _ (List.mem_of_getElem? (i := 9) rfl))) (mvT hZ (hw _ (List.mem_of_getElem? (i := 10) rfl))) (mvT hZ (hw _ (List.mem_of_getElem? (i := 11) rfl))) (mvT hZ (hw _ (List.mem_of_getElem? (i := 12) rfl))) (by decide) (backOf (W := 0) (rm1 l Z a0 hw [] (x0 + ((p2 &&& (3 : Int32)) - (1 : Int32))) T98.heap n0 zh98) hZ (hw _ (List.mem_of_getElem? (i := 12) rfl)) (hw _ (List.mem_of_getElem? (i := 11) rfl)) (by decide) (by decide)) (g := (mkF m 197 #[.val (.int p0), .val (.int p1), .val (.int p2), .val (.ref b), .val (.int (x0 + ((p2 &&& (3 : Int32)) - (1 : Int32)))), .val (.int (1 : Int32)), .unset] [(.int (x0 + ((p2 &&& (3 : Int32)) - (1 : Int32))))])) rfl (by rw [hml]; rfl) (argsL := [(.int (x0 + ((p2 &&& (3 : Int32)) - (1 : Int32))))]) (rest := []) (lenOf pd_0 rfl) rfl (by show 2 * 0 + _ ≤ _; exact Nat.le_of_eq rfl) (hb hby at_197) (fun _ _ => ⟨rfl, rfl, (by decide : 1 + 0 ≤ _), (by decide : 24 + 0 ≤ _)⟩)
  dsimp only [Pt.U, Pt.locs, Pt.cells, Pt.slots] at X99 l99 y99 z99 st99 hQ99
  subst l99 y99 z99
  obtain ⟨rfl, N99q, hh99⟩ := hQ99
  have N99 := Fr.app N98 N99q
  have zh99 : n0 ≤ T99.heap.size := by rw [hh99]; exact zh98
  obtain ⟨_, _, ⟨T100, L100, k100, n100⟩, -, X100, ⟨Lc100, hQ100, l100, y100, z100⟩, st100⟩ := Jvm.LawKit.callS X99 hx (y := (⟨"com/example/vetted_path/vettedpath/NameCharactersIsFifthEditionNameStartPinLaw", "ref", "(I)Z"⟩ : MethodName)) hown (mvT hZ (hw _ (List.mem_of_getElem? (i := 16) rfl))) (mvT hZ (hw _ (List.mem_of_getElem? (i := 17) rfl))) (mvT hZ (hw _ (List.mem_of_getElem? (i := 18) rfl))) (mvT hZ (hw _ (List.mem_of_getElem? (i := 19) rfl))) (by decide) (backOf (W := 1) (rm2 l Z a0 hw [] (x0 + ((p2 &&& (3 : Int32)) - (1 : Int32))) T99.heap n0 zh99) hZ (hw _ (List.mem_of_getElem? (i := 19) rfl)) (hw _ (List.mem_of_getElem? (i := 18) rfl)) (by decide) (by decide)) (g := (mkF m 202 #[.val (.int p0), .val (.int p1), .val (.int p2), .val (.ref b), .val (.int (x0 + ((p2 &&& (3 : Int32)) - (1 : Int32)))), .val (.int (1 : Int32)), .unset] [(.int (x0 + ((p2 &&& (3 : Int32)) - (1 : Int32)))), (.int (B1_0 (x0 + ((p2 &&& (3 : Int32)) - (1 : Int32)))))])) rfl (by rw [hml]; rfl) (argsL := [(.int (x0 + ((p2 &&& (3 : Int32)) - (1 : Int32))))]) (rest := [(.int (B1_0 (x0 + ((p2 &&& (3 : Int32)) - (1 : Int32)))))]) (lenOf pd_0 rfl) rfl (by show 2 * 0 + _ ≤ _; exact Nat.le_of_eq rfl) (hb hby at_202) (fun _ _ => ⟨rfl, rfl, (by decide : 1 + 0 ≤ _), (by decide : 24 + 0 ≤ _)⟩)
  dsimp only [Pt.U, Pt.locs, Pt.cells, Pt.slots] at X100 l100 y100 z100 st100 hQ100
  subst l100 y100 z100
  obtain ⟨rfl, N100q, hh100⟩ := hQ100
  have N100 := Fr.app N99 N100q
  have zh100 : n0 ≤ T100.heap.size := by rw [hh100]; exact zh99
  refine own_Go.mono (T' := T100) (f' := (mkF m 230 #[.val (.int p0), .val (.int p1), .val (.int p2), .val (.ref b), .val (.int (x0 + ((p2 &&& (3 : Int32)) - (1 : Int32)))), .val (.int (1 : Int32)), .val (.int (1 : Int32))] [(.int (1 : Int32))])) (fun t k => ?_) ?_
  · show Steps p.tables e below (s₁.setTop (mkF m 0 #[.val (.int p0), .val (.int p1), .val (.int p2), .unset, .unset, .unset, .unset] [])) _
    refine XS.bipush X0.here hx rfl (hb hby at_0) ?_
    show Steps p.tables e below (s₁.setTop (mkF m 2 #[.val (.int p0), .val (.int p1), .val (.int p2), .unset, .unset, .unset, .unset] [(.int (24 : Int32))])) _
    refine st46 _ ?_
    show Steps p.tables e below (T46.setTop (mkF m 4 #[.val (.int p0), .val (.int p1), .val (.int p2), .unset, .unset, .unset, .unset] [(.ref b)])) _
    refine XS.dup X46.here hx rfl (hb hby at_4) rfl rfl ?_
    show Steps p.tables e below (T46.setTop (mkF m 5 #[.val (.int p0), .val (.int p1), .val (.int p2), .unset, .unset, .unset, .unset] [(.ref b), (.ref b)])) _
    refine XS.iconst X46.here hx rfl (hb hby at_5) ?_
    show Steps p.tables e below (T46.setTop (mkF m 6 #[.val (.int p0), .val (.int p1), .val (.int p2), .unset, .unset, .unset, .unset] [(.int (0 : Int32)), (.ref b), (.ref b)])) _
    refine XS.sipush X46.here hx rfl (hb hby at_6) ?_
    show Steps p.tables e below (T46.setTop (mkF m 9 #[.val (.int p0), .val (.int p1), .val (.int p2), .unset, .unset, .unset, .unset] [(.int (192 : Int32)), (.int (0 : Int32)), (.ref b), (.ref b)])) _
    refine st48 _ ?_
    show Steps p.tables e below (T48.setTop (mkF m 10 #[.val (.int p0), .val (.int p1), .val (.int p2), .unset, .unset, .unset, .unset] [(.ref b)])) _
    refine XS.dup X48.here hx rfl (hb hby at_10) rfl rfl ?_
    show Steps p.tables e below (T48.setTop (mkF m 11 #[.val (.int p0), .val (.int p1), .val (.int p2), .unset, .unset, .unset, .unset] [(.ref b), (.ref b)])) _
    refine XS.iconst X48.here hx rfl (hb hby at_11) ?_
    show Steps p.tables e below (T48.setTop (mkF m 12 #[.val (.int p0), .val (.int p1), .val (.int p2), .unset, .unset, .unset, .unset] [(.int (1 : Int32)), (.ref b), (.ref b)])) _
    refine XS.sipush X48.here hx rfl (hb hby at_12) ?_
    show Steps p.tables e below (T48.setTop (mkF m 15 #[.val (.int p0), .val (.int p1), .val (.int p2), .unset, .unset, .unset, .unset] [(.int (214 : Int32)), (.int (1 : Int32)), (.ref b), (.ref b)])) _
    refine st50 _ ?_
    show Steps p.tables e below (T50.setTop (mkF m 16 #[.val (.int p0), .val (.int p1), .val (.int p2), .unset, .unset, .unset, .unset] [(.ref b)])) _
    refine XS.dup X50.here hx rfl (hb hby at_16) rfl rfl ?_
    show Steps p.tables e below (T50.setTop (mkF m 17 #[.val (.int p0), .val (.int p1), .val (.int p2), .unset, .unset, .unset, .unset] [(.ref b), (.ref b)])) _
    refine XS.iconst X50.here hx rfl (hb hby at_17) ?_
    show Steps p.tables e below (T50.setTop (mkF m 18 #[.val (.int p0), .val (.int p1), .val (.int p2), .unset, .unset, .unset, .unset] [(.int (2 : Int32)), (.ref b), (.ref b)])) _
    refine XS.sipush X50.here hx rfl (hb hby at_18) ?_
    show Steps p.tables e below (T50.setTop (mkF m 21 #[.val (.int p0), .val (.int p1), .val (.int p2), .unset, .unset, .unset, .unset] [(.int (216 : Int32)), (.int (2 : Int32)), (.ref b), (.ref b)])) _
    refine st52 _ ?_
    show Steps p.tables e below (T52.setTop (mkF m 22 #[.val (.int p0), .val (.int p1), .val (.int p2), .unset, .unset, .unset, .unset] [(.ref b)])) _
    refine XS.dup X52.here hx rfl (hb hby at_22) rfl rfl ?_
    show Steps p.tables e below (T52.setTop (mkF m 23 #[.val (.int p0), .val (.int p1), .val (.int p2), .unset, .unset, .unset, .unset] [(.ref b), (.ref b)])) _
    refine XS.iconst X52.here hx rfl (hb hby at_23) ?_
    show Steps p.tables e below (T52.setTop (mkF m 24 #[.val (.int p0), .val (.int p1), .val (.int p2), .unset, .unset, .unset, .unset] [(.int (3 : Int32)), (.ref b), (.ref b)])) _
    refine XS.sipush X52.here hx rfl (hb hby at_24) ?_
    show Steps p.tables e below (T52.setTop (mkF m 27 #[.val (.int p0), .val (.int p1), .val (.int p2), .unset, .unset, .unset, .unset] [(.int (246 : Int32)), (.int (3 : Int32)), (.ref b), (.ref b)])) _
    refine st54 _ ?_
    show Steps p.tables e below (T54.setTop (mkF m 28 #[.val (.int p0), .val (.int p1), .val (.int p2), .unset, .unset, .unset, .unset] [(.ref b)])) _
    refine XS.dup X54.here hx rfl (hb hby at_28) rfl rfl ?_
    show Steps p.tables e below (T54.setTop (mkF m 29 #[.val (.int p0), .val (.int p1), .val (.int p2), .unset, .unset, .unset, .unset] [(.ref b), (.ref b)])) _
    refine XS.iconst X54.here hx rfl (hb hby at_29) ?_
    show Steps p.tables e below (T54.setTop (mkF m 30 #[.val (.int p0), .val (.int p1), .val (.int p2), .unset, .unset, .unset, .unset] [(.int (4 : Int32)), (.ref b), (.ref b)])) _
    refine XS.sipush X54.here hx rfl (hb hby at_30) ?_
    show Steps p.tables e below (T54.setTop (mkF m 33 #[.val (.int p0), .val (.int p1), .val (.int p2), .unset, .unset, .unset, .unset] [(.int (248 : Int32)), (.int (4 : Int32)), (.ref b), (.ref b)])) _
    refine st56 _ ?_
    show Steps p.tables e below (T56.setTop (mkF m 34 #[.val (.int p0), .val (.int p1), .val (.int p2), .unset, .unset, .unset, .unset] [(.ref b)])) _
    refine XS.dup X56.here hx rfl (hb hby at_34) rfl rfl ?_
    show Steps p.tables e below (T56.setTop (mkF m 35 #[.val (.int p0), .val (.int p1), .val (.int p2), .unset, .unset, .unset, .unset] [(.ref b), (.ref b)])) _
    refine XS.iconst X56.here hx rfl (hb hby at_35) ?_
    show Steps p.tables e below (T56.setTop (mkF m 36 #[.val (.int p0), .val (.int p1), .val (.int p2), .unset, .unset, .unset, .unset] [(.int (5 : Int32)), (.ref b), (.ref b)])) _
    refine XS.sipush X56.here hx rfl (hb hby at_36) ?_
    show Steps p.tables e below (T56.setTop (mkF m 39 #[.val (.int p0), .val (.int p1), .val (.int p2), .unset, .unset, .unset, .unset] [(.int (767 : Int32)), (.int (5 : Int32)), (.ref b), (.ref b)])) _
    refine st58 _ ?_
    show Steps p.tables e below (T58.setTop (mkF m 40 #[.val (.int p0), .val (.int p1), .val (.int p2), .unset, .unset, .unset, .unset] [(.ref b)])) _
    refine XS.dup X58.here hx rfl (hb hby at_40) rfl rfl ?_
    show Steps p.tables e below (T58.setTop (mkF m 41 #[.val (.int p0), .val (.int p1), .val (.int p2), .unset, .unset, .unset, .unset] [(.ref b), (.ref b)])) _
    refine XS.bipush X58.here hx rfl (hb hby at_41) ?_
    show Steps p.tables e below (T58.setTop (mkF m 43 #[.val (.int p0), .val (.int p1), .val (.int p2), .unset, .unset, .unset, .unset] [(.int (6 : Int32)), (.ref b), (.ref b)])) _
    refine XS.sipush X58.here hx rfl (hb hby at_43) ?_
    show Steps p.tables e below (T58.setTop (mkF m 46 #[.val (.int p0), .val (.int p1), .val (.int p2), .unset, .unset, .unset, .unset] [(.int (880 : Int32)), (.int (6 : Int32)), (.ref b), (.ref b)])) _
    refine st60 _ ?_
    show Steps p.tables e below (T60.setTop (mkF m 47 #[.val (.int p0), .val (.int p1), .val (.int p2), .unset, .unset, .unset, .unset] [(.ref b)])) _
    refine XS.dup X60.here hx rfl (hb hby at_47) rfl rfl ?_
    show Steps p.tables e below (T60.setTop (mkF m 48 #[.val (.int p0), .val (.int p1), .val (.int p2), .unset, .unset, .unset, .unset] [(.ref b), (.ref b)])) _
    refine XS.bipush X60.here hx rfl (hb hby at_48) ?_
    show Steps p.tables e below (T60.setTop (mkF m 50 #[.val (.int p0), .val (.int p1), .val (.int p2), .unset, .unset, .unset, .unset] [(.int (7 : Int32)), (.ref b), (.ref b)])) _
    refine XS.sipush X60.here hx rfl (hb hby at_50) ?_
    show Steps p.tables e below (T60.setTop (mkF m 53 #[.val (.int p0), .val (.int p1), .val (.int p2), .unset, .unset, .unset, .unset] [(.int (893 : Int32)), (.int (7 : Int32)), (.ref b), (.ref b)])) _
    refine st62 _ ?_
    show Steps p.tables e below (T62.setTop (mkF m 54 #[.val (.int p0), .val (.int p1), .val (.int p2), .unset, .unset, .unset, .unset] [(.ref b)])) _
    refine XS.dup X62.here hx rfl (hb hby at_54) rfl rfl ?_
    show Steps p.tables e below (T62.setTop (mkF m 55 #[.val (.int p0), .val (.int p1), .val (.int p2), .unset, .unset, .unset, .unset] [(.ref b), (.ref b)])) _
    refine XS.bipush X62.here hx rfl (hb hby at_55) ?_
    show Steps p.tables e below (T62.setTop (mkF m 57 #[.val (.int p0), .val (.int p1), .val (.int p2), .unset, .unset, .unset, .unset] [(.int (8 : Int32)), (.ref b), (.ref b)])) _
    refine XS.sipush X62.here hx rfl (hb hby at_57) ?_
    show Steps p.tables e below (T62.setTop (mkF m 60 #[.val (.int p0), .val (.int p1), .val (.int p2), .unset, .unset, .unset, .unset] [(.int (895 : Int32)), (.int (8 : Int32)), (.ref b), (.ref b)])) _
    refine st64 _ ?_
    show Steps p.tables e below (T64.setTop (mkF m 61 #[.val (.int p0), .val (.int p1), .val (.int p2), .unset, .unset, .unset, .unset] [(.ref b)])) _
    refine XS.dup X64.here hx rfl (hb hby at_61) rfl rfl ?_
    show Steps p.tables e below (T64.setTop (mkF m 62 #[.val (.int p0), .val (.int p1), .val (.int p2), .unset, .unset, .unset, .unset] [(.ref b), (.ref b)])) _
    refine XS.bipush X64.here hx rfl (hb hby at_62) ?_
    show Steps p.tables e below (T64.setTop (mkF m 64 #[.val (.int p0), .val (.int p1), .val (.int p2), .unset, .unset, .unset, .unset] [(.int (9 : Int32)), (.ref b), (.ref b)])) _
    refine XS.sipush X64.here hx rfl (hb hby at_64) ?_
    show Steps p.tables e below (T64.setTop (mkF m 67 #[.val (.int p0), .val (.int p1), .val (.int p2), .unset, .unset, .unset, .unset] [(.int (8191 : Int32)), (.int (9 : Int32)), (.ref b), (.ref b)])) _
    refine st66 _ ?_
    show Steps p.tables e below (T66.setTop (mkF m 68 #[.val (.int p0), .val (.int p1), .val (.int p2), .unset, .unset, .unset, .unset] [(.ref b)])) _
    refine XS.dup X66.here hx rfl (hb hby at_68) rfl rfl ?_
    show Steps p.tables e below (T66.setTop (mkF m 69 #[.val (.int p0), .val (.int p1), .val (.int p2), .unset, .unset, .unset, .unset] [(.ref b), (.ref b)])) _
    refine XS.bipush X66.here hx rfl (hb hby at_69) ?_
    show Steps p.tables e below (T66.setTop (mkF m 71 #[.val (.int p0), .val (.int p1), .val (.int p2), .unset, .unset, .unset, .unset] [(.int (10 : Int32)), (.ref b), (.ref b)])) _
    refine XS.sipush X66.here hx rfl (hb hby at_71) ?_
    show Steps p.tables e below (T66.setTop (mkF m 74 #[.val (.int p0), .val (.int p1), .val (.int p2), .unset, .unset, .unset, .unset] [(.int (8204 : Int32)), (.int (10 : Int32)), (.ref b), (.ref b)])) _
    refine st68 _ ?_
    show Steps p.tables e below (T68.setTop (mkF m 75 #[.val (.int p0), .val (.int p1), .val (.int p2), .unset, .unset, .unset, .unset] [(.ref b)])) _
    refine XS.dup X68.here hx rfl (hb hby at_75) rfl rfl ?_
    show Steps p.tables e below (T68.setTop (mkF m 76 #[.val (.int p0), .val (.int p1), .val (.int p2), .unset, .unset, .unset, .unset] [(.ref b), (.ref b)])) _
    refine XS.bipush X68.here hx rfl (hb hby at_76) ?_
    show Steps p.tables e below (T68.setTop (mkF m 78 #[.val (.int p0), .val (.int p1), .val (.int p2), .unset, .unset, .unset, .unset] [(.int (11 : Int32)), (.ref b), (.ref b)])) _
    refine XS.sipush X68.here hx rfl (hb hby at_78) ?_
    show Steps p.tables e below (T68.setTop (mkF m 81 #[.val (.int p0), .val (.int p1), .val (.int p2), .unset, .unset, .unset, .unset] [(.int (8205 : Int32)), (.int (11 : Int32)), (.ref b), (.ref b)])) _
    refine st70 _ ?_
    show Steps p.tables e below (T70.setTop (mkF m 82 #[.val (.int p0), .val (.int p1), .val (.int p2), .unset, .unset, .unset, .unset] [(.ref b)])) _
    refine XS.dup X70.here hx rfl (hb hby at_82) rfl rfl ?_
    show Steps p.tables e below (T70.setTop (mkF m 83 #[.val (.int p0), .val (.int p1), .val (.int p2), .unset, .unset, .unset, .unset] [(.ref b), (.ref b)])) _
    refine XS.bipush X70.here hx rfl (hb hby at_83) ?_
    show Steps p.tables e below (T70.setTop (mkF m 85 #[.val (.int p0), .val (.int p1), .val (.int p2), .unset, .unset, .unset, .unset] [(.int (12 : Int32)), (.ref b), (.ref b)])) _
    refine XS.sipush X70.here hx rfl (hb hby at_85) ?_
    show Steps p.tables e below (T70.setTop (mkF m 88 #[.val (.int p0), .val (.int p1), .val (.int p2), .unset, .unset, .unset, .unset] [(.int (8304 : Int32)), (.int (12 : Int32)), (.ref b), (.ref b)])) _
    refine st72 _ ?_
    show Steps p.tables e below (T72.setTop (mkF m 89 #[.val (.int p0), .val (.int p1), .val (.int p2), .unset, .unset, .unset, .unset] [(.ref b)])) _
    refine XS.dup X72.here hx rfl (hb hby at_89) rfl rfl ?_
    show Steps p.tables e below (T72.setTop (mkF m 90 #[.val (.int p0), .val (.int p1), .val (.int p2), .unset, .unset, .unset, .unset] [(.ref b), (.ref b)])) _
    refine XS.bipush X72.here hx rfl (hb hby at_90) ?_
    show Steps p.tables e below (T72.setTop (mkF m 92 #[.val (.int p0), .val (.int p1), .val (.int p2), .unset, .unset, .unset, .unset] [(.int (13 : Int32)), (.ref b), (.ref b)])) _
    refine XS.sipush X72.here hx rfl (hb hby at_92) ?_
    show Steps p.tables e below (T72.setTop (mkF m 95 #[.val (.int p0), .val (.int p1), .val (.int p2), .unset, .unset, .unset, .unset] [(.int (8591 : Int32)), (.int (13 : Int32)), (.ref b), (.ref b)])) _
    refine st74 _ ?_
    show Steps p.tables e below (T74.setTop (mkF m 96 #[.val (.int p0), .val (.int p1), .val (.int p2), .unset, .unset, .unset, .unset] [(.ref b)])) _
    refine XS.dup X74.here hx rfl (hb hby at_96) rfl rfl ?_
    show Steps p.tables e below (T74.setTop (mkF m 97 #[.val (.int p0), .val (.int p1), .val (.int p2), .unset, .unset, .unset, .unset] [(.ref b), (.ref b)])) _
    refine XS.bipush X74.here hx rfl (hb hby at_97) ?_
    show Steps p.tables e below (T74.setTop (mkF m 99 #[.val (.int p0), .val (.int p1), .val (.int p2), .unset, .unset, .unset, .unset] [(.int (14 : Int32)), (.ref b), (.ref b)])) _
    refine XS.sipush X74.here hx rfl (hb hby at_99) ?_
    show Steps p.tables e below (T74.setTop (mkF m 102 #[.val (.int p0), .val (.int p1), .val (.int p2), .unset, .unset, .unset, .unset] [(.int (11264 : Int32)), (.int (14 : Int32)), (.ref b), (.ref b)])) _
    refine st76 _ ?_
    show Steps p.tables e below (T76.setTop (mkF m 103 #[.val (.int p0), .val (.int p1), .val (.int p2), .unset, .unset, .unset, .unset] [(.ref b)])) _
    refine XS.dup X76.here hx rfl (hb hby at_103) rfl rfl ?_
    show Steps p.tables e below (T76.setTop (mkF m 104 #[.val (.int p0), .val (.int p1), .val (.int p2), .unset, .unset, .unset, .unset] [(.ref b), (.ref b)])) _
    refine XS.bipush X76.here hx rfl (hb hby at_104) ?_
    show Steps p.tables e below (T76.setTop (mkF m 106 #[.val (.int p0), .val (.int p1), .val (.int p2), .unset, .unset, .unset, .unset] [(.int (15 : Int32)), (.ref b), (.ref b)])) _
    refine XS.sipush X76.here hx rfl (hb hby at_106) ?_
    show Steps p.tables e below (T76.setTop (mkF m 109 #[.val (.int p0), .val (.int p1), .val (.int p2), .unset, .unset, .unset, .unset] [(.int (12271 : Int32)), (.int (15 : Int32)), (.ref b), (.ref b)])) _
    refine st78 _ ?_
    show Steps p.tables e below (T78.setTop (mkF m 110 #[.val (.int p0), .val (.int p1), .val (.int p2), .unset, .unset, .unset, .unset] [(.ref b)])) _
    refine XS.dup X78.here hx rfl (hb hby at_110) rfl rfl ?_
    show Steps p.tables e below (T78.setTop (mkF m 111 #[.val (.int p0), .val (.int p1), .val (.int p2), .unset, .unset, .unset, .unset] [(.ref b), (.ref b)])) _
    refine XS.bipush X78.here hx rfl (hb hby at_111) ?_
    show Steps p.tables e below (T78.setTop (mkF m 113 #[.val (.int p0), .val (.int p1), .val (.int p2), .unset, .unset, .unset, .unset] [(.int (16 : Int32)), (.ref b), (.ref b)])) _
    refine XS.sipush X78.here hx rfl (hb hby at_113) ?_
    show Steps p.tables e below (T78.setTop (mkF m 116 #[.val (.int p0), .val (.int p1), .val (.int p2), .unset, .unset, .unset, .unset] [(.int (12289 : Int32)), (.int (16 : Int32)), (.ref b), (.ref b)])) _
    refine st80 _ ?_
    show Steps p.tables e below (T80.setTop (mkF m 117 #[.val (.int p0), .val (.int p1), .val (.int p2), .unset, .unset, .unset, .unset] [(.ref b)])) _
    refine XS.dup X80.here hx rfl (hb hby at_117) rfl rfl ?_
    show Steps p.tables e below (T80.setTop (mkF m 118 #[.val (.int p0), .val (.int p1), .val (.int p2), .unset, .unset, .unset, .unset] [(.ref b), (.ref b)])) _
    refine XS.bipush X80.here hx rfl (hb hby at_118) ?_
    show Steps p.tables e below (T80.setTop (mkF m 120 #[.val (.int p0), .val (.int p1), .val (.int p2), .unset, .unset, .unset, .unset] [(.int (17 : Int32)), (.ref b), (.ref b)])) _
    refine X80.ldcInt hx hown (mvT hZ (hw _ (List.mem_of_getElem? (i := 1) rfl))) (g := (mkF m 120 #[.val (.int p0), .val (.int p1), .val (.int p2), .unset, .unset, .unset, .unset] [(.int (17 : Int32)), (.ref b), (.ref b)])) rfl (hb hby at_120) _ ?_
    show Steps p.tables e below (T80.setTop (mkF m 122 #[.val (.int p0), .val (.int p1), .val (.int p2), .unset, .unset, .unset, .unset] [(.int (55295 : Int32)), (.int (17 : Int32)), (.ref b), (.ref b)])) _
    refine st82 _ ?_
    show Steps p.tables e below (T82.setTop (mkF m 123 #[.val (.int p0), .val (.int p1), .val (.int p2), .unset, .unset, .unset, .unset] [(.ref b)])) _
    refine XS.dup X82.here hx rfl (hb hby at_123) rfl rfl ?_
    show Steps p.tables e below (T82.setTop (mkF m 124 #[.val (.int p0), .val (.int p1), .val (.int p2), .unset, .unset, .unset, .unset] [(.ref b), (.ref b)])) _
    refine XS.bipush X82.here hx rfl (hb hby at_124) ?_
    show Steps p.tables e below (T82.setTop (mkF m 126 #[.val (.int p0), .val (.int p1), .val (.int p2), .unset, .unset, .unset, .unset] [(.int (18 : Int32)), (.ref b), (.ref b)])) _
    refine X82.ldcInt hx hown (mvT hZ (hw _ (List.mem_of_getElem? (i := 2) rfl))) (g := (mkF m 126 #[.val (.int p0), .val (.int p1), .val (.int p2), .unset, .unset, .unset, .unset] [(.int (18 : Int32)), (.ref b), (.ref b)])) rfl (hb hby at_126) _ ?_
    show Steps p.tables e below (T82.setTop (mkF m 128 #[.val (.int p0), .val (.int p1), .val (.int p2), .unset, .unset, .unset, .unset] [(.int (63744 : Int32)), (.int (18 : Int32)), (.ref b), (.ref b)])) _
    refine st84 _ ?_
    show Steps p.tables e below (T84.setTop (mkF m 129 #[.val (.int p0), .val (.int p1), .val (.int p2), .unset, .unset, .unset, .unset] [(.ref b)])) _
    refine XS.dup X84.here hx rfl (hb hby at_129) rfl rfl ?_
    show Steps p.tables e below (T84.setTop (mkF m 130 #[.val (.int p0), .val (.int p1), .val (.int p2), .unset, .unset, .unset, .unset] [(.ref b), (.ref b)])) _
    refine XS.bipush X84.here hx rfl (hb hby at_130) ?_
    show Steps p.tables e below (T84.setTop (mkF m 132 #[.val (.int p0), .val (.int p1), .val (.int p2), .unset, .unset, .unset, .unset] [(.int (19 : Int32)), (.ref b), (.ref b)])) _
    refine X84.ldcInt hx hown (mvT hZ (hw _ (List.mem_of_getElem? (i := 3) rfl))) (g := (mkF m 132 #[.val (.int p0), .val (.int p1), .val (.int p2), .unset, .unset, .unset, .unset] [(.int (19 : Int32)), (.ref b), (.ref b)])) rfl (hb hby at_132) _ ?_
    show Steps p.tables e below (T84.setTop (mkF m 134 #[.val (.int p0), .val (.int p1), .val (.int p2), .unset, .unset, .unset, .unset] [(.int (64975 : Int32)), (.int (19 : Int32)), (.ref b), (.ref b)])) _
    refine st86 _ ?_
    show Steps p.tables e below (T86.setTop (mkF m 135 #[.val (.int p0), .val (.int p1), .val (.int p2), .unset, .unset, .unset, .unset] [(.ref b)])) _
    refine XS.dup X86.here hx rfl (hb hby at_135) rfl rfl ?_
    show Steps p.tables e below (T86.setTop (mkF m 136 #[.val (.int p0), .val (.int p1), .val (.int p2), .unset, .unset, .unset, .unset] [(.ref b), (.ref b)])) _
    refine XS.bipush X86.here hx rfl (hb hby at_136) ?_
    show Steps p.tables e below (T86.setTop (mkF m 138 #[.val (.int p0), .val (.int p1), .val (.int p2), .unset, .unset, .unset, .unset] [(.int (20 : Int32)), (.ref b), (.ref b)])) _
    refine X86.ldcInt hx hown (mvT hZ (hw _ (List.mem_of_getElem? (i := 4) rfl))) (g := (mkF m 138 #[.val (.int p0), .val (.int p1), .val (.int p2), .unset, .unset, .unset, .unset] [(.int (20 : Int32)), (.ref b), (.ref b)])) rfl (hb hby at_138) _ ?_
    show Steps p.tables e below (T86.setTop (mkF m 140 #[.val (.int p0), .val (.int p1), .val (.int p2), .unset, .unset, .unset, .unset] [(.int (65008 : Int32)), (.int (20 : Int32)), (.ref b), (.ref b)])) _
    refine st88 _ ?_
    show Steps p.tables e below (T88.setTop (mkF m 141 #[.val (.int p0), .val (.int p1), .val (.int p2), .unset, .unset, .unset, .unset] [(.ref b)])) _
    refine XS.dup X88.here hx rfl (hb hby at_141) rfl rfl ?_
    show Steps p.tables e below (T88.setTop (mkF m 142 #[.val (.int p0), .val (.int p1), .val (.int p2), .unset, .unset, .unset, .unset] [(.ref b), (.ref b)])) _
    refine XS.bipush X88.here hx rfl (hb hby at_142) ?_
    show Steps p.tables e below (T88.setTop (mkF m 144 #[.val (.int p0), .val (.int p1), .val (.int p2), .unset, .unset, .unset, .unset] [(.int (21 : Int32)), (.ref b), (.ref b)])) _
    refine X88.ldcInt hx hown (mvT hZ (hw _ (List.mem_of_getElem? (i := 5) rfl))) (g := (mkF m 144 #[.val (.int p0), .val (.int p1), .val (.int p2), .unset, .unset, .unset, .unset] [(.int (21 : Int32)), (.ref b), (.ref b)])) rfl (hb hby at_144) _ ?_
    show Steps p.tables e below (T88.setTop (mkF m 146 #[.val (.int p0), .val (.int p1), .val (.int p2), .unset, .unset, .unset, .unset] [(.int (65533 : Int32)), (.int (21 : Int32)), (.ref b), (.ref b)])) _
    refine st90 _ ?_
    show Steps p.tables e below (T90.setTop (mkF m 147 #[.val (.int p0), .val (.int p1), .val (.int p2), .unset, .unset, .unset, .unset] [(.ref b)])) _
    refine XS.dup X90.here hx rfl (hb hby at_147) rfl rfl ?_
    show Steps p.tables e below (T90.setTop (mkF m 148 #[.val (.int p0), .val (.int p1), .val (.int p2), .unset, .unset, .unset, .unset] [(.ref b), (.ref b)])) _
    refine XS.bipush X90.here hx rfl (hb hby at_148) ?_
    show Steps p.tables e below (T90.setTop (mkF m 150 #[.val (.int p0), .val (.int p1), .val (.int p2), .unset, .unset, .unset, .unset] [(.int (22 : Int32)), (.ref b), (.ref b)])) _
    refine X90.ldcInt hx hown (mvT hZ (hw _ (List.mem_of_getElem? (i := 6) rfl))) (g := (mkF m 150 #[.val (.int p0), .val (.int p1), .val (.int p2), .unset, .unset, .unset, .unset] [(.int (22 : Int32)), (.ref b), (.ref b)])) rfl (hb hby at_150) _ ?_
    show Steps p.tables e below (T90.setTop (mkF m 152 #[.val (.int p0), .val (.int p1), .val (.int p2), .unset, .unset, .unset, .unset] [(.int (65536 : Int32)), (.int (22 : Int32)), (.ref b), (.ref b)])) _
    refine st92 _ ?_
    show Steps p.tables e below (T92.setTop (mkF m 153 #[.val (.int p0), .val (.int p1), .val (.int p2), .unset, .unset, .unset, .unset] [(.ref b)])) _
    refine XS.dup X92.here hx rfl (hb hby at_153) rfl rfl ?_
    show Steps p.tables e below (T92.setTop (mkF m 154 #[.val (.int p0), .val (.int p1), .val (.int p2), .unset, .unset, .unset, .unset] [(.ref b), (.ref b)])) _
    refine XS.bipush X92.here hx rfl (hb hby at_154) ?_
    show Steps p.tables e below (T92.setTop (mkF m 156 #[.val (.int p0), .val (.int p1), .val (.int p2), .unset, .unset, .unset, .unset] [(.int (23 : Int32)), (.ref b), (.ref b)])) _
    refine X92.ldcInt hx hown (mvT hZ (hw _ (List.mem_of_getElem? (i := 7) rfl))) (g := (mkF m 156 #[.val (.int p0), .val (.int p1), .val (.int p2), .unset, .unset, .unset, .unset] [(.int (23 : Int32)), (.ref b), (.ref b)])) rfl (hb hby at_156) _ ?_
    show Steps p.tables e below (T92.setTop (mkF m 158 #[.val (.int p0), .val (.int p1), .val (.int p2), .unset, .unset, .unset, .unset] [(.int (983039 : Int32)), (.int (23 : Int32)), (.ref b), (.ref b)])) _
    refine st94 _ ?_
    show Steps p.tables e below (T94.setTop (mkF m 159 #[.val (.int p0), .val (.int p1), .val (.int p2), .unset, .unset, .unset, .unset] [(.ref b)])) _
    refine XS.astoreN X94.here hx rfl (hb hby at_159) rfl rfl (l' := #[.val (.int p0), .val (.int p1), .val (.int p2), .val (.ref b), .unset, .unset, .unset]) rfl ?_
    show Steps p.tables e below (T94.setTop (mkF m 160 #[.val (.int p0), .val (.int p1), .val (.int p2), .val (.ref b), .unset, .unset, .unset] [])) _
    refine XS.aloadN X94.here hx rfl (hb hby at_160) rfl rfl ?_
    show Steps p.tables e below (T94.setTop (mkF m 161 #[.val (.int p0), .val (.int p1), .val (.int p2), .val (.ref b), .unset, .unset, .unset] [(.ref b)])) _
    refine XS.iloadN X94.here hx rfl (hb hby at_161) rfl ?_
    show Steps p.tables e below (T94.setTop (mkF m 162 #[.val (.int p0), .val (.int p1), .val (.int p2), .val (.ref b), .unset, .unset, .unset] [(.int p1), (.ref b)])) _
    refine X94.ldcInt hx hown (mvT hZ (hw _ (List.mem_of_getElem? (i := 8) rfl))) (g := (mkF m 162 #[.val (.int p0), .val (.int p1), .val (.int p2), .val (.ref b), .unset, .unset, .unset] [(.int p1), (.ref b)])) rfl (hb hby at_162) _ ?_
    show Steps p.tables e below (T94.setTop (mkF m 164 #[.val (.int p0), .val (.int p1), .val (.int p2), .val (.ref b), .unset, .unset, .unset] [(.int (2147483647 : Int32)), (.int p1), (.ref b)])) _
    refine XS.iand X94.here hx rfl (hb hby at_164) rfl ?_
    show Steps p.tables e below (T94.setTop (mkF m 165 #[.val (.int p0), .val (.int p1), .val (.int p2), .val (.ref b), .unset, .unset, .unset] [(.int (p1 &&& (2147483647 : Int32))), (.ref b)])) _
    refine XS.bipush X94.here hx rfl (hb hby at_165) ?_
    show Steps p.tables e below (T94.setTop (mkF m 167 #[.val (.int p0), .val (.int p1), .val (.int p2), .val (.ref b), .unset, .unset, .unset] [(.int (24 : Int32)), (.int (p1 &&& (2147483647 : Int32))), (.ref b)])) _
    refine iremM X94 hx rfl (hb hby at_167) rfl (by decide) ?_
    show Steps p.tables e below (T94.setTop (mkF m 168 #[.val (.int p0), .val (.int p1), .val (.int p2), .val (.ref b), .unset, .unset, .unset] [(.int ((p1 &&& (2147483647 : Int32)) % (24 : Int32))), (.ref b)])) _
    refine X94.iaload hx (j := ((p1 &&& (2147483647 : Int32)) % (24 : Int32))) (v := (.int x0)) (by rw [e94]; exact Ar95.1) (State.isArrayOf_alike hZ.alike Ar95.2.1) Ar95.2.2 hin96 hat96 (g := (mkF m 168 #[.val (.int p0), .val (.int p1), .val (.int p2), .val (.ref b), .unset, .unset, .unset] [(.int ((p1 &&& (2147483647 : Int32)) % (24 : Int32))), (.ref b)])) rfl rfl (hb hby at_168) _ ?_
    show Steps p.tables e below (T94.setTop (mkF m 169 #[.val (.int p0), .val (.int p1), .val (.int p2), .val (.ref b), .unset, .unset, .unset] [(.int x0)])) _
    refine XS.iloadN X94.here hx rfl (hb hby at_169) rfl ?_
    show Steps p.tables e below (T94.setTop (mkF m 170 #[.val (.int p0), .val (.int p1), .val (.int p2), .val (.ref b), .unset, .unset, .unset] [(.int p2), (.int x0)])) _
    refine XS.iconst X94.here hx rfl (hb hby at_170) ?_
    show Steps p.tables e below (T94.setTop (mkF m 171 #[.val (.int p0), .val (.int p1), .val (.int p2), .val (.ref b), .unset, .unset, .unset] [(.int (3 : Int32)), (.int p2), (.int x0)])) _
    refine XS.iand X94.here hx rfl (hb hby at_171) rfl ?_
    show Steps p.tables e below (T94.setTop (mkF m 172 #[.val (.int p0), .val (.int p1), .val (.int p2), .val (.ref b), .unset, .unset, .unset] [(.int (p2 &&& (3 : Int32))), (.int x0)])) _
    refine XS.iconst X94.here hx rfl (hb hby at_172) ?_
    show Steps p.tables e below (T94.setTop (mkF m 173 #[.val (.int p0), .val (.int p1), .val (.int p2), .val (.ref b), .unset, .unset, .unset] [(.int (1 : Int32)), (.int (p2 &&& (3 : Int32))), (.int x0)])) _
    refine XS.isub X94.here hx rfl (hb hby at_173) rfl ?_
    show Steps p.tables e below (T94.setTop (mkF m 174 #[.val (.int p0), .val (.int p1), .val (.int p2), .val (.ref b), .unset, .unset, .unset] [(.int ((p2 &&& (3 : Int32)) - (1 : Int32))), (.int x0)])) _
    refine XS.iadd X94.here hx rfl (hb hby at_174) rfl ?_
    show Steps p.tables e below (T94.setTop (mkF m 175 #[.val (.int p0), .val (.int p1), .val (.int p2), .val (.ref b), .unset, .unset, .unset] [(.int (x0 + ((p2 &&& (3 : Int32)) - (1 : Int32))))])) _
    refine XS.istore X94.here hx rfl (hb hby at_175) rfl (l' := #[.val (.int p0), .val (.int p1), .val (.int p2), .val (.ref b), .val (.int (x0 + ((p2 &&& (3 : Int32)) - (1 : Int32)))), .unset, .unset]) rfl ?_
    show Steps p.tables e below (T94.setTop (mkF m 177 #[.val (.int p0), .val (.int p1), .val (.int p2), .val (.ref b), .val (.int (x0 + ((p2 &&& (3 : Int32)) - (1 : Int32)))), .unset, .unset] [])) _
    refine XS.iloadN X94.here hx rfl (hb hby at_177) rfl ?_
    show Steps p.tables e below (T94.setTop (mkF m 178 #[.val (.int p0), .val (.int p1), .val (.int p2), .val (.ref b), .val (.int (x0 + ((p2 &&& (3 : Int32)) - (1 : Int32)))), .unset, .unset] [(.int p0)])) _
    refine st97 _ ?_
    show Steps p.tables e below (T97.setTop (mkF m 181 #[.val (.int p0), .val (.int p1), .val (.int p2), .val (.ref b), .val (.int (x0 + ((p2 &&& (3 : Int32)) - (1 : Int32)))), .unset, .unset] [(.int (B1_0 p0))])) _
    refine XS.iloadN X97.here hx rfl (hb hby at_181) rfl ?_
    show Steps p.tables e below (T97.setTop (mkF m 182 #[.val (.int p0), .val (.int p1), .val (.int p2), .val (.ref b), .val (.int (x0 + ((p2 &&& (3 : Int32)) - (1 : Int32)))), .unset, .unset] [(.int p0), (.int (B1_0 p0))])) _
    refine st98 _ ?_
    show Steps p.tables e below (T98.setTop (mkF m 185 #[.val (.int p0), .val (.int p1), .val (.int p2), .val (.ref b), .val (.int (x0 + ((p2 &&& (3 : Int32)) - (1 : Int32)))), .unset, .unset] [(.int (B2_0 p0)), (.int (B1_0 p0))])) _
    refine XS.icmpNo X98.here hx rfl (hb hby at_185) rfl (teq (own_same p0)).2 ?_
    show Steps p.tables e below (T98.setTop (mkF m 188 #[.val (.int p0), .val (.int p1), .val (.int p2), .val (.ref b), .val (.int (x0 + ((p2 &&& (3 : Int32)) - (1 : Int32)))), .unset, .unset] [])) _
    refine XS.iconst X98.here hx rfl (hb hby at_188) ?_
    show Steps p.tables e below (T98.setTop (mkF m 189 #[.val (.int p0), .val (.int p1), .val (.int p2), .val (.ref b), .val (.int (x0 + ((p2 &&& (3 : Int32)) - (1 : Int32)))), .unset, .unset] [(.int (1 : Int32))])) _
    refine XS.goto X98.here hx rfl (pc0 := 189) (pc' := 193) rfl (hb hby at_189) (by decide) (by decide) ?_
    show Steps p.tables e below (T98.setTop (mkF m 193 #[.val (.int p0), .val (.int p1), .val (.int p2), .val (.ref b), .val (.int (x0 + ((p2 &&& (3 : Int32)) - (1 : Int32)))), .unset, .unset] [(.int (1 : Int32))])) _
    refine XS.istore X98.here hx rfl (hb hby at_193) rfl (l' := #[.val (.int p0), .val (.int p1), .val (.int p2), .val (.ref b), .val (.int (x0 + ((p2 &&& (3 : Int32)) - (1 : Int32)))), .val (.int (1 : Int32)), .unset]) rfl ?_
    show Steps p.tables e below (T98.setTop (mkF m 195 #[.val (.int p0), .val (.int p1), .val (.int p2), .val (.ref b), .val (.int (x0 + ((p2 &&& (3 : Int32)) - (1 : Int32)))), .val (.int (1 : Int32)), .unset] [])) _
    refine XS.iload X98.here hx rfl (hb hby at_195) rfl ?_
    show Steps p.tables e below (T98.setTop (mkF m 197 #[.val (.int p0), .val (.int p1), .val (.int p2), .val (.ref b), .val (.int (x0 + ((p2 &&& (3 : Int32)) - (1 : Int32)))), .val (.int (1 : Int32)), .unset] [(.int (x0 + ((p2 &&& (3 : Int32)) - (1 : Int32))))])) _
    refine st99 _ ?_
    show Steps p.tables e below (T99.setTop (mkF m 200 #[.val (.int p0), .val (.int p1), .val (.int p2), .val (.ref b), .val (.int (x0 + ((p2 &&& (3 : Int32)) - (1 : Int32)))), .val (.int (1 : Int32)), .unset] [(.int (B1_0 (x0 + ((p2 &&& (3 : Int32)) - (1 : Int32)))))])) _
    refine XS.iload X99.here hx rfl (hb hby at_200) rfl ?_
    show Steps p.tables e below (T99.setTop (mkF m 202 #[.val (.int p0), .val (.int p1), .val (.int p2), .val (.ref b), .val (.int (x0 + ((p2 &&& (3 : Int32)) - (1 : Int32)))), .val (.int (1 : Int32)), .unset] [(.int (x0 + ((p2 &&& (3 : Int32)) - (1 : Int32)))), (.int (B1_0 (x0 + ((p2 &&& (3 : Int32)) - (1 : Int32)))))])) _
    refine st100 _ ?_
    show Steps p.tables e below (T100.setTop (mkF m 205 #[.val (.int p0), .val (.int p1), .val (.int p2), .val (.ref b), .val (.int (x0 + ((p2 &&& (3 : Int32)) - (1 : Int32)))), .val (.int (1 : Int32)), .unset] [(.int (B2_0 (x0 + ((p2 &&& (3 : Int32)) - (1 : Int32))))), (.int (B1_0 (x0 + ((p2 &&& (3 : Int32)) - (1 : Int32)))))])) _
    refine XS.icmpNo X100.here hx rfl (hb hby at_205) rfl (teq (own_same (x0 + ((p2 &&& (3 : Int32)) - (1 : Int32))))).2 ?_
    show Steps p.tables e below (T100.setTop (mkF m 208 #[.val (.int p0), .val (.int p1), .val (.int p2), .val (.ref b), .val (.int (x0 + ((p2 &&& (3 : Int32)) - (1 : Int32)))), .val (.int (1 : Int32)), .unset] [])) _
    refine XS.iconst X100.here hx rfl (hb hby at_208) ?_
    show Steps p.tables e below (T100.setTop (mkF m 209 #[.val (.int p0), .val (.int p1), .val (.int p2), .val (.ref b), .val (.int (x0 + ((p2 &&& (3 : Int32)) - (1 : Int32)))), .val (.int (1 : Int32)), .unset] [(.int (1 : Int32))])) _
    refine XS.goto X100.here hx rfl (pc0 := 209) (pc' := 213) rfl (hb hby at_209) (by decide) (by decide) ?_
    show Steps p.tables e below (T100.setTop (mkF m 213 #[.val (.int p0), .val (.int p1), .val (.int p2), .val (.ref b), .val (.int (x0 + ((p2 &&& (3 : Int32)) - (1 : Int32)))), .val (.int (1 : Int32)), .unset] [(.int (1 : Int32))])) _
    refine XS.istore X100.here hx rfl (hb hby at_213) rfl (l' := #[.val (.int p0), .val (.int p1), .val (.int p2), .val (.ref b), .val (.int (x0 + ((p2 &&& (3 : Int32)) - (1 : Int32)))), .val (.int (1 : Int32)), .val (.int (1 : Int32))]) rfl ?_
    show Steps p.tables e below (T100.setTop (mkF m 215 #[.val (.int p0), .val (.int p1), .val (.int p2), .val (.ref b), .val (.int (x0 + ((p2 &&& (3 : Int32)) - (1 : Int32)))), .val (.int (1 : Int32)), .val (.int (1 : Int32))] [])) _
    refine XS.iload X100.here hx rfl (hb hby at_215) rfl ?_
    show Steps p.tables e below (T100.setTop (mkF m 217 #[.val (.int p0), .val (.int p1), .val (.int p2), .val (.ref b), .val (.int (x0 + ((p2 &&& (3 : Int32)) - (1 : Int32)))), .val (.int (1 : Int32)), .val (.int (1 : Int32))] [(.int (1 : Int32))])) _
    refine XS.ifNo X100.here hx rfl (hb hby at_217) rfl ((if0 _ _).trans (feq (by decide)).1) ?_
    show Steps p.tables e below (T100.setTop (mkF m 220 #[.val (.int p0), .val (.int p1), .val (.int p2), .val (.ref b), .val (.int (x0 + ((p2 &&& (3 : Int32)) - (1 : Int32)))), .val (.int (1 : Int32)), .val (.int (1 : Int32))] [])) _
    refine XS.iload X100.here hx rfl (hb hby at_220) rfl ?_
    show Steps p.tables e below (T100.setTop (mkF m 222 #[.val (.int p0), .val (.int p1), .val (.int p2), .val (.ref b), .val (.int (x0 + ((p2 &&& (3 : Int32)) - (1 : Int32)))), .val (.int (1 : Int32)), .val (.int (1 : Int32))] [(.int (1 : Int32))])) _
    refine XS.ifNo X100.here hx rfl (hb hby at_222) rfl ((if0 _ _).trans (feq (by decide)).1) ?_
    show Steps p.tables e below (T100.setTop (mkF m 225 #[.val (.int p0), .val (.int p1), .val (.int p2), .val (.ref b), .val (.int (x0 + ((p2 &&& (3 : Int32)) - (1 : Int32)))), .val (.int (1 : Int32)), .val (.int (1 : Int32))] [])) _
    refine XS.iconst X100.here hx rfl (hb hby at_225) ?_
    show Steps p.tables e below (T100.setTop (mkF m 226 #[.val (.int p0), .val (.int p1), .val (.int p2), .val (.ref b), .val (.int (x0 + ((p2 &&& (3 : Int32)) - (1 : Int32)))), .val (.int (1 : Int32)), .val (.int (1 : Int32))] [(.int (1 : Int32))])) _
    refine XS.goto X100.here hx rfl (pc0 := 226) (pc' := 230) rfl (hb hby at_226) (by decide) (by decide) ?_
    show Steps p.tables e below (T100.setTop (mkF m 230 #[.val (.int p0), .val (.int p1), .val (.int p2), .val (.ref b), .val (.int (x0 + ((p2 &&& (3 : Int32)) - (1 : Int32)))), .val (.int (1 : Int32)), .val (.int (1 : Int32))] [(.int (1 : Int32))])) _
    exact k
  exact own_retN X100 hx (t := .boolean) hret (by simp) hlk (hb hby at_230) (⟨rfl, N100⟩) (by decide) (by decide)
set_option maxRecDepth 65536 in
set_option maxHeartbeats 40000000 in
theorem own_comes {Post : Tables → Env → Array Value → State → Outcome → State → Prop} (hpost : ∀ tb e args s v u, (limb_1_1.after args s (.returned v) u = true ∧ limb_1_2.after args s (.returned v) u = true) → FrameEnd s (.returned v) u (Jvm.fieldLocs frame_1_writes args s ++ Jvm.arrayLocs frame_1_arrays args s ++ Jvm.staticLocs frame_1_statics s) 16 128 → Post tb e args s (.returned v) u) :
    ArmFor flags0 classFile x code maxLocals ret World_1 tables_1 room_1 Calls_1 rest_1 Pre_1 Post := by
  intro l hfl _ _ p e ha hc hk s m args below hf hA hF happ hP
  obtain ⟨hcalls, hrest, hpre⟩ := hP
  obtain ⟨-, -, -, hnamed, -, -, -, hat⟩ := (Spec.applies_iff hf).mp happ
  obtain ⟨hg, hn⟩ := and_e (Cond.before_iff.mp (show (Jvm.Cond.and given_1 narrow_1).before args s = true from hpre))
  obtain ⟨g0, k0⟩ := and_e hg
  obtain ⟨g1, k1⟩ := and_e k0
  obtain ⟨g2, k2⟩ := and_e k1
  obtain ⟨w0, w1, w2, rfl⟩ : ∃ w0 w1 w2 : Value, args = #[w0, w1, w2] := by
    have hs : args.size = 3 := by simpa [Cond.value, given_1] using g0
    obtain ⟨L⟩ := args
    match L, hs with
    | [w0, w1, w2], _ => exact ⟨w0, w1, w2, rfl⟩
  have hw := fun d (hd : d ∈ tables_1) => atoms_spec (ws := Jvm.Cond.code x code maxLocals ret :: tables_1) hat d (List.mem_cons_of_mem _ hd)
  obtain ⟨i0, ei0⟩ := is_v g1
  obtain rfl : w0 = (.int i0) := Option.some.inj ei0
  obtain ⟨i1, ei1⟩ := is_v g2
  obtain rfl : w1 = (.int i1) := Option.some.inj ei1
  obtain ⟨i2, ei2⟩ := is_v k2
  obtain rfl : w2 = (.int i2) := Option.some.inj ei2
  obtain ⟨n, o, h1, h2, h3, vv, L, rfl, ⟨rfl, N⟩, hq⟩ := rm0 l s _ hw tables_1 i0 i1 i2 s.heap s.heap.size (Nat.le_refl _)  p e ha hc hk s m _ below hf ((Spec.applies_iff_loose hf).mp happ).1 ⟨rfl, State.Warmed39.refl s, rfl⟩ trivial
  refine ⟨n, _, h1, h2, h3, hpost _ _ _ _ _ _ ⟨Cond.after_iff.mpr rfl, Cond.after_iff.mpr (eq_i res_at (Term.int_eval (1)) rfl)⟩ ⟨hq.1, hq.2.1, (hq.2.2.sift fun y hy => Or.inr (N y hy)).mono (by decide) (by decide)⟩⟩
theorem main_1_1 : Claimed_1_1 := own_comes fun _ _ _ _ _ _ h hF => ⟨h.1, hF⟩
theorem main_1_2 : Claimed_1_2 := own_comes fun _ _ _ _ _ _ h hF => ⟨h.2, hF⟩
end Jvm.Pilot.@@N@@
namespace Jvm.Pilot.@@N@@
open Jvm Jvm.ClassFile Sem Op Lib Jvm.Free Jvm.Stand Jvm.Pilot.@@N@@.Jvm.D
/-! MADE BY PROGRAM (witnessworld.py) out of the Statement's table words and the real class files: 9 classes; the members and pool entries that the words name. The judged class is class 1, her method 2. -/
namespace start1
open Jvm.ClassFile
def u (s : String) : CpInfo := .utf8 (stringToUtf16 s)
/-- a pool by its gaps: so many unusable entries, then the entry; so many at the end -/
def gap : Nat → List CpInfo → List CpInfo
  | 0, r => r
  | n + 1, r => .unusable :: gap n r
def poolList (es : List (Nat × CpInfo)) (last : Nat) : List CpInfo := es.foldr (fun e r => gap e.1 (e.2 :: r)) (gap last [])
def pool (es : List (Nat × CpInfo)) (last : Nat) : Array CpInfo := ⟨poolList es last⟩
def fileOf (pool : Array CpInfo) (this : Nat) (attrs : Array Attribute := #[]) (ms : Array MethodInfo := #[]) (fl : Nat := 33) (sup : Nat := 0) (ifs : Array Nat := #[]) (fds : Array FieldInfo := #[]) : ClassFile where
  minorVersion := 0
  majorVersion := 65
  constantPool := pool
  accessFlags := fl
  thisClass := this
  superClass := sup
  interfaces := ifs
  fields := fds
  methods := ms
  attributes := attrs
def plain (name : String) (sup : Option ClassId) : Class where
  name := name
  kind := .ordinary
  loader := none
  accessFlags := 33
  super := sup
  interfaces := #[]
  cf := none
  fields := #[]
  methods := #[]
  instanceTypes := #[]
  staticTypes := #[]
  resolved := #[]
  callSites := []
  init := .initialized
  statics := none
  mirror := none

def pool0 : Array CpInfo := pool [(5, u "<init>"), (0, u "()V"), (1, .class_ 10), (1, u "java/lang/Object")] 113

def k0m0 : Method := { name := "<init>", desc := "()V", sig := { parameters := [], returnType := none }, accessFlags := 1, code := none }
/-- java/lang/Object -/
def k0 : Class := { plain "java/lang/Object" none with
  accessFlags := 33
  interfaces := #[]
  cf := some (fileOf pool0 8 #[] #[{ accessFlags := 1, nameIndex := 5, descriptorIndex := 6, attributes := #[] }] 33 0 #[] #[])
  fields := #[]
  methods := #[k0m0]
  instanceTypes := #[]
  staticTypes := #[]
  resolved := Array.replicate 124 none
  statics := none }

def pool1 : Array CpInfo := pool [(2, .class_ 4), (1, u "java/lang/Object"), (0, u "<init>"), (0, u "()V"), (0, .integer 983039), (0, .integer 55296), (0, .integer 63743), (0, .integer 64976), (0, .integer 65007), (0, .integer 65534), (0, .integer 65535), (0, .integer 55295), (0, .integer 63744), (0, .integer 64975), (0, .integer 65008), (0, .integer 65533), (0, .integer 65536), (0, .integer 2147483647), (0, .methodref 22 23), (0, .class_ 24), (0, .nameAndType 25 26), (0, u "com/example/vetted_path/vettedpath/NameCharacters"), (0, u "isFifthEditionNameStart"), (0, u "(I)Z"), (0, .methodref 28 29), (0, .class_ 30), (0, .nameAndType 31 26), (0, u "com/example/vetted_path/vettedpath/NameCharactersIsFifthEditionNameStartPinLaw"), (0, u "ref"), (3, u "law"), (0, u "(III)Z")] 4

def k1m0 : Method := { name := "<init>", desc := "()V", sig := { parameters := [], returnType := none }, accessFlags := 2, code := none }
def k1c1 : Code := { maxStack := 2, maxLocals := 1, code := method_2_code, exceptionTable := #[], attributes := #[] }
def k1m1 : Method := { name := "ref", desc := "(I)Z", sig := { parameters := [.int], returnType := some .boolean }, accessFlags := 10, code := some k1c1 }
def k1c2 : Code := { maxStack := 4, maxLocals := 7, code := code, exceptionTable := #[], attributes := #[] }
def k1m2 : Method := { name := "law", desc := "(III)Z", sig := { parameters := [.int, .int, .int], returnType := some .boolean }, accessFlags := 9, code := some k1c2 }
/-- com/example/vetted_path/vettedpath/NameCharactersIsFifthEditionNameStartPinLaw -/
def k1 : Class := { plain "com/example/vetted_path/vettedpath/NameCharactersIsFifthEditionNameStartPinLaw" (some 0) with
  accessFlags := 49
  interfaces := #[]
  cf := some (fileOf pool1 28 #[] #[{ accessFlags := 2, nameIndex := 5, descriptorIndex := 6, attributes := #[] }, { accessFlags := 10, nameIndex := 31, descriptorIndex := 26, attributes := #[] }, { accessFlags := 9, nameIndex := 35, descriptorIndex := 36, attributes := #[] }] 49 2 #[] #[])
  fields := #[]
  methods := #[k1m0, k1m1, k1m2]
  instanceTypes := #[]
  staticTypes := #[]
  resolved := Array.replicate 41 none
  statics := none }

def pool2 : Array CpInfo := pool [(2, .class_ 4), (1, u "java/lang/Object"), (0, u "<init>"), (0, u "()V"), (0, .integer 55295), (0, .integer 63744), (0, .integer 64975), (0, .integer 65008), (0, .integer 65533), (0, .integer 65536), (0, .integer 983039), (1, .class_ 17), (1, u "com/example/vetted_path/vettedpath/NameCharacters"), (0, u "isFifthEditionNameStart"), (0, u "(I)Z"), (2, u "APPENDIX_B_LETTERS"), (0, u "[I"), (6, u "APPENDIX_B_OTHER_NAME_CHARS")] 18

def k2m0 : Method := { name := "<init>", desc := "()V", sig := { parameters := [], returnType := none }, accessFlags := 2, code := none }
def k2c1 : Code := { maxStack := 2, maxLocals := 1, code := prog_16_method_2_code, exceptionTable := #[], attributes := #[] }
def k2m1 : Method := { name := "isFifthEditionNameStart", desc := "(I)Z", sig := { parameters := [.int], returnType := some .boolean }, accessFlags := 8, code := some k2c1 }
/-- com/example/vetted_path/vettedpath/NameCharacters -/
def k2 : Class := { plain "com/example/vetted_path/vettedpath/NameCharacters" (some 0) with
  accessFlags := 48
  interfaces := #[]
  cf := some (fileOf pool2 15 #[] #[{ accessFlags := 2, nameIndex := 5, descriptorIndex := 6, attributes := #[] }, { accessFlags := 8, nameIndex := 18, descriptorIndex := 19, attributes := #[] }] 48 2 #[] #[{ accessFlags := 26, nameIndex := 22, descriptorIndex := 23, attributes := #[] }, { accessFlags := 26, nameIndex := 30, descriptorIndex := 23, attributes := #[] }])
  fields := #[{ name := "APPENDIX_B_LETTERS", type := (.array .int), accessFlags := 26, slot := 0, constantValue := 0 }, { name := "APPENDIX_B_OTHER_NAME_CHARS", type := (.array .int), accessFlags := 26, slot := 1, constantValue := 0 }]
  methods := #[k2m0, k2m1]
  instanceTypes := #[]
  staticTypes := #[(.array .int), (.array .int)]
  resolved := Array.replicate 49 none
  statics := none }

def pool3 : Array CpInfo := pool [(1, u "java/lang/Cloneable"), (0, .class_ 1), (0, u "java/lang/Object"), (0, .class_ 3)] 3

/-- java/lang/Cloneable -/
def k3 : Class := { plain "java/lang/Cloneable" (some 0) with
  accessFlags := 1537
  interfaces := #[]
  cf := some (fileOf pool3 2 #[] #[] 1537 4 #[] #[])
  fields := #[]
  methods := #[]
  instanceTypes := #[]
  staticTypes := #[]
  resolved := Array.replicate 8 none
  statics := none }

def pool4 : Array CpInfo := pool [(1, u "java/io/Serializable"), (0, .class_ 1), (0, u "java/lang/Object"), (0, .class_ 3)] 3

/-- java/io/Serializable -/
def k4 : Class := { plain "java/io/Serializable" (some 0) with
  accessFlags := 1537
  interfaces := #[]
  cf := some (fileOf pool4 2 #[] #[] 1537 4 #[] #[])
  fields := #[]
  methods := #[]
  instanceTypes := #[]
  staticTypes := #[]
  resolved := Array.replicate 8 none
  statics := none }

/-- the primitive byte -/
def k5 : Class := { plain "byte" none with kind := .primitive 'B', accessFlags := 0x411 }
/-- [B -/
def k6 : Class := { plain "[B" (some 0) with kind := .array 5 .byte, interfaces := #[3, 4], accessFlags := 1041 }

/-- the primitive int -/
def k7 : Class := { plain "int" none with kind := .primitive 'I', accessFlags := 0x411 }
/-- [I -/
def k8 : Class := { plain "[I" (some 0) with kind := .array 7 .int, interfaces := #[3, 4], accessFlags := 1041 }

def heap : Heap := #[]
def classes : Array Class := #[k0, k1, k2, k3, k4, k5, k6, k7, k8]
def interned : List (Array UInt16 × Addr) := []
def slotsUsed : Nat := 0
def theMethod : MethodId := ⟨1, 2⟩
def args0 : Array Value := #[.int 200, .int 3, .int 2]
def aboutOver (below : List Frame) : State where
  vm := { classes := classes, interned := interned.toArray }
  heap := heap
  slotsUsed := slotsUsed
  threads := #[{ frames := .invoking theMethod args0 :: below }]
def below0 : List Frame := [.native { method := ⟨0, 0⟩, args := #[] }]
def about1 : State := aboutOver below0
def p0 : Program := .bare "" "" ""
def e0 : Env := launch0.env 0 0 0
theorem w_frames : about1.frames = Frame.invoking theMethod args0 :: below0 := rfl
set_option maxRecDepth 65536 in
theorem w_args : argsFit about1.vm theMethod args0 = true := by decide +kernel
set_option maxRecDepth 65536 in
theorem w_heap : heapFits about1 = true := by decide +kernel
set_option maxRecDepth 65536 in
theorem w_runnable : about1.curStatus? = some .runnable := by decide +kernel
set_option maxRecDepth 65536 in
theorem w_alone : about1.alone = true := by decide +kernel
set_option maxRecDepth 65536 in
theorem w_named : about1.methodNamed? x = some theMethod := by decide +kernel
set_option maxRecDepth 65536 in
theorem w_hears : about1.hears theMethod below0 = true := by decide +kernel
set_option maxRecDepth 65536 in
theorem w_ripe : about1.ripe theMethod args0 below0 = true := by decide +kernel
theorem w_running : about1.status = .running := rfl
set_option maxRecDepth 65536 in
theorem w_room : about1.hasRoom e0.platform room_1 = true :=
  launch0.hasRoom_least _ room_1 (by decide +kernel) (by decide +kernel) (by decide +kernel) (by decide +kernel) (by decide +kernel) (by decide +kernel)
theorem allAtoms_all (ts : List Jvm.Cond) (a : Array Jvm.Value) (st : Jvm.State) : (allAtoms ts).before a st = ts.all (fun c => c.before a st) := by
  induction ts with
  | nil => rfl
  | cons c t ih =>
    show (Jvm.Cond.and c (allAtoms t)).before a st = _
    rw [Jvm.Cond.before_and, ih, List.all_cons]
def words1 : List Jvm.Cond := Jvm.Cond.code x code maxLocals ret :: tables_1
/-- a 'code' word, met by the world's own term for the bytes: nothing is compared byte by byte -/
theorem code_word {y : MethodName} {bytes : ByteArray} {mx : Nat} {rt : Option FieldType} {a : Array Value} {s : State} {m : MethodId} {meth : Method} {c : Code} (h1 : s.methodNamed? y = some m) (h2 : s.vm.method? m = some meth) (h3 : meth.code = some c) (h4 : c.code = bytes)
    (h5 : (c.maxLocals == mx && c.exceptionTable.isEmpty && decide (c.maxStack ≤ mostOperands) && decide (meth.sig.returnType = rt) && !meth.locks && decide (parseMethodDescriptor y.desc = some meth.sig)) = true) : (Jvm.Cond.code y bytes mx rt).before a s = true := by
  simp only [Bool.and_eq_true, beq_iff_eq, Bool.not_eq_true', decide_eq_true_eq] at h5
  obtain ⟨⟨⟨⟨⟨g1, g2⟩, g3⟩, g4⟩, g5⟩, g6⟩ := h5
  simp [Cond.before, Cond.holds, Cond.value, h1, h2, h3, h4, g1, g2, g3, g4, g5, g6]
def isCode : Jvm.Cond → Bool
  | .code _ _ _ _ => true
  | _ => false
theorem all_split {L : List Jvm.Cond} {P : Jvm.Cond → Bool} (h1 : L.all (fun c => isCode c || P c) = true) (h2 : ∀ c ∈ L.filter isCode, P c = true) : L.all P = true := by
  refine List.all_eq_true.mpr fun c hc => ?_
  have h := List.all_eq_true.mp h1 c hc
  rcases Bool.eq_false_or_eq_true (isCode c) with hi | hi
  · exact h2 c (List.mem_filter.mpr ⟨hc, hi⟩)
  · simpa [hi] using h
set_option maxRecDepth 65536 in
theorem w_c0 : (Jvm.Cond.code x code maxLocals ret).before args0 about1 = true := code_word (m := ⟨1, 2⟩) (meth := k1m2) (c := k1c2) (by decide +kernel) rfl rfl rfl (by decide +kernel)
set_option maxRecDepth 65536 in
theorem w_c1 : (Jvm.Cond.code ({ cls := "com/example/vetted_path/vettedpath/NameCharacters", name := "isFifthEditionNameStart", desc := "(I)Z" } : Jvm.MethodName) prog_16_method_2_code (1 : Nat) (Option.some Jvm.ClassFile.FieldType.boolean)).before args0 about1 = true := code_word (m := ⟨2, 1⟩) (meth := k2m1) (c := k2c1) (by decide +kernel) rfl rfl rfl (by decide +kernel)
set_option maxRecDepth 65536 in
theorem w_c2 : (Jvm.Cond.code ({ cls := "com/example/vetted_path/vettedpath/NameCharactersIsFifthEditionNameStartPinLaw", name := "ref", desc := "(I)Z" } : Jvm.MethodName) method_2_code (1 : Nat) (Option.some Jvm.ClassFile.FieldType.boolean)).before args0 about1 = true := code_word (m := ⟨1, 1⟩) (meth := k1m1) (c := k1c1) (by decide +kernel) rfl rfl rfl (by decide +kernel)
def codes1 : List Jvm.Cond := [Jvm.Cond.code x code maxLocals ret, Jvm.Cond.code ({ cls := "com/example/vetted_path/vettedpath/NameCharacters", name := "isFifthEditionNameStart", desc := "(I)Z" } : Jvm.MethodName) prog_16_method_2_code (1 : Nat) (Option.some Jvm.ClassFile.FieldType.boolean), Jvm.Cond.code ({ cls := "com/example/vetted_path/vettedpath/NameCharactersIsFifthEditionNameStartPinLaw", name := "ref", desc := "(I)Z" } : Jvm.MethodName) method_2_code (1 : Nat) (Option.some Jvm.ClassFile.FieldType.boolean)]
set_option maxRecDepth 65536 in
theorem codes_eq : words1.filter isCode = codes1 := rfl
theorem w_codes : ∀ c ∈ words1.filter isCode, c.before args0 about1 = true := by
  rw [codes_eq]
  intro c hc
  simp only [codes1, List.mem_cons, List.not_mem_nil, or_false] at hc
  rcases hc with rfl | rfl | rfl
  · exact w_c0
  · exact w_c1
  · exact w_c2
set_option maxRecDepth 65536 in
theorem w_t1 : (words1.take 24).all (fun c => isCode c || c.before args0 about1) = true := by decide +kernel
set_option maxRecDepth 65536 in
theorem w_t2 : (words1.drop 24).all (fun c => isCode c || c.before args0 about1) = true := by decide +kernel
theorem w_tables : (allAtoms (Jvm.Cond.code x code maxLocals ret :: tables_1)).before args0 about1 = true := by
  rw [allAtoms_all]
  show words1.all (fun c => c.before args0 about1) = true
  refine all_split ?_ w_codes
  rw [← List.take_append_drop 24 words1, List.all_append, w_t1, w_t2]
  rfl
set_option maxRecDepth 65536 in
theorem w_case : (Jvm.Cond.and given_1 narrow_1).before args0 about1 = true := by decide +kernel
theorem w_applies : (headSpec (Jvm.Cond.code x code maxLocals ret :: tables_1) room_1).applies x e0.platform about1 = true :=
  (Spec.applies_iff w_frames).mpr ⟨w_running, w_runnable, w_alone, w_named, w_hears, w_ripe, w_room, w_tables⟩
theorem atStart : AtStart classFile x code maxLocals ret World_1 tables_1 room_1 Calls_1 rest_1 Pre_1 launch0 p0 e0 about1 theMethod args0 below0 :=
  ⟨lists_1, trivial, launch0.admits_env _ _ _, launch0.least_env, fairChoices_fair.cas, fairChoices_fair.clock, w_frames, w_args, w_heap, w_applies, trivial, trivial, w_case⟩
end start1
theorem witness_1 : WitnessClaimed_1 := ⟨start1.p0, start1.e0, start1.about1, start1.theMethod, start1.args0, start1.below0, start1.atStart⟩
end Jvm.Pilot.@@N@@
