import JvmDerived
import JvmDerived.Pilot.@@N@@Statement
import JvmDerived.Pilot.@@N@@Code
set_option linter.unusedVariables false
set_option linter.unusedSimpArgs false
namespace Jvm.Pilot.@@N@@
open Jvm Jvm.ClassFile Sem Op Lib Jvm.Free Jvm.Stand Jvm.LawKit Jvm.RoadKit Bundle Jvm.Pilot.@@N@@.Jvm.D
/-! the goal of a walk: from this frame the run comes to an end of which K holds -/
def own_Go (p : Program) (e : Env) (below : List Frame) (T : State) (f : JFrame) (K : State → Outcome → Prop) : Prop := ∃ s₂ o, Steps p.tables e below (T.setTop f) s₂ ∧ K s₂ o
theorem own_Go.mono {p : Program} {e : Env} {below : List Frame} {T T' : State} {f f' : JFrame} {K : State → Outcome → Prop} (h : ∀ t, Steps p.tables e below (T'.setTop f') t → Steps p.tables e below (T.setTop f) t) (g : own_Go p e below T' f' K) : own_Go p e below T f K := by
  obtain ⟨a, o, h1, h2⟩ := g; exact ⟨a, o, h _ h1, h2⟩
def own_K (s : State) (below : List Frame) (Qv : Option Value → Heap → List Loc → Prop) (cc ss : Nat) : State → Outcome → Prop := fun s₂ o => s₂.status = .running ∧ Ended s₂ below o ∧ ∃ v L, o = .returned v ∧ Qv v s₂.heap L ∧ FrameEnd s o s₂ L cc ss
theorem own_body {l : Launch} {y : MethodName} {bytes : ByteArray} {maxL : Nat} {ret : Option FieldType} {ws : List Jvm.Cond} {rm : Room} {Z : State} {as' : Array Value} {h0 : Heap} {Qv : Option Value → Heap → List Loc → Prop} {cc ss : Nat} (hpn : plainFor y = true)
    (body : ∀ (p : Program) (e : Env) (s : State) (m : MethodId) (below : List Frame) (meth : Method) (c : Code) (s₁ : State), p.tables.exec = Jvm.exec → c.code = bytes → c.maxLocals = maxL → meth.sig.returnType = ret → meth.locks = false → s.vm.findClass y.cls = some m.cls → meth.name = y.name → Z.Warmed39 s.vm → Stand p l e rm s m as' below meth c s₁ [] 0 0 → s₁.heap = h0 → own_Go p e below s₁ (entryFrame m as' maxL) (own_K s below Qv cc ss)) :
    MetFree l y (head1 (Jvm.Cond.code y bytes maxL ret :: ws) rm) (fun a U => a = as' ∧ Z.Warmed39 U.vm ∧ U.heap = h0) (fun _ _ _ _ _ => True) (fun _ U o U' => ∃ v L, o = .returned v ∧ Qv v U'.heap L ∧ FrameEnd U o U' L cc ss) := by
  refine MetFree.of_bodySF hpn hisR ?_
  intro p e s m args below meth c s₁ Bd hml0 hP hK
  obtain ⟨rfl, hZ, hh⟩ := hP
  exact body p e s m below meth c s₁ Bd.exec Bd.bytes hml0 Bd.returns Bd.notSynchronized (findClass_of_methodNamed Bd.named) (name_of_methodNamed Bd.named Bd.method).1 hZ (Stand.of_body Bd) (by rw [← hh, Bd.state]; rfl)
section Ret
variable {p : Program} {l : Launch} {e : Env} {R : Room} {s : State} {m : MethodId} {args : Array Value} {below : List Frame} {meth : Method} {c : Code} {T : State} {locs : List Loc} {cells slots : Nat} {Qv : Option Value → Heap → List Loc → Prop} {cc ss pc : Nat} {Ls : Array Slot} {rest : List Value}
theorem own_ret (X : Stand p l e R s m args below meth c T locs cells slots) {f : JFrame} {v : Option Value} (hv : meth.sig.returnType = none → v = none) (hlk : meth.locks = false)
    (hst : ∀ fs, (∀ (f : JFrame) (acts : List Action), f.method = m → f.locked = none → f.entered = [] → (doReturn e (T.setTop f) acts v).1 = T.setFrames fs) → Steps p.tables e below (T.setTop f) (T.setFrames fs)) (hq : Qv v T.heap locs) (hc : cells ≤ cc) (hs : slots ≤ ss) :
    own_Go p e below T f (own_K s below Qv cc ss) := by
  obtain ⟨fs, hr, hrun, hended, hW, hsame⟩ := X.leave (v := v) hv hlk
  exact ⟨_, _, hst fs hr, hrun, hended, v, locs, rfl, hq, ⟨_, rfl⟩, hW, hsame.mono hc hs⟩
theorem own_retN (X : Stand p l e R s m args below meth c T locs cells slots) (hx : p.tables.exec = Jvm.exec) {z : Int32} {t : FieldType} (hret : meth.sig.returnType = some t) (ht : t = .boolean ∨ t = .byte ∨ t = .char ∨ t = .short) (hlk : meth.locks = false) (hd : decode c.code pc = .ok (.ireturn, 1))
    (hq : Qv (some (.int (nar t z))) T.heap locs) (hc : cells ≤ cc) (hs : slots ≤ ss) : own_Go p e below T (mkF m pc Ls (.int z :: rest)) (own_K s below Qv cc ss) :=
  own_ret X (fun h => by rw [hret] at h; cases h) hlk (fun fs hr => retN X hx hret ht hd hr) hq hc hs
theorem own_retI (X : Stand p l e R s m args below meth c T locs cells slots) (hx : p.tables.exec = Jvm.exec) {z : Int32} (hret : meth.sig.returnType = some .int) (hlk : meth.locks = false) (hd : decode c.code pc = .ok (.ireturn, 1))
    (hq : Qv (some (.int z)) T.heap locs) (hc : cells ≤ cc) (hs : slots ≤ ss) : own_Go p e below T (mkF m pc Ls (.int z :: rest)) (own_K s below Qv cc ss) :=
  own_ret X (fun h => by rw [hret] at h; cases h) hlk (fun fs hr => retOut X hx hret rfl (Or.inl ⟨rfl, Or.inl rfl, z, rfl⟩) hd hr) hq hc hs
theorem own_retJ (X : Stand p l e R s m args below meth c T locs cells slots) (hx : p.tables.exec = Jvm.exec) {z : Int64} (hret : meth.sig.returnType = some .long) (hlk : meth.locks = false) (hd : decode c.code pc = .ok (.lreturn, 1))
    (hq : Qv (some (.long z)) T.heap locs) (hc : cells ≤ cc) (hs : slots ≤ ss) : own_Go p e below T (mkF m pc Ls (.long z :: rest)) (own_K s below Qv cc ss) :=
  own_ret X (fun h => by rw [hret] at h; cases h) hlk (fun fs hr => retOut X hx hret rfl (Or.inr (Or.inl ⟨rfl, rfl, z, rfl⟩)) hd hr) hq hc hs
theorem own_retA (X : Stand p l e R s m args below meth c T locs cells slots) (hx : p.tables.exec = Jvm.exec) {w : Value} {t : FieldType} (hret : meth.sig.returnType = some t) (hn : narrow t w = w) (ht : t.isReference = true ∧ w.isRef = true) (hlk : meth.locks = false) (hd : decode c.code pc = .ok (.areturn, 1))
    (hq : Qv (some w) T.heap locs) (hc : cells ≤ cc) (hs : slots ≤ ss) : own_Go p e below T (mkF m pc Ls (w :: rest)) (own_K s below Qv cc ss) :=
  own_ret X (fun h => by rw [hret] at h; cases h) hlk (fun fs hr => retOut X hx hret hn (Or.inr (Or.inr (Or.inr (Or.inr ⟨rfl, ht.1, ht.2⟩)))) hd hr) hq hc hs
theorem own_retV (X : Stand p l e R s m args below meth c T locs cells slots) (hx : p.tables.exec = Jvm.exec) (hret : meth.sig.returnType = none) (hlk : meth.locks = false) (hd : decode c.code pc = .ok (.return_, 1))
    (hq : Qv none T.heap locs) (hc : cells ≤ cc) (hs : slots ≤ ss) : own_Go p e below T (mkF m pc Ls []) (own_K s below Qv cc ss) :=
  own_ret X (fun _ => rfl) hlk (fun fs hr => X.returnOut hx hret hd hr) hq hc hs
theorem own_lremM {g : JFrame} {target : State} (X : Stand p l e R s m args below meth c T locs cells slots) (hx : p.tables.exec = Jvm.exec) (hg : g.method = m) {x y : Int64} (hd : decode c.code g.pc = .ok (.lrem, 1)) (hs : g.stack = .long y :: .long x :: rest) (hy : y ≠ 0)
    (hr : Steps p.tables e below (T.setTop { g with pc := g.pc + 1, stack := .long (x % y) :: rest }) target) : Steps p.tables e below (T.setTop g) target := XS.lrem X.here hx hg hd hs hy (by rw [lrem_mod]; exact hr)
end Ret
theorem pd_0 : parseMethodDescriptor "(I)Z" = some ⟨[.int], some .boolean⟩ := by decide +kernel
theorem pd_1 : parseMethodDescriptor "(II)Z" = some ⟨[.int, .int], some .boolean⟩ := by decide +kernel
theorem d2_0 : decode prog_13_method_16_code 0 = .ok (.iload_n 0, 1) := by decide +kernel
theorem d2_1 : decode prog_13_method_16_code 1 = .ok (.sipush 301, 3) := by decide +kernel
theorem d2_4 : decode prog_13_method_16_code 4 = .ok (.if_icmp .eq 31, 3) := by decide +kernel
theorem d2_7 : decode prog_13_method_16_code 7 = .ok (.iload_n 0, 1) := by decide +kernel
theorem d2_8 : decode prog_13_method_16_code 8 = .ok (.sipush 302, 3) := by decide +kernel
theorem d2_11 : decode prog_13_method_16_code 11 = .ok (.if_icmp .eq 24, 3) := by decide +kernel
theorem d2_14 : decode prog_13_method_16_code 14 = .ok (.iload_n 0, 1) := by decide +kernel
theorem d2_15 : decode prog_13_method_16_code 15 = .ok (.sipush 303, 3) := by decide +kernel
theorem d2_18 : decode prog_13_method_16_code 18 = .ok (.if_icmp .eq 17, 3) := by decide +kernel
theorem d2_21 : decode prog_13_method_16_code 21 = .ok (.iload_n 0, 1) := by decide +kernel
theorem d2_22 : decode prog_13_method_16_code 22 = .ok (.sipush 307, 3) := by decide +kernel
theorem d2_25 : decode prog_13_method_16_code 25 = .ok (.if_icmp .eq 10, 3) := by decide +kernel
theorem d2_28 : decode prog_13_method_16_code 28 = .ok (.iload_n 0, 1) := by decide +kernel
theorem d2_29 : decode prog_13_method_16_code 29 = .ok (.sipush 308, 3) := by decide +kernel
theorem d2_32 : decode prog_13_method_16_code 32 = .ok (.if_icmp .ne 7, 3) := by decide +kernel
theorem d2_35 : decode prog_13_method_16_code 35 = .ok (.iconst 1, 1) := by decide +kernel
theorem d2_36 : decode prog_13_method_16_code 36 = .ok (.goto 4, 3) := by decide +kernel
theorem d2_39 : decode prog_13_method_16_code 39 = .ok (.iconst 0, 1) := by decide +kernel
theorem d2_40 : decode prog_13_method_16_code 40 = .ok (.ireturn, 1) := by decide +kernel
def B2_0 (p0 : Int32) : Int32 := (if p0 = (301 : Int32) then (1 : Int32) else (if p0 = (302 : Int32) then (1 : Int32) else (if p0 = (303 : Int32) then (1 : Int32) else (if p0 = (307 : Int32) then (1 : Int32) else (if p0 = (308 : Int32) then (1 : Int32) else (0 : Int32))))))
theorem ef_rm2 (m : MethodId) (x0 : Int32) : entryFrame m #[(.int x0)] 1 = mkF m 0 #[.val (.int x0)] [] := by first | (simp [entryFrame, mkF, argsToLocals, Value.category]; done) | rfl
def Q2 (Z : State) (p0 : Int32)  (h0 : Heap) (n0 : Nat) (v : Option Value) (h : Heap) (L : List Loc) : Prop := v = some (.int (B2_0 p0)) ∧ Fr n0 L ∧ h = h0
set_option maxRecDepth 65536 in
set_option maxHeartbeats 40000000 in
theorem rm2 (l : Launch) (Z : State) (a0 : Array Value) (hw : ∀ d ∈ tables_1, d.before a0 Z = true) (ws : List Jvm.Cond) (p0 : Int32)  (h0 : Heap) (n0 : Nat) (Z0 : n0 ≤ h0.size)  :
    MetFree l (⟨"com/example/acrex/acrex/RobotsTxtFetch", "isRedirect", "(I)Z"⟩ : MethodName) (head1 (Jvm.Cond.code (⟨"com/example/acrex/acrex/RobotsTxtFetch", "isRedirect", "(I)Z"⟩ : MethodName) prog_13_method_16_code 1 (some .boolean) :: ws) ({ frames := 0, cells := 0, slots := 0, locals := 0 } : Room)) (fun a U => a = #[(.int p0)] ∧ Z.Warmed39 U.vm ∧ U.heap = h0) (fun _ _ _ _ _ => True) (fun _ U o U' => ∃ v L, o = .returned v ∧ Q2 Z p0  h0 n0 v U'.heap L ∧ FrameEnd U o U' L 0 0) := by
  refine own_body (Qv := Q2 Z p0  h0 n0) (plainFor_of_name (by first | (simp [plainName, overriddenIn]; done) | decide +kernel)) ?_
  intro p e s m below meth c s₁ hx hby hml hret hlk hown hnm hZ X0 e0
  replace hown : s.vm.findClass "com/example/acrex/acrex/RobotsTxtFetch" = some m.cls := hown
  replace hnm : meth.name = "isRedirect" := hnm
  have N0 := Fr.nil n0
  refine own_Go.mono (T' := s₁) (f' := (mkF m 0 #[.val (.int p0)] [])) (fun t k => castTop (ef_rm2 m p0) k) ?_
  have hv : (B2_0 p0) = (B2_0 p0) := rfl
  refine own_Go.mono (T' := s₁) (f' := (mkF m 4 #[.val (.int p0)] [(.int (301 : Int32)), (.int p0)])) (fun t k => ?_) ?_
  · show Steps p.tables e below (s₁.setTop (mkF m 0 #[.val (.int p0)] [])) _
    refine XS.iloadN X0.here hx rfl (hb hby d2_0) rfl ?_
    show Steps p.tables e below (s₁.setTop (mkF m 1 #[.val (.int p0)] [(.int p0)])) _
    refine XS.sipush X0.here hx rfl (hb hby d2_1) ?_
    show Steps p.tables e below (s₁.setTop (mkF m 4 #[.val (.int p0)] [(.int (301 : Int32)), (.int p0)])) _
    exact k
  by_cases c4_1 : p0 = (301 : Int32)
  · refine own_Go.mono (T' := s₁) (f' := (mkF m 40 #[.val (.int p0)] [(.int (1 : Int32))])) (fun t k => ?_) ?_
    · show Steps p.tables e below (s₁.setTop (mkF m 4 #[.val (.int p0)] [(.int (301 : Int32)), (.int p0)])) _
      refine XS.icmpYes X0.here hx rfl (pc0 := 4) (pc' := 35) rfl (hb hby d2_4) rfl (teq c4_1).1 (by decide) (by decide) ?_
      show Steps p.tables e below (s₁.setTop (mkF m 35 #[.val (.int p0)] [])) _
      refine XS.iconst X0.here hx rfl (hb hby d2_35) ?_
      show Steps p.tables e below (s₁.setTop (mkF m 36 #[.val (.int p0)] [(.int (1 : Int32))])) _
      refine XS.goto X0.here hx rfl (pc0 := 36) (pc' := 40) rfl (hb hby d2_36) (by decide) (by decide) ?_
      show Steps p.tables e below (s₁.setTop (mkF m 40 #[.val (.int p0)] [(.int (1 : Int32))])) _
      exact k
    exact own_retN X0 hx (t := .boolean) hret (by simp) hlk (hb hby d2_40) (⟨congrArg some (congrArg Value.int (by rw [← hv]; unfold B2_0; rw [if_pos c4_1]; first | done | rfl)), N0, e0⟩) (by decide) (by decide)
  · refine own_Go.mono (T' := s₁) (f' := (mkF m 11 #[.val (.int p0)] [(.int (302 : Int32)), (.int p0)])) (fun t k => ?_) ?_
    · show Steps p.tables e below (s₁.setTop (mkF m 4 #[.val (.int p0)] [(.int (301 : Int32)), (.int p0)])) _
      refine XS.icmpNo X0.here hx rfl (hb hby d2_4) rfl (feq c4_1).1 ?_
      show Steps p.tables e below (s₁.setTop (mkF m 7 #[.val (.int p0)] [])) _
      refine XS.iloadN X0.here hx rfl (hb hby d2_7) rfl ?_
      show Steps p.tables e below (s₁.setTop (mkF m 8 #[.val (.int p0)] [(.int p0)])) _
      refine XS.sipush X0.here hx rfl (hb hby d2_8) ?_
      show Steps p.tables e below (s₁.setTop (mkF m 11 #[.val (.int p0)] [(.int (302 : Int32)), (.int p0)])) _
      exact k
    by_cases c11_2 : p0 = (302 : Int32)
    · refine own_Go.mono (T' := s₁) (f' := (mkF m 40 #[.val (.int p0)] [(.int (1 : Int32))])) (fun t k => ?_) ?_
      · show Steps p.tables e below (s₁.setTop (mkF m 11 #[.val (.int p0)] [(.int (302 : Int32)), (.int p0)])) _
        refine XS.icmpYes X0.here hx rfl (pc0 := 11) (pc' := 35) rfl (hb hby d2_11) rfl (teq c11_2).1 (by decide) (by decide) ?_
        show Steps p.tables e below (s₁.setTop (mkF m 35 #[.val (.int p0)] [])) _
        refine XS.iconst X0.here hx rfl (hb hby d2_35) ?_
        show Steps p.tables e below (s₁.setTop (mkF m 36 #[.val (.int p0)] [(.int (1 : Int32))])) _
        refine XS.goto X0.here hx rfl (pc0 := 36) (pc' := 40) rfl (hb hby d2_36) (by decide) (by decide) ?_
        show Steps p.tables e below (s₁.setTop (mkF m 40 #[.val (.int p0)] [(.int (1 : Int32))])) _
        exact k
      exact own_retN X0 hx (t := .boolean) hret (by simp) hlk (hb hby d2_40) (⟨congrArg some (congrArg Value.int (by rw [← hv]; unfold B2_0; rw [if_neg c4_1]; rw [if_pos c11_2]; first | done | rfl)), N0, e0⟩) (by decide) (by decide)
    · refine own_Go.mono (T' := s₁) (f' := (mkF m 18 #[.val (.int p0)] [(.int (303 : Int32)), (.int p0)])) (fun t k => ?_) ?_
      · show Steps p.tables e below (s₁.setTop (mkF m 11 #[.val (.int p0)] [(.int (302 : Int32)), (.int p0)])) _
        refine XS.icmpNo X0.here hx rfl (hb hby d2_11) rfl (feq c11_2).1 ?_
        show Steps p.tables e below (s₁.setTop (mkF m 14 #[.val (.int p0)] [])) _
        refine XS.iloadN X0.here hx rfl (hb hby d2_14) rfl ?_
        show Steps p.tables e below (s₁.setTop (mkF m 15 #[.val (.int p0)] [(.int p0)])) _
        refine XS.sipush X0.here hx rfl (hb hby d2_15) ?_
        show Steps p.tables e below (s₁.setTop (mkF m 18 #[.val (.int p0)] [(.int (303 : Int32)), (.int p0)])) _
        exact k
      by_cases c18_3 : p0 = (303 : Int32)
      · refine own_Go.mono (T' := s₁) (f' := (mkF m 40 #[.val (.int p0)] [(.int (1 : Int32))])) (fun t k => ?_) ?_
        · show Steps p.tables e below (s₁.setTop (mkF m 18 #[.val (.int p0)] [(.int (303 : Int32)), (.int p0)])) _
          refine XS.icmpYes X0.here hx rfl (pc0 := 18) (pc' := 35) rfl (hb hby d2_18) rfl (teq c18_3).1 (by decide) (by decide) ?_
          show Steps p.tables e below (s₁.setTop (mkF m 35 #[.val (.int p0)] [])) _
          refine XS.iconst X0.here hx rfl (hb hby d2_35) ?_
          show Steps p.tables e below (s₁.setTop (mkF m 36 #[.val (.int p0)] [(.int (1 : Int32))])) _
          refine XS.goto X0.here hx rfl (pc0 := 36) (pc' := 40) rfl (hb hby d2_36) (by decide) (by decide) ?_
          show Steps p.tables e below (s₁.setTop (mkF m 40 #[.val (.int p0)] [(.int (1 : Int32))])) _
          exact k
        exact own_retN X0 hx (t := .boolean) hret (by simp) hlk (hb hby d2_40) (⟨congrArg some (congrArg Value.int (by rw [← hv]; unfold B2_0; rw [if_neg c4_1]; rw [if_neg c11_2]; rw [if_pos c18_3]; first | done | rfl)), N0, e0⟩) (by decide) (by decide)
      · refine own_Go.mono (T' := s₁) (f' := (mkF m 25 #[.val (.int p0)] [(.int (307 : Int32)), (.int p0)])) (fun t k => ?_) ?_
        · show Steps p.tables e below (s₁.setTop (mkF m 18 #[.val (.int p0)] [(.int (303 : Int32)), (.int p0)])) _
          refine XS.icmpNo X0.here hx rfl (hb hby d2_18) rfl (feq c18_3).1 ?_
          show Steps p.tables e below (s₁.setTop (mkF m 21 #[.val (.int p0)] [])) _
          refine XS.iloadN X0.here hx rfl (hb hby d2_21) rfl ?_
          show Steps p.tables e below (s₁.setTop (mkF m 22 #[.val (.int p0)] [(.int p0)])) _
          refine XS.sipush X0.here hx rfl (hb hby d2_22) ?_
          show Steps p.tables e below (s₁.setTop (mkF m 25 #[.val (.int p0)] [(.int (307 : Int32)), (.int p0)])) _
          exact k
        by_cases c25_4 : p0 = (307 : Int32)
        · refine own_Go.mono (T' := s₁) (f' := (mkF m 40 #[.val (.int p0)] [(.int (1 : Int32))])) (fun t k => ?_) ?_
          · show Steps p.tables e below (s₁.setTop (mkF m 25 #[.val (.int p0)] [(.int (307 : Int32)), (.int p0)])) _
            refine XS.icmpYes X0.here hx rfl (pc0 := 25) (pc' := 35) rfl (hb hby d2_25) rfl (teq c25_4).1 (by decide) (by decide) ?_
            show Steps p.tables e below (s₁.setTop (mkF m 35 #[.val (.int p0)] [])) _
            refine XS.iconst X0.here hx rfl (hb hby d2_35) ?_
            show Steps p.tables e below (s₁.setTop (mkF m 36 #[.val (.int p0)] [(.int (1 : Int32))])) _
            refine XS.goto X0.here hx rfl (pc0 := 36) (pc' := 40) rfl (hb hby d2_36) (by decide) (by decide) ?_
            show Steps p.tables e below (s₁.setTop (mkF m 40 #[.val (.int p0)] [(.int (1 : Int32))])) _
            exact k
          exact own_retN X0 hx (t := .boolean) hret (by simp) hlk (hb hby d2_40) (⟨congrArg some (congrArg Value.int (by rw [← hv]; unfold B2_0; rw [if_neg c4_1]; rw [if_neg c11_2]; rw [if_neg c18_3]; rw [if_pos c25_4]; first | done | rfl)), N0, e0⟩) (by decide) (by decide)
        · refine own_Go.mono (T' := s₁) (f' := (mkF m 32 #[.val (.int p0)] [(.int (308 : Int32)), (.int p0)])) (fun t k => ?_) ?_
          · show Steps p.tables e below (s₁.setTop (mkF m 25 #[.val (.int p0)] [(.int (307 : Int32)), (.int p0)])) _
            refine XS.icmpNo X0.here hx rfl (hb hby d2_25) rfl (feq c25_4).1 ?_
            show Steps p.tables e below (s₁.setTop (mkF m 28 #[.val (.int p0)] [])) _
            refine XS.iloadN X0.here hx rfl (hb hby d2_28) rfl ?_
            show Steps p.tables e below (s₁.setTop (mkF m 29 #[.val (.int p0)] [(.int p0)])) _
            refine XS.sipush X0.here hx rfl (hb hby d2_29) ?_
            show Steps p.tables e below (s₁.setTop (mkF m 32 #[.val (.int p0)] [(.int (308 : Int32)), (.int p0)])) _
            exact k
          by_cases c32_5 : p0 = (308 : Int32)
          · refine own_Go.mono (T' := s₁) (f' := (mkF m 40 #[.val (.int p0)] [(.int (1 : Int32))])) (fun t k => ?_) ?_
            · show Steps p.tables e below (s₁.setTop (mkF m 32 #[.val (.int p0)] [(.int (308 : Int32)), (.int p0)])) _
              refine XS.icmpNo X0.here hx rfl (hb hby d2_32) rfl (teq c32_5).2 ?_
              show Steps p.tables e below (s₁.setTop (mkF m 35 #[.val (.int p0)] [])) _
              refine XS.iconst X0.here hx rfl (hb hby d2_35) ?_
              show Steps p.tables e below (s₁.setTop (mkF m 36 #[.val (.int p0)] [(.int (1 : Int32))])) _
              refine XS.goto X0.here hx rfl (pc0 := 36) (pc' := 40) rfl (hb hby d2_36) (by decide) (by decide) ?_
              show Steps p.tables e below (s₁.setTop (mkF m 40 #[.val (.int p0)] [(.int (1 : Int32))])) _
              exact k
            exact own_retN X0 hx (t := .boolean) hret (by simp) hlk (hb hby d2_40) (⟨congrArg some (congrArg Value.int (by rw [← hv]; unfold B2_0; rw [if_neg c4_1]; rw [if_neg c11_2]; rw [if_neg c18_3]; rw [if_neg c25_4]; rw [if_pos c32_5]; first | done | rfl)), N0, e0⟩) (by decide) (by decide)
          · refine own_Go.mono (T' := s₁) (f' := (mkF m 40 #[.val (.int p0)] [(.int (0 : Int32))])) (fun t k => ?_) ?_
            · show Steps p.tables e below (s₁.setTop (mkF m 32 #[.val (.int p0)] [(.int (308 : Int32)), (.int p0)])) _
              refine XS.icmpYes X0.here hx rfl (pc0 := 32) (pc' := 39) rfl (hb hby d2_32) rfl (feq c32_5).2 (by decide) (by decide) ?_
              show Steps p.tables e below (s₁.setTop (mkF m 39 #[.val (.int p0)] [])) _
              refine XS.iconst X0.here hx rfl (hb hby d2_39) ?_
              show Steps p.tables e below (s₁.setTop (mkF m 40 #[.val (.int p0)] [(.int (0 : Int32))])) _
              exact k
            exact own_retN X0 hx (t := .boolean) hret (by simp) hlk (hb hby d2_40) (⟨congrArg some (congrArg Value.int (by rw [← hv]; unfold B2_0; rw [if_neg c4_1]; rw [if_neg c11_2]; rw [if_neg c18_3]; rw [if_neg c25_4]; rw [if_neg c32_5]; first | done | rfl)), N0, e0⟩) (by decide) (by decide)
theorem d1_0 : decode prog_13_method_7_code 0 = .ok (.iload_n 0, 1) := by decide +kernel
theorem d1_1 : decode prog_13_method_7_code 1 = .ok (.invokestatic 81, 3) := by decide +kernel
theorem d1_4 : decode prog_13_method_7_code 4 = .ok (.ifCond .eq 12, 3) := by decide +kernel
theorem d1_7 : decode prog_13_method_7_code 7 = .ok (.iload_n 1, 1) := by decide +kernel
theorem d1_8 : decode prog_13_method_7_code 8 = .ok (.iconst 5, 1) := by decide +kernel
theorem d1_9 : decode prog_13_method_7_code 9 = .ok (.if_icmp .ge 7, 3) := by decide +kernel
theorem d1_12 : decode prog_13_method_7_code 12 = .ok (.iconst 1, 1) := by decide +kernel
theorem d1_13 : decode prog_13_method_7_code 13 = .ok (.goto 4, 3) := by decide +kernel
theorem d1_16 : decode prog_13_method_7_code 16 = .ok (.iconst 0, 1) := by decide +kernel
theorem d1_17 : decode prog_13_method_7_code 17 = .ok (.ireturn, 1) := by decide +kernel
def B1_0 (p0 : Int32) (p1 : Int32) : Int32 := (if (B2_0 p0) = (0 : Int32) then (0 : Int32) else (if p1 < (5 : Int32) then (1 : Int32) else (0 : Int32)))
theorem ef_rm1 (m : MethodId) (x0 : Int32) (x1 : Int32) : entryFrame m #[(.int x0), (.int x1)] 2 = mkF m 0 #[.val (.int x0), .val (.int x1)] [] := by first | (simp [entryFrame, mkF, argsToLocals, Value.category]; done) | rfl
def Q1 (Z : State) (p0 : Int32) (p1 : Int32)  (h0 : Heap) (n0 : Nat) (v : Option Value) (h : Heap) (L : List Loc) : Prop := v = some (.int (B1_0 p0 p1)) ∧ Fr n0 L ∧ h = h0
set_option maxRecDepth 65536 in
set_option maxHeartbeats 40000000 in
theorem rm1 (l : Launch) (Z : State) (a0 : Array Value) (hw : ∀ d ∈ tables_1, d.before a0 Z = true) (ws : List Jvm.Cond) (p0 : Int32) (p1 : Int32)  (h0 : Heap) (n0 : Nat) (Z0 : n0 ≤ h0.size)  :
    MetFree l (⟨"com/example/acrex/acrex/RobotsTxtFetch", "followsRedirect", "(II)Z"⟩ : MethodName) (head1 (Jvm.Cond.code (⟨"com/example/acrex/acrex/RobotsTxtFetch", "followsRedirect", "(II)Z"⟩ : MethodName) prog_13_method_7_code 2 (some .boolean) :: ws) ({ frames := 1, cells := 0, slots := 0, locals := 12 } : Room)) (fun a U => a = #[(.int p0), (.int p1)] ∧ Z.Warmed39 U.vm ∧ U.heap = h0) (fun _ _ _ _ _ => True) (fun _ U o U' => ∃ v L, o = .returned v ∧ Q1 Z p0 p1  h0 n0 v U'.heap L ∧ FrameEnd U o U' L 0 0) := by
  refine own_body (Qv := Q1 Z p0 p1  h0 n0) (plainFor_of_name (by first | (simp [plainName, overriddenIn]; done) | decide +kernel)) ?_
  intro p e s m below meth c s₁ hx hby hml hret hlk hown hnm hZ X0 e0
  replace hown : s.vm.findClass "com/example/acrex/acrex/RobotsTxtFetch" = some m.cls := hown
  replace hnm : meth.name = "followsRedirect" := hnm
  have N0 := Fr.nil n0
  refine own_Go.mono (T' := s₁) (f' := (mkF m 0 #[.val (.int p0), .val (.int p1)] [])) (fun t k => castTop (ef_rm1 m p0 p1) k) ?_
  have hv : (B1_0 p0 p1) = (B1_0 p0 p1) := rfl
  obtain ⟨_, _, ⟨T6, L6, k6, n6⟩, -, X6, ⟨Lc6, hQ6, l6, y6, z6⟩, st6⟩ := Jvm.LawKit.callS X0 hx (y := (⟨"com/example/acrex/acrex/RobotsTxtFetch", "isRedirect", "(I)Z"⟩ : MethodName)) hown (mvT hZ (hw _ (List.mem_of_getElem? (i := 4) rfl))) (mvT hZ (hw _ (List.mem_of_getElem? (i := 5) rfl))) (mvT hZ (hw _ (List.mem_of_getElem? (i := 2) rfl))) (mvT hZ (hw _ (List.mem_of_getElem? (i := 6) rfl))) (by decide) (backOf (W := 0) (rm2 l Z a0 hw [] p0 h0 n0 Z0) hZ (hw _ (List.mem_of_getElem? (i := 6) rfl)) (hw _ (List.mem_of_getElem? (i := 2) rfl)) (by decide) (by decide)) (g := (mkF m 1 #[.val (.int p0), .val (.int p1)] [(.int p0)])) rfl (by rw [hml]; rfl) (argsL := [(.int p0)]) (rest := []) (lenOf pd_0 rfl) rfl (by show 2 * 0 + _ ≤ _; exact Nat.le_of_eq rfl) (hb hby d1_1) (fun _ _ => ⟨rfl, e0, (by decide : 0 + 0 ≤ _), (by decide : 0 + 0 ≤ _)⟩)
  dsimp only [Pt.U, Pt.locs, Pt.cells, Pt.slots] at X6 l6 y6 z6 st6 hQ6
  subst l6 y6 z6
  obtain ⟨rfl, N6q, hh6⟩ := hQ6
  have N6 := Fr.app N0 N6q
  replace hh6 : T6.heap = h0 := hh6
  refine own_Go.mono (T' := T6) (f' := (mkF m 4 #[.val (.int p0), .val (.int p1)] [(.int (B2_0 p0))])) (fun t k => ?_) ?_
  · show Steps p.tables e below (s₁.setTop (mkF m 0 #[.val (.int p0), .val (.int p1)] [])) _
    refine XS.iloadN X0.here hx rfl (hb hby d1_0) rfl ?_
    show Steps p.tables e below (s₁.setTop (mkF m 1 #[.val (.int p0), .val (.int p1)] [(.int p0)])) _
    refine st6 _ ?_
    show Steps p.tables e below (T6.setTop (mkF m 4 #[.val (.int p0), .val (.int p1)] [(.int (B2_0 p0))])) _
    exact k
  by_cases c4_7 : (B2_0 p0) = (0 : Int32)
  · refine own_Go.mono (T' := T6) (f' := (mkF m 17 #[.val (.int p0), .val (.int p1)] [(.int (0 : Int32))])) (fun t k => ?_) ?_
    · show Steps p.tables e below (T6.setTop (mkF m 4 #[.val (.int p0), .val (.int p1)] [(.int (B2_0 p0))])) _
      refine XS.ifYes X6.here hx rfl (pc0 := 4) (pc' := 16) rfl (hb hby d1_4) rfl ((if0 _ _).trans (teq c4_7).1) (by decide) (by decide) ?_
      show Steps p.tables e below (T6.setTop (mkF m 16 #[.val (.int p0), .val (.int p1)] [])) _
      refine XS.iconst X6.here hx rfl (hb hby d1_16) ?_
      show Steps p.tables e below (T6.setTop (mkF m 17 #[.val (.int p0), .val (.int p1)] [(.int (0 : Int32))])) _
      exact k
    exact own_retN X6 hx (t := .boolean) hret (by simp) hlk (hb hby d1_17) (⟨congrArg some (congrArg Value.int (by rw [← hv]; unfold B1_0; rw [if_pos c4_7]; first | done | rfl)), N6, hh6⟩) (by decide) (by decide)
  · refine own_Go.mono (T' := T6) (f' := (mkF m 9 #[.val (.int p0), .val (.int p1)] [(.int (5 : Int32)), (.int p1)])) (fun t k => ?_) ?_
    · show Steps p.tables e below (T6.setTop (mkF m 4 #[.val (.int p0), .val (.int p1)] [(.int (B2_0 p0))])) _
      refine XS.ifNo X6.here hx rfl (hb hby d1_4) rfl ((if0 _ _).trans (feq c4_7).1) ?_
      show Steps p.tables e below (T6.setTop (mkF m 7 #[.val (.int p0), .val (.int p1)] [])) _
      refine XS.iloadN X6.here hx rfl (hb hby d1_7) rfl ?_
      show Steps p.tables e below (T6.setTop (mkF m 8 #[.val (.int p0), .val (.int p1)] [(.int p1)])) _
      refine XS.iconst X6.here hx rfl (hb hby d1_8) ?_
      show Steps p.tables e below (T6.setTop (mkF m 9 #[.val (.int p0), .val (.int p1)] [(.int (5 : Int32)), (.int p1)])) _
      exact k
    by_cases c9_8 : p1 < (5 : Int32)
    · refine own_Go.mono (T' := T6) (f' := (mkF m 17 #[.val (.int p0), .val (.int p1)] [(.int (1 : Int32))])) (fun t k => ?_) ?_
      · show Steps p.tables e below (T6.setTop (mkF m 9 #[.val (.int p0), .val (.int p1)] [(.int (5 : Int32)), (.int p1)])) _
        refine XS.icmpNo X6.here hx rfl (hb hby d1_9) rfl (tlt c9_8).2.1 ?_
        show Steps p.tables e below (T6.setTop (mkF m 12 #[.val (.int p0), .val (.int p1)] [])) _
        refine XS.iconst X6.here hx rfl (hb hby d1_12) ?_
        show Steps p.tables e below (T6.setTop (mkF m 13 #[.val (.int p0), .val (.int p1)] [(.int (1 : Int32))])) _
        refine XS.goto X6.here hx rfl (pc0 := 13) (pc' := 17) rfl (hb hby d1_13) (by decide) (by decide) ?_
        show Steps p.tables e below (T6.setTop (mkF m 17 #[.val (.int p0), .val (.int p1)] [(.int (1 : Int32))])) _
        exact k
      exact own_retN X6 hx (t := .boolean) hret (by simp) hlk (hb hby d1_17) (⟨congrArg some (congrArg Value.int (by rw [← hv]; unfold B1_0; rw [if_neg c4_7]; rw [if_pos c9_8]; first | done | rfl)), N6, hh6⟩) (by decide) (by decide)
    · refine own_Go.mono (T' := T6) (f' := (mkF m 17 #[.val (.int p0), .val (.int p1)] [(.int (0 : Int32))])) (fun t k => ?_) ?_
      · show Steps p.tables e below (T6.setTop (mkF m 9 #[.val (.int p0), .val (.int p1)] [(.int (5 : Int32)), (.int p1)])) _
        refine XS.icmpYes X6.here hx rfl (pc0 := 9) (pc' := 16) rfl (hb hby d1_9) rfl (flt c9_8).2.1 (by decide) (by decide) ?_
        show Steps p.tables e below (T6.setTop (mkF m 16 #[.val (.int p0), .val (.int p1)] [])) _
        refine XS.iconst X6.here hx rfl (hb hby d1_16) ?_
        show Steps p.tables e below (T6.setTop (mkF m 17 #[.val (.int p0), .val (.int p1)] [(.int (0 : Int32))])) _
        exact k
      exact own_retN X6 hx (t := .boolean) hret (by simp) hlk (hb hby d1_17) (⟨congrArg some (congrArg Value.int (by rw [← hv]; unfold B1_0; rw [if_neg c4_7]; rw [if_neg c9_8]; first | done | rfl)), N6, hh6⟩) (by decide) (by decide)
def B0_132 (l0 : Int32) (l1 : Int32) (l2 : Int32) (l3 : Int32) (l4 : Int32) (l5 : Int32) (l6 : Int32) (l7 : Int32) (l8 : Int32) (s0 : Int32) : Int32 := (if (B1_0 l3 l4) = s0 then (1 : Int32) else (0 : Int32))
def B0_115 (l0 : Int32) (l1 : Int32) (l2 : Int32) (l3 : Int32) (l4 : Int32) (l5 : Int32) (l6 : Int32) (l7 : Int32) (s0 : Int32) : Int32 := (if l7 = (0 : Int32) then B0_132 l0 l1 l2 l3 l4 l5 l6 l7 s0 (0 : Int32) else (if s0 = (0 : Int32) then B0_132 l0 l1 l2 l3 l4 l5 l6 l7 s0 (0 : Int32) else B0_132 l0 l1 l2 l3 l4 l5 l6 l7 s0 (1 : Int32)))
def B0_102 (l0 : Int32) (l1 : Int32) (l2 : Int32) (l3 : Int32) (l4 : Int32) (l5 : Int32) (l6 : Int32) (s0 : Int32) : Int32 := (if (4 : Int32) < l4 then B0_115 l0 l1 l2 l3 l4 l5 l6 s0 (0 : Int32) else B0_115 l0 l1 l2 l3 l4 l5 l6 s0 (1 : Int32))
def B0_85 (l0 : Int32) (l1 : Int32) (l2 : Int32) (l3 : Int32) (l4 : Int32) (l5 : Int32) (s0 : Int32) : Int32 := (if l5 = (0 : Int32) then B0_102 l0 l1 l2 l3 l4 l5 s0 (0 : Int32) else (if s0 = (0 : Int32) then B0_102 l0 l1 l2 l3 l4 l5 s0 (1 : Int32) else B0_102 l0 l1 l2 l3 l4 l5 s0 (0 : Int32)))
def B0_57 (l0 : Int32) (l1 : Int32) (l2 : Int32) (l3 : Int32) (l4 : Int32) (s0 : Int32) : Int32 := (if l3 = (304 : Int32) then B0_85 l0 l1 l2 l3 l4 s0 (1 : Int32) else (if l3 = (305 : Int32) then B0_85 l0 l1 l2 l3 l4 s0 (1 : Int32) else (if l3 = (306 : Int32) then B0_85 l0 l1 l2 l3 l4 s0 (1 : Int32) else B0_85 l0 l1 l2 l3 l4 s0 (0 : Int32))))
def B0_36 (l0 : Int32) (l1 : Int32) (l2 : Int32) (l3 : Int32) (s0 : Int32) : Int32 := (if l3 < (301 : Int32) then B0_57 l0 l1 l2 l3 s0 (0 : Int32) else (if (308 : Int32) < l3 then B0_57 l0 l1 l2 l3 s0 (0 : Int32) else B0_57 l0 l1 l2 l3 s0 (1 : Int32)))
def B0_18 (l0 : Int32) (l1 : Int32) (l2 : Int32) (s0 : Int32) : Int32 := (if (l2 &&& (2 : Int32)) = (0 : Int32) then B0_36 l0 l1 l2 s0 (l1 &&& (2147483647 : Int32)) else B0_36 l0 l1 l2 s0 (l1 &&& (7 : Int32)))
def B0_0 (p0 : Int32) (p1 : Int32) (p2 : Int32) : Int32 := (if (p2 &&& (1 : Int32)) = (0 : Int32) then B0_18 p0 p1 p2 p0 else B0_18 p0 p1 p2 ((296 : Int32) + (p0 &&& (15 : Int32))))
theorem ef_rm0 (m : MethodId) (x0 : Int32) (x1 : Int32) (x2 : Int32) : entryFrame m #[(.int x0), (.int x1), (.int x2)] maxLocals = mkF m 0 #[.val (.int x0), .val (.int x1), .val (.int x2), .unset, .unset, .unset, .unset, .unset, .unset, .unset] [] := by first | (simp [entryFrame, mkF, argsToLocals, Value.category, maxLocals]; done) | rfl
def Q0 (Z : State) (p0 : Int32) (p1 : Int32) (p2 : Int32)  (h0 : Heap) (n0 : Nat) (v : Option Value) (h : Heap) (L : List Loc) : Prop := v = some (.int (B0_0 p0 p1 p2)) ∧ Fr n0 L ∧ h = h0
set_option maxRecDepth 65536 in
set_option maxHeartbeats 40000000 in
theorem rm0 (l : Launch) (Z : State) (a0 : Array Value) (hw : ∀ d ∈ tables_1, d.before a0 Z = true) (ws : List Jvm.Cond) (p0 : Int32) (p1 : Int32) (p2 : Int32)  (h0 : Heap) (n0 : Nat) (Z0 : n0 ≤ h0.size)  :
    MetFree l x (head1 (Jvm.Cond.code x code maxLocals ret :: ws) room_1) (fun a U => a = #[(.int p0), (.int p1), (.int p2)] ∧ Z.Warmed39 U.vm ∧ U.heap = h0) (fun _ _ _ _ _ => True) (fun _ U o U' => ∃ v L, o = .returned v ∧ Q0 Z p0 p1 p2  h0 n0 v U'.heap L ∧ FrameEnd U o U' L 0 0) := by
  refine own_body (Qv := Q0 Z p0 p1 p2  h0 n0) (plainFor_of_name (by first | (simp [plainName, overriddenIn]; done) | decide +kernel)) ?_
  intro p e s m below meth c s₁ hx hby hml hret hlk hown hnm hZ X0 e0
  replace hown : s.vm.findClass "com/example/acrex/acrex/RobotsTxtFetchFollowsRedirectPinLaw" = some m.cls := hown
  replace hnm : meth.name = "law" := hnm
  have N0 := Fr.nil n0
  replace hml : c.maxLocals = 10 := hml
  refine own_Go.mono (T' := s₁) (f' := (mkF m 0 #[.val (.int p0), .val (.int p1), .val (.int p2), .unset, .unset, .unset, .unset, .unset, .unset, .unset] [])) (fun t k => castTop (ef_rm0 m p0 p1 p2) k) ?_
  have b_132 : ∀ {T : State} {locs : List Loc} (l0 : Int32) (l1 : Int32) (l2 : Int32) (l3 : Int32) (l4 : Int32) (l5 : Int32) (l6 : Int32) (l7 : Int32) (l8 : Int32) (s0 : Int32) (X : Stand p l e room_1 s m #[(.int p0), (.int p1), (.int p2)] below meth c T locs 0 0) (N : Fr n0 locs) (eT : T.heap = h0) (hv : B0_132 l0 l1 l2 l3 l4 l5 l6 l7 l8 s0 = (B0_0 p0 p1 p2)), own_Go p e below T (mkF m 132 #[.val (.int l0), .val (.int l1), .val (.int l2), .val (.int l3), .val (.int l4), .val (.int l5), .val (.int l6), .val (.int l7), .val (.int l8), .unset] [(.int s0)]) (own_K s below (Q0 Z p0 p1 p2 h0 n0) 0 0) := by
    intro T locs l0 l1 l2 l3 l4 l5 l6 l7 l8 s0 X N eT hv
    obtain ⟨_, _, ⟨T9, L9, k9, n9⟩, -, X9, ⟨Lc9, hQ9, l9, y9, z9⟩, st9⟩ := Jvm.LawKit.callS X hx (y := (⟨"com/example/acrex/acrex/RobotsTxtFetch", "followsRedirect", "(II)Z"⟩ : MethodName)) hown (mvT hZ (hw _ (List.mem_of_getElem? (i := 0) rfl))) (mvT hZ (hw _ (List.mem_of_getElem? (i := 1) rfl))) (mvT hZ (hw _ (List.mem_of_getElem? (i := 2) rfl))) (mvT hZ (hw _ (List.mem_of_getElem? (i := 3) rfl))) (by decide) (backOf (W := 0) (rm1 l Z a0 hw [] l3 l4 h0 n0 Z0) hZ (hw _ (List.mem_of_getElem? (i := 3) rfl)) (hw _ (List.mem_of_getElem? (i := 2) rfl)) (by decide) (by decide)) (g := (mkF m 137 #[.val (.int l0), .val (.int l1), .val (.int l2), .val (.int l3), .val (.int l4), .val (.int l5), .val (.int l6), .val (.int l7), .val (.int l8), .val (.int s0)] [(.int l4), (.int l3)])) rfl (by rw [hml]; rfl) (argsL := [(.int l3), (.int l4)]) (rest := []) (lenOf pd_1 rfl) rfl (by show 2 * 0 + _ ≤ _; exact Nat.le_of_eq rfl) (hb hby at_137) (fun _ _ => ⟨rfl, eT, (by decide : 0 + 0 ≤ _), (by decide : 0 + 0 ≤ _)⟩)
    dsimp only [Pt.U, Pt.locs, Pt.cells, Pt.slots] at X9 l9 y9 z9 st9 hQ9
    subst l9 y9 z9
    obtain ⟨rfl, N9q, hh9⟩ := hQ9
    have N9 := Fr.app N N9q
    replace hh9 : T9.heap = h0 := hh9
    refine own_Go.mono (T' := T9) (f' := (mkF m 142 #[.val (.int l0), .val (.int l1), .val (.int l2), .val (.int l3), .val (.int l4), .val (.int l5), .val (.int l6), .val (.int l7), .val (.int l8), .val (.int s0)] [(.int s0), (.int (B1_0 l3 l4))])) (fun t k => ?_) ?_
    · show Steps p.tables e below (T.setTop (mkF m 132 #[.val (.int l0), .val (.int l1), .val (.int l2), .val (.int l3), .val (.int l4), .val (.int l5), .val (.int l6), .val (.int l7), .val (.int l8), .unset] [(.int s0)])) _
      refine XS.istore X.here hx rfl (hb hby at_132) rfl (l' := #[.val (.int l0), .val (.int l1), .val (.int l2), .val (.int l3), .val (.int l4), .val (.int l5), .val (.int l6), .val (.int l7), .val (.int l8), .val (.int s0)]) rfl ?_
      show Steps p.tables e below (T.setTop (mkF m 134 #[.val (.int l0), .val (.int l1), .val (.int l2), .val (.int l3), .val (.int l4), .val (.int l5), .val (.int l6), .val (.int l7), .val (.int l8), .val (.int s0)] [])) _
      refine XS.iloadN X.here hx rfl (hb hby at_134) rfl ?_
      show Steps p.tables e below (T.setTop (mkF m 135 #[.val (.int l0), .val (.int l1), .val (.int l2), .val (.int l3), .val (.int l4), .val (.int l5), .val (.int l6), .val (.int l7), .val (.int l8), .val (.int s0)] [(.int l3)])) _
      refine XS.iload X.here hx rfl (hb hby at_135) rfl ?_
      show Steps p.tables e below (T.setTop (mkF m 137 #[.val (.int l0), .val (.int l1), .val (.int l2), .val (.int l3), .val (.int l4), .val (.int l5), .val (.int l6), .val (.int l7), .val (.int l8), .val (.int s0)] [(.int l4), (.int l3)])) _
      refine st9 _ ?_
      show Steps p.tables e below (T9.setTop (mkF m 140 #[.val (.int l0), .val (.int l1), .val (.int l2), .val (.int l3), .val (.int l4), .val (.int l5), .val (.int l6), .val (.int l7), .val (.int l8), .val (.int s0)] [(.int (B1_0 l3 l4))])) _
      refine XS.iload X9.here hx rfl (hb hby at_140) rfl ?_
      show Steps p.tables e below (T9.setTop (mkF m 142 #[.val (.int l0), .val (.int l1), .val (.int l2), .val (.int l3), .val (.int l4), .val (.int l5), .val (.int l6), .val (.int l7), .val (.int l8), .val (.int s0)] [(.int s0), (.int (B1_0 l3 l4))])) _
      exact k
    by_cases c142_10 : (B1_0 l3 l4) = s0
    · refine own_Go.mono (T' := T9) (f' := (mkF m 150 #[.val (.int l0), .val (.int l1), .val (.int l2), .val (.int l3), .val (.int l4), .val (.int l5), .val (.int l6), .val (.int l7), .val (.int l8), .val (.int s0)] [(.int (1 : Int32))])) (fun t k => ?_) ?_
      · show Steps p.tables e below (T9.setTop (mkF m 142 #[.val (.int l0), .val (.int l1), .val (.int l2), .val (.int l3), .val (.int l4), .val (.int l5), .val (.int l6), .val (.int l7), .val (.int l8), .val (.int s0)] [(.int s0), (.int (B1_0 l3 l4))])) _
        refine XS.icmpNo X9.here hx rfl (hb hby at_142) rfl (teq c142_10).2 ?_
        show Steps p.tables e below (T9.setTop (mkF m 145 #[.val (.int l0), .val (.int l1), .val (.int l2), .val (.int l3), .val (.int l4), .val (.int l5), .val (.int l6), .val (.int l7), .val (.int l8), .val (.int s0)] [])) _
        refine XS.iconst X9.here hx rfl (hb hby at_145) ?_
        show Steps p.tables e below (T9.setTop (mkF m 146 #[.val (.int l0), .val (.int l1), .val (.int l2), .val (.int l3), .val (.int l4), .val (.int l5), .val (.int l6), .val (.int l7), .val (.int l8), .val (.int s0)] [(.int (1 : Int32))])) _
        refine XS.goto X9.here hx rfl (pc0 := 146) (pc' := 150) rfl (hb hby at_146) (by decide) (by decide) ?_
        show Steps p.tables e below (T9.setTop (mkF m 150 #[.val (.int l0), .val (.int l1), .val (.int l2), .val (.int l3), .val (.int l4), .val (.int l5), .val (.int l6), .val (.int l7), .val (.int l8), .val (.int s0)] [(.int (1 : Int32))])) _
        exact k
      exact own_retN X9 hx (t := .boolean) hret (by simp) hlk (hb hby at_150) (⟨congrArg some (congrArg Value.int (by rw [← hv]; unfold B0_132; rw [if_pos c142_10]; first | done | rfl)), N9, hh9⟩) (by decide) (by decide)
    · refine own_Go.mono (T' := T9) (f' := (mkF m 150 #[.val (.int l0), .val (.int l1), .val (.int l2), .val (.int l3), .val (.int l4), .val (.int l5), .val (.int l6), .val (.int l7), .val (.int l8), .val (.int s0)] [(.int (0 : Int32))])) (fun t k => ?_) ?_
      · show Steps p.tables e below (T9.setTop (mkF m 142 #[.val (.int l0), .val (.int l1), .val (.int l2), .val (.int l3), .val (.int l4), .val (.int l5), .val (.int l6), .val (.int l7), .val (.int l8), .val (.int s0)] [(.int s0), (.int (B1_0 l3 l4))])) _
        refine XS.icmpYes X9.here hx rfl (pc0 := 142) (pc' := 149) rfl (hb hby at_142) rfl (feq c142_10).2 (by decide) (by decide) ?_
        show Steps p.tables e below (T9.setTop (mkF m 149 #[.val (.int l0), .val (.int l1), .val (.int l2), .val (.int l3), .val (.int l4), .val (.int l5), .val (.int l6), .val (.int l7), .val (.int l8), .val (.int s0)] [])) _
        refine XS.iconst X9.here hx rfl (hb hby at_149) ?_
        show Steps p.tables e below (T9.setTop (mkF m 150 #[.val (.int l0), .val (.int l1), .val (.int l2), .val (.int l3), .val (.int l4), .val (.int l5), .val (.int l6), .val (.int l7), .val (.int l8), .val (.int s0)] [(.int (0 : Int32))])) _
        exact k
      exact own_retN X9 hx (t := .boolean) hret (by simp) hlk (hb hby at_150) (⟨congrArg some (congrArg Value.int (by rw [← hv]; unfold B0_132; rw [if_neg c142_10]; first | done | rfl)), N9, hh9⟩) (by decide) (by decide)
  have b_115 : ∀ {T : State} {locs : List Loc} (l0 : Int32) (l1 : Int32) (l2 : Int32) (l3 : Int32) (l4 : Int32) (l5 : Int32) (l6 : Int32) (l7 : Int32) (s0 : Int32) (X : Stand p l e room_1 s m #[(.int p0), (.int p1), (.int p2)] below meth c T locs 0 0) (N : Fr n0 locs) (eT : T.heap = h0) (hv : B0_115 l0 l1 l2 l3 l4 l5 l6 l7 s0 = (B0_0 p0 p1 p2)), own_Go p e below T (mkF m 115 #[.val (.int l0), .val (.int l1), .val (.int l2), .val (.int l3), .val (.int l4), .val (.int l5), .val (.int l6), .val (.int l7), .unset, .unset] [(.int s0)]) (own_K s below (Q0 Z p0 p1 p2 h0 n0) 0 0) := by
    intro T locs l0 l1 l2 l3 l4 l5 l6 l7 s0 X N eT hv
    refine own_Go.mono (T' := T) (f' := (mkF m 119 #[.val (.int l0), .val (.int l1), .val (.int l2), .val (.int l3), .val (.int l4), .val (.int l5), .val (.int l6), .val (.int l7), .val (.int s0), .unset] [(.int l7)])) (fun t k => ?_) ?_
    · show Steps p.tables e below (T.setTop (mkF m 115 #[.val (.int l0), .val (.int l1), .val (.int l2), .val (.int l3), .val (.int l4), .val (.int l5), .val (.int l6), .val (.int l7), .unset, .unset] [(.int s0)])) _
      refine XS.istore X.here hx rfl (hb hby at_115) rfl (l' := #[.val (.int l0), .val (.int l1), .val (.int l2), .val (.int l3), .val (.int l4), .val (.int l5), .val (.int l6), .val (.int l7), .val (.int s0), .unset]) rfl ?_
      show Steps p.tables e below (T.setTop (mkF m 117 #[.val (.int l0), .val (.int l1), .val (.int l2), .val (.int l3), .val (.int l4), .val (.int l5), .val (.int l6), .val (.int l7), .val (.int s0), .unset] [])) _
      refine XS.iload X.here hx rfl (hb hby at_117) rfl ?_
      show Steps p.tables e below (T.setTop (mkF m 119 #[.val (.int l0), .val (.int l1), .val (.int l2), .val (.int l3), .val (.int l4), .val (.int l5), .val (.int l6), .val (.int l7), .val (.int s0), .unset] [(.int l7)])) _
      exact k
    by_cases c119_11 : l7 = (0 : Int32)
    · refine own_Go.mono (T' := T) (f' := (mkF m 132 #[.val (.int l0), .val (.int l1), .val (.int l2), .val (.int l3), .val (.int l4), .val (.int l5), .val (.int l6), .val (.int l7), .val (.int s0), .unset] [(.int (0 : Int32))])) (fun t k => ?_) ?_
      · show Steps p.tables e below (T.setTop (mkF m 119 #[.val (.int l0), .val (.int l1), .val (.int l2), .val (.int l3), .val (.int l4), .val (.int l5), .val (.int l6), .val (.int l7), .val (.int s0), .unset] [(.int l7)])) _
        refine XS.ifYes X.here hx rfl (pc0 := 119) (pc' := 131) rfl (hb hby at_119) rfl ((if0 _ _).trans (teq c119_11).1) (by decide) (by decide) ?_
        show Steps p.tables e below (T.setTop (mkF m 131 #[.val (.int l0), .val (.int l1), .val (.int l2), .val (.int l3), .val (.int l4), .val (.int l5), .val (.int l6), .val (.int l7), .val (.int s0), .unset] [])) _
        refine XS.iconst X.here hx rfl (hb hby at_131) ?_
        show Steps p.tables e below (T.setTop (mkF m 132 #[.val (.int l0), .val (.int l1), .val (.int l2), .val (.int l3), .val (.int l4), .val (.int l5), .val (.int l6), .val (.int l7), .val (.int s0), .unset] [(.int (0 : Int32))])) _
        exact k
      exact b_132 l0 l1 l2 l3 l4 l5 l6 l7 s0 (0 : Int32) X N eT (by rw [← hv]; unfold B0_115; rw [if_pos c119_11]; first | done | rfl)
    · refine own_Go.mono (T' := T) (f' := (mkF m 124 #[.val (.int l0), .val (.int l1), .val (.int l2), .val (.int l3), .val (.int l4), .val (.int l5), .val (.int l6), .val (.int l7), .val (.int s0), .unset] [(.int s0)])) (fun t k => ?_) ?_
      · show Steps p.tables e below (T.setTop (mkF m 119 #[.val (.int l0), .val (.int l1), .val (.int l2), .val (.int l3), .val (.int l4), .val (.int l5), .val (.int l6), .val (.int l7), .val (.int s0), .unset] [(.int l7)])) _
        refine XS.ifNo X.here hx rfl (hb hby at_119) rfl ((if0 _ _).trans (feq c119_11).1) ?_
        show Steps p.tables e below (T.setTop (mkF m 122 #[.val (.int l0), .val (.int l1), .val (.int l2), .val (.int l3), .val (.int l4), .val (.int l5), .val (.int l6), .val (.int l7), .val (.int s0), .unset] [])) _
        refine XS.iload X.here hx rfl (hb hby at_122) rfl ?_
        show Steps p.tables e below (T.setTop (mkF m 124 #[.val (.int l0), .val (.int l1), .val (.int l2), .val (.int l3), .val (.int l4), .val (.int l5), .val (.int l6), .val (.int l7), .val (.int s0), .unset] [(.int s0)])) _
        exact k
      by_cases c124_12 : s0 = (0 : Int32)
      · refine own_Go.mono (T' := T) (f' := (mkF m 132 #[.val (.int l0), .val (.int l1), .val (.int l2), .val (.int l3), .val (.int l4), .val (.int l5), .val (.int l6), .val (.int l7), .val (.int s0), .unset] [(.int (0 : Int32))])) (fun t k => ?_) ?_
        · show Steps p.tables e below (T.setTop (mkF m 124 #[.val (.int l0), .val (.int l1), .val (.int l2), .val (.int l3), .val (.int l4), .val (.int l5), .val (.int l6), .val (.int l7), .val (.int s0), .unset] [(.int s0)])) _
          refine XS.ifYes X.here hx rfl (pc0 := 124) (pc' := 131) rfl (hb hby at_124) rfl ((if0 _ _).trans (teq c124_12).1) (by decide) (by decide) ?_
          show Steps p.tables e below (T.setTop (mkF m 131 #[.val (.int l0), .val (.int l1), .val (.int l2), .val (.int l3), .val (.int l4), .val (.int l5), .val (.int l6), .val (.int l7), .val (.int s0), .unset] [])) _
          refine XS.iconst X.here hx rfl (hb hby at_131) ?_
          show Steps p.tables e below (T.setTop (mkF m 132 #[.val (.int l0), .val (.int l1), .val (.int l2), .val (.int l3), .val (.int l4), .val (.int l5), .val (.int l6), .val (.int l7), .val (.int s0), .unset] [(.int (0 : Int32))])) _
          exact k
        exact b_132 l0 l1 l2 l3 l4 l5 l6 l7 s0 (0 : Int32) X N eT (by rw [← hv]; unfold B0_115; rw [if_neg c119_11]; rw [if_pos c124_12]; first | done | rfl)
      · refine own_Go.mono (T' := T) (f' := (mkF m 132 #[.val (.int l0), .val (.int l1), .val (.int l2), .val (.int l3), .val (.int l4), .val (.int l5), .val (.int l6), .val (.int l7), .val (.int s0), .unset] [(.int (1 : Int32))])) (fun t k => ?_) ?_
        · show Steps p.tables e below (T.setTop (mkF m 124 #[.val (.int l0), .val (.int l1), .val (.int l2), .val (.int l3), .val (.int l4), .val (.int l5), .val (.int l6), .val (.int l7), .val (.int s0), .unset] [(.int s0)])) _
          refine XS.ifNo X.here hx rfl (hb hby at_124) rfl ((if0 _ _).trans (feq c124_12).1) ?_
          show Steps p.tables e below (T.setTop (mkF m 127 #[.val (.int l0), .val (.int l1), .val (.int l2), .val (.int l3), .val (.int l4), .val (.int l5), .val (.int l6), .val (.int l7), .val (.int s0), .unset] [])) _
          refine XS.iconst X.here hx rfl (hb hby at_127) ?_
          show Steps p.tables e below (T.setTop (mkF m 128 #[.val (.int l0), .val (.int l1), .val (.int l2), .val (.int l3), .val (.int l4), .val (.int l5), .val (.int l6), .val (.int l7), .val (.int s0), .unset] [(.int (1 : Int32))])) _
          refine XS.goto X.here hx rfl (pc0 := 128) (pc' := 132) rfl (hb hby at_128) (by decide) (by decide) ?_
          show Steps p.tables e below (T.setTop (mkF m 132 #[.val (.int l0), .val (.int l1), .val (.int l2), .val (.int l3), .val (.int l4), .val (.int l5), .val (.int l6), .val (.int l7), .val (.int s0), .unset] [(.int (1 : Int32))])) _
          exact k
        exact b_132 l0 l1 l2 l3 l4 l5 l6 l7 s0 (1 : Int32) X N eT (by rw [← hv]; unfold B0_115; rw [if_neg c119_11]; rw [if_neg c124_12]; first | done | rfl)
  have b_102 : ∀ {T : State} {locs : List Loc} (l0 : Int32) (l1 : Int32) (l2 : Int32) (l3 : Int32) (l4 : Int32) (l5 : Int32) (l6 : Int32) (s0 : Int32) (X : Stand p l e room_1 s m #[(.int p0), (.int p1), (.int p2)] below meth c T locs 0 0) (N : Fr n0 locs) (eT : T.heap = h0) (hv : B0_102 l0 l1 l2 l3 l4 l5 l6 s0 = (B0_0 p0 p1 p2)), own_Go p e below T (mkF m 102 #[.val (.int l0), .val (.int l1), .val (.int l2), .val (.int l3), .val (.int l4), .val (.int l5), .val (.int l6), .unset, .unset, .unset] [(.int s0)]) (own_K s below (Q0 Z p0 p1 p2 h0 n0) 0 0) := by
    intro T locs l0 l1 l2 l3 l4 l5 l6 s0 X N eT hv
    refine own_Go.mono (T' := T) (f' := (mkF m 107 #[.val (.int l0), .val (.int l1), .val (.int l2), .val (.int l3), .val (.int l4), .val (.int l5), .val (.int l6), .val (.int s0), .unset, .unset] [(.int (4 : Int32)), (.int l4)])) (fun t k => ?_) ?_
    · show Steps p.tables e below (T.setTop (mkF m 102 #[.val (.int l0), .val (.int l1), .val (.int l2), .val (.int l3), .val (.int l4), .val (.int l5), .val (.int l6), .unset, .unset, .unset] [(.int s0)])) _
      refine XS.istore X.here hx rfl (hb hby at_102) rfl (l' := #[.val (.int l0), .val (.int l1), .val (.int l2), .val (.int l3), .val (.int l4), .val (.int l5), .val (.int l6), .val (.int s0), .unset, .unset]) rfl ?_
      show Steps p.tables e below (T.setTop (mkF m 104 #[.val (.int l0), .val (.int l1), .val (.int l2), .val (.int l3), .val (.int l4), .val (.int l5), .val (.int l6), .val (.int s0), .unset, .unset] [])) _
      refine XS.iload X.here hx rfl (hb hby at_104) rfl ?_
      show Steps p.tables e below (T.setTop (mkF m 106 #[.val (.int l0), .val (.int l1), .val (.int l2), .val (.int l3), .val (.int l4), .val (.int l5), .val (.int l6), .val (.int s0), .unset, .unset] [(.int l4)])) _
      refine XS.iconst X.here hx rfl (hb hby at_106) ?_
      show Steps p.tables e below (T.setTop (mkF m 107 #[.val (.int l0), .val (.int l1), .val (.int l2), .val (.int l3), .val (.int l4), .val (.int l5), .val (.int l6), .val (.int s0), .unset, .unset] [(.int (4 : Int32)), (.int l4)])) _
      exact k
    by_cases c107_13 : (4 : Int32) < l4
    · refine own_Go.mono (T' := T) (f' := (mkF m 115 #[.val (.int l0), .val (.int l1), .val (.int l2), .val (.int l3), .val (.int l4), .val (.int l5), .val (.int l6), .val (.int s0), .unset, .unset] [(.int (0 : Int32))])) (fun t k => ?_) ?_
      · show Steps p.tables e below (T.setTop (mkF m 107 #[.val (.int l0), .val (.int l1), .val (.int l2), .val (.int l3), .val (.int l4), .val (.int l5), .val (.int l6), .val (.int s0), .unset, .unset] [(.int (4 : Int32)), (.int l4)])) _
        refine XS.icmpYes X.here hx rfl (pc0 := 107) (pc' := 114) rfl (hb hby at_107) rfl (tlt c107_13).2.2.1 (by decide) (by decide) ?_
        show Steps p.tables e below (T.setTop (mkF m 114 #[.val (.int l0), .val (.int l1), .val (.int l2), .val (.int l3), .val (.int l4), .val (.int l5), .val (.int l6), .val (.int s0), .unset, .unset] [])) _
        refine XS.iconst X.here hx rfl (hb hby at_114) ?_
        show Steps p.tables e below (T.setTop (mkF m 115 #[.val (.int l0), .val (.int l1), .val (.int l2), .val (.int l3), .val (.int l4), .val (.int l5), .val (.int l6), .val (.int s0), .unset, .unset] [(.int (0 : Int32))])) _
        exact k
      exact b_115 l0 l1 l2 l3 l4 l5 l6 s0 (0 : Int32) X N eT (by rw [← hv]; unfold B0_102; rw [if_pos c107_13]; first | done | rfl)
    · refine own_Go.mono (T' := T) (f' := (mkF m 115 #[.val (.int l0), .val (.int l1), .val (.int l2), .val (.int l3), .val (.int l4), .val (.int l5), .val (.int l6), .val (.int s0), .unset, .unset] [(.int (1 : Int32))])) (fun t k => ?_) ?_
      · show Steps p.tables e below (T.setTop (mkF m 107 #[.val (.int l0), .val (.int l1), .val (.int l2), .val (.int l3), .val (.int l4), .val (.int l5), .val (.int l6), .val (.int s0), .unset, .unset] [(.int (4 : Int32)), (.int l4)])) _
        refine XS.icmpNo X.here hx rfl (hb hby at_107) rfl (flt c107_13).2.2.1 ?_
        show Steps p.tables e below (T.setTop (mkF m 110 #[.val (.int l0), .val (.int l1), .val (.int l2), .val (.int l3), .val (.int l4), .val (.int l5), .val (.int l6), .val (.int s0), .unset, .unset] [])) _
        refine XS.iconst X.here hx rfl (hb hby at_110) ?_
        show Steps p.tables e below (T.setTop (mkF m 111 #[.val (.int l0), .val (.int l1), .val (.int l2), .val (.int l3), .val (.int l4), .val (.int l5), .val (.int l6), .val (.int s0), .unset, .unset] [(.int (1 : Int32))])) _
        refine XS.goto X.here hx rfl (pc0 := 111) (pc' := 115) rfl (hb hby at_111) (by decide) (by decide) ?_
        show Steps p.tables e below (T.setTop (mkF m 115 #[.val (.int l0), .val (.int l1), .val (.int l2), .val (.int l3), .val (.int l4), .val (.int l5), .val (.int l6), .val (.int s0), .unset, .unset] [(.int (1 : Int32))])) _
        exact k
      exact b_115 l0 l1 l2 l3 l4 l5 l6 s0 (1 : Int32) X N eT (by rw [← hv]; unfold B0_102; rw [if_neg c107_13]; first | done | rfl)
  have b_85 : ∀ {T : State} {locs : List Loc} (l0 : Int32) (l1 : Int32) (l2 : Int32) (l3 : Int32) (l4 : Int32) (l5 : Int32) (s0 : Int32) (X : Stand p l e room_1 s m #[(.int p0), (.int p1), (.int p2)] below meth c T locs 0 0) (N : Fr n0 locs) (eT : T.heap = h0) (hv : B0_85 l0 l1 l2 l3 l4 l5 s0 = (B0_0 p0 p1 p2)), own_Go p e below T (mkF m 85 #[.val (.int l0), .val (.int l1), .val (.int l2), .val (.int l3), .val (.int l4), .val (.int l5), .unset, .unset, .unset, .unset] [(.int s0)]) (own_K s below (Q0 Z p0 p1 p2 h0 n0) 0 0) := by
    intro T locs l0 l1 l2 l3 l4 l5 s0 X N eT hv
    refine own_Go.mono (T' := T) (f' := (mkF m 89 #[.val (.int l0), .val (.int l1), .val (.int l2), .val (.int l3), .val (.int l4), .val (.int l5), .val (.int s0), .unset, .unset, .unset] [(.int l5)])) (fun t k => ?_) ?_
    · show Steps p.tables e below (T.setTop (mkF m 85 #[.val (.int l0), .val (.int l1), .val (.int l2), .val (.int l3), .val (.int l4), .val (.int l5), .unset, .unset, .unset, .unset] [(.int s0)])) _
      refine XS.istore X.here hx rfl (hb hby at_85) rfl (l' := #[.val (.int l0), .val (.int l1), .val (.int l2), .val (.int l3), .val (.int l4), .val (.int l5), .val (.int s0), .unset, .unset, .unset]) rfl ?_
      show Steps p.tables e below (T.setTop (mkF m 87 #[.val (.int l0), .val (.int l1), .val (.int l2), .val (.int l3), .val (.int l4), .val (.int l5), .val (.int s0), .unset, .unset, .unset] [])) _
      refine XS.iload X.here hx rfl (hb hby at_87) rfl ?_
      show Steps p.tables e below (T.setTop (mkF m 89 #[.val (.int l0), .val (.int l1), .val (.int l2), .val (.int l3), .val (.int l4), .val (.int l5), .val (.int s0), .unset, .unset, .unset] [(.int l5)])) _
      exact k
    by_cases c89_14 : l5 = (0 : Int32)
    · refine own_Go.mono (T' := T) (f' := (mkF m 102 #[.val (.int l0), .val (.int l1), .val (.int l2), .val (.int l3), .val (.int l4), .val (.int l5), .val (.int s0), .unset, .unset, .unset] [(.int (0 : Int32))])) (fun t k => ?_) ?_
      · show Steps p.tables e below (T.setTop (mkF m 89 #[.val (.int l0), .val (.int l1), .val (.int l2), .val (.int l3), .val (.int l4), .val (.int l5), .val (.int s0), .unset, .unset, .unset] [(.int l5)])) _
        refine XS.ifYes X.here hx rfl (pc0 := 89) (pc' := 101) rfl (hb hby at_89) rfl ((if0 _ _).trans (teq c89_14).1) (by decide) (by decide) ?_
        show Steps p.tables e below (T.setTop (mkF m 101 #[.val (.int l0), .val (.int l1), .val (.int l2), .val (.int l3), .val (.int l4), .val (.int l5), .val (.int s0), .unset, .unset, .unset] [])) _
        refine XS.iconst X.here hx rfl (hb hby at_101) ?_
        show Steps p.tables e below (T.setTop (mkF m 102 #[.val (.int l0), .val (.int l1), .val (.int l2), .val (.int l3), .val (.int l4), .val (.int l5), .val (.int s0), .unset, .unset, .unset] [(.int (0 : Int32))])) _
        exact k
      exact b_102 l0 l1 l2 l3 l4 l5 s0 (0 : Int32) X N eT (by rw [← hv]; unfold B0_85; rw [if_pos c89_14]; first | done | rfl)
    · refine own_Go.mono (T' := T) (f' := (mkF m 94 #[.val (.int l0), .val (.int l1), .val (.int l2), .val (.int l3), .val (.int l4), .val (.int l5), .val (.int s0), .unset, .unset, .unset] [(.int s0)])) (fun t k => ?_) ?_
      · show Steps p.tables e below (T.setTop (mkF m 89 #[.val (.int l0), .val (.int l1), .val (.int l2), .val (.int l3), .val (.int l4), .val (.int l5), .val (.int s0), .unset, .unset, .unset] [(.int l5)])) _
        refine XS.ifNo X.here hx rfl (hb hby at_89) rfl ((if0 _ _).trans (feq c89_14).1) ?_
        show Steps p.tables e below (T.setTop (mkF m 92 #[.val (.int l0), .val (.int l1), .val (.int l2), .val (.int l3), .val (.int l4), .val (.int l5), .val (.int s0), .unset, .unset, .unset] [])) _
        refine XS.iload X.here hx rfl (hb hby at_92) rfl ?_
        show Steps p.tables e below (T.setTop (mkF m 94 #[.val (.int l0), .val (.int l1), .val (.int l2), .val (.int l3), .val (.int l4), .val (.int l5), .val (.int s0), .unset, .unset, .unset] [(.int s0)])) _
        exact k
      by_cases c94_15 : s0 = (0 : Int32)
      · refine own_Go.mono (T' := T) (f' := (mkF m 102 #[.val (.int l0), .val (.int l1), .val (.int l2), .val (.int l3), .val (.int l4), .val (.int l5), .val (.int s0), .unset, .unset, .unset] [(.int (1 : Int32))])) (fun t k => ?_) ?_
        · show Steps p.tables e below (T.setTop (mkF m 94 #[.val (.int l0), .val (.int l1), .val (.int l2), .val (.int l3), .val (.int l4), .val (.int l5), .val (.int s0), .unset, .unset, .unset] [(.int s0)])) _
          refine XS.ifNo X.here hx rfl (hb hby at_94) rfl ((if0 _ _).trans (teq c94_15).2) ?_
          show Steps p.tables e below (T.setTop (mkF m 97 #[.val (.int l0), .val (.int l1), .val (.int l2), .val (.int l3), .val (.int l4), .val (.int l5), .val (.int s0), .unset, .unset, .unset] [])) _
          refine XS.iconst X.here hx rfl (hb hby at_97) ?_
          show Steps p.tables e below (T.setTop (mkF m 98 #[.val (.int l0), .val (.int l1), .val (.int l2), .val (.int l3), .val (.int l4), .val (.int l5), .val (.int s0), .unset, .unset, .unset] [(.int (1 : Int32))])) _
          refine XS.goto X.here hx rfl (pc0 := 98) (pc' := 102) rfl (hb hby at_98) (by decide) (by decide) ?_
          show Steps p.tables e below (T.setTop (mkF m 102 #[.val (.int l0), .val (.int l1), .val (.int l2), .val (.int l3), .val (.int l4), .val (.int l5), .val (.int s0), .unset, .unset, .unset] [(.int (1 : Int32))])) _
          exact k
        exact b_102 l0 l1 l2 l3 l4 l5 s0 (1 : Int32) X N eT (by rw [← hv]; unfold B0_85; rw [if_neg c89_14]; rw [if_pos c94_15]; first | done | rfl)
      · refine own_Go.mono (T' := T) (f' := (mkF m 102 #[.val (.int l0), .val (.int l1), .val (.int l2), .val (.int l3), .val (.int l4), .val (.int l5), .val (.int s0), .unset, .unset, .unset] [(.int (0 : Int32))])) (fun t k => ?_) ?_
        · show Steps p.tables e below (T.setTop (mkF m 94 #[.val (.int l0), .val (.int l1), .val (.int l2), .val (.int l3), .val (.int l4), .val (.int l5), .val (.int s0), .unset, .unset, .unset] [(.int s0)])) _
          refine XS.ifYes X.here hx rfl (pc0 := 94) (pc' := 101) rfl (hb hby at_94) rfl ((if0 _ _).trans (feq c94_15).2) (by decide) (by decide) ?_
          show Steps p.tables e below (T.setTop (mkF m 101 #[.val (.int l0), .val (.int l1), .val (.int l2), .val (.int l3), .val (.int l4), .val (.int l5), .val (.int s0), .unset, .unset, .unset] [])) _
          refine XS.iconst X.here hx rfl (hb hby at_101) ?_
          show Steps p.tables e below (T.setTop (mkF m 102 #[.val (.int l0), .val (.int l1), .val (.int l2), .val (.int l3), .val (.int l4), .val (.int l5), .val (.int s0), .unset, .unset, .unset] [(.int (0 : Int32))])) _
          exact k
        exact b_102 l0 l1 l2 l3 l4 l5 s0 (0 : Int32) X N eT (by rw [← hv]; unfold B0_85; rw [if_neg c89_14]; rw [if_neg c94_15]; first | done | rfl)
  have b_57 : ∀ {T : State} {locs : List Loc} (l0 : Int32) (l1 : Int32) (l2 : Int32) (l3 : Int32) (l4 : Int32) (s0 : Int32) (X : Stand p l e room_1 s m #[(.int p0), (.int p1), (.int p2)] below meth c T locs 0 0) (N : Fr n0 locs) (eT : T.heap = h0) (hv : B0_57 l0 l1 l2 l3 l4 s0 = (B0_0 p0 p1 p2)), own_Go p e below T (mkF m 57 #[.val (.int l0), .val (.int l1), .val (.int l2), .val (.int l3), .val (.int l4), .unset, .unset, .unset, .unset, .unset] [(.int s0)]) (own_K s below (Q0 Z p0 p1 p2 h0 n0) 0 0) := by
    intro T locs l0 l1 l2 l3 l4 s0 X N eT hv
    refine own_Go.mono (T' := T) (f' := (mkF m 63 #[.val (.int l0), .val (.int l1), .val (.int l2), .val (.int l3), .val (.int l4), .val (.int s0), .unset, .unset, .unset, .unset] [(.int (304 : Int32)), (.int l3)])) (fun t k => ?_) ?_
    · show Steps p.tables e below (T.setTop (mkF m 57 #[.val (.int l0), .val (.int l1), .val (.int l2), .val (.int l3), .val (.int l4), .unset, .unset, .unset, .unset, .unset] [(.int s0)])) _
      refine XS.istore X.here hx rfl (hb hby at_57) rfl (l' := #[.val (.int l0), .val (.int l1), .val (.int l2), .val (.int l3), .val (.int l4), .val (.int s0), .unset, .unset, .unset, .unset]) rfl ?_
      show Steps p.tables e below (T.setTop (mkF m 59 #[.val (.int l0), .val (.int l1), .val (.int l2), .val (.int l3), .val (.int l4), .val (.int s0), .unset, .unset, .unset, .unset] [])) _
      refine XS.iloadN X.here hx rfl (hb hby at_59) rfl ?_
      show Steps p.tables e below (T.setTop (mkF m 60 #[.val (.int l0), .val (.int l1), .val (.int l2), .val (.int l3), .val (.int l4), .val (.int s0), .unset, .unset, .unset, .unset] [(.int l3)])) _
      refine XS.sipush X.here hx rfl (hb hby at_60) ?_
      show Steps p.tables e below (T.setTop (mkF m 63 #[.val (.int l0), .val (.int l1), .val (.int l2), .val (.int l3), .val (.int l4), .val (.int s0), .unset, .unset, .unset, .unset] [(.int (304 : Int32)), (.int l3)])) _
      exact k
    by_cases c63_16 : l3 = (304 : Int32)
    · refine own_Go.mono (T' := T) (f' := (mkF m 85 #[.val (.int l0), .val (.int l1), .val (.int l2), .val (.int l3), .val (.int l4), .val (.int s0), .unset, .unset, .unset, .unset] [(.int (1 : Int32))])) (fun t k => ?_) ?_
      · show Steps p.tables e below (T.setTop (mkF m 63 #[.val (.int l0), .val (.int l1), .val (.int l2), .val (.int l3), .val (.int l4), .val (.int s0), .unset, .unset, .unset, .unset] [(.int (304 : Int32)), (.int l3)])) _
        refine XS.icmpYes X.here hx rfl (pc0 := 63) (pc' := 80) rfl (hb hby at_63) rfl (teq c63_16).1 (by decide) (by decide) ?_
        show Steps p.tables e below (T.setTop (mkF m 80 #[.val (.int l0), .val (.int l1), .val (.int l2), .val (.int l3), .val (.int l4), .val (.int s0), .unset, .unset, .unset, .unset] [])) _
        refine XS.iconst X.here hx rfl (hb hby at_80) ?_
        show Steps p.tables e below (T.setTop (mkF m 81 #[.val (.int l0), .val (.int l1), .val (.int l2), .val (.int l3), .val (.int l4), .val (.int s0), .unset, .unset, .unset, .unset] [(.int (1 : Int32))])) _
        refine XS.goto X.here hx rfl (pc0 := 81) (pc' := 85) rfl (hb hby at_81) (by decide) (by decide) ?_
        show Steps p.tables e below (T.setTop (mkF m 85 #[.val (.int l0), .val (.int l1), .val (.int l2), .val (.int l3), .val (.int l4), .val (.int s0), .unset, .unset, .unset, .unset] [(.int (1 : Int32))])) _
        exact k
      exact b_85 l0 l1 l2 l3 l4 s0 (1 : Int32) X N eT (by rw [← hv]; unfold B0_57; rw [if_pos c63_16]; first | done | rfl)
    · refine own_Go.mono (T' := T) (f' := (mkF m 70 #[.val (.int l0), .val (.int l1), .val (.int l2), .val (.int l3), .val (.int l4), .val (.int s0), .unset, .unset, .unset, .unset] [(.int (305 : Int32)), (.int l3)])) (fun t k => ?_) ?_
      · show Steps p.tables e below (T.setTop (mkF m 63 #[.val (.int l0), .val (.int l1), .val (.int l2), .val (.int l3), .val (.int l4), .val (.int s0), .unset, .unset, .unset, .unset] [(.int (304 : Int32)), (.int l3)])) _
        refine XS.icmpNo X.here hx rfl (hb hby at_63) rfl (feq c63_16).1 ?_
        show Steps p.tables e below (T.setTop (mkF m 66 #[.val (.int l0), .val (.int l1), .val (.int l2), .val (.int l3), .val (.int l4), .val (.int s0), .unset, .unset, .unset, .unset] [])) _
        refine XS.iloadN X.here hx rfl (hb hby at_66) rfl ?_
        show Steps p.tables e below (T.setTop (mkF m 67 #[.val (.int l0), .val (.int l1), .val (.int l2), .val (.int l3), .val (.int l4), .val (.int s0), .unset, .unset, .unset, .unset] [(.int l3)])) _
        refine XS.sipush X.here hx rfl (hb hby at_67) ?_
        show Steps p.tables e below (T.setTop (mkF m 70 #[.val (.int l0), .val (.int l1), .val (.int l2), .val (.int l3), .val (.int l4), .val (.int s0), .unset, .unset, .unset, .unset] [(.int (305 : Int32)), (.int l3)])) _
        exact k
      by_cases c70_17 : l3 = (305 : Int32)
      · refine own_Go.mono (T' := T) (f' := (mkF m 85 #[.val (.int l0), .val (.int l1), .val (.int l2), .val (.int l3), .val (.int l4), .val (.int s0), .unset, .unset, .unset, .unset] [(.int (1 : Int32))])) (fun t k => ?_) ?_
        · show Steps p.tables e below (T.setTop (mkF m 70 #[.val (.int l0), .val (.int l1), .val (.int l2), .val (.int l3), .val (.int l4), .val (.int s0), .unset, .unset, .unset, .unset] [(.int (305 : Int32)), (.int l3)])) _
          refine XS.icmpYes X.here hx rfl (pc0 := 70) (pc' := 80) rfl (hb hby at_70) rfl (teq c70_17).1 (by decide) (by decide) ?_
          show Steps p.tables e below (T.setTop (mkF m 80 #[.val (.int l0), .val (.int l1), .val (.int l2), .val (.int l3), .val (.int l4), .val (.int s0), .unset, .unset, .unset, .unset] [])) _
          refine XS.iconst X.here hx rfl (hb hby at_80) ?_
          show Steps p.tables e below (T.setTop (mkF m 81 #[.val (.int l0), .val (.int l1), .val (.int l2), .val (.int l3), .val (.int l4), .val (.int s0), .unset, .unset, .unset, .unset] [(.int (1 : Int32))])) _
          refine XS.goto X.here hx rfl (pc0 := 81) (pc' := 85) rfl (hb hby at_81) (by decide) (by decide) ?_
          show Steps p.tables e below (T.setTop (mkF m 85 #[.val (.int l0), .val (.int l1), .val (.int l2), .val (.int l3), .val (.int l4), .val (.int s0), .unset, .unset, .unset, .unset] [(.int (1 : Int32))])) _
          exact k
        exact b_85 l0 l1 l2 l3 l4 s0 (1 : Int32) X N eT (by rw [← hv]; unfold B0_57; rw [if_neg c63_16]; rw [if_pos c70_17]; first | done | rfl)
      · refine own_Go.mono (T' := T) (f' := (mkF m 77 #[.val (.int l0), .val (.int l1), .val (.int l2), .val (.int l3), .val (.int l4), .val (.int s0), .unset, .unset, .unset, .unset] [(.int (306 : Int32)), (.int l3)])) (fun t k => ?_) ?_
        · show Steps p.tables e below (T.setTop (mkF m 70 #[.val (.int l0), .val (.int l1), .val (.int l2), .val (.int l3), .val (.int l4), .val (.int s0), .unset, .unset, .unset, .unset] [(.int (305 : Int32)), (.int l3)])) _
          refine XS.icmpNo X.here hx rfl (hb hby at_70) rfl (feq c70_17).1 ?_
          show Steps p.tables e below (T.setTop (mkF m 73 #[.val (.int l0), .val (.int l1), .val (.int l2), .val (.int l3), .val (.int l4), .val (.int s0), .unset, .unset, .unset, .unset] [])) _
          refine XS.iloadN X.here hx rfl (hb hby at_73) rfl ?_
          show Steps p.tables e below (T.setTop (mkF m 74 #[.val (.int l0), .val (.int l1), .val (.int l2), .val (.int l3), .val (.int l4), .val (.int s0), .unset, .unset, .unset, .unset] [(.int l3)])) _
          refine XS.sipush X.here hx rfl (hb hby at_74) ?_
          show Steps p.tables e below (T.setTop (mkF m 77 #[.val (.int l0), .val (.int l1), .val (.int l2), .val (.int l3), .val (.int l4), .val (.int s0), .unset, .unset, .unset, .unset] [(.int (306 : Int32)), (.int l3)])) _
          exact k
        by_cases c77_18 : l3 = (306 : Int32)
        · refine own_Go.mono (T' := T) (f' := (mkF m 85 #[.val (.int l0), .val (.int l1), .val (.int l2), .val (.int l3), .val (.int l4), .val (.int s0), .unset, .unset, .unset, .unset] [(.int (1 : Int32))])) (fun t k => ?_) ?_
          · show Steps p.tables e below (T.setTop (mkF m 77 #[.val (.int l0), .val (.int l1), .val (.int l2), .val (.int l3), .val (.int l4), .val (.int s0), .unset, .unset, .unset, .unset] [(.int (306 : Int32)), (.int l3)])) _
            refine XS.icmpNo X.here hx rfl (hb hby at_77) rfl (teq c77_18).2 ?_
            show Steps p.tables e below (T.setTop (mkF m 80 #[.val (.int l0), .val (.int l1), .val (.int l2), .val (.int l3), .val (.int l4), .val (.int s0), .unset, .unset, .unset, .unset] [])) _
            refine XS.iconst X.here hx rfl (hb hby at_80) ?_
            show Steps p.tables e below (T.setTop (mkF m 81 #[.val (.int l0), .val (.int l1), .val (.int l2), .val (.int l3), .val (.int l4), .val (.int s0), .unset, .unset, .unset, .unset] [(.int (1 : Int32))])) _
            refine XS.goto X.here hx rfl (pc0 := 81) (pc' := 85) rfl (hb hby at_81) (by decide) (by decide) ?_
            show Steps p.tables e below (T.setTop (mkF m 85 #[.val (.int l0), .val (.int l1), .val (.int l2), .val (.int l3), .val (.int l4), .val (.int s0), .unset, .unset, .unset, .unset] [(.int (1 : Int32))])) _
            exact k
          exact b_85 l0 l1 l2 l3 l4 s0 (1 : Int32) X N eT (by rw [← hv]; unfold B0_57; rw [if_neg c63_16]; rw [if_neg c70_17]; rw [if_pos c77_18]; first | done | rfl)
        · refine own_Go.mono (T' := T) (f' := (mkF m 85 #[.val (.int l0), .val (.int l1), .val (.int l2), .val (.int l3), .val (.int l4), .val (.int s0), .unset, .unset, .unset, .unset] [(.int (0 : Int32))])) (fun t k => ?_) ?_
          · show Steps p.tables e below (T.setTop (mkF m 77 #[.val (.int l0), .val (.int l1), .val (.int l2), .val (.int l3), .val (.int l4), .val (.int s0), .unset, .unset, .unset, .unset] [(.int (306 : Int32)), (.int l3)])) _
            refine XS.icmpYes X.here hx rfl (pc0 := 77) (pc' := 84) rfl (hb hby at_77) rfl (feq c77_18).2 (by decide) (by decide) ?_
            show Steps p.tables e below (T.setTop (mkF m 84 #[.val (.int l0), .val (.int l1), .val (.int l2), .val (.int l3), .val (.int l4), .val (.int s0), .unset, .unset, .unset, .unset] [])) _
            refine XS.iconst X.here hx rfl (hb hby at_84) ?_
            show Steps p.tables e below (T.setTop (mkF m 85 #[.val (.int l0), .val (.int l1), .val (.int l2), .val (.int l3), .val (.int l4), .val (.int s0), .unset, .unset, .unset, .unset] [(.int (0 : Int32))])) _
            exact k
          exact b_85 l0 l1 l2 l3 l4 s0 (0 : Int32) X N eT (by rw [← hv]; unfold B0_57; rw [if_neg c63_16]; rw [if_neg c70_17]; rw [if_neg c77_18]; first | done | rfl)
  have b_36 : ∀ {T : State} {locs : List Loc} (l0 : Int32) (l1 : Int32) (l2 : Int32) (l3 : Int32) (s0 : Int32) (X : Stand p l e room_1 s m #[(.int p0), (.int p1), (.int p2)] below meth c T locs 0 0) (N : Fr n0 locs) (eT : T.heap = h0) (hv : B0_36 l0 l1 l2 l3 s0 = (B0_0 p0 p1 p2)), own_Go p e below T (mkF m 36 #[.val (.int l0), .val (.int l1), .val (.int l2), .val (.int l3), .unset, .unset, .unset, .unset, .unset, .unset] [(.int s0)]) (own_K s below (Q0 Z p0 p1 p2 h0 n0) 0 0) := by
    intro T locs l0 l1 l2 l3 s0 X N eT hv
    refine own_Go.mono (T' := T) (f' := (mkF m 42 #[.val (.int l0), .val (.int l1), .val (.int l2), .val (.int l3), .val (.int s0), .unset, .unset, .unset, .unset, .unset] [(.int (301 : Int32)), (.int l3)])) (fun t k => ?_) ?_
    · show Steps p.tables e below (T.setTop (mkF m 36 #[.val (.int l0), .val (.int l1), .val (.int l2), .val (.int l3), .unset, .unset, .unset, .unset, .unset, .unset] [(.int s0)])) _
      refine XS.istore X.here hx rfl (hb hby at_36) rfl (l' := #[.val (.int l0), .val (.int l1), .val (.int l2), .val (.int l3), .val (.int s0), .unset, .unset, .unset, .unset, .unset]) rfl ?_
      show Steps p.tables e below (T.setTop (mkF m 38 #[.val (.int l0), .val (.int l1), .val (.int l2), .val (.int l3), .val (.int s0), .unset, .unset, .unset, .unset, .unset] [])) _
      refine XS.iloadN X.here hx rfl (hb hby at_38) rfl ?_
      show Steps p.tables e below (T.setTop (mkF m 39 #[.val (.int l0), .val (.int l1), .val (.int l2), .val (.int l3), .val (.int s0), .unset, .unset, .unset, .unset, .unset] [(.int l3)])) _
      refine XS.sipush X.here hx rfl (hb hby at_39) ?_
      show Steps p.tables e below (T.setTop (mkF m 42 #[.val (.int l0), .val (.int l1), .val (.int l2), .val (.int l3), .val (.int s0), .unset, .unset, .unset, .unset, .unset] [(.int (301 : Int32)), (.int l3)])) _
      exact k
    by_cases c42_19 : l3 < (301 : Int32)
    · refine own_Go.mono (T' := T) (f' := (mkF m 57 #[.val (.int l0), .val (.int l1), .val (.int l2), .val (.int l3), .val (.int s0), .unset, .unset, .unset, .unset, .unset] [(.int (0 : Int32))])) (fun t k => ?_) ?_
      · show Steps p.tables e below (T.setTop (mkF m 42 #[.val (.int l0), .val (.int l1), .val (.int l2), .val (.int l3), .val (.int s0), .unset, .unset, .unset, .unset, .unset] [(.int (301 : Int32)), (.int l3)])) _
        refine XS.icmpYes X.here hx rfl (pc0 := 42) (pc' := 56) rfl (hb hby at_42) rfl (tlt c42_19).1 (by decide) (by decide) ?_
        show Steps p.tables e below (T.setTop (mkF m 56 #[.val (.int l0), .val (.int l1), .val (.int l2), .val (.int l3), .val (.int s0), .unset, .unset, .unset, .unset, .unset] [])) _
        refine XS.iconst X.here hx rfl (hb hby at_56) ?_
        show Steps p.tables e below (T.setTop (mkF m 57 #[.val (.int l0), .val (.int l1), .val (.int l2), .val (.int l3), .val (.int s0), .unset, .unset, .unset, .unset, .unset] [(.int (0 : Int32))])) _
        exact k
      exact b_57 l0 l1 l2 l3 s0 (0 : Int32) X N eT (by rw [← hv]; unfold B0_36; rw [if_pos c42_19]; first | done | rfl)
    · refine own_Go.mono (T' := T) (f' := (mkF m 49 #[.val (.int l0), .val (.int l1), .val (.int l2), .val (.int l3), .val (.int s0), .unset, .unset, .unset, .unset, .unset] [(.int (308 : Int32)), (.int l3)])) (fun t k => ?_) ?_
      · show Steps p.tables e below (T.setTop (mkF m 42 #[.val (.int l0), .val (.int l1), .val (.int l2), .val (.int l3), .val (.int s0), .unset, .unset, .unset, .unset, .unset] [(.int (301 : Int32)), (.int l3)])) _
        refine XS.icmpNo X.here hx rfl (hb hby at_42) rfl (flt c42_19).1 ?_
        show Steps p.tables e below (T.setTop (mkF m 45 #[.val (.int l0), .val (.int l1), .val (.int l2), .val (.int l3), .val (.int s0), .unset, .unset, .unset, .unset, .unset] [])) _
        refine XS.iloadN X.here hx rfl (hb hby at_45) rfl ?_
        show Steps p.tables e below (T.setTop (mkF m 46 #[.val (.int l0), .val (.int l1), .val (.int l2), .val (.int l3), .val (.int s0), .unset, .unset, .unset, .unset, .unset] [(.int l3)])) _
        refine XS.sipush X.here hx rfl (hb hby at_46) ?_
        show Steps p.tables e below (T.setTop (mkF m 49 #[.val (.int l0), .val (.int l1), .val (.int l2), .val (.int l3), .val (.int s0), .unset, .unset, .unset, .unset, .unset] [(.int (308 : Int32)), (.int l3)])) _
        exact k
      by_cases c49_20 : (308 : Int32) < l3
      · refine own_Go.mono (T' := T) (f' := (mkF m 57 #[.val (.int l0), .val (.int l1), .val (.int l2), .val (.int l3), .val (.int s0), .unset, .unset, .unset, .unset, .unset] [(.int (0 : Int32))])) (fun t k => ?_) ?_
        · show Steps p.tables e below (T.setTop (mkF m 49 #[.val (.int l0), .val (.int l1), .val (.int l2), .val (.int l3), .val (.int s0), .unset, .unset, .unset, .unset, .unset] [(.int (308 : Int32)), (.int l3)])) _
          refine XS.icmpYes X.here hx rfl (pc0 := 49) (pc' := 56) rfl (hb hby at_49) rfl (tlt c49_20).2.2.1 (by decide) (by decide) ?_
          show Steps p.tables e below (T.setTop (mkF m 56 #[.val (.int l0), .val (.int l1), .val (.int l2), .val (.int l3), .val (.int s0), .unset, .unset, .unset, .unset, .unset] [])) _
          refine XS.iconst X.here hx rfl (hb hby at_56) ?_
          show Steps p.tables e below (T.setTop (mkF m 57 #[.val (.int l0), .val (.int l1), .val (.int l2), .val (.int l3), .val (.int s0), .unset, .unset, .unset, .unset, .unset] [(.int (0 : Int32))])) _
          exact k
        exact b_57 l0 l1 l2 l3 s0 (0 : Int32) X N eT (by rw [← hv]; unfold B0_36; rw [if_neg c42_19]; rw [if_pos c49_20]; first | done | rfl)
      · refine own_Go.mono (T' := T) (f' := (mkF m 57 #[.val (.int l0), .val (.int l1), .val (.int l2), .val (.int l3), .val (.int s0), .unset, .unset, .unset, .unset, .unset] [(.int (1 : Int32))])) (fun t k => ?_) ?_
        · show Steps p.tables e below (T.setTop (mkF m 49 #[.val (.int l0), .val (.int l1), .val (.int l2), .val (.int l3), .val (.int s0), .unset, .unset, .unset, .unset, .unset] [(.int (308 : Int32)), (.int l3)])) _
          refine XS.icmpNo X.here hx rfl (hb hby at_49) rfl (flt c49_20).2.2.1 ?_
          show Steps p.tables e below (T.setTop (mkF m 52 #[.val (.int l0), .val (.int l1), .val (.int l2), .val (.int l3), .val (.int s0), .unset, .unset, .unset, .unset, .unset] [])) _
          refine XS.iconst X.here hx rfl (hb hby at_52) ?_
          show Steps p.tables e below (T.setTop (mkF m 53 #[.val (.int l0), .val (.int l1), .val (.int l2), .val (.int l3), .val (.int s0), .unset, .unset, .unset, .unset, .unset] [(.int (1 : Int32))])) _
          refine XS.goto X.here hx rfl (pc0 := 53) (pc' := 57) rfl (hb hby at_53) (by decide) (by decide) ?_
          show Steps p.tables e below (T.setTop (mkF m 57 #[.val (.int l0), .val (.int l1), .val (.int l2), .val (.int l3), .val (.int s0), .unset, .unset, .unset, .unset, .unset] [(.int (1 : Int32))])) _
          exact k
        exact b_57 l0 l1 l2 l3 s0 (1 : Int32) X N eT (by rw [← hv]; unfold B0_36; rw [if_neg c42_19]; rw [if_neg c49_20]; first | done | rfl)
  have b_18 : ∀ {T : State} {locs : List Loc} (l0 : Int32) (l1 : Int32) (l2 : Int32) (s0 : Int32) (X : Stand p l e room_1 s m #[(.int p0), (.int p1), (.int p2)] below meth c T locs 0 0) (N : Fr n0 locs) (eT : T.heap = h0) (hv : B0_18 l0 l1 l2 s0 = (B0_0 p0 p1 p2)), own_Go p e below T (mkF m 18 #[.val (.int l0), .val (.int l1), .val (.int l2), .unset, .unset, .unset, .unset, .unset, .unset, .unset] [(.int s0)]) (own_K s below (Q0 Z p0 p1 p2 h0 n0) 0 0) := by
    intro T locs l0 l1 l2 s0 X N eT hv
    refine own_Go.mono (T' := T) (f' := (mkF m 22 #[.val (.int l0), .val (.int l1), .val (.int l2), .val (.int s0), .unset, .unset, .unset, .unset, .unset, .unset] [(.int (l2 &&& (2 : Int32)))])) (fun t k => ?_) ?_
    · show Steps p.tables e below (T.setTop (mkF m 18 #[.val (.int l0), .val (.int l1), .val (.int l2), .unset, .unset, .unset, .unset, .unset, .unset, .unset] [(.int s0)])) _
      refine XS.istoreN X.here hx rfl (hb hby at_18) rfl (l' := #[.val (.int l0), .val (.int l1), .val (.int l2), .val (.int s0), .unset, .unset, .unset, .unset, .unset, .unset]) rfl ?_
      show Steps p.tables e below (T.setTop (mkF m 19 #[.val (.int l0), .val (.int l1), .val (.int l2), .val (.int s0), .unset, .unset, .unset, .unset, .unset, .unset] [])) _
      refine XS.iloadN X.here hx rfl (hb hby at_19) rfl ?_
      show Steps p.tables e below (T.setTop (mkF m 20 #[.val (.int l0), .val (.int l1), .val (.int l2), .val (.int s0), .unset, .unset, .unset, .unset, .unset, .unset] [(.int l2)])) _
      refine XS.iconst X.here hx rfl (hb hby at_20) ?_
      show Steps p.tables e below (T.setTop (mkF m 21 #[.val (.int l0), .val (.int l1), .val (.int l2), .val (.int s0), .unset, .unset, .unset, .unset, .unset, .unset] [(.int (2 : Int32)), (.int l2)])) _
      refine XS.iand X.here hx rfl (hb hby at_21) rfl ?_
      show Steps p.tables e below (T.setTop (mkF m 22 #[.val (.int l0), .val (.int l1), .val (.int l2), .val (.int s0), .unset, .unset, .unset, .unset, .unset, .unset] [(.int (l2 &&& (2 : Int32)))])) _
      exact k
    by_cases c22_21 : (l2 &&& (2 : Int32)) = (0 : Int32)
    · refine own_Go.mono (T' := T) (f' := (mkF m 36 #[.val (.int l0), .val (.int l1), .val (.int l2), .val (.int s0), .unset, .unset, .unset, .unset, .unset, .unset] [(.int (l1 &&& (2147483647 : Int32)))])) (fun t k => ?_) ?_
      · show Steps p.tables e below (T.setTop (mkF m 22 #[.val (.int l0), .val (.int l1), .val (.int l2), .val (.int s0), .unset, .unset, .unset, .unset, .unset, .unset] [(.int (l2 &&& (2 : Int32)))])) _
        refine XS.ifYes X.here hx rfl (pc0 := 22) (pc' := 32) rfl (hb hby at_22) rfl ((if0 _ _).trans (teq c22_21).1) (by decide) (by decide) ?_
        show Steps p.tables e below (T.setTop (mkF m 32 #[.val (.int l0), .val (.int l1), .val (.int l2), .val (.int s0), .unset, .unset, .unset, .unset, .unset, .unset] [])) _
        refine XS.iloadN X.here hx rfl (hb hby at_32) rfl ?_
        show Steps p.tables e below (T.setTop (mkF m 33 #[.val (.int l0), .val (.int l1), .val (.int l2), .val (.int s0), .unset, .unset, .unset, .unset, .unset, .unset] [(.int l1)])) _
        refine X.ldcInt hx hown (mvT hZ (hw _ (List.mem_of_getElem? (i := 7) rfl))) (g := (mkF m 33 #[.val (.int l0), .val (.int l1), .val (.int l2), .val (.int s0), .unset, .unset, .unset, .unset, .unset, .unset] [(.int l1)])) rfl (hb hby at_33) _ ?_
        show Steps p.tables e below (T.setTop (mkF m 35 #[.val (.int l0), .val (.int l1), .val (.int l2), .val (.int s0), .unset, .unset, .unset, .unset, .unset, .unset] [(.int (2147483647 : Int32)), (.int l1)])) _
        refine XS.iand X.here hx rfl (hb hby at_35) rfl ?_
        show Steps p.tables e below (T.setTop (mkF m 36 #[.val (.int l0), .val (.int l1), .val (.int l2), .val (.int s0), .unset, .unset, .unset, .unset, .unset, .unset] [(.int (l1 &&& (2147483647 : Int32)))])) _
        exact k
      exact b_36 l0 l1 l2 s0 (l1 &&& (2147483647 : Int32)) X N eT (by rw [← hv]; unfold B0_18; rw [if_pos c22_21]; first | done | rfl)
    · refine own_Go.mono (T' := T) (f' := (mkF m 36 #[.val (.int l0), .val (.int l1), .val (.int l2), .val (.int s0), .unset, .unset, .unset, .unset, .unset, .unset] [(.int (l1 &&& (7 : Int32)))])) (fun t k => ?_) ?_
      · show Steps p.tables e below (T.setTop (mkF m 22 #[.val (.int l0), .val (.int l1), .val (.int l2), .val (.int s0), .unset, .unset, .unset, .unset, .unset, .unset] [(.int (l2 &&& (2 : Int32)))])) _
        refine XS.ifNo X.here hx rfl (hb hby at_22) rfl ((if0 _ _).trans (feq c22_21).1) ?_
        show Steps p.tables e below (T.setTop (mkF m 25 #[.val (.int l0), .val (.int l1), .val (.int l2), .val (.int s0), .unset, .unset, .unset, .unset, .unset, .unset] [])) _
        refine XS.iloadN X.here hx rfl (hb hby at_25) rfl ?_
        show Steps p.tables e below (T.setTop (mkF m 26 #[.val (.int l0), .val (.int l1), .val (.int l2), .val (.int s0), .unset, .unset, .unset, .unset, .unset, .unset] [(.int l1)])) _
        refine XS.bipush X.here hx rfl (hb hby at_26) ?_
        show Steps p.tables e below (T.setTop (mkF m 28 #[.val (.int l0), .val (.int l1), .val (.int l2), .val (.int s0), .unset, .unset, .unset, .unset, .unset, .unset] [(.int (7 : Int32)), (.int l1)])) _
        refine XS.iand X.here hx rfl (hb hby at_28) rfl ?_
        show Steps p.tables e below (T.setTop (mkF m 29 #[.val (.int l0), .val (.int l1), .val (.int l2), .val (.int s0), .unset, .unset, .unset, .unset, .unset, .unset] [(.int (l1 &&& (7 : Int32)))])) _
        refine XS.goto X.here hx rfl (pc0 := 29) (pc' := 36) rfl (hb hby at_29) (by decide) (by decide) ?_
        show Steps p.tables e below (T.setTop (mkF m 36 #[.val (.int l0), .val (.int l1), .val (.int l2), .val (.int s0), .unset, .unset, .unset, .unset, .unset, .unset] [(.int (l1 &&& (7 : Int32)))])) _
        exact k
      exact b_36 l0 l1 l2 s0 (l1 &&& (7 : Int32)) X N eT (by rw [← hv]; unfold B0_18; rw [if_neg c22_21]; first | done | rfl)
  have hv : (B0_0 p0 p1 p2) = (B0_0 p0 p1 p2) := rfl
  refine own_Go.mono (T' := s₁) (f' := (mkF m 3 #[.val (.int p0), .val (.int p1), .val (.int p2), .unset, .unset, .unset, .unset, .unset, .unset, .unset] [(.int (p2 &&& (1 : Int32)))])) (fun t k => ?_) ?_
  · show Steps p.tables e below (s₁.setTop (mkF m 0 #[.val (.int p0), .val (.int p1), .val (.int p2), .unset, .unset, .unset, .unset, .unset, .unset, .unset] [])) _
    refine XS.iloadN X0.here hx rfl (hb hby at_0) rfl ?_
    show Steps p.tables e below (s₁.setTop (mkF m 1 #[.val (.int p0), .val (.int p1), .val (.int p2), .unset, .unset, .unset, .unset, .unset, .unset, .unset] [(.int p2)])) _
    refine XS.iconst X0.here hx rfl (hb hby at_1) ?_
    show Steps p.tables e below (s₁.setTop (mkF m 2 #[.val (.int p0), .val (.int p1), .val (.int p2), .unset, .unset, .unset, .unset, .unset, .unset, .unset] [(.int (1 : Int32)), (.int p2)])) _
    refine XS.iand X0.here hx rfl (hb hby at_2) rfl ?_
    show Steps p.tables e below (s₁.setTop (mkF m 3 #[.val (.int p0), .val (.int p1), .val (.int p2), .unset, .unset, .unset, .unset, .unset, .unset, .unset] [(.int (p2 &&& (1 : Int32)))])) _
    exact k
  by_cases c3_22 : (p2 &&& (1 : Int32)) = (0 : Int32)
  · refine own_Go.mono (T' := s₁) (f' := (mkF m 18 #[.val (.int p0), .val (.int p1), .val (.int p2), .unset, .unset, .unset, .unset, .unset, .unset, .unset] [(.int p0)])) (fun t k => ?_) ?_
    · show Steps p.tables e below (s₁.setTop (mkF m 3 #[.val (.int p0), .val (.int p1), .val (.int p2), .unset, .unset, .unset, .unset, .unset, .unset, .unset] [(.int (p2 &&& (1 : Int32)))])) _
      refine XS.ifYes X0.here hx rfl (pc0 := 3) (pc' := 17) rfl (hb hby at_3) rfl ((if0 _ _).trans (teq c3_22).1) (by decide) (by decide) ?_
      show Steps p.tables e below (s₁.setTop (mkF m 17 #[.val (.int p0), .val (.int p1), .val (.int p2), .unset, .unset, .unset, .unset, .unset, .unset, .unset] [])) _
      refine XS.iloadN X0.here hx rfl (hb hby at_17) rfl ?_
      show Steps p.tables e below (s₁.setTop (mkF m 18 #[.val (.int p0), .val (.int p1), .val (.int p2), .unset, .unset, .unset, .unset, .unset, .unset, .unset] [(.int p0)])) _
      exact k
    exact b_18 p0 p1 p2 p0 X0 N0 e0 (by rw [← hv]; unfold B0_0; rw [if_pos c3_22]; first | done | rfl)
  · refine own_Go.mono (T' := s₁) (f' := (mkF m 18 #[.val (.int p0), .val (.int p1), .val (.int p2), .unset, .unset, .unset, .unset, .unset, .unset, .unset] [(.int ((296 : Int32) + (p0 &&& (15 : Int32))))])) (fun t k => ?_) ?_
    · show Steps p.tables e below (s₁.setTop (mkF m 3 #[.val (.int p0), .val (.int p1), .val (.int p2), .unset, .unset, .unset, .unset, .unset, .unset, .unset] [(.int (p2 &&& (1 : Int32)))])) _
      refine XS.ifNo X0.here hx rfl (hb hby at_3) rfl ((if0 _ _).trans (feq c3_22).1) ?_
      show Steps p.tables e below (s₁.setTop (mkF m 6 #[.val (.int p0), .val (.int p1), .val (.int p2), .unset, .unset, .unset, .unset, .unset, .unset, .unset] [])) _
      refine XS.sipush X0.here hx rfl (hb hby at_6) ?_
      show Steps p.tables e below (s₁.setTop (mkF m 9 #[.val (.int p0), .val (.int p1), .val (.int p2), .unset, .unset, .unset, .unset, .unset, .unset, .unset] [(.int (296 : Int32))])) _
      refine XS.iloadN X0.here hx rfl (hb hby at_9) rfl ?_
      show Steps p.tables e below (s₁.setTop (mkF m 10 #[.val (.int p0), .val (.int p1), .val (.int p2), .unset, .unset, .unset, .unset, .unset, .unset, .unset] [(.int p0), (.int (296 : Int32))])) _
      refine XS.bipush X0.here hx rfl (hb hby at_10) ?_
      show Steps p.tables e below (s₁.setTop (mkF m 12 #[.val (.int p0), .val (.int p1), .val (.int p2), .unset, .unset, .unset, .unset, .unset, .unset, .unset] [(.int (15 : Int32)), (.int p0), (.int (296 : Int32))])) _
      refine XS.iand X0.here hx rfl (hb hby at_12) rfl ?_
      show Steps p.tables e below (s₁.setTop (mkF m 13 #[.val (.int p0), .val (.int p1), .val (.int p2), .unset, .unset, .unset, .unset, .unset, .unset, .unset] [(.int (p0 &&& (15 : Int32))), (.int (296 : Int32))])) _
      refine XS.iadd X0.here hx rfl (hb hby at_13) rfl ?_
      show Steps p.tables e below (s₁.setTop (mkF m 14 #[.val (.int p0), .val (.int p1), .val (.int p2), .unset, .unset, .unset, .unset, .unset, .unset, .unset] [(.int ((296 : Int32) + (p0 &&& (15 : Int32))))])) _
      refine XS.goto X0.here hx rfl (pc0 := 14) (pc' := 18) rfl (hb hby at_14) (by decide) (by decide) ?_
      show Steps p.tables e below (s₁.setTop (mkF m 18 #[.val (.int p0), .val (.int p1), .val (.int p2), .unset, .unset, .unset, .unset, .unset, .unset, .unset] [(.int ((296 : Int32) + (p0 &&& (15 : Int32))))])) _
      exact k
    exact b_18 p0 p1 p2 ((296 : Int32) + (p0 &&& (15 : Int32))) X0 N0 e0 (by rw [← hv]; unfold B0_0; rw [if_neg c3_22]; first | done | rfl)
theorem own_law (a b c : Int32) : B0_0 a b c = 1 := by
  have key : ∀ l0 l1 l2 st rd : Int32, B0_36 l0 l1 l2 st rd = 1 := by
    intro l0 l1 l2 st rd
    have hr : rd < (5 : Int32) ↔ ¬ (4 : Int32) < rd := by
      have k5 : (5 : Int32).toInt = 5 := rfl
      have k4 : (4 : Int32).toInt = 4 := rfl
      rw [Int32.lt_iff_toInt_lt, Int32.lt_iff_toInt_lt]; omega
    by_cases h1 : st = 301
    · subst h1; by_cases hq : (4 : Int32) < rd <;> simp +decide [B0_36, B0_57, B0_85, B0_102, B0_115, B0_132, B1_0, B2_0, hr, hq]
    by_cases h2 : st = 302
    · subst h2; by_cases hq : (4 : Int32) < rd <;> simp +decide [B0_36, B0_57, B0_85, B0_102, B0_115, B0_132, B1_0, B2_0, hr, hq]
    by_cases h3 : st = 303
    · subst h3; by_cases hq : (4 : Int32) < rd <;> simp +decide [B0_36, B0_57, B0_85, B0_102, B0_115, B0_132, B1_0, B2_0, hr, hq]
    by_cases h4 : st = 304
    · subst h4; by_cases hq : (4 : Int32) < rd <;> simp +decide [B0_36, B0_57, B0_85, B0_102, B0_115, B0_132, B1_0, B2_0, hr, hq]
    by_cases h5 : st = 305
    · subst h5; by_cases hq : (4 : Int32) < rd <;> simp +decide [B0_36, B0_57, B0_85, B0_102, B0_115, B0_132, B1_0, B2_0, hr, hq]
    by_cases h6 : st = 306
    · subst h6; by_cases hq : (4 : Int32) < rd <;> simp +decide [B0_36, B0_57, B0_85, B0_102, B0_115, B0_132, B1_0, B2_0, hr, hq]
    by_cases h7 : st = 307
    · subst h7; by_cases hq : (4 : Int32) < rd <;> simp +decide [B0_36, B0_57, B0_85, B0_102, B0_115, B0_132, B1_0, B2_0, hr, hq]
    by_cases h8 : st = 308
    · subst h8; by_cases hq : (4 : Int32) < rd <;> simp +decide [B0_36, B0_57, B0_85, B0_102, B0_115, B0_132, B1_0, B2_0, hr, hq]
    have hB : B2_0 st = 0 := by simp [B2_0, h1, h2, h3, h7, h8]
    have ho : st < (301 : Int32) ∨ (308 : Int32) < st := by
      have n1 := mt Int32.toInt_inj.mp h1; have n2 := mt Int32.toInt_inj.mp h2; have n3 := mt Int32.toInt_inj.mp h3; have n4 := mt Int32.toInt_inj.mp h4
      have n5 := mt Int32.toInt_inj.mp h5; have n6 := mt Int32.toInt_inj.mp h6; have n7 := mt Int32.toInt_inj.mp h7; have n8 := mt Int32.toInt_inj.mp h8
      have k1 : (301 : Int32).toInt = 301 := rfl
      have k2 : (302 : Int32).toInt = 302 := rfl
      have k3 : (303 : Int32).toInt = 303 := rfl
      have k4 : (304 : Int32).toInt = 304 := rfl
      have k5 : (305 : Int32).toInt = 305 := rfl
      have k6 : (306 : Int32).toInt = 306 := rfl
      have k7 : (307 : Int32).toInt = 307 := rfl
      have k8 : (308 : Int32).toInt = 308 := rfl
      rw [Int32.lt_iff_toInt_lt, Int32.lt_iff_toInt_lt]; omega
    have e : B0_36 l0 l1 l2 st rd = B0_57 l0 l1 l2 st rd 0 := by
      unfold B0_36
      rcases ho with ho | ho
      · rw [if_pos ho]
      · by_cases q : st < (301 : Int32)
        · rw [if_pos q]
        · rw [if_neg q, if_pos ho]
    rw [e]
    by_cases hq : (4 : Int32) < rd <;> simp +decide [B0_57, h4, h5, h6, B0_85, B0_102, B0_115, B0_132, B1_0, hB, hq]
  unfold B0_0
  by_cases h : (c &&& (1 : Int32)) = (0 : Int32)
  · rw [if_pos h]; unfold B0_18; by_cases g : (c &&& (2 : Int32)) = (0 : Int32)
    · rw [if_pos g]; exact key _ _ _ _ _
    · rw [if_neg g]; exact key _ _ _ _ _
  · rw [if_neg h]; unfold B0_18; by_cases g : (c &&& (2 : Int32)) = (0 : Int32)
    · rw [if_pos g]; exact key _ _ _ _ _
    · rw [if_neg g]; exact key _ _ _ _ _
set_option maxRecDepth 65536 in
set_option maxHeartbeats 40000000 in
theorem own_comes {Post : Tables → Env → Array Value → State → Outcome → State → Prop} (hpost : ∀ tb e args s v u, (limb_1_1.after args s (.returned v) u = true ∧ limb_1_2.after args s (.returned v) u = true) → FrameEnd s (.returned v) u (Jvm.fieldLocs frame_1_writes args s ++ Jvm.arrayLocs frame_1_arrays args s ++ Jvm.staticLocs frame_1_statics s) 0 0 → Post tb e args s (.returned v) u) :
    ArmFor flags0 classFile x code maxLocals ret World_1 tables_1 room_1 Calls_1 rest_1 Pre_1 Post := by
  intro l hfl _ _ p e ha hc hk s m args below hf hA hF happ hP
  obtain ⟨hcalls, hrest, hpre⟩ := hP
  obtain ⟨-, -, -, hnamed, -, -, -, hat⟩ := (Spec.applies_iff hf).mp happ
  obtain ⟨hg, hn⟩ := and_e (Cond.before_iff.mp (show (Jvm.Cond.and given_1 narrow_1).before args s = true from hpre))
  obtain ⟨g0, k0⟩ := and_e hg
  obtain ⟨g1, k1⟩ := and_e k0
  obtain ⟨g2, k2⟩ := and_e k1
  obtain ⟨w0, w1, w2, rfl⟩ : ∃ w0 w1 w2 : Value, args = #[w0, w1, w2] := by
    have hs : args.size = 3 := by simpa [Cond.value, given_1] using g0
    obtain ⟨L⟩ := args
    match L, hs with
    | [w0, w1, w2], _ => exact ⟨w0, w1, w2, rfl⟩
  have hw := fun d (hd : d ∈ tables_1) => atoms_spec (ws := Jvm.Cond.code x code maxLocals ret :: tables_1) hat d (List.mem_cons_of_mem _ hd)
  obtain ⟨i0, ei0⟩ := is_v g1
  obtain rfl : w0 = (.int i0) := Option.some.inj ei0
  obtain ⟨i1, ei1⟩ := is_v g2
  obtain rfl : w1 = (.int i1) := Option.some.inj ei1
  obtain ⟨i2, ei2⟩ := is_v k2
  obtain rfl : w2 = (.int i2) := Option.some.inj ei2
  obtain ⟨n, o, h1, h2, h3, vv, L, rfl, ⟨hv, N, -⟩, hq⟩ := rm0 l s _ hw tables_1 i0 i1 i2 s.heap s.heap.size (Nat.le_refl _)  p e ha hc hk s m _ below hf ((Spec.applies_iff_loose hf).mp happ).1 ⟨rfl, State.Warmed39.refl s, rfl⟩ trivial
  rw [own_law] at hv; subst hv
  refine ⟨n, _, h1, h2, h3, hpost _ _ _ _ _ _ ⟨Cond.after_iff.mpr rfl, Cond.after_iff.mpr (eq_i res_at (Term.int_eval (1)) rfl)⟩ ⟨hq.1, hq.2.1, (hq.2.2.sift fun y hy => Or.inr (N y hy)).mono (by decide) (by decide)⟩⟩
theorem main_1_1 : Claimed_1_1 := own_comes fun _ _ _ _ _ _ h hF => ⟨h.1, hF⟩
theorem main_1_2 : Claimed_1_2 := own_comes fun _ _ _ _ _ _ h hF => ⟨h.2, hF⟩
end Jvm.Pilot.@@N@@
namespace Jvm.Pilot.@@N@@
open Jvm Jvm.ClassFile Sem Op Lib Jvm.Free Jvm.Stand Jvm.Pilot.@@N@@.Jvm.D
/-! MADE BY PROGRAM (witnessworld.py) out of the Statement's table words and the real class files: 9 classes; the members and pool entries that the words name. The judged class is class 1, her method 1. -/
namespace start1
open Jvm.ClassFile
def u (s : String) : CpInfo := .utf8 (stringToUtf16 s)
/-- a pool by its gaps: so many unusable entries, then the entry; so many at the end -/
def gap : Nat → List CpInfo → List CpInfo
  | 0, r => r
  | n + 1, r => .unusable :: gap n r
def poolList (es : List (Nat × CpInfo)) (last : Nat) : List CpInfo := es.foldr (fun e r => gap e.1 (e.2 :: r)) (gap last [])
def pool (es : List (Nat × CpInfo)) (last : Nat) : Array CpInfo := ⟨poolList es last⟩
def fileOf (pool : Array CpInfo) (this : Nat) (attrs : Array Attribute := #[]) (ms : Array MethodInfo := #[]) (fl : Nat := 33) (sup : Nat := 0) (ifs : Array Nat := #[]) (fds : Array FieldInfo := #[]) : ClassFile where
  minorVersion := 0
  majorVersion := 65
  constantPool := pool
  accessFlags := fl
  thisClass := this
  superClass := sup
  interfaces := ifs
  fields := fds
  methods := ms
  attributes := attrs
def plain (name : String) (sup : Option ClassId) : Class where
  name := name
  kind := .ordinary
  loader := none
  accessFlags := 33
  super := sup
  interfaces := #[]
  cf := none
  fields := #[]
  methods := #[]
  instanceTypes := #[]
  staticTypes := #[]
  resolved := #[]
  callSites := []
  init := .initialized
  statics := none
  mirror := none

def pool0 : Array CpInfo := pool [(5, u "<init>"), (0, u "()V"), (1, .class_ 10), (1, u "java/lang/Object")] 113

def k0m0 : Method := { name := "<init>", desc := "()V", sig := { parameters := [], returnType := none }, accessFlags := 1, code := none }
/-- java/lang/Object -/
def k0 : Class := { plain "java/lang/Object" none with
  accessFlags := 33
  interfaces := #[]
  cf := some (fileOf pool0 8 #[] #[{ accessFlags := 1, nameIndex := 5, descriptorIndex := 6, attributes := #[] }] 33 0 #[] #[])
  fields := #[]
  methods := #[k0m0]
  instanceTypes := #[]
  staticTypes := #[]
  resolved := Array.replicate 124 none
  statics := none }

def pool1 : Array CpInfo := pool [(2, .class_ 4), (1, u "java/lang/Object"), (0, u "<init>"), (0, u "()V"), (0, .integer 2147483647), (0, .methodref 9 10), (0, .class_ 11), (0, .nameAndType 12 13), (0, u "com/example/acrex/acrex/RobotsTxtFetch"), (0, u "followsRedirect"), (0, u "(II)Z"), (0, .class_ 15), (0, u "com/example/acrex/acrex/RobotsTxtFetchFollowsRedirectPinLaw"), (2, u "law"), (0, u "(III)Z")] 3

def k1m0 : Method := { name := "<init>", desc := "()V", sig := { parameters := [], returnType := none }, accessFlags := 2, code := none }
def k1c1 : Code := { maxStack := 3, maxLocals := 10, code := code, exceptionTable := #[], attributes := #[] }
def k1m1 : Method := { name := "law", desc := "(III)Z", sig := { parameters := [.int, .int, .int], returnType := some .boolean }, accessFlags := 9, code := some k1c1 }
/-- com/example/acrex/acrex/RobotsTxtFetchFollowsRedirectPinLaw -/
def k1 : Class := { plain "com/example/acrex/acrex/RobotsTxtFetchFollowsRedirectPinLaw" (some 0) with
  accessFlags := 49
  interfaces := #[]
  cf := some (fileOf pool1 14 #[] #[{ accessFlags := 2, nameIndex := 5, descriptorIndex := 6, attributes := #[] }, { accessFlags := 9, nameIndex := 18, descriptorIndex := 19, attributes := #[] }] 49 2 #[] #[])
  fields := #[]
  methods := #[k1m0, k1m1]
  instanceTypes := #[]
  staticTypes := #[]
  resolved := Array.replicate 23 none
  statics := none }

def pool2 : Array CpInfo := pool [(2, .class_ 4), (1, u "java/lang/Object"), (3, .class_ 10), (1, u "com/example/acrex/acrex/RobotsTxtFetch"), (0, u "outcome"), (0, u "Lcom/example/acrex/acrex/RobotsTxtFetch$Outcome;"), (2, u "cause"), (0, u "Ljava/lang/String;"), (2, u "rules"), (0, u "Lcom/example/acrex/acrex/RobotsTxt;"), (2, u "fetchTime"), (0, u "Ljava/time/Instant;"), (2, u "lifetime"), (0, u "Ljava/time/Duration;"), (52, .methodref 8 82), (0, .nameAndType 83 84), (0, u "isRedirect"), (0, u "(I)Z"), (17, u "MAX_LIFETIME"), (7, .class_ 112), (1, u "com/example/acrex/acrex/RobotsTxtFetch$Outcome"), (50, u "LONG_UNREACHABLE"), (5, .class_ 171), (1, u "com/example/acrex/acrex/RobotsTxtFetch$Fallback"), (52, u "MAX_REDIRECTS"), (0, u "I"), (14, u "followsRedirect"), (0, u "(II)Z")] 53

def k2c0 : Code := { maxStack := 2, maxLocals := 2, code := prog_13_method_7_code, exceptionTable := #[], attributes := #[] }
def k2m0 : Method := { name := "followsRedirect", desc := "(II)Z", sig := { parameters := [.int, .int], returnType := some .boolean }, accessFlags := 9, code := some k2c0 }
def k2c1 : Code := { maxStack := 2, maxLocals := 1, code := prog_13_method_16_code, exceptionTable := #[], attributes := #[] }
def k2m1 : Method := { name := "isRedirect", desc := "(I)Z", sig := { parameters := [.int], returnType := some .boolean }, accessFlags := 10, code := some k2c1 }
/-- com/example/acrex/acrex/RobotsTxtFetch -/
def k2 : Class := { plain "com/example/acrex/acrex/RobotsTxtFetch" (some 0) with
  accessFlags := 33
  interfaces := #[]
  cf := some (fileOf pool2 8 #[.nestMembers #[169, 110]] #[{ accessFlags := 9, nameIndex := 240, descriptorIndex := 241, attributes := #[] }, { accessFlags := 10, nameIndex := 83, descriptorIndex := 84, attributes := #[] }] 33 2 #[] #[{ accessFlags := 25, nameIndex := 224, descriptorIndex := 225, attributes := #[] }, { accessFlags := 25, nameIndex := 102, descriptorIndex := 28, attributes := #[] }, { accessFlags := 25, nameIndex := 163, descriptorIndex := 28, attributes := #[] }, { accessFlags := 18, nameIndex := 11, descriptorIndex := 12, attributes := #[] }, { accessFlags := 18, nameIndex := 15, descriptorIndex := 16, attributes := #[] }, { accessFlags := 18, nameIndex := 19, descriptorIndex := 20, attributes := #[] }, { accessFlags := 18, nameIndex := 23, descriptorIndex := 24, attributes := #[] }, { accessFlags := 18, nameIndex := 27, descriptorIndex := 28, attributes := #[] }])
  fields := #[{ name := "MAX_REDIRECTS", type := .int, accessFlags := 25, slot := 0, constantValue := 0 }, { name := "MAX_LIFETIME", type := (.object "java/time/Duration"), accessFlags := 25, slot := 1, constantValue := 0 }, { name := "LONG_UNREACHABLE", type := (.object "java/time/Duration"), accessFlags := 25, slot := 2, constantValue := 0 }, { name := "outcome", type := (.object "com/example/acrex/acrex/RobotsTxtFetch$Outcome"), accessFlags := 18, slot := 0, constantValue := 0 }, { name := "cause", type := (.object "java/lang/String"), accessFlags := 18, slot := 1, constantValue := 0 }, { name := "rules", type := (.object "com/example/acrex/acrex/RobotsTxt"), accessFlags := 18, slot := 2, constantValue := 0 }, { name := "fetchTime", type := (.object "java/time/Instant"), accessFlags := 18, slot := 3, constantValue := 0 }, { name := "lifetime", type := (.object "java/time/Duration"), accessFlags := 18, slot := 4, constantValue := 0 }]
  methods := #[k2m0, k2m1]
  instanceTypes := #[(.object "com/example/acrex/acrex/RobotsTxtFetch$Outcome"), (.object "java/lang/String"), (.object "com/example/acrex/acrex/RobotsTxt"), (.object "java/time/Instant"), (.object "java/time/Duration")]
  staticTypes := #[.int, (.object "java/time/Duration"), (.object "java/time/Duration")]
  resolved := Array.replicate 295 none
  statics := none }

def pool3 : Array CpInfo := pool [(1, u "java/lang/Cloneable"), (0, .class_ 1), (0, u "java/lang/Object"), (0, .class_ 3)] 3

/-- java/lang/Cloneable -/
def k3 : Class := { plain "java/lang/Cloneable" (some 0) with
  accessFlags := 1537
  interfaces := #[]
  cf := some (fileOf pool3 2 #[] #[] 1537 4 #[] #[])
  fields := #[]
  methods := #[]
  instanceTypes := #[]
  staticTypes := #[]
  resolved := Array.replicate 8 none
  statics := none }

def pool4 : Array CpInfo := pool [(1, u "java/io/Serializable"), (0, .class_ 1), (0, u "java/lang/Object"), (0, .class_ 3)] 3

/-- java/io/Serializable -/
def k4 : Class := { plain "java/io/Serializable" (some 0) with
  accessFlags := 1537
  interfaces := #[]
  cf := some (fileOf pool4 2 #[] #[] 1537 4 #[] #[])
  fields := #[]
  methods := #[]
  instanceTypes := #[]
  staticTypes := #[]
  resolved := Array.replicate 8 none
  statics := none }

/-- the primitive byte -/
def k5 : Class := { plain "byte" none with kind := .primitive 'B', accessFlags := 0x411 }
/-- [B -/
def k6 : Class := { plain "[B" (some 0) with kind := .array 5 .byte, interfaces := #[3, 4], accessFlags := 1041 }

/-- the primitive int -/
def k7 : Class := { plain "int" none with kind := .primitive 'I', accessFlags := 0x411 }
/-- [I -/
def k8 : Class := { plain "[I" (some 0) with kind := .array 7 .int, interfaces := #[3, 4], accessFlags := 1041 }

def heap : Heap := #[]
def classes : Array Class := #[k0, k1, k2, k3, k4, k5, k6, k7, k8]
def interned : List (Array UInt16 × Addr) := []
def slotsUsed : Nat := 0
def theMethod : MethodId := ⟨1, 1⟩
def args0 : Array Value := #[.int 301, .int 2, .int 0]
def aboutOver (below : List Frame) : State where
  vm := { classes := classes, interned := interned.toArray }
  heap := heap
  slotsUsed := slotsUsed
  threads := #[{ frames := .invoking theMethod args0 :: below }]
def below0 : List Frame := [.native { method := ⟨0, 0⟩, args := #[] }]
def about1 : State := aboutOver below0
def p0 : Program := .bare "" "" ""
def e0 : Env := launch0.env 0 0 0
theorem w_frames : about1.frames = Frame.invoking theMethod args0 :: below0 := rfl
set_option maxRecDepth 65536 in
theorem w_args : argsFit about1.vm theMethod args0 = true := by decide +kernel
set_option maxRecDepth 65536 in
theorem w_heap : heapFits about1 = true := by decide +kernel
set_option maxRecDepth 65536 in
theorem w_runnable : about1.curStatus? = some .runnable := by decide +kernel
set_option maxRecDepth 65536 in
theorem w_alone : about1.alone = true := by decide +kernel
set_option maxRecDepth 65536 in
theorem w_named : about1.methodNamed? x = some theMethod := by decide +kernel
set_option maxRecDepth 65536 in
theorem w_hears : about1.hears theMethod below0 = true := by decide +kernel
set_option maxRecDepth 65536 in
theorem w_ripe : about1.ripe theMethod args0 below0 = true := by decide +kernel
theorem w_running : about1.status = .running := rfl
set_option maxRecDepth 65536 in
theorem w_room : about1.hasRoom e0.platform room_1 = true :=
  launch0.hasRoom_least _ room_1 (by decide +kernel) (by decide +kernel) (by decide +kernel) (by decide +kernel) (by decide +kernel) (by decide +kernel)
theorem allAtoms_all (ts : List Jvm.Cond) (a : Array Jvm.Value) (st : Jvm.State) : (allAtoms ts).before a st = ts.all (fun c => c.before a st) := by
  induction ts with
  | nil => rfl
  | cons c t ih =>
    show (Jvm.Cond.and c (allAtoms t)).before a st = _
    rw [Jvm.Cond.before_and, ih, List.all_cons]
def words1 : List Jvm.Cond := Jvm.Cond.code x code maxLocals ret :: tables_1
/-- a 'code' word, met by the world's own term for the bytes: nothing is compared byte by byte -/
theorem code_word {y : MethodName} {bytes : ByteArray} {mx : Nat} {rt : Option FieldType} {a : Array Value} {s : State} {m : MethodId} {meth : Method} {c : Code} (h1 : s.methodNamed? y = some m) (h2 : s.vm.method? m = some meth) (h3 : meth.code = some c) (h4 : c.code = bytes)
    (h5 : (c.maxLocals == mx && c.exceptionTable.isEmpty && decide (c.maxStack ≤ mostOperands) && decide (meth.sig.returnType = rt) && !meth.locks && decide (parseMethodDescriptor y.desc = some meth.sig)) = true) : (Jvm.Cond.code y bytes mx rt).before a s = true := by
  simp only [Bool.and_eq_true, beq_iff_eq, Bool.not_eq_true', decide_eq_true_eq] at h5
  obtain ⟨⟨⟨⟨⟨g1, g2⟩, g3⟩, g4⟩, g5⟩, g6⟩ := h5
  simp [Cond.before, Cond.holds, Cond.value, h1, h2, h3, h4, g1, g2, g3, g4, g5, g6]
def isCode : Jvm.Cond → Bool
  | .code _ _ _ _ => true
  | _ => false
theorem all_split {L : List Jvm.Cond} {P : Jvm.Cond → Bool} (h1 : L.all (fun c => isCode c || P c) = true) (h2 : ∀ c ∈ L.filter isCode, P c = true) : L.all P = true := by
  refine List.all_eq_true.mpr fun c hc => ?_
  have h := List.all_eq_true.mp h1 c hc
  rcases Bool.eq_false_or_eq_true (isCode c) with hi | hi
  · exact h2 c (List.mem_filter.mpr ⟨hc, hi⟩)
  · simpa [hi] using h
set_option maxRecDepth 65536 in
theorem w_c0 : (Jvm.Cond.code x code maxLocals ret).before args0 about1 = true := code_word (m := ⟨1, 1⟩) (meth := k1m1) (c := k1c1) (by decide +kernel) rfl rfl rfl (by decide +kernel)
set_option maxRecDepth 65536 in
theorem w_c1 : (Jvm.Cond.code ({ cls := "com/example/acrex/acrex/RobotsTxtFetch", name := "followsRedirect", desc := "(II)Z" } : Jvm.MethodName) prog_13_method_7_code (2 : Nat) (Option.some Jvm.ClassFile.FieldType.boolean)).before args0 about1 = true := code_word (m := ⟨2, 0⟩) (meth := k2m0) (c := k2c0) (by decide +kernel) rfl rfl rfl (by decide +kernel)
set_option maxRecDepth 65536 in
theorem w_c2 : (Jvm.Cond.code ({ cls := "com/example/acrex/acrex/RobotsTxtFetch", name := "isRedirect", desc := "(I)Z" } : Jvm.MethodName) prog_13_method_16_code (1 : Nat) (Option.some Jvm.ClassFile.FieldType.boolean)).before args0 about1 = true := code_word (m := ⟨2, 1⟩) (meth := k2m1) (c := k2c1) (by decide +kernel) rfl rfl rfl (by decide +kernel)
def codes1 : List Jvm.Cond := [Jvm.Cond.code x code maxLocals ret, Jvm.Cond.code ({ cls := "com/example/acrex/acrex/RobotsTxtFetch", name := "followsRedirect", desc := "(II)Z" } : Jvm.MethodName) prog_13_method_7_code (2 : Nat) (Option.some Jvm.ClassFile.FieldType.boolean), Jvm.Cond.code ({ cls := "com/example/acrex/acrex/RobotsTxtFetch", name := "isRedirect", desc := "(I)Z" } : Jvm.MethodName) prog_13_method_16_code (1 : Nat) (Option.some Jvm.ClassFile.FieldType.boolean)]
set_option maxRecDepth 65536 in
theorem codes_eq : words1.filter isCode = codes1 := rfl
theorem w_codes : ∀ c ∈ words1.filter isCode, c.before args0 about1 = true := by
  rw [codes_eq]
  intro c hc
  simp only [codes1, List.mem_cons, List.not_mem_nil, or_false] at hc
  rcases hc with rfl | rfl | rfl
  · exact w_c0
  · exact w_c1
  · exact w_c2
set_option maxRecDepth 65536 in
theorem w_t1 : words1.all (fun c => isCode c || c.before args0 about1) = true := by decide +kernel
theorem w_tables : (allAtoms (Jvm.Cond.code x code maxLocals ret :: tables_1)).before args0 about1 = true := by
  rw [allAtoms_all]
  show words1.all (fun c => c.before args0 about1) = true
  refine all_split ?_ w_codes
  rw [w_t1]
set_option maxRecDepth 65536 in
theorem w_case : (Jvm.Cond.and given_1 narrow_1).before args0 about1 = true := by decide +kernel
theorem w_applies : (headSpec (Jvm.Cond.code x code maxLocals ret :: tables_1) room_1).applies x e0.platform about1 = true :=
  (Spec.applies_iff w_frames).mpr ⟨w_running, w_runnable, w_alone, w_named, w_hears, w_ripe, w_room, w_tables⟩
theorem atStart : AtStart classFile x code maxLocals ret World_1 tables_1 room_1 Calls_1 rest_1 Pre_1 launch0 p0 e0 about1 theMethod args0 below0 :=
  ⟨lists_1, trivial, launch0.admits_env _ _ _, launch0.least_env, fairChoices_fair.cas, fairChoices_fair.clock, w_frames, w_args, w_heap, w_applies, trivial, trivial, w_case⟩
end start1
theorem witness_1 : WitnessClaimed_1 := ⟨start1.p0, start1.e0, start1.about1, start1.theMethod, start1.args0, start1.below0, start1.atStart⟩
end Jvm.Pilot.@@N@@
