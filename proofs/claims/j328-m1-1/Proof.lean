import JvmDerived
import JvmDerived.Pilot.@@N@@Statement
import JvmDerived.Pilot.@@N@@Code
set_option linter.unusedVariables false
set_option linter.unusedSimpArgs false
namespace Jvm.Pilot.@@N@@
open Jvm Jvm.ClassFile Sem Op Lib Jvm.Free Jvm.Stand Jvm.LawKit Jvm.RoadKit Bundle Jvm.Pilot.@@N@@.Jvm.D
/-! the goal of a walk: from this frame the run comes to an end of which K holds -/
def own_Go (p : Program) (e : Env) (below : List Frame) (T : State) (f : JFrame) (K : State → Outcome → Prop) : Prop := ∃ s₂ o, Steps p.tables e below (T.setTop f) s₂ ∧ K s₂ o
theorem own_Go.mono {p : Program} {e : Env} {below : List Frame} {T T' : State} {f f' : JFrame} {K : State → Outcome → Prop} (h : ∀ t, Steps p.tables e below (T'.setTop f') t → Steps p.tables e below (T.setTop f) t) (g : own_Go p e below T' f' K) : own_Go p e below T f K := by
  obtain ⟨a, o, h1, h2⟩ := g; exact ⟨a, o, h _ h1, h2⟩
def own_K (s : State) (below : List Frame) (Qv : Option Value → Heap → List Loc → Prop) (cc ss : Nat) : State → Outcome → Prop := fun s₂ o => s₂.status = .running ∧ Ended s₂ below o ∧ ∃ v L, o = .returned v ∧ Qv v s₂.heap L ∧ FrameEnd s o s₂ L cc ss
theorem own_body {l : Launch} {y : MethodName} {bytes : ByteArray} {maxL : Nat} {ret : Option FieldType} {ws : List Jvm.Cond} {rm : Room} {Z : State} {as' : Array Value} {h0 : Heap} {Qv : Option Value → Heap → List Loc → Prop} {cc ss : Nat} (hpn : plainFor y = true)
    (body : ∀ (p : Program) (e : Env) (s : State) (m : MethodId) (below : List Frame) (meth : Method) (c : Code) (s₁ : State), p.tables.exec = Jvm.exec → c.code = bytes → c.maxLocals = maxL → meth.sig.returnType = ret → meth.locks = false → s.vm.findClass y.cls = some m.cls → meth.name = y.name → Z.Warmed39 s.vm → Stand p l e rm s m as' below meth c s₁ [] 0 0 → s₁.heap = h0 → own_Go p e below s₁ (entryFrame m as' maxL) (own_K s below Qv cc ss)) :
    MetFree l y (head1 (Jvm.Cond.code y bytes maxL ret :: ws) rm) (fun a U => a = as' ∧ Z.Warmed39 U.vm ∧ U.heap = h0) (fun _ _ _ _ _ => True) (fun _ U o U' => ∃ v L, o = .returned v ∧ Qv v U'.heap L ∧ FrameEnd U o U' L cc ss) := by
  refine MetFree.of_bodySF hpn hisR ?_
  intro p e s m args below meth c s₁ Bd hml0 hP hK
  obtain ⟨rfl, hZ, hh⟩ := hP
  exact body p e s m below meth c s₁ Bd.exec Bd.bytes hml0 Bd.returns Bd.notSynchronized (findClass_of_methodNamed Bd.named) (name_of_methodNamed Bd.named Bd.method).1 hZ (Stand.of_body Bd) (by rw [← hh, Bd.state]; rfl)
section Ret
variable {p : Program} {l : Launch} {e : Env} {R : Room} {s : State} {m : MethodId} {args : Array Value} {below : List Frame} {meth : Method} {c : Code} {T : State} {locs : List Loc} {cells slots : Nat} {Qv : Option Value → Heap → List Loc → Prop} {cc ss pc : Nat} {Ls : Array Slot} {rest : List Value}
theorem own_ret (X : Stand p l e R s m args below meth c T locs cells slots) {f : JFrame} {v : Option Value} (hv : meth.sig.returnType = none → v = none) (hlk : meth.locks = false)
    (hst : ∀ fs, (∀ (f : JFrame) (acts : List Action), f.method = m → f.locked = none → f.entered = [] → (doReturn e (T.setTop f) acts v).1 = T.setFrames fs) → Steps p.tables e below (T.setTop f) (T.setFrames fs)) (hq : Qv v T.heap locs) (hc : cells ≤ cc) (hs : slots ≤ ss) :
    own_Go p e below T f (own_K s below Qv cc ss) := by
  obtain ⟨fs, hr, hrun, hended, hW, hsame⟩ := X.leave (v := v) hv hlk
  exact ⟨_, _, hst fs hr, hrun, hended, v, locs, rfl, hq, ⟨_, rfl⟩, hW, hsame.mono hc hs⟩
theorem own_retN (X : Stand p l e R s m args below meth c T locs cells slots) (hx : p.tables.exec = Jvm.exec) {z : Int32} {t : FieldType} (hret : meth.sig.returnType = some t) (ht : t = .boolean ∨ t = .byte ∨ t = .char ∨ t = .short) (hlk : meth.locks = false) (hd : decode c.code pc = .ok (.ireturn, 1))
    (hq : Qv (some (.int (nar t z))) T.heap locs) (hc : cells ≤ cc) (hs : slots ≤ ss) : own_Go p e below T (mkF m pc Ls (.int z :: rest)) (own_K s below Qv cc ss) :=
  own_ret X (fun h => by rw [hret] at h; cases h) hlk (fun fs hr => retN X hx hret ht hd hr) hq hc hs
theorem own_retI (X : Stand p l e R s m args below meth c T locs cells slots) (hx : p.tables.exec = Jvm.exec) {z : Int32} (hret : meth.sig.returnType = some .int) (hlk : meth.locks = false) (hd : decode c.code pc = .ok (.ireturn, 1))
    (hq : Qv (some (.int z)) T.heap locs) (hc : cells ≤ cc) (hs : slots ≤ ss) : own_Go p e below T (mkF m pc Ls (.int z :: rest)) (own_K s below Qv cc ss) :=
  own_ret X (fun h => by rw [hret] at h; cases h) hlk (fun fs hr => retOut X hx hret rfl (Or.inl ⟨rfl, Or.inl rfl, z, rfl⟩) hd hr) hq hc hs
theorem own_retJ (X : Stand p l e R s m args below meth c T locs cells slots) (hx : p.tables.exec = Jvm.exec) {z : Int64} (hret : meth.sig.returnType = some .long) (hlk : meth.locks = false) (hd : decode c.code pc = .ok (.lreturn, 1))
    (hq : Qv (some (.long z)) T.heap locs) (hc : cells ≤ cc) (hs : slots ≤ ss) : own_Go p e below T (mkF m pc Ls (.long z :: rest)) (own_K s below Qv cc ss) :=
  own_ret X (fun h => by rw [hret] at h; cases h) hlk (fun fs hr => retOut X hx hret rfl (Or.inr (Or.inl ⟨rfl, rfl, z, rfl⟩)) hd hr) hq hc hs
theorem own_retA (X : Stand p l e R s m args below meth c T locs cells slots) (hx : p.tables.exec = Jvm.exec) {w : Value} {t : FieldType} (hret : meth.sig.returnType = some t) (hn : narrow t w = w) (ht : t.isReference = true ∧ w.isRef = true) (hlk : meth.locks = false) (hd : decode c.code pc = .ok (.areturn, 1))
    (hq : Qv (some w) T.heap locs) (hc : cells ≤ cc) (hs : slots ≤ ss) : own_Go p e below T (mkF m pc Ls (w :: rest)) (own_K s below Qv cc ss) :=
  own_ret X (fun h => by rw [hret] at h; cases h) hlk (fun fs hr => retOut X hx hret hn (Or.inr (Or.inr (Or.inr (Or.inr ⟨rfl, ht.1, ht.2⟩)))) hd hr) hq hc hs
theorem own_retV (X : Stand p l e R s m args below meth c T locs cells slots) (hx : p.tables.exec = Jvm.exec) (hret : meth.sig.returnType = none) (hlk : meth.locks = false) (hd : decode c.code pc = .ok (.return_, 1))
    (hq : Qv none T.heap locs) (hc : cells ≤ cc) (hs : slots ≤ ss) : own_Go p e below T (mkF m pc Ls []) (own_K s below Qv cc ss) :=
  own_ret X (fun _ => rfl) hlk (fun fs hr => X.returnOut hx hret hd hr) hq hc hs
theorem own_lremM {g : JFrame} {target : State} (X : Stand p l e R s m args below meth c T locs cells slots) (hx : p.tables.exec = Jvm.exec) (hg : g.method = m) {x y : Int64} (hd : decode c.code g.pc = .ok (.lrem, 1)) (hs : g.stack = .long y :: .long x :: rest) (hy : y ≠ 0)
    (hr : Steps p.tables e below (T.setTop { g with pc := g.pc + 1, stack := .long (x % y) :: rest }) target) : Steps p.tables e below (T.setTop g) target := XS.lrem X.here hx hg hd hs hy (by rw [lrem_mod]; exact hr)
end Ret
theorem pd_0 : parseMethodDescriptor "()V" = some ⟨[], none⟩ := by decide +kernel
theorem pd_1 : parseMethodDescriptor "(Ljava/lang/String;JJ)V" = some ⟨[(.object "java/lang/String"), .long, .long], none⟩ := by decide +kernel
theorem pd_2 : parseMethodDescriptor "(JJ)J" = some ⟨[.long, .long], some .long⟩ := by decide +kernel
theorem pd_3 : parseMethodDescriptor "(JJ)V" = some ⟨[.long, .long], none⟩ := by decide +kernel
theorem pd_4 : parseMethodDescriptor "(JJ)Z" = some ⟨[.long, .long], some .boolean⟩ := by decide +kernel
/-! walks that may load String constants: the wide frame -/
def own_KW (s : State) (below : List Frame) (Qv : Option Value → Heap → List Loc → Prop) (cc ss : Nat) : State → Outcome → Prop := fun s₂ o => s₂.status = .running ∧ Ended s₂ below o ∧ ∃ v L, o = .returned v ∧ Qv v s₂.heap L ∧ ReturnedEndW s o s₂ L cc ss
theorem own_bodyW {l : Launch} {y : MethodName} {bytes : ByteArray} {maxL : Nat} {ret : Option FieldType} {ws : List Jvm.Cond} {rm : Room} {Z : State} {as' : Array Value} {h0 : Heap} {Qv : Option Value → Heap → List Loc → Prop} {cc ss : Nat} (hpn : plainFor y = true)
    (body : ∀ (p : Program) (e : Env) (s : State) (m : MethodId) (below : List Frame) (meth : Method) (c : Code) (s₁ : State), p.tables.exec = Jvm.exec → c.code = bytes → c.maxLocals = maxL → meth.sig.returnType = ret → meth.locks = false → s.vm.findClass y.cls = some m.cls → meth.name = y.name → Z.Warmed39 s.vm → Stand p l e rm s m as' below meth c s₁ [] 0 0 → s₁.heap = h0 → own_Go p e below s₁ (entryFrame m as' maxL) (own_KW s below Qv cc ss)) :
    MetFree l y (head1 (Jvm.Cond.code y bytes maxL ret :: ws) rm) (fun a U => a = as' ∧ Z.Warmed39 U.vm ∧ U.heap = h0) (fun _ _ _ _ _ => True) (fun _ U o U' => ∃ v L, o = .returned v ∧ Qv v U'.heap L ∧ ReturnedEndW U o U' L cc ss) := by
  refine MetFree.of_bodySF hpn hisR ?_
  intro p e s m args below meth c s₁ Bd hml0 hP hK
  obtain ⟨rfl, hZ, hh⟩ := hP
  exact body p e s m below meth c s₁ Bd.exec Bd.bytes hml0 Bd.returns Bd.notSynchronized (findClass_of_methodNamed Bd.named) (name_of_methodNamed Bd.named Bd.method).1 hZ (Stand.of_body Bd) (by rw [← hh, Bd.state]; rfl)
section RetW
variable {p : Program} {l : Launch} {e : Env} {R : Room} {s : State} {vm₁ : Vm} {m : MethodId} {args : Array Value} {below : List Frame} {meth : Method} {c : Code} {T : State} {locs : List Loc} {cells slots : Nat} {Qv : Option Value → Heap → List Loc → Prop} {cc ss pc k₁ : Nat} {Ls : Array Slot} {rest : List Value}
theorem own_retW (X : Stand p l e R (s.setVm vm₁) m args below meth c T locs cells slots) {f : JFrame} {v : Option Value} (hv : meth.sig.returnType = none → v = none) (hlk : meth.locks = false)
    (hst : ∀ fs, (∀ (f : JFrame) (acts : List Action), f.method = m → f.locked = none → f.entered = [] → (doReturn e (T.setTop f) acts v).1 = T.setFrames fs) → Steps p.tables e below (T.setTop f) (T.setFrames fs)) (hq : Qv v T.heap locs) (hc : cells ≤ cc) (hs : slots ≤ ss) (hS : s.Since vm₁ k₁) (hk : k₁ ≤ T.heap.size) :
    own_Go p e below T f (own_KW s below Qv cc ss) := by
  obtain ⟨fs, hr, hrun, hended, hW⟩ := X.leaveW hS hk (v := v) hv hlk
  exact ⟨_, _, hst fs hr, hrun, hended, v, locs, rfl, hq, hW.1, hW.2.1, hW.2.2.1, hW.2.2.2.mono hc hs⟩
theorem own_retNW (X : Stand p l e R (s.setVm vm₁) m args below meth c T locs cells slots) (hx : p.tables.exec = Jvm.exec) {z : Int32} {t : FieldType} (hret : meth.sig.returnType = some t) (ht : t = .boolean ∨ t = .byte ∨ t = .char ∨ t = .short) (hlk : meth.locks = false) (hd : decode c.code pc = .ok (.ireturn, 1))
    (hq : Qv (some (.int (nar t z))) T.heap locs) (hc : cells ≤ cc) (hs : slots ≤ ss) (hS : s.Since vm₁ k₁) (hk : k₁ ≤ T.heap.size) : own_Go p e below T (mkF m pc Ls (.int z :: rest)) (own_KW s below Qv cc ss) :=
  own_retW X (fun h => by rw [hret] at h; cases h) hlk (fun fs hr => retN X hx hret ht hd hr) hq hc hs hS hk
theorem own_retAW (X : Stand p l e R (s.setVm vm₁) m args below meth c T locs cells slots) (hx : p.tables.exec = Jvm.exec) {w : Value} {t : FieldType} (hret : meth.sig.returnType = some t) (hn : narrow t w = w) (ht : t.isReference = true ∧ w.isRef = true) (hlk : meth.locks = false) (hd : decode c.code pc = .ok (.areturn, 1))
    (hq : Qv (some w) T.heap locs) (hc : cells ≤ cc) (hs : slots ≤ ss) (hS : s.Since vm₁ k₁) (hk : k₁ ≤ T.heap.size) : own_Go p e below T (mkF m pc Ls (w :: rest)) (own_KW s below Qv cc ss) :=
  own_retW X (fun h => by rw [hret] at h; cases h) hlk (fun fs hr => retOut X hx hret hn (Or.inr (Or.inr (Or.inr (Or.inr ⟨rfl, ht.1, ht.2⟩)))) hd hr) hq hc hs hS hk
theorem own_retVW (X : Stand p l e R (s.setVm vm₁) m args below meth c T locs cells slots) (hx : p.tables.exec = Jvm.exec) (hret : meth.sig.returnType = none) (hlk : meth.locks = false) (hd : decode c.code pc = .ok (.return_, 1))
    (hq : Qv none T.heap locs) (hc : cells ≤ cc) (hs : slots ≤ ss) (hS : s.Since vm₁ k₁) (hk : k₁ ≤ T.heap.size) : own_Go p e below T (mkF m pc Ls []) (own_KW s below Qv cc ss) :=
  own_retW X (fun _ => rfl) hlk (fun fs hr => X.returnOut hx hret hd hr) hq hc hs hS hk
end RetW
theorem own_lt {x y : Int64} : lcmpW x y < 0 ↔ x < y := lw_lt x y
theorem own_gt {x y : Int64} : (0 : Int32) < lcmpW x y ↔ y < x := lw_gt x y
theorem own_eq0 {x y : Int64} : lcmpW x y = 0 ↔ x = y := lw_eq x y
theorem own_nonneg (a : Int64) : ¬ (a &&& (9223372036854775807 : Int64)) < 0 := by
  have h := c_maskL a 9223372036854775807 63 (by decide) (by decide)
  rw [Int64.lt_iff_toInt_lt, h]; exact Int.not_lt.mpr (Int.emod_nonneg _ (by decide))
theorem own_atoms {Z : State} {a0 : Array Value} (hw : ∀ d ∈ tables_1, d.before a0 Z = true) : ∀ a ∈ Bundle.stringAtoms, a.before a0 Z = true := fun d hd => by
  simp only [Bundle.stringAtoms, List.mem_cons, List.not_mem_nil, or_false] at hd
  rcases hd with rfl | rfl | rfl | rfl | rfl | rfl | rfl
  · exact (hw _ (List.mem_of_getElem? (i := 12) rfl))
  · exact (hw _ (List.mem_of_getElem? (i := 13) rfl))
  · exact (hw _ (List.mem_of_getElem? (i := 14) rfl))
  · exact (hw _ (List.mem_of_getElem? (i := 15) rfl))
  · exact (hw _ (List.mem_of_getElem? (i := 16) rfl))
  · exact (hw _ (List.mem_of_getElem? (i := 17) rfl))
  · exact (hw _ (List.mem_of_getElem? (i := 18) rfl))
theorem d1_0 : decode jdk_29_method_66_code 0 = .ok (.lload_n 0, 1) := by decide +kernel
theorem d1_1 : decode jdk_29_method_66_code 1 = .ok (.lload_n 2, 1) := by decide +kernel
theorem d1_2 : decode jdk_29_method_66_code 2 = .ok (.lcmp, 1) := by decide +kernel
theorem d1_3 : decode jdk_29_method_66_code 3 = .ok (.ifCond .lt 7, 3) := by decide +kernel
theorem d1_6 : decode jdk_29_method_66_code 6 = .ok (.lload_n 0, 1) := by decide +kernel
theorem d1_7 : decode jdk_29_method_66_code 7 = .ok (.goto 4, 3) := by decide +kernel
theorem d1_10 : decode jdk_29_method_66_code 10 = .ok (.lload_n 2, 1) := by decide +kernel
theorem d1_11 : decode jdk_29_method_66_code 11 = .ok (.lreturn, 1) := by decide +kernel
def B1_0 (q1 : Int64) (q2 : Int64) : Int64 := (if (lcmpW q1 q2) < (0 : Int32) then q2 else q1)
theorem ef_rm1 (m : MethodId) (x0 : Int64) (x1 : Int64) : entryFrame m #[(.long x0), (.long x1)] 4 = mkF m 0 #[.val (.long x0), .second, .val (.long x1), .second] [] := by first | (simp [entryFrame, mkF, argsToLocals, Value.category]; done) | rfl
def Q1 (Z : State) (q1 : Int64) (q2 : Int64)  (h0 : Heap) (n0 : Nat) (v : Option Value) (h : Heap) (L : List Loc) : Prop := v = some (.long (B1_0 q1 q2)) ∧ Fr n0 L ∧ h = h0
set_option maxRecDepth 65536 in
set_option maxHeartbeats 40000000 in
theorem rm1 (l : Launch) (Z : State) (a0 : Array Value) (hw : ∀ d ∈ tables_1, d.before a0 Z = true) (ws : List Jvm.Cond) (q1 : Int64) (q2 : Int64)  (h0 : Heap) (n0 : Nat) (Z0 : n0 ≤ h0.size)  :
    MetFree l (⟨"java/lang/Math", "max", "(JJ)J"⟩ : MethodName) (head1 (Jvm.Cond.code (⟨"java/lang/Math", "max", "(JJ)J"⟩ : MethodName) jdk_29_method_66_code 4 (some .long) :: ws) ({ frames := 0, cells := 0, slots := 0, locals := 0 } : Room)) (fun a U => a = #[(.long q1), (.long q2)] ∧ Z.Warmed39 U.vm ∧ U.heap = h0) (fun _ _ _ _ _ => True) (fun _ U o U' => ∃ v L, o = .returned v ∧ Q1 Z q1 q2  h0 n0 v U'.heap L ∧ FrameEnd U o U' L 0 0) := by
  refine own_body (Qv := Q1 Z q1 q2  h0 n0) (Jvm.Free.JP.mathPlain rfl (by decide +kernel)) ?_
  intro p e s m below meth c s₁ hx hby hml hret hlk hown hnm hZ X0 e0
  replace hown : s.vm.findClass "java/lang/Math" = some m.cls := hown
  replace hnm : meth.name = "max" := hnm
  have N0 := Fr.nil n0
  refine own_Go.mono (T' := s₁) (f' := (mkF m 0 #[.val (.long q1), .second, .val (.long q2), .second] [])) (fun t k => castTop (ef_rm1 m q1 q2) k) ?_
  have hv : (B1_0 q1 q2) = (B1_0 q1 q2) := rfl
  refine own_Go.mono (T' := s₁) (f' := (mkF m 3 #[.val (.long q1), .second, .val (.long q2), .second] [(.int (lcmpW q1 q2))])) (fun t k => ?_) ?_
  · show Steps p.tables e below (s₁.setTop (mkF m 0 #[.val (.long q1), .second, .val (.long q2), .second] [])) _
    refine XS.lloadN X0.here hx rfl (hb hby d1_0) rfl ?_
    show Steps p.tables e below (s₁.setTop (mkF m 1 #[.val (.long q1), .second, .val (.long q2), .second] [(.long q1)])) _
    refine XS.lloadN X0.here hx rfl (hb hby d1_1) rfl ?_
    show Steps p.tables e below (s₁.setTop (mkF m 2 #[.val (.long q1), .second, .val (.long q2), .second] [(.long q2), (.long q1)])) _
    refine XS.lcmp X0.here hx rfl (hb hby d1_2) rfl ?_
    show Steps p.tables e below (s₁.setTop (mkF m 3 #[.val (.long q1), .second, .val (.long q2), .second] [(.int (lcmpW q1 q2))])) _
    exact k
  by_cases c3_1 : (lcmpW q1 q2) < (0 : Int32)
  · refine own_Go.mono (T' := s₁) (f' := (mkF m 11 #[.val (.long q1), .second, .val (.long q2), .second] [(.long q2)])) (fun t k => ?_) ?_
    · show Steps p.tables e below (s₁.setTop (mkF m 3 #[.val (.long q1), .second, .val (.long q2), .second] [(.int (lcmpW q1 q2))])) _
      refine XS.ifYes X0.here hx rfl (pc0 := 3) (pc' := 10) rfl (hb hby d1_3) rfl ((if0 _ _).trans (tlt c3_1).1) (by decide) (by decide) ?_
      show Steps p.tables e below (s₁.setTop (mkF m 10 #[.val (.long q1), .second, .val (.long q2), .second] [])) _
      refine XS.lloadN X0.here hx rfl (hb hby d1_10) rfl ?_
      show Steps p.tables e below (s₁.setTop (mkF m 11 #[.val (.long q1), .second, .val (.long q2), .second] [(.long q2)])) _
      exact k
    exact own_retJ X0 hx hret hlk (hb hby d1_11) (⟨congrArg some (congrArg Value.long (by rw [← hv]; unfold B1_0; rw [if_pos c3_1]; first | done | rfl)), N0, e0⟩) (by decide) (by decide)
  · refine own_Go.mono (T' := s₁) (f' := (mkF m 11 #[.val (.long q1), .second, .val (.long q2), .second] [(.long q1)])) (fun t k => ?_) ?_
    · show Steps p.tables e below (s₁.setTop (mkF m 3 #[.val (.long q1), .second, .val (.long q2), .second] [(.int (lcmpW q1 q2))])) _
      refine XS.ifNo X0.here hx rfl (hb hby d1_3) rfl ((if0 _ _).trans (flt c3_1).1) ?_
      show Steps p.tables e below (s₁.setTop (mkF m 6 #[.val (.long q1), .second, .val (.long q2), .second] [])) _
      refine XS.lloadN X0.here hx rfl (hb hby d1_6) rfl ?_
      show Steps p.tables e below (s₁.setTop (mkF m 7 #[.val (.long q1), .second, .val (.long q2), .second] [(.long q1)])) _
      refine XS.goto X0.here hx rfl (pc0 := 7) (pc' := 11) rfl (hb hby d1_7) (by decide) (by decide) ?_
      show Steps p.tables e below (s₁.setTop (mkF m 11 #[.val (.long q1), .second, .val (.long q2), .second] [(.long q1)])) _
      exact k
    exact own_retJ X0 hx hret hlk (hb hby d1_11) (⟨congrArg some (congrArg Value.long (by rw [← hv]; unfold B1_0; rw [if_neg c3_1]; first | done | rfl)), N0, e0⟩) (by decide) (by decide)
theorem own_k0 : (0 : Int64).toInt = 0 := rfl
theorem own_k1 : (1 : Int64).toInt = 1 := rfl
theorem own_max1 (a : Int64) : 1 ≤ (B1_0 (1 : Int64) a).toInt := by
  unfold B1_0
  by_cases h : (lcmpW (1 : Int64) a) < (0 : Int32)
  · rw [if_pos h]; have q := Int64.lt_iff_toInt_lt.mp (own_lt.mp h); rw [own_k1] at q; omega
  · rw [if_neg h, own_k1]; exact Int.le_refl _
theorem own_nz {a : Int64} (h : 1 ≤ a.toInt) : a ≠ 0 := fun q => by rw [q, own_k0] at h; omega
theorem own_ge1 {a : Int64} (h : 1 ≤ a.toInt) : ¬ a < 1 := by rw [Int64.lt_iff_toInt_lt, own_k1]; omega
theorem own_rem (c : Int64) {lim : Int64} (h : 1 ≤ lim.toInt) : 0 ≤ ((c &&& (9223372036854775807 : Int64)) % lim).toInt ∧ ((c &&& (9223372036854775807 : Int64)) % lim).toInt < lim.toInt := by
  have g := own_nonneg c
  rw [Int64.lt_iff_toInt_lt, own_k0] at g
  rw [Int64.toInt_mod, Int.tmod_eq_emod_of_nonneg (by omega)]
  exact ⟨Int.emod_nonneg _ (by omega), Int.emod_lt_of_pos _ (by omega)⟩
theorem own_cn (c : Int64) {lim : Int64} (h : 1 ≤ lim.toInt) : 0 ≤ ((c &&& (9223372036854775807 : Int64)) % lim).toInt ∧ ((c &&& (9223372036854775807 : Int64)) % lim).toInt < lim.toInt := own_rem c h
theorem own_per (c : Int64) {lim : Int64} (h : 1 ≤ lim.toInt) : 1 ≤ ((1 : Int64) + ((c &&& (9223372036854775807 : Int64)) % lim)).toInt ∧ ((1 : Int64) + ((c &&& (9223372036854775807 : Int64)) % lim)).toInt ≤ lim.toInt := by
  have r := own_rem c h
  generalize (c &&& (9223372036854775807 : Int64)) % lim = z at r
  have q := c_ladd 1 z; have r1 := rng64 ((1 : Int64) + z); have r2 := rng64 lim; rw [own_k1] at q; omega
theorem own_s1 {lim cn : Int64} (h : 1 ≤ lim.toInt) (c : 0 ≤ cn.toInt ∧ cn.toInt < lim.toInt) : 0 ≤ (cn + (1 : Int64)).toInt ∧ (cn + (1 : Int64)).toInt ≤ lim.toInt := by
  have q := c_ladd cn 1; have r1 := rng64 (cn + (1 : Int64)); have r2 := rng64 lim; rw [own_k1] at q; omega
theorem own_sub {lim x : Int64} (h : 1 ≤ lim.toInt) (h0 : 0 ≤ x.toInt) (h1 : x.toInt ≤ lim.toInt + 1) : (lim - x).toInt = lim.toInt - x.toInt := by
  have q := c_lsub lim x; have r1 := rng64 (lim - x); have r2 := rng64 lim; omega
theorem own_a {lim per cnt : Int64} (h : 1 ≤ lim.toInt) (p : 1 ≤ per.toInt ∧ per.toInt ≤ lim.toInt) (c1 : 0 ≤ cnt.toInt) (c2 : cnt.toInt ≤ lim.toInt) : (lim - cnt) < per ↔ (lim - per) < cnt := by
  rw [Int64.lt_iff_toInt_lt, Int64.lt_iff_toInt_lt, own_sub h c1 (by omega), own_sub h (by omega) (by omega)]; omega
theorem own_b {lim per : Int64} (h : 1 ≤ lim.toInt) (p : 1 ≤ per.toInt ∧ per.toInt ≤ lim.toInt) : ¬ (lim - (lim - per)) < per := by
  have e := own_sub h (x := per) (by omega) (by omega)
  rw [Int64.lt_iff_toInt_lt, own_sub h (by omega) (by omega), e]; omega
theorem own_c {lim per : Int64} (h : 1 ≤ lim.toInt) (p : 1 ≤ per.toInt ∧ per.toInt ≤ lim.toInt) : (lim - ((lim - per) + (1 : Int64))) < per := by
  have e := own_sub h (x := per) (by omega) (by omega)
  have q := c_ladd (lim - per) 1; have r1 := rng64 ((lim - per) + (1 : Int64)); have r2 := rng64 lim; rw [own_k1] at q
  have e2 : ((lim - per) + (1 : Int64)).toInt = lim.toInt - per.toInt + 1 := by omega
  rw [Int64.lt_iff_toInt_lt, own_sub h (by omega) (by omega), e2]; omega
theorem d4_0 : decode prog_33_method_1_code 0 = .ok (.aload_n 0, 1) := by decide +kernel
theorem d4_1 : decode prog_33_method_1_code 1 = .ok (.invokespecial 1, 3) := by decide +kernel
theorem d4_4 : decode prog_33_method_1_code 4 = .ok (.return_, 1) := by decide +kernel
theorem ef_rm4 (m : MethodId) (x0 : Addr) : entryFrame m #[(.ref x0)] 1 = mkF m 0 #[.val (.ref x0)] [] := by first | (simp [entryFrame, mkF, argsToLocals, Value.category]; done) | rfl
def Q4 (Z : State) (a1 : Addr)  (h0 : Heap) (n0 : Nat) (v : Option Value) (h : Heap) (L : List Loc) : Prop := v = none ∧ Fr n0 L ∧ h = h0
set_option maxRecDepth 65536 in
set_option maxHeartbeats 40000000 in
theorem rm4 (l : Launch) (Z : State) (a0 : Array Value) (hw : ∀ d ∈ tables_1, d.before a0 Z = true) (ws : List Jvm.Cond) (a1 : Addr)  (h0 : Heap) (n0 : Nat) (Z0 : n0 ≤ h0.size)  :
    MetFree l (⟨"com/example/garm/garm/Policy", "<init>", "()V"⟩ : MethodName) (head1 (Jvm.Cond.code (⟨"com/example/garm/garm/Policy", "<init>", "()V"⟩ : MethodName) prog_33_method_1_code 1 none :: ws) ({ frames := 1, cells := 0, slots := 0, locals := 12 } : Room)) (fun a U => a = #[(.ref a1)] ∧ Z.Warmed39 U.vm ∧ U.heap = h0) (fun _ _ _ _ _ => True) (fun _ U o U' => ∃ v L, o = .returned v ∧ Q4 Z a1  h0 n0 v U'.heap L ∧ FrameEnd U o U' L 0 0) := by
  refine own_body (Qv := Q4 Z a1  h0 n0) (plainFor_of_name (by first | (simp [plainName, overriddenIn]; done) | decide +kernel)) ?_
  intro p e s m below meth c s₁ hx hby hml hret hlk hown hnm hZ X0 e0
  replace hown : s.vm.findClass "com/example/garm/garm/Policy" = some m.cls := hown
  replace hnm : meth.name = "<init>" := hnm
  have N0 := Fr.nil n0
  refine own_Go.mono (T' := s₁) (f' := (mkF m 0 #[.val (.ref a1)] [])) (fun t k => castTop (ef_rm4 m a1) k) ?_
  obtain ⟨T2, X2, e2, st2⟩ := initO X0 hx hZ hown (hw _ (List.mem_of_getElem? (i := 29) rfl)) (hw _ (List.mem_of_getElem? (i := 30) rfl)) (hw _ (List.mem_of_getElem? (i := 31) rfl)) e0 (g := (mkF m 1 #[.val (.ref a1)] [(.ref a1)])) rfl (by rw [hml]; rfl) rfl (hb hby d4_1) (by decide) (W := 0) (by show 2 * 0 + _ ≤ _; exact Nat.le_of_eq rfl) (by decide)
  refine own_Go.mono (T' := T2) (f' := (mkF m 4 #[.val (.ref a1)] [])) (fun t k => ?_) ?_
  · show Steps p.tables e below (s₁.setTop (mkF m 0 #[.val (.ref a1)] [])) _
    refine XS.aloadN X0.here hx rfl (hb hby d4_0) rfl rfl ?_
    show Steps p.tables e below (s₁.setTop (mkF m 1 #[.val (.ref a1)] [(.ref a1)])) _
    refine st2 _ ?_
    show Steps p.tables e below (T2.setTop (mkF m 4 #[.val (.ref a1)] [])) _
    exact k
  exact own_retV X2 hx hret hlk (hb hby d4_4) (⟨rfl, N0, e2⟩) (by decide) (by decide)
theorem d3_0 : decode prog_55_method_1_code 0 = .ok (.aload_n 0, 1) := by decide +kernel
theorem d3_1 : decode prog_55_method_1_code 1 = .ok (.invokespecial 1, 3) := by decide +kernel
theorem d3_4 : decode prog_55_method_1_code 4 = .ok (.lload_n 2, 1) := by decide +kernel
theorem d3_5 : decode prog_55_method_1_code 5 = .ok (.lconst 1, 1) := by decide +kernel
theorem d3_6 : decode prog_55_method_1_code 6 = .ok (.lcmp, 1) := by decide +kernel
theorem d3_7 : decode prog_55_method_1_code 7 = .ok (.ifCond .ge 17, 3) := by decide +kernel
theorem d3_10 : decode prog_55_method_1_code 10 = .ok (.new 7, 3) := by decide +kernel
theorem d3_13 : decode prog_55_method_1_code 13 = .ok (.dup, 1) := by decide +kernel
theorem d3_14 : decode prog_55_method_1_code 14 = .ok (.lload_n 2, 1) := by decide +kernel
theorem d3_20 : decode prog_55_method_1_code 20 = .ok (.invokespecial 13, 3) := by decide +kernel
theorem d3_23 : decode prog_55_method_1_code 23 = .ok (.athrow, 1) := by decide +kernel
theorem d3_24 : decode prog_55_method_1_code 24 = .ok (.lload 4, 2) := by decide +kernel
theorem d3_26 : decode prog_55_method_1_code 26 = .ok (.lconst 1, 1) := by decide +kernel
theorem d3_27 : decode prog_55_method_1_code 27 = .ok (.lcmp, 1) := by decide +kernel
theorem d3_28 : decode prog_55_method_1_code 28 = .ok (.ifCond .ge 24, 3) := by decide +kernel
theorem d3_31 : decode prog_55_method_1_code 31 = .ok (.new 7, 3) := by decide +kernel
theorem d3_34 : decode prog_55_method_1_code 34 = .ok (.dup, 1) := by decide +kernel
theorem d3_35 : decode prog_55_method_1_code 35 = .ok (.lload 4, 2) := by decide +kernel
theorem d3_37 : decode prog_55_method_1_code 37 = .ok (.invokestatic 16, 3) := by decide +kernel
theorem d3_40 : decode prog_55_method_1_code 40 = .ok (.invokestatic 22, 3) := by decide +kernel
theorem d3_48 : decode prog_55_method_1_code 48 = .ok (.invokespecial 13, 3) := by decide +kernel
theorem d3_51 : decode prog_55_method_1_code 51 = .ok (.athrow, 1) := by decide +kernel
theorem d3_52 : decode prog_55_method_1_code 52 = .ok (.aload_n 0, 1) := by decide +kernel
theorem d3_53 : decode prog_55_method_1_code 53 = .ok (.aload_n 1, 1) := by decide +kernel
theorem d3_54 : decode prog_55_method_1_code 54 = .ok (.putfield 31, 3) := by decide +kernel
theorem d3_57 : decode prog_55_method_1_code 57 = .ok (.aload_n 0, 1) := by decide +kernel
theorem d3_58 : decode prog_55_method_1_code 58 = .ok (.lload_n 2, 1) := by decide +kernel
theorem d3_59 : decode prog_55_method_1_code 59 = .ok (.putfield 37, 3) := by decide +kernel
theorem d3_62 : decode prog_55_method_1_code 62 = .ok (.aload_n 0, 1) := by decide +kernel
theorem d3_63 : decode prog_55_method_1_code 63 = .ok (.lload 4, 2) := by decide +kernel
theorem d3_65 : decode prog_55_method_1_code 65 = .ok (.putfield 41, 3) := by decide +kernel
theorem d3_68 : decode prog_55_method_1_code 68 = .ok (.return_, 1) := by decide +kernel
theorem ef_rm3 (m : MethodId) (x0 : Addr) (x1 : Addr) (x2 : Int64) (x3 : Int64) : entryFrame m #[(.ref x0), (.ref x1), (.long x2), (.long x3)] 6 = mkF m 0 #[.val (.ref x0), .val (.ref x1), .val (.long x2), .second, .val (.long x3), .second] [] := by first | (simp [entryFrame, mkF, argsToLocals, Value.category]; done) | rfl
def Q3 (Z : State) (a1 : Addr) (a2 : Addr) (q1 : Int64) (q2 : Int64)  (h0 : Heap) (n0 : Nat) (v : Option Value) (h : Heap) (L : List Loc) : Prop := v = none ∧ Fr n0 L ∧ Keep h0 h [a1] ∧ Fld Z h a1 "com/example/garm/garm/WindowPolicy" "limit" "J" (.long q1)
set_option maxRecDepth 65536 in
set_option maxHeartbeats 40000000 in
theorem rm3 (l : Launch) (Z : State) (a0 : Array Value) (hw : ∀ d ∈ tables_1, d.before a0 Z = true) (ws : List Jvm.Cond) (a1 : Addr) (a2 : Addr) (q1 : Int64) (q2 : Int64)  (h0 : Heap) (n0 : Nat) (Z0 : n0 ≤ h0.size) (F_algorithm : Fld Z h0 a1 "com/example/garm/garm/WindowPolicy" "algorithm" "Ljava/lang/String;" .null) (F_limit : Fld Z h0 a1 "com/example/garm/garm/WindowPolicy" "limit" "J" (.long (0 : Int64))) (F_windowNanos : Fld Z h0 a1 "com/example/garm/garm/WindowPolicy" "windowNanos" "J" (.long (0 : Int64))) (E1 : Exa Z h0 a1 "com/example/garm/garm/FixedWindowPolicy") (g1 : n0 ≤ a1) (hq1 : ¬ q1 < 1) (hq2 : ¬ q2 < 1) :
    MetFree l (⟨"com/example/garm/garm/WindowPolicy", "<init>", "(Ljava/lang/String;JJ)V"⟩ : MethodName) (head1 (Jvm.Cond.code (⟨"com/example/garm/garm/WindowPolicy", "<init>", "(Ljava/lang/String;JJ)V"⟩ : MethodName) prog_55_method_1_code 6 none :: ws) ({ frames := 2, cells := 0, slots := 0, locals := 24 } : Room)) (fun a U => a = #[(.ref a1), (.ref a2), (.long q1), (.long q2)] ∧ Z.Warmed39 U.vm ∧ U.heap = h0) (fun _ _ _ _ _ => True) (fun _ U o U' => ∃ v L, o = .returned v ∧ Q3 Z a1 a2 q1 q2  h0 n0 v U'.heap L ∧ FrameEnd U o U' L 0 0) := by
  refine own_body (Qv := Q3 Z a1 a2 q1 q2  h0 n0) (plainFor_of_name (by first | (simp [plainName, overriddenIn]; done) | decide +kernel)) ?_
  intro p e s m below meth c s₁ hx hby hml hret hlk hown hnm hZ X0 e0
  replace hown : s.vm.findClass "com/example/garm/garm/WindowPolicy" = some m.cls := hown
  replace hnm : meth.name = "<init>" := hnm
  have N0 := Fr.nil n0
  refine own_Go.mono (T' := s₁) (f' := (mkF m 0 #[.val (.ref a1), .val (.ref a2), .val (.long q1), .second, .val (.long q2), .second] [])) (fun t k => castTop (ef_rm3 m a1 a2 q1 q2) k) ?_
  have K0_0 : Keep h0 h0 [a1] := Keep.refl _ _
  obtain ⟨_, _, ⟨T3, L3, k3, n3⟩, -, X3, ⟨Lc3, hQ3, l3, y3, z3⟩, st3⟩ := X0.specialBack hx (y := (⟨"com/example/garm/garm/Policy", "<init>", "()V"⟩ : MethodName)) rfl hown (mvT hZ (hw _ (List.mem_of_getElem? (i := 24) rfl))) (mvT hZ (hw _ (List.mem_of_getElem? (i := 25) rfl))) (mvT hZ (hw _ (List.mem_of_getElem? (i := 28) rfl))) (by decide) (backOf (W := 0) (rm4 l Z a0 hw [] a1 h0 n0 Z0) hZ (hw _ (List.mem_of_getElem? (i := 28) rfl)) (hw _ (List.mem_of_getElem? (i := 27) rfl)) (by decide) (by decide)) (g := (mkF m 1 #[.val (.ref a1), .val (.ref a2), .val (.long q1), .second, .val (.long q2), .second] [(.ref a1)])) rfl (by rw [hml]; rfl) (Steps.refl _) (a := a1) (argsL := []) (rest := []) (lenOf pd_0 rfl) rfl (by show 2 * 0 + _ ≤ _; exact Nat.le_of_eq rfl) (hb hby d3_1) (fun _ _ => ⟨rfl, e0, (by decide : 0 + 0 ≤ _), (by decide : 0 + 0 ≤ _)⟩)
  dsimp only [Pt.U, Pt.locs, Pt.cells, Pt.slots] at X3 l3 y3 z3 st3 hQ3
  subst l3 y3 z3
  obtain ⟨rfl, N3q, hh3⟩ := hQ3
  have N3 := Fr.app N0 N3q
  obtain ⟨T4, h4, X4, e4, W4, st4⟩ := putF X3 hx hZ hown (host := "") (Or.inl (hw _ (List.mem_of_getElem? (i := 32) rfl))) Via.refl hh3 F_algorithm E1 (Or.inr ⟨(hw _ (List.mem_of_getElem? (i := 33) rfl)), rfl, hnm⟩) (hw _ (List.mem_of_getElem? (i := 6) rfl)) (ty := (.object "java/lang/String")) (by decide) rfl rfl (g := (mkF m 54 #[.val (.ref a1), .val (.ref a2), .val (.long q1), .second, .val (.long q2), .second] [(.ref a2), (.ref a1)])) rfl rfl (hb hby d3_54)
  have F_algorithm_a1_4 := F_algorithm.same W4
  have F_limit_5 := F_limit.other W4 (Or.inr (slot_ne (Or.inr (hw _ (List.mem_of_getElem? (i := 35) rfl))) (Or.inr (hw _ (List.mem_of_getElem? (i := 33) rfl))) (by decide) (t := .long) (t' := (.object "java/lang/String")) (by decide) (by decide)))
  have F_windowNanos_6 := F_windowNanos.other W4 (Or.inr (slot_ne (Or.inr (hw _ (List.mem_of_getElem? (i := 37) rfl))) (Or.inr (hw _ (List.mem_of_getElem? (i := 33) rfl))) (by decide) (t := .long) (t' := (.object "java/lang/String")) (by decide) (by decide)))
  have E1_7 := E1.wr W4
  have zh4 : n0 ≤ h4.size := Nat.le_trans Z0 (Nat.le_of_eq W4.size.symm)
  have K0_4 : Keep h0 h4 [a1] := K0_0.wr W4 (Or.inl (List.mem_of_getElem? (i := 0) rfl))
  have N4 := Fr.snoc X4 N3 g1
  obtain ⟨T8, h8, X8, e8, W8, st8⟩ := putF X4 hx hZ hown (host := "") (Or.inl (hw _ (List.mem_of_getElem? (i := 34) rfl))) Via.refl e4 F_limit_5 E1_7 (Or.inr ⟨(hw _ (List.mem_of_getElem? (i := 35) rfl)), rfl, hnm⟩) (hw _ (List.mem_of_getElem? (i := 6) rfl)) (ty := .long) (by decide) rfl rfl (g := (mkF m 59 #[.val (.ref a1), .val (.ref a2), .val (.long q1), .second, .val (.long q2), .second] [(.long q1), (.ref a1)])) rfl rfl (hb hby d3_59)
  have F_limit_a1_8 := F_limit_5.same W8
  have F_algorithm_a1_9 := F_algorithm_a1_4.other W8 (Or.inr (slot_ne (Or.inr (hw _ (List.mem_of_getElem? (i := 33) rfl))) (Or.inr (hw _ (List.mem_of_getElem? (i := 35) rfl))) (by decide) (t := (.object "java/lang/String")) (t' := .long) (by decide) (by decide)))
  have F_windowNanos_10 := F_windowNanos_6.other W8 (Or.inr (slot_ne (Or.inr (hw _ (List.mem_of_getElem? (i := 37) rfl))) (Or.inr (hw _ (List.mem_of_getElem? (i := 35) rfl))) (by decide) (t := .long) (t' := .long) (by decide) (by decide)))
  have E1_11 := E1_7.wr W8
  have zh8 : n0 ≤ h8.size := Nat.le_trans zh4 (Nat.le_of_eq W8.size.symm)
  have K0_8 : Keep h0 h8 [a1] := K0_4.wr W8 (Or.inl (List.mem_of_getElem? (i := 0) rfl))
  have N8 := Fr.snoc X8 N4 g1
  obtain ⟨T12, h12, X12, e12, W12, st12⟩ := putF X8 hx hZ hown (host := "") (Or.inl (hw _ (List.mem_of_getElem? (i := 36) rfl))) Via.refl e8 F_windowNanos_10 E1_11 (Or.inr ⟨(hw _ (List.mem_of_getElem? (i := 37) rfl)), rfl, hnm⟩) (hw _ (List.mem_of_getElem? (i := 6) rfl)) (ty := .long) (by decide) rfl rfl (g := (mkF m 65 #[.val (.ref a1), .val (.ref a2), .val (.long q1), .second, .val (.long q2), .second] [(.long q2), (.ref a1)])) rfl rfl (hb hby d3_65)
  have F_windowNanos_a1_12 := F_windowNanos_10.same W12
  have F_algorithm_a1_13 := F_algorithm_a1_9.other W12 (Or.inr (slot_ne (Or.inr (hw _ (List.mem_of_getElem? (i := 33) rfl))) (Or.inr (hw _ (List.mem_of_getElem? (i := 37) rfl))) (by decide) (t := (.object "java/lang/String")) (t' := .long) (by decide) (by decide)))
  have F_limit_a1_14 := F_limit_a1_8.other W12 (Or.inr (slot_ne (Or.inr (hw _ (List.mem_of_getElem? (i := 35) rfl))) (Or.inr (hw _ (List.mem_of_getElem? (i := 37) rfl))) (by decide) (t := .long) (t' := .long) (by decide) (by decide)))
  have E1_15 := E1_11.wr W12
  have zh12 : n0 ≤ h12.size := Nat.le_trans zh8 (Nat.le_of_eq W12.size.symm)
  have K0_12 : Keep h0 h12 [a1] := K0_8.wr W12 (Or.inl (List.mem_of_getElem? (i := 0) rfl))
  have N12 := Fr.snoc X12 N8 g1
  refine own_Go.mono (T' := T12) (f' := (mkF m 68 #[.val (.ref a1), .val (.ref a2), .val (.long q1), .second, .val (.long q2), .second] [])) (fun t k => ?_) ?_
  · show Steps p.tables e below (s₁.setTop (mkF m 0 #[.val (.ref a1), .val (.ref a2), .val (.long q1), .second, .val (.long q2), .second] [])) _
    refine XS.aloadN X0.here hx rfl (hb hby d3_0) rfl rfl ?_
    show Steps p.tables e below (s₁.setTop (mkF m 1 #[.val (.ref a1), .val (.ref a2), .val (.long q1), .second, .val (.long q2), .second] [(.ref a1)])) _
    refine st3.trans ?_
    show Steps p.tables e below (T3.setTop (mkF m 4 #[.val (.ref a1), .val (.ref a2), .val (.long q1), .second, .val (.long q2), .second] [])) _
    refine XS.lloadN X3.here hx rfl (hb hby d3_4) rfl ?_
    show Steps p.tables e below (T3.setTop (mkF m 5 #[.val (.ref a1), .val (.ref a2), .val (.long q1), .second, .val (.long q2), .second] [(.long q1)])) _
    refine XS.lconst X3.here hx rfl (hb hby d3_5) ?_
    show Steps p.tables e below (T3.setTop (mkF m 6 #[.val (.ref a1), .val (.ref a2), .val (.long q1), .second, .val (.long q2), .second] [(.long (1 : Int64)), (.long q1)])) _
    refine XS.lcmp X3.here hx rfl (hb hby d3_6) rfl ?_
    show Steps p.tables e below (T3.setTop (mkF m 7 #[.val (.ref a1), .val (.ref a2), .val (.long q1), .second, .val (.long q2), .second] [(.int (lcmpW q1 (1 : Int64)))])) _
    refine XS.ifYes X3.here hx rfl (pc0 := 7) (pc' := 24) rfl (hb hby d3_7) rfl ((if0 _ _).trans (flt (mt own_lt.mp hq1)).2.1) (by decide) (by decide) ?_
    show Steps p.tables e below (T3.setTop (mkF m 24 #[.val (.ref a1), .val (.ref a2), .val (.long q1), .second, .val (.long q2), .second] [])) _
    refine XS.lload X3.here hx rfl (hb hby d3_24) rfl ?_
    show Steps p.tables e below (T3.setTop (mkF m 26 #[.val (.ref a1), .val (.ref a2), .val (.long q1), .second, .val (.long q2), .second] [(.long q2)])) _
    refine XS.lconst X3.here hx rfl (hb hby d3_26) ?_
    show Steps p.tables e below (T3.setTop (mkF m 27 #[.val (.ref a1), .val (.ref a2), .val (.long q1), .second, .val (.long q2), .second] [(.long (1 : Int64)), (.long q2)])) _
    refine XS.lcmp X3.here hx rfl (hb hby d3_27) rfl ?_
    show Steps p.tables e below (T3.setTop (mkF m 28 #[.val (.ref a1), .val (.ref a2), .val (.long q1), .second, .val (.long q2), .second] [(.int (lcmpW q2 (1 : Int64)))])) _
    refine XS.ifYes X3.here hx rfl (pc0 := 28) (pc' := 52) rfl (hb hby d3_28) rfl ((if0 _ _).trans (flt (mt own_lt.mp hq2)).2.1) (by decide) (by decide) ?_
    show Steps p.tables e below (T3.setTop (mkF m 52 #[.val (.ref a1), .val (.ref a2), .val (.long q1), .second, .val (.long q2), .second] [])) _
    refine XS.aloadN X3.here hx rfl (hb hby d3_52) rfl rfl ?_
    show Steps p.tables e below (T3.setTop (mkF m 53 #[.val (.ref a1), .val (.ref a2), .val (.long q1), .second, .val (.long q2), .second] [(.ref a1)])) _
    refine XS.aloadN X3.here hx rfl (hb hby d3_53) rfl rfl ?_
    show Steps p.tables e below (T3.setTop (mkF m 54 #[.val (.ref a1), .val (.ref a2), .val (.long q1), .second, .val (.long q2), .second] [(.ref a2), (.ref a1)])) _
    refine st4 _ ?_
    show Steps p.tables e below (T4.setTop (mkF m 57 #[.val (.ref a1), .val (.ref a2), .val (.long q1), .second, .val (.long q2), .second] [])) _
    refine XS.aloadN X4.here hx rfl (hb hby d3_57) rfl rfl ?_
    show Steps p.tables e below (T4.setTop (mkF m 58 #[.val (.ref a1), .val (.ref a2), .val (.long q1), .second, .val (.long q2), .second] [(.ref a1)])) _
    refine XS.lloadN X4.here hx rfl (hb hby d3_58) rfl ?_
    show Steps p.tables e below (T4.setTop (mkF m 59 #[.val (.ref a1), .val (.ref a2), .val (.long q1), .second, .val (.long q2), .second] [(.long q1), (.ref a1)])) _
    refine st8 _ ?_
    show Steps p.tables e below (T8.setTop (mkF m 62 #[.val (.ref a1), .val (.ref a2), .val (.long q1), .second, .val (.long q2), .second] [])) _
    refine XS.aloadN X8.here hx rfl (hb hby d3_62) rfl rfl ?_
    show Steps p.tables e below (T8.setTop (mkF m 63 #[.val (.ref a1), .val (.ref a2), .val (.long q1), .second, .val (.long q2), .second] [(.ref a1)])) _
    refine XS.lload X8.here hx rfl (hb hby d3_63) rfl ?_
    show Steps p.tables e below (T8.setTop (mkF m 65 #[.val (.ref a1), .val (.ref a2), .val (.long q1), .second, .val (.long q2), .second] [(.long q2), (.ref a1)])) _
    refine st12 _ ?_
    show Steps p.tables e below (T12.setTop (mkF m 68 #[.val (.ref a1), .val (.ref a2), .val (.long q1), .second, .val (.long q2), .second] [])) _
    exact k
  exact own_retV X12 hx hret hlk (hb hby d3_68) ((by rw [e12]; exact ⟨rfl, N12, K0_12, F_limit_a1_14⟩)) (by decide) (by decide)
theorem d2_0 : decode prog_16_method_1_code 0 = .ok (.aload_n 0, 1) := by decide +kernel
theorem d2_1 : decode prog_16_method_1_code 1 = .ok (.ldc 3, 2) := by decide +kernel
theorem d2_3 : decode prog_16_method_1_code 3 = .ok (.lload_n 1, 1) := by decide +kernel
theorem d2_4 : decode prog_16_method_1_code 4 = .ok (.lload_n 3, 1) := by decide +kernel
theorem d2_5 : decode prog_16_method_1_code 5 = .ok (.invokespecial 5, 3) := by decide +kernel
theorem d2_8 : decode prog_16_method_1_code 8 = .ok (.return_, 1) := by decide +kernel
theorem ef_rm2 (m : MethodId) (x0 : Addr) (x1 : Int64) (x2 : Int64) : entryFrame m #[(.ref x0), (.long x1), (.long x2)] 5 = mkF m 0 #[.val (.ref x0), .val (.long x1), .second, .val (.long x2), .second] [] := by first | (simp [entryFrame, mkF, argsToLocals, Value.category]; done) | rfl
def Q2 (Z : State) (a1 : Addr) (q1 : Int64) (q2 : Int64)  (h0 : Heap) (n0 : Nat) (v : Option Value) (h : Heap) (L : List Loc) : Prop := v = none ∧ Fr n0 L ∧ Keep h0 h [a1] ∧ Fld Z h a1 "com/example/garm/garm/WindowPolicy" "limit" "J" (.long q1)
set_option maxRecDepth 65536 in
set_option maxHeartbeats 40000000 in
theorem rm2 (l : Launch) (Z : State) (a0 : Array Value) (hw : ∀ d ∈ tables_1, d.before a0 Z = true) (ws : List Jvm.Cond) (a1 : Addr) (q1 : Int64) (q2 : Int64)  (h0 : Heap) (n0 : Nat) (Z0 : n0 ≤ h0.size) (F_algorithm : Fld Z h0 a1 "com/example/garm/garm/WindowPolicy" "algorithm" "Ljava/lang/String;" .null) (F_limit : Fld Z h0 a1 "com/example/garm/garm/WindowPolicy" "limit" "J" (.long (0 : Int64))) (F_windowNanos : Fld Z h0 a1 "com/example/garm/garm/WindowPolicy" "windowNanos" "J" (.long (0 : Int64))) (E1 : Exa Z h0 a1 "com/example/garm/garm/FixedWindowPolicy") (g1 : n0 ≤ a1) (hq1 : ¬ q1 < 1) (hq2 : ¬ q2 < 1) :
    MetFree l (⟨"com/example/garm/garm/FixedWindowPolicy", "<init>", "(JJ)V"⟩ : MethodName) (head1 (Jvm.Cond.code (⟨"com/example/garm/garm/FixedWindowPolicy", "<init>", "(JJ)V"⟩ : MethodName) prog_16_method_1_code 5 none :: ws) ({ frames := 3, cells := 2, slots := 52, locals := 41 } : Room)) (fun a U => a = #[(.ref a1), (.long q1), (.long q2)] ∧ Z.Warmed39 U.vm ∧ U.heap = h0) (fun _ _ _ _ _ => True) (fun _ U o U' => ∃ v L, o = .returned v ∧ Q2 Z a1 q1 q2  h0 n0 v U'.heap L ∧ ReturnedEndW U o U' L 2 52) := by
  refine own_bodyW (Qv := Q2 Z a1 q1 q2  h0 n0) (plainFor_of_name (by first | (simp [plainName, overriddenIn]; done) | decide +kernel)) ?_
  intro p e s m below meth c s₁ hx hby hml hret hlk hown hnm hZ X0 e0
  replace hown : s.vm.findClass "com/example/garm/garm/FixedWindowPolicy" = some m.cls := hown
  replace hnm : meth.name = "<init>" := hnm
  have N0 := Fr.nil n0
  refine own_Go.mono (T' := s₁) (f' := (mkF m 0 #[.val (.ref a1), .val (.long q1), .second, .val (.long q2), .second] [])) (fun t k => castTop (ef_rm2 m a1 q1 q2) k) ?_
  have K0_0 : Keep h0 h0 [a1] := Keep.refl _ _
  obtain ⟨as, T16, h16, k16, X16, e16, E16, hS16, hk16, hZ16, hown16, st16⟩ := ldcS (s := s) (vm0 := s.vm) X0 hx hZ hown (hw _ (List.mem_of_getElem? (i := 11) rfl)) (own_atoms hw) e0 ((State.WarmedH.refl s).since 0) (Nat.zero_le _) (g := (mkF m 1 #[.val (.ref a1), .val (.long q1), .second, .val (.long q2), .second] [(.ref a1)])) rfl (hb hby d2_1) (n := 48) (by decide) (by decide) (by decide) (by decide)
  have F_algorithm_17 := F_algorithm.ext E16
  have F_limit_18 := F_limit.ext E16
  have F_windowNanos_19 := F_windowNanos.ext E16
  have E1_20 := E1.ext E16
  have zh16 : n0 ≤ h16.size := Nat.le_trans Z0 E16.1
  have K0_16 : Keep h0 h16 [a1] := K0_0.ext E16
  obtain ⟨_, _, ⟨T21, L21, k21, n21⟩, -, X21, ⟨Lc21, hQ21, l21, y21, z21⟩, st21⟩ := X16.specialBack hx (y := (⟨"com/example/garm/garm/WindowPolicy", "<init>", "(Ljava/lang/String;JJ)V"⟩ : MethodName)) rfl hown16 (mvT hZ16 (hw _ (List.mem_of_getElem? (i := 19) rfl))) (mvT hZ16 (hw _ (List.mem_of_getElem? (i := 20) rfl))) (mvT hZ16 (hw _ (List.mem_of_getElem? (i := 23) rfl))) (by decide) (backOf (W := 0) (rm3 l Z a0 hw [] a1 as q1 q2 h16 n0 zh16 F_algorithm_17 F_limit_18 F_windowNanos_19 E1_20 g1 hq1 hq2) hZ16 (hw _ (List.mem_of_getElem? (i := 23) rfl)) (hw _ (List.mem_of_getElem? (i := 22) rfl)) (by decide) (by decide)) (g := (mkF m 5 #[.val (.ref a1), .val (.long q1), .second, .val (.long q2), .second] [(.long q2), (.long q1), (.ref as), (.ref a1)])) rfl (by rw [hml]; rfl) (Steps.refl _) (a := a1) (argsL := [(.ref as), (.long q1), (.long q2)]) (rest := []) (lenOf pd_1 rfl) rfl (by show 2 * 0 + _ ≤ _; exact Nat.le_of_eq rfl) (hb hby d2_5) (fun _ _ => ⟨rfl, e16, (by decide : 2 + 0 ≤ _), (by decide : 52 + 0 ≤ _)⟩)
  dsimp only [Pt.U, Pt.locs, Pt.cells, Pt.slots] at X21 l21 y21 z21 st21 hQ21
  subst l21 y21 z21
  obtain ⟨rfl, N21q, K21, FL21⟩ := hQ21
  have N21 := Fr.app N0 N21q
  have E1_22 := E1_20.keep K21
  have zh21 : n0 ≤ T21.heap.size := Nat.le_trans zh16 K21.1
  have K0_21 : Keep h0 T21.heap [a1] := K0_16.trans K21 (allS (Or.inl (List.mem_of_getElem? (i := 0) rfl)) all0)
  refine own_Go.mono (T' := T21) (f' := (mkF m 8 #[.val (.ref a1), .val (.long q1), .second, .val (.long q2), .second] [])) (fun t k => ?_) ?_
  · show Steps p.tables e below (s₁.setTop (mkF m 0 #[.val (.ref a1), .val (.long q1), .second, .val (.long q2), .second] [])) _
    refine XS.aloadN X0.here hx rfl (hb hby d2_0) rfl rfl ?_
    show Steps p.tables e below (s₁.setTop (mkF m 1 #[.val (.ref a1), .val (.long q1), .second, .val (.long q2), .second] [(.ref a1)])) _
    refine st16 _ ?_
    show Steps p.tables e below (T16.setTop (mkF m 3 #[.val (.ref a1), .val (.long q1), .second, .val (.long q2), .second] [(.ref as), (.ref a1)])) _
    refine XS.lloadN X16.here hx rfl (hb hby d2_3) rfl ?_
    show Steps p.tables e below (T16.setTop (mkF m 4 #[.val (.ref a1), .val (.long q1), .second, .val (.long q2), .second] [(.long q1), (.ref as), (.ref a1)])) _
    refine XS.lloadN X16.here hx rfl (hb hby d2_4) rfl ?_
    show Steps p.tables e below (T16.setTop (mkF m 5 #[.val (.ref a1), .val (.long q1), .second, .val (.long q2), .second] [(.long q2), (.long q1), (.ref as), (.ref a1)])) _
    refine st21.trans ?_
    show Steps p.tables e below (T21.setTop (mkF m 8 #[.val (.ref a1), .val (.long q1), .second, .val (.long q2), .second] [])) _
    exact k
  exact own_retVW X21 hx hret hlk (hb hby d2_8) (⟨rfl, N21, K0_21, FL21⟩) (by decide) (by decide) hS16 (Nat.le_trans hk16 K21.1)
theorem d6_0 : decode prog_55_method_7_code 0 = .ok (.lload_n 3, 1) := by decide +kernel
theorem d6_1 : decode prog_55_method_7_code 1 = .ok (.aload_n 0, 1) := by decide +kernel
theorem d6_2 : decode prog_55_method_7_code 2 = .ok (.getfield 37, 3) := by decide +kernel
theorem d6_5 : decode prog_55_method_7_code 5 = .ok (.lload_n 1, 1) := by decide +kernel
theorem d6_6 : decode prog_55_method_7_code 6 = .ok (.lsub, 1) := by decide +kernel
theorem d6_7 : decode prog_55_method_7_code 7 = .ok (.lcmp, 1) := by decide +kernel
theorem d6_8 : decode prog_55_method_7_code 8 = .ok (.ifCond .gt 7, 3) := by decide +kernel
theorem d6_11 : decode prog_55_method_7_code 11 = .ok (.iconst 1, 1) := by decide +kernel
theorem d6_12 : decode prog_55_method_7_code 12 = .ok (.goto 4, 3) := by decide +kernel
theorem d6_15 : decode prog_55_method_7_code 15 = .ok (.iconst 0, 1) := by decide +kernel
theorem d6_16 : decode prog_55_method_7_code 16 = .ok (.ireturn, 1) := by decide +kernel
theorem ef_rm6 (m : MethodId) (x0 : Addr) (x1 : Int64) (x2 : Int64) : entryFrame m #[(.ref x0), (.long x1), (.long x2)] 5 = mkF m 0 #[.val (.ref x0), .val (.long x1), .second, .val (.long x2), .second] [] := by first | (simp [entryFrame, mkF, argsToLocals, Value.category]; done) | rfl
def Q6 (Z : State) (a1 : Addr) (q1 : Int64) (q2 : Int64) (lim : Int64) (r : Int32) (h0 : Heap) (n0 : Nat) (v : Option Value) (h : Heap) (L : List Loc) : Prop := v = some (.int r) ∧ Fr n0 L ∧ h = h0
set_option maxRecDepth 65536 in
set_option maxHeartbeats 40000000 in
theorem rm6 (l : Launch) (Z : State) (a0 : Array Value) (hw : ∀ d ∈ tables_1, d.before a0 Z = true) (ws : List Jvm.Cond) (a1 : Addr) (q1 : Int64) (q2 : Int64) (lim : Int64) (r : Int32) (h0 : Heap) (n0 : Nat) (Z0 : n0 ≤ h0.size) (F1 : Fld Z h0 a1 "com/example/garm/garm/WindowPolicy" "limit" "J" (.long lim)) (hr : ((lim - q1) < q2 ∧ r = 0) ∨ (¬ (lim - q1) < q2 ∧ r = 1)) :
    MetFree l (⟨"com/example/garm/garm/WindowPolicy", "leavesRoom", "(JJ)Z"⟩ : MethodName) (head1 (Jvm.Cond.code (⟨"com/example/garm/garm/WindowPolicy", "leavesRoom", "(JJ)Z"⟩ : MethodName) prog_55_method_7_code 5 (some .boolean) :: ws) ({ frames := 0, cells := 0, slots := 0, locals := 0 } : Room)) (fun a U => a = #[(.ref a1), (.long q1), (.long q2)] ∧ Z.Warmed39 U.vm ∧ U.heap = h0) (fun _ _ _ _ _ => True) (fun _ U o U' => ∃ v L, o = .returned v ∧ Q6 Z a1 q1 q2 lim r h0 n0 v U'.heap L ∧ FrameEnd U o U' L 0 0) := by
  refine own_body (Qv := Q6 Z a1 q1 q2 lim r h0 n0) (plainFor_of_name (by first | (simp [plainName, overriddenIn]; done) | decide +kernel)) ?_
  intro p e s m below meth c s₁ hx hby hml hret hlk hown hnm hZ X0 e0
  replace hown : s.vm.findClass "com/example/garm/garm/WindowPolicy" = some m.cls := hown
  replace hnm : meth.name = "leavesRoom" := hnm
  have N0 := Fr.nil n0
  refine own_Go.mono (T' := s₁) (f' := (mkF m 0 #[.val (.ref a1), .val (.long q1), .second, .val (.long q2), .second] [])) (fun t k => castTop (ef_rm6 m a1 q1 q2) k) ?_
  obtain ⟨T23, X23, e23, st23⟩ := getF X0 hx hZ hown (host := "") (Or.inl (hw _ (List.mem_of_getElem? (i := 34) rfl))) Via.refl e0 F1 (g := (mkF m 2 #[.val (.ref a1), .val (.long q1), .second, .val (.long q2), .second] [(.ref a1), (.long q2)])) rfl rfl (hb hby d6_2)
  refine own_Go.mono (T' := T23) (f' := (mkF m 8 #[.val (.ref a1), .val (.long q1), .second, .val (.long q2), .second] [(.int (lcmpW q2 (lim - q1)))])) (fun t k => ?_) ?_
  · show Steps p.tables e below (s₁.setTop (mkF m 0 #[.val (.ref a1), .val (.long q1), .second, .val (.long q2), .second] [])) _
    refine XS.lloadN X0.here hx rfl (hb hby d6_0) rfl ?_
    show Steps p.tables e below (s₁.setTop (mkF m 1 #[.val (.ref a1), .val (.long q1), .second, .val (.long q2), .second] [(.long q2)])) _
    refine XS.aloadN X0.here hx rfl (hb hby d6_1) rfl rfl ?_
    show Steps p.tables e below (s₁.setTop (mkF m 2 #[.val (.ref a1), .val (.long q1), .second, .val (.long q2), .second] [(.ref a1), (.long q2)])) _
    refine st23 _ ?_
    show Steps p.tables e below (T23.setTop (mkF m 5 #[.val (.ref a1), .val (.long q1), .second, .val (.long q2), .second] [(.long lim), (.long q2)])) _
    refine XS.lloadN X23.here hx rfl (hb hby d6_5) rfl ?_
    show Steps p.tables e below (T23.setTop (mkF m 6 #[.val (.ref a1), .val (.long q1), .second, .val (.long q2), .second] [(.long q1), (.long lim), (.long q2)])) _
    refine XS.lsub X23.here hx rfl (hb hby d6_6) rfl ?_
    show Steps p.tables e below (T23.setTop (mkF m 7 #[.val (.ref a1), .val (.long q1), .second, .val (.long q2), .second] [(.long (lim - q1)), (.long q2)])) _
    refine XS.lcmp X23.here hx rfl (hb hby d6_7) rfl ?_
    show Steps p.tables e below (T23.setTop (mkF m 8 #[.val (.ref a1), .val (.long q1), .second, .val (.long q2), .second] [(.int (lcmpW q2 (lim - q1)))])) _
    exact k
  rcases hr with ⟨hlt, hr⟩ | ⟨hlt, hr⟩
  · refine own_Go.mono (T' := T23) (f' := (mkF m 16 #[.val (.ref a1), .val (.long q1), .second, .val (.long q2), .second] [(.int (0 : Int32))])) (fun t k => ?_) ?_
    · show Steps p.tables e below (T23.setTop (mkF m 8 #[.val (.ref a1), .val (.long q1), .second, .val (.long q2), .second] [(.int (lcmpW q2 (lim - q1)))])) _
      refine XS.ifYes X23.here hx rfl (pc0 := 8) (pc' := 15) rfl (hb hby d6_8) rfl ((if0 _ _).trans (tlt (own_gt.mpr hlt)).2.2.1) (by decide) (by decide) ?_
      show Steps p.tables e below (T23.setTop (mkF m 15 #[.val (.ref a1), .val (.long q1), .second, .val (.long q2), .second] [])) _
      refine XS.iconst X23.here hx rfl (hb hby d6_15) ?_
      show Steps p.tables e below (T23.setTop (mkF m 16 #[.val (.ref a1), .val (.long q1), .second, .val (.long q2), .second] [(.int (0 : Int32))])) _
      exact k
    exact own_retN X23 hx (t := .boolean) hret (by simp) hlk (hb hby d6_16) (⟨by rw [hr]; rfl, N0, e23⟩) (by decide) (by decide)
  · refine own_Go.mono (T' := T23) (f' := (mkF m 16 #[.val (.ref a1), .val (.long q1), .second, .val (.long q2), .second] [(.int (1 : Int32))])) (fun t k => ?_) ?_
    · show Steps p.tables e below (T23.setTop (mkF m 8 #[.val (.ref a1), .val (.long q1), .second, .val (.long q2), .second] [(.int (lcmpW q2 (lim - q1)))])) _
      refine XS.ifNo X23.here hx rfl (hb hby d6_8) rfl ((if0 _ _).trans (flt (mt own_gt.mp hlt)).2.2.1) ?_
      show Steps p.tables e below (T23.setTop (mkF m 11 #[.val (.ref a1), .val (.long q1), .second, .val (.long q2), .second] [])) _
      refine XS.iconst X23.here hx rfl (hb hby d6_11) ?_
      show Steps p.tables e below (T23.setTop (mkF m 12 #[.val (.ref a1), .val (.long q1), .second, .val (.long q2), .second] [(.int (1 : Int32))])) _
      refine XS.goto X23.here hx rfl (pc0 := 12) (pc' := 16) rfl (hb hby d6_12) (by decide) (by decide) ?_
      show Steps p.tables e below (T23.setTop (mkF m 16 #[.val (.ref a1), .val (.long q1), .second, .val (.long q2), .second] [(.int (1 : Int32))])) _
      exact k
    exact own_retN X23 hx (t := .boolean) hret (by simp) hlk (hb hby d6_16) (⟨by rw [hr]; rfl, N0, e23⟩) (by decide) (by decide)
theorem ef_rm0 (m : MethodId) (x0 : Int64) (x1 : Int64) (x2 : Int64) (x3 : Int64) : entryFrame m #[(.long x0), (.long x1), (.long x2), (.long x3)] maxLocals = mkF m 0 #[.val (.long x0), .second, .val (.long x1), .second, .val (.long x2), .second, .val (.long x3), .second, .unset, .unset, .unset, .unset, .unset, .unset, .unset, .unset, .unset, .unset, .unset, .unset, .unset, .unset, .unset] [] := by first | (simp [entryFrame, mkF, argsToLocals, Value.category, maxLocals]; done) | rfl
def Q0 (Z : State) (q0 : Int64) (q1 : Int64) (q2 : Int64) (q3 : Int64)  (h0 : Heap) (n0 : Nat) (v : Option Value) (h : Heap) (L : List Loc) : Prop := v = some (.int 1) ∧ Fr n0 L
set_option maxRecDepth 65536 in
set_option maxHeartbeats 40000000 in
theorem rm0 (l : Launch) (Z : State) (a0 : Array Value) (hw : ∀ d ∈ tables_1, d.before a0 Z = true) (ws : List Jvm.Cond) (q0 : Int64) (q1 : Int64) (q2 : Int64) (q3 : Int64)  (h0 : Heap) (n0 : Nat) (Z0 : n0 ≤ h0.size)  :
    MetFree l x (head1 (Jvm.Cond.code x code maxLocals ret :: ws) room_1) (fun a U => a = #[(.long q0), (.long q1), (.long q2), (.long q3)] ∧ Z.Warmed39 U.vm ∧ U.heap = h0) (fun _ _ _ _ _ => True) (fun _ U o U' => ∃ v L, o = .returned v ∧ Q0 Z q0 q1 q2 q3  h0 n0 v U'.heap L ∧ ReturnedEndW U o U' L 16 1152) := by
  refine own_bodyW (Qv := Q0 Z q0 q1 q2 q3  h0 n0) (plainFor_of_name (by first | (simp [plainName, overriddenIn]; done) | decide +kernel)) ?_
  intro p e s m below meth c s₁ hx hby hml hret hlk hown hnm hZ X0 e0
  replace hown : s.vm.findClass "com/example/garm/garm/WindowPolicyLeavesRoomPinLaw" = some m.cls := hown
  replace hnm : meth.name = "law" := hnm
  have N0 := Fr.nil n0
  replace hml : c.maxLocals = 23 := hml
  refine own_Go.mono (T' := s₁) (f' := (mkF m 0 #[.val (.long q0), .second, .val (.long q1), .second, .val (.long q2), .second, .val (.long q3), .second, .unset, .unset, .unset, .unset, .unset, .unset, .unset, .unset, .unset, .unset, .unset, .unset, .unset, .unset, .unset] [])) (fun t k => castTop (ef_rm0 m q0 q1 q2 q3) k) ?_
  obtain ⟨_, _, ⟨T24, L24, k24, n24⟩, -, X24, ⟨Lc24, hQ24, l24, y24, z24⟩, st24⟩ := Jvm.LawKit.callS X0 hx (y := (⟨"java/lang/Math", "max", "(JJ)J"⟩ : MethodName)) hown (mvT hZ (hw _ (List.mem_of_getElem? (i := 1) rfl))) (mvT hZ (hw _ (List.mem_of_getElem? (i := 2) rfl))) (mvT hZ (hw _ (List.mem_of_getElem? (i := 3) rfl))) (mvT hZ (hw _ (List.mem_of_getElem? (i := 4) rfl))) (by decide) (backOf (W := 0) (rm1 l Z a0 hw [] (1 : Int64) (q0 &&& (9223372036854775807 : Int64)) h0 n0 Z0) hZ (hw _ (List.mem_of_getElem? (i := 4) rfl)) (hw _ (List.mem_of_getElem? (i := 3) rfl)) (by decide) (by decide)) (g := (mkF m 6 #[.val (.long q0), .second, .val (.long q1), .second, .val (.long q2), .second, .val (.long q3), .second, .unset, .unset, .unset, .unset, .unset, .unset, .unset, .unset, .unset, .unset, .unset, .unset, .unset, .unset, .unset] [(.long (q0 &&& (9223372036854775807 : Int64))), (.long (1 : Int64))])) rfl (by rw [hml]; rfl) (argsL := [(.long (1 : Int64)), (.long (q0 &&& (9223372036854775807 : Int64)))]) (rest := []) (lenOf pd_2 rfl) rfl (by show 2 * 0 + _ ≤ _; exact Nat.le_of_eq rfl) (hb hby at_6) (fun _ _ => ⟨rfl, e0, (by decide : 0 + 0 ≤ _), (by decide : 0 + 0 ≤ _)⟩)
  dsimp only [Pt.U, Pt.locs, Pt.cells, Pt.slots] at X24 l24 y24 z24 st24 hQ24
  subst l24 y24 z24
  obtain ⟨rfl, N24q, hh24⟩ := hQ24
  have N24 := Fr.app N0 N24q
  refine own_Go.mono (T' := T24) (f' := (mkF m 9 #[.val (.long q0), .second, .val (.long q1), .second, .val (.long q2), .second, .val (.long q3), .second, .unset, .unset, .unset, .unset, .unset, .unset, .unset, .unset, .unset, .unset, .unset, .unset, .unset, .unset, .unset] [(.long (B1_0 (1 : Int64) (q0 &&& (9223372036854775807 : Int64))))])) (fun t k => ?_) ?_
  · show Steps p.tables e below (s₁.setTop (mkF m 0 #[.val (.long q0), .second, .val (.long q1), .second, .val (.long q2), .second, .val (.long q3), .second, .unset, .unset, .unset, .unset, .unset, .unset, .unset, .unset, .unset, .unset, .unset, .unset, .unset, .unset, .unset] [])) _
    refine XS.lconst X0.here hx rfl (hb hby at_0) ?_
    show Steps p.tables e below (s₁.setTop (mkF m 1 #[.val (.long q0), .second, .val (.long q1), .second, .val (.long q2), .second, .val (.long q3), .second, .unset, .unset, .unset, .unset, .unset, .unset, .unset, .unset, .unset, .unset, .unset, .unset, .unset, .unset, .unset] [(.long (1 : Int64))])) _
    refine XS.lloadN X0.here hx rfl (hb hby at_1) rfl ?_
    show Steps p.tables e below (s₁.setTop (mkF m 2 #[.val (.long q0), .second, .val (.long q1), .second, .val (.long q2), .second, .val (.long q3), .second, .unset, .unset, .unset, .unset, .unset, .unset, .unset, .unset, .unset, .unset, .unset, .unset, .unset, .unset, .unset] [(.long q0), (.long (1 : Int64))])) _
    refine X0.ldc2Long hx hown (mvT hZ (hw _ (List.mem_of_getElem? (i := 0) rfl))) (g := (mkF m 2 #[.val (.long q0), .second, .val (.long q1), .second, .val (.long q2), .second, .val (.long q3), .second, .unset, .unset, .unset, .unset, .unset, .unset, .unset, .unset, .unset, .unset, .unset, .unset, .unset, .unset, .unset] [(.long q0), (.long (1 : Int64))])) rfl (hb hby at_2) _ ?_
    show Steps p.tables e below (s₁.setTop (mkF m 5 #[.val (.long q0), .second, .val (.long q1), .second, .val (.long q2), .second, .val (.long q3), .second, .unset, .unset, .unset, .unset, .unset, .unset, .unset, .unset, .unset, .unset, .unset, .unset, .unset, .unset, .unset] [(.long (9223372036854775807 : Int64)), (.long q0), (.long (1 : Int64))])) _
    refine XS.land X0.here hx rfl (hb hby at_5) rfl ?_
    show Steps p.tables e below (s₁.setTop (mkF m 6 #[.val (.long q0), .second, .val (.long q1), .second, .val (.long q2), .second, .val (.long q3), .second, .unset, .unset, .unset, .unset, .unset, .unset, .unset, .unset, .unset, .unset, .unset, .unset, .unset, .unset, .unset] [(.long (q0 &&& (9223372036854775807 : Int64))), (.long (1 : Int64))])) _
    refine st24 _ ?_
    show Steps p.tables e below (T24.setTop (mkF m 9 #[.val (.long q0), .second, .val (.long q1), .second, .val (.long q2), .second, .val (.long q3), .second, .unset, .unset, .unset, .unset, .unset, .unset, .unset, .unset, .unset, .unset, .unset, .unset, .unset, .unset, .unset] [(.long (B1_0 (1 : Int64) (q0 &&& (9223372036854775807 : Int64))))])) _
    exact k
  obtain ⟨lim, e_lim, p_lim⟩ : ∃ z : Int64, (B1_0 (1 : Int64) (q0 &&& (9223372036854775807 : Int64))) = z ∧ 1 ≤ z.toInt := ⟨_, rfl, own_max1 _⟩
  rw [show (B1_0 (1 : Int64) (q0 &&& (9223372036854775807 : Int64))) = lim from e_lim]
  obtain ⟨_, _, ⟨T25, L25, k25, n25⟩, -, X25, ⟨Lc25, hQ25, l25, y25, z25⟩, st25⟩ := Jvm.LawKit.callS X24 hx (y := (⟨"java/lang/Math", "max", "(JJ)J"⟩ : MethodName)) hown (mvT hZ (hw _ (List.mem_of_getElem? (i := 1) rfl))) (mvT hZ (hw _ (List.mem_of_getElem? (i := 2) rfl))) (mvT hZ (hw _ (List.mem_of_getElem? (i := 3) rfl))) (mvT hZ (hw _ (List.mem_of_getElem? (i := 4) rfl))) (by decide) (backOf (W := 0) (rm1 l Z a0 hw [] (1 : Int64) (q3 &&& (9223372036854775807 : Int64)) h0 n0 Z0) hZ (hw _ (List.mem_of_getElem? (i := 4) rfl)) (hw _ (List.mem_of_getElem? (i := 3) rfl)) (by decide) (by decide)) (g := (mkF m 18 #[.val (.long q0), .second, .val (.long q1), .second, .val (.long q2), .second, .val (.long q3), .second, .val (.long lim), .second, .unset, .unset, .unset, .unset, .unset, .unset, .unset, .unset, .unset, .unset, .unset, .unset, .unset] [(.long (q3 &&& (9223372036854775807 : Int64))), (.long (1 : Int64))])) rfl (by rw [hml]; rfl) (argsL := [(.long (1 : Int64)), (.long (q3 &&& (9223372036854775807 : Int64)))]) (rest := []) (lenOf pd_2 rfl) rfl (by show 2 * 0 + _ ≤ _; exact Nat.le_of_eq rfl) (hb hby at_18) (fun _ _ => ⟨rfl, hh24, (by decide : 0 + 0 ≤ _), (by decide : 0 + 0 ≤ _)⟩)
  dsimp only [Pt.U, Pt.locs, Pt.cells, Pt.slots] at X25 l25 y25 z25 st25 hQ25
  subst l25 y25 z25
  obtain ⟨rfl, N25q, hh25⟩ := hQ25
  have N25 := Fr.app N24 N25q
  refine own_Go.mono (T' := T25) (f' := (mkF m 21 #[.val (.long q0), .second, .val (.long q1), .second, .val (.long q2), .second, .val (.long q3), .second, .val (.long lim), .second, .unset, .unset, .unset, .unset, .unset, .unset, .unset, .unset, .unset, .unset, .unset, .unset, .unset] [(.long (B1_0 (1 : Int64) (q3 &&& (9223372036854775807 : Int64))))])) (fun t k => ?_) ?_
  · show Steps p.tables e below (T24.setTop (mkF m 9 #[.val (.long q0), .second, .val (.long q1), .second, .val (.long q2), .second, .val (.long q3), .second, .unset, .unset, .unset, .unset, .unset, .unset, .unset, .unset, .unset, .unset, .unset, .unset, .unset, .unset, .unset] [(.long lim)])) _
    refine XS.lstore X24.here hx rfl (hb hby at_9) rfl (l' := #[.val (.long q0), .second, .val (.long q1), .second, .val (.long q2), .second, .val (.long q3), .second, .val (.long lim), .second, .unset, .unset, .unset, .unset, .unset, .unset, .unset, .unset, .unset, .unset, .unset, .unset, .unset]) rfl ?_
    show Steps p.tables e below (T24.setTop (mkF m 11 #[.val (.long q0), .second, .val (.long q1), .second, .val (.long q2), .second, .val (.long q3), .second, .val (.long lim), .second, .unset, .unset, .unset, .unset, .unset, .unset, .unset, .unset, .unset, .unset, .unset, .unset, .unset] [])) _
    refine XS.lconst X24.here hx rfl (hb hby at_11) ?_
    show Steps p.tables e below (T24.setTop (mkF m 12 #[.val (.long q0), .second, .val (.long q1), .second, .val (.long q2), .second, .val (.long q3), .second, .val (.long lim), .second, .unset, .unset, .unset, .unset, .unset, .unset, .unset, .unset, .unset, .unset, .unset, .unset, .unset] [(.long (1 : Int64))])) _
    refine XS.lload X24.here hx rfl (hb hby at_12) rfl ?_
    show Steps p.tables e below (T24.setTop (mkF m 14 #[.val (.long q0), .second, .val (.long q1), .second, .val (.long q2), .second, .val (.long q3), .second, .val (.long lim), .second, .unset, .unset, .unset, .unset, .unset, .unset, .unset, .unset, .unset, .unset, .unset, .unset, .unset] [(.long q3), (.long (1 : Int64))])) _
    refine X24.ldc2Long hx hown (mvT hZ (hw _ (List.mem_of_getElem? (i := 0) rfl))) (g := (mkF m 14 #[.val (.long q0), .second, .val (.long q1), .second, .val (.long q2), .second, .val (.long q3), .second, .val (.long lim), .second, .unset, .unset, .unset, .unset, .unset, .unset, .unset, .unset, .unset, .unset, .unset, .unset, .unset] [(.long q3), (.long (1 : Int64))])) rfl (hb hby at_14) _ ?_
    show Steps p.tables e below (T24.setTop (mkF m 17 #[.val (.long q0), .second, .val (.long q1), .second, .val (.long q2), .second, .val (.long q3), .second, .val (.long lim), .second, .unset, .unset, .unset, .unset, .unset, .unset, .unset, .unset, .unset, .unset, .unset, .unset, .unset] [(.long (9223372036854775807 : Int64)), (.long q3), (.long (1 : Int64))])) _
    refine XS.land X24.here hx rfl (hb hby at_17) rfl ?_
    show Steps p.tables e below (T24.setTop (mkF m 18 #[.val (.long q0), .second, .val (.long q1), .second, .val (.long q2), .second, .val (.long q3), .second, .val (.long lim), .second, .unset, .unset, .unset, .unset, .unset, .unset, .unset, .unset, .unset, .unset, .unset, .unset, .unset] [(.long (q3 &&& (9223372036854775807 : Int64))), (.long (1 : Int64))])) _
    refine st25 _ ?_
    show Steps p.tables e below (T25.setTop (mkF m 21 #[.val (.long q0), .second, .val (.long q1), .second, .val (.long q2), .second, .val (.long q3), .second, .val (.long lim), .second, .unset, .unset, .unset, .unset, .unset, .unset, .unset, .unset, .unset, .unset, .unset, .unset, .unset] [(.long (B1_0 (1 : Int64) (q3 &&& (9223372036854775807 : Int64))))])) _
    exact k
  obtain ⟨win, e_win, p_win⟩ : ∃ z : Int64, (B1_0 (1 : Int64) (q3 &&& (9223372036854775807 : Int64))) = z ∧ 1 ≤ z.toInt := ⟨_, rfl, own_max1 _⟩
  rw [show (B1_0 (1 : Int64) (q3 &&& (9223372036854775807 : Int64))) = win from e_win]
  refine own_Go.mono (T' := T25) (f' := (mkF m 34 #[.val (.long q0), .second, .val (.long q1), .second, .val (.long q2), .second, .val (.long q3), .second, .val (.long lim), .second, .val (.long win), .second, .unset, .unset, .unset, .unset, .unset, .unset, .unset, .unset, .unset, .unset, .unset] [(.long ((1 : Int64) + ((q2 &&& (9223372036854775807 : Int64)) % lim)))])) (fun t k => ?_) ?_
  · show Steps p.tables e below (T25.setTop (mkF m 21 #[.val (.long q0), .second, .val (.long q1), .second, .val (.long q2), .second, .val (.long q3), .second, .val (.long lim), .second, .unset, .unset, .unset, .unset, .unset, .unset, .unset, .unset, .unset, .unset, .unset, .unset, .unset] [(.long win)])) _
    refine XS.lstore X25.here hx rfl (hb hby at_21) rfl (l' := #[.val (.long q0), .second, .val (.long q1), .second, .val (.long q2), .second, .val (.long q3), .second, .val (.long lim), .second, .val (.long win), .second, .unset, .unset, .unset, .unset, .unset, .unset, .unset, .unset, .unset, .unset, .unset]) rfl ?_
    show Steps p.tables e below (T25.setTop (mkF m 23 #[.val (.long q0), .second, .val (.long q1), .second, .val (.long q2), .second, .val (.long q3), .second, .val (.long lim), .second, .val (.long win), .second, .unset, .unset, .unset, .unset, .unset, .unset, .unset, .unset, .unset, .unset, .unset] [])) _
    refine XS.lconst X25.here hx rfl (hb hby at_23) ?_
    show Steps p.tables e below (T25.setTop (mkF m 24 #[.val (.long q0), .second, .val (.long q1), .second, .val (.long q2), .second, .val (.long q3), .second, .val (.long lim), .second, .val (.long win), .second, .unset, .unset, .unset, .unset, .unset, .unset, .unset, .unset, .unset, .unset, .unset] [(.long (1 : Int64))])) _
    refine XS.lload X25.here hx rfl (hb hby at_24) rfl ?_
    show Steps p.tables e below (T25.setTop (mkF m 26 #[.val (.long q0), .second, .val (.long q1), .second, .val (.long q2), .second, .val (.long q3), .second, .val (.long lim), .second, .val (.long win), .second, .unset, .unset, .unset, .unset, .unset, .unset, .unset, .unset, .unset, .unset, .unset] [(.long q2), (.long (1 : Int64))])) _
    refine X25.ldc2Long hx hown (mvT hZ (hw _ (List.mem_of_getElem? (i := 0) rfl))) (g := (mkF m 26 #[.val (.long q0), .second, .val (.long q1), .second, .val (.long q2), .second, .val (.long q3), .second, .val (.long lim), .second, .val (.long win), .second, .unset, .unset, .unset, .unset, .unset, .unset, .unset, .unset, .unset, .unset, .unset] [(.long q2), (.long (1 : Int64))])) rfl (hb hby at_26) _ ?_
    show Steps p.tables e below (T25.setTop (mkF m 29 #[.val (.long q0), .second, .val (.long q1), .second, .val (.long q2), .second, .val (.long q3), .second, .val (.long lim), .second, .val (.long win), .second, .unset, .unset, .unset, .unset, .unset, .unset, .unset, .unset, .unset, .unset, .unset] [(.long (9223372036854775807 : Int64)), (.long q2), (.long (1 : Int64))])) _
    refine XS.land X25.here hx rfl (hb hby at_29) rfl ?_
    show Steps p.tables e below (T25.setTop (mkF m 30 #[.val (.long q0), .second, .val (.long q1), .second, .val (.long q2), .second, .val (.long q3), .second, .val (.long lim), .second, .val (.long win), .second, .unset, .unset, .unset, .unset, .unset, .unset, .unset, .unset, .unset, .unset, .unset] [(.long (q2 &&& (9223372036854775807 : Int64))), (.long (1 : Int64))])) _
    refine XS.lload X25.here hx rfl (hb hby at_30) rfl ?_
    show Steps p.tables e below (T25.setTop (mkF m 32 #[.val (.long q0), .second, .val (.long q1), .second, .val (.long q2), .second, .val (.long q3), .second, .val (.long lim), .second, .val (.long win), .second, .unset, .unset, .unset, .unset, .unset, .unset, .unset, .unset, .unset, .unset, .unset] [(.long lim), (.long (q2 &&& (9223372036854775807 : Int64))), (.long (1 : Int64))])) _
    refine own_lremM X25 hx rfl (hb hby at_32) rfl (own_nz p_lim) ?_
    show Steps p.tables e below (T25.setTop (mkF m 33 #[.val (.long q0), .second, .val (.long q1), .second, .val (.long q2), .second, .val (.long q3), .second, .val (.long lim), .second, .val (.long win), .second, .unset, .unset, .unset, .unset, .unset, .unset, .unset, .unset, .unset, .unset, .unset] [(.long ((q2 &&& (9223372036854775807 : Int64)) % lim)), (.long (1 : Int64))])) _
    refine XS.ladd X25.here hx rfl (hb hby at_33) rfl ?_
    show Steps p.tables e below (T25.setTop (mkF m 34 #[.val (.long q0), .second, .val (.long q1), .second, .val (.long q2), .second, .val (.long q3), .second, .val (.long lim), .second, .val (.long win), .second, .unset, .unset, .unset, .unset, .unset, .unset, .unset, .unset, .unset, .unset, .unset] [(.long ((1 : Int64) + ((q2 &&& (9223372036854775807 : Int64)) % lim)))])) _
    exact k
  obtain ⟨per, e_per, p_per⟩ : ∃ z : Int64, ((1 : Int64) + ((q2 &&& (9223372036854775807 : Int64)) % lim)) = z ∧ 1 ≤ z.toInt ∧ z.toInt ≤ lim.toInt := ⟨_, rfl, own_per _ p_lim⟩
  rw [show ((1 : Int64) + ((q2 &&& (9223372036854775807 : Int64)) % lim)) = per from e_per]
  refine own_Go.mono (T' := T25) (f' := (mkF m 44 #[.val (.long q0), .second, .val (.long q1), .second, .val (.long q2), .second, .val (.long q3), .second, .val (.long lim), .second, .val (.long win), .second, .val (.long per), .second, .unset, .unset, .unset, .unset, .unset, .unset, .unset, .unset, .unset] [(.long ((q1 &&& (9223372036854775807 : Int64)) % lim))])) (fun t k => ?_) ?_
  · show Steps p.tables e below (T25.setTop (mkF m 34 #[.val (.long q0), .second, .val (.long q1), .second, .val (.long q2), .second, .val (.long q3), .second, .val (.long lim), .second, .val (.long win), .second, .unset, .unset, .unset, .unset, .unset, .unset, .unset, .unset, .unset, .unset, .unset] [(.long per)])) _
    refine XS.lstore X25.here hx rfl (hb hby at_34) rfl (l' := #[.val (.long q0), .second, .val (.long q1), .second, .val (.long q2), .second, .val (.long q3), .second, .val (.long lim), .second, .val (.long win), .second, .val (.long per), .second, .unset, .unset, .unset, .unset, .unset, .unset, .unset, .unset, .unset]) rfl ?_
    show Steps p.tables e below (T25.setTop (mkF m 36 #[.val (.long q0), .second, .val (.long q1), .second, .val (.long q2), .second, .val (.long q3), .second, .val (.long lim), .second, .val (.long win), .second, .val (.long per), .second, .unset, .unset, .unset, .unset, .unset, .unset, .unset, .unset, .unset] [])) _
    refine XS.lloadN X25.here hx rfl (hb hby at_36) rfl ?_
    show Steps p.tables e below (T25.setTop (mkF m 37 #[.val (.long q0), .second, .val (.long q1), .second, .val (.long q2), .second, .val (.long q3), .second, .val (.long lim), .second, .val (.long win), .second, .val (.long per), .second, .unset, .unset, .unset, .unset, .unset, .unset, .unset, .unset, .unset] [(.long q1)])) _
    refine X25.ldc2Long hx hown (mvT hZ (hw _ (List.mem_of_getElem? (i := 0) rfl))) (g := (mkF m 37 #[.val (.long q0), .second, .val (.long q1), .second, .val (.long q2), .second, .val (.long q3), .second, .val (.long lim), .second, .val (.long win), .second, .val (.long per), .second, .unset, .unset, .unset, .unset, .unset, .unset, .unset, .unset, .unset] [(.long q1)])) rfl (hb hby at_37) _ ?_
    show Steps p.tables e below (T25.setTop (mkF m 40 #[.val (.long q0), .second, .val (.long q1), .second, .val (.long q2), .second, .val (.long q3), .second, .val (.long lim), .second, .val (.long win), .second, .val (.long per), .second, .unset, .unset, .unset, .unset, .unset, .unset, .unset, .unset, .unset] [(.long (9223372036854775807 : Int64)), (.long q1)])) _
    refine XS.land X25.here hx rfl (hb hby at_40) rfl ?_
    show Steps p.tables e below (T25.setTop (mkF m 41 #[.val (.long q0), .second, .val (.long q1), .second, .val (.long q2), .second, .val (.long q3), .second, .val (.long lim), .second, .val (.long win), .second, .val (.long per), .second, .unset, .unset, .unset, .unset, .unset, .unset, .unset, .unset, .unset] [(.long (q1 &&& (9223372036854775807 : Int64)))])) _
    refine XS.lload X25.here hx rfl (hb hby at_41) rfl ?_
    show Steps p.tables e below (T25.setTop (mkF m 43 #[.val (.long q0), .second, .val (.long q1), .second, .val (.long q2), .second, .val (.long q3), .second, .val (.long lim), .second, .val (.long win), .second, .val (.long per), .second, .unset, .unset, .unset, .unset, .unset, .unset, .unset, .unset, .unset] [(.long lim), (.long (q1 &&& (9223372036854775807 : Int64)))])) _
    refine own_lremM X25 hx rfl (hb hby at_43) rfl (own_nz p_lim) ?_
    show Steps p.tables e below (T25.setTop (mkF m 44 #[.val (.long q0), .second, .val (.long q1), .second, .val (.long q2), .second, .val (.long q3), .second, .val (.long lim), .second, .val (.long win), .second, .val (.long per), .second, .unset, .unset, .unset, .unset, .unset, .unset, .unset, .unset, .unset] [(.long ((q1 &&& (9223372036854775807 : Int64)) % lim))])) _
    exact k
  obtain ⟨cn, e_cn, p_cn⟩ : ∃ z : Int64, ((q1 &&& (9223372036854775807 : Int64)) % lim) = z ∧ 0 ≤ z.toInt ∧ z.toInt < lim.toInt := ⟨_, rfl, own_cn _ p_lim⟩
  rw [show ((q1 &&& (9223372036854775807 : Int64)) % lim) = cn from e_cn]
  refine own_Go.mono (T' := T25) (f' := (mkF m 46 #[.val (.long q0), .second, .val (.long q1), .second, .val (.long q2), .second, .val (.long q3), .second, .val (.long lim), .second, .val (.long win), .second, .val (.long per), .second, .val (.long cn), .second, .unset, .unset, .unset, .unset, .unset, .unset, .unset] [])) (fun t k => ?_) ?_
  · show Steps p.tables e below (T25.setTop (mkF m 44 #[.val (.long q0), .second, .val (.long q1), .second, .val (.long q2), .second, .val (.long q3), .second, .val (.long lim), .second, .val (.long win), .second, .val (.long per), .second, .unset, .unset, .unset, .unset, .unset, .unset, .unset, .unset, .unset] [(.long cn)])) _
    refine XS.lstore X25.here hx rfl (hb hby at_44) rfl (l' := #[.val (.long q0), .second, .val (.long q1), .second, .val (.long q2), .second, .val (.long q3), .second, .val (.long lim), .second, .val (.long win), .second, .val (.long per), .second, .val (.long cn), .second, .unset, .unset, .unset, .unset, .unset, .unset, .unset]) rfl ?_
    show Steps p.tables e below (T25.setTop (mkF m 46 #[.val (.long q0), .second, .val (.long q1), .second, .val (.long q2), .second, .val (.long q3), .second, .val (.long lim), .second, .val (.long win), .second, .val (.long per), .second, .val (.long cn), .second, .unset, .unset, .unset, .unset, .unset, .unset, .unset] [])) _
    exact k
  have main : ∀ (cnt : Int64), 0 ≤ cnt.toInt → cnt.toInt ≤ lim.toInt → own_Go p e below T25 (mkF m 58 #[.val (.long q0), .second, .val (.long q1), .second, .val (.long q2), .second, .val (.long q3), .second, .val (.long lim), .second, .val (.long win), .second, .val (.long per), .second, .val (.long cnt), .second, .unset, .unset, .unset, .unset, .unset, .unset, .unset] []) (own_KW s below (Q0 Z q0 q1 q2 q3 h0 n0) 16 1152) := by
    intro cnt c1 c2
    obtain ⟨T26, h26, X26, e26, E26, A26, D26, -, st26⟩ := newO X25 hx hZ hown (hw _ (List.mem_of_getElem? (i := 5) rfl)) (hw _ (List.mem_of_getElem? (i := 6) rfl)) (hw _ (List.mem_of_getElem? (i := 7) rfl)) hh25 (g := (mkF m 58 #[.val (.long q0), .second, .val (.long q1), .second, .val (.long q2), .second, .val (.long q3), .second, .val (.long lim), .second, .val (.long win), .second, .val (.long per), .second, .val (.long cnt), .second, .unset, .unset, .unset, .unset, .unset, .unset, .unset] [])) rfl (hb hby at_58) (by decide) (by decide)
    obtain ⟨b1, g26⟩ : ∃ z, z = h0.size := ⟨_, rfl⟩
    rw [← g26] at A26 D26 st26
    have lo_b1 : n0 ≤ b1 := Nat.le_trans Z0 (Nat.le_of_eq g26.symm)
    have zh26 : n0 ≤ h26.size := Nat.le_trans Z0 E26.1
    have F_algorithm_b1_26 : Fld Z h26 b1 "com/example/garm/garm/WindowPolicy" "algorithm" "Ljava/lang/String;" .null := D26 (Or.inr (hw _ (List.mem_of_getElem? (i := 33) rfl))) (ty := (.object "java/lang/String")) (by decide)
    have F_limit_b1_26 : Fld Z h26 b1 "com/example/garm/garm/WindowPolicy" "limit" "J" (.long (0 : Int64)) := D26 (Or.inr (hw _ (List.mem_of_getElem? (i := 35) rfl))) (ty := .long) (by decide)
    have F_windowNanos_b1_26 : Fld Z h26 b1 "com/example/garm/garm/WindowPolicy" "windowNanos" "J" (.long (0 : Int64)) := D26 (Or.inr (hw _ (List.mem_of_getElem? (i := 37) rfl))) (ty := .long) (by decide)
    obtain ⟨_, _, ⟨T27, L27, k27, n27⟩, -, X27, hs27, hg27, ⟨Lc27, hQ27, l27, y27, z27⟩, st27⟩ := X26.specialBackS hx (y := (⟨"com/example/garm/garm/FixedWindowPolicy", "<init>", "(JJ)V"⟩ : MethodName)) rfl hown (mvT hZ (hw _ (List.mem_of_getElem? (i := 8) rfl))) (mvT hZ (hw _ (List.mem_of_getElem? (i := 9) rfl))) (mvT hZ (hw _ (List.mem_of_getElem? (i := 10) rfl))) (by decide) (backOfS (W := 1) (rm2 l Z a0 hw [] b1 lim win h26 n0 zh26 F_algorithm_b1_26 F_limit_b1_26 F_windowNanos_b1_26 A26 lo_b1 (own_ge1 p_lim) (own_ge1 p_win)) hZ (hw _ (List.mem_of_getElem? (i := 10) rfl)) (hw _ (List.mem_of_getElem? (i := 7) rfl)) (by decide) (by decide)) (g := (mkF m 66 #[.val (.long q0), .second, .val (.long q1), .second, .val (.long q2), .second, .val (.long q3), .second, .val (.long lim), .second, .val (.long win), .second, .val (.long per), .second, .val (.long cnt), .second, .unset, .unset, .unset, .unset, .unset, .unset, .unset] [(.long win), (.long lim), (.ref b1), (.ref b1)])) rfl (by rw [hml]; rfl) (Steps.refl _) (a := b1) (argsL := [(.long lim), (.long win)]) (rest := [(.ref b1)]) (lenOf pd_3 rfl) rfl (by show 2 * 0 + _ ≤ _; exact Nat.le_of_eq rfl) (hb hby at_66) (fun _ _ => ⟨rfl, e26, (by decide : 1 + 2 ≤ _), (by decide : 3 + 52 ≤ _)⟩)
    dsimp only [Pt.U, Pt.locs, Pt.cells, Pt.slots] at X27 l27 y27 z27 st27 hQ27 hs27 hg27
    subst l27 y27 z27
    obtain ⟨rfl, N27q, K27, FL27⟩ := hQ27
    have N27 := Fr.app N25 N27q
    have hS27 : s.Since T27.vm T27.heap.size := hs27
    replace X27 : Stand p l e _ (s.setVm T27.vm) m _ below meth c T27 _ _ _ := X27
    have hk27 : T27.heap.size ≤ T27.heap.size := Nat.le_refl _
    have hZ27 : Z.Warmed39 (s.setVm T27.vm).vm := State.Warmed39.trans (t := _) hZ hs27.1
    have hown27 : (s.setVm T27.vm).vm.findClass "com/example/garm/garm/WindowPolicyLeavesRoomPinLaw" = some m.cls := by rw [show (s.setVm T27.vm).vm = T27.vm from rfl, hs27.1.alike.findClass]; exact hown
    have A26_28 := A26.keep K27
    have zh27 : n0 ≤ T27.heap.size := Nat.le_trans zh26 K27.1
    refine own_Go.mono (T' := T27) (f' := (mkF m 77 #[.val (.long q0), .second, .val (.long q1), .second, .val (.long q2), .second, .val (.long q3), .second, .val (.long lim), .second, .val (.long win), .second, .val (.long per), .second, .val (.long cnt), .second, .val (.ref b1), .unset, .unset, .unset, .unset, .unset, .unset] [(.long per), (.long cnt), (.ref b1)])) (fun t k => ?_) ?_
    · show Steps p.tables e below (T25.setTop (mkF m 58 #[.val (.long q0), .second, .val (.long q1), .second, .val (.long q2), .second, .val (.long q3), .second, .val (.long lim), .second, .val (.long win), .second, .val (.long per), .second, .val (.long cnt), .second, .unset, .unset, .unset, .unset, .unset, .unset, .unset] [])) _
      refine st26 _ ?_
      show Steps p.tables e below (T26.setTop (mkF m 61 #[.val (.long q0), .second, .val (.long q1), .second, .val (.long q2), .second, .val (.long q3), .second, .val (.long lim), .second, .val (.long win), .second, .val (.long per), .second, .val (.long cnt), .second, .unset, .unset, .unset, .unset, .unset, .unset, .unset] [(.ref b1)])) _
      refine XS.dup X26.here hx rfl (hb hby at_61) rfl rfl ?_
      show Steps p.tables e below (T26.setTop (mkF m 62 #[.val (.long q0), .second, .val (.long q1), .second, .val (.long q2), .second, .val (.long q3), .second, .val (.long lim), .second, .val (.long win), .second, .val (.long per), .second, .val (.long cnt), .second, .unset, .unset, .unset, .unset, .unset, .unset, .unset] [(.ref b1), (.ref b1)])) _
      refine XS.lload X26.here hx rfl (hb hby at_62) rfl ?_
      show Steps p.tables e below (T26.setTop (mkF m 64 #[.val (.long q0), .second, .val (.long q1), .second, .val (.long q2), .second, .val (.long q3), .second, .val (.long lim), .second, .val (.long win), .second, .val (.long per), .second, .val (.long cnt), .second, .unset, .unset, .unset, .unset, .unset, .unset, .unset] [(.long lim), (.ref b1), (.ref b1)])) _
      refine XS.lload X26.here hx rfl (hb hby at_64) rfl ?_
      show Steps p.tables e below (T26.setTop (mkF m 66 #[.val (.long q0), .second, .val (.long q1), .second, .val (.long q2), .second, .val (.long q3), .second, .val (.long lim), .second, .val (.long win), .second, .val (.long per), .second, .val (.long cnt), .second, .unset, .unset, .unset, .unset, .unset, .unset, .unset] [(.long win), (.long lim), (.ref b1), (.ref b1)])) _
      refine st27.trans ?_
      show Steps p.tables e below (T27.setTop (mkF m 69 #[.val (.long q0), .second, .val (.long q1), .second, .val (.long q2), .second, .val (.long q3), .second, .val (.long lim), .second, .val (.long win), .second, .val (.long per), .second, .val (.long cnt), .second, .unset, .unset, .unset, .unset, .unset, .unset, .unset] [(.ref b1)])) _
      refine XS.astore X27.here hx rfl (hb hby at_69) rfl rfl (l' := #[.val (.long q0), .second, .val (.long q1), .second, .val (.long q2), .second, .val (.long q3), .second, .val (.long lim), .second, .val (.long win), .second, .val (.long per), .second, .val (.long cnt), .second, .val (.ref b1), .unset, .unset, .unset, .unset, .unset, .unset]) rfl ?_
      show Steps p.tables e below (T27.setTop (mkF m 71 #[.val (.long q0), .second, .val (.long q1), .second, .val (.long q2), .second, .val (.long q3), .second, .val (.long lim), .second, .val (.long win), .second, .val (.long per), .second, .val (.long cnt), .second, .val (.ref b1), .unset, .unset, .unset, .unset, .unset, .unset] [])) _
      refine XS.aload X27.here hx rfl (hb hby at_71) rfl rfl ?_
      show Steps p.tables e below (T27.setTop (mkF m 73 #[.val (.long q0), .second, .val (.long q1), .second, .val (.long q2), .second, .val (.long q3), .second, .val (.long lim), .second, .val (.long win), .second, .val (.long per), .second, .val (.long cnt), .second, .val (.ref b1), .unset, .unset, .unset, .unset, .unset, .unset] [(.ref b1)])) _
      refine XS.lload X27.here hx rfl (hb hby at_73) rfl ?_
      show Steps p.tables e below (T27.setTop (mkF m 75 #[.val (.long q0), .second, .val (.long q1), .second, .val (.long q2), .second, .val (.long q3), .second, .val (.long lim), .second, .val (.long win), .second, .val (.long per), .second, .val (.long cnt), .second, .val (.ref b1), .unset, .unset, .unset, .unset, .unset, .unset] [(.long cnt), (.ref b1)])) _
      refine XS.lload X27.here hx rfl (hb hby at_75) rfl ?_
      show Steps p.tables e below (T27.setTop (mkF m 77 #[.val (.long q0), .second, .val (.long q1), .second, .val (.long q2), .second, .val (.long q3), .second, .val (.long lim), .second, .val (.long win), .second, .val (.long per), .second, .val (.long cnt), .second, .val (.ref b1), .unset, .unset, .unset, .unset, .unset, .unset] [(.long per), (.long cnt), (.ref b1)])) _
      exact k
    by_cases hgot : (lim - cnt) < per
    · obtain ⟨cq29, kq29, q29a, q29b, q29c⟩ := isOf hZ27 rfl A26_28
      obtain ⟨_, _, ⟨T29, L29, k29, n29⟩, -, X29, ⟨Lc29, hQ29, l29, y29, z29⟩, st29⟩ := X27.virtualBackUp hx (x := (⟨"com/example/garm/garm/FixedWindowPolicy", "leavesRoom", "(JJ)Z"⟩ : MethodName)) (y := (⟨"com/example/garm/garm/WindowPolicy", "leavesRoom", "(JJ)Z"⟩ : MethodName)) hown27 (mvT hZ27 (hw _ (List.mem_of_getElem? (i := 38) rfl))) (mvT hZ27 (hw _ (List.mem_of_getElem? (i := 39) rfl))) (mvT hZ27 (hw _ (List.mem_of_getElem? (i := 40) rfl))) (by decide) (mvT hZ27 (hw _ (List.mem_of_getElem? (i := 42) rfl))) (mvT hZ27 (hw _ (List.mem_of_getElem? (i := 41) rfl))) (backOf (W := 0) (rm6 l Z a0 hw [] b1 cnt per lim (0 : Int32) T27.heap n0 zh27 FL27 (Or.inl ⟨hgot, rfl⟩)) hZ27 (hw _ (List.mem_of_getElem? (i := 43) rfl)) (hw _ (List.mem_of_getElem? (i := 22) rfl)) (by decide) (by decide)) q29a q29c (g := (mkF m 77 #[.val (.long q0), .second, .val (.long q1), .second, .val (.long q2), .second, .val (.long q3), .second, .val (.long lim), .second, .val (.long win), .second, .val (.long per), .second, .val (.long cnt), .second, .val (.ref b1), .unset, .unset, .unset, .unset, .unset, .unset] [(.long per), (.long cnt), (.ref b1)])) rfl (by rw [hml]; rfl) (Steps.refl _) (argsL := [(.long cnt), (.long per)]) (rest := []) (lenOf pd_4 rfl) rfl (by show 2 * 0 + _ ≤ _; exact Nat.le_of_eq rfl) (hb hby at_77) (fun _ _ => ⟨rfl, rfl, (by decide : 3 + 0 ≤ _), (by decide : 55 + 0 ≤ _)⟩)
      dsimp only [Pt.U, Pt.locs, Pt.cells, Pt.slots] at X29 l29 y29 z29 st29 hQ29
      subst l29 y29 z29
      obtain ⟨rfl, N29q, hh29⟩ := hQ29
      have N29 := Fr.app N27 N29q
      obtain ⟨cq30, kq30, q30a, q30b, q30c⟩ := isOf hZ27 hh29 A26_28
      obtain ⟨_, _, ⟨T30, L30, k30, n30⟩, -, X30, ⟨Lc30, hQ30, l30, y30, z30⟩, st30⟩ := X29.virtualBackUp hx (x := (⟨"com/example/garm/garm/FixedWindowPolicy", "leavesRoom", "(JJ)Z"⟩ : MethodName)) (y := (⟨"com/example/garm/garm/WindowPolicy", "leavesRoom", "(JJ)Z"⟩ : MethodName)) hown27 (mvT hZ27 (hw _ (List.mem_of_getElem? (i := 38) rfl))) (mvT hZ27 (hw _ (List.mem_of_getElem? (i := 39) rfl))) (mvT hZ27 (hw _ (List.mem_of_getElem? (i := 40) rfl))) (by decide) (mvT hZ27 (hw _ (List.mem_of_getElem? (i := 42) rfl))) (mvT hZ27 (hw _ (List.mem_of_getElem? (i := 41) rfl))) (backOf (W := 0) (rm6 l Z a0 hw [] b1 (lim - per) per lim (1 : Int32) T27.heap n0 zh27 FL27 (Or.inr ⟨own_b p_lim p_per, rfl⟩)) hZ27 (hw _ (List.mem_of_getElem? (i := 43) rfl)) (hw _ (List.mem_of_getElem? (i := 22) rfl)) (by decide) (by decide)) q30a q30c (g := (mkF m 113 #[.val (.long q0), .second, .val (.long q1), .second, .val (.long q2), .second, .val (.long q3), .second, .val (.long lim), .second, .val (.long win), .second, .val (.long per), .second, .val (.long cnt), .second, .val (.ref b1), .val (.int (0 : Int32)), .val (.int (0 : Int32)), .val (.long (lim - per)), .second, .unset, .unset] [(.long per), (.long (lim - per)), (.ref b1)])) rfl (by rw [hml]; rfl) (Steps.refl _) (argsL := [(.long (lim - per)), (.long per)]) (rest := []) (lenOf pd_4 rfl) rfl (by show 2 * 0 + _ ≤ _; exact Nat.le_of_eq rfl) (hb hby at_113) (fun _ _ => ⟨rfl, hh29, (by decide : 3 + 0 ≤ _), (by decide : 55 + 0 ≤ _)⟩)
      dsimp only [Pt.U, Pt.locs, Pt.cells, Pt.slots] at X30 l30 y30 z30 st30 hQ30
      subst l30 y30 z30
      obtain ⟨rfl, N30q, hh30⟩ := hQ30
      have N30 := Fr.app N29 N30q
      obtain ⟨cq31, kq31, q31a, q31b, q31c⟩ := isOf hZ27 hh30 A26_28
      obtain ⟨_, _, ⟨T31, L31, k31, n31⟩, -, X31, ⟨Lc31, hQ31, l31, y31, z31⟩, st31⟩ := X30.virtualBackUp hx (x := (⟨"com/example/garm/garm/FixedWindowPolicy", "leavesRoom", "(JJ)Z"⟩ : MethodName)) (y := (⟨"com/example/garm/garm/WindowPolicy", "leavesRoom", "(JJ)Z"⟩ : MethodName)) hown27 (mvT hZ27 (hw _ (List.mem_of_getElem? (i := 38) rfl))) (mvT hZ27 (hw _ (List.mem_of_getElem? (i := 39) rfl))) (mvT hZ27 (hw _ (List.mem_of_getElem? (i := 40) rfl))) (by decide) (mvT hZ27 (hw _ (List.mem_of_getElem? (i := 42) rfl))) (mvT hZ27 (hw _ (List.mem_of_getElem? (i := 41) rfl))) (backOf (W := 0) (rm6 l Z a0 hw [] b1 ((lim - per) + (1 : Int64)) per lim (0 : Int32) T27.heap n0 zh27 FL27 (Or.inl ⟨own_c p_lim p_per, rfl⟩)) hZ27 (hw _ (List.mem_of_getElem? (i := 43) rfl)) (hw _ (List.mem_of_getElem? (i := 22) rfl)) (by decide) (by decide)) q31a q31c (g := (mkF m 126 #[.val (.long q0), .second, .val (.long q1), .second, .val (.long q2), .second, .val (.long q3), .second, .val (.long lim), .second, .val (.long win), .second, .val (.long per), .second, .val (.long cnt), .second, .val (.ref b1), .val (.int (0 : Int32)), .val (.int (0 : Int32)), .val (.long (lim - per)), .second, .val (.int (1 : Int32)), .unset] [(.long per), (.long ((lim - per) + (1 : Int64))), (.ref b1)])) rfl (by rw [hml]; rfl) (Steps.refl _) (argsL := [(.long ((lim - per) + (1 : Int64))), (.long per)]) (rest := []) (lenOf pd_4 rfl) rfl (by show 2 * 0 + _ ≤ _; exact Nat.le_of_eq rfl) (hb hby at_126) (fun _ _ => ⟨rfl, hh30, (by decide : 3 + 0 ≤ _), (by decide : 55 + 0 ≤ _)⟩)
      dsimp only [Pt.U, Pt.locs, Pt.cells, Pt.slots] at X31 l31 y31 z31 st31 hQ31
      subst l31 y31 z31
      obtain ⟨rfl, N31q, hh31⟩ := hQ31
      have N31 := Fr.app N30 N31q
      refine own_Go.mono (T' := T31) (f' := (mkF m 153 #[.val (.long q0), .second, .val (.long q1), .second, .val (.long q2), .second, .val (.long q3), .second, .val (.long lim), .second, .val (.long win), .second, .val (.long per), .second, .val (.long cnt), .second, .val (.ref b1), .val (.int (0 : Int32)), .val (.int (0 : Int32)), .val (.long (lim - per)), .second, .val (.int (1 : Int32)), .val (.int (0 : Int32))] [(.int (1 : Int32))])) (fun t k => ?_) ?_
      · show Steps p.tables e below (T27.setTop (mkF m 77 #[.val (.long q0), .second, .val (.long q1), .second, .val (.long q2), .second, .val (.long q3), .second, .val (.long lim), .second, .val (.long win), .second, .val (.long per), .second, .val (.long cnt), .second, .val (.ref b1), .unset, .unset, .unset, .unset, .unset, .unset] [(.long per), (.long cnt), (.ref b1)])) _
        refine st29.trans ?_
        show Steps p.tables e below (T29.setTop (mkF m 80 #[.val (.long q0), .second, .val (.long q1), .second, .val (.long q2), .second, .val (.long q3), .second, .val (.long lim), .second, .val (.long win), .second, .val (.long per), .second, .val (.long cnt), .second, .val (.ref b1), .unset, .unset, .unset, .unset, .unset, .unset] [(.int (0 : Int32))])) _
        refine XS.istore X29.here hx rfl (hb hby at_80) rfl (l' := #[.val (.long q0), .second, .val (.long q1), .second, .val (.long q2), .second, .val (.long q3), .second, .val (.long lim), .second, .val (.long win), .second, .val (.long per), .second, .val (.long cnt), .second, .val (.ref b1), .val (.int (0 : Int32)), .unset, .unset, .unset, .unset, .unset]) rfl ?_
        show Steps p.tables e below (T29.setTop (mkF m 82 #[.val (.long q0), .second, .val (.long q1), .second, .val (.long q2), .second, .val (.long q3), .second, .val (.long lim), .second, .val (.long win), .second, .val (.long per), .second, .val (.long cnt), .second, .val (.ref b1), .val (.int (0 : Int32)), .unset, .unset, .unset, .unset, .unset] [])) _
        refine XS.lload X29.here hx rfl (hb hby at_82) rfl ?_
        show Steps p.tables e below (T29.setTop (mkF m 84 #[.val (.long q0), .second, .val (.long q1), .second, .val (.long q2), .second, .val (.long q3), .second, .val (.long lim), .second, .val (.long win), .second, .val (.long per), .second, .val (.long cnt), .second, .val (.ref b1), .val (.int (0 : Int32)), .unset, .unset, .unset, .unset, .unset] [(.long cnt)])) _
        refine XS.lload X29.here hx rfl (hb hby at_84) rfl ?_
        show Steps p.tables e below (T29.setTop (mkF m 86 #[.val (.long q0), .second, .val (.long q1), .second, .val (.long q2), .second, .val (.long q3), .second, .val (.long lim), .second, .val (.long win), .second, .val (.long per), .second, .val (.long cnt), .second, .val (.ref b1), .val (.int (0 : Int32)), .unset, .unset, .unset, .unset, .unset] [(.long lim), (.long cnt)])) _
        refine XS.lload X29.here hx rfl (hb hby at_86) rfl ?_
        show Steps p.tables e below (T29.setTop (mkF m 88 #[.val (.long q0), .second, .val (.long q1), .second, .val (.long q2), .second, .val (.long q3), .second, .val (.long lim), .second, .val (.long win), .second, .val (.long per), .second, .val (.long cnt), .second, .val (.ref b1), .val (.int (0 : Int32)), .unset, .unset, .unset, .unset, .unset] [(.long per), (.long lim), (.long cnt)])) _
        refine XS.lsub X29.here hx rfl (hb hby at_88) rfl ?_
        show Steps p.tables e below (T29.setTop (mkF m 89 #[.val (.long q0), .second, .val (.long q1), .second, .val (.long q2), .second, .val (.long q3), .second, .val (.long lim), .second, .val (.long win), .second, .val (.long per), .second, .val (.long cnt), .second, .val (.ref b1), .val (.int (0 : Int32)), .unset, .unset, .unset, .unset, .unset] [(.long (lim - per)), (.long cnt)])) _
        refine XS.lcmp X29.here hx rfl (hb hby at_89) rfl ?_
        show Steps p.tables e below (T29.setTop (mkF m 90 #[.val (.long q0), .second, .val (.long q1), .second, .val (.long q2), .second, .val (.long q3), .second, .val (.long lim), .second, .val (.long win), .second, .val (.long per), .second, .val (.long cnt), .second, .val (.ref b1), .val (.int (0 : Int32)), .unset, .unset, .unset, .unset, .unset] [(.int (lcmpW cnt (lim - per)))])) _
        refine XS.ifYes X29.here hx rfl (pc0 := 90) (pc' := 97) rfl (hb hby at_90) rfl ((if0 _ _).trans (tlt (own_gt.mpr ((own_a p_lim p_per c1 c2).mp hgot))).2.2.1) (by decide) (by decide) ?_
        show Steps p.tables e below (T29.setTop (mkF m 97 #[.val (.long q0), .second, .val (.long q1), .second, .val (.long q2), .second, .val (.long q3), .second, .val (.long lim), .second, .val (.long win), .second, .val (.long per), .second, .val (.long cnt), .second, .val (.ref b1), .val (.int (0 : Int32)), .unset, .unset, .unset, .unset, .unset] [])) _
        refine XS.iconst X29.here hx rfl (hb hby at_97) ?_
        show Steps p.tables e below (T29.setTop (mkF m 98 #[.val (.long q0), .second, .val (.long q1), .second, .val (.long q2), .second, .val (.long q3), .second, .val (.long lim), .second, .val (.long win), .second, .val (.long per), .second, .val (.long cnt), .second, .val (.ref b1), .val (.int (0 : Int32)), .unset, .unset, .unset, .unset, .unset] [(.int (0 : Int32))])) _
        refine XS.istore X29.here hx rfl (hb hby at_98) rfl (l' := #[.val (.long q0), .second, .val (.long q1), .second, .val (.long q2), .second, .val (.long q3), .second, .val (.long lim), .second, .val (.long win), .second, .val (.long per), .second, .val (.long cnt), .second, .val (.ref b1), .val (.int (0 : Int32)), .val (.int (0 : Int32)), .unset, .unset, .unset, .unset]) rfl ?_
        show Steps p.tables e below (T29.setTop (mkF m 100 #[.val (.long q0), .second, .val (.long q1), .second, .val (.long q2), .second, .val (.long q3), .second, .val (.long lim), .second, .val (.long win), .second, .val (.long per), .second, .val (.long cnt), .second, .val (.ref b1), .val (.int (0 : Int32)), .val (.int (0 : Int32)), .unset, .unset, .unset, .unset] [])) _
        refine XS.lload X29.here hx rfl (hb hby at_100) rfl ?_
        show Steps p.tables e below (T29.setTop (mkF m 102 #[.val (.long q0), .second, .val (.long q1), .second, .val (.long q2), .second, .val (.long q3), .second, .val (.long lim), .second, .val (.long win), .second, .val (.long per), .second, .val (.long cnt), .second, .val (.ref b1), .val (.int (0 : Int32)), .val (.int (0 : Int32)), .unset, .unset, .unset, .unset] [(.long lim)])) _
        refine XS.lload X29.here hx rfl (hb hby at_102) rfl ?_
        show Steps p.tables e below (T29.setTop (mkF m 104 #[.val (.long q0), .second, .val (.long q1), .second, .val (.long q2), .second, .val (.long q3), .second, .val (.long lim), .second, .val (.long win), .second, .val (.long per), .second, .val (.long cnt), .second, .val (.ref b1), .val (.int (0 : Int32)), .val (.int (0 : Int32)), .unset, .unset, .unset, .unset] [(.long per), (.long lim)])) _
        refine XS.lsub X29.here hx rfl (hb hby at_104) rfl ?_
        show Steps p.tables e below (T29.setTop (mkF m 105 #[.val (.long q0), .second, .val (.long q1), .second, .val (.long q2), .second, .val (.long q3), .second, .val (.long lim), .second, .val (.long win), .second, .val (.long per), .second, .val (.long cnt), .second, .val (.ref b1), .val (.int (0 : Int32)), .val (.int (0 : Int32)), .unset, .unset, .unset, .unset] [(.long (lim - per))])) _
        refine XS.lstore X29.here hx rfl (hb hby at_105) rfl (l' := #[.val (.long q0), .second, .val (.long q1), .second, .val (.long q2), .second, .val (.long q3), .second, .val (.long lim), .second, .val (.long win), .second, .val (.long per), .second, .val (.long cnt), .second, .val (.ref b1), .val (.int (0 : Int32)), .val (.int (0 : Int32)), .val (.long (lim - per)), .second, .unset, .unset]) rfl ?_
        show Steps p.tables e below (T29.setTop (mkF m 107 #[.val (.long q0), .second, .val (.long q1), .second, .val (.long q2), .second, .val (.long q3), .second, .val (.long lim), .second, .val (.long win), .second, .val (.long per), .second, .val (.long cnt), .second, .val (.ref b1), .val (.int (0 : Int32)), .val (.int (0 : Int32)), .val (.long (lim - per)), .second, .unset, .unset] [])) _
        refine XS.aload X29.here hx rfl (hb hby at_107) rfl rfl ?_
        show Steps p.tables e below (T29.setTop (mkF m 109 #[.val (.long q0), .second, .val (.long q1), .second, .val (.long q2), .second, .val (.long q3), .second, .val (.long lim), .second, .val (.long win), .second, .val (.long per), .second, .val (.long cnt), .second, .val (.ref b1), .val (.int (0 : Int32)), .val (.int (0 : Int32)), .val (.long (lim - per)), .second, .unset, .unset] [(.ref b1)])) _
        refine XS.lload X29.here hx rfl (hb hby at_109) rfl ?_
        show Steps p.tables e below (T29.setTop (mkF m 111 #[.val (.long q0), .second, .val (.long q1), .second, .val (.long q2), .second, .val (.long q3), .second, .val (.long lim), .second, .val (.long win), .second, .val (.long per), .second, .val (.long cnt), .second, .val (.ref b1), .val (.int (0 : Int32)), .val (.int (0 : Int32)), .val (.long (lim - per)), .second, .unset, .unset] [(.long (lim - per)), (.ref b1)])) _
        refine XS.lload X29.here hx rfl (hb hby at_111) rfl ?_
        show Steps p.tables e below (T29.setTop (mkF m 113 #[.val (.long q0), .second, .val (.long q1), .second, .val (.long q2), .second, .val (.long q3), .second, .val (.long lim), .second, .val (.long win), .second, .val (.long per), .second, .val (.long cnt), .second, .val (.ref b1), .val (.int (0 : Int32)), .val (.int (0 : Int32)), .val (.long (lim - per)), .second, .unset, .unset] [(.long per), (.long (lim - per)), (.ref b1)])) _
        refine st30.trans ?_
        show Steps p.tables e below (T30.setTop (mkF m 116 #[.val (.long q0), .second, .val (.long q1), .second, .val (.long q2), .second, .val (.long q3), .second, .val (.long lim), .second, .val (.long win), .second, .val (.long per), .second, .val (.long cnt), .second, .val (.ref b1), .val (.int (0 : Int32)), .val (.int (0 : Int32)), .val (.long (lim - per)), .second, .unset, .unset] [(.int (1 : Int32))])) _
        refine XS.istore X30.here hx rfl (hb hby at_116) rfl (l' := #[.val (.long q0), .second, .val (.long q1), .second, .val (.long q2), .second, .val (.long q3), .second, .val (.long lim), .second, .val (.long win), .second, .val (.long per), .second, .val (.long cnt), .second, .val (.ref b1), .val (.int (0 : Int32)), .val (.int (0 : Int32)), .val (.long (lim - per)), .second, .val (.int (1 : Int32)), .unset]) rfl ?_
        show Steps p.tables e below (T30.setTop (mkF m 118 #[.val (.long q0), .second, .val (.long q1), .second, .val (.long q2), .second, .val (.long q3), .second, .val (.long lim), .second, .val (.long win), .second, .val (.long per), .second, .val (.long cnt), .second, .val (.ref b1), .val (.int (0 : Int32)), .val (.int (0 : Int32)), .val (.long (lim - per)), .second, .val (.int (1 : Int32)), .unset] [])) _
        refine XS.aload X30.here hx rfl (hb hby at_118) rfl rfl ?_
        show Steps p.tables e below (T30.setTop (mkF m 120 #[.val (.long q0), .second, .val (.long q1), .second, .val (.long q2), .second, .val (.long q3), .second, .val (.long lim), .second, .val (.long win), .second, .val (.long per), .second, .val (.long cnt), .second, .val (.ref b1), .val (.int (0 : Int32)), .val (.int (0 : Int32)), .val (.long (lim - per)), .second, .val (.int (1 : Int32)), .unset] [(.ref b1)])) _
        refine XS.lload X30.here hx rfl (hb hby at_120) rfl ?_
        show Steps p.tables e below (T30.setTop (mkF m 122 #[.val (.long q0), .second, .val (.long q1), .second, .val (.long q2), .second, .val (.long q3), .second, .val (.long lim), .second, .val (.long win), .second, .val (.long per), .second, .val (.long cnt), .second, .val (.ref b1), .val (.int (0 : Int32)), .val (.int (0 : Int32)), .val (.long (lim - per)), .second, .val (.int (1 : Int32)), .unset] [(.long (lim - per)), (.ref b1)])) _
        refine XS.lconst X30.here hx rfl (hb hby at_122) ?_
        show Steps p.tables e below (T30.setTop (mkF m 123 #[.val (.long q0), .second, .val (.long q1), .second, .val (.long q2), .second, .val (.long q3), .second, .val (.long lim), .second, .val (.long win), .second, .val (.long per), .second, .val (.long cnt), .second, .val (.ref b1), .val (.int (0 : Int32)), .val (.int (0 : Int32)), .val (.long (lim - per)), .second, .val (.int (1 : Int32)), .unset] [(.long (1 : Int64)), (.long (lim - per)), (.ref b1)])) _
        refine XS.ladd X30.here hx rfl (hb hby at_123) rfl ?_
        show Steps p.tables e below (T30.setTop (mkF m 124 #[.val (.long q0), .second, .val (.long q1), .second, .val (.long q2), .second, .val (.long q3), .second, .val (.long lim), .second, .val (.long win), .second, .val (.long per), .second, .val (.long cnt), .second, .val (.ref b1), .val (.int (0 : Int32)), .val (.int (0 : Int32)), .val (.long (lim - per)), .second, .val (.int (1 : Int32)), .unset] [(.long ((lim - per) + (1 : Int64))), (.ref b1)])) _
        refine XS.lload X30.here hx rfl (hb hby at_124) rfl ?_
        show Steps p.tables e below (T30.setTop (mkF m 126 #[.val (.long q0), .second, .val (.long q1), .second, .val (.long q2), .second, .val (.long q3), .second, .val (.long lim), .second, .val (.long win), .second, .val (.long per), .second, .val (.long cnt), .second, .val (.ref b1), .val (.int (0 : Int32)), .val (.int (0 : Int32)), .val (.long (lim - per)), .second, .val (.int (1 : Int32)), .unset] [(.long per), (.long ((lim - per) + (1 : Int64))), (.ref b1)])) _
        refine st31.trans ?_
        show Steps p.tables e below (T31.setTop (mkF m 129 #[.val (.long q0), .second, .val (.long q1), .second, .val (.long q2), .second, .val (.long q3), .second, .val (.long lim), .second, .val (.long win), .second, .val (.long per), .second, .val (.long cnt), .second, .val (.ref b1), .val (.int (0 : Int32)), .val (.int (0 : Int32)), .val (.long (lim - per)), .second, .val (.int (1 : Int32)), .unset] [(.int (0 : Int32))])) _
        refine XS.istore X31.here hx rfl (hb hby at_129) rfl (l' := #[.val (.long q0), .second, .val (.long q1), .second, .val (.long q2), .second, .val (.long q3), .second, .val (.long lim), .second, .val (.long win), .second, .val (.long per), .second, .val (.long cnt), .second, .val (.ref b1), .val (.int (0 : Int32)), .val (.int (0 : Int32)), .val (.long (lim - per)), .second, .val (.int (1 : Int32)), .val (.int (0 : Int32))]) rfl ?_
        show Steps p.tables e below (T31.setTop (mkF m 131 #[.val (.long q0), .second, .val (.long q1), .second, .val (.long q2), .second, .val (.long q3), .second, .val (.long lim), .second, .val (.long win), .second, .val (.long per), .second, .val (.long cnt), .second, .val (.ref b1), .val (.int (0 : Int32)), .val (.int (0 : Int32)), .val (.long (lim - per)), .second, .val (.int (1 : Int32)), .val (.int (0 : Int32))] [])) _
        refine XS.iload X31.here hx rfl (hb hby at_131) rfl ?_
        show Steps p.tables e below (T31.setTop (mkF m 133 #[.val (.long q0), .second, .val (.long q1), .second, .val (.long q2), .second, .val (.long q3), .second, .val (.long lim), .second, .val (.long win), .second, .val (.long per), .second, .val (.long cnt), .second, .val (.ref b1), .val (.int (0 : Int32)), .val (.int (0 : Int32)), .val (.long (lim - per)), .second, .val (.int (1 : Int32)), .val (.int (0 : Int32))] [(.int (0 : Int32))])) _
        refine XS.iload X31.here hx rfl (hb hby at_133) rfl ?_
        show Steps p.tables e below (T31.setTop (mkF m 135 #[.val (.long q0), .second, .val (.long q1), .second, .val (.long q2), .second, .val (.long q3), .second, .val (.long lim), .second, .val (.long win), .second, .val (.long per), .second, .val (.long cnt), .second, .val (.ref b1), .val (.int (0 : Int32)), .val (.int (0 : Int32)), .val (.long (lim - per)), .second, .val (.int (1 : Int32)), .val (.int (0 : Int32))] [(.int (0 : Int32)), (.int (0 : Int32))])) _
        refine XS.icmpNo X31.here hx rfl (hb hby at_135) rfl (teq rfl).2 ?_
        show Steps p.tables e below (T31.setTop (mkF m 138 #[.val (.long q0), .second, .val (.long q1), .second, .val (.long q2), .second, .val (.long q3), .second, .val (.long lim), .second, .val (.long win), .second, .val (.long per), .second, .val (.long cnt), .second, .val (.ref b1), .val (.int (0 : Int32)), .val (.int (0 : Int32)), .val (.long (lim - per)), .second, .val (.int (1 : Int32)), .val (.int (0 : Int32))] [])) _
        refine XS.iload X31.here hx rfl (hb hby at_138) rfl ?_
        show Steps p.tables e below (T31.setTop (mkF m 140 #[.val (.long q0), .second, .val (.long q1), .second, .val (.long q2), .second, .val (.long q3), .second, .val (.long lim), .second, .val (.long win), .second, .val (.long per), .second, .val (.long cnt), .second, .val (.ref b1), .val (.int (0 : Int32)), .val (.int (0 : Int32)), .val (.long (lim - per)), .second, .val (.int (1 : Int32)), .val (.int (0 : Int32))] [(.int (1 : Int32))])) _
        refine XS.ifNo X31.here hx rfl (hb hby at_140) rfl ((if0 _ _).trans (feq (by decide)).1) ?_
        show Steps p.tables e below (T31.setTop (mkF m 143 #[.val (.long q0), .second, .val (.long q1), .second, .val (.long q2), .second, .val (.long q3), .second, .val (.long lim), .second, .val (.long win), .second, .val (.long per), .second, .val (.long cnt), .second, .val (.ref b1), .val (.int (0 : Int32)), .val (.int (0 : Int32)), .val (.long (lim - per)), .second, .val (.int (1 : Int32)), .val (.int (0 : Int32))] [])) _
        refine XS.iload X31.here hx rfl (hb hby at_143) rfl ?_
        show Steps p.tables e below (T31.setTop (mkF m 145 #[.val (.long q0), .second, .val (.long q1), .second, .val (.long q2), .second, .val (.long q3), .second, .val (.long lim), .second, .val (.long win), .second, .val (.long per), .second, .val (.long cnt), .second, .val (.ref b1), .val (.int (0 : Int32)), .val (.int (0 : Int32)), .val (.long (lim - per)), .second, .val (.int (1 : Int32)), .val (.int (0 : Int32))] [(.int (0 : Int32))])) _
        refine XS.ifNo X31.here hx rfl (hb hby at_145) rfl ((if0 _ _).trans (teq rfl).2) ?_
        show Steps p.tables e below (T31.setTop (mkF m 148 #[.val (.long q0), .second, .val (.long q1), .second, .val (.long q2), .second, .val (.long q3), .second, .val (.long lim), .second, .val (.long win), .second, .val (.long per), .second, .val (.long cnt), .second, .val (.ref b1), .val (.int (0 : Int32)), .val (.int (0 : Int32)), .val (.long (lim - per)), .second, .val (.int (1 : Int32)), .val (.int (0 : Int32))] [])) _
        refine XS.iconst X31.here hx rfl (hb hby at_148) ?_
        show Steps p.tables e below (T31.setTop (mkF m 149 #[.val (.long q0), .second, .val (.long q1), .second, .val (.long q2), .second, .val (.long q3), .second, .val (.long lim), .second, .val (.long win), .second, .val (.long per), .second, .val (.long cnt), .second, .val (.ref b1), .val (.int (0 : Int32)), .val (.int (0 : Int32)), .val (.long (lim - per)), .second, .val (.int (1 : Int32)), .val (.int (0 : Int32))] [(.int (1 : Int32))])) _
        refine XS.goto X31.here hx rfl (pc0 := 149) (pc' := 153) rfl (hb hby at_149) (by decide) (by decide) ?_
        show Steps p.tables e below (T31.setTop (mkF m 153 #[.val (.long q0), .second, .val (.long q1), .second, .val (.long q2), .second, .val (.long q3), .second, .val (.long lim), .second, .val (.long win), .second, .val (.long per), .second, .val (.long cnt), .second, .val (.ref b1), .val (.int (0 : Int32)), .val (.int (0 : Int32)), .val (.long (lim - per)), .second, .val (.int (1 : Int32)), .val (.int (0 : Int32))] [(.int (1 : Int32))])) _
        exact k
      exact own_retNW X31 hx (t := .boolean) hret (by simp) hlk (hb hby at_153) (⟨rfl, N31⟩) (by decide) (by decide) hS27 (by rw [hh31]; exact hk27)
    · obtain ⟨cq32, kq32, q32a, q32b, q32c⟩ := isOf hZ27 rfl A26_28
      obtain ⟨_, _, ⟨T32, L32, k32, n32⟩, -, X32, ⟨Lc32, hQ32, l32, y32, z32⟩, st32⟩ := X27.virtualBackUp hx (x := (⟨"com/example/garm/garm/FixedWindowPolicy", "leavesRoom", "(JJ)Z"⟩ : MethodName)) (y := (⟨"com/example/garm/garm/WindowPolicy", "leavesRoom", "(JJ)Z"⟩ : MethodName)) hown27 (mvT hZ27 (hw _ (List.mem_of_getElem? (i := 38) rfl))) (mvT hZ27 (hw _ (List.mem_of_getElem? (i := 39) rfl))) (mvT hZ27 (hw _ (List.mem_of_getElem? (i := 40) rfl))) (by decide) (mvT hZ27 (hw _ (List.mem_of_getElem? (i := 42) rfl))) (mvT hZ27 (hw _ (List.mem_of_getElem? (i := 41) rfl))) (backOf (W := 0) (rm6 l Z a0 hw [] b1 cnt per lim (1 : Int32) T27.heap n0 zh27 FL27 (Or.inr ⟨hgot, rfl⟩)) hZ27 (hw _ (List.mem_of_getElem? (i := 43) rfl)) (hw _ (List.mem_of_getElem? (i := 22) rfl)) (by decide) (by decide)) q32a q32c (g := (mkF m 77 #[.val (.long q0), .second, .val (.long q1), .second, .val (.long q2), .second, .val (.long q3), .second, .val (.long lim), .second, .val (.long win), .second, .val (.long per), .second, .val (.long cnt), .second, .val (.ref b1), .unset, .unset, .unset, .unset, .unset, .unset] [(.long per), (.long cnt), (.ref b1)])) rfl (by rw [hml]; rfl) (Steps.refl _) (argsL := [(.long cnt), (.long per)]) (rest := []) (lenOf pd_4 rfl) rfl (by show 2 * 0 + _ ≤ _; exact Nat.le_of_eq rfl) (hb hby at_77) (fun _ _ => ⟨rfl, rfl, (by decide : 3 + 0 ≤ _), (by decide : 55 + 0 ≤ _)⟩)
      dsimp only [Pt.U, Pt.locs, Pt.cells, Pt.slots] at X32 l32 y32 z32 st32 hQ32
      subst l32 y32 z32
      obtain ⟨rfl, N32q, hh32⟩ := hQ32
      have N32 := Fr.app N27 N32q
      obtain ⟨cq33, kq33, q33a, q33b, q33c⟩ := isOf hZ27 hh32 A26_28
      obtain ⟨_, _, ⟨T33, L33, k33, n33⟩, -, X33, ⟨Lc33, hQ33, l33, y33, z33⟩, st33⟩ := X32.virtualBackUp hx (x := (⟨"com/example/garm/garm/FixedWindowPolicy", "leavesRoom", "(JJ)Z"⟩ : MethodName)) (y := (⟨"com/example/garm/garm/WindowPolicy", "leavesRoom", "(JJ)Z"⟩ : MethodName)) hown27 (mvT hZ27 (hw _ (List.mem_of_getElem? (i := 38) rfl))) (mvT hZ27 (hw _ (List.mem_of_getElem? (i := 39) rfl))) (mvT hZ27 (hw _ (List.mem_of_getElem? (i := 40) rfl))) (by decide) (mvT hZ27 (hw _ (List.mem_of_getElem? (i := 42) rfl))) (mvT hZ27 (hw _ (List.mem_of_getElem? (i := 41) rfl))) (backOf (W := 0) (rm6 l Z a0 hw [] b1 (lim - per) per lim (1 : Int32) T27.heap n0 zh27 FL27 (Or.inr ⟨own_b p_lim p_per, rfl⟩)) hZ27 (hw _ (List.mem_of_getElem? (i := 43) rfl)) (hw _ (List.mem_of_getElem? (i := 22) rfl)) (by decide) (by decide)) q33a q33c (g := (mkF m 113 #[.val (.long q0), .second, .val (.long q1), .second, .val (.long q2), .second, .val (.long q3), .second, .val (.long lim), .second, .val (.long win), .second, .val (.long per), .second, .val (.long cnt), .second, .val (.ref b1), .val (.int (1 : Int32)), .val (.int (1 : Int32)), .val (.long (lim - per)), .second, .unset, .unset] [(.long per), (.long (lim - per)), (.ref b1)])) rfl (by rw [hml]; rfl) (Steps.refl _) (argsL := [(.long (lim - per)), (.long per)]) (rest := []) (lenOf pd_4 rfl) rfl (by show 2 * 0 + _ ≤ _; exact Nat.le_of_eq rfl) (hb hby at_113) (fun _ _ => ⟨rfl, hh32, (by decide : 3 + 0 ≤ _), (by decide : 55 + 0 ≤ _)⟩)
      dsimp only [Pt.U, Pt.locs, Pt.cells, Pt.slots] at X33 l33 y33 z33 st33 hQ33
      subst l33 y33 z33
      obtain ⟨rfl, N33q, hh33⟩ := hQ33
      have N33 := Fr.app N32 N33q
      obtain ⟨cq34, kq34, q34a, q34b, q34c⟩ := isOf hZ27 hh33 A26_28
      obtain ⟨_, _, ⟨T34, L34, k34, n34⟩, -, X34, ⟨Lc34, hQ34, l34, y34, z34⟩, st34⟩ := X33.virtualBackUp hx (x := (⟨"com/example/garm/garm/FixedWindowPolicy", "leavesRoom", "(JJ)Z"⟩ : MethodName)) (y := (⟨"com/example/garm/garm/WindowPolicy", "leavesRoom", "(JJ)Z"⟩ : MethodName)) hown27 (mvT hZ27 (hw _ (List.mem_of_getElem? (i := 38) rfl))) (mvT hZ27 (hw _ (List.mem_of_getElem? (i := 39) rfl))) (mvT hZ27 (hw _ (List.mem_of_getElem? (i := 40) rfl))) (by decide) (mvT hZ27 (hw _ (List.mem_of_getElem? (i := 42) rfl))) (mvT hZ27 (hw _ (List.mem_of_getElem? (i := 41) rfl))) (backOf (W := 0) (rm6 l Z a0 hw [] b1 ((lim - per) + (1 : Int64)) per lim (0 : Int32) T27.heap n0 zh27 FL27 (Or.inl ⟨own_c p_lim p_per, rfl⟩)) hZ27 (hw _ (List.mem_of_getElem? (i := 43) rfl)) (hw _ (List.mem_of_getElem? (i := 22) rfl)) (by decide) (by decide)) q34a q34c (g := (mkF m 126 #[.val (.long q0), .second, .val (.long q1), .second, .val (.long q2), .second, .val (.long q3), .second, .val (.long lim), .second, .val (.long win), .second, .val (.long per), .second, .val (.long cnt), .second, .val (.ref b1), .val (.int (1 : Int32)), .val (.int (1 : Int32)), .val (.long (lim - per)), .second, .val (.int (1 : Int32)), .unset] [(.long per), (.long ((lim - per) + (1 : Int64))), (.ref b1)])) rfl (by rw [hml]; rfl) (Steps.refl _) (argsL := [(.long ((lim - per) + (1 : Int64))), (.long per)]) (rest := []) (lenOf pd_4 rfl) rfl (by show 2 * 0 + _ ≤ _; exact Nat.le_of_eq rfl) (hb hby at_126) (fun _ _ => ⟨rfl, hh33, (by decide : 3 + 0 ≤ _), (by decide : 55 + 0 ≤ _)⟩)
      dsimp only [Pt.U, Pt.locs, Pt.cells, Pt.slots] at X34 l34 y34 z34 st34 hQ34
      subst l34 y34 z34
      obtain ⟨rfl, N34q, hh34⟩ := hQ34
      have N34 := Fr.app N33 N34q
      refine own_Go.mono (T' := T34) (f' := (mkF m 153 #[.val (.long q0), .second, .val (.long q1), .second, .val (.long q2), .second, .val (.long q3), .second, .val (.long lim), .second, .val (.long win), .second, .val (.long per), .second, .val (.long cnt), .second, .val (.ref b1), .val (.int (1 : Int32)), .val (.int (1 : Int32)), .val (.long (lim - per)), .second, .val (.int (1 : Int32)), .val (.int (0 : Int32))] [(.int (1 : Int32))])) (fun t k => ?_) ?_
      · show Steps p.tables e below (T27.setTop (mkF m 77 #[.val (.long q0), .second, .val (.long q1), .second, .val (.long q2), .second, .val (.long q3), .second, .val (.long lim), .second, .val (.long win), .second, .val (.long per), .second, .val (.long cnt), .second, .val (.ref b1), .unset, .unset, .unset, .unset, .unset, .unset] [(.long per), (.long cnt), (.ref b1)])) _
        refine st32.trans ?_
        show Steps p.tables e below (T32.setTop (mkF m 80 #[.val (.long q0), .second, .val (.long q1), .second, .val (.long q2), .second, .val (.long q3), .second, .val (.long lim), .second, .val (.long win), .second, .val (.long per), .second, .val (.long cnt), .second, .val (.ref b1), .unset, .unset, .unset, .unset, .unset, .unset] [(.int (1 : Int32))])) _
        refine XS.istore X32.here hx rfl (hb hby at_80) rfl (l' := #[.val (.long q0), .second, .val (.long q1), .second, .val (.long q2), .second, .val (.long q3), .second, .val (.long lim), .second, .val (.long win), .second, .val (.long per), .second, .val (.long cnt), .second, .val (.ref b1), .val (.int (1 : Int32)), .unset, .unset, .unset, .unset, .unset]) rfl ?_
        show Steps p.tables e below (T32.setTop (mkF m 82 #[.val (.long q0), .second, .val (.long q1), .second, .val (.long q2), .second, .val (.long q3), .second, .val (.long lim), .second, .val (.long win), .second, .val (.long per), .second, .val (.long cnt), .second, .val (.ref b1), .val (.int (1 : Int32)), .unset, .unset, .unset, .unset, .unset] [])) _
        refine XS.lload X32.here hx rfl (hb hby at_82) rfl ?_
        show Steps p.tables e below (T32.setTop (mkF m 84 #[.val (.long q0), .second, .val (.long q1), .second, .val (.long q2), .second, .val (.long q3), .second, .val (.long lim), .second, .val (.long win), .second, .val (.long per), .second, .val (.long cnt), .second, .val (.ref b1), .val (.int (1 : Int32)), .unset, .unset, .unset, .unset, .unset] [(.long cnt)])) _
        refine XS.lload X32.here hx rfl (hb hby at_84) rfl ?_
        show Steps p.tables e below (T32.setTop (mkF m 86 #[.val (.long q0), .second, .val (.long q1), .second, .val (.long q2), .second, .val (.long q3), .second, .val (.long lim), .second, .val (.long win), .second, .val (.long per), .second, .val (.long cnt), .second, .val (.ref b1), .val (.int (1 : Int32)), .unset, .unset, .unset, .unset, .unset] [(.long lim), (.long cnt)])) _
        refine XS.lload X32.here hx rfl (hb hby at_86) rfl ?_
        show Steps p.tables e below (T32.setTop (mkF m 88 #[.val (.long q0), .second, .val (.long q1), .second, .val (.long q2), .second, .val (.long q3), .second, .val (.long lim), .second, .val (.long win), .second, .val (.long per), .second, .val (.long cnt), .second, .val (.ref b1), .val (.int (1 : Int32)), .unset, .unset, .unset, .unset, .unset] [(.long per), (.long lim), (.long cnt)])) _
        refine XS.lsub X32.here hx rfl (hb hby at_88) rfl ?_
        show Steps p.tables e below (T32.setTop (mkF m 89 #[.val (.long q0), .second, .val (.long q1), .second, .val (.long q2), .second, .val (.long q3), .second, .val (.long lim), .second, .val (.long win), .second, .val (.long per), .second, .val (.long cnt), .second, .val (.ref b1), .val (.int (1 : Int32)), .unset, .unset, .unset, .unset, .unset] [(.long (lim - per)), (.long cnt)])) _
        refine XS.lcmp X32.here hx rfl (hb hby at_89) rfl ?_
        show Steps p.tables e below (T32.setTop (mkF m 90 #[.val (.long q0), .second, .val (.long q1), .second, .val (.long q2), .second, .val (.long q3), .second, .val (.long lim), .second, .val (.long win), .second, .val (.long per), .second, .val (.long cnt), .second, .val (.ref b1), .val (.int (1 : Int32)), .unset, .unset, .unset, .unset, .unset] [(.int (lcmpW cnt (lim - per)))])) _
        refine XS.ifNo X32.here hx rfl (hb hby at_90) rfl ((if0 _ _).trans (flt (mt own_gt.mp (mt (own_a p_lim p_per c1 c2).mpr hgot))).2.2.1) ?_
        show Steps p.tables e below (T32.setTop (mkF m 93 #[.val (.long q0), .second, .val (.long q1), .second, .val (.long q2), .second, .val (.long q3), .second, .val (.long lim), .second, .val (.long win), .second, .val (.long per), .second, .val (.long cnt), .second, .val (.ref b1), .val (.int (1 : Int32)), .unset, .unset, .unset, .unset, .unset] [])) _
        refine XS.iconst X32.here hx rfl (hb hby at_93) ?_
        show Steps p.tables e below (T32.setTop (mkF m 94 #[.val (.long q0), .second, .val (.long q1), .second, .val (.long q2), .second, .val (.long q3), .second, .val (.long lim), .second, .val (.long win), .second, .val (.long per), .second, .val (.long cnt), .second, .val (.ref b1), .val (.int (1 : Int32)), .unset, .unset, .unset, .unset, .unset] [(.int (1 : Int32))])) _
        refine XS.goto X32.here hx rfl (pc0 := 94) (pc' := 98) rfl (hb hby at_94) (by decide) (by decide) ?_
        show Steps p.tables e below (T32.setTop (mkF m 98 #[.val (.long q0), .second, .val (.long q1), .second, .val (.long q2), .second, .val (.long q3), .second, .val (.long lim), .second, .val (.long win), .second, .val (.long per), .second, .val (.long cnt), .second, .val (.ref b1), .val (.int (1 : Int32)), .unset, .unset, .unset, .unset, .unset] [(.int (1 : Int32))])) _
        refine XS.istore X32.here hx rfl (hb hby at_98) rfl (l' := #[.val (.long q0), .second, .val (.long q1), .second, .val (.long q2), .second, .val (.long q3), .second, .val (.long lim), .second, .val (.long win), .second, .val (.long per), .second, .val (.long cnt), .second, .val (.ref b1), .val (.int (1 : Int32)), .val (.int (1 : Int32)), .unset, .unset, .unset, .unset]) rfl ?_
        show Steps p.tables e below (T32.setTop (mkF m 100 #[.val (.long q0), .second, .val (.long q1), .second, .val (.long q2), .second, .val (.long q3), .second, .val (.long lim), .second, .val (.long win), .second, .val (.long per), .second, .val (.long cnt), .second, .val (.ref b1), .val (.int (1 : Int32)), .val (.int (1 : Int32)), .unset, .unset, .unset, .unset] [])) _
        refine XS.lload X32.here hx rfl (hb hby at_100) rfl ?_
        show Steps p.tables e below (T32.setTop (mkF m 102 #[.val (.long q0), .second, .val (.long q1), .second, .val (.long q2), .second, .val (.long q3), .second, .val (.long lim), .second, .val (.long win), .second, .val (.long per), .second, .val (.long cnt), .second, .val (.ref b1), .val (.int (1 : Int32)), .val (.int (1 : Int32)), .unset, .unset, .unset, .unset] [(.long lim)])) _
        refine XS.lload X32.here hx rfl (hb hby at_102) rfl ?_
        show Steps p.tables e below (T32.setTop (mkF m 104 #[.val (.long q0), .second, .val (.long q1), .second, .val (.long q2), .second, .val (.long q3), .second, .val (.long lim), .second, .val (.long win), .second, .val (.long per), .second, .val (.long cnt), .second, .val (.ref b1), .val (.int (1 : Int32)), .val (.int (1 : Int32)), .unset, .unset, .unset, .unset] [(.long per), (.long lim)])) _
        refine XS.lsub X32.here hx rfl (hb hby at_104) rfl ?_
        show Steps p.tables e below (T32.setTop (mkF m 105 #[.val (.long q0), .second, .val (.long q1), .second, .val (.long q2), .second, .val (.long q3), .second, .val (.long lim), .second, .val (.long win), .second, .val (.long per), .second, .val (.long cnt), .second, .val (.ref b1), .val (.int (1 : Int32)), .val (.int (1 : Int32)), .unset, .unset, .unset, .unset] [(.long (lim - per))])) _
        refine XS.lstore X32.here hx rfl (hb hby at_105) rfl (l' := #[.val (.long q0), .second, .val (.long q1), .second, .val (.long q2), .second, .val (.long q3), .second, .val (.long lim), .second, .val (.long win), .second, .val (.long per), .second, .val (.long cnt), .second, .val (.ref b1), .val (.int (1 : Int32)), .val (.int (1 : Int32)), .val (.long (lim - per)), .second, .unset, .unset]) rfl ?_
        show Steps p.tables e below (T32.setTop (mkF m 107 #[.val (.long q0), .second, .val (.long q1), .second, .val (.long q2), .second, .val (.long q3), .second, .val (.long lim), .second, .val (.long win), .second, .val (.long per), .second, .val (.long cnt), .second, .val (.ref b1), .val (.int (1 : Int32)), .val (.int (1 : Int32)), .val (.long (lim - per)), .second, .unset, .unset] [])) _
        refine XS.aload X32.here hx rfl (hb hby at_107) rfl rfl ?_
        show Steps p.tables e below (T32.setTop (mkF m 109 #[.val (.long q0), .second, .val (.long q1), .second, .val (.long q2), .second, .val (.long q3), .second, .val (.long lim), .second, .val (.long win), .second, .val (.long per), .second, .val (.long cnt), .second, .val (.ref b1), .val (.int (1 : Int32)), .val (.int (1 : Int32)), .val (.long (lim - per)), .second, .unset, .unset] [(.ref b1)])) _
        refine XS.lload X32.here hx rfl (hb hby at_109) rfl ?_
        show Steps p.tables e below (T32.setTop (mkF m 111 #[.val (.long q0), .second, .val (.long q1), .second, .val (.long q2), .second, .val (.long q3), .second, .val (.long lim), .second, .val (.long win), .second, .val (.long per), .second, .val (.long cnt), .second, .val (.ref b1), .val (.int (1 : Int32)), .val (.int (1 : Int32)), .val (.long (lim - per)), .second, .unset, .unset] [(.long (lim - per)), (.ref b1)])) _
        refine XS.lload X32.here hx rfl (hb hby at_111) rfl ?_
        show Steps p.tables e below (T32.setTop (mkF m 113 #[.val (.long q0), .second, .val (.long q1), .second, .val (.long q2), .second, .val (.long q3), .second, .val (.long lim), .second, .val (.long win), .second, .val (.long per), .second, .val (.long cnt), .second, .val (.ref b1), .val (.int (1 : Int32)), .val (.int (1 : Int32)), .val (.long (lim - per)), .second, .unset, .unset] [(.long per), (.long (lim - per)), (.ref b1)])) _
        refine st33.trans ?_
        show Steps p.tables e below (T33.setTop (mkF m 116 #[.val (.long q0), .second, .val (.long q1), .second, .val (.long q2), .second, .val (.long q3), .second, .val (.long lim), .second, .val (.long win), .second, .val (.long per), .second, .val (.long cnt), .second, .val (.ref b1), .val (.int (1 : Int32)), .val (.int (1 : Int32)), .val (.long (lim - per)), .second, .unset, .unset] [(.int (1 : Int32))])) _
        refine XS.istore X33.here hx rfl (hb hby at_116) rfl (l' := #[.val (.long q0), .second, .val (.long q1), .second, .val (.long q2), .second, .val (.long q3), .second, .val (.long lim), .second, .val (.long win), .second, .val (.long per), .second, .val (.long cnt), .second, .val (.ref b1), .val (.int (1 : Int32)), .val (.int (1 : Int32)), .val (.long (lim - per)), .second, .val (.int (1 : Int32)), .unset]) rfl ?_
        show Steps p.tables e below (T33.setTop (mkF m 118 #[.val (.long q0), .second, .val (.long q1), .second, .val (.long q2), .second, .val (.long q3), .second, .val (.long lim), .second, .val (.long win), .second, .val (.long per), .second, .val (.long cnt), .second, .val (.ref b1), .val (.int (1 : Int32)), .val (.int (1 : Int32)), .val (.long (lim - per)), .second, .val (.int (1 : Int32)), .unset] [])) _
        refine XS.aload X33.here hx rfl (hb hby at_118) rfl rfl ?_
        show Steps p.tables e below (T33.setTop (mkF m 120 #[.val (.long q0), .second, .val (.long q1), .second, .val (.long q2), .second, .val (.long q3), .second, .val (.long lim), .second, .val (.long win), .second, .val (.long per), .second, .val (.long cnt), .second, .val (.ref b1), .val (.int (1 : Int32)), .val (.int (1 : Int32)), .val (.long (lim - per)), .second, .val (.int (1 : Int32)), .unset] [(.ref b1)])) _
        refine XS.lload X33.here hx rfl (hb hby at_120) rfl ?_
        show Steps p.tables e below (T33.setTop (mkF m 122 #[.val (.long q0), .second, .val (.long q1), .second, .val (.long q2), .second, .val (.long q3), .second, .val (.long lim), .second, .val (.long win), .second, .val (.long per), .second, .val (.long cnt), .second, .val (.ref b1), .val (.int (1 : Int32)), .val (.int (1 : Int32)), .val (.long (lim - per)), .second, .val (.int (1 : Int32)), .unset] [(.long (lim - per)), (.ref b1)])) _
        refine XS.lconst X33.here hx rfl (hb hby at_122) ?_
        show Steps p.tables e below (T33.setTop (mkF m 123 #[.val (.long q0), .second, .val (.long q1), .second, .val (.long q2), .second, .val (.long q3), .second, .val (.long lim), .second, .val (.long win), .second, .val (.long per), .second, .val (.long cnt), .second, .val (.ref b1), .val (.int (1 : Int32)), .val (.int (1 : Int32)), .val (.long (lim - per)), .second, .val (.int (1 : Int32)), .unset] [(.long (1 : Int64)), (.long (lim - per)), (.ref b1)])) _
        refine XS.ladd X33.here hx rfl (hb hby at_123) rfl ?_
        show Steps p.tables e below (T33.setTop (mkF m 124 #[.val (.long q0), .second, .val (.long q1), .second, .val (.long q2), .second, .val (.long q3), .second, .val (.long lim), .second, .val (.long win), .second, .val (.long per), .second, .val (.long cnt), .second, .val (.ref b1), .val (.int (1 : Int32)), .val (.int (1 : Int32)), .val (.long (lim - per)), .second, .val (.int (1 : Int32)), .unset] [(.long ((lim - per) + (1 : Int64))), (.ref b1)])) _
        refine XS.lload X33.here hx rfl (hb hby at_124) rfl ?_
        show Steps p.tables e below (T33.setTop (mkF m 126 #[.val (.long q0), .second, .val (.long q1), .second, .val (.long q2), .second, .val (.long q3), .second, .val (.long lim), .second, .val (.long win), .second, .val (.long per), .second, .val (.long cnt), .second, .val (.ref b1), .val (.int (1 : Int32)), .val (.int (1 : Int32)), .val (.long (lim - per)), .second, .val (.int (1 : Int32)), .unset] [(.long per), (.long ((lim - per) + (1 : Int64))), (.ref b1)])) _
        refine st34.trans ?_
        show Steps p.tables e below (T34.setTop (mkF m 129 #[.val (.long q0), .second, .val (.long q1), .second, .val (.long q2), .second, .val (.long q3), .second, .val (.long lim), .second, .val (.long win), .second, .val (.long per), .second, .val (.long cnt), .second, .val (.ref b1), .val (.int (1 : Int32)), .val (.int (1 : Int32)), .val (.long (lim - per)), .second, .val (.int (1 : Int32)), .unset] [(.int (0 : Int32))])) _
        refine XS.istore X34.here hx rfl (hb hby at_129) rfl (l' := #[.val (.long q0), .second, .val (.long q1), .second, .val (.long q2), .second, .val (.long q3), .second, .val (.long lim), .second, .val (.long win), .second, .val (.long per), .second, .val (.long cnt), .second, .val (.ref b1), .val (.int (1 : Int32)), .val (.int (1 : Int32)), .val (.long (lim - per)), .second, .val (.int (1 : Int32)), .val (.int (0 : Int32))]) rfl ?_
        show Steps p.tables e below (T34.setTop (mkF m 131 #[.val (.long q0), .second, .val (.long q1), .second, .val (.long q2), .second, .val (.long q3), .second, .val (.long lim), .second, .val (.long win), .second, .val (.long per), .second, .val (.long cnt), .second, .val (.ref b1), .val (.int (1 : Int32)), .val (.int (1 : Int32)), .val (.long (lim - per)), .second, .val (.int (1 : Int32)), .val (.int (0 : Int32))] [])) _
        refine XS.iload X34.here hx rfl (hb hby at_131) rfl ?_
        show Steps p.tables e below (T34.setTop (mkF m 133 #[.val (.long q0), .second, .val (.long q1), .second, .val (.long q2), .second, .val (.long q3), .second, .val (.long lim), .second, .val (.long win), .second, .val (.long per), .second, .val (.long cnt), .second, .val (.ref b1), .val (.int (1 : Int32)), .val (.int (1 : Int32)), .val (.long (lim - per)), .second, .val (.int (1 : Int32)), .val (.int (0 : Int32))] [(.int (1 : Int32))])) _
        refine XS.iload X34.here hx rfl (hb hby at_133) rfl ?_
        show Steps p.tables e below (T34.setTop (mkF m 135 #[.val (.long q0), .second, .val (.long q1), .second, .val (.long q2), .second, .val (.long q3), .second, .val (.long lim), .second, .val (.long win), .second, .val (.long per), .second, .val (.long cnt), .second, .val (.ref b1), .val (.int (1 : Int32)), .val (.int (1 : Int32)), .val (.long (lim - per)), .second, .val (.int (1 : Int32)), .val (.int (0 : Int32))] [(.int (1 : Int32)), (.int (1 : Int32))])) _
        refine XS.icmpNo X34.here hx rfl (hb hby at_135) rfl (teq rfl).2 ?_
        show Steps p.tables e below (T34.setTop (mkF m 138 #[.val (.long q0), .second, .val (.long q1), .second, .val (.long q2), .second, .val (.long q3), .second, .val (.long lim), .second, .val (.long win), .second, .val (.long per), .second, .val (.long cnt), .second, .val (.ref b1), .val (.int (1 : Int32)), .val (.int (1 : Int32)), .val (.long (lim - per)), .second, .val (.int (1 : Int32)), .val (.int (0 : Int32))] [])) _
        refine XS.iload X34.here hx rfl (hb hby at_138) rfl ?_
        show Steps p.tables e below (T34.setTop (mkF m 140 #[.val (.long q0), .second, .val (.long q1), .second, .val (.long q2), .second, .val (.long q3), .second, .val (.long lim), .second, .val (.long win), .second, .val (.long per), .second, .val (.long cnt), .second, .val (.ref b1), .val (.int (1 : Int32)), .val (.int (1 : Int32)), .val (.long (lim - per)), .second, .val (.int (1 : Int32)), .val (.int (0 : Int32))] [(.int (1 : Int32))])) _
        refine XS.ifNo X34.here hx rfl (hb hby at_140) rfl ((if0 _ _).trans (feq (by decide)).1) ?_
        show Steps p.tables e below (T34.setTop (mkF m 143 #[.val (.long q0), .second, .val (.long q1), .second, .val (.long q2), .second, .val (.long q3), .second, .val (.long lim), .second, .val (.long win), .second, .val (.long per), .second, .val (.long cnt), .second, .val (.ref b1), .val (.int (1 : Int32)), .val (.int (1 : Int32)), .val (.long (lim - per)), .second, .val (.int (1 : Int32)), .val (.int (0 : Int32))] [])) _
        refine XS.iload X34.here hx rfl (hb hby at_143) rfl ?_
        show Steps p.tables e below (T34.setTop (mkF m 145 #[.val (.long q0), .second, .val (.long q1), .second, .val (.long q2), .second, .val (.long q3), .second, .val (.long lim), .second, .val (.long win), .second, .val (.long per), .second, .val (.long cnt), .second, .val (.ref b1), .val (.int (1 : Int32)), .val (.int (1 : Int32)), .val (.long (lim - per)), .second, .val (.int (1 : Int32)), .val (.int (0 : Int32))] [(.int (0 : Int32))])) _
        refine XS.ifNo X34.here hx rfl (hb hby at_145) rfl ((if0 _ _).trans (teq rfl).2) ?_
        show Steps p.tables e below (T34.setTop (mkF m 148 #[.val (.long q0), .second, .val (.long q1), .second, .val (.long q2), .second, .val (.long q3), .second, .val (.long lim), .second, .val (.long win), .second, .val (.long per), .second, .val (.long cnt), .second, .val (.ref b1), .val (.int (1 : Int32)), .val (.int (1 : Int32)), .val (.long (lim - per)), .second, .val (.int (1 : Int32)), .val (.int (0 : Int32))] [])) _
        refine XS.iconst X34.here hx rfl (hb hby at_148) ?_
        show Steps p.tables e below (T34.setTop (mkF m 149 #[.val (.long q0), .second, .val (.long q1), .second, .val (.long q2), .second, .val (.long q3), .second, .val (.long lim), .second, .val (.long win), .second, .val (.long per), .second, .val (.long cnt), .second, .val (.ref b1), .val (.int (1 : Int32)), .val (.int (1 : Int32)), .val (.long (lim - per)), .second, .val (.int (1 : Int32)), .val (.int (0 : Int32))] [(.int (1 : Int32))])) _
        refine XS.goto X34.here hx rfl (pc0 := 149) (pc' := 153) rfl (hb hby at_149) (by decide) (by decide) ?_
        show Steps p.tables e below (T34.setTop (mkF m 153 #[.val (.long q0), .second, .val (.long q1), .second, .val (.long q2), .second, .val (.long q3), .second, .val (.long lim), .second, .val (.long win), .second, .val (.long per), .second, .val (.long cnt), .second, .val (.ref b1), .val (.int (1 : Int32)), .val (.int (1 : Int32)), .val (.long (lim - per)), .second, .val (.int (1 : Int32)), .val (.int (0 : Int32))] [(.int (1 : Int32))])) _
        exact k
      exact own_retNW X34 hx (t := .boolean) hret (by simp) hlk (hb hby at_153) (⟨rfl, N34⟩) (by decide) (by decide) hS27 (by rw [hh34]; exact hk27)
  refine own_Go.mono (T' := T25) (f' := (mkF m 49 #[.val (.long q0), .second, .val (.long q1), .second, .val (.long q2), .second, .val (.long q3), .second, .val (.long lim), .second, .val (.long win), .second, .val (.long per), .second, .val (.long cn), .second, .unset, .unset, .unset, .unset, .unset, .unset, .unset] [(.int (lcmpW q1 (0 : Int64)))])) (fun t k => ?_) ?_
  · show Steps p.tables e below (T25.setTop (mkF m 46 #[.val (.long q0), .second, .val (.long q1), .second, .val (.long q2), .second, .val (.long q3), .second, .val (.long lim), .second, .val (.long win), .second, .val (.long per), .second, .val (.long cn), .second, .unset, .unset, .unset, .unset, .unset, .unset, .unset] [])) _
    refine XS.lloadN X25.here hx rfl (hb hby at_46) rfl ?_
    show Steps p.tables e below (T25.setTop (mkF m 47 #[.val (.long q0), .second, .val (.long q1), .second, .val (.long q2), .second, .val (.long q3), .second, .val (.long lim), .second, .val (.long win), .second, .val (.long per), .second, .val (.long cn), .second, .unset, .unset, .unset, .unset, .unset, .unset, .unset] [(.long q1)])) _
    refine XS.lconst X25.here hx rfl (hb hby at_47) ?_
    show Steps p.tables e below (T25.setTop (mkF m 48 #[.val (.long q0), .second, .val (.long q1), .second, .val (.long q2), .second, .val (.long q3), .second, .val (.long lim), .second, .val (.long win), .second, .val (.long per), .second, .val (.long cn), .second, .unset, .unset, .unset, .unset, .unset, .unset, .unset] [(.long (0 : Int64)), (.long q1)])) _
    refine XS.lcmp X25.here hx rfl (hb hby at_48) rfl ?_
    show Steps p.tables e below (T25.setTop (mkF m 49 #[.val (.long q0), .second, .val (.long q1), .second, .val (.long q2), .second, .val (.long q3), .second, .val (.long lim), .second, .val (.long win), .second, .val (.long per), .second, .val (.long cn), .second, .unset, .unset, .unset, .unset, .unset, .unset, .unset] [(.int (lcmpW q1 (0 : Int64)))])) _
    exact k
  by_cases c49_35 : (lcmpW q1 (0 : Int64)) < (0 : Int32)
  · refine own_Go.mono (T' := T25) (f' := (mkF m 58 #[.val (.long q0), .second, .val (.long q1), .second, .val (.long q2), .second, .val (.long q3), .second, .val (.long lim), .second, .val (.long win), .second, .val (.long per), .second, .val (.long (cn + (1 : Int64))), .second, .unset, .unset, .unset, .unset, .unset, .unset, .unset] [])) (fun t k => ?_) ?_
    · show Steps p.tables e below (T25.setTop (mkF m 49 #[.val (.long q0), .second, .val (.long q1), .second, .val (.long q2), .second, .val (.long q3), .second, .val (.long lim), .second, .val (.long win), .second, .val (.long per), .second, .val (.long cn), .second, .unset, .unset, .unset, .unset, .unset, .unset, .unset] [(.int (lcmpW q1 (0 : Int64)))])) _
      refine XS.ifNo X25.here hx rfl (hb hby at_49) rfl ((if0 _ _).trans (tlt c49_35).2.1) ?_
      show Steps p.tables e below (T25.setTop (mkF m 52 #[.val (.long q0), .second, .val (.long q1), .second, .val (.long q2), .second, .val (.long q3), .second, .val (.long lim), .second, .val (.long win), .second, .val (.long per), .second, .val (.long cn), .second, .unset, .unset, .unset, .unset, .unset, .unset, .unset] [])) _
      refine XS.lload X25.here hx rfl (hb hby at_52) rfl ?_
      show Steps p.tables e below (T25.setTop (mkF m 54 #[.val (.long q0), .second, .val (.long q1), .second, .val (.long q2), .second, .val (.long q3), .second, .val (.long lim), .second, .val (.long win), .second, .val (.long per), .second, .val (.long cn), .second, .unset, .unset, .unset, .unset, .unset, .unset, .unset] [(.long cn)])) _
      refine XS.lconst X25.here hx rfl (hb hby at_54) ?_
      show Steps p.tables e below (T25.setTop (mkF m 55 #[.val (.long q0), .second, .val (.long q1), .second, .val (.long q2), .second, .val (.long q3), .second, .val (.long lim), .second, .val (.long win), .second, .val (.long per), .second, .val (.long cn), .second, .unset, .unset, .unset, .unset, .unset, .unset, .unset] [(.long (1 : Int64)), (.long cn)])) _
      refine XS.ladd X25.here hx rfl (hb hby at_55) rfl ?_
      show Steps p.tables e below (T25.setTop (mkF m 56 #[.val (.long q0), .second, .val (.long q1), .second, .val (.long q2), .second, .val (.long q3), .second, .val (.long lim), .second, .val (.long win), .second, .val (.long per), .second, .val (.long cn), .second, .unset, .unset, .unset, .unset, .unset, .unset, .unset] [(.long (cn + (1 : Int64)))])) _
      refine XS.lstore X25.here hx rfl (hb hby at_56) rfl (l' := #[.val (.long q0), .second, .val (.long q1), .second, .val (.long q2), .second, .val (.long q3), .second, .val (.long lim), .second, .val (.long win), .second, .val (.long per), .second, .val (.long (cn + (1 : Int64))), .second, .unset, .unset, .unset, .unset, .unset, .unset, .unset]) rfl ?_
      show Steps p.tables e below (T25.setTop (mkF m 58 #[.val (.long q0), .second, .val (.long q1), .second, .val (.long q2), .second, .val (.long q3), .second, .val (.long lim), .second, .val (.long win), .second, .val (.long per), .second, .val (.long (cn + (1 : Int64))), .second, .unset, .unset, .unset, .unset, .unset, .unset, .unset] [])) _
      exact k
    exact main _ (own_s1 p_lim p_cn).1 (own_s1 p_lim p_cn).2
  · refine own_Go.mono (T' := T25) (f' := (mkF m 58 #[.val (.long q0), .second, .val (.long q1), .second, .val (.long q2), .second, .val (.long q3), .second, .val (.long lim), .second, .val (.long win), .second, .val (.long per), .second, .val (.long cn), .second, .unset, .unset, .unset, .unset, .unset, .unset, .unset] [])) (fun t k => ?_) ?_
    · show Steps p.tables e below (T25.setTop (mkF m 49 #[.val (.long q0), .second, .val (.long q1), .second, .val (.long q2), .second, .val (.long q3), .second, .val (.long lim), .second, .val (.long win), .second, .val (.long per), .second, .val (.long cn), .second, .unset, .unset, .unset, .unset, .unset, .unset, .unset] [(.int (lcmpW q1 (0 : Int64)))])) _
      refine XS.ifYes X25.here hx rfl (pc0 := 49) (pc' := 58) rfl (hb hby at_49) rfl ((if0 _ _).trans (flt c49_35).2.1) (by decide) (by decide) ?_
      show Steps p.tables e below (T25.setTop (mkF m 58 #[.val (.long q0), .second, .val (.long q1), .second, .val (.long q2), .second, .val (.long q3), .second, .val (.long lim), .second, .val (.long win), .second, .val (.long per), .second, .val (.long cn), .second, .unset, .unset, .unset, .unset, .unset, .unset, .unset] [])) _
      exact k
    exact main _ p_cn.1 (Int.le_of_lt p_cn.2)
set_option maxRecDepth 65536 in
set_option maxHeartbeats 40000000 in
theorem own_comes {Post : Tables → Env → Array Value → State → Outcome → State → Prop} (hpost : ∀ tb e args s v u, (limb_1_1.after args s (.returned v) u = true ∧ limb_1_2.after args s (.returned v) u = true) → ReturnedEndW s (.returned v) u (Jvm.fieldLocs frame_1_writes args s ++ Jvm.arrayLocs frame_1_arrays args s ++ Jvm.staticLocs frame_1_statics s) 16 1152 → Post tb e args s (.returned v) u) :
    ArmFor flags0 classFile x code maxLocals ret World_1 tables_1 room_1 Calls_1 rest_1 Pre_1 Post := by
  intro l hfl _ _ p e ha hc hk s m args below hf hA hF happ hP
  obtain ⟨hcalls, hrest, hpre⟩ := hP
  obtain ⟨-, -, -, hnamed, -, -, -, hat⟩ := (Spec.applies_iff hf).mp happ
  obtain ⟨hg, hn⟩ := and_e (Cond.before_iff.mp (show (Jvm.Cond.and given_1 narrow_1).before args s = true from hpre))
  obtain ⟨g0, k0⟩ := and_e hg
  obtain ⟨g1, k1⟩ := and_e k0
  obtain ⟨g2, k2⟩ := and_e k1
  obtain ⟨g3, k3⟩ := and_e k2
  obtain ⟨w0, w1, w2, w3, rfl⟩ : ∃ w0 w1 w2 w3 : Value, args = #[w0, w1, w2, w3] := by
    have hs : args.size = 4 := by simpa [Cond.value, given_1] using g0
    obtain ⟨L⟩ := args
    match L, hs with
    | [w0, w1, w2, w3], _ => exact ⟨w0, w1, w2, w3, rfl⟩
  have hw := fun d (hd : d ∈ tables_1) => atoms_spec (ws := Jvm.Cond.code x code maxLocals ret :: tables_1) hat d (List.mem_cons_of_mem _ hd)
  obtain ⟨i0, ei0⟩ := isL_v g1
  obtain rfl : w0 = (.long i0) := Option.some.inj ei0
  obtain ⟨i1, ei1⟩ := isL_v g2
  obtain rfl : w1 = (.long i1) := Option.some.inj ei1
  obtain ⟨i2, ei2⟩ := isL_v g3
  obtain rfl : w2 = (.long i2) := Option.some.inj ei2
  obtain ⟨i3, ei3⟩ := isL_v k3
  obtain rfl : w3 = (.long i3) := Option.some.inj ei3
  obtain ⟨n, o, h1, h2, h3, vv, L, rfl, ⟨rfl, N⟩, hq⟩ := rm0 l s _ hw tables_1 i0 i1 i2 i3 s.heap s.heap.size (Nat.le_refl _)  p e ha hc hk s m _ below hf ((Spec.applies_iff_loose hf).mp happ).1 ⟨rfl, State.Warmed39.refl s, rfl⟩ trivial
  refine ⟨n, _, h1, h2, h3, hpost _ _ _ _ _ _ ⟨Cond.after_iff.mpr rfl, Cond.after_iff.mpr (eq_i res_at (Term.int_eval (1)) rfl)⟩ ⟨hq.1, hq.2.1, hq.2.2.1, (hq.2.2.2.sift fun y hy => Or.inr (N y hy)).mono (by decide) (by decide)⟩⟩
theorem main_1_1 : Claimed_1_1 := own_comes fun _ _ _ _ _ _ h hF => ⟨h.1, hF⟩
theorem main_1_2 : Claimed_1_2 := own_comes fun _ _ _ _ _ _ h hF => ⟨h.2, hF⟩
end Jvm.Pilot.@@N@@
namespace Jvm.Pilot.@@N@@
open Jvm Jvm.ClassFile Sem Op Lib Jvm.Free Jvm.Stand Jvm.Pilot.@@N@@.Jvm.D
/-! MADE BY PROGRAM (witnessworld.py) out of the Statement's table words and the real class files: 17 classes; the members and pool entries that the words name. The judged class is class 1, her method 1. -/
namespace start1
open Jvm.ClassFile
def u (s : String) : CpInfo := .utf8 (stringToUtf16 s)
/-- a pool by its gaps: so many unusable entries, then the entry; so many at the end -/
def gap : Nat → List CpInfo → List CpInfo
  | 0, r => r
  | n + 1, r => .unusable :: gap n r
def poolList (es : List (Nat × CpInfo)) (last : Nat) : List CpInfo := es.foldr (fun e r => gap e.1 (e.2 :: r)) (gap last [])
def pool (es : List (Nat × CpInfo)) (last : Nat) : Array CpInfo := ⟨poolList es last⟩
def fileOf (pool : Array CpInfo) (this : Nat) (attrs : Array Attribute := #[]) (ms : Array MethodInfo := #[]) (fl : Nat := 33) (sup : Nat := 0) (ifs : Array Nat := #[]) (fds : Array FieldInfo := #[]) : ClassFile where
  minorVersion := 0
  majorVersion := 65
  constantPool := pool
  accessFlags := fl
  thisClass := this
  superClass := sup
  interfaces := ifs
  fields := fds
  methods := ms
  attributes := attrs
def plain (name : String) (sup : Option ClassId) : Class where
  name := name
  kind := .ordinary
  loader := none
  accessFlags := 33
  super := sup
  interfaces := #[]
  cf := none
  fields := #[]
  methods := #[]
  instanceTypes := #[]
  staticTypes := #[]
  resolved := #[]
  callSites := []
  init := .initialized
  statics := none
  mirror := none

def pool0 : Array CpInfo := pool [(5, u "<init>"), (0, u "()V"), (1, .class_ 10), (1, u "java/lang/Object")] 113

def k0c0 : Code := { maxStack := 0, maxLocals := 1, code := object_method_1_code, exceptionTable := #[], attributes := #[] }
def k0m0 : Method := { name := "<init>", desc := "()V", sig := { parameters := [], returnType := none }, accessFlags := 1, code := some k0c0 }
/-- java/lang/Object -/
def k0 : Class := { plain "java/lang/Object" none with
  accessFlags := 33
  interfaces := #[]
  cf := some (fileOf pool0 8 #[] #[{ accessFlags := 1, nameIndex := 5, descriptorIndex := 6, attributes := #[] }] 33 0 #[] #[])
  fields := #[]
  methods := #[k0m0]
  instanceTypes := #[]
  staticTypes := #[]
  resolved := Array.replicate 124 none
  statics := none }

def pool1 : Array CpInfo := pool [(2, .class_ 4), (1, u "java/lang/Object"), (0, u "<init>"), (0, u "()V"), (2, .long 9223372036854775807), (1, .methodref 12 13), (0, .class_ 14), (0, .nameAndType 15 16), (0, u "java/lang/Math"), (0, u "max"), (0, u "(JJ)J"), (0, .class_ 18), (0, u "com/example/garm/garm/FixedWindowPolicy"), (0, .methodref 17 20), (0, .nameAndType 5 21), (0, u "(JJ)V"), (0, .methodref 17 23), (0, .nameAndType 24 25), (0, u "leavesRoom"), (0, u "(JJ)Z"), (0, .class_ 27), (0, u "com/example/garm/garm/WindowPolicyLeavesRoomPinLaw"), (2, u "law"), (0, u "(JJJJ)Z")] 3

def k1m0 : Method := { name := "<init>", desc := "()V", sig := { parameters := [], returnType := none }, accessFlags := 1, code := none }
def k1c1 : Code := { maxStack := 6, maxLocals := 23, code := code, exceptionTable := #[], attributes := #[] }
def k1m1 : Method := { name := "law", desc := "(JJJJ)Z", sig := { parameters := [.long, .long, .long, .long], returnType := some .boolean }, accessFlags := 9, code := some k1c1 }
/-- com/example/garm/garm/WindowPolicyLeavesRoomPinLaw -/
def k1 : Class := { plain "com/example/garm/garm/WindowPolicyLeavesRoomPinLaw" (some 0) with
  accessFlags := 49
  interfaces := #[]
  cf := some (fileOf pool1 26 #[] #[{ accessFlags := 1, nameIndex := 5, descriptorIndex := 6, attributes := #[] }, { accessFlags := 9, nameIndex := 30, descriptorIndex := 31, attributes := #[] }] 49 2 #[] #[])
  fields := #[]
  methods := #[k1m0, k1m1]
  instanceTypes := #[]
  staticTypes := #[]
  resolved := Array.replicate 35 none
  statics := none }

def pool2 : Array CpInfo := pool [(1, .class_ 2), (0, u "java/lang/Math"), (1, .class_ 6), (1, u "java/lang/Object"), (0, u "<init>"), (0, u "()V"), (89, .class_ 100), (1, u "java/lang/Math$RandomNumberGeneratorHolder"), (20, u "(JJ)J"), (50, u "negativeZeroFloatBits"), (0, u "J"), (2, u "negativeZeroDoubleBits"), (21, u "max"), (46, u "$assertionsDisabled"), (0, u "Z"), (91, u "twoToTheDoubleScaleDown"), (0, u "D"), (4, u "twoToTheDoubleScaleUp"), (9, u "E"), (3, u "PI"), (2, u "TAU"), (2, u "DEGREES_TO_RADIANS"), (0, u "RADIANS_TO_DEGREES")] 94

def k2m0 : Method := { name := "<init>", desc := "()V", sig := { parameters := [], returnType := none }, accessFlags := 2, code := none }
def k2c1 : Code := { maxStack := 4, maxLocals := 4, code := jdk_29_method_66_code, exceptionTable := #[], attributes := #[] }
def k2m1 : Method := { name := "max", desc := "(JJ)J", sig := { parameters := [.long, .long], returnType := some .long }, accessFlags := 9, code := some k2c1 }
/-- java/lang/Math -/
def k2 : Class := { plain "java/lang/Math" (some 0) with
  accessFlags := 49
  interfaces := #[]
  cf := some (fileOf pool2 1 #[.nestMembers #[98]] #[{ accessFlags := 2, nameIndex := 7, descriptorIndex := 8, attributes := #[] }, { accessFlags := 9, nameIndex := 198, descriptorIndex := 121, attributes := #[] }] 49 4 #[] #[{ accessFlags := 25, nameIndex := 354, descriptorIndex := 339, attributes := #[] }, { accessFlags := 25, nameIndex := 358, descriptorIndex := 339, attributes := #[] }, { accessFlags := 25, nameIndex := 361, descriptorIndex := 339, attributes := #[] }, { accessFlags := 26, nameIndex := 364, descriptorIndex := 339, attributes := #[] }, { accessFlags := 26, nameIndex := 365, descriptorIndex := 339, attributes := #[] }, { accessFlags := 26, nameIndex := 172, descriptorIndex := 173, attributes := #[] }, { accessFlags := 26, nameIndex := 176, descriptorIndex := 173, attributes := #[] }, { accessFlags := 8, nameIndex := 344, descriptorIndex := 339, attributes := #[] }, { accessFlags := 8, nameIndex := 338, descriptorIndex := 339, attributes := #[] }, { accessFlags := 4120, nameIndex := 245, descriptorIndex := 246, attributes := #[] }])
  fields := #[{ name := "E", type := .double, accessFlags := 25, slot := 0, constantValue := 0 }, { name := "PI", type := .double, accessFlags := 25, slot := 1, constantValue := 0 }, { name := "TAU", type := .double, accessFlags := 25, slot := 2, constantValue := 0 }, { name := "DEGREES_TO_RADIANS", type := .double, accessFlags := 26, slot := 3, constantValue := 0 }, { name := "RADIANS_TO_DEGREES", type := .double, accessFlags := 26, slot := 4, constantValue := 0 }, { name := "negativeZeroFloatBits", type := .long, accessFlags := 26, slot := 5, constantValue := 0 }, { name := "negativeZeroDoubleBits", type := .long, accessFlags := 26, slot := 6, constantValue := 0 }, { name := "twoToTheDoubleScaleUp", type := .double, accessFlags := 8, slot := 7, constantValue := 0 }, { name := "twoToTheDoubleScaleDown", type := .double, accessFlags := 8, slot := 8, constantValue := 0 }, { name := "$assertionsDisabled", type := .boolean, accessFlags := 4120, slot := 9, constantValue := 0 }]
  methods := #[k2m0, k2m1]
  instanceTypes := #[]
  staticTypes := #[.double, .double, .double, .double, .double, .long, .long, .double, .double, .boolean]
  resolved := Array.replicate 460 none
  statics := none }

def pool3 : Array CpInfo := pool [(1, .methodref 2 3), (0, .class_ 4), (0, .nameAndType 5 6), (0, u "java/lang/Object"), (0, u "<init>"), (0, u "()V"), (17, .class_ 26), (1, u "com/example/garm/garm/Policy"), (93, u "ALGORITHMS"), (0, u "Ljava/util/Map;")] 165

def k3c0 : Code := { maxStack := 1, maxLocals := 1, code := prog_33_method_1_code, exceptionTable := #[], attributes := #[] }
def k3m0 : Method := { name := "<init>", desc := "()V", sig := { parameters := [], returnType := none }, accessFlags := 0, code := some k3c0 }
/-- com/example/garm/garm/Policy -/
def k3 : Class := { plain "com/example/garm/garm/Policy" (some 0) with
  accessFlags := 1057
  interfaces := #[]
  cf := some (fileOf pool3 24 #[] #[{ accessFlags := 0, nameIndex := 5, descriptorIndex := 6, attributes := #[] }] 1057 2 #[] #[{ accessFlags := 26, nameIndex := 120, descriptorIndex := 121, attributes := #[] }])
  fields := #[{ name := "ALGORITHMS", type := (.object "java/util/Map"), accessFlags := 26, slot := 0, constantValue := 0 }]
  methods := #[k3m0]
  instanceTypes := #[]
  staticTypes := #[(.object "java/util/Map")]
  resolved := Array.replicate 287 none
  statics := none }

def pool4 : Array CpInfo := pool [(1, .methodref 2 3), (0, .class_ 4), (0, .nameAndType 5 6), (0, u "com/example/garm/garm/Policy"), (0, u "<init>"), (0, u "()V"), (24, .fieldref 32 33), (0, .class_ 34), (0, .nameAndType 35 36), (0, u "com/example/garm/garm/WindowPolicy"), (0, u "algorithm"), (0, u "Ljava/lang/String;"), (0, .fieldref 32 38), (0, .nameAndType 39 40), (0, u "limit"), (0, u "J"), (0, .fieldref 32 42), (0, .nameAndType 43 40), (0, u "windowNanos"), (13, .class_ 59), (1, u "com/example/garm/garm/WindowPolicy$Constructor"), (33, u "leavesRoom"), (0, u "(JJ)Z"), (26, u "LIMIT"), (1, u "WINDOW"), (0, u "(Ljava/lang/String;JJ)V")] 39

def k4c0 : Code := { maxStack := 4, maxLocals := 6, code := prog_55_method_1_code, exceptionTable := #[], attributes := #[] }
def k4m0 : Method := { name := "<init>", desc := "(Ljava/lang/String;JJ)V", sig := { parameters := [(.object "java/lang/String"), .long, .long], returnType := none }, accessFlags := 0, code := some k4c0 }
def k4c1 : Code := { maxStack := 6, maxLocals := 5, code := prog_55_method_7_code, exceptionTable := #[], attributes := #[] }
def k4m1 : Method := { name := "leavesRoom", desc := "(JJ)Z", sig := { parameters := [.long, .long], returnType := some .boolean }, accessFlags := 16, code := some k4c1 }
/-- com/example/garm/garm/WindowPolicy -/
def k4 : Class := { plain "com/example/garm/garm/WindowPolicy" (some 3) with
  accessFlags := 1056
  interfaces := #[]
  cf := some (fileOf pool4 32 #[.nestMembers #[57]] #[{ accessFlags := 0, nameIndex := 5, descriptorIndex := 124, attributes := #[] }, { accessFlags := 16, nameIndex := 93, descriptorIndex := 94, attributes := #[] }] 1056 2 #[] #[{ accessFlags := 24, nameIndex := 121, descriptorIndex := 36, attributes := #[] }, { accessFlags := 24, nameIndex := 123, descriptorIndex := 36, attributes := #[] }, { accessFlags := 18, nameIndex := 35, descriptorIndex := 36, attributes := #[] }, { accessFlags := 16, nameIndex := 39, descriptorIndex := 40, attributes := #[] }, { accessFlags := 16, nameIndex := 43, descriptorIndex := 40, attributes := #[] }])
  fields := #[{ name := "LIMIT", type := (.object "java/lang/String"), accessFlags := 24, slot := 0, constantValue := 0 }, { name := "WINDOW", type := (.object "java/lang/String"), accessFlags := 24, slot := 1, constantValue := 0 }, { name := "algorithm", type := (.object "java/lang/String"), accessFlags := 18, slot := 0, constantValue := 0 }, { name := "limit", type := .long, accessFlags := 16, slot := 1, constantValue := 0 }, { name := "windowNanos", type := .long, accessFlags := 16, slot := 2, constantValue := 0 }]
  methods := #[k4m0, k4m1]
  instanceTypes := #[(.object "java/lang/String"), .long, .long]
  staticTypes := #[(.object "java/lang/String"), (.object "java/lang/String")]
  resolved := Array.replicate 164 none
  statics := none }

def pool5 : Array CpInfo := pool [(1, .class_ 2), (0, u "com/example/garm/garm/FixedWindowPolicy"), (0, .string 4), (0, u "fixed-window"), (0, .methodref 6 7), (0, .class_ 8), (0, .nameAndType 9 10), (0, u "com/example/garm/garm/WindowPolicy"), (0, u "<init>"), (0, u "(Ljava/lang/String;JJ)V"), (0, .class_ 12), (0, u "com/example/garm/garm/FixedWindowPolicy$Counter"), (25, u "NAME"), (0, u "Ljava/lang/String;"), (1, u "(JJ)V")] 32

def k5c0 : Code := { maxStack := 6, maxLocals := 5, code := prog_16_method_1_code, exceptionTable := #[], attributes := #[] }
def k5m0 : Method := { name := "<init>", desc := "(JJ)V", sig := { parameters := [.long, .long], returnType := none }, accessFlags := 0, code := some k5c0 }
/-- com/example/garm/garm/FixedWindowPolicy -/
def k5 : Class := { plain "com/example/garm/garm/FixedWindowPolicy" (some 4) with
  accessFlags := 48
  interfaces := #[]
  cf := some (fileOf pool5 1 #[.nestMembers #[11]] #[{ accessFlags := 0, nameIndex := 9, descriptorIndex := 41, attributes := #[] }] 48 6 #[] #[{ accessFlags := 24, nameIndex := 38, descriptorIndex := 39, attributes := #[] }])
  fields := #[{ name := "NAME", type := (.object "java/lang/String"), accessFlags := 24, slot := 0, constantValue := 0 }]
  methods := #[k5m0]
  instanceTypes := #[(.object "java/lang/String"), .long, .long]
  staticTypes := #[(.object "java/lang/String")]
  resolved := Array.replicate 74 none
  statics := none }

def pool6 : Array CpInfo := pool [(1, .class_ 2), (0, u "java/io/Serializable"), (0, .class_ 4), (0, u "java/lang/Object")] 2

/-- java/io/Serializable -/
def k6 : Class := { plain "java/io/Serializable" (some 0) with
  accessFlags := 1537
  interfaces := #[]
  cf := some (fileOf pool6 1 #[] #[] 1537 3 #[] #[])
  fields := #[]
  methods := #[]
  instanceTypes := #[]
  staticTypes := #[]
  resolved := Array.replicate 7 none
  statics := none }

def pool7 : Array CpInfo := pool [(1, .class_ 2), (0, u "java/lang/Comparable"), (0, .class_ 4), (0, u "java/lang/Object")] 7

/-- java/lang/Comparable -/
def k7 : Class := { plain "java/lang/Comparable" (some 0) with
  accessFlags := 1537
  interfaces := #[]
  cf := some (fileOf pool7 1 #[] #[] 1537 3 #[] #[])
  fields := #[]
  methods := #[]
  instanceTypes := #[]
  staticTypes := #[]
  resolved := Array.replicate 12 none
  statics := none }

def pool8 : Array CpInfo := pool [(2, .class_ 4), (1, u "java/lang/CharSequence"), (42, .class_ 48), (0, u "java/lang/CharSequence$1CodePointIterator"), (10, .class_ 60), (0, u "java/lang/CharSequence$1CharIterator"), (5, .class_ 67), (0, u "java/lang/Object")] 63

/-- java/lang/CharSequence -/
def k8 : Class := { plain "java/lang/CharSequence" (some 0) with
  accessFlags := 1537
  interfaces := #[]
  cf := some (fileOf pool8 2 #[.nestMembers #[47, 59]] #[] 1537 66 #[] #[])
  fields := #[]
  methods := #[]
  instanceTypes := #[]
  staticTypes := #[]
  resolved := Array.replicate 131 none
  statics := none }

def pool9 : Array CpInfo := pool [(1, .class_ 2), (0, u "java/lang/constant/Constable"), (0, .class_ 4), (0, u "java/lang/Object")] 6

/-- java/lang/constant/Constable -/
def k9 : Class := { plain "java/lang/constant/Constable" (some 0) with
  accessFlags := 1537
  interfaces := #[]
  cf := some (fileOf pool9 1 #[] #[] 1537 3 #[] #[])
  fields := #[]
  methods := #[]
  instanceTypes := #[]
  staticTypes := #[]
  resolved := Array.replicate 11 none
  statics := none }

def pool10 : Array CpInfo := pool [(1, .class_ 2), (0, u "java/lang/constant/ConstantDesc"), (0, .class_ 4), (0, u "java/lang/Object")] 32

/-- java/lang/constant/ConstantDesc -/
def k10 : Class := { plain "java/lang/constant/ConstantDesc" (some 0) with
  accessFlags := 1537
  interfaces := #[]
  cf := some (fileOf pool10 1 #[] #[] 1537 3 #[] #[])
  fields := #[]
  methods := #[]
  instanceTypes := #[]
  staticTypes := #[]
  resolved := Array.replicate 37 none
  statics := none }

def pool11 : Array CpInfo := pool [(2, .class_ 4), (1, u "java/lang/Object"), (0, u "<init>"), (0, u "()V"), (3, .class_ 12), (1, u "java/lang/String"), (0, u "value"), (0, u "[B"), (2, u "coder"), (0, u "B"), (2, u "hash"), (0, u "I"), (2, u "hashIsZero"), (0, u "Z"), (13, u "COMPACT_STRINGS"), (534, .class_ 576), (0, u "java/lang/CharSequence"), (22, u "CASE_INSENSITIVE_ORDER"), (0, u "Ljava/util/Comparator;"), (500, u "serialPersistentFields"), (0, u "[Ljava/io/ObjectStreamField;"), (0, .class_ 1104), (0, u "java/lang/String$CaseInsensitiveComparator"), (1, .class_ 1107), (0, u "java/io/Serializable"), (0, .class_ 1109), (0, u "java/lang/Comparable"), (0, .class_ 1111), (0, u "java/lang/constant/Constable"), (0, .class_ 1113), (0, u "java/lang/constant/ConstantDesc"), (2, u "serialVersionUID"), (0, u "J"), (3, u "REPL"), (0, u "C"), (2, u "LATIN1"), (1, u "UTF16")] 323

def k11m0 : Method := { name := "<init>", desc := "()V", sig := { parameters := [], returnType := none }, accessFlags := 1, code := none }
/-- java/lang/String -/
def k11 : Class := { plain "java/lang/String" (some 0) with
  accessFlags := 49
  interfaces := #[6, 7, 8, 9, 10]
  cf := some (fileOf pool11 10 #[.nestMembers #[1103]] #[{ accessFlags := 1, nameIndex := 5, descriptorIndex := 6, attributes := #[] }] 49 2 #[1106, 1108, 575, 1110, 1112] #[{ accessFlags := 18, nameIndex := 13, descriptorIndex := 14, attributes := #[] }, { accessFlags := 18, nameIndex := 17, descriptorIndex := 18, attributes := #[] }, { accessFlags := 2, nameIndex := 21, descriptorIndex := 22, attributes := #[] }, { accessFlags := 2, nameIndex := 25, descriptorIndex := 26, attributes := #[] }, { accessFlags := 26, nameIndex := 1116, descriptorIndex := 1117, attributes := #[] }, { accessFlags := 24, nameIndex := 40, descriptorIndex := 26, attributes := #[] }, { accessFlags := 26, nameIndex := 1101, descriptorIndex := 1102, attributes := #[] }, { accessFlags := 26, nameIndex := 1121, descriptorIndex := 1122, attributes := #[] }, { accessFlags := 25, nameIndex := 599, descriptorIndex := 600, attributes := #[] }, { accessFlags := 24, nameIndex := 1125, descriptorIndex := 18, attributes := #[] }, { accessFlags := 24, nameIndex := 1127, descriptorIndex := 18, attributes := #[] }])
  fields := #[{ name := "value", type := (.array .byte), accessFlags := 18, slot := 0, constantValue := 0 }, { name := "coder", type := .byte, accessFlags := 18, slot := 1, constantValue := 0 }, { name := "hash", type := .int, accessFlags := 2, slot := 2, constantValue := 0 }, { name := "hashIsZero", type := .boolean, accessFlags := 2, slot := 3, constantValue := 0 }, { name := "serialVersionUID", type := .long, accessFlags := 26, slot := 0, constantValue := 0 }, { name := "COMPACT_STRINGS", type := .boolean, accessFlags := 24, slot := 1, constantValue := 0 }, { name := "serialPersistentFields", type := (.array (.object "java/io/ObjectStreamField")), accessFlags := 26, slot := 2, constantValue := 0 }, { name := "REPL", type := .char, accessFlags := 26, slot := 3, constantValue := 0 }, { name := "CASE_INSENSITIVE_ORDER", type := (.object "java/util/Comparator"), accessFlags := 25, slot := 4, constantValue := 0 }, { name := "LATIN1", type := .byte, accessFlags := 24, slot := 5, constantValue := 0 }, { name := "UTF16", type := .byte, accessFlags := 24, slot := 6, constantValue := 0 }]
  methods := #[k11m0]
  instanceTypes := #[(.array .byte), .byte, .int, .boolean]
  staticTypes := #[.long, .boolean, (.array (.object "java/io/ObjectStreamField")), .char, (.object "java/util/Comparator"), .byte, .byte]
  resolved := Array.replicate 1451 none
  statics := none }

def pool12 : Array CpInfo := pool [(1, u "java/lang/Cloneable"), (0, .class_ 1), (0, u "java/lang/Object"), (0, .class_ 3)] 3

/-- java/lang/Cloneable -/
def k12 : Class := { plain "java/lang/Cloneable" (some 0) with
  accessFlags := 1537
  interfaces := #[]
  cf := some (fileOf pool12 2 #[] #[] 1537 4 #[] #[])
  fields := #[]
  methods := #[]
  instanceTypes := #[]
  staticTypes := #[]
  resolved := Array.replicate 8 none
  statics := none }

/-- the primitive byte -/
def k13 : Class := { plain "byte" none with kind := .primitive 'B', accessFlags := 0x411 }
/-- [B -/
def k14 : Class := { plain "[B" (some 0) with kind := .array 13 .byte, interfaces := #[12, 6], accessFlags := 1041 }

/-- the primitive int -/
def k15 : Class := { plain "int" none with kind := .primitive 'I', accessFlags := 0x411 }
/-- [I -/
def k16 : Class := { plain "[I" (some 0) with kind := .array 15 .int, interfaces := #[12, 6], accessFlags := 1041 }

def heap : Heap := #[]
def classes : Array Class := #[k0, k1, k2, k3, k4, k5, k6, k7, k8, k9, k10, k11, k12, k13, k14, k15, k16]
def interned : List (Array UInt16 × Addr) := []
def slotsUsed : Nat := 0
def theMethod : MethodId := ⟨1, 1⟩
def args0 : Array Value := #[.long 10, .long 3, .long 2, .long 60]
def aboutOver (below : List Frame) : State where
  vm := { classes := classes, interned := interned.toArray }
  heap := heap
  slotsUsed := slotsUsed
  threads := #[{ frames := .invoking theMethod args0 :: below }]
def below0 : List Frame := [.native { method := ⟨0, 0⟩, args := #[] }]
def about1 : State := aboutOver below0
def p0 : Program := .bare "" "" ""
def e0 : Env := launch0.env 0 0 0
theorem w_frames : about1.frames = Frame.invoking theMethod args0 :: below0 := rfl
set_option maxRecDepth 65536 in
theorem w_args : argsFit about1.vm theMethod args0 = true := by decide +kernel
set_option maxRecDepth 65536 in
theorem w_heap : heapFits about1 = true := by decide +kernel
set_option maxRecDepth 65536 in
theorem w_runnable : about1.curStatus? = some .runnable := by decide +kernel
set_option maxRecDepth 65536 in
theorem w_alone : about1.alone = true := by decide +kernel
set_option maxRecDepth 65536 in
theorem w_named : about1.methodNamed? x = some theMethod := by decide +kernel
set_option maxRecDepth 65536 in
theorem w_hears : about1.hears theMethod below0 = true := by decide +kernel
set_option maxRecDepth 65536 in
theorem w_ripe : about1.ripe theMethod args0 below0 = true := by decide +kernel
theorem w_running : about1.status = .running := rfl
set_option maxRecDepth 65536 in
theorem w_room : about1.hasRoom e0.platform room_1 = true :=
  launch0.hasRoom_least _ room_1 (by decide +kernel) (by decide +kernel) (by decide +kernel) (by decide +kernel) (by decide +kernel) (by decide +kernel)
theorem allAtoms_all (ts : List Jvm.Cond) (a : Array Jvm.Value) (st : Jvm.State) : (allAtoms ts).before a st = ts.all (fun c => c.before a st) := by
  induction ts with
  | nil => rfl
  | cons c t ih =>
    show (Jvm.Cond.and c (allAtoms t)).before a st = _
    rw [Jvm.Cond.before_and, ih, List.all_cons]
def words1 : List Jvm.Cond := Jvm.Cond.code x code maxLocals ret :: tables_1
/-- a 'code' word, met by the world's own term for the bytes: nothing is compared byte by byte -/
theorem code_word {y : MethodName} {bytes : ByteArray} {mx : Nat} {rt : Option FieldType} {a : Array Value} {s : State} {m : MethodId} {meth : Method} {c : Code} (h1 : s.methodNamed? y = some m) (h2 : s.vm.method? m = some meth) (h3 : meth.code = some c) (h4 : c.code = bytes)
    (h5 : (c.maxLocals == mx && c.exceptionTable.isEmpty && decide (c.maxStack ≤ mostOperands) && decide (meth.sig.returnType = rt) && !meth.locks && decide (parseMethodDescriptor y.desc = some meth.sig)) = true) : (Jvm.Cond.code y bytes mx rt).before a s = true := by
  simp only [Bool.and_eq_true, beq_iff_eq, Bool.not_eq_true', decide_eq_true_eq] at h5
  obtain ⟨⟨⟨⟨⟨g1, g2⟩, g3⟩, g4⟩, g5⟩, g6⟩ := h5
  simp [Cond.before, Cond.holds, Cond.value, h1, h2, h3, h4, g1, g2, g3, g4, g5, g6]
def isCode : Jvm.Cond → Bool
  | .code _ _ _ _ => true
  | _ => false
theorem all_split {L : List Jvm.Cond} {P : Jvm.Cond → Bool} (h1 : L.all (fun c => isCode c || P c) = true) (h2 : ∀ c ∈ L.filter isCode, P c = true) : L.all P = true := by
  refine List.all_eq_true.mpr fun c hc => ?_
  have h := List.all_eq_true.mp h1 c hc
  rcases Bool.eq_false_or_eq_true (isCode c) with hi | hi
  · exact h2 c (List.mem_filter.mpr ⟨hc, hi⟩)
  · simpa [hi] using h
set_option maxRecDepth 65536 in
theorem w_c0 : (Jvm.Cond.code x code maxLocals ret).before args0 about1 = true := code_word (m := ⟨1, 1⟩) (meth := k1m1) (c := k1c1) (by decide +kernel) rfl rfl rfl (by decide +kernel)
set_option maxRecDepth 65536 in
theorem w_c1 : (Jvm.Cond.code ({ cls := "java/lang/Math", name := "max", desc := "(JJ)J" } : Jvm.MethodName) jdk_29_method_66_code (4 : Nat) (Option.some Jvm.ClassFile.FieldType.long)).before args0 about1 = true := code_word (m := ⟨2, 1⟩) (meth := k2m1) (c := k2c1) (by decide +kernel) rfl rfl rfl (by decide +kernel)
set_option maxRecDepth 65536 in
theorem w_c2 : (Jvm.Cond.code ({ cls := "com/example/garm/garm/FixedWindowPolicy", name := "<init>", desc := "(JJ)V" } : Jvm.MethodName) prog_16_method_1_code (5 : Nat) (Option.none : Option Jvm.ClassFile.FieldType)).before args0 about1 = true := code_word (m := ⟨5, 0⟩) (meth := k5m0) (c := k5c0) (by decide +kernel) rfl rfl rfl (by decide +kernel)
set_option maxRecDepth 65536 in
theorem w_c3 : (Jvm.Cond.code ({ cls := "com/example/garm/garm/WindowPolicy", name := "<init>", desc := "(Ljava/lang/String;JJ)V" } : Jvm.MethodName) prog_55_method_1_code (6 : Nat) (Option.none : Option Jvm.ClassFile.FieldType)).before args0 about1 = true := code_word (m := ⟨4, 0⟩) (meth := k4m0) (c := k4c0) (by decide +kernel) rfl rfl rfl (by decide +kernel)
set_option maxRecDepth 65536 in
theorem w_c4 : (Jvm.Cond.code ({ cls := "com/example/garm/garm/Policy", name := "<init>", desc := "()V" } : Jvm.MethodName) prog_33_method_1_code (1 : Nat) (Option.none : Option Jvm.ClassFile.FieldType)).before args0 about1 = true := code_word (m := ⟨3, 0⟩) (meth := k3m0) (c := k3c0) (by decide +kernel) rfl rfl rfl (by decide +kernel)
set_option maxRecDepth 65536 in
theorem w_c5 : (Jvm.Cond.code ({ cls := "java/lang/Object", name := "<init>", desc := "()V" } : Jvm.MethodName) object_method_1_code (1 : Nat) (Option.none : Option Jvm.ClassFile.FieldType)).before args0 about1 = true := code_word (m := ⟨0, 0⟩) (meth := k0m0) (c := k0c0) (by decide +kernel) rfl rfl rfl (by decide +kernel)
set_option maxRecDepth 65536 in
theorem w_c6 : (Jvm.Cond.code ({ cls := "com/example/garm/garm/WindowPolicy", name := "leavesRoom", desc := "(JJ)Z" } : Jvm.MethodName) prog_55_method_7_code (5 : Nat) (Option.some Jvm.ClassFile.FieldType.boolean)).before args0 about1 = true := code_word (m := ⟨4, 1⟩) (meth := k4m1) (c := k4c1) (by decide +kernel) rfl rfl rfl (by decide +kernel)
def codes1 : List Jvm.Cond := [Jvm.Cond.code x code maxLocals ret, Jvm.Cond.code ({ cls := "java/lang/Math", name := "max", desc := "(JJ)J" } : Jvm.MethodName) jdk_29_method_66_code (4 : Nat) (Option.some Jvm.ClassFile.FieldType.long), Jvm.Cond.code ({ cls := "com/example/garm/garm/FixedWindowPolicy", name := "<init>", desc := "(JJ)V" } : Jvm.MethodName) prog_16_method_1_code (5 : Nat) (Option.none : Option Jvm.ClassFile.FieldType), Jvm.Cond.code ({ cls := "com/example/garm/garm/WindowPolicy", name := "<init>", desc := "(Ljava/lang/String;JJ)V" } : Jvm.MethodName) prog_55_method_1_code (6 : Nat) (Option.none : Option Jvm.ClassFile.FieldType), Jvm.Cond.code ({ cls := "com/example/garm/garm/Policy", name := "<init>", desc := "()V" } : Jvm.MethodName) prog_33_method_1_code (1 : Nat) (Option.none : Option Jvm.ClassFile.FieldType), Jvm.Cond.code ({ cls := "java/lang/Object", name := "<init>", desc := "()V" } : Jvm.MethodName) object_method_1_code (1 : Nat) (Option.none : Option Jvm.ClassFile.FieldType), Jvm.Cond.code ({ cls := "com/example/garm/garm/WindowPolicy", name := "leavesRoom", desc := "(JJ)Z" } : Jvm.MethodName) prog_55_method_7_code (5 : Nat) (Option.some Jvm.ClassFile.FieldType.boolean)]
set_option maxRecDepth 65536 in
theorem codes_eq : words1.filter isCode = codes1 := rfl
theorem w_codes : ∀ c ∈ words1.filter isCode, c.before args0 about1 = true := by
  rw [codes_eq]
  intro c hc
  simp only [codes1, List.mem_cons, List.not_mem_nil, or_false] at hc
  rcases hc with rfl | rfl | rfl | rfl | rfl | rfl | rfl
  · exact w_c0
  · exact w_c1
  · exact w_c2
  · exact w_c3
  · exact w_c4
  · exact w_c5
  · exact w_c6
set_option maxRecDepth 65536 in
theorem w_t1 : (words1.take 24).all (fun c => isCode c || c.before args0 about1) = true := by decide +kernel
set_option maxRecDepth 65536 in
theorem w_t2 : (words1.drop 24).all (fun c => isCode c || c.before args0 about1) = true := by decide +kernel
theorem w_tables : (allAtoms (Jvm.Cond.code x code maxLocals ret :: tables_1)).before args0 about1 = true := by
  rw [allAtoms_all]
  show words1.all (fun c => c.before args0 about1) = true
  refine all_split ?_ w_codes
  rw [← List.take_append_drop 24 words1, List.all_append, w_t1, w_t2]
  rfl
set_option maxRecDepth 65536 in
theorem w_case : (Jvm.Cond.and given_1 narrow_1).before args0 about1 = true := by decide +kernel
theorem w_applies : (headSpec (Jvm.Cond.code x code maxLocals ret :: tables_1) room_1).applies x e0.platform about1 = true :=
  (Spec.applies_iff w_frames).mpr ⟨w_running, w_runnable, w_alone, w_named, w_hears, w_ripe, w_room, w_tables⟩
theorem atStart : AtStart classFile x code maxLocals ret World_1 tables_1 room_1 Calls_1 rest_1 Pre_1 launch0 p0 e0 about1 theMethod args0 below0 :=
  ⟨lists_1, trivial, launch0.admits_env _ _ _, launch0.least_env, fairChoices_fair.cas, fairChoices_fair.clock, w_frames, w_args, w_heap, w_applies, trivial, trivial, w_case⟩
end start1
theorem witness_1 : WitnessClaimed_1 := ⟨start1.p0, start1.e0, start1.about1, start1.theMethod, start1.args0, start1.below0, start1.atStart⟩
end Jvm.Pilot.@@N@@
