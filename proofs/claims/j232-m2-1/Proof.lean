import JvmDerived
import JvmDerived.Pilot.@@N@@Statement
import JvmDerived.Pilot.@@N@@Code
set_option linter.unusedVariables false
set_option linter.unusedSimpArgs false
@@BLOCK:HandJ.lean.txt@@
@@BLOCK:SymMore.lean.txt@@
namespace Jvm.Pilot.@@N@@
open Jvm Jvm.ClassFile Sem Op Lib Jvm.Free Jvm.Stand Jvm.LawKit Jvm.RoadKit Bundle Jvm.Pilot.@@N@@.Jvm.D
/-! the goal of a walk: from this frame the run comes to an end of which K holds -/
def own_Go (p : Program) (e : Env) (below : List Frame) (T : State) (f : JFrame) (K : State → Outcome → Prop) : Prop := ∃ s₂ o, Steps p.tables e below (T.setTop f) s₂ ∧ K s₂ o
theorem own_Go.mono {p : Program} {e : Env} {below : List Frame} {T T' : State} {f f' : JFrame} {K : State → Outcome → Prop} (h : ∀ t, Steps p.tables e below (T'.setTop f') t → Steps p.tables e below (T.setTop f) t) (g : own_Go p e below T' f' K) : own_Go p e below T f K := by
  obtain ⟨a, o, h1, h2⟩ := g; exact ⟨a, o, h _ h1, h2⟩
def own_K (s : State) (below : List Frame) (Qv : Option Value → Heap → List Loc → Prop) (cc ss : Nat) : State → Outcome → Prop := fun s₂ o => s₂.status = .running ∧ Ended s₂ below o ∧ ∃ v L, o = .returned v ∧ Qv v s₂.heap L ∧ FrameEnd s o s₂ L cc ss
theorem own_body {l : Launch} {y : MethodName} {bytes : ByteArray} {maxL : Nat} {ret : Option FieldType} {ws : List Jvm.Cond} {rm : Room} {Z : State} {as' : Array Value} {h0 : Heap} {Qv : Option Value → Heap → List Loc → Prop} {cc ss : Nat} (hpn : plainFor y = true)
    (body : ∀ (p : Program) (e : Env) (s : State) (m : MethodId) (below : List Frame) (meth : Method) (c : Code) (s₁ : State), p.tables.exec = Jvm.exec → c.code = bytes → c.maxLocals = maxL → meth.sig.returnType = ret → meth.locks = false → s.vm.findClass y.cls = some m.cls → meth.name = y.name → Z.Warmed39 s.vm → Stand p l e rm s m as' below meth c s₁ [] 0 0 → s₁.heap = h0 → own_Go p e below s₁ (entryFrame m as' maxL) (own_K s below Qv cc ss)) :
    MetFree l y (head1 (Jvm.Cond.code y bytes maxL ret :: ws) rm) (fun a U => a = as' ∧ Z.Warmed39 U.vm ∧ U.heap = h0) (fun _ _ _ _ _ => True) (fun _ U o U' => ∃ v L, o = .returned v ∧ Qv v U'.heap L ∧ FrameEnd U o U' L cc ss) := by
  refine MetFree.of_bodySF hpn hisR ?_
  intro p e s m args below meth c s₁ Bd hml0 hP hK
  obtain ⟨rfl, hZ, hh⟩ := hP
  exact body p e s m below meth c s₁ Bd.exec Bd.bytes hml0 Bd.returns Bd.notSynchronized (findClass_of_methodNamed Bd.named) (name_of_methodNamed Bd.named Bd.method).1 hZ (Stand.of_body Bd) (by rw [← hh, Bd.state]; rfl)
section Ret
variable {p : Program} {l : Launch} {e : Env} {R : Room} {s : State} {m : MethodId} {args : Array Value} {below : List Frame} {meth : Method} {c : Code} {T : State} {locs : List Loc} {cells slots : Nat} {Qv : Option Value → Heap → List Loc → Prop} {cc ss pc : Nat} {Ls : Array Slot} {rest : List Value}
theorem own_ret (X : Stand p l e R s m args below meth c T locs cells slots) {f : JFrame} {v : Option Value} (hv : meth.sig.returnType = none → v = none) (hlk : meth.locks = false)
    (hst : ∀ fs, (∀ (f : JFrame) (acts : List Action), f.method = m → f.locked = none → f.entered = [] → (doReturn e (T.setTop f) acts v).1 = T.setFrames fs) → Steps p.tables e below (T.setTop f) (T.setFrames fs)) (hq : Qv v T.heap locs) (hc : cells ≤ cc) (hs : slots ≤ ss) :
    own_Go p e below T f (own_K s below Qv cc ss) := by
  obtain ⟨fs, hr, hrun, hended, hW, hsame⟩ := X.leave (v := v) hv hlk
  exact ⟨_, _, hst fs hr, hrun, hended, v, locs, rfl, hq, ⟨_, rfl⟩, hW, hsame.mono hc hs⟩
theorem own_retN (X : Stand p l e R s m args below meth c T locs cells slots) (hx : p.tables.exec = Jvm.exec) {z : Int32} {t : FieldType} (hret : meth.sig.returnType = some t) (ht : t = .boolean ∨ t = .byte ∨ t = .char ∨ t = .short) (hlk : meth.locks = false) (hd : decode c.code pc = .ok (.ireturn, 1))
    (hq : Qv (some (.int (nar t z))) T.heap locs) (hc : cells ≤ cc) (hs : slots ≤ ss) : own_Go p e below T (mkF m pc Ls (.int z :: rest)) (own_K s below Qv cc ss) :=
  own_ret X (fun h => by rw [hret] at h; cases h) hlk (fun fs hr => retN X hx hret ht hd hr) hq hc hs
theorem own_retI (X : Stand p l e R s m args below meth c T locs cells slots) (hx : p.tables.exec = Jvm.exec) {z : Int32} (hret : meth.sig.returnType = some .int) (hlk : meth.locks = false) (hd : decode c.code pc = .ok (.ireturn, 1))
    (hq : Qv (some (.int z)) T.heap locs) (hc : cells ≤ cc) (hs : slots ≤ ss) : own_Go p e below T (mkF m pc Ls (.int z :: rest)) (own_K s below Qv cc ss) :=
  own_ret X (fun h => by rw [hret] at h; cases h) hlk (fun fs hr => retOut X hx hret rfl (Or.inl ⟨rfl, Or.inl rfl, z, rfl⟩) hd hr) hq hc hs
theorem own_retJ (X : Stand p l e R s m args below meth c T locs cells slots) (hx : p.tables.exec = Jvm.exec) {z : Int64} (hret : meth.sig.returnType = some .long) (hlk : meth.locks = false) (hd : decode c.code pc = .ok (.lreturn, 1))
    (hq : Qv (some (.long z)) T.heap locs) (hc : cells ≤ cc) (hs : slots ≤ ss) : own_Go p e below T (mkF m pc Ls (.long z :: rest)) (own_K s below Qv cc ss) :=
  own_ret X (fun h => by rw [hret] at h; cases h) hlk (fun fs hr => retOut X hx hret rfl (Or.inr (Or.inl ⟨rfl, rfl, z, rfl⟩)) hd hr) hq hc hs
theorem own_retA (X : Stand p l e R s m args below meth c T locs cells slots) (hx : p.tables.exec = Jvm.exec) {w : Value} {t : FieldType} (hret : meth.sig.returnType = some t) (hn : narrow t w = w) (ht : t.isReference = true ∧ w.isRef = true) (hlk : meth.locks = false) (hd : decode c.code pc = .ok (.areturn, 1))
    (hq : Qv (some w) T.heap locs) (hc : cells ≤ cc) (hs : slots ≤ ss) : own_Go p e below T (mkF m pc Ls (w :: rest)) (own_K s below Qv cc ss) :=
  own_ret X (fun h => by rw [hret] at h; cases h) hlk (fun fs hr => retOut X hx hret hn (Or.inr (Or.inr (Or.inr (Or.inr ⟨rfl, ht.1, ht.2⟩)))) hd hr) hq hc hs
theorem own_retV (X : Stand p l e R s m args below meth c T locs cells slots) (hx : p.tables.exec = Jvm.exec) (hret : meth.sig.returnType = none) (hlk : meth.locks = false) (hd : decode c.code pc = .ok (.return_, 1))
    (hq : Qv none T.heap locs) (hc : cells ≤ cc) (hs : slots ≤ ss) : own_Go p e below T (mkF m pc Ls []) (own_K s below Qv cc ss) :=
  own_ret X (fun _ => rfl) hlk (fun fs hr => X.returnOut hx hret hd hr) hq hc hs
theorem own_lremM {g : JFrame} {target : State} (X : Stand p l e R s m args below meth c T locs cells slots) (hx : p.tables.exec = Jvm.exec) (hg : g.method = m) {x y : Int64} (hd : decode c.code g.pc = .ok (.lrem, 1)) (hs : g.stack = .long y :: .long x :: rest) (hy : y ≠ 0)
    (hr : Steps p.tables e below (T.setTop { g with pc := g.pc + 1, stack := .long (x % y) :: rest }) target) : Steps p.tables e below (T.setTop g) target := XS.lrem X.here hx hg hd hs hy (by rw [lrem_mod]; exact hr)
end Ret
theorem pd_0 : parseMethodDescriptor "(II)I" = some ⟨[.int, .int], some .int⟩ := by decide +kernel
theorem pd_1 : parseMethodDescriptor "([JI)[J" = some ⟨[(.array .long), .int], some (.array .long)⟩ := by decide +kernel
theorem pd_2 : parseMethodDescriptor "(I)V" = some ⟨[.int], none⟩ := by decide +kernel
theorem pd_3 : parseMethodDescriptor "(JJ)J" = some ⟨[.long, .long], some .long⟩ := by decide +kernel
theorem pd_4 : parseMethodDescriptor "()V" = some ⟨[], none⟩ := by decide +kernel
theorem pd_5 : parseMethodDescriptor "(JJJJ)V" = some ⟨[.long, .long, .long, .long], none⟩ := by decide +kernel
theorem pd_6 : parseMethodDescriptor "()I" = some ⟨[], some .int⟩ := by decide +kernel
theorem pd_7 : parseMethodDescriptor "(I)J" = some ⟨[.int], some .long⟩ := by decide +kernel
theorem own_lt {x y : Int64} : lcmpW x y < 0 ↔ x < y := lw_lt x y
theorem own_gt {x y : Int64} : (0 : Int32) < lcmpW x y ↔ y < x := lw_gt x y
theorem own_eq0 {x y : Int64} : lcmpW x y = 0 ↔ x = y := lw_eq x y
theorem own_nonneg (a : Int64) : ¬ (a &&& (9223372036854775807 : Int64)) < 0 := by
  have h := c_maskL a 9223372036854775807 63 (by decide) (by decide)
  rw [Int64.lt_iff_toInt_lt, h]; exact Int.not_lt.mpr (Int.emod_nonneg _ (by decide))
def own_Seg (Z : State) (n0 : Nat) (h : Heap) (a1 : Addr) (cnt z : Int32) (a2 a3 a4 a5 : Addr) (k2 k3 k4 k5 : ClassId) (v2 v3 v4 v5 : List Value) : Prop := Exa Z h a1 "com/example/uplog/uplog/SegmentIndex" ∧ Fld Z h a1 "com/example/uplog/uplog/SegmentIndex" "count" "I" (.int cnt) ∧ Fld Z h a1 "com/example/uplog/uplog/SegmentIndex" "offsets" "[J" (.ref a2) ∧ Fld Z h a1 "com/example/uplog/uplog/SegmentIndex" "positions" "[J" (.ref a3) ∧ Fld Z h a1 "com/example/uplog/uplog/SegmentIndex" "maxTimestamps" "[J" (.ref a4) ∧ Fld Z h a1 "com/example/uplog/uplog/SegmentIndex" "writtenAts" "[J" (.ref a5) ∧ Arv Z h a2 k2 .long z v2 (.long (0 : Int64)) ∧ Arv Z h a3 k3 .long z v3 (.long (0 : Int64)) ∧ Arv Z h a4 k4 .long z v4 (.long (0 : Int64)) ∧ Arv Z h a5 k5 .long z v5 (.long (0 : Int64)) ∧ a2 ≠ a3 ∧ a2 ≠ a4 ∧ a2 ≠ a5 ∧ a3 ≠ a4 ∧ a3 ≠ a5 ∧ a4 ≠ a5 ∧ n0 ≤ a1 ∧ n0 ≤ a2 ∧ n0 ≤ a3 ∧ n0 ≤ a4 ∧ n0 ≤ a5
theorem d9_0 : decode jdk_29_method_66_code 0 = .ok (.lload_n 0, 1) := by decide +kernel
theorem d9_1 : decode jdk_29_method_66_code 1 = .ok (.lload_n 2, 1) := by decide +kernel
theorem d9_2 : decode jdk_29_method_66_code 2 = .ok (.lcmp, 1) := by decide +kernel
theorem d9_3 : decode jdk_29_method_66_code 3 = .ok (.ifCond .lt 7, 3) := by decide +kernel
theorem d9_6 : decode jdk_29_method_66_code 6 = .ok (.lload_n 0, 1) := by decide +kernel
theorem d9_7 : decode jdk_29_method_66_code 7 = .ok (.goto 4, 3) := by decide +kernel
theorem d9_10 : decode jdk_29_method_66_code 10 = .ok (.lload_n 2, 1) := by decide +kernel
theorem d9_11 : decode jdk_29_method_66_code 11 = .ok (.lreturn, 1) := by decide +kernel
def B9_0 (q1 : Int64) (q2 : Int64) : Int64 := (if (lcmpW q1 q2) < (0 : Int32) then q2 else q1)
theorem ef_rm9 (m : MethodId) (x0 : Int64) (x1 : Int64) : entryFrame m #[(.long x0), (.long x1)] 4 = mkF m 0 #[.val (.long x0), .second, .val (.long x1), .second] [] := by first | (simp [entryFrame, mkF, argsToLocals, Value.category]; done) | rfl
def Q9 (Z : State) (q1 : Int64) (q2 : Int64)  (h0 : Heap) (n0 : Nat) (v : Option Value) (h : Heap) (L : List Loc) : Prop := v = some (.long (B9_0 q1 q2)) ∧ Fr n0 L ∧ h = h0
set_option maxRecDepth 65536 in
set_option maxHeartbeats 40000000 in
theorem rm9 (l : Launch) (Z : State) (a0 : Array Value) (hw : ∀ d ∈ tables_1, d.before a0 Z = true) (ws : List Jvm.Cond) (q1 : Int64) (q2 : Int64)  (h0 : Heap) (n0 : Nat) (Z0 : n0 ≤ h0.size)  :
    MetFree l (⟨"java/lang/Math", "max", "(JJ)J"⟩ : MethodName) (head1 (Jvm.Cond.code (⟨"java/lang/Math", "max", "(JJ)J"⟩ : MethodName) jdk_29_method_66_code 4 (some .long) :: ws) ({ frames := 0, cells := 0, slots := 0, locals := 0 } : Room)) (fun a U => a = #[(.long q1), (.long q2)] ∧ Z.Warmed39 U.vm ∧ U.heap = h0) (fun _ _ _ _ _ => True) (fun _ U o U' => ∃ v L, o = .returned v ∧ Q9 Z q1 q2  h0 n0 v U'.heap L ∧ FrameEnd U o U' L 0 0) := by
  refine own_body (Qv := Q9 Z q1 q2  h0 n0) (Jvm.Free.JP.mathPlain rfl (by decide +kernel)) ?_
  intro p e s m below meth c s₁ hx hby hml hret hlk hown hnm hZ X0 e0
  replace hown : s.vm.findClass "java/lang/Math" = some m.cls := hown
  replace hnm : meth.name = "max" := hnm
  have N0 := Fr.nil n0
  refine own_Go.mono (T' := s₁) (f' := (mkF m 0 #[.val (.long q1), .second, .val (.long q2), .second] [])) (fun t k => castTop (ef_rm9 m q1 q2) k) ?_
  have hv : (B9_0 q1 q2) = (B9_0 q1 q2) := rfl
  refine own_Go.mono (T' := s₁) (f' := (mkF m 3 #[.val (.long q1), .second, .val (.long q2), .second] [(.int (lcmpW q1 q2))])) (fun t k => ?_) ?_
  · show Steps p.tables e below (s₁.setTop (mkF m 0 #[.val (.long q1), .second, .val (.long q2), .second] [])) _
    refine XS.lloadN X0.here hx rfl (hb hby d9_0) rfl ?_
    show Steps p.tables e below (s₁.setTop (mkF m 1 #[.val (.long q1), .second, .val (.long q2), .second] [(.long q1)])) _
    refine XS.lloadN X0.here hx rfl (hb hby d9_1) rfl ?_
    show Steps p.tables e below (s₁.setTop (mkF m 2 #[.val (.long q1), .second, .val (.long q2), .second] [(.long q2), (.long q1)])) _
    refine XS.lcmp X0.here hx rfl (hb hby d9_2) rfl ?_
    show Steps p.tables e below (s₁.setTop (mkF m 3 #[.val (.long q1), .second, .val (.long q2), .second] [(.int (lcmpW q1 q2))])) _
    exact k
  by_cases c3_1 : (lcmpW q1 q2) < (0 : Int32)
  · refine own_Go.mono (T' := s₁) (f' := (mkF m 11 #[.val (.long q1), .second, .val (.long q2), .second] [(.long q2)])) (fun t k => ?_) ?_
    · show Steps p.tables e below (s₁.setTop (mkF m 3 #[.val (.long q1), .second, .val (.long q2), .second] [(.int (lcmpW q1 q2))])) _
      refine XS.ifYes X0.here hx rfl (pc0 := 3) (pc' := 10) rfl (hb hby d9_3) rfl ((if0 _ _).trans (tlt c3_1).1) (by decide) (by decide) ?_
      show Steps p.tables e below (s₁.setTop (mkF m 10 #[.val (.long q1), .second, .val (.long q2), .second] [])) _
      refine XS.lloadN X0.here hx rfl (hb hby d9_10) rfl ?_
      show Steps p.tables e below (s₁.setTop (mkF m 11 #[.val (.long q1), .second, .val (.long q2), .second] [(.long q2)])) _
      exact k
    exact own_retJ X0 hx hret hlk (hb hby d9_11) (⟨congrArg some (congrArg Value.long (by rw [← hv]; unfold B9_0; rw [if_pos c3_1]; first | done | rfl)), N0, e0⟩) (by decide) (by decide)
  · refine own_Go.mono (T' := s₁) (f' := (mkF m 11 #[.val (.long q1), .second, .val (.long q2), .second] [(.long q1)])) (fun t k => ?_) ?_
    · show Steps p.tables e below (s₁.setTop (mkF m 3 #[.val (.long q1), .second, .val (.long q2), .second] [(.int (lcmpW q1 q2))])) _
      refine XS.ifNo X0.here hx rfl (hb hby d9_3) rfl ((if0 _ _).trans (flt c3_1).1) ?_
      show Steps p.tables e below (s₁.setTop (mkF m 6 #[.val (.long q1), .second, .val (.long q2), .second] [])) _
      refine XS.lloadN X0.here hx rfl (hb hby d9_6) rfl ?_
      show Steps p.tables e below (s₁.setTop (mkF m 7 #[.val (.long q1), .second, .val (.long q2), .second] [(.long q1)])) _
      refine XS.goto X0.here hx rfl (pc0 := 7) (pc' := 11) rfl (hb hby d9_7) (by decide) (by decide) ?_
      show Steps p.tables e below (s₁.setTop (mkF m 11 #[.val (.long q1), .second, .val (.long q2), .second] [(.long q1)])) _
      exact k
    exact own_retJ X0 hx hret hlk (hb hby d9_11) (⟨congrArg some (congrArg Value.long (by rw [← hv]; unfold B9_0; rw [if_neg c3_1]; first | done | rfl)), N0, e0⟩) (by decide) (by decide)
theorem d14_0 : decode jdk_29_method_65_code 0 = .ok (.iload_n 0, 1) := by decide +kernel
theorem d14_1 : decode jdk_29_method_65_code 1 = .ok (.iload_n 1, 1) := by decide +kernel
theorem d14_2 : decode jdk_29_method_65_code 2 = .ok (.if_icmp .lt 7, 3) := by decide +kernel
theorem d14_5 : decode jdk_29_method_65_code 5 = .ok (.iload_n 0, 1) := by decide +kernel
theorem d14_6 : decode jdk_29_method_65_code 6 = .ok (.goto 4, 3) := by decide +kernel
theorem d14_9 : decode jdk_29_method_65_code 9 = .ok (.iload_n 1, 1) := by decide +kernel
theorem d14_10 : decode jdk_29_method_65_code 10 = .ok (.ireturn, 1) := by decide +kernel
def B14_0 (p1 : Int32) (p2 : Int32) : Int32 := (if p1 < p2 then p2 else p1)
theorem ef_rm14 (m : MethodId) (x0 : Int32) (x1 : Int32) : entryFrame m #[(.int x0), (.int x1)] 2 = mkF m 0 #[.val (.int x0), .val (.int x1)] [] := by first | (simp [entryFrame, mkF, argsToLocals, Value.category]; done) | rfl
def Q14 (Z : State) (p1 : Int32) (p2 : Int32)  (h0 : Heap) (n0 : Nat) (v : Option Value) (h : Heap) (L : List Loc) : Prop := v = some (.int (B14_0 p1 p2)) ∧ Fr n0 L ∧ h = h0
set_option maxRecDepth 65536 in
set_option maxHeartbeats 40000000 in
theorem rm14 (l : Launch) (Z : State) (a0 : Array Value) (hw : ∀ d ∈ tables_1, d.before a0 Z = true) (ws : List Jvm.Cond) (p1 : Int32) (p2 : Int32)  (h0 : Heap) (n0 : Nat) (Z0 : n0 ≤ h0.size)  :
    MetFree l (⟨"java/lang/Math", "max", "(II)I"⟩ : MethodName) (head1 (Jvm.Cond.code (⟨"java/lang/Math", "max", "(II)I"⟩ : MethodName) jdk_29_method_65_code 2 (some .int) :: ws) ({ frames := 0, cells := 0, slots := 0, locals := 0 } : Room)) (fun a U => a = #[(.int p1), (.int p2)] ∧ Z.Warmed39 U.vm ∧ U.heap = h0) (fun _ _ _ _ _ => True) (fun _ U o U' => ∃ v L, o = .returned v ∧ Q14 Z p1 p2  h0 n0 v U'.heap L ∧ FrameEnd U o U' L 0 0) := by
  refine own_body (Qv := Q14 Z p1 p2  h0 n0) (Jvm.Free.JP.mathPlain rfl (by decide +kernel)) ?_
  intro p e s m below meth c s₁ hx hby hml hret hlk hown hnm hZ X0 e0
  replace hown : s.vm.findClass "java/lang/Math" = some m.cls := hown
  replace hnm : meth.name = "max" := hnm
  have N0 := Fr.nil n0
  refine own_Go.mono (T' := s₁) (f' := (mkF m 0 #[.val (.int p1), .val (.int p2)] [])) (fun t k => castTop (ef_rm14 m p1 p2) k) ?_
  have hv : (B14_0 p1 p2) = (B14_0 p1 p2) := rfl
  refine own_Go.mono (T' := s₁) (f' := (mkF m 2 #[.val (.int p1), .val (.int p2)] [(.int p2), (.int p1)])) (fun t k => ?_) ?_
  · show Steps p.tables e below (s₁.setTop (mkF m 0 #[.val (.int p1), .val (.int p2)] [])) _
    refine XS.iloadN X0.here hx rfl (hb hby d14_0) rfl ?_
    show Steps p.tables e below (s₁.setTop (mkF m 1 #[.val (.int p1), .val (.int p2)] [(.int p1)])) _
    refine XS.iloadN X0.here hx rfl (hb hby d14_1) rfl ?_
    show Steps p.tables e below (s₁.setTop (mkF m 2 #[.val (.int p1), .val (.int p2)] [(.int p2), (.int p1)])) _
    exact k
  by_cases c2_2 : p1 < p2
  · refine own_Go.mono (T' := s₁) (f' := (mkF m 10 #[.val (.int p1), .val (.int p2)] [(.int p2)])) (fun t k => ?_) ?_
    · show Steps p.tables e below (s₁.setTop (mkF m 2 #[.val (.int p1), .val (.int p2)] [(.int p2), (.int p1)])) _
      refine XS.icmpYes X0.here hx rfl (pc0 := 2) (pc' := 9) rfl (hb hby d14_2) rfl (tlt c2_2).1 (by decide) (by decide) ?_
      show Steps p.tables e below (s₁.setTop (mkF m 9 #[.val (.int p1), .val (.int p2)] [])) _
      refine XS.iloadN X0.here hx rfl (hb hby d14_9) rfl ?_
      show Steps p.tables e below (s₁.setTop (mkF m 10 #[.val (.int p1), .val (.int p2)] [(.int p2)])) _
      exact k
    exact own_retI X0 hx hret hlk (hb hby d14_10) (⟨congrArg some (congrArg Value.int (by rw [← hv]; unfold B14_0; rw [if_pos c2_2]; first | done | rfl)), N0, e0⟩) (by decide) (by decide)
  · refine own_Go.mono (T' := s₁) (f' := (mkF m 10 #[.val (.int p1), .val (.int p2)] [(.int p1)])) (fun t k => ?_) ?_
    · show Steps p.tables e below (s₁.setTop (mkF m 2 #[.val (.int p1), .val (.int p2)] [(.int p2), (.int p1)])) _
      refine XS.icmpNo X0.here hx rfl (hb hby d14_2) rfl (flt c2_2).1 ?_
      show Steps p.tables e below (s₁.setTop (mkF m 5 #[.val (.int p1), .val (.int p2)] [])) _
      refine XS.iloadN X0.here hx rfl (hb hby d14_5) rfl ?_
      show Steps p.tables e below (s₁.setTop (mkF m 6 #[.val (.int p1), .val (.int p2)] [(.int p1)])) _
      refine XS.goto X0.here hx rfl (pc0 := 6) (pc' := 10) rfl (hb hby d14_6) (by decide) (by decide) ?_
      show Steps p.tables e below (s₁.setTop (mkF m 10 #[.val (.int p1), .val (.int p2)] [(.int p1)])) _
      exact k
    exact own_retI X0 hx hret hlk (hb hby d14_10) (⟨congrArg some (congrArg Value.int (by rw [← hv]; unfold B14_0; rw [if_neg c2_2]; first | done | rfl)), N0, e0⟩) (by decide) (by decide)
theorem d13_0 : decode jdk_29_method_69_code 0 = .ok (.iload_n 0, 1) := by decide +kernel
theorem d13_1 : decode jdk_29_method_69_code 1 = .ok (.iload_n 1, 1) := by decide +kernel
theorem d13_2 : decode jdk_29_method_69_code 2 = .ok (.if_icmp .gt 7, 3) := by decide +kernel
theorem d13_5 : decode jdk_29_method_69_code 5 = .ok (.iload_n 0, 1) := by decide +kernel
theorem d13_6 : decode jdk_29_method_69_code 6 = .ok (.goto 4, 3) := by decide +kernel
theorem d13_9 : decode jdk_29_method_69_code 9 = .ok (.iload_n 1, 1) := by decide +kernel
theorem d13_10 : decode jdk_29_method_69_code 10 = .ok (.ireturn, 1) := by decide +kernel
def B13_0 (p1 : Int32) (p2 : Int32) : Int32 := (if p2 < p1 then p2 else p1)
theorem ef_rm13 (m : MethodId) (x0 : Int32) (x1 : Int32) : entryFrame m #[(.int x0), (.int x1)] 2 = mkF m 0 #[.val (.int x0), .val (.int x1)] [] := by first | (simp [entryFrame, mkF, argsToLocals, Value.category]; done) | rfl
def Q13 (Z : State) (p1 : Int32) (p2 : Int32)  (h0 : Heap) (n0 : Nat) (v : Option Value) (h : Heap) (L : List Loc) : Prop := v = some (.int (B13_0 p1 p2)) ∧ Fr n0 L ∧ h = h0
set_option maxRecDepth 65536 in
set_option maxHeartbeats 40000000 in
theorem rm13 (l : Launch) (Z : State) (a0 : Array Value) (hw : ∀ d ∈ tables_1, d.before a0 Z = true) (ws : List Jvm.Cond) (p1 : Int32) (p2 : Int32)  (h0 : Heap) (n0 : Nat) (Z0 : n0 ≤ h0.size)  :
    MetFree l (⟨"java/lang/Math", "min", "(II)I"⟩ : MethodName) (head1 (Jvm.Cond.code (⟨"java/lang/Math", "min", "(II)I"⟩ : MethodName) jdk_29_method_69_code 2 (some .int) :: ws) ({ frames := 0, cells := 0, slots := 0, locals := 0 } : Room)) (fun a U => a = #[(.int p1), (.int p2)] ∧ Z.Warmed39 U.vm ∧ U.heap = h0) (fun _ _ _ _ _ => True) (fun _ U o U' => ∃ v L, o = .returned v ∧ Q13 Z p1 p2  h0 n0 v U'.heap L ∧ FrameEnd U o U' L 0 0) := by
  refine own_body (Qv := Q13 Z p1 p2  h0 n0) (Jvm.Free.JP.mathPlain rfl (by decide +kernel)) ?_
  intro p e s m below meth c s₁ hx hby hml hret hlk hown hnm hZ X0 e0
  replace hown : s.vm.findClass "java/lang/Math" = some m.cls := hown
  replace hnm : meth.name = "min" := hnm
  have N0 := Fr.nil n0
  refine own_Go.mono (T' := s₁) (f' := (mkF m 0 #[.val (.int p1), .val (.int p2)] [])) (fun t k => castTop (ef_rm13 m p1 p2) k) ?_
  have hv : (B13_0 p1 p2) = (B13_0 p1 p2) := rfl
  refine own_Go.mono (T' := s₁) (f' := (mkF m 2 #[.val (.int p1), .val (.int p2)] [(.int p2), (.int p1)])) (fun t k => ?_) ?_
  · show Steps p.tables e below (s₁.setTop (mkF m 0 #[.val (.int p1), .val (.int p2)] [])) _
    refine XS.iloadN X0.here hx rfl (hb hby d13_0) rfl ?_
    show Steps p.tables e below (s₁.setTop (mkF m 1 #[.val (.int p1), .val (.int p2)] [(.int p1)])) _
    refine XS.iloadN X0.here hx rfl (hb hby d13_1) rfl ?_
    show Steps p.tables e below (s₁.setTop (mkF m 2 #[.val (.int p1), .val (.int p2)] [(.int p2), (.int p1)])) _
    exact k
  by_cases c2_3 : p2 < p1
  · refine own_Go.mono (T' := s₁) (f' := (mkF m 10 #[.val (.int p1), .val (.int p2)] [(.int p2)])) (fun t k => ?_) ?_
    · show Steps p.tables e below (s₁.setTop (mkF m 2 #[.val (.int p1), .val (.int p2)] [(.int p2), (.int p1)])) _
      refine XS.icmpYes X0.here hx rfl (pc0 := 2) (pc' := 9) rfl (hb hby d13_2) rfl (tlt c2_3).2.2.1 (by decide) (by decide) ?_
      show Steps p.tables e below (s₁.setTop (mkF m 9 #[.val (.int p1), .val (.int p2)] [])) _
      refine XS.iloadN X0.here hx rfl (hb hby d13_9) rfl ?_
      show Steps p.tables e below (s₁.setTop (mkF m 10 #[.val (.int p1), .val (.int p2)] [(.int p2)])) _
      exact k
    exact own_retI X0 hx hret hlk (hb hby d13_10) (⟨congrArg some (congrArg Value.int (by rw [← hv]; unfold B13_0; rw [if_pos c2_3]; first | done | rfl)), N0, e0⟩) (by decide) (by decide)
  · refine own_Go.mono (T' := s₁) (f' := (mkF m 10 #[.val (.int p1), .val (.int p2)] [(.int p1)])) (fun t k => ?_) ?_
    · show Steps p.tables e below (s₁.setTop (mkF m 2 #[.val (.int p1), .val (.int p2)] [(.int p2), (.int p1)])) _
      refine XS.icmpNo X0.here hx rfl (hb hby d13_2) rfl (flt c2_3).2.2.1 ?_
      show Steps p.tables e below (s₁.setTop (mkF m 5 #[.val (.int p1), .val (.int p2)] [])) _
      refine XS.iloadN X0.here hx rfl (hb hby d13_5) rfl ?_
      show Steps p.tables e below (s₁.setTop (mkF m 6 #[.val (.int p1), .val (.int p2)] [(.int p1)])) _
      refine XS.goto X0.here hx rfl (pc0 := 6) (pc' := 10) rfl (hb hby d13_6) (by decide) (by decide) ?_
      show Steps p.tables e below (s₁.setTop (mkF m 10 #[.val (.int p1), .val (.int p2)] [(.int p1)])) _
      exact k
    exact own_retI X0 hx hret hlk (hb hby d13_10) (⟨congrArg some (congrArg Value.int (by rw [← hv]; unfold B13_0; rw [if_neg c2_3]; first | done | rfl)), N0, e0⟩) (by decide) (by decide)
theorem d1_0 : decode prog_12_method_1_code 0 = .ok (.aload_n 0, 1) := by decide +kernel
theorem d1_1 : decode prog_12_method_1_code 1 = .ok (.invokespecial 1, 3) := by decide +kernel
theorem d1_4 : decode prog_12_method_1_code 4 = .ok (.aload_n 0, 1) := by decide +kernel
theorem d1_5 : decode prog_12_method_1_code 5 = .ok (.bipush 8, 2) := by decide +kernel
theorem d1_7 : decode prog_12_method_1_code 7 = .ok (.newarray .long, 2) := by decide +kernel
theorem d1_9 : decode prog_12_method_1_code 9 = .ok (.putfield 9, 3) := by decide +kernel
theorem d1_12 : decode prog_12_method_1_code 12 = .ok (.aload_n 0, 1) := by decide +kernel
theorem d1_13 : decode prog_12_method_1_code 13 = .ok (.bipush 8, 2) := by decide +kernel
theorem d1_15 : decode prog_12_method_1_code 15 = .ok (.newarray .long, 2) := by decide +kernel
theorem d1_17 : decode prog_12_method_1_code 17 = .ok (.putfield 13, 3) := by decide +kernel
theorem d1_20 : decode prog_12_method_1_code 20 = .ok (.aload_n 0, 1) := by decide +kernel
theorem d1_21 : decode prog_12_method_1_code 21 = .ok (.bipush 8, 2) := by decide +kernel
theorem d1_23 : decode prog_12_method_1_code 23 = .ok (.newarray .long, 2) := by decide +kernel
theorem d1_25 : decode prog_12_method_1_code 25 = .ok (.putfield 16, 3) := by decide +kernel
theorem d1_28 : decode prog_12_method_1_code 28 = .ok (.aload_n 0, 1) := by decide +kernel
theorem d1_29 : decode prog_12_method_1_code 29 = .ok (.bipush 8, 2) := by decide +kernel
theorem d1_31 : decode prog_12_method_1_code 31 = .ok (.newarray .long, 2) := by decide +kernel
theorem d1_33 : decode prog_12_method_1_code 33 = .ok (.putfield 19, 3) := by decide +kernel
theorem d1_36 : decode prog_12_method_1_code 36 = .ok (.return_, 1) := by decide +kernel
theorem ef_rm1 (m : MethodId) (x0 : Addr) : entryFrame m #[(.ref x0)] 1 = mkF m 0 #[.val (.ref x0)] [] := by first | (simp [entryFrame, mkF, argsToLocals, Value.category]; done) | rfl
def Q1 (Z : State) (a1 : Addr)  (h0 : Heap) (n0 : Nat) (v : Option Value) (h : Heap) (L : List Loc) : Prop := ∃ (a2 a3 a4 a5 : Addr) (k2 k3 k4 k5 : ClassId), v = none ∧ Fr n0 L ∧ Keep h0 h [a1] ∧ own_Seg Z n0 h a1 (0 : Int32) (8 : Int32) a2 a3 a4 a5 k2 k3 k4 k5 [(.long (0 : Int64)), (.long (0 : Int64)), (.long (0 : Int64)), (.long (0 : Int64)), (.long (0 : Int64)), (.long (0 : Int64)), (.long (0 : Int64)), (.long (0 : Int64))] [(.long (0 : Int64)), (.long (0 : Int64)), (.long (0 : Int64)), (.long (0 : Int64)), (.long (0 : Int64)), (.long (0 : Int64)), (.long (0 : Int64)), (.long (0 : Int64))] [(.long (0 : Int64)), (.long (0 : Int64)), (.long (0 : Int64)), (.long (0 : Int64)), (.long (0 : Int64)), (.long (0 : Int64)), (.long (0 : Int64)), (.long (0 : Int64))] [(.long (0 : Int64)), (.long (0 : Int64)), (.long (0 : Int64)), (.long (0 : Int64)), (.long (0 : Int64)), (.long (0 : Int64)), (.long (0 : Int64)), (.long (0 : Int64))]
set_option maxRecDepth 65536 in
set_option maxHeartbeats 40000000 in
theorem rm1 (l : Launch) (Z : State) (a0 : Array Value) (hw : ∀ d ∈ tables_1, d.before a0 Z = true) (ws : List Jvm.Cond) (a1 : Addr)  (h0 : Heap) (n0 : Nat) (Z0 : n0 ≤ h0.size) (E1 : Exa Z h0 a1 "com/example/uplog/uplog/SegmentIndex") (Fc : Fld Z h0 a1 "com/example/uplog/uplog/SegmentIndex" "count" "I" (.int (0 : Int32))) (F_offsets : Fld Z h0 a1 "com/example/uplog/uplog/SegmentIndex" "offsets" "[J" .null) (F_positions : Fld Z h0 a1 "com/example/uplog/uplog/SegmentIndex" "positions" "[J" .null) (F_maxTimestamps : Fld Z h0 a1 "com/example/uplog/uplog/SegmentIndex" "maxTimestamps" "[J" .null) (F_writtenAts : Fld Z h0 a1 "com/example/uplog/uplog/SegmentIndex" "writtenAts" "[J" .null) (g1 : n0 ≤ a1) :
    MetFree l (⟨"com/example/uplog/uplog/SegmentIndex", "<init>", "()V"⟩ : MethodName) (head1 (Jvm.Cond.code (⟨"com/example/uplog/uplog/SegmentIndex", "<init>", "()V"⟩ : MethodName) prog_12_method_1_code 1 none :: ws) ({ frames := 1, cells := 4, slots := 32, locals := 12 } : Room)) (fun a U => a = #[(.ref a1)] ∧ Z.Warmed39 U.vm ∧ U.heap = h0) (fun _ _ _ _ _ => True) (fun _ U o U' => ∃ v L, o = .returned v ∧ Q1 Z a1  h0 n0 v U'.heap L ∧ FrameEnd U o U' L 4 32) := by
  refine own_body (Qv := Q1 Z a1  h0 n0) (plainFor_of_name (by first | (simp [plainName, overriddenIn]; done) | decide +kernel)) ?_
  intro p e s m below meth c s₁ hx hby hml hret hlk hown hnm hZ X0 e0
  replace hown : s.vm.findClass "com/example/uplog/uplog/SegmentIndex" = some m.cls := hown
  replace hnm : meth.name = "<init>" := hnm
  have N0 := Fr.nil n0
  refine own_Go.mono (T' := s₁) (f' := (mkF m 0 #[.val (.ref a1)] [])) (fun t k => castTop (ef_rm1 m a1) k) ?_
  have K0_0 : Keep h0 h0 [a1] := Keep.refl _ _
  obtain ⟨T4, X4, e4, st4⟩ := initO X0 hx hZ hown (hw _ (List.mem_of_getElem? (i := 7) rfl)) (hw _ (List.mem_of_getElem? (i := 8) rfl)) (hw _ (List.mem_of_getElem? (i := 9) rfl)) e0 (g := (mkF m 1 #[.val (.ref a1)] [(.ref a1)])) rfl (by rw [hml]; rfl) rfl (hb hby d1_1) (by decide) (W := 0) (by show 2 * 0 + _ ≤ _; exact Nat.le_of_eq rfl) (by decide)
  obtain ⟨T5, h5, k5, X5, e5, E5, A5, st5⟩ := newP X4 hx hZ (hw _ (List.mem_of_getElem? (i := 10) rfl)) e4 (g := (mkF m 7 #[.val (.ref a1)] [(.int (8 : Int32)), (.ref a1)])) rfl (hb hby d1_7) rfl (by decide) (cap := 8) (by decide) (by decide) (by decide) (by decide)
  obtain ⟨b2, g5⟩ : ∃ z, z = h0.size := ⟨_, rfl⟩
  rw [← g5] at A5 st5
  have ne_a1_b2 : a1 ≠ b2 := Nat.ne_of_lt (Nat.lt_of_lt_of_le E1.lt (Nat.le_of_eq g5.symm))
  have lo_b2 : n0 ≤ b2 := Nat.le_trans Z0 (Nat.le_of_eq g5.symm)
  have sz_b2 : h0.size ≤ b2 := Nat.le_trans K0_0.1 (Nat.le_of_eq g5.symm)
  have E1_6 := E1.ext E5
  have Fc_7 := Fc.ext E5
  have F_offsets_8 := F_offsets.ext E5
  have F_positions_9 := F_positions.ext E5
  have F_maxTimestamps_10 := F_maxTimestamps.ext E5
  have F_writtenAts_11 := F_writtenAts.ext E5
  have zh5 : n0 ≤ h5.size := Nat.le_trans Z0 E5.1
  have K0_5 : Keep h0 h5 [a1] := K0_0.ext E5
  have V_b2_5 : Arv Z h5 b2 k5 .long (8 : Int32) [(.long (0 : Int64)), (.long (0 : Int64)), (.long (0 : Int64)), (.long (0 : Int64)), (.long (0 : Int64)), (.long (0 : Int64)), (.long (0 : Int64)), (.long (0 : Int64))] (.long (0 : Int64)) := (Arv.new A5 (by decide)).pad (pad_rep [] (.long (0 : Int64)) 8)
  obtain ⟨T12, h12, X12, e12, W12, st12⟩ := putF X5 hx hZ hown (host := "") (Or.inl (hw _ (List.mem_of_getElem? (i := 11) rfl))) Via.refl e5 F_offsets_8 E1_6 (Or.inl (hw _ (List.mem_of_getElem? (i := 12) rfl))) (hw _ (List.mem_of_getElem? (i := 2) rfl)) (ty := (.array .long)) (by decide) rfl rfl (g := (mkF m 9 #[.val (.ref a1)] [(.ref b2), (.ref a1)])) rfl rfl (hb hby d1_9)
  have F_offsets_a1_12 := F_offsets_8.same W12
  have E1_13 := E1_6.wr W12
  have Fc_14 := Fc_7.other W12 (Or.inr (slot_ne (Or.inl (hw _ (List.mem_of_getElem? (i := 25) rfl))) (Or.inl (hw _ (List.mem_of_getElem? (i := 12) rfl))) (by decide) (t := .int) (t' := (.array .long)) (by decide) (by decide)))
  have F_positions_15 := F_positions_9.other W12 (Or.inr (slot_ne (Or.inl (hw _ (List.mem_of_getElem? (i := 14) rfl))) (Or.inl (hw _ (List.mem_of_getElem? (i := 12) rfl))) (by decide) (t := (.array .long)) (t' := (.array .long)) (by decide) (by decide)))
  have F_maxTimestamps_16 := F_maxTimestamps_10.other W12 (Or.inr (slot_ne (Or.inl (hw _ (List.mem_of_getElem? (i := 16) rfl))) (Or.inl (hw _ (List.mem_of_getElem? (i := 12) rfl))) (by decide) (t := (.array .long)) (t' := (.array .long)) (by decide) (by decide)))
  have F_writtenAts_17 := F_writtenAts_11.other W12 (Or.inr (slot_ne (Or.inl (hw _ (List.mem_of_getElem? (i := 18) rfl))) (Or.inl (hw _ (List.mem_of_getElem? (i := 12) rfl))) (by decide) (t := (.array .long)) (t' := (.array .long)) (by decide) (by decide)))
  have V_b2_18 := V_b2_5.other W12 (Ne.symm ne_a1_b2)
  have zh12 : n0 ≤ h12.size := Nat.le_trans zh5 (Nat.le_of_eq W12.size.symm)
  have K0_12 : Keep h0 h12 [a1] := K0_5.wr W12 (Or.inl (List.mem_of_getElem? (i := 0) rfl))
  have N12 := Fr.snoc X12 N0 g1
  obtain ⟨T19, h19, k19, X19, e19, E19, A19, st19⟩ := newP X12 hx hZ (hw _ (List.mem_of_getElem? (i := 10) rfl)) e12 (g := (mkF m 15 #[.val (.ref a1)] [(.int (8 : Int32)), (.ref a1)])) rfl (hb hby d1_15) rfl (by decide) (cap := 8) (by decide) (by decide) (by decide) (by decide)
  obtain ⟨b3, g19⟩ : ∃ z, z = h12.size := ⟨_, rfl⟩
  rw [← g19] at A19 st19
  have ne_a1_b3 : a1 ≠ b3 := Nat.ne_of_lt (Nat.lt_of_lt_of_le E1_13.lt (Nat.le_of_eq g19.symm))
  have ne_b2_b3 : b2 ≠ b3 := Nat.ne_of_lt (Nat.lt_of_lt_of_le V_b2_18.lt (Nat.le_of_eq g19.symm))
  have lo_b3 : n0 ≤ b3 := Nat.le_trans zh12 (Nat.le_of_eq g19.symm)
  have sz_b3 : h0.size ≤ b3 := Nat.le_trans K0_12.1 (Nat.le_of_eq g19.symm)
  have E1_20 := E1_13.ext E19
  have Fc_21 := Fc_14.ext E19
  have F_offsets_a1_22 := F_offsets_a1_12.ext E19
  have F_positions_23 := F_positions_15.ext E19
  have F_maxTimestamps_24 := F_maxTimestamps_16.ext E19
  have F_writtenAts_25 := F_writtenAts_17.ext E19
  have V_b2_26 := V_b2_18.ext E19
  have zh19 : n0 ≤ h19.size := Nat.le_trans zh12 E19.1
  have K0_19 : Keep h0 h19 [a1] := K0_12.ext E19
  have V_b3_19 : Arv Z h19 b3 k19 .long (8 : Int32) [(.long (0 : Int64)), (.long (0 : Int64)), (.long (0 : Int64)), (.long (0 : Int64)), (.long (0 : Int64)), (.long (0 : Int64)), (.long (0 : Int64)), (.long (0 : Int64))] (.long (0 : Int64)) := (Arv.new A19 (by decide)).pad (pad_rep [] (.long (0 : Int64)) 8)
  obtain ⟨T27, h27, X27, e27, W27, st27⟩ := putF X19 hx hZ hown (host := "") (Or.inl (hw _ (List.mem_of_getElem? (i := 13) rfl))) Via.refl e19 F_positions_23 E1_20 (Or.inl (hw _ (List.mem_of_getElem? (i := 14) rfl))) (hw _ (List.mem_of_getElem? (i := 2) rfl)) (ty := (.array .long)) (by decide) rfl rfl (g := (mkF m 17 #[.val (.ref a1)] [(.ref b3), (.ref a1)])) rfl rfl (hb hby d1_17)
  have F_positions_a1_27 := F_positions_23.same W27
  have E1_28 := E1_20.wr W27
  have Fc_29 := Fc_21.other W27 (Or.inr (slot_ne (Or.inl (hw _ (List.mem_of_getElem? (i := 25) rfl))) (Or.inl (hw _ (List.mem_of_getElem? (i := 14) rfl))) (by decide) (t := .int) (t' := (.array .long)) (by decide) (by decide)))
  have F_offsets_a1_30 := F_offsets_a1_22.other W27 (Or.inr (slot_ne (Or.inl (hw _ (List.mem_of_getElem? (i := 12) rfl))) (Or.inl (hw _ (List.mem_of_getElem? (i := 14) rfl))) (by decide) (t := (.array .long)) (t' := (.array .long)) (by decide) (by decide)))
  have F_maxTimestamps_31 := F_maxTimestamps_24.other W27 (Or.inr (slot_ne (Or.inl (hw _ (List.mem_of_getElem? (i := 16) rfl))) (Or.inl (hw _ (List.mem_of_getElem? (i := 14) rfl))) (by decide) (t := (.array .long)) (t' := (.array .long)) (by decide) (by decide)))
  have F_writtenAts_32 := F_writtenAts_25.other W27 (Or.inr (slot_ne (Or.inl (hw _ (List.mem_of_getElem? (i := 18) rfl))) (Or.inl (hw _ (List.mem_of_getElem? (i := 14) rfl))) (by decide) (t := (.array .long)) (t' := (.array .long)) (by decide) (by decide)))
  have V_b2_33 := V_b2_26.other W27 (Ne.symm ne_a1_b2)
  have V_b3_34 := V_b3_19.other W27 (Ne.symm ne_a1_b3)
  have zh27 : n0 ≤ h27.size := Nat.le_trans zh19 (Nat.le_of_eq W27.size.symm)
  have K0_27 : Keep h0 h27 [a1] := K0_19.wr W27 (Or.inl (List.mem_of_getElem? (i := 0) rfl))
  have N27 := Fr.snoc X27 N12 g1
  obtain ⟨T35, h35, k35, X35, e35, E35, A35, st35⟩ := newP X27 hx hZ (hw _ (List.mem_of_getElem? (i := 10) rfl)) e27 (g := (mkF m 23 #[.val (.ref a1)] [(.int (8 : Int32)), (.ref a1)])) rfl (hb hby d1_23) rfl (by decide) (cap := 8) (by decide) (by decide) (by decide) (by decide)
  obtain ⟨b4, g35⟩ : ∃ z, z = h27.size := ⟨_, rfl⟩
  rw [← g35] at A35 st35
  have ne_a1_b4 : a1 ≠ b4 := Nat.ne_of_lt (Nat.lt_of_lt_of_le E1_28.lt (Nat.le_of_eq g35.symm))
  have ne_b2_b4 : b2 ≠ b4 := Nat.ne_of_lt (Nat.lt_of_lt_of_le V_b2_33.lt (Nat.le_of_eq g35.symm))
  have ne_b3_b4 : b3 ≠ b4 := Nat.ne_of_lt (Nat.lt_of_lt_of_le V_b3_34.lt (Nat.le_of_eq g35.symm))
  have lo_b4 : n0 ≤ b4 := Nat.le_trans zh27 (Nat.le_of_eq g35.symm)
  have sz_b4 : h0.size ≤ b4 := Nat.le_trans K0_27.1 (Nat.le_of_eq g35.symm)
  have E1_36 := E1_28.ext E35
  have Fc_37 := Fc_29.ext E35
  have F_offsets_a1_38 := F_offsets_a1_30.ext E35
  have F_positions_a1_39 := F_positions_a1_27.ext E35
  have F_maxTimestamps_40 := F_maxTimestamps_31.ext E35
  have F_writtenAts_41 := F_writtenAts_32.ext E35
  have V_b2_42 := V_b2_33.ext E35
  have V_b3_43 := V_b3_34.ext E35
  have zh35 : n0 ≤ h35.size := Nat.le_trans zh27 E35.1
  have K0_35 : Keep h0 h35 [a1] := K0_27.ext E35
  have V_b4_35 : Arv Z h35 b4 k35 .long (8 : Int32) [(.long (0 : Int64)), (.long (0 : Int64)), (.long (0 : Int64)), (.long (0 : Int64)), (.long (0 : Int64)), (.long (0 : Int64)), (.long (0 : Int64)), (.long (0 : Int64))] (.long (0 : Int64)) := (Arv.new A35 (by decide)).pad (pad_rep [] (.long (0 : Int64)) 8)
  obtain ⟨T44, h44, X44, e44, W44, st44⟩ := putF X35 hx hZ hown (host := "") (Or.inl (hw _ (List.mem_of_getElem? (i := 15) rfl))) Via.refl e35 F_maxTimestamps_40 E1_36 (Or.inl (hw _ (List.mem_of_getElem? (i := 16) rfl))) (hw _ (List.mem_of_getElem? (i := 2) rfl)) (ty := (.array .long)) (by decide) rfl rfl (g := (mkF m 25 #[.val (.ref a1)] [(.ref b4), (.ref a1)])) rfl rfl (hb hby d1_25)
  have F_maxTimestamps_a1_44 := F_maxTimestamps_40.same W44
  have E1_45 := E1_36.wr W44
  have Fc_46 := Fc_37.other W44 (Or.inr (slot_ne (Or.inl (hw _ (List.mem_of_getElem? (i := 25) rfl))) (Or.inl (hw _ (List.mem_of_getElem? (i := 16) rfl))) (by decide) (t := .int) (t' := (.array .long)) (by decide) (by decide)))
  have F_offsets_a1_47 := F_offsets_a1_38.other W44 (Or.inr (slot_ne (Or.inl (hw _ (List.mem_of_getElem? (i := 12) rfl))) (Or.inl (hw _ (List.mem_of_getElem? (i := 16) rfl))) (by decide) (t := (.array .long)) (t' := (.array .long)) (by decide) (by decide)))
  have F_positions_a1_48 := F_positions_a1_39.other W44 (Or.inr (slot_ne (Or.inl (hw _ (List.mem_of_getElem? (i := 14) rfl))) (Or.inl (hw _ (List.mem_of_getElem? (i := 16) rfl))) (by decide) (t := (.array .long)) (t' := (.array .long)) (by decide) (by decide)))
  have F_writtenAts_49 := F_writtenAts_41.other W44 (Or.inr (slot_ne (Or.inl (hw _ (List.mem_of_getElem? (i := 18) rfl))) (Or.inl (hw _ (List.mem_of_getElem? (i := 16) rfl))) (by decide) (t := (.array .long)) (t' := (.array .long)) (by decide) (by decide)))
  have V_b2_50 := V_b2_42.other W44 (Ne.symm ne_a1_b2)
  have V_b3_51 := V_b3_43.other W44 (Ne.symm ne_a1_b3)
  have V_b4_52 := V_b4_35.other W44 (Ne.symm ne_a1_b4)
  have zh44 : n0 ≤ h44.size := Nat.le_trans zh35 (Nat.le_of_eq W44.size.symm)
  have K0_44 : Keep h0 h44 [a1] := K0_35.wr W44 (Or.inl (List.mem_of_getElem? (i := 0) rfl))
  have N44 := Fr.snoc X44 N27 g1
  obtain ⟨T53, h53, k53, X53, e53, E53, A53, st53⟩ := newP X44 hx hZ (hw _ (List.mem_of_getElem? (i := 10) rfl)) e44 (g := (mkF m 31 #[.val (.ref a1)] [(.int (8 : Int32)), (.ref a1)])) rfl (hb hby d1_31) rfl (by decide) (cap := 8) (by decide) (by decide) (by decide) (by decide)
  obtain ⟨b5, g53⟩ : ∃ z, z = h44.size := ⟨_, rfl⟩
  rw [← g53] at A53 st53
  have ne_a1_b5 : a1 ≠ b5 := Nat.ne_of_lt (Nat.lt_of_lt_of_le E1_45.lt (Nat.le_of_eq g53.symm))
  have ne_b2_b5 : b2 ≠ b5 := Nat.ne_of_lt (Nat.lt_of_lt_of_le V_b2_50.lt (Nat.le_of_eq g53.symm))
  have ne_b3_b5 : b3 ≠ b5 := Nat.ne_of_lt (Nat.lt_of_lt_of_le V_b3_51.lt (Nat.le_of_eq g53.symm))
  have ne_b4_b5 : b4 ≠ b5 := Nat.ne_of_lt (Nat.lt_of_lt_of_le V_b4_52.lt (Nat.le_of_eq g53.symm))
  have lo_b5 : n0 ≤ b5 := Nat.le_trans zh44 (Nat.le_of_eq g53.symm)
  have sz_b5 : h0.size ≤ b5 := Nat.le_trans K0_44.1 (Nat.le_of_eq g53.symm)
  have E1_54 := E1_45.ext E53
  have Fc_55 := Fc_46.ext E53
  have F_offsets_a1_56 := F_offsets_a1_47.ext E53
  have F_positions_a1_57 := F_positions_a1_48.ext E53
  have F_maxTimestamps_a1_58 := F_maxTimestamps_a1_44.ext E53
  have F_writtenAts_59 := F_writtenAts_49.ext E53
  have V_b2_60 := V_b2_50.ext E53
  have V_b3_61 := V_b3_51.ext E53
  have V_b4_62 := V_b4_52.ext E53
  have zh53 : n0 ≤ h53.size := Nat.le_trans zh44 E53.1
  have K0_53 : Keep h0 h53 [a1] := K0_44.ext E53
  have V_b5_53 : Arv Z h53 b5 k53 .long (8 : Int32) [(.long (0 : Int64)), (.long (0 : Int64)), (.long (0 : Int64)), (.long (0 : Int64)), (.long (0 : Int64)), (.long (0 : Int64)), (.long (0 : Int64)), (.long (0 : Int64))] (.long (0 : Int64)) := (Arv.new A53 (by decide)).pad (pad_rep [] (.long (0 : Int64)) 8)
  obtain ⟨T63, h63, X63, e63, W63, st63⟩ := putF X53 hx hZ hown (host := "") (Or.inl (hw _ (List.mem_of_getElem? (i := 17) rfl))) Via.refl e53 F_writtenAts_59 E1_54 (Or.inl (hw _ (List.mem_of_getElem? (i := 18) rfl))) (hw _ (List.mem_of_getElem? (i := 2) rfl)) (ty := (.array .long)) (by decide) rfl rfl (g := (mkF m 33 #[.val (.ref a1)] [(.ref b5), (.ref a1)])) rfl rfl (hb hby d1_33)
  have F_writtenAts_a1_63 := F_writtenAts_59.same W63
  have E1_64 := E1_54.wr W63
  have Fc_65 := Fc_55.other W63 (Or.inr (slot_ne (Or.inl (hw _ (List.mem_of_getElem? (i := 25) rfl))) (Or.inl (hw _ (List.mem_of_getElem? (i := 18) rfl))) (by decide) (t := .int) (t' := (.array .long)) (by decide) (by decide)))
  have F_offsets_a1_66 := F_offsets_a1_56.other W63 (Or.inr (slot_ne (Or.inl (hw _ (List.mem_of_getElem? (i := 12) rfl))) (Or.inl (hw _ (List.mem_of_getElem? (i := 18) rfl))) (by decide) (t := (.array .long)) (t' := (.array .long)) (by decide) (by decide)))
  have F_positions_a1_67 := F_positions_a1_57.other W63 (Or.inr (slot_ne (Or.inl (hw _ (List.mem_of_getElem? (i := 14) rfl))) (Or.inl (hw _ (List.mem_of_getElem? (i := 18) rfl))) (by decide) (t := (.array .long)) (t' := (.array .long)) (by decide) (by decide)))
  have F_maxTimestamps_a1_68 := F_maxTimestamps_a1_58.other W63 (Or.inr (slot_ne (Or.inl (hw _ (List.mem_of_getElem? (i := 16) rfl))) (Or.inl (hw _ (List.mem_of_getElem? (i := 18) rfl))) (by decide) (t := (.array .long)) (t' := (.array .long)) (by decide) (by decide)))
  have V_b2_69 := V_b2_60.other W63 (Ne.symm ne_a1_b2)
  have V_b3_70 := V_b3_61.other W63 (Ne.symm ne_a1_b3)
  have V_b4_71 := V_b4_62.other W63 (Ne.symm ne_a1_b4)
  have V_b5_72 := V_b5_53.other W63 (Ne.symm ne_a1_b5)
  have zh63 : n0 ≤ h63.size := Nat.le_trans zh53 (Nat.le_of_eq W63.size.symm)
  have K0_63 : Keep h0 h63 [a1] := K0_53.wr W63 (Or.inl (List.mem_of_getElem? (i := 0) rfl))
  have N63 := Fr.snoc X63 N44 g1
  refine own_Go.mono (T' := T63) (f' := (mkF m 36 #[.val (.ref a1)] [])) (fun t k => ?_) ?_
  · show Steps p.tables e below (s₁.setTop (mkF m 0 #[.val (.ref a1)] [])) _
    refine XS.aloadN X0.here hx rfl (hb hby d1_0) rfl rfl ?_
    show Steps p.tables e below (s₁.setTop (mkF m 1 #[.val (.ref a1)] [(.ref a1)])) _
    refine st4 _ ?_
    show Steps p.tables e below (T4.setTop (mkF m 4 #[.val (.ref a1)] [])) _
    refine XS.aloadN X4.here hx rfl (hb hby d1_4) rfl rfl ?_
    show Steps p.tables e below (T4.setTop (mkF m 5 #[.val (.ref a1)] [(.ref a1)])) _
    refine XS.bipush X4.here hx rfl (hb hby d1_5) ?_
    show Steps p.tables e below (T4.setTop (mkF m 7 #[.val (.ref a1)] [(.int (8 : Int32)), (.ref a1)])) _
    refine st5 _ ?_
    show Steps p.tables e below (T5.setTop (mkF m 9 #[.val (.ref a1)] [(.ref b2), (.ref a1)])) _
    refine st12 _ ?_
    show Steps p.tables e below (T12.setTop (mkF m 12 #[.val (.ref a1)] [])) _
    refine XS.aloadN X12.here hx rfl (hb hby d1_12) rfl rfl ?_
    show Steps p.tables e below (T12.setTop (mkF m 13 #[.val (.ref a1)] [(.ref a1)])) _
    refine XS.bipush X12.here hx rfl (hb hby d1_13) ?_
    show Steps p.tables e below (T12.setTop (mkF m 15 #[.val (.ref a1)] [(.int (8 : Int32)), (.ref a1)])) _
    refine st19 _ ?_
    show Steps p.tables e below (T19.setTop (mkF m 17 #[.val (.ref a1)] [(.ref b3), (.ref a1)])) _
    refine st27 _ ?_
    show Steps p.tables e below (T27.setTop (mkF m 20 #[.val (.ref a1)] [])) _
    refine XS.aloadN X27.here hx rfl (hb hby d1_20) rfl rfl ?_
    show Steps p.tables e below (T27.setTop (mkF m 21 #[.val (.ref a1)] [(.ref a1)])) _
    refine XS.bipush X27.here hx rfl (hb hby d1_21) ?_
    show Steps p.tables e below (T27.setTop (mkF m 23 #[.val (.ref a1)] [(.int (8 : Int32)), (.ref a1)])) _
    refine st35 _ ?_
    show Steps p.tables e below (T35.setTop (mkF m 25 #[.val (.ref a1)] [(.ref b4), (.ref a1)])) _
    refine st44 _ ?_
    show Steps p.tables e below (T44.setTop (mkF m 28 #[.val (.ref a1)] [])) _
    refine XS.aloadN X44.here hx rfl (hb hby d1_28) rfl rfl ?_
    show Steps p.tables e below (T44.setTop (mkF m 29 #[.val (.ref a1)] [(.ref a1)])) _
    refine XS.bipush X44.here hx rfl (hb hby d1_29) ?_
    show Steps p.tables e below (T44.setTop (mkF m 31 #[.val (.ref a1)] [(.int (8 : Int32)), (.ref a1)])) _
    refine st53 _ ?_
    show Steps p.tables e below (T53.setTop (mkF m 33 #[.val (.ref a1)] [(.ref b5), (.ref a1)])) _
    refine st63 _ ?_
    show Steps p.tables e below (T63.setTop (mkF m 36 #[.val (.ref a1)] [])) _
    exact k
  exact own_retV X63 hx hret hlk (hb hby d1_36) ((by rw [e63]; exact ⟨b2, b3, b4, b5, k5, k19, k35, k53, rfl, N63, K0_63, ⟨E1_64, Fc_65, F_offsets_a1_66, F_positions_a1_67, F_maxTimestamps_a1_68, F_writtenAts_a1_63, V_b2_69, V_b3_70, V_b4_71, V_b5_72, ne_b2_b3, ne_b2_b4, ne_b2_b5, ne_b3_b4, ne_b3_b5, ne_b4_b5, g1, lo_b2, lo_b3, lo_b4, lo_b5⟩⟩)) (by decide) (by decide)
theorem d5_0 : decode prog_12_method_4_code 0 = .ok (.aload_n 0, 1) := by decide +kernel
theorem d5_1 : decode prog_12_method_4_code 1 = .ok (.getfield 9, 3) := by decide +kernel
theorem d5_4 : decode prog_12_method_4_code 4 = .ok (.iload_n 1, 1) := by decide +kernel
theorem d5_5 : decode prog_12_method_4_code 5 = .ok (.laload, 1) := by decide +kernel
theorem d5_6 : decode prog_12_method_4_code 6 = .ok (.lreturn, 1) := by decide +kernel
theorem ef_rm5 (m : MethodId) (x0 : Addr) (x1 : Int32) : entryFrame m #[(.ref x0), (.int x1)] 2 = mkF m 0 #[.val (.ref x0), .val (.int x1)] [] := by first | (simp [entryFrame, mkF, argsToLocals, Value.category]; done) | rfl
def Q5 (Z : State) (a1 : Addr) (p1 : Int32) (b : Addr) (k : ClassId) (z : Int32) (vs : List Value) (x : Int64) (h0 : Heap) (n0 : Nat) (v : Option Value) (h : Heap) (L : List Loc) : Prop := v = some (.long x) ∧ Fr n0 L ∧ h = h0
set_option maxRecDepth 65536 in
set_option maxHeartbeats 40000000 in
theorem rm5 (l : Launch) (Z : State) (a0 : Array Value) (hw : ∀ d ∈ tables_1, d.before a0 Z = true) (ws : List Jvm.Cond) (a1 : Addr) (p1 : Int32) (b : Addr) (k : ClassId) (z : Int32) (vs : List Value) (x : Int64) (h0 : Heap) (n0 : Nat) (Z0 : n0 ≤ h0.size) (F : Fld Z h0 a1 "com/example/uplog/uplog/SegmentIndex" "offsets" "[J" (.ref b)) (V : Arv Z h0 b k .long z vs (.long (0 : Int64))) (hi : ¬ p1 < 0 ∧ p1 < z) (hxv : vs.getD p1.toNatClampNeg (.long (0 : Int64)) = .long x) :
    MetFree l (⟨"com/example/uplog/uplog/SegmentIndex", "offset", "(I)J"⟩ : MethodName) (head1 (Jvm.Cond.code (⟨"com/example/uplog/uplog/SegmentIndex", "offset", "(I)J"⟩ : MethodName) prog_12_method_4_code 2 (some .long) :: ws) ({ frames := 0, cells := 0, slots := 0, locals := 0 } : Room)) (fun a U => a = #[(.ref a1), (.int p1)] ∧ Z.Warmed39 U.vm ∧ U.heap = h0) (fun _ _ _ _ _ => True) (fun _ U o U' => ∃ v L, o = .returned v ∧ Q5 Z a1 p1 b k z vs x h0 n0 v U'.heap L ∧ FrameEnd U o U' L 0 0) := by
  refine own_body (Qv := Q5 Z a1 p1 b k z vs x h0 n0) (plainFor_of_name (by first | (simp [plainName, overriddenIn]; done) | decide +kernel)) ?_
  intro p e s m below meth c s₁ hx hby hml hret hlk hown hnm hZ X0 e0
  replace hown : s.vm.findClass "com/example/uplog/uplog/SegmentIndex" = some m.cls := hown
  replace hnm : meth.name = "offset" := hnm
  have N0 := Fr.nil n0
  refine own_Go.mono (T' := s₁) (f' := (mkF m 0 #[.val (.ref a1), .val (.int p1)] [])) (fun t k => castTop (ef_rm5 m a1 p1) k) ?_
  obtain ⟨T73, X73, e73, st73⟩ := getF X0 hx hZ hown (host := "") (Or.inl (hw _ (List.mem_of_getElem? (i := 11) rfl))) Via.refl e0 F (g := (mkF m 1 #[.val (.ref a1), .val (.int p1)] [(.ref a1)])) rfl rfl (hb hby d5_1)
  obtain ⟨cl74, Ar74, q74, S74, P74, H74, G74⟩ := V
  have hin75 : ¬ (p1 < 0 ∨ cl74.slots.size ≤ (p1).toNatClampNeg) := inb_of S74 hi
  have hat75 : cl74.slots[(p1).toNatClampNeg]? = some (.long x) := H74.at hin75 hxv
  have V_b_75 : Arv Z h0 b k .long z vs (.long (0 : Int64)) := ⟨cl74, Ar74, q74, S74, P74, H74, G74⟩
  refine own_Go.mono (T' := T73) (f' := (mkF m 6 #[.val (.ref a1), .val (.int p1)] [(.long x)])) (fun t k => ?_) ?_
  · show Steps p.tables e below (s₁.setTop (mkF m 0 #[.val (.ref a1), .val (.int p1)] [])) _
    refine XS.aloadN X0.here hx rfl (hb hby d5_0) rfl rfl ?_
    show Steps p.tables e below (s₁.setTop (mkF m 1 #[.val (.ref a1), .val (.int p1)] [(.ref a1)])) _
    refine st73 _ ?_
    show Steps p.tables e below (T73.setTop (mkF m 4 #[.val (.ref a1), .val (.int p1)] [(.ref b)])) _
    refine XS.iloadN X73.here hx rfl (hb hby d5_4) rfl ?_
    show Steps p.tables e below (T73.setTop (mkF m 5 #[.val (.ref a1), .val (.int p1)] [(.int p1), (.ref b)])) _
    refine X73.laload hx (j := p1) (v := (.long x)) (by rw [e73]; exact Ar74.1) (State.isArrayOf_alike hZ.alike Ar74.2.1) Ar74.2.2 hin75 hat75 (g := (mkF m 5 #[.val (.ref a1), .val (.int p1)] [(.int p1), (.ref b)])) rfl rfl (hb hby d5_5) _ ?_
    show Steps p.tables e below (T73.setTop (mkF m 6 #[.val (.ref a1), .val (.int p1)] [(.long x)])) _
    exact k
  exact own_retJ X73 hx hret hlk (hb hby d5_6) (⟨rfl, N0, e73⟩) (by decide) (by decide)
theorem d6_0 : decode prog_12_method_5_code 0 = .ok (.aload_n 0, 1) := by decide +kernel
theorem d6_1 : decode prog_12_method_5_code 1 = .ok (.getfield 13, 3) := by decide +kernel
theorem d6_4 : decode prog_12_method_5_code 4 = .ok (.iload_n 1, 1) := by decide +kernel
theorem d6_5 : decode prog_12_method_5_code 5 = .ok (.laload, 1) := by decide +kernel
theorem d6_6 : decode prog_12_method_5_code 6 = .ok (.lreturn, 1) := by decide +kernel
theorem ef_rm6 (m : MethodId) (x0 : Addr) (x1 : Int32) : entryFrame m #[(.ref x0), (.int x1)] 2 = mkF m 0 #[.val (.ref x0), .val (.int x1)] [] := by first | (simp [entryFrame, mkF, argsToLocals, Value.category]; done) | rfl
def Q6 (Z : State) (a1 : Addr) (p1 : Int32) (b : Addr) (k : ClassId) (z : Int32) (vs : List Value) (x : Int64) (h0 : Heap) (n0 : Nat) (v : Option Value) (h : Heap) (L : List Loc) : Prop := v = some (.long x) ∧ Fr n0 L ∧ h = h0
set_option maxRecDepth 65536 in
set_option maxHeartbeats 40000000 in
theorem rm6 (l : Launch) (Z : State) (a0 : Array Value) (hw : ∀ d ∈ tables_1, d.before a0 Z = true) (ws : List Jvm.Cond) (a1 : Addr) (p1 : Int32) (b : Addr) (k : ClassId) (z : Int32) (vs : List Value) (x : Int64) (h0 : Heap) (n0 : Nat) (Z0 : n0 ≤ h0.size) (F : Fld Z h0 a1 "com/example/uplog/uplog/SegmentIndex" "positions" "[J" (.ref b)) (V : Arv Z h0 b k .long z vs (.long (0 : Int64))) (hi : ¬ p1 < 0 ∧ p1 < z) (hxv : vs.getD p1.toNatClampNeg (.long (0 : Int64)) = .long x) :
    MetFree l (⟨"com/example/uplog/uplog/SegmentIndex", "position", "(I)J"⟩ : MethodName) (head1 (Jvm.Cond.code (⟨"com/example/uplog/uplog/SegmentIndex", "position", "(I)J"⟩ : MethodName) prog_12_method_5_code 2 (some .long) :: ws) ({ frames := 0, cells := 0, slots := 0, locals := 0 } : Room)) (fun a U => a = #[(.ref a1), (.int p1)] ∧ Z.Warmed39 U.vm ∧ U.heap = h0) (fun _ _ _ _ _ => True) (fun _ U o U' => ∃ v L, o = .returned v ∧ Q6 Z a1 p1 b k z vs x h0 n0 v U'.heap L ∧ FrameEnd U o U' L 0 0) := by
  refine own_body (Qv := Q6 Z a1 p1 b k z vs x h0 n0) (plainFor_of_name (by first | (simp [plainName, overriddenIn]; done) | decide +kernel)) ?_
  intro p e s m below meth c s₁ hx hby hml hret hlk hown hnm hZ X0 e0
  replace hown : s.vm.findClass "com/example/uplog/uplog/SegmentIndex" = some m.cls := hown
  replace hnm : meth.name = "position" := hnm
  have N0 := Fr.nil n0
  refine own_Go.mono (T' := s₁) (f' := (mkF m 0 #[.val (.ref a1), .val (.int p1)] [])) (fun t k => castTop (ef_rm6 m a1 p1) k) ?_
  obtain ⟨T76, X76, e76, st76⟩ := getF X0 hx hZ hown (host := "") (Or.inl (hw _ (List.mem_of_getElem? (i := 13) rfl))) Via.refl e0 F (g := (mkF m 1 #[.val (.ref a1), .val (.int p1)] [(.ref a1)])) rfl rfl (hb hby d6_1)
  obtain ⟨cl77, Ar77, q77, S77, P77, H77, G77⟩ := V
  have hin78 : ¬ (p1 < 0 ∨ cl77.slots.size ≤ (p1).toNatClampNeg) := inb_of S77 hi
  have hat78 : cl77.slots[(p1).toNatClampNeg]? = some (.long x) := H77.at hin78 hxv
  have V_b_78 : Arv Z h0 b k .long z vs (.long (0 : Int64)) := ⟨cl77, Ar77, q77, S77, P77, H77, G77⟩
  refine own_Go.mono (T' := T76) (f' := (mkF m 6 #[.val (.ref a1), .val (.int p1)] [(.long x)])) (fun t k => ?_) ?_
  · show Steps p.tables e below (s₁.setTop (mkF m 0 #[.val (.ref a1), .val (.int p1)] [])) _
    refine XS.aloadN X0.here hx rfl (hb hby d6_0) rfl rfl ?_
    show Steps p.tables e below (s₁.setTop (mkF m 1 #[.val (.ref a1), .val (.int p1)] [(.ref a1)])) _
    refine st76 _ ?_
    show Steps p.tables e below (T76.setTop (mkF m 4 #[.val (.ref a1), .val (.int p1)] [(.ref b)])) _
    refine XS.iloadN X76.here hx rfl (hb hby d6_4) rfl ?_
    show Steps p.tables e below (T76.setTop (mkF m 5 #[.val (.ref a1), .val (.int p1)] [(.int p1), (.ref b)])) _
    refine X76.laload hx (j := p1) (v := (.long x)) (by rw [e76]; exact Ar77.1) (State.isArrayOf_alike hZ.alike Ar77.2.1) Ar77.2.2 hin78 hat78 (g := (mkF m 5 #[.val (.ref a1), .val (.int p1)] [(.int p1), (.ref b)])) rfl rfl (hb hby d6_5) _ ?_
    show Steps p.tables e below (T76.setTop (mkF m 6 #[.val (.ref a1), .val (.int p1)] [(.long x)])) _
    exact k
  exact own_retJ X76 hx hret hlk (hb hby d6_6) (⟨rfl, N0, e76⟩) (by decide) (by decide)
theorem d7_0 : decode prog_12_method_6_code 0 = .ok (.aload_n 0, 1) := by decide +kernel
theorem d7_1 : decode prog_12_method_6_code 1 = .ok (.getfield 16, 3) := by decide +kernel
theorem d7_4 : decode prog_12_method_6_code 4 = .ok (.iload_n 1, 1) := by decide +kernel
theorem d7_5 : decode prog_12_method_6_code 5 = .ok (.laload, 1) := by decide +kernel
theorem d7_6 : decode prog_12_method_6_code 6 = .ok (.lreturn, 1) := by decide +kernel
theorem ef_rm7 (m : MethodId) (x0 : Addr) (x1 : Int32) : entryFrame m #[(.ref x0), (.int x1)] 2 = mkF m 0 #[.val (.ref x0), .val (.int x1)] [] := by first | (simp [entryFrame, mkF, argsToLocals, Value.category]; done) | rfl
def Q7 (Z : State) (a1 : Addr) (p1 : Int32) (b : Addr) (k : ClassId) (z : Int32) (vs : List Value) (x : Int64) (h0 : Heap) (n0 : Nat) (v : Option Value) (h : Heap) (L : List Loc) : Prop := v = some (.long x) ∧ Fr n0 L ∧ h = h0
set_option maxRecDepth 65536 in
set_option maxHeartbeats 40000000 in
theorem rm7 (l : Launch) (Z : State) (a0 : Array Value) (hw : ∀ d ∈ tables_1, d.before a0 Z = true) (ws : List Jvm.Cond) (a1 : Addr) (p1 : Int32) (b : Addr) (k : ClassId) (z : Int32) (vs : List Value) (x : Int64) (h0 : Heap) (n0 : Nat) (Z0 : n0 ≤ h0.size) (F : Fld Z h0 a1 "com/example/uplog/uplog/SegmentIndex" "maxTimestamps" "[J" (.ref b)) (V : Arv Z h0 b k .long z vs (.long (0 : Int64))) (hi : ¬ p1 < 0 ∧ p1 < z) (hxv : vs.getD p1.toNatClampNeg (.long (0 : Int64)) = .long x) :
    MetFree l (⟨"com/example/uplog/uplog/SegmentIndex", "maxTimestamp", "(I)J"⟩ : MethodName) (head1 (Jvm.Cond.code (⟨"com/example/uplog/uplog/SegmentIndex", "maxTimestamp", "(I)J"⟩ : MethodName) prog_12_method_6_code 2 (some .long) :: ws) ({ frames := 0, cells := 0, slots := 0, locals := 0 } : Room)) (fun a U => a = #[(.ref a1), (.int p1)] ∧ Z.Warmed39 U.vm ∧ U.heap = h0) (fun _ _ _ _ _ => True) (fun _ U o U' => ∃ v L, o = .returned v ∧ Q7 Z a1 p1 b k z vs x h0 n0 v U'.heap L ∧ FrameEnd U o U' L 0 0) := by
  refine own_body (Qv := Q7 Z a1 p1 b k z vs x h0 n0) (plainFor_of_name (by first | (simp [plainName, overriddenIn]; done) | decide +kernel)) ?_
  intro p e s m below meth c s₁ hx hby hml hret hlk hown hnm hZ X0 e0
  replace hown : s.vm.findClass "com/example/uplog/uplog/SegmentIndex" = some m.cls := hown
  replace hnm : meth.name = "maxTimestamp" := hnm
  have N0 := Fr.nil n0
  refine own_Go.mono (T' := s₁) (f' := (mkF m 0 #[.val (.ref a1), .val (.int p1)] [])) (fun t k => castTop (ef_rm7 m a1 p1) k) ?_
  obtain ⟨T79, X79, e79, st79⟩ := getF X0 hx hZ hown (host := "") (Or.inl (hw _ (List.mem_of_getElem? (i := 15) rfl))) Via.refl e0 F (g := (mkF m 1 #[.val (.ref a1), .val (.int p1)] [(.ref a1)])) rfl rfl (hb hby d7_1)
  obtain ⟨cl80, Ar80, q80, S80, P80, H80, G80⟩ := V
  have hin81 : ¬ (p1 < 0 ∨ cl80.slots.size ≤ (p1).toNatClampNeg) := inb_of S80 hi
  have hat81 : cl80.slots[(p1).toNatClampNeg]? = some (.long x) := H80.at hin81 hxv
  have V_b_81 : Arv Z h0 b k .long z vs (.long (0 : Int64)) := ⟨cl80, Ar80, q80, S80, P80, H80, G80⟩
  refine own_Go.mono (T' := T79) (f' := (mkF m 6 #[.val (.ref a1), .val (.int p1)] [(.long x)])) (fun t k => ?_) ?_
  · show Steps p.tables e below (s₁.setTop (mkF m 0 #[.val (.ref a1), .val (.int p1)] [])) _
    refine XS.aloadN X0.here hx rfl (hb hby d7_0) rfl rfl ?_
    show Steps p.tables e below (s₁.setTop (mkF m 1 #[.val (.ref a1), .val (.int p1)] [(.ref a1)])) _
    refine st79 _ ?_
    show Steps p.tables e below (T79.setTop (mkF m 4 #[.val (.ref a1), .val (.int p1)] [(.ref b)])) _
    refine XS.iloadN X79.here hx rfl (hb hby d7_4) rfl ?_
    show Steps p.tables e below (T79.setTop (mkF m 5 #[.val (.ref a1), .val (.int p1)] [(.int p1), (.ref b)])) _
    refine X79.laload hx (j := p1) (v := (.long x)) (by rw [e79]; exact Ar80.1) (State.isArrayOf_alike hZ.alike Ar80.2.1) Ar80.2.2 hin81 hat81 (g := (mkF m 5 #[.val (.ref a1), .val (.int p1)] [(.int p1), (.ref b)])) rfl rfl (hb hby d7_5) _ ?_
    show Steps p.tables e below (T79.setTop (mkF m 6 #[.val (.ref a1), .val (.int p1)] [(.long x)])) _
    exact k
  exact own_retJ X79 hx hret hlk (hb hby d7_6) (⟨rfl, N0, e79⟩) (by decide) (by decide)
theorem d8_0 : decode prog_12_method_7_code 0 = .ok (.aload_n 0, 1) := by decide +kernel
theorem d8_1 : decode prog_12_method_7_code 1 = .ok (.getfield 19, 3) := by decide +kernel
theorem d8_4 : decode prog_12_method_7_code 4 = .ok (.iload_n 1, 1) := by decide +kernel
theorem d8_5 : decode prog_12_method_7_code 5 = .ok (.laload, 1) := by decide +kernel
theorem d8_6 : decode prog_12_method_7_code 6 = .ok (.lreturn, 1) := by decide +kernel
theorem ef_rm8 (m : MethodId) (x0 : Addr) (x1 : Int32) : entryFrame m #[(.ref x0), (.int x1)] 2 = mkF m 0 #[.val (.ref x0), .val (.int x1)] [] := by first | (simp [entryFrame, mkF, argsToLocals, Value.category]; done) | rfl
def Q8 (Z : State) (a1 : Addr) (p1 : Int32) (b : Addr) (k : ClassId) (z : Int32) (vs : List Value) (x : Int64) (h0 : Heap) (n0 : Nat) (v : Option Value) (h : Heap) (L : List Loc) : Prop := v = some (.long x) ∧ Fr n0 L ∧ h = h0
set_option maxRecDepth 65536 in
set_option maxHeartbeats 40000000 in
theorem rm8 (l : Launch) (Z : State) (a0 : Array Value) (hw : ∀ d ∈ tables_1, d.before a0 Z = true) (ws : List Jvm.Cond) (a1 : Addr) (p1 : Int32) (b : Addr) (k : ClassId) (z : Int32) (vs : List Value) (x : Int64) (h0 : Heap) (n0 : Nat) (Z0 : n0 ≤ h0.size) (F : Fld Z h0 a1 "com/example/uplog/uplog/SegmentIndex" "writtenAts" "[J" (.ref b)) (V : Arv Z h0 b k .long z vs (.long (0 : Int64))) (hi : ¬ p1 < 0 ∧ p1 < z) (hxv : vs.getD p1.toNatClampNeg (.long (0 : Int64)) = .long x) :
    MetFree l (⟨"com/example/uplog/uplog/SegmentIndex", "writtenAt", "(I)J"⟩ : MethodName) (head1 (Jvm.Cond.code (⟨"com/example/uplog/uplog/SegmentIndex", "writtenAt", "(I)J"⟩ : MethodName) prog_12_method_7_code 2 (some .long) :: ws) ({ frames := 0, cells := 0, slots := 0, locals := 0 } : Room)) (fun a U => a = #[(.ref a1), (.int p1)] ∧ Z.Warmed39 U.vm ∧ U.heap = h0) (fun _ _ _ _ _ => True) (fun _ U o U' => ∃ v L, o = .returned v ∧ Q8 Z a1 p1 b k z vs x h0 n0 v U'.heap L ∧ FrameEnd U o U' L 0 0) := by
  refine own_body (Qv := Q8 Z a1 p1 b k z vs x h0 n0) (plainFor_of_name (by first | (simp [plainName, overriddenIn]; done) | decide +kernel)) ?_
  intro p e s m below meth c s₁ hx hby hml hret hlk hown hnm hZ X0 e0
  replace hown : s.vm.findClass "com/example/uplog/uplog/SegmentIndex" = some m.cls := hown
  replace hnm : meth.name = "writtenAt" := hnm
  have N0 := Fr.nil n0
  refine own_Go.mono (T' := s₁) (f' := (mkF m 0 #[.val (.ref a1), .val (.int p1)] [])) (fun t k => castTop (ef_rm8 m a1 p1) k) ?_
  obtain ⟨T82, X82, e82, st82⟩ := getF X0 hx hZ hown (host := "") (Or.inl (hw _ (List.mem_of_getElem? (i := 17) rfl))) Via.refl e0 F (g := (mkF m 1 #[.val (.ref a1), .val (.int p1)] [(.ref a1)])) rfl rfl (hb hby d8_1)
  obtain ⟨cl83, Ar83, q83, S83, P83, H83, G83⟩ := V
  have hin84 : ¬ (p1 < 0 ∨ cl83.slots.size ≤ (p1).toNatClampNeg) := inb_of S83 hi
  have hat84 : cl83.slots[(p1).toNatClampNeg]? = some (.long x) := H83.at hin84 hxv
  have V_b_84 : Arv Z h0 b k .long z vs (.long (0 : Int64)) := ⟨cl83, Ar83, q83, S83, P83, H83, G83⟩
  refine own_Go.mono (T' := T82) (f' := (mkF m 6 #[.val (.ref a1), .val (.int p1)] [(.long x)])) (fun t k => ?_) ?_
  · show Steps p.tables e below (s₁.setTop (mkF m 0 #[.val (.ref a1), .val (.int p1)] [])) _
    refine XS.aloadN X0.here hx rfl (hb hby d8_0) rfl rfl ?_
    show Steps p.tables e below (s₁.setTop (mkF m 1 #[.val (.ref a1), .val (.int p1)] [(.ref a1)])) _
    refine st82 _ ?_
    show Steps p.tables e below (T82.setTop (mkF m 4 #[.val (.ref a1), .val (.int p1)] [(.ref b)])) _
    refine XS.iloadN X82.here hx rfl (hb hby d8_4) rfl ?_
    show Steps p.tables e below (T82.setTop (mkF m 5 #[.val (.ref a1), .val (.int p1)] [(.int p1), (.ref b)])) _
    refine X82.laload hx (j := p1) (v := (.long x)) (by rw [e82]; exact Ar83.1) (State.isArrayOf_alike hZ.alike Ar83.2.1) Ar83.2.2 hin84 hat84 (g := (mkF m 5 #[.val (.ref a1), .val (.int p1)] [(.int p1), (.ref b)])) rfl rfl (hb hby d8_5) _ ?_
    show Steps p.tables e below (T82.setTop (mkF m 6 #[.val (.ref a1), .val (.int p1)] [(.long x)])) _
    exact k
  exact own_retJ X82 hx hret hlk (hb hby d8_6) (⟨rfl, N0, e82⟩) (by decide) (by decide)
theorem d4_0 : decode prog_12_method_3_code 0 = .ok (.aload_n 0, 1) := by decide +kernel
theorem d4_1 : decode prog_12_method_3_code 1 = .ok (.getfield 22, 3) := by decide +kernel
theorem d4_4 : decode prog_12_method_3_code 4 = .ok (.ireturn, 1) := by decide +kernel
theorem ef_rm4 (m : MethodId) (x0 : Addr) : entryFrame m #[(.ref x0)] 1 = mkF m 0 #[.val (.ref x0)] [] := by first | (simp [entryFrame, mkF, argsToLocals, Value.category]; done) | rfl
def Q4 (Z : State) (a1 : Addr) (c0 : Int32) (h0 : Heap) (n0 : Nat) (v : Option Value) (h : Heap) (L : List Loc) : Prop := v = some (.int c0) ∧ Fr n0 L ∧ h = h0
set_option maxRecDepth 65536 in
set_option maxHeartbeats 40000000 in
theorem rm4 (l : Launch) (Z : State) (a0 : Array Value) (hw : ∀ d ∈ tables_1, d.before a0 Z = true) (ws : List Jvm.Cond) (a1 : Addr) (c0 : Int32) (h0 : Heap) (n0 : Nat) (Z0 : n0 ≤ h0.size) (F : Fld Z h0 a1 "com/example/uplog/uplog/SegmentIndex" "count" "I" (.int c0)) :
    MetFree l (⟨"com/example/uplog/uplog/SegmentIndex", "count", "()I"⟩ : MethodName) (head1 (Jvm.Cond.code (⟨"com/example/uplog/uplog/SegmentIndex", "count", "()I"⟩ : MethodName) prog_12_method_3_code 1 (some .int) :: ws) ({ frames := 0, cells := 0, slots := 0, locals := 0 } : Room)) (fun a U => a = #[(.ref a1)] ∧ Z.Warmed39 U.vm ∧ U.heap = h0) (fun _ _ _ _ _ => True) (fun _ U o U' => ∃ v L, o = .returned v ∧ Q4 Z a1 c0 h0 n0 v U'.heap L ∧ FrameEnd U o U' L 0 0) := by
  refine own_body (Qv := Q4 Z a1 c0 h0 n0) (plainFor_of_name (by first | (simp [plainName, overriddenIn]; done) | decide +kernel)) ?_
  intro p e s m below meth c s₁ hx hby hml hret hlk hown hnm hZ X0 e0
  replace hown : s.vm.findClass "com/example/uplog/uplog/SegmentIndex" = some m.cls := hown
  replace hnm : meth.name = "count" := hnm
  have N0 := Fr.nil n0
  refine own_Go.mono (T' := s₁) (f' := (mkF m 0 #[.val (.ref a1)] [])) (fun t k => castTop (ef_rm4 m a1) k) ?_
  obtain ⟨T85, X85, e85, st85⟩ := getF X0 hx hZ hown (host := "") (Or.inl (hw _ (List.mem_of_getElem? (i := 24) rfl))) Via.refl e0 F (g := (mkF m 1 #[.val (.ref a1)] [(.ref a1)])) rfl rfl (hb hby d4_1)
  refine own_Go.mono (T' := T85) (f' := (mkF m 4 #[.val (.ref a1)] [(.int c0)])) (fun t k => ?_) ?_
  · show Steps p.tables e below (s₁.setTop (mkF m 0 #[.val (.ref a1)] [])) _
    refine XS.aloadN X0.here hx rfl (hb hby d4_0) rfl rfl ?_
    show Steps p.tables e below (s₁.setTop (mkF m 1 #[.val (.ref a1)] [(.ref a1)])) _
    refine st85 _ ?_
    show Steps p.tables e below (T85.setTop (mkF m 4 #[.val (.ref a1)] [(.int c0)])) _
    exact k
  exact own_retI X85 hx hret hlk (hb hby d4_4) (⟨rfl, N0, e85⟩) (by decide) (by decide)
theorem d12_0 : decode jdk_65_method_124_code 0 = .ok (.iload_n 1, 1) := by decide +kernel
theorem d12_1 : decode jdk_65_method_124_code 1 = .ok (.aload_n 0, 1) := by decide +kernel
theorem d12_2 : decode jdk_65_method_124_code 2 = .ok (.arraylength, 1) := by decide +kernel
theorem d12_3 : decode jdk_65_method_124_code 3 = .ok (.if_icmp .ne 11, 3) := by decide +kernel
theorem d12_6 : decode jdk_65_method_124_code 6 = .ok (.aload_n 0, 1) := by decide +kernel
theorem d12_7 : decode jdk_65_method_124_code 7 = .ok (.invokevirtual 319, 3) := by decide +kernel
theorem d12_10 : decode jdk_65_method_124_code 10 = .ok (.checkcast 320, 3) := by decide +kernel
theorem d12_13 : decode jdk_65_method_124_code 13 = .ok (.areturn, 1) := by decide +kernel
theorem d12_14 : decode jdk_65_method_124_code 14 = .ok (.iload_n 1, 1) := by decide +kernel
theorem d12_15 : decode jdk_65_method_124_code 15 = .ok (.newarray .long, 2) := by decide +kernel
theorem d12_17 : decode jdk_65_method_124_code 17 = .ok (.astore_n 2, 1) := by decide +kernel
theorem d12_18 : decode jdk_65_method_124_code 18 = .ok (.aload_n 0, 1) := by decide +kernel
theorem d12_19 : decode jdk_65_method_124_code 19 = .ok (.iconst 0, 1) := by decide +kernel
theorem d12_20 : decode jdk_65_method_124_code 20 = .ok (.aload_n 2, 1) := by decide +kernel
theorem d12_21 : decode jdk_65_method_124_code 21 = .ok (.iconst 0, 1) := by decide +kernel
theorem d12_22 : decode jdk_65_method_124_code 22 = .ok (.aload_n 0, 1) := by decide +kernel
theorem d12_23 : decode jdk_65_method_124_code 23 = .ok (.arraylength, 1) := by decide +kernel
theorem d12_24 : decode jdk_65_method_124_code 24 = .ok (.iload_n 1, 1) := by decide +kernel
theorem d12_25 : decode jdk_65_method_124_code 25 = .ok (.invokestatic 304, 3) := by decide +kernel
theorem d12_28 : decode jdk_65_method_124_code 28 = .ok (.invokestatic 150, 3) := by decide +kernel
theorem d12_31 : decode jdk_65_method_124_code 31 = .ok (.aload_n 2, 1) := by decide +kernel
theorem d12_32 : decode jdk_65_method_124_code 32 = .ok (.areturn, 1) := by decide +kernel
theorem ef_rmc8 (m : MethodId) (x0 : Addr) (x1 : Int32) : entryFrame m #[(.ref x0), (.int x1)] 3 = mkF m 0 #[.val (.ref x0), .val (.int x1), .unset] [] := by first | (simp [entryFrame, mkF, argsToLocals, Value.category]; done) | rfl
def Qc8 (Z : State) (a1 : Addr) (p1 : Int32) (k : ClassId) (y : Int64) (h0 : Heap) (n0 : Nat) (v : Option Value) (h : Heap) (L : List Loc) : Prop := ∃ (b : Addr) (kb : ClassId), v = some (.ref b) ∧ Fr n0 L ∧ Keep h0 h [] ∧ b = h0.size ∧ Arv Z h b kb .long (1 : Int32) [(.long y)] (.long (0 : Int64))
set_option maxRecDepth 65536 in
set_option maxHeartbeats 40000000 in
theorem rmc8 (l : Launch) (Z : State) (a0 : Array Value) (hw : ∀ d ∈ tables_1, d.before a0 Z = true) (ws : List Jvm.Cond) (a1 : Addr) (p1 : Int32) (k : ClassId) (y : Int64) (h0 : Heap) (n0 : Nat) (Z0 : n0 ≤ h0.size) (V : Arv Z h0 a1 k .long (8 : Int32) [(.long y), (.long (0 : Int64)), (.long (0 : Int64)), (.long (0 : Int64)), (.long (0 : Int64)), (.long (0 : Int64)), (.long (0 : Int64)), (.long (0 : Int64))] (.long (0 : Int64))) (hp : p1 = (1 : Int32)) :
    MetFree l (⟨"java/util/Arrays", "copyOf", "([JI)[J"⟩ : MethodName) (head1 (Jvm.Cond.code (⟨"java/util/Arrays", "copyOf", "([JI)[J"⟩ : MethodName) jdk_65_method_124_code 3 (some (.array .long)) :: ws) ({ frames := 1, cells := 1, slots := 1, locals := 22 } : Room)) (fun a U => a = #[(.ref a1), (.int p1)] ∧ Z.Warmed39 U.vm ∧ U.heap = h0) (fun _ _ _ _ _ => True) (fun _ U o U' => ∃ v L, o = .returned v ∧ Qc8 Z a1 p1 k y h0 n0 v U'.heap L ∧ FrameEnd U o U' L 1 1) := by
  refine own_body (Qv := Qc8 Z a1 p1 k y h0 n0) (plainFor_of_name (by first | (simp [plainName, overriddenIn]; done) | decide +kernel)) ?_
  intro p e s m below meth c s₁ hx hby hml hret hlk hown hnm hZ X0 e0
  replace hown : s.vm.findClass "java/util/Arrays" = some m.cls := hown
  replace hnm : meth.name = "copyOf" := hnm
  have N0 := Fr.nil n0
  refine own_Go.mono (T' := s₁) (f' := (mkF m 0 #[.val (.ref a1), .val (.int p1), .unset] [])) (fun t k => castTop (ef_rmc8 m a1 p1) k) ?_
  subst hp
  have K0_0 : Keep h0 h0 [] := Keep.refl _ _
  obtain ⟨cl86, Ar86, q86, S86, P86, H86, G86⟩ := V
  have V_a1_87 : Arv Z h0 a1 k .long (8 : Int32) [(.long y), (.long (0 : Int64)), (.long (0 : Int64)), (.long (0 : Int64)), (.long (0 : Int64)), (.long (0 : Int64)), (.long (0 : Int64)), (.long (0 : Int64))] (.long (0 : Int64)) := ⟨cl86, Ar86, q86, S86, P86, H86, G86⟩
  obtain ⟨T88, h88, k88, X88, e88, E88, A88, st88⟩ := newP X0 hx hZ (hw _ (List.mem_of_getElem? (i := 10) rfl)) e0 (g := (mkF m 15 #[.val (.ref a1), .val (.int (1 : Int32)), .unset] [(.int (1 : Int32))])) rfl (hb hby d12_15) rfl (by decide) (cap := 1) (by decide) (by decide) (by decide) (by decide)
  obtain ⟨b, g88⟩ : ∃ z, z = h0.size := ⟨_, rfl⟩
  rw [← g88] at A88 st88
  have ne_a1_b : a1 ≠ b := Nat.ne_of_lt (Nat.lt_of_lt_of_le V_a1_87.lt (Nat.le_of_eq g88.symm))
  have lo_b : n0 ≤ b := Nat.le_trans Z0 (Nat.le_of_eq g88.symm)
  have sz_b : h0.size ≤ b := Nat.le_trans K0_0.1 (Nat.le_of_eq g88.symm)
  have V_a1_89 := V_a1_87.ext E88
  have zh88 : n0 ≤ h88.size := Nat.le_trans Z0 E88.1
  have K0_88 : Keep h0 h88 [] := K0_0.ext E88
  have V_b_88 : Arv Z h88 b k88 .long (1 : Int32) [(.long (0 : Int64))] (.long (0 : Int64)) := (Arv.new A88 (by decide)).pad (pad_rep [] (.long (0 : Int64)) 1)
  obtain ⟨cl90, Ar90, q90, S90, P90, H90, G90⟩ := V_a1_89
  have V_a1_91 : Arv Z h88 a1 k .long (8 : Int32) [(.long y), (.long (0 : Int64)), (.long (0 : Int64)), (.long (0 : Int64)), (.long (0 : Int64)), (.long (0 : Int64)), (.long (0 : Int64)), (.long (0 : Int64))] (.long (0 : Int64)) := ⟨cl90, Ar90, q90, S90, P90, H90, G90⟩
  obtain ⟨_, _, ⟨T92, L92, k92, n92⟩, -, X92, ⟨Lc92, hQ92, l92, y92, z92⟩, st92⟩ := Jvm.LawKit.callS X88 hx (y := (⟨"java/lang/Math", "min", "(II)I"⟩ : MethodName)) hown (mvT hZ (hw _ (List.mem_of_getElem? (i := 71) rfl))) (mvT hZ (hw _ (List.mem_of_getElem? (i := 72) rfl))) (mvT hZ (hw _ (List.mem_of_getElem? (i := 55) rfl))) (mvT hZ (hw _ (List.mem_of_getElem? (i := 73) rfl))) (by decide) (backOf (W := 4) (rm13 l Z a0 hw [] (8 : Int32) (1 : Int32) h88 n0 zh88) hZ (hw _ (List.mem_of_getElem? (i := 73) rfl)) (hw _ (List.mem_of_getElem? (i := 55) rfl)) (by decide) (by decide)) (g := (mkF m 25 #[.val (.ref a1), .val (.int (1 : Int32)), .val (.ref b)] [(.int (1 : Int32)), (.int (8 : Int32)), (.int (0 : Int32)), (.ref b), (.int (0 : Int32)), (.ref a1)])) rfl (by rw [hml]; rfl) (argsL := [(.int (8 : Int32)), (.int (1 : Int32))]) (rest := [(.int (0 : Int32)), (.ref b), (.int (0 : Int32)), (.ref a1)]) (lenOf pd_0 rfl) rfl (by show 2 * 0 + _ ≤ _; exact Nat.le_of_eq rfl) (hb hby d12_25) (fun _ _ => ⟨rfl, e88, (by decide : 1 + 0 ≤ _), (by decide : 1 + 0 ≤ _)⟩)
  dsimp only [Pt.U, Pt.locs, Pt.cells, Pt.slots] at X92 l92 y92 z92 st92 hQ92
  subst l92 y92 z92
  obtain ⟨rfl, N92q, hh92⟩ := hQ92
  have N92 := Fr.app N0 N92q
  refine own_Go.mono (T' := T92) (f' := (mkF m 28 #[.val (.ref a1), .val (.int (1 : Int32)), .val (.ref b)] [(.int (B13_0 (8 : Int32) (1 : Int32))), (.int (0 : Int32)), (.ref b), (.int (0 : Int32)), (.ref a1)])) (fun t k => ?_) ?_
  · show Steps p.tables e below (s₁.setTop (mkF m 0 #[.val (.ref a1), .val (.int (1 : Int32)), .unset] [])) _
    refine XS.iloadN X0.here hx rfl (hb hby d12_0) rfl ?_
    show Steps p.tables e below (s₁.setTop (mkF m 1 #[.val (.ref a1), .val (.int (1 : Int32)), .unset] [(.int (1 : Int32))])) _
    refine XS.aloadN X0.here hx rfl (hb hby d12_1) rfl rfl ?_
    show Steps p.tables e below (s₁.setTop (mkF m 2 #[.val (.ref a1), .val (.int (1 : Int32)), .unset] [(.ref a1), (.int (1 : Int32))])) _
    refine X0.arraylength hx (by rw [e0]; exact Ar86.1) (State.isArrayOf_alike hZ.alike Ar86.2.1) (g := (mkF m 2 #[.val (.ref a1), .val (.int (1 : Int32)), .unset] [(.ref a1), (.int (1 : Int32))])) rfl rfl (hb hby d12_2) _ ?_
    rw [len_of S86 P86]
    show Steps p.tables e below (s₁.setTop (mkF m 3 #[.val (.ref a1), .val (.int (1 : Int32)), .unset] [(.int (8 : Int32)), (.int (1 : Int32))])) _
    refine XS.icmpYes X0.here hx rfl (pc0 := 3) (pc' := 14) rfl (hb hby d12_3) rfl (feq (by decide)).2 (by decide) (by decide) ?_
    show Steps p.tables e below (s₁.setTop (mkF m 14 #[.val (.ref a1), .val (.int (1 : Int32)), .unset] [])) _
    refine XS.iloadN X0.here hx rfl (hb hby d12_14) rfl ?_
    show Steps p.tables e below (s₁.setTop (mkF m 15 #[.val (.ref a1), .val (.int (1 : Int32)), .unset] [(.int (1 : Int32))])) _
    refine st88 _ ?_
    show Steps p.tables e below (T88.setTop (mkF m 17 #[.val (.ref a1), .val (.int (1 : Int32)), .unset] [(.ref b)])) _
    refine XS.astoreN X88.here hx rfl (hb hby d12_17) rfl rfl (l' := #[.val (.ref a1), .val (.int (1 : Int32)), .val (.ref b)]) rfl ?_
    show Steps p.tables e below (T88.setTop (mkF m 18 #[.val (.ref a1), .val (.int (1 : Int32)), .val (.ref b)] [])) _
    refine XS.aloadN X88.here hx rfl (hb hby d12_18) rfl rfl ?_
    show Steps p.tables e below (T88.setTop (mkF m 19 #[.val (.ref a1), .val (.int (1 : Int32)), .val (.ref b)] [(.ref a1)])) _
    refine XS.iconst X88.here hx rfl (hb hby d12_19) ?_
    show Steps p.tables e below (T88.setTop (mkF m 20 #[.val (.ref a1), .val (.int (1 : Int32)), .val (.ref b)] [(.int (0 : Int32)), (.ref a1)])) _
    refine XS.aloadN X88.here hx rfl (hb hby d12_20) rfl rfl ?_
    show Steps p.tables e below (T88.setTop (mkF m 21 #[.val (.ref a1), .val (.int (1 : Int32)), .val (.ref b)] [(.ref b), (.int (0 : Int32)), (.ref a1)])) _
    refine XS.iconst X88.here hx rfl (hb hby d12_21) ?_
    show Steps p.tables e below (T88.setTop (mkF m 22 #[.val (.ref a1), .val (.int (1 : Int32)), .val (.ref b)] [(.int (0 : Int32)), (.ref b), (.int (0 : Int32)), (.ref a1)])) _
    refine XS.aloadN X88.here hx rfl (hb hby d12_22) rfl rfl ?_
    show Steps p.tables e below (T88.setTop (mkF m 23 #[.val (.ref a1), .val (.int (1 : Int32)), .val (.ref b)] [(.ref a1), (.int (0 : Int32)), (.ref b), (.int (0 : Int32)), (.ref a1)])) _
    refine X88.arraylength hx (by rw [e88]; exact Ar90.1) (State.isArrayOf_alike hZ.alike Ar90.2.1) (g := (mkF m 23 #[.val (.ref a1), .val (.int (1 : Int32)), .val (.ref b)] [(.ref a1), (.int (0 : Int32)), (.ref b), (.int (0 : Int32)), (.ref a1)])) rfl rfl (hb hby d12_23) _ ?_
    rw [len_of S90 P90]
    show Steps p.tables e below (T88.setTop (mkF m 24 #[.val (.ref a1), .val (.int (1 : Int32)), .val (.ref b)] [(.int (8 : Int32)), (.int (0 : Int32)), (.ref b), (.int (0 : Int32)), (.ref a1)])) _
    refine XS.iloadN X88.here hx rfl (hb hby d12_24) rfl ?_
    show Steps p.tables e below (T88.setTop (mkF m 25 #[.val (.ref a1), .val (.int (1 : Int32)), .val (.ref b)] [(.int (1 : Int32)), (.int (8 : Int32)), (.int (0 : Int32)), (.ref b), (.int (0 : Int32)), (.ref a1)])) _
    refine st92 _ ?_
    show Steps p.tables e below (T92.setTop (mkF m 28 #[.val (.ref a1), .val (.int (1 : Int32)), .val (.ref b)] [(.int (B13_0 (8 : Int32) (1 : Int32))), (.int (0 : Int32)), (.ref b), (.int (0 : Int32)), (.ref a1)])) _
    exact k
  rw [show (B13_0 (8 : Int32) (1 : Int32)) = (1 : Int32) from by decide]
  obtain ⟨T93, h93, L93, X93, e93, N93, K93, V93, st93⟩ := cpA X92 hx hZ hown (hw _ (List.mem_of_getElem? (i := 74) rfl)) (hw _ (List.mem_of_getElem? (i := 77) rfl)) (hw _ (List.mem_of_getElem? (i := 75) rfl)) (hw _ (List.mem_of_getElem? (i := 76) rfl)) hh92 V_a1_91 V_b_88 (us := [(.long y)]) (Or.inl ⟨rfl, rfl⟩) (by decide) (by decide) (by decide) (by decide) (by decide) rfl (by decide) N92 lo_b (g := (mkF m 28 #[.val (.ref a1), .val (.int (1 : Int32)), .val (.ref b)] [(.int (1 : Int32)), (.int (0 : Int32)), (.ref b), (.int (0 : Int32)), (.ref a1)])) rfl (by rw [hml]; rfl) rfl (hb hby d12_28) (by decide) (W := 0) (by show 2 * 0 + _ ≤ _; exact Nat.le_of_eq rfl) (by decide)
  have K0_93 : Keep h0 h93 [] := K0_88.trans K93 (allS (Or.inr sz_b) all0)
  have Vn : Arv Z h93 b k88 .long (1 : Int32) [(.long y)] (.long (0 : Int64)) := V93
  refine own_Go.mono (T' := T93) (f' := (mkF m 32 #[.val (.ref a1), .val (.int (1 : Int32)), .val (.ref b)] [(.ref b)])) (fun t k => ?_) ?_
  · show Steps p.tables e below (T92.setTop (mkF m 28 #[.val (.ref a1), .val (.int (1 : Int32)), .val (.ref b)] [(.int (1 : Int32)), (.int (0 : Int32)), (.ref b), (.int (0 : Int32)), (.ref a1)])) _
    refine st93 _ ?_
    show Steps p.tables e below (T93.setTop (mkF m 31 #[.val (.ref a1), .val (.int (1 : Int32)), .val (.ref b)] [])) _
    refine XS.aloadN X93.here hx rfl (hb hby d12_31) rfl rfl ?_
    show Steps p.tables e below (T93.setTop (mkF m 32 #[.val (.ref a1), .val (.int (1 : Int32)), .val (.ref b)] [(.ref b)])) _
    exact k
  exact own_retA X93 hx hret rfl ⟨rfl, rfl⟩ hlk (hb hby d12_32) ((by rw [e93]; exact ⟨b, k88, rfl, N93, K0_93, g88, Vn⟩)) (by decide) (by decide)
theorem ef_rmc1 (m : MethodId) (x0 : Addr) (x1 : Int32) : entryFrame m #[(.ref x0), (.int x1)] 3 = mkF m 0 #[.val (.ref x0), .val (.int x1), .unset] [] := by first | (simp [entryFrame, mkF, argsToLocals, Value.category]; done) | rfl
def Qc1 (Z : State) (a1 : Addr) (p1 : Int32) (k : ClassId) (y : Int64) (h0 : Heap) (n0 : Nat) (v : Option Value) (h : Heap) (L : List Loc) : Prop := ∃ (b : Addr) (kb : ClassId), v = some (.ref b) ∧ Fr n0 L ∧ Keep h0 h [] ∧ b = h0.size ∧ Arv Z h b kb .long (9 : Int32) [(.long y), (.long (0 : Int64)), (.long (0 : Int64)), (.long (0 : Int64)), (.long (0 : Int64)), (.long (0 : Int64)), (.long (0 : Int64)), (.long (0 : Int64)), (.long (0 : Int64))] (.long (0 : Int64))
set_option maxRecDepth 65536 in
set_option maxHeartbeats 40000000 in
theorem rmc1 (l : Launch) (Z : State) (a0 : Array Value) (hw : ∀ d ∈ tables_1, d.before a0 Z = true) (ws : List Jvm.Cond) (a1 : Addr) (p1 : Int32) (k : ClassId) (y : Int64) (h0 : Heap) (n0 : Nat) (Z0 : n0 ≤ h0.size) (V : Arv Z h0 a1 k .long (1 : Int32) [(.long y)] (.long (0 : Int64))) (hp : p1 = (9 : Int32)) :
    MetFree l (⟨"java/util/Arrays", "copyOf", "([JI)[J"⟩ : MethodName) (head1 (Jvm.Cond.code (⟨"java/util/Arrays", "copyOf", "([JI)[J"⟩ : MethodName) jdk_65_method_124_code 3 (some (.array .long)) :: ws) ({ frames := 1, cells := 1, slots := 9, locals := 22 } : Room)) (fun a U => a = #[(.ref a1), (.int p1)] ∧ Z.Warmed39 U.vm ∧ U.heap = h0) (fun _ _ _ _ _ => True) (fun _ U o U' => ∃ v L, o = .returned v ∧ Qc1 Z a1 p1 k y h0 n0 v U'.heap L ∧ FrameEnd U o U' L 1 9) := by
  refine own_body (Qv := Qc1 Z a1 p1 k y h0 n0) (plainFor_of_name (by first | (simp [plainName, overriddenIn]; done) | decide +kernel)) ?_
  intro p e s m below meth c s₁ hx hby hml hret hlk hown hnm hZ X0 e0
  replace hown : s.vm.findClass "java/util/Arrays" = some m.cls := hown
  replace hnm : meth.name = "copyOf" := hnm
  have N0 := Fr.nil n0
  refine own_Go.mono (T' := s₁) (f' := (mkF m 0 #[.val (.ref a1), .val (.int p1), .unset] [])) (fun t k => castTop (ef_rmc1 m a1 p1) k) ?_
  subst hp
  have K0_0 : Keep h0 h0 [] := Keep.refl _ _
  obtain ⟨cl94, Ar94, q94, S94, P94, H94, G94⟩ := V
  have V_a1_95 : Arv Z h0 a1 k .long (1 : Int32) [(.long y)] (.long (0 : Int64)) := ⟨cl94, Ar94, q94, S94, P94, H94, G94⟩
  obtain ⟨T96, h96, k96, X96, e96, E96, A96, st96⟩ := newP X0 hx hZ (hw _ (List.mem_of_getElem? (i := 10) rfl)) e0 (g := (mkF m 15 #[.val (.ref a1), .val (.int (9 : Int32)), .unset] [(.int (9 : Int32))])) rfl (hb hby d12_15) rfl (by decide) (cap := 9) (by decide) (by decide) (by decide) (by decide)
  obtain ⟨b, g96⟩ : ∃ z, z = h0.size := ⟨_, rfl⟩
  rw [← g96] at A96 st96
  have ne_a1_b : a1 ≠ b := Nat.ne_of_lt (Nat.lt_of_lt_of_le V_a1_95.lt (Nat.le_of_eq g96.symm))
  have lo_b : n0 ≤ b := Nat.le_trans Z0 (Nat.le_of_eq g96.symm)
  have sz_b : h0.size ≤ b := Nat.le_trans K0_0.1 (Nat.le_of_eq g96.symm)
  have V_a1_97 := V_a1_95.ext E96
  have zh96 : n0 ≤ h96.size := Nat.le_trans Z0 E96.1
  have K0_96 : Keep h0 h96 [] := K0_0.ext E96
  have V_b_96 : Arv Z h96 b k96 .long (9 : Int32) [(.long (0 : Int64)), (.long (0 : Int64)), (.long (0 : Int64)), (.long (0 : Int64)), (.long (0 : Int64)), (.long (0 : Int64)), (.long (0 : Int64)), (.long (0 : Int64)), (.long (0 : Int64))] (.long (0 : Int64)) := (Arv.new A96 (by decide)).pad (pad_rep [] (.long (0 : Int64)) 9)
  obtain ⟨cl98, Ar98, q98, S98, P98, H98, G98⟩ := V_a1_97
  have V_a1_99 : Arv Z h96 a1 k .long (1 : Int32) [(.long y)] (.long (0 : Int64)) := ⟨cl98, Ar98, q98, S98, P98, H98, G98⟩
  obtain ⟨_, _, ⟨T100, L100, k100, n100⟩, -, X100, ⟨Lc100, hQ100, l100, y100, z100⟩, st100⟩ := Jvm.LawKit.callS X96 hx (y := (⟨"java/lang/Math", "min", "(II)I"⟩ : MethodName)) hown (mvT hZ (hw _ (List.mem_of_getElem? (i := 71) rfl))) (mvT hZ (hw _ (List.mem_of_getElem? (i := 72) rfl))) (mvT hZ (hw _ (List.mem_of_getElem? (i := 55) rfl))) (mvT hZ (hw _ (List.mem_of_getElem? (i := 73) rfl))) (by decide) (backOf (W := 4) (rm13 l Z a0 hw [] (1 : Int32) (9 : Int32) h96 n0 zh96) hZ (hw _ (List.mem_of_getElem? (i := 73) rfl)) (hw _ (List.mem_of_getElem? (i := 55) rfl)) (by decide) (by decide)) (g := (mkF m 25 #[.val (.ref a1), .val (.int (9 : Int32)), .val (.ref b)] [(.int (9 : Int32)), (.int (1 : Int32)), (.int (0 : Int32)), (.ref b), (.int (0 : Int32)), (.ref a1)])) rfl (by rw [hml]; rfl) (argsL := [(.int (1 : Int32)), (.int (9 : Int32))]) (rest := [(.int (0 : Int32)), (.ref b), (.int (0 : Int32)), (.ref a1)]) (lenOf pd_0 rfl) rfl (by show 2 * 0 + _ ≤ _; exact Nat.le_of_eq rfl) (hb hby d12_25) (fun _ _ => ⟨rfl, e96, (by decide : 1 + 0 ≤ _), (by decide : 9 + 0 ≤ _)⟩)
  dsimp only [Pt.U, Pt.locs, Pt.cells, Pt.slots] at X100 l100 y100 z100 st100 hQ100
  subst l100 y100 z100
  obtain ⟨rfl, N100q, hh100⟩ := hQ100
  have N100 := Fr.app N0 N100q
  refine own_Go.mono (T' := T100) (f' := (mkF m 28 #[.val (.ref a1), .val (.int (9 : Int32)), .val (.ref b)] [(.int (B13_0 (1 : Int32) (9 : Int32))), (.int (0 : Int32)), (.ref b), (.int (0 : Int32)), (.ref a1)])) (fun t k => ?_) ?_
  · show Steps p.tables e below (s₁.setTop (mkF m 0 #[.val (.ref a1), .val (.int (9 : Int32)), .unset] [])) _
    refine XS.iloadN X0.here hx rfl (hb hby d12_0) rfl ?_
    show Steps p.tables e below (s₁.setTop (mkF m 1 #[.val (.ref a1), .val (.int (9 : Int32)), .unset] [(.int (9 : Int32))])) _
    refine XS.aloadN X0.here hx rfl (hb hby d12_1) rfl rfl ?_
    show Steps p.tables e below (s₁.setTop (mkF m 2 #[.val (.ref a1), .val (.int (9 : Int32)), .unset] [(.ref a1), (.int (9 : Int32))])) _
    refine X0.arraylength hx (by rw [e0]; exact Ar94.1) (State.isArrayOf_alike hZ.alike Ar94.2.1) (g := (mkF m 2 #[.val (.ref a1), .val (.int (9 : Int32)), .unset] [(.ref a1), (.int (9 : Int32))])) rfl rfl (hb hby d12_2) _ ?_
    rw [len_of S94 P94]
    show Steps p.tables e below (s₁.setTop (mkF m 3 #[.val (.ref a1), .val (.int (9 : Int32)), .unset] [(.int (1 : Int32)), (.int (9 : Int32))])) _
    refine XS.icmpYes X0.here hx rfl (pc0 := 3) (pc' := 14) rfl (hb hby d12_3) rfl (feq (by decide)).2 (by decide) (by decide) ?_
    show Steps p.tables e below (s₁.setTop (mkF m 14 #[.val (.ref a1), .val (.int (9 : Int32)), .unset] [])) _
    refine XS.iloadN X0.here hx rfl (hb hby d12_14) rfl ?_
    show Steps p.tables e below (s₁.setTop (mkF m 15 #[.val (.ref a1), .val (.int (9 : Int32)), .unset] [(.int (9 : Int32))])) _
    refine st96 _ ?_
    show Steps p.tables e below (T96.setTop (mkF m 17 #[.val (.ref a1), .val (.int (9 : Int32)), .unset] [(.ref b)])) _
    refine XS.astoreN X96.here hx rfl (hb hby d12_17) rfl rfl (l' := #[.val (.ref a1), .val (.int (9 : Int32)), .val (.ref b)]) rfl ?_
    show Steps p.tables e below (T96.setTop (mkF m 18 #[.val (.ref a1), .val (.int (9 : Int32)), .val (.ref b)] [])) _
    refine XS.aloadN X96.here hx rfl (hb hby d12_18) rfl rfl ?_
    show Steps p.tables e below (T96.setTop (mkF m 19 #[.val (.ref a1), .val (.int (9 : Int32)), .val (.ref b)] [(.ref a1)])) _
    refine XS.iconst X96.here hx rfl (hb hby d12_19) ?_
    show Steps p.tables e below (T96.setTop (mkF m 20 #[.val (.ref a1), .val (.int (9 : Int32)), .val (.ref b)] [(.int (0 : Int32)), (.ref a1)])) _
    refine XS.aloadN X96.here hx rfl (hb hby d12_20) rfl rfl ?_
    show Steps p.tables e below (T96.setTop (mkF m 21 #[.val (.ref a1), .val (.int (9 : Int32)), .val (.ref b)] [(.ref b), (.int (0 : Int32)), (.ref a1)])) _
    refine XS.iconst X96.here hx rfl (hb hby d12_21) ?_
    show Steps p.tables e below (T96.setTop (mkF m 22 #[.val (.ref a1), .val (.int (9 : Int32)), .val (.ref b)] [(.int (0 : Int32)), (.ref b), (.int (0 : Int32)), (.ref a1)])) _
    refine XS.aloadN X96.here hx rfl (hb hby d12_22) rfl rfl ?_
    show Steps p.tables e below (T96.setTop (mkF m 23 #[.val (.ref a1), .val (.int (9 : Int32)), .val (.ref b)] [(.ref a1), (.int (0 : Int32)), (.ref b), (.int (0 : Int32)), (.ref a1)])) _
    refine X96.arraylength hx (by rw [e96]; exact Ar98.1) (State.isArrayOf_alike hZ.alike Ar98.2.1) (g := (mkF m 23 #[.val (.ref a1), .val (.int (9 : Int32)), .val (.ref b)] [(.ref a1), (.int (0 : Int32)), (.ref b), (.int (0 : Int32)), (.ref a1)])) rfl rfl (hb hby d12_23) _ ?_
    rw [len_of S98 P98]
    show Steps p.tables e below (T96.setTop (mkF m 24 #[.val (.ref a1), .val (.int (9 : Int32)), .val (.ref b)] [(.int (1 : Int32)), (.int (0 : Int32)), (.ref b), (.int (0 : Int32)), (.ref a1)])) _
    refine XS.iloadN X96.here hx rfl (hb hby d12_24) rfl ?_
    show Steps p.tables e below (T96.setTop (mkF m 25 #[.val (.ref a1), .val (.int (9 : Int32)), .val (.ref b)] [(.int (9 : Int32)), (.int (1 : Int32)), (.int (0 : Int32)), (.ref b), (.int (0 : Int32)), (.ref a1)])) _
    refine st100 _ ?_
    show Steps p.tables e below (T100.setTop (mkF m 28 #[.val (.ref a1), .val (.int (9 : Int32)), .val (.ref b)] [(.int (B13_0 (1 : Int32) (9 : Int32))), (.int (0 : Int32)), (.ref b), (.int (0 : Int32)), (.ref a1)])) _
    exact k
  rw [show (B13_0 (1 : Int32) (9 : Int32)) = (1 : Int32) from by decide]
  obtain ⟨T101, h101, L101, X101, e101, N101, K101, V101, st101⟩ := cpA X100 hx hZ hown (hw _ (List.mem_of_getElem? (i := 74) rfl)) (hw _ (List.mem_of_getElem? (i := 77) rfl)) (hw _ (List.mem_of_getElem? (i := 75) rfl)) (hw _ (List.mem_of_getElem? (i := 76) rfl)) hh100 V_a1_99 V_b_96 (us := [(.long y)]) (Or.inl ⟨rfl, rfl⟩) (by decide) (by decide) (by decide) (by decide) (by decide) rfl (by decide) N100 lo_b (g := (mkF m 28 #[.val (.ref a1), .val (.int (9 : Int32)), .val (.ref b)] [(.int (1 : Int32)), (.int (0 : Int32)), (.ref b), (.int (0 : Int32)), (.ref a1)])) rfl (by rw [hml]; rfl) rfl (hb hby d12_28) (by decide) (W := 0) (by show 2 * 0 + _ ≤ _; exact Nat.le_of_eq rfl) (by decide)
  have K0_101 : Keep h0 h101 [] := K0_96.trans K101 (allS (Or.inr sz_b) all0)
  have Vn : Arv Z h101 b k96 .long (9 : Int32) [(.long y), (.long (0 : Int64)), (.long (0 : Int64)), (.long (0 : Int64)), (.long (0 : Int64)), (.long (0 : Int64)), (.long (0 : Int64)), (.long (0 : Int64)), (.long (0 : Int64))] (.long (0 : Int64)) := V101
  refine own_Go.mono (T' := T101) (f' := (mkF m 32 #[.val (.ref a1), .val (.int (9 : Int32)), .val (.ref b)] [(.ref b)])) (fun t k => ?_) ?_
  · show Steps p.tables e below (T100.setTop (mkF m 28 #[.val (.ref a1), .val (.int (9 : Int32)), .val (.ref b)] [(.int (1 : Int32)), (.int (0 : Int32)), (.ref b), (.int (0 : Int32)), (.ref a1)])) _
    refine st101 _ ?_
    show Steps p.tables e below (T101.setTop (mkF m 31 #[.val (.ref a1), .val (.int (9 : Int32)), .val (.ref b)] [])) _
    refine XS.aloadN X101.here hx rfl (hb hby d12_31) rfl rfl ?_
    show Steps p.tables e below (T101.setTop (mkF m 32 #[.val (.ref a1), .val (.int (9 : Int32)), .val (.ref b)] [(.ref b)])) _
    exact k
  exact own_retA X101 hx hret rfl ⟨rfl, rfl⟩ hlk (hb hby d12_32) ((by rw [e101]; exact ⟨b, k96, rfl, N101, K0_101, g96, Vn⟩)) (by decide) (by decide)
theorem d11_0 : decode prog_12_method_12_code 0 = .ok (.aload_n 0, 1) := by decide +kernel
theorem d11_1 : decode prog_12_method_12_code 1 = .ok (.aload_n 0, 1) := by decide +kernel
theorem d11_2 : decode prog_12_method_12_code 2 = .ok (.getfield 9, 3) := by decide +kernel
theorem d11_5 : decode prog_12_method_12_code 5 = .ok (.iload_n 1, 1) := by decide +kernel
theorem d11_6 : decode prog_12_method_12_code 6 = .ok (.invokestatic 45, 3) := by decide +kernel
theorem d11_9 : decode prog_12_method_12_code 9 = .ok (.putfield 9, 3) := by decide +kernel
theorem d11_12 : decode prog_12_method_12_code 12 = .ok (.aload_n 0, 1) := by decide +kernel
theorem d11_13 : decode prog_12_method_12_code 13 = .ok (.aload_n 0, 1) := by decide +kernel
theorem d11_14 : decode prog_12_method_12_code 14 = .ok (.getfield 13, 3) := by decide +kernel
theorem d11_17 : decode prog_12_method_12_code 17 = .ok (.iload_n 1, 1) := by decide +kernel
theorem d11_18 : decode prog_12_method_12_code 18 = .ok (.invokestatic 45, 3) := by decide +kernel
theorem d11_21 : decode prog_12_method_12_code 21 = .ok (.putfield 13, 3) := by decide +kernel
theorem d11_24 : decode prog_12_method_12_code 24 = .ok (.aload_n 0, 1) := by decide +kernel
theorem d11_25 : decode prog_12_method_12_code 25 = .ok (.aload_n 0, 1) := by decide +kernel
theorem d11_26 : decode prog_12_method_12_code 26 = .ok (.getfield 16, 3) := by decide +kernel
theorem d11_29 : decode prog_12_method_12_code 29 = .ok (.iload_n 1, 1) := by decide +kernel
theorem d11_30 : decode prog_12_method_12_code 30 = .ok (.invokestatic 45, 3) := by decide +kernel
theorem d11_33 : decode prog_12_method_12_code 33 = .ok (.putfield 16, 3) := by decide +kernel
theorem d11_36 : decode prog_12_method_12_code 36 = .ok (.aload_n 0, 1) := by decide +kernel
theorem d11_37 : decode prog_12_method_12_code 37 = .ok (.aload_n 0, 1) := by decide +kernel
theorem d11_38 : decode prog_12_method_12_code 38 = .ok (.getfield 19, 3) := by decide +kernel
theorem d11_41 : decode prog_12_method_12_code 41 = .ok (.iload_n 1, 1) := by decide +kernel
theorem d11_42 : decode prog_12_method_12_code 42 = .ok (.invokestatic 45, 3) := by decide +kernel
theorem d11_45 : decode prog_12_method_12_code 45 = .ok (.putfield 19, 3) := by decide +kernel
theorem d11_48 : decode prog_12_method_12_code 48 = .ok (.return_, 1) := by decide +kernel
theorem ef_rmr8 (m : MethodId) (x0 : Addr) (x1 : Int32) : entryFrame m #[(.ref x0), (.int x1)] 2 = mkF m 0 #[.val (.ref x0), .val (.int x1)] [] := by first | (simp [entryFrame, mkF, argsToLocals, Value.category]; done) | rfl
def Qr8 (Z : State) (a1 : Addr) (p1 : Int32) (a2 : Addr) (a3 : Addr) (a4 : Addr) (a5 : Addr) (k2 : ClassId) (k3 : ClassId) (k4 : ClassId) (k5 : ClassId) (y2 : Int64) (y3 : Int64) (y4 : Int64) (y5 : Int64) (h0 : Heap) (n0 : Nat) (v : Option Value) (h : Heap) (L : List Loc) : Prop := ∃ (c2 c3 c4 c5 : Addr) (j2 j3 j4 j5 : ClassId), v = none ∧ Fr n0 L ∧ Keep h0 h [a1] ∧ (h0.size ≤ c2 ∧ h0.size ≤ c3 ∧ h0.size ≤ c4 ∧ h0.size ≤ c5) ∧ own_Seg Z n0 h a1 (1 : Int32) (1 : Int32) c2 c3 c4 c5 j2 j3 j4 j5 [(.long y2)] [(.long y3)] [(.long y4)] [(.long y5)]
set_option maxRecDepth 65536 in
set_option maxHeartbeats 40000000 in
theorem rmr8 (l : Launch) (Z : State) (a0 : Array Value) (hw : ∀ d ∈ tables_1, d.before a0 Z = true) (ws : List Jvm.Cond) (a1 : Addr) (p1 : Int32) (a2 : Addr) (a3 : Addr) (a4 : Addr) (a5 : Addr) (k2 : ClassId) (k3 : ClassId) (k4 : ClassId) (k5 : ClassId) (y2 : Int64) (y3 : Int64) (y4 : Int64) (y5 : Int64) (h0 : Heap) (n0 : Nat) (Z0 : n0 ≤ h0.size) (G : own_Seg Z n0 h0 a1 (1 : Int32) (8 : Int32) a2 a3 a4 a5 k2 k3 k4 k5 [(.long y2), (.long (0 : Int64)), (.long (0 : Int64)), (.long (0 : Int64)), (.long (0 : Int64)), (.long (0 : Int64)), (.long (0 : Int64)), (.long (0 : Int64))] [(.long y3), (.long (0 : Int64)), (.long (0 : Int64)), (.long (0 : Int64)), (.long (0 : Int64)), (.long (0 : Int64)), (.long (0 : Int64)), (.long (0 : Int64))] [(.long y4), (.long (0 : Int64)), (.long (0 : Int64)), (.long (0 : Int64)), (.long (0 : Int64)), (.long (0 : Int64)), (.long (0 : Int64)), (.long (0 : Int64))] [(.long y5), (.long (0 : Int64)), (.long (0 : Int64)), (.long (0 : Int64)), (.long (0 : Int64)), (.long (0 : Int64)), (.long (0 : Int64)), (.long (0 : Int64))]) (hp : p1 = (1 : Int32)) :
    MetFree l (⟨"com/example/uplog/uplog/SegmentIndex", "resize", "(I)V"⟩ : MethodName) (head1 (Jvm.Cond.code (⟨"com/example/uplog/uplog/SegmentIndex", "resize", "(I)V"⟩ : MethodName) prog_12_method_12_code 2 none :: ws) ({ frames := 2, cells := 4, slots := 4, locals := 37 } : Room)) (fun a U => a = #[(.ref a1), (.int p1)] ∧ Z.Warmed39 U.vm ∧ U.heap = h0) (fun _ _ _ _ _ => True) (fun _ U o U' => ∃ v L, o = .returned v ∧ Qr8 Z a1 p1 a2 a3 a4 a5 k2 k3 k4 k5 y2 y3 y4 y5 h0 n0 v U'.heap L ∧ FrameEnd U o U' L 4 4) := by
  refine own_body (Qv := Qr8 Z a1 p1 a2 a3 a4 a5 k2 k3 k4 k5 y2 y3 y4 y5 h0 n0) (plainFor_of_name (by first | (simp [plainName, overriddenIn]; done) | decide +kernel)) ?_
  intro p e s m below meth c s₁ hx hby hml hret hlk hown hnm hZ X0 e0
  replace hown : s.vm.findClass "com/example/uplog/uplog/SegmentIndex" = some m.cls := hown
  replace hnm : meth.name = "resize" := hnm
  have N0 := Fr.nil n0
  refine own_Go.mono (T' := s₁) (f' := (mkF m 0 #[.val (.ref a1), .val (.int p1)] [])) (fun t k => castTop (ef_rmr8 m a1 p1) k) ?_
  subst hp
  have K0_0 : Keep h0 h0 [a1] := Keep.refl _ _
  obtain ⟨E1_102, Fc_102, Fa2_102, Fa3_102, Fa4_102, Fa5_102, Va2_102, Va3_102, Va4_102, Va5_102, da2a3_102, da2a4_102, da2a5_102, da3a4_102, da3a5_102, da4a5_102, lo1_102, loa2_102, loa3_102, loa4_102, loa5_102⟩ := G
  have ne1a2_102 : a1 ≠ a2 := Exa.neArv E1_102 Va2_102 (hw _ (List.mem_of_getElem? (i := 2) rfl))
  have ne1a3_102 : a1 ≠ a3 := Exa.neArv E1_102 Va3_102 (hw _ (List.mem_of_getElem? (i := 2) rfl))
  have ne1a4_102 : a1 ≠ a4 := Exa.neArv E1_102 Va4_102 (hw _ (List.mem_of_getElem? (i := 2) rfl))
  have ne1a5_102 : a1 ≠ a5 := Exa.neArv E1_102 Va5_102 (hw _ (List.mem_of_getElem? (i := 2) rfl))
  obtain ⟨T103, X103, e103, st103⟩ := getF X0 hx hZ hown (host := "") (Or.inl (hw _ (List.mem_of_getElem? (i := 11) rfl))) Via.refl e0 Fa2_102 (g := (mkF m 2 #[.val (.ref a1), .val (.int (1 : Int32))] [(.ref a1), (.ref a1)])) rfl rfl (hb hby d11_2)
  obtain ⟨_, _, ⟨T104, L104, k104, n104⟩, -, X104, ⟨Lc104, hQ104, l104, y104, z104⟩, st104⟩ := Jvm.LawKit.callS X103 hx (y := (⟨"java/util/Arrays", "copyOf", "([JI)[J"⟩ : MethodName)) hown (mvT hZ (hw _ (List.mem_of_getElem? (i := 67) rfl))) (mvT hZ (hw _ (List.mem_of_getElem? (i := 68) rfl))) (mvT hZ (hw _ (List.mem_of_getElem? (i := 69) rfl))) (mvT hZ (hw _ (List.mem_of_getElem? (i := 70) rfl))) (by decide) (backOf (W := 1) (rmc8 l Z a0 hw [] a2 (1 : Int32) k2 y2 h0 n0 Z0 Va2_102 rfl) hZ (hw _ (List.mem_of_getElem? (i := 70) rfl)) (hw _ (List.mem_of_getElem? (i := 69) rfl)) (by decide) (by decide)) (g := (mkF m 6 #[.val (.ref a1), .val (.int (1 : Int32))] [(.int (1 : Int32)), (.ref a2), (.ref a1)])) rfl (by rw [hml]; rfl) (argsL := [(.ref a2), (.int (1 : Int32))]) (rest := [(.ref a1)]) (lenOf pd_1 rfl) rfl (by show 2 * 0 + _ ≤ _; exact Nat.le_of_eq rfl) (hb hby d11_6) (fun _ _ => ⟨rfl, e103, (by decide : 0 + 1 ≤ _), (by decide : 0 + 1 ≤ _)⟩)
  dsimp only [Pt.U, Pt.locs, Pt.cells, Pt.slots] at X104 l104 y104 z104 st104 hQ104
  subst l104 y104 z104
  obtain ⟨c2, j2, rfl, N104q, K104, gc104, Vc104⟩ := hQ104
  have N104 := Fr.app N0 N104q
  have E1_105 := E1_102.keep K104
  have Fc_106 := Fc_102.keep K104 nin0
  have Fa2_107 := Fa2_102.keep K104 nin0
  have Fa3_108 := Fa3_102.keep K104 nin0
  have Fa4_109 := Fa4_102.keep K104 nin0
  have Fa5_110 := Fa5_102.keep K104 nin0
  have Va2_111 := Va2_102.keep K104 nin0
  have Va3_112 := Va3_102.keep K104 nin0
  have Va4_113 := Va4_102.keep K104 nin0
  have Va5_114 := Va5_102.keep K104 nin0
  have zh104 : n0 ≤ T104.heap.size := Nat.le_trans Z0 K104.1
  have K0_104 : Keep h0 T104.heap [a1] := K0_0.trans K104 all0
  have ne_a1_c2 : a1 ≠ c2 := fun q => by have u := E1_102.lt; rw [q, gc104] at u; exact Nat.lt_irrefl _ u
  have ne_a3_c2 : a3 ≠ c2 := fun q => by have u := Va3_102.lt; rw [q, gc104] at u; exact Nat.lt_irrefl _ u
  have ne_a4_c2 : a4 ≠ c2 := fun q => by have u := Va4_102.lt; rw [q, gc104] at u; exact Nat.lt_irrefl _ u
  have ne_a5_c2 : a5 ≠ c2 := fun q => by have u := Va5_102.lt; rw [q, gc104] at u; exact Nat.lt_irrefl _ u
  have sz_c2 : h0.size ≤ c2 := by rw [gc104]; exact K0_0.1
  have lo_c2 : n0 ≤ c2 := by rw [gc104]; exact Z0
  obtain ⟨T115, h115, X115, e115, W115, st115⟩ := putF X104 hx hZ hown (host := "") (Or.inl (hw _ (List.mem_of_getElem? (i := 11) rfl))) Via.refl rfl Fa2_107 E1_105 (Or.inl (hw _ (List.mem_of_getElem? (i := 12) rfl))) (hw _ (List.mem_of_getElem? (i := 2) rfl)) (ty := (.array .long)) (by decide) rfl rfl (g := (mkF m 9 #[.val (.ref a1), .val (.int (1 : Int32))] [(.ref c2), (.ref a1)])) rfl rfl (hb hby d11_9)
  have F_offsets_a1_115 := Fa2_107.same W115
  have E1_116 := E1_105.wr W115
  have Fc_117 := Fc_106.other W115 (Or.inr (slot_ne (Or.inl (hw _ (List.mem_of_getElem? (i := 25) rfl))) (Or.inl (hw _ (List.mem_of_getElem? (i := 12) rfl))) (by decide) (t := .int) (t' := (.array .long)) (by decide) (by decide)))
  have Fa3_118 := Fa3_108.other W115 (Or.inr (slot_ne (Or.inl (hw _ (List.mem_of_getElem? (i := 14) rfl))) (Or.inl (hw _ (List.mem_of_getElem? (i := 12) rfl))) (by decide) (t := (.array .long)) (t' := (.array .long)) (by decide) (by decide)))
  have Fa4_119 := Fa4_109.other W115 (Or.inr (slot_ne (Or.inl (hw _ (List.mem_of_getElem? (i := 16) rfl))) (Or.inl (hw _ (List.mem_of_getElem? (i := 12) rfl))) (by decide) (t := (.array .long)) (t' := (.array .long)) (by decide) (by decide)))
  have Fa5_120 := Fa5_110.other W115 (Or.inr (slot_ne (Or.inl (hw _ (List.mem_of_getElem? (i := 18) rfl))) (Or.inl (hw _ (List.mem_of_getElem? (i := 12) rfl))) (by decide) (t := (.array .long)) (t' := (.array .long)) (by decide) (by decide)))
  have Va3_121 := Va3_112.other W115 (Ne.symm ne1a3_102)
  have Va4_122 := Va4_113.other W115 (Ne.symm ne1a4_102)
  have Va5_123 := Va5_114.other W115 (Ne.symm ne1a5_102)
  have Vc104_124 := Vc104.other W115 (Ne.symm ne_a1_c2)
  have zh115 : n0 ≤ h115.size := Nat.le_trans zh104 (Nat.le_of_eq W115.size.symm)
  have K0_115 : Keep h0 h115 [a1] := K0_104.wr W115 (Or.inl (List.mem_of_getElem? (i := 0) rfl))
  have N115 := Fr.snoc X115 N104 lo1_102
  obtain ⟨T125, X125, e125, st125⟩ := getF X115 hx hZ hown (host := "") (Or.inl (hw _ (List.mem_of_getElem? (i := 13) rfl))) Via.refl e115 Fa3_118 (g := (mkF m 14 #[.val (.ref a1), .val (.int (1 : Int32))] [(.ref a1), (.ref a1)])) rfl rfl (hb hby d11_14)
  obtain ⟨_, _, ⟨T126, L126, k126, n126⟩, -, X126, ⟨Lc126, hQ126, l126, y126, z126⟩, st126⟩ := Jvm.LawKit.callS X125 hx (y := (⟨"java/util/Arrays", "copyOf", "([JI)[J"⟩ : MethodName)) hown (mvT hZ (hw _ (List.mem_of_getElem? (i := 67) rfl))) (mvT hZ (hw _ (List.mem_of_getElem? (i := 68) rfl))) (mvT hZ (hw _ (List.mem_of_getElem? (i := 69) rfl))) (mvT hZ (hw _ (List.mem_of_getElem? (i := 70) rfl))) (by decide) (backOf (W := 1) (rmc8 l Z a0 hw [] a3 (1 : Int32) k3 y3 h115 n0 zh115 Va3_121 rfl) hZ (hw _ (List.mem_of_getElem? (i := 70) rfl)) (hw _ (List.mem_of_getElem? (i := 69) rfl)) (by decide) (by decide)) (g := (mkF m 18 #[.val (.ref a1), .val (.int (1 : Int32))] [(.int (1 : Int32)), (.ref a3), (.ref a1)])) rfl (by rw [hml]; rfl) (argsL := [(.ref a3), (.int (1 : Int32))]) (rest := [(.ref a1)]) (lenOf pd_1 rfl) rfl (by show 2 * 0 + _ ≤ _; exact Nat.le_of_eq rfl) (hb hby d11_18) (fun _ _ => ⟨rfl, e125, (by decide : 1 + 1 ≤ _), (by decide : 1 + 1 ≤ _)⟩)
  dsimp only [Pt.U, Pt.locs, Pt.cells, Pt.slots] at X126 l126 y126 z126 st126 hQ126
  subst l126 y126 z126
  obtain ⟨c3, j3, rfl, N126q, K126, gc126, Vc126⟩ := hQ126
  have N126 := Fr.app N115 N126q
  have E1_127 := E1_116.keep K126
  have Fc_128 := Fc_117.keep K126 nin0
  have F_offsets_a1_129 := F_offsets_a1_115.keep K126 nin0
  have Fa3_130 := Fa3_118.keep K126 nin0
  have Fa4_131 := Fa4_119.keep K126 nin0
  have Fa5_132 := Fa5_120.keep K126 nin0
  have Va3_133 := Va3_121.keep K126 nin0
  have Va4_134 := Va4_122.keep K126 nin0
  have Va5_135 := Va5_123.keep K126 nin0
  have Vc104_136 := Vc104_124.keep K126 nin0
  have zh126 : n0 ≤ T126.heap.size := Nat.le_trans zh115 K126.1
  have K0_126 : Keep h0 T126.heap [a1] := K0_115.trans K126 all0
  have ne_a1_c3 : a1 ≠ c3 := fun q => by have u := E1_116.lt; rw [q, gc126] at u; exact Nat.lt_irrefl _ u
  have ne_a4_c3 : a4 ≠ c3 := fun q => by have u := Va4_122.lt; rw [q, gc126] at u; exact Nat.lt_irrefl _ u
  have ne_a5_c3 : a5 ≠ c3 := fun q => by have u := Va5_123.lt; rw [q, gc126] at u; exact Nat.lt_irrefl _ u
  have ne_c2_c3 : c2 ≠ c3 := fun q => by have u := Vc104_124.lt; rw [q, gc126] at u; exact Nat.lt_irrefl _ u
  have sz_c3 : h0.size ≤ c3 := by rw [gc126]; exact K0_115.1
  have lo_c3 : n0 ≤ c3 := by rw [gc126]; exact zh115
  obtain ⟨T137, h137, X137, e137, W137, st137⟩ := putF X126 hx hZ hown (host := "") (Or.inl (hw _ (List.mem_of_getElem? (i := 13) rfl))) Via.refl rfl Fa3_130 E1_127 (Or.inl (hw _ (List.mem_of_getElem? (i := 14) rfl))) (hw _ (List.mem_of_getElem? (i := 2) rfl)) (ty := (.array .long)) (by decide) rfl rfl (g := (mkF m 21 #[.val (.ref a1), .val (.int (1 : Int32))] [(.ref c3), (.ref a1)])) rfl rfl (hb hby d11_21)
  have F_positions_a1_137 := Fa3_130.same W137
  have E1_138 := E1_127.wr W137
  have Fc_139 := Fc_128.other W137 (Or.inr (slot_ne (Or.inl (hw _ (List.mem_of_getElem? (i := 25) rfl))) (Or.inl (hw _ (List.mem_of_getElem? (i := 14) rfl))) (by decide) (t := .int) (t' := (.array .long)) (by decide) (by decide)))
  have F_offsets_a1_140 := F_offsets_a1_129.other W137 (Or.inr (slot_ne (Or.inl (hw _ (List.mem_of_getElem? (i := 12) rfl))) (Or.inl (hw _ (List.mem_of_getElem? (i := 14) rfl))) (by decide) (t := (.array .long)) (t' := (.array .long)) (by decide) (by decide)))
  have Fa4_141 := Fa4_131.other W137 (Or.inr (slot_ne (Or.inl (hw _ (List.mem_of_getElem? (i := 16) rfl))) (Or.inl (hw _ (List.mem_of_getElem? (i := 14) rfl))) (by decide) (t := (.array .long)) (t' := (.array .long)) (by decide) (by decide)))
  have Fa5_142 := Fa5_132.other W137 (Or.inr (slot_ne (Or.inl (hw _ (List.mem_of_getElem? (i := 18) rfl))) (Or.inl (hw _ (List.mem_of_getElem? (i := 14) rfl))) (by decide) (t := (.array .long)) (t' := (.array .long)) (by decide) (by decide)))
  have Va4_143 := Va4_134.other W137 (Ne.symm ne1a4_102)
  have Va5_144 := Va5_135.other W137 (Ne.symm ne1a5_102)
  have Vc104_145 := Vc104_136.other W137 (Ne.symm ne_a1_c2)
  have Vc126_146 := Vc126.other W137 (Ne.symm ne_a1_c3)
  have zh137 : n0 ≤ h137.size := Nat.le_trans zh126 (Nat.le_of_eq W137.size.symm)
  have K0_137 : Keep h0 h137 [a1] := K0_126.wr W137 (Or.inl (List.mem_of_getElem? (i := 0) rfl))
  have N137 := Fr.snoc X137 N126 lo1_102
  obtain ⟨T147, X147, e147, st147⟩ := getF X137 hx hZ hown (host := "") (Or.inl (hw _ (List.mem_of_getElem? (i := 15) rfl))) Via.refl e137 Fa4_141 (g := (mkF m 26 #[.val (.ref a1), .val (.int (1 : Int32))] [(.ref a1), (.ref a1)])) rfl rfl (hb hby d11_26)
  obtain ⟨_, _, ⟨T148, L148, k148, n148⟩, -, X148, ⟨Lc148, hQ148, l148, y148, z148⟩, st148⟩ := Jvm.LawKit.callS X147 hx (y := (⟨"java/util/Arrays", "copyOf", "([JI)[J"⟩ : MethodName)) hown (mvT hZ (hw _ (List.mem_of_getElem? (i := 67) rfl))) (mvT hZ (hw _ (List.mem_of_getElem? (i := 68) rfl))) (mvT hZ (hw _ (List.mem_of_getElem? (i := 69) rfl))) (mvT hZ (hw _ (List.mem_of_getElem? (i := 70) rfl))) (by decide) (backOf (W := 1) (rmc8 l Z a0 hw [] a4 (1 : Int32) k4 y4 h137 n0 zh137 Va4_143 rfl) hZ (hw _ (List.mem_of_getElem? (i := 70) rfl)) (hw _ (List.mem_of_getElem? (i := 69) rfl)) (by decide) (by decide)) (g := (mkF m 30 #[.val (.ref a1), .val (.int (1 : Int32))] [(.int (1 : Int32)), (.ref a4), (.ref a1)])) rfl (by rw [hml]; rfl) (argsL := [(.ref a4), (.int (1 : Int32))]) (rest := [(.ref a1)]) (lenOf pd_1 rfl) rfl (by show 2 * 0 + _ ≤ _; exact Nat.le_of_eq rfl) (hb hby d11_30) (fun _ _ => ⟨rfl, e147, (by decide : 2 + 1 ≤ _), (by decide : 2 + 1 ≤ _)⟩)
  dsimp only [Pt.U, Pt.locs, Pt.cells, Pt.slots] at X148 l148 y148 z148 st148 hQ148
  subst l148 y148 z148
  obtain ⟨c4, j4, rfl, N148q, K148, gc148, Vc148⟩ := hQ148
  have N148 := Fr.app N137 N148q
  have E1_149 := E1_138.keep K148
  have Fc_150 := Fc_139.keep K148 nin0
  have F_offsets_a1_151 := F_offsets_a1_140.keep K148 nin0
  have F_positions_a1_152 := F_positions_a1_137.keep K148 nin0
  have Fa4_153 := Fa4_141.keep K148 nin0
  have Fa5_154 := Fa5_142.keep K148 nin0
  have Va4_155 := Va4_143.keep K148 nin0
  have Va5_156 := Va5_144.keep K148 nin0
  have Vc104_157 := Vc104_145.keep K148 nin0
  have Vc126_158 := Vc126_146.keep K148 nin0
  have zh148 : n0 ≤ T148.heap.size := Nat.le_trans zh137 K148.1
  have K0_148 : Keep h0 T148.heap [a1] := K0_137.trans K148 all0
  have ne_a1_c4 : a1 ≠ c4 := fun q => by have u := E1_138.lt; rw [q, gc148] at u; exact Nat.lt_irrefl _ u
  have ne_a5_c4 : a5 ≠ c4 := fun q => by have u := Va5_144.lt; rw [q, gc148] at u; exact Nat.lt_irrefl _ u
  have ne_c2_c4 : c2 ≠ c4 := fun q => by have u := Vc104_145.lt; rw [q, gc148] at u; exact Nat.lt_irrefl _ u
  have ne_c3_c4 : c3 ≠ c4 := fun q => by have u := Vc126_146.lt; rw [q, gc148] at u; exact Nat.lt_irrefl _ u
  have sz_c4 : h0.size ≤ c4 := by rw [gc148]; exact K0_137.1
  have lo_c4 : n0 ≤ c4 := by rw [gc148]; exact zh137
  obtain ⟨T159, h159, X159, e159, W159, st159⟩ := putF X148 hx hZ hown (host := "") (Or.inl (hw _ (List.mem_of_getElem? (i := 15) rfl))) Via.refl rfl Fa4_153 E1_149 (Or.inl (hw _ (List.mem_of_getElem? (i := 16) rfl))) (hw _ (List.mem_of_getElem? (i := 2) rfl)) (ty := (.array .long)) (by decide) rfl rfl (g := (mkF m 33 #[.val (.ref a1), .val (.int (1 : Int32))] [(.ref c4), (.ref a1)])) rfl rfl (hb hby d11_33)
  have F_maxTimestamps_a1_159 := Fa4_153.same W159
  have E1_160 := E1_149.wr W159
  have Fc_161 := Fc_150.other W159 (Or.inr (slot_ne (Or.inl (hw _ (List.mem_of_getElem? (i := 25) rfl))) (Or.inl (hw _ (List.mem_of_getElem? (i := 16) rfl))) (by decide) (t := .int) (t' := (.array .long)) (by decide) (by decide)))
  have F_offsets_a1_162 := F_offsets_a1_151.other W159 (Or.inr (slot_ne (Or.inl (hw _ (List.mem_of_getElem? (i := 12) rfl))) (Or.inl (hw _ (List.mem_of_getElem? (i := 16) rfl))) (by decide) (t := (.array .long)) (t' := (.array .long)) (by decide) (by decide)))
  have F_positions_a1_163 := F_positions_a1_152.other W159 (Or.inr (slot_ne (Or.inl (hw _ (List.mem_of_getElem? (i := 14) rfl))) (Or.inl (hw _ (List.mem_of_getElem? (i := 16) rfl))) (by decide) (t := (.array .long)) (t' := (.array .long)) (by decide) (by decide)))
  have Fa5_164 := Fa5_154.other W159 (Or.inr (slot_ne (Or.inl (hw _ (List.mem_of_getElem? (i := 18) rfl))) (Or.inl (hw _ (List.mem_of_getElem? (i := 16) rfl))) (by decide) (t := (.array .long)) (t' := (.array .long)) (by decide) (by decide)))
  have Va5_165 := Va5_156.other W159 (Ne.symm ne1a5_102)
  have Vc104_166 := Vc104_157.other W159 (Ne.symm ne_a1_c2)
  have Vc126_167 := Vc126_158.other W159 (Ne.symm ne_a1_c3)
  have Vc148_168 := Vc148.other W159 (Ne.symm ne_a1_c4)
  have zh159 : n0 ≤ h159.size := Nat.le_trans zh148 (Nat.le_of_eq W159.size.symm)
  have K0_159 : Keep h0 h159 [a1] := K0_148.wr W159 (Or.inl (List.mem_of_getElem? (i := 0) rfl))
  have N159 := Fr.snoc X159 N148 lo1_102
  obtain ⟨T169, X169, e169, st169⟩ := getF X159 hx hZ hown (host := "") (Or.inl (hw _ (List.mem_of_getElem? (i := 17) rfl))) Via.refl e159 Fa5_164 (g := (mkF m 38 #[.val (.ref a1), .val (.int (1 : Int32))] [(.ref a1), (.ref a1)])) rfl rfl (hb hby d11_38)
  obtain ⟨_, _, ⟨T170, L170, k170, n170⟩, -, X170, ⟨Lc170, hQ170, l170, y170, z170⟩, st170⟩ := Jvm.LawKit.callS X169 hx (y := (⟨"java/util/Arrays", "copyOf", "([JI)[J"⟩ : MethodName)) hown (mvT hZ (hw _ (List.mem_of_getElem? (i := 67) rfl))) (mvT hZ (hw _ (List.mem_of_getElem? (i := 68) rfl))) (mvT hZ (hw _ (List.mem_of_getElem? (i := 69) rfl))) (mvT hZ (hw _ (List.mem_of_getElem? (i := 70) rfl))) (by decide) (backOf (W := 1) (rmc8 l Z a0 hw [] a5 (1 : Int32) k5 y5 h159 n0 zh159 Va5_165 rfl) hZ (hw _ (List.mem_of_getElem? (i := 70) rfl)) (hw _ (List.mem_of_getElem? (i := 69) rfl)) (by decide) (by decide)) (g := (mkF m 42 #[.val (.ref a1), .val (.int (1 : Int32))] [(.int (1 : Int32)), (.ref a5), (.ref a1)])) rfl (by rw [hml]; rfl) (argsL := [(.ref a5), (.int (1 : Int32))]) (rest := [(.ref a1)]) (lenOf pd_1 rfl) rfl (by show 2 * 0 + _ ≤ _; exact Nat.le_of_eq rfl) (hb hby d11_42) (fun _ _ => ⟨rfl, e169, (by decide : 3 + 1 ≤ _), (by decide : 3 + 1 ≤ _)⟩)
  dsimp only [Pt.U, Pt.locs, Pt.cells, Pt.slots] at X170 l170 y170 z170 st170 hQ170
  subst l170 y170 z170
  obtain ⟨c5, j5, rfl, N170q, K170, gc170, Vc170⟩ := hQ170
  have N170 := Fr.app N159 N170q
  have E1_171 := E1_160.keep K170
  have Fc_172 := Fc_161.keep K170 nin0
  have F_offsets_a1_173 := F_offsets_a1_162.keep K170 nin0
  have F_positions_a1_174 := F_positions_a1_163.keep K170 nin0
  have F_maxTimestamps_a1_175 := F_maxTimestamps_a1_159.keep K170 nin0
  have Fa5_176 := Fa5_164.keep K170 nin0
  have Va5_177 := Va5_165.keep K170 nin0
  have Vc104_178 := Vc104_166.keep K170 nin0
  have Vc126_179 := Vc126_167.keep K170 nin0
  have Vc148_180 := Vc148_168.keep K170 nin0
  have zh170 : n0 ≤ T170.heap.size := Nat.le_trans zh159 K170.1
  have K0_170 : Keep h0 T170.heap [a1] := K0_159.trans K170 all0
  have ne_a1_c5 : a1 ≠ c5 := fun q => by have u := E1_160.lt; rw [q, gc170] at u; exact Nat.lt_irrefl _ u
  have ne_c2_c5 : c2 ≠ c5 := fun q => by have u := Vc104_166.lt; rw [q, gc170] at u; exact Nat.lt_irrefl _ u
  have ne_c3_c5 : c3 ≠ c5 := fun q => by have u := Vc126_167.lt; rw [q, gc170] at u; exact Nat.lt_irrefl _ u
  have ne_c4_c5 : c4 ≠ c5 := fun q => by have u := Vc148_168.lt; rw [q, gc170] at u; exact Nat.lt_irrefl _ u
  have sz_c5 : h0.size ≤ c5 := by rw [gc170]; exact K0_159.1
  have lo_c5 : n0 ≤ c5 := by rw [gc170]; exact zh159
  obtain ⟨T181, h181, X181, e181, W181, st181⟩ := putF X170 hx hZ hown (host := "") (Or.inl (hw _ (List.mem_of_getElem? (i := 17) rfl))) Via.refl rfl Fa5_176 E1_171 (Or.inl (hw _ (List.mem_of_getElem? (i := 18) rfl))) (hw _ (List.mem_of_getElem? (i := 2) rfl)) (ty := (.array .long)) (by decide) rfl rfl (g := (mkF m 45 #[.val (.ref a1), .val (.int (1 : Int32))] [(.ref c5), (.ref a1)])) rfl rfl (hb hby d11_45)
  have F_writtenAts_a1_181 := Fa5_176.same W181
  have E1_182 := E1_171.wr W181
  have Fc_183 := Fc_172.other W181 (Or.inr (slot_ne (Or.inl (hw _ (List.mem_of_getElem? (i := 25) rfl))) (Or.inl (hw _ (List.mem_of_getElem? (i := 18) rfl))) (by decide) (t := .int) (t' := (.array .long)) (by decide) (by decide)))
  have F_offsets_a1_184 := F_offsets_a1_173.other W181 (Or.inr (slot_ne (Or.inl (hw _ (List.mem_of_getElem? (i := 12) rfl))) (Or.inl (hw _ (List.mem_of_getElem? (i := 18) rfl))) (by decide) (t := (.array .long)) (t' := (.array .long)) (by decide) (by decide)))
  have F_positions_a1_185 := F_positions_a1_174.other W181 (Or.inr (slot_ne (Or.inl (hw _ (List.mem_of_getElem? (i := 14) rfl))) (Or.inl (hw _ (List.mem_of_getElem? (i := 18) rfl))) (by decide) (t := (.array .long)) (t' := (.array .long)) (by decide) (by decide)))
  have F_maxTimestamps_a1_186 := F_maxTimestamps_a1_175.other W181 (Or.inr (slot_ne (Or.inl (hw _ (List.mem_of_getElem? (i := 16) rfl))) (Or.inl (hw _ (List.mem_of_getElem? (i := 18) rfl))) (by decide) (t := (.array .long)) (t' := (.array .long)) (by decide) (by decide)))
  have Vc104_187 := Vc104_178.other W181 (Ne.symm ne_a1_c2)
  have Vc126_188 := Vc126_179.other W181 (Ne.symm ne_a1_c3)
  have Vc148_189 := Vc148_180.other W181 (Ne.symm ne_a1_c4)
  have Vc170_190 := Vc170.other W181 (Ne.symm ne_a1_c5)
  have zh181 : n0 ≤ h181.size := Nat.le_trans zh170 (Nat.le_of_eq W181.size.symm)
  have K0_181 : Keep h0 h181 [a1] := K0_170.wr W181 (Or.inl (List.mem_of_getElem? (i := 0) rfl))
  have N181 := Fr.snoc X181 N170 lo1_102
  refine own_Go.mono (T' := T181) (f' := (mkF m 48 #[.val (.ref a1), .val (.int (1 : Int32))] [])) (fun t k => ?_) ?_
  · show Steps p.tables e below (s₁.setTop (mkF m 0 #[.val (.ref a1), .val (.int (1 : Int32))] [])) _
    refine XS.aloadN X0.here hx rfl (hb hby d11_0) rfl rfl ?_
    show Steps p.tables e below (s₁.setTop (mkF m 1 #[.val (.ref a1), .val (.int (1 : Int32))] [(.ref a1)])) _
    refine XS.aloadN X0.here hx rfl (hb hby d11_1) rfl rfl ?_
    show Steps p.tables e below (s₁.setTop (mkF m 2 #[.val (.ref a1), .val (.int (1 : Int32))] [(.ref a1), (.ref a1)])) _
    refine st103 _ ?_
    show Steps p.tables e below (T103.setTop (mkF m 5 #[.val (.ref a1), .val (.int (1 : Int32))] [(.ref a2), (.ref a1)])) _
    refine XS.iloadN X103.here hx rfl (hb hby d11_5) rfl ?_
    show Steps p.tables e below (T103.setTop (mkF m 6 #[.val (.ref a1), .val (.int (1 : Int32))] [(.int (1 : Int32)), (.ref a2), (.ref a1)])) _
    refine st104 _ ?_
    show Steps p.tables e below (T104.setTop (mkF m 9 #[.val (.ref a1), .val (.int (1 : Int32))] [(.ref c2), (.ref a1)])) _
    refine st115 _ ?_
    show Steps p.tables e below (T115.setTop (mkF m 12 #[.val (.ref a1), .val (.int (1 : Int32))] [])) _
    refine XS.aloadN X115.here hx rfl (hb hby d11_12) rfl rfl ?_
    show Steps p.tables e below (T115.setTop (mkF m 13 #[.val (.ref a1), .val (.int (1 : Int32))] [(.ref a1)])) _
    refine XS.aloadN X115.here hx rfl (hb hby d11_13) rfl rfl ?_
    show Steps p.tables e below (T115.setTop (mkF m 14 #[.val (.ref a1), .val (.int (1 : Int32))] [(.ref a1), (.ref a1)])) _
    refine st125 _ ?_
    show Steps p.tables e below (T125.setTop (mkF m 17 #[.val (.ref a1), .val (.int (1 : Int32))] [(.ref a3), (.ref a1)])) _
    refine XS.iloadN X125.here hx rfl (hb hby d11_17) rfl ?_
    show Steps p.tables e below (T125.setTop (mkF m 18 #[.val (.ref a1), .val (.int (1 : Int32))] [(.int (1 : Int32)), (.ref a3), (.ref a1)])) _
    refine st126 _ ?_
    show Steps p.tables e below (T126.setTop (mkF m 21 #[.val (.ref a1), .val (.int (1 : Int32))] [(.ref c3), (.ref a1)])) _
    refine st137 _ ?_
    show Steps p.tables e below (T137.setTop (mkF m 24 #[.val (.ref a1), .val (.int (1 : Int32))] [])) _
    refine XS.aloadN X137.here hx rfl (hb hby d11_24) rfl rfl ?_
    show Steps p.tables e below (T137.setTop (mkF m 25 #[.val (.ref a1), .val (.int (1 : Int32))] [(.ref a1)])) _
    refine XS.aloadN X137.here hx rfl (hb hby d11_25) rfl rfl ?_
    show Steps p.tables e below (T137.setTop (mkF m 26 #[.val (.ref a1), .val (.int (1 : Int32))] [(.ref a1), (.ref a1)])) _
    refine st147 _ ?_
    show Steps p.tables e below (T147.setTop (mkF m 29 #[.val (.ref a1), .val (.int (1 : Int32))] [(.ref a4), (.ref a1)])) _
    refine XS.iloadN X147.here hx rfl (hb hby d11_29) rfl ?_
    show Steps p.tables e below (T147.setTop (mkF m 30 #[.val (.ref a1), .val (.int (1 : Int32))] [(.int (1 : Int32)), (.ref a4), (.ref a1)])) _
    refine st148 _ ?_
    show Steps p.tables e below (T148.setTop (mkF m 33 #[.val (.ref a1), .val (.int (1 : Int32))] [(.ref c4), (.ref a1)])) _
    refine st159 _ ?_
    show Steps p.tables e below (T159.setTop (mkF m 36 #[.val (.ref a1), .val (.int (1 : Int32))] [])) _
    refine XS.aloadN X159.here hx rfl (hb hby d11_36) rfl rfl ?_
    show Steps p.tables e below (T159.setTop (mkF m 37 #[.val (.ref a1), .val (.int (1 : Int32))] [(.ref a1)])) _
    refine XS.aloadN X159.here hx rfl (hb hby d11_37) rfl rfl ?_
    show Steps p.tables e below (T159.setTop (mkF m 38 #[.val (.ref a1), .val (.int (1 : Int32))] [(.ref a1), (.ref a1)])) _
    refine st169 _ ?_
    show Steps p.tables e below (T169.setTop (mkF m 41 #[.val (.ref a1), .val (.int (1 : Int32))] [(.ref a5), (.ref a1)])) _
    refine XS.iloadN X169.here hx rfl (hb hby d11_41) rfl ?_
    show Steps p.tables e below (T169.setTop (mkF m 42 #[.val (.ref a1), .val (.int (1 : Int32))] [(.int (1 : Int32)), (.ref a5), (.ref a1)])) _
    refine st170 _ ?_
    show Steps p.tables e below (T170.setTop (mkF m 45 #[.val (.ref a1), .val (.int (1 : Int32))] [(.ref c5), (.ref a1)])) _
    refine st181 _ ?_
    show Steps p.tables e below (T181.setTop (mkF m 48 #[.val (.ref a1), .val (.int (1 : Int32))] [])) _
    exact k
  exact own_retV X181 hx hret hlk (hb hby d11_48) ((by rw [e181]; exact ⟨c2, c3, c4, c5, j2, j3, j4, j5, rfl, N181, K0_181, ⟨sz_c2, sz_c3, sz_c4, sz_c5⟩, ⟨E1_182, Fc_183, F_offsets_a1_184, F_positions_a1_185, F_maxTimestamps_a1_186, F_writtenAts_a1_181, Vc104_187, Vc126_188, Vc148_189, Vc170_190, ne_c2_c3, ne_c2_c4, ne_c2_c5, ne_c3_c4, ne_c3_c5, ne_c4_c5, lo1_102, lo_c2, lo_c3, lo_c4, lo_c5⟩⟩)) (by decide) (by decide)
theorem ef_rmr1 (m : MethodId) (x0 : Addr) (x1 : Int32) : entryFrame m #[(.ref x0), (.int x1)] 2 = mkF m 0 #[.val (.ref x0), .val (.int x1)] [] := by first | (simp [entryFrame, mkF, argsToLocals, Value.category]; done) | rfl
def Qr1 (Z : State) (a1 : Addr) (p1 : Int32) (a2 : Addr) (a3 : Addr) (a4 : Addr) (a5 : Addr) (k2 : ClassId) (k3 : ClassId) (k4 : ClassId) (k5 : ClassId) (y2 : Int64) (y3 : Int64) (y4 : Int64) (y5 : Int64) (h0 : Heap) (n0 : Nat) (v : Option Value) (h : Heap) (L : List Loc) : Prop := ∃ (c2 c3 c4 c5 : Addr) (j2 j3 j4 j5 : ClassId), v = none ∧ Fr n0 L ∧ Keep h0 h [a1] ∧ (h0.size ≤ c2 ∧ h0.size ≤ c3 ∧ h0.size ≤ c4 ∧ h0.size ≤ c5) ∧ own_Seg Z n0 h a1 (1 : Int32) (9 : Int32) c2 c3 c4 c5 j2 j3 j4 j5 [(.long y2), (.long (0 : Int64)), (.long (0 : Int64)), (.long (0 : Int64)), (.long (0 : Int64)), (.long (0 : Int64)), (.long (0 : Int64)), (.long (0 : Int64)), (.long (0 : Int64))] [(.long y3), (.long (0 : Int64)), (.long (0 : Int64)), (.long (0 : Int64)), (.long (0 : Int64)), (.long (0 : Int64)), (.long (0 : Int64)), (.long (0 : Int64)), (.long (0 : Int64))] [(.long y4), (.long (0 : Int64)), (.long (0 : Int64)), (.long (0 : Int64)), (.long (0 : Int64)), (.long (0 : Int64)), (.long (0 : Int64)), (.long (0 : Int64)), (.long (0 : Int64))] [(.long y5), (.long (0 : Int64)), (.long (0 : Int64)), (.long (0 : Int64)), (.long (0 : Int64)), (.long (0 : Int64)), (.long (0 : Int64)), (.long (0 : Int64)), (.long (0 : Int64))]
set_option maxRecDepth 65536 in
set_option maxHeartbeats 40000000 in
theorem rmr1 (l : Launch) (Z : State) (a0 : Array Value) (hw : ∀ d ∈ tables_1, d.before a0 Z = true) (ws : List Jvm.Cond) (a1 : Addr) (p1 : Int32) (a2 : Addr) (a3 : Addr) (a4 : Addr) (a5 : Addr) (k2 : ClassId) (k3 : ClassId) (k4 : ClassId) (k5 : ClassId) (y2 : Int64) (y3 : Int64) (y4 : Int64) (y5 : Int64) (h0 : Heap) (n0 : Nat) (Z0 : n0 ≤ h0.size) (G : own_Seg Z n0 h0 a1 (1 : Int32) (1 : Int32) a2 a3 a4 a5 k2 k3 k4 k5 [(.long y2)] [(.long y3)] [(.long y4)] [(.long y5)]) (hp : p1 = (9 : Int32)) :
    MetFree l (⟨"com/example/uplog/uplog/SegmentIndex", "resize", "(I)V"⟩ : MethodName) (head1 (Jvm.Cond.code (⟨"com/example/uplog/uplog/SegmentIndex", "resize", "(I)V"⟩ : MethodName) prog_12_method_12_code 2 none :: ws) ({ frames := 2, cells := 4, slots := 36, locals := 37 } : Room)) (fun a U => a = #[(.ref a1), (.int p1)] ∧ Z.Warmed39 U.vm ∧ U.heap = h0) (fun _ _ _ _ _ => True) (fun _ U o U' => ∃ v L, o = .returned v ∧ Qr1 Z a1 p1 a2 a3 a4 a5 k2 k3 k4 k5 y2 y3 y4 y5 h0 n0 v U'.heap L ∧ FrameEnd U o U' L 4 36) := by
  refine own_body (Qv := Qr1 Z a1 p1 a2 a3 a4 a5 k2 k3 k4 k5 y2 y3 y4 y5 h0 n0) (plainFor_of_name (by first | (simp [plainName, overriddenIn]; done) | decide +kernel)) ?_
  intro p e s m below meth c s₁ hx hby hml hret hlk hown hnm hZ X0 e0
  replace hown : s.vm.findClass "com/example/uplog/uplog/SegmentIndex" = some m.cls := hown
  replace hnm : meth.name = "resize" := hnm
  have N0 := Fr.nil n0
  refine own_Go.mono (T' := s₁) (f' := (mkF m 0 #[.val (.ref a1), .val (.int p1)] [])) (fun t k => castTop (ef_rmr1 m a1 p1) k) ?_
  subst hp
  have K0_0 : Keep h0 h0 [a1] := Keep.refl _ _
  obtain ⟨E1_191, Fc_191, Fa2_191, Fa3_191, Fa4_191, Fa5_191, Va2_191, Va3_191, Va4_191, Va5_191, da2a3_191, da2a4_191, da2a5_191, da3a4_191, da3a5_191, da4a5_191, lo1_191, loa2_191, loa3_191, loa4_191, loa5_191⟩ := G
  have ne1a2_191 : a1 ≠ a2 := Exa.neArv E1_191 Va2_191 (hw _ (List.mem_of_getElem? (i := 2) rfl))
  have ne1a3_191 : a1 ≠ a3 := Exa.neArv E1_191 Va3_191 (hw _ (List.mem_of_getElem? (i := 2) rfl))
  have ne1a4_191 : a1 ≠ a4 := Exa.neArv E1_191 Va4_191 (hw _ (List.mem_of_getElem? (i := 2) rfl))
  have ne1a5_191 : a1 ≠ a5 := Exa.neArv E1_191 Va5_191 (hw _ (List.mem_of_getElem? (i := 2) rfl))
  obtain ⟨T192, X192, e192, st192⟩ := getF X0 hx hZ hown (host := "") (Or.inl (hw _ (List.mem_of_getElem? (i := 11) rfl))) Via.refl e0 Fa2_191 (g := (mkF m 2 #[.val (.ref a1), .val (.int (9 : Int32))] [(.ref a1), (.ref a1)])) rfl rfl (hb hby d11_2)
  obtain ⟨_, _, ⟨T193, L193, k193, n193⟩, -, X193, ⟨Lc193, hQ193, l193, y193, z193⟩, st193⟩ := Jvm.LawKit.callS X192 hx (y := (⟨"java/util/Arrays", "copyOf", "([JI)[J"⟩ : MethodName)) hown (mvT hZ (hw _ (List.mem_of_getElem? (i := 67) rfl))) (mvT hZ (hw _ (List.mem_of_getElem? (i := 68) rfl))) (mvT hZ (hw _ (List.mem_of_getElem? (i := 69) rfl))) (mvT hZ (hw _ (List.mem_of_getElem? (i := 70) rfl))) (by decide) (backOf (W := 1) (rmc1 l Z a0 hw [] a2 (9 : Int32) k2 y2 h0 n0 Z0 Va2_191 rfl) hZ (hw _ (List.mem_of_getElem? (i := 70) rfl)) (hw _ (List.mem_of_getElem? (i := 69) rfl)) (by decide) (by decide)) (g := (mkF m 6 #[.val (.ref a1), .val (.int (9 : Int32))] [(.int (9 : Int32)), (.ref a2), (.ref a1)])) rfl (by rw [hml]; rfl) (argsL := [(.ref a2), (.int (9 : Int32))]) (rest := [(.ref a1)]) (lenOf pd_1 rfl) rfl (by show 2 * 0 + _ ≤ _; exact Nat.le_of_eq rfl) (hb hby d11_6) (fun _ _ => ⟨rfl, e192, (by decide : 0 + 1 ≤ _), (by decide : 0 + 9 ≤ _)⟩)
  dsimp only [Pt.U, Pt.locs, Pt.cells, Pt.slots] at X193 l193 y193 z193 st193 hQ193
  subst l193 y193 z193
  obtain ⟨c2, j2, rfl, N193q, K193, gc193, Vc193⟩ := hQ193
  have N193 := Fr.app N0 N193q
  have E1_194 := E1_191.keep K193
  have Fc_195 := Fc_191.keep K193 nin0
  have Fa2_196 := Fa2_191.keep K193 nin0
  have Fa3_197 := Fa3_191.keep K193 nin0
  have Fa4_198 := Fa4_191.keep K193 nin0
  have Fa5_199 := Fa5_191.keep K193 nin0
  have Va2_200 := Va2_191.keep K193 nin0
  have Va3_201 := Va3_191.keep K193 nin0
  have Va4_202 := Va4_191.keep K193 nin0
  have Va5_203 := Va5_191.keep K193 nin0
  have zh193 : n0 ≤ T193.heap.size := Nat.le_trans Z0 K193.1
  have K0_193 : Keep h0 T193.heap [a1] := K0_0.trans K193 all0
  have ne_a1_c2 : a1 ≠ c2 := fun q => by have u := E1_191.lt; rw [q, gc193] at u; exact Nat.lt_irrefl _ u
  have ne_a3_c2 : a3 ≠ c2 := fun q => by have u := Va3_191.lt; rw [q, gc193] at u; exact Nat.lt_irrefl _ u
  have ne_a4_c2 : a4 ≠ c2 := fun q => by have u := Va4_191.lt; rw [q, gc193] at u; exact Nat.lt_irrefl _ u
  have ne_a5_c2 : a5 ≠ c2 := fun q => by have u := Va5_191.lt; rw [q, gc193] at u; exact Nat.lt_irrefl _ u
  have sz_c2 : h0.size ≤ c2 := by rw [gc193]; exact K0_0.1
  have lo_c2 : n0 ≤ c2 := by rw [gc193]; exact Z0
  obtain ⟨T204, h204, X204, e204, W204, st204⟩ := putF X193 hx hZ hown (host := "") (Or.inl (hw _ (List.mem_of_getElem? (i := 11) rfl))) Via.refl rfl Fa2_196 E1_194 (Or.inl (hw _ (List.mem_of_getElem? (i := 12) rfl))) (hw _ (List.mem_of_getElem? (i := 2) rfl)) (ty := (.array .long)) (by decide) rfl rfl (g := (mkF m 9 #[.val (.ref a1), .val (.int (9 : Int32))] [(.ref c2), (.ref a1)])) rfl rfl (hb hby d11_9)
  have F_offsets_a1_204 := Fa2_196.same W204
  have E1_205 := E1_194.wr W204
  have Fc_206 := Fc_195.other W204 (Or.inr (slot_ne (Or.inl (hw _ (List.mem_of_getElem? (i := 25) rfl))) (Or.inl (hw _ (List.mem_of_getElem? (i := 12) rfl))) (by decide) (t := .int) (t' := (.array .long)) (by decide) (by decide)))
  have Fa3_207 := Fa3_197.other W204 (Or.inr (slot_ne (Or.inl (hw _ (List.mem_of_getElem? (i := 14) rfl))) (Or.inl (hw _ (List.mem_of_getElem? (i := 12) rfl))) (by decide) (t := (.array .long)) (t' := (.array .long)) (by decide) (by decide)))
  have Fa4_208 := Fa4_198.other W204 (Or.inr (slot_ne (Or.inl (hw _ (List.mem_of_getElem? (i := 16) rfl))) (Or.inl (hw _ (List.mem_of_getElem? (i := 12) rfl))) (by decide) (t := (.array .long)) (t' := (.array .long)) (by decide) (by decide)))
  have Fa5_209 := Fa5_199.other W204 (Or.inr (slot_ne (Or.inl (hw _ (List.mem_of_getElem? (i := 18) rfl))) (Or.inl (hw _ (List.mem_of_getElem? (i := 12) rfl))) (by decide) (t := (.array .long)) (t' := (.array .long)) (by decide) (by decide)))
  have Va3_210 := Va3_201.other W204 (Ne.symm ne1a3_191)
  have Va4_211 := Va4_202.other W204 (Ne.symm ne1a4_191)
  have Va5_212 := Va5_203.other W204 (Ne.symm ne1a5_191)
  have Vc193_213 := Vc193.other W204 (Ne.symm ne_a1_c2)
  have zh204 : n0 ≤ h204.size := Nat.le_trans zh193 (Nat.le_of_eq W204.size.symm)
  have K0_204 : Keep h0 h204 [a1] := K0_193.wr W204 (Or.inl (List.mem_of_getElem? (i := 0) rfl))
  have N204 := Fr.snoc X204 N193 lo1_191
  obtain ⟨T214, X214, e214, st214⟩ := getF X204 hx hZ hown (host := "") (Or.inl (hw _ (List.mem_of_getElem? (i := 13) rfl))) Via.refl e204 Fa3_207 (g := (mkF m 14 #[.val (.ref a1), .val (.int (9 : Int32))] [(.ref a1), (.ref a1)])) rfl rfl (hb hby d11_14)
  obtain ⟨_, _, ⟨T215, L215, k215, n215⟩, -, X215, ⟨Lc215, hQ215, l215, y215, z215⟩, st215⟩ := Jvm.LawKit.callS X214 hx (y := (⟨"java/util/Arrays", "copyOf", "([JI)[J"⟩ : MethodName)) hown (mvT hZ (hw _ (List.mem_of_getElem? (i := 67) rfl))) (mvT hZ (hw _ (List.mem_of_getElem? (i := 68) rfl))) (mvT hZ (hw _ (List.mem_of_getElem? (i := 69) rfl))) (mvT hZ (hw _ (List.mem_of_getElem? (i := 70) rfl))) (by decide) (backOf (W := 1) (rmc1 l Z a0 hw [] a3 (9 : Int32) k3 y3 h204 n0 zh204 Va3_210 rfl) hZ (hw _ (List.mem_of_getElem? (i := 70) rfl)) (hw _ (List.mem_of_getElem? (i := 69) rfl)) (by decide) (by decide)) (g := (mkF m 18 #[.val (.ref a1), .val (.int (9 : Int32))] [(.int (9 : Int32)), (.ref a3), (.ref a1)])) rfl (by rw [hml]; rfl) (argsL := [(.ref a3), (.int (9 : Int32))]) (rest := [(.ref a1)]) (lenOf pd_1 rfl) rfl (by show 2 * 0 + _ ≤ _; exact Nat.le_of_eq rfl) (hb hby d11_18) (fun _ _ => ⟨rfl, e214, (by decide : 1 + 1 ≤ _), (by decide : 9 + 9 ≤ _)⟩)
  dsimp only [Pt.U, Pt.locs, Pt.cells, Pt.slots] at X215 l215 y215 z215 st215 hQ215
  subst l215 y215 z215
  obtain ⟨c3, j3, rfl, N215q, K215, gc215, Vc215⟩ := hQ215
  have N215 := Fr.app N204 N215q
  have E1_216 := E1_205.keep K215
  have Fc_217 := Fc_206.keep K215 nin0
  have F_offsets_a1_218 := F_offsets_a1_204.keep K215 nin0
  have Fa3_219 := Fa3_207.keep K215 nin0
  have Fa4_220 := Fa4_208.keep K215 nin0
  have Fa5_221 := Fa5_209.keep K215 nin0
  have Va3_222 := Va3_210.keep K215 nin0
  have Va4_223 := Va4_211.keep K215 nin0
  have Va5_224 := Va5_212.keep K215 nin0
  have Vc193_225 := Vc193_213.keep K215 nin0
  have zh215 : n0 ≤ T215.heap.size := Nat.le_trans zh204 K215.1
  have K0_215 : Keep h0 T215.heap [a1] := K0_204.trans K215 all0
  have ne_a1_c3 : a1 ≠ c3 := fun q => by have u := E1_205.lt; rw [q, gc215] at u; exact Nat.lt_irrefl _ u
  have ne_a4_c3 : a4 ≠ c3 := fun q => by have u := Va4_211.lt; rw [q, gc215] at u; exact Nat.lt_irrefl _ u
  have ne_a5_c3 : a5 ≠ c3 := fun q => by have u := Va5_212.lt; rw [q, gc215] at u; exact Nat.lt_irrefl _ u
  have ne_c2_c3 : c2 ≠ c3 := fun q => by have u := Vc193_213.lt; rw [q, gc215] at u; exact Nat.lt_irrefl _ u
  have sz_c3 : h0.size ≤ c3 := by rw [gc215]; exact K0_204.1
  have lo_c3 : n0 ≤ c3 := by rw [gc215]; exact zh204
  obtain ⟨T226, h226, X226, e226, W226, st226⟩ := putF X215 hx hZ hown (host := "") (Or.inl (hw _ (List.mem_of_getElem? (i := 13) rfl))) Via.refl rfl Fa3_219 E1_216 (Or.inl (hw _ (List.mem_of_getElem? (i := 14) rfl))) (hw _ (List.mem_of_getElem? (i := 2) rfl)) (ty := (.array .long)) (by decide) rfl rfl (g := (mkF m 21 #[.val (.ref a1), .val (.int (9 : Int32))] [(.ref c3), (.ref a1)])) rfl rfl (hb hby d11_21)
  have F_positions_a1_226 := Fa3_219.same W226
  have E1_227 := E1_216.wr W226
  have Fc_228 := Fc_217.other W226 (Or.inr (slot_ne (Or.inl (hw _ (List.mem_of_getElem? (i := 25) rfl))) (Or.inl (hw _ (List.mem_of_getElem? (i := 14) rfl))) (by decide) (t := .int) (t' := (.array .long)) (by decide) (by decide)))
  have F_offsets_a1_229 := F_offsets_a1_218.other W226 (Or.inr (slot_ne (Or.inl (hw _ (List.mem_of_getElem? (i := 12) rfl))) (Or.inl (hw _ (List.mem_of_getElem? (i := 14) rfl))) (by decide) (t := (.array .long)) (t' := (.array .long)) (by decide) (by decide)))
  have Fa4_230 := Fa4_220.other W226 (Or.inr (slot_ne (Or.inl (hw _ (List.mem_of_getElem? (i := 16) rfl))) (Or.inl (hw _ (List.mem_of_getElem? (i := 14) rfl))) (by decide) (t := (.array .long)) (t' := (.array .long)) (by decide) (by decide)))
  have Fa5_231 := Fa5_221.other W226 (Or.inr (slot_ne (Or.inl (hw _ (List.mem_of_getElem? (i := 18) rfl))) (Or.inl (hw _ (List.mem_of_getElem? (i := 14) rfl))) (by decide) (t := (.array .long)) (t' := (.array .long)) (by decide) (by decide)))
  have Va4_232 := Va4_223.other W226 (Ne.symm ne1a4_191)
  have Va5_233 := Va5_224.other W226 (Ne.symm ne1a5_191)
  have Vc193_234 := Vc193_225.other W226 (Ne.symm ne_a1_c2)
  have Vc215_235 := Vc215.other W226 (Ne.symm ne_a1_c3)
  have zh226 : n0 ≤ h226.size := Nat.le_trans zh215 (Nat.le_of_eq W226.size.symm)
  have K0_226 : Keep h0 h226 [a1] := K0_215.wr W226 (Or.inl (List.mem_of_getElem? (i := 0) rfl))
  have N226 := Fr.snoc X226 N215 lo1_191
  obtain ⟨T236, X236, e236, st236⟩ := getF X226 hx hZ hown (host := "") (Or.inl (hw _ (List.mem_of_getElem? (i := 15) rfl))) Via.refl e226 Fa4_230 (g := (mkF m 26 #[.val (.ref a1), .val (.int (9 : Int32))] [(.ref a1), (.ref a1)])) rfl rfl (hb hby d11_26)
  obtain ⟨_, _, ⟨T237, L237, k237, n237⟩, -, X237, ⟨Lc237, hQ237, l237, y237, z237⟩, st237⟩ := Jvm.LawKit.callS X236 hx (y := (⟨"java/util/Arrays", "copyOf", "([JI)[J"⟩ : MethodName)) hown (mvT hZ (hw _ (List.mem_of_getElem? (i := 67) rfl))) (mvT hZ (hw _ (List.mem_of_getElem? (i := 68) rfl))) (mvT hZ (hw _ (List.mem_of_getElem? (i := 69) rfl))) (mvT hZ (hw _ (List.mem_of_getElem? (i := 70) rfl))) (by decide) (backOf (W := 1) (rmc1 l Z a0 hw [] a4 (9 : Int32) k4 y4 h226 n0 zh226 Va4_232 rfl) hZ (hw _ (List.mem_of_getElem? (i := 70) rfl)) (hw _ (List.mem_of_getElem? (i := 69) rfl)) (by decide) (by decide)) (g := (mkF m 30 #[.val (.ref a1), .val (.int (9 : Int32))] [(.int (9 : Int32)), (.ref a4), (.ref a1)])) rfl (by rw [hml]; rfl) (argsL := [(.ref a4), (.int (9 : Int32))]) (rest := [(.ref a1)]) (lenOf pd_1 rfl) rfl (by show 2 * 0 + _ ≤ _; exact Nat.le_of_eq rfl) (hb hby d11_30) (fun _ _ => ⟨rfl, e236, (by decide : 2 + 1 ≤ _), (by decide : 18 + 9 ≤ _)⟩)
  dsimp only [Pt.U, Pt.locs, Pt.cells, Pt.slots] at X237 l237 y237 z237 st237 hQ237
  subst l237 y237 z237
  obtain ⟨c4, j4, rfl, N237q, K237, gc237, Vc237⟩ := hQ237
  have N237 := Fr.app N226 N237q
  have E1_238 := E1_227.keep K237
  have Fc_239 := Fc_228.keep K237 nin0
  have F_offsets_a1_240 := F_offsets_a1_229.keep K237 nin0
  have F_positions_a1_241 := F_positions_a1_226.keep K237 nin0
  have Fa4_242 := Fa4_230.keep K237 nin0
  have Fa5_243 := Fa5_231.keep K237 nin0
  have Va4_244 := Va4_232.keep K237 nin0
  have Va5_245 := Va5_233.keep K237 nin0
  have Vc193_246 := Vc193_234.keep K237 nin0
  have Vc215_247 := Vc215_235.keep K237 nin0
  have zh237 : n0 ≤ T237.heap.size := Nat.le_trans zh226 K237.1
  have K0_237 : Keep h0 T237.heap [a1] := K0_226.trans K237 all0
  have ne_a1_c4 : a1 ≠ c4 := fun q => by have u := E1_227.lt; rw [q, gc237] at u; exact Nat.lt_irrefl _ u
  have ne_a5_c4 : a5 ≠ c4 := fun q => by have u := Va5_233.lt; rw [q, gc237] at u; exact Nat.lt_irrefl _ u
  have ne_c2_c4 : c2 ≠ c4 := fun q => by have u := Vc193_234.lt; rw [q, gc237] at u; exact Nat.lt_irrefl _ u
  have ne_c3_c4 : c3 ≠ c4 := fun q => by have u := Vc215_235.lt; rw [q, gc237] at u; exact Nat.lt_irrefl _ u
  have sz_c4 : h0.size ≤ c4 := by rw [gc237]; exact K0_226.1
  have lo_c4 : n0 ≤ c4 := by rw [gc237]; exact zh226
  obtain ⟨T248, h248, X248, e248, W248, st248⟩ := putF X237 hx hZ hown (host := "") (Or.inl (hw _ (List.mem_of_getElem? (i := 15) rfl))) Via.refl rfl Fa4_242 E1_238 (Or.inl (hw _ (List.mem_of_getElem? (i := 16) rfl))) (hw _ (List.mem_of_getElem? (i := 2) rfl)) (ty := (.array .long)) (by decide) rfl rfl (g := (mkF m 33 #[.val (.ref a1), .val (.int (9 : Int32))] [(.ref c4), (.ref a1)])) rfl rfl (hb hby d11_33)
  have F_maxTimestamps_a1_248 := Fa4_242.same W248
  have E1_249 := E1_238.wr W248
  have Fc_250 := Fc_239.other W248 (Or.inr (slot_ne (Or.inl (hw _ (List.mem_of_getElem? (i := 25) rfl))) (Or.inl (hw _ (List.mem_of_getElem? (i := 16) rfl))) (by decide) (t := .int) (t' := (.array .long)) (by decide) (by decide)))
  have F_offsets_a1_251 := F_offsets_a1_240.other W248 (Or.inr (slot_ne (Or.inl (hw _ (List.mem_of_getElem? (i := 12) rfl))) (Or.inl (hw _ (List.mem_of_getElem? (i := 16) rfl))) (by decide) (t := (.array .long)) (t' := (.array .long)) (by decide) (by decide)))
  have F_positions_a1_252 := F_positions_a1_241.other W248 (Or.inr (slot_ne (Or.inl (hw _ (List.mem_of_getElem? (i := 14) rfl))) (Or.inl (hw _ (List.mem_of_getElem? (i := 16) rfl))) (by decide) (t := (.array .long)) (t' := (.array .long)) (by decide) (by decide)))
  have Fa5_253 := Fa5_243.other W248 (Or.inr (slot_ne (Or.inl (hw _ (List.mem_of_getElem? (i := 18) rfl))) (Or.inl (hw _ (List.mem_of_getElem? (i := 16) rfl))) (by decide) (t := (.array .long)) (t' := (.array .long)) (by decide) (by decide)))
  have Va5_254 := Va5_245.other W248 (Ne.symm ne1a5_191)
  have Vc193_255 := Vc193_246.other W248 (Ne.symm ne_a1_c2)
  have Vc215_256 := Vc215_247.other W248 (Ne.symm ne_a1_c3)
  have Vc237_257 := Vc237.other W248 (Ne.symm ne_a1_c4)
  have zh248 : n0 ≤ h248.size := Nat.le_trans zh237 (Nat.le_of_eq W248.size.symm)
  have K0_248 : Keep h0 h248 [a1] := K0_237.wr W248 (Or.inl (List.mem_of_getElem? (i := 0) rfl))
  have N248 := Fr.snoc X248 N237 lo1_191
  obtain ⟨T258, X258, e258, st258⟩ := getF X248 hx hZ hown (host := "") (Or.inl (hw _ (List.mem_of_getElem? (i := 17) rfl))) Via.refl e248 Fa5_253 (g := (mkF m 38 #[.val (.ref a1), .val (.int (9 : Int32))] [(.ref a1), (.ref a1)])) rfl rfl (hb hby d11_38)
  obtain ⟨_, _, ⟨T259, L259, k259, n259⟩, -, X259, ⟨Lc259, hQ259, l259, y259, z259⟩, st259⟩ := Jvm.LawKit.callS X258 hx (y := (⟨"java/util/Arrays", "copyOf", "([JI)[J"⟩ : MethodName)) hown (mvT hZ (hw _ (List.mem_of_getElem? (i := 67) rfl))) (mvT hZ (hw _ (List.mem_of_getElem? (i := 68) rfl))) (mvT hZ (hw _ (List.mem_of_getElem? (i := 69) rfl))) (mvT hZ (hw _ (List.mem_of_getElem? (i := 70) rfl))) (by decide) (backOf (W := 1) (rmc1 l Z a0 hw [] a5 (9 : Int32) k5 y5 h248 n0 zh248 Va5_254 rfl) hZ (hw _ (List.mem_of_getElem? (i := 70) rfl)) (hw _ (List.mem_of_getElem? (i := 69) rfl)) (by decide) (by decide)) (g := (mkF m 42 #[.val (.ref a1), .val (.int (9 : Int32))] [(.int (9 : Int32)), (.ref a5), (.ref a1)])) rfl (by rw [hml]; rfl) (argsL := [(.ref a5), (.int (9 : Int32))]) (rest := [(.ref a1)]) (lenOf pd_1 rfl) rfl (by show 2 * 0 + _ ≤ _; exact Nat.le_of_eq rfl) (hb hby d11_42) (fun _ _ => ⟨rfl, e258, (by decide : 3 + 1 ≤ _), (by decide : 27 + 9 ≤ _)⟩)
  dsimp only [Pt.U, Pt.locs, Pt.cells, Pt.slots] at X259 l259 y259 z259 st259 hQ259
  subst l259 y259 z259
  obtain ⟨c5, j5, rfl, N259q, K259, gc259, Vc259⟩ := hQ259
  have N259 := Fr.app N248 N259q
  have E1_260 := E1_249.keep K259
  have Fc_261 := Fc_250.keep K259 nin0
  have F_offsets_a1_262 := F_offsets_a1_251.keep K259 nin0
  have F_positions_a1_263 := F_positions_a1_252.keep K259 nin0
  have F_maxTimestamps_a1_264 := F_maxTimestamps_a1_248.keep K259 nin0
  have Fa5_265 := Fa5_253.keep K259 nin0
  have Va5_266 := Va5_254.keep K259 nin0
  have Vc193_267 := Vc193_255.keep K259 nin0
  have Vc215_268 := Vc215_256.keep K259 nin0
  have Vc237_269 := Vc237_257.keep K259 nin0
  have zh259 : n0 ≤ T259.heap.size := Nat.le_trans zh248 K259.1
  have K0_259 : Keep h0 T259.heap [a1] := K0_248.trans K259 all0
  have ne_a1_c5 : a1 ≠ c5 := fun q => by have u := E1_249.lt; rw [q, gc259] at u; exact Nat.lt_irrefl _ u
  have ne_c2_c5 : c2 ≠ c5 := fun q => by have u := Vc193_255.lt; rw [q, gc259] at u; exact Nat.lt_irrefl _ u
  have ne_c3_c5 : c3 ≠ c5 := fun q => by have u := Vc215_256.lt; rw [q, gc259] at u; exact Nat.lt_irrefl _ u
  have ne_c4_c5 : c4 ≠ c5 := fun q => by have u := Vc237_257.lt; rw [q, gc259] at u; exact Nat.lt_irrefl _ u
  have sz_c5 : h0.size ≤ c5 := by rw [gc259]; exact K0_248.1
  have lo_c5 : n0 ≤ c5 := by rw [gc259]; exact zh248
  obtain ⟨T270, h270, X270, e270, W270, st270⟩ := putF X259 hx hZ hown (host := "") (Or.inl (hw _ (List.mem_of_getElem? (i := 17) rfl))) Via.refl rfl Fa5_265 E1_260 (Or.inl (hw _ (List.mem_of_getElem? (i := 18) rfl))) (hw _ (List.mem_of_getElem? (i := 2) rfl)) (ty := (.array .long)) (by decide) rfl rfl (g := (mkF m 45 #[.val (.ref a1), .val (.int (9 : Int32))] [(.ref c5), (.ref a1)])) rfl rfl (hb hby d11_45)
  have F_writtenAts_a1_270 := Fa5_265.same W270
  have E1_271 := E1_260.wr W270
  have Fc_272 := Fc_261.other W270 (Or.inr (slot_ne (Or.inl (hw _ (List.mem_of_getElem? (i := 25) rfl))) (Or.inl (hw _ (List.mem_of_getElem? (i := 18) rfl))) (by decide) (t := .int) (t' := (.array .long)) (by decide) (by decide)))
  have F_offsets_a1_273 := F_offsets_a1_262.other W270 (Or.inr (slot_ne (Or.inl (hw _ (List.mem_of_getElem? (i := 12) rfl))) (Or.inl (hw _ (List.mem_of_getElem? (i := 18) rfl))) (by decide) (t := (.array .long)) (t' := (.array .long)) (by decide) (by decide)))
  have F_positions_a1_274 := F_positions_a1_263.other W270 (Or.inr (slot_ne (Or.inl (hw _ (List.mem_of_getElem? (i := 14) rfl))) (Or.inl (hw _ (List.mem_of_getElem? (i := 18) rfl))) (by decide) (t := (.array .long)) (t' := (.array .long)) (by decide) (by decide)))
  have F_maxTimestamps_a1_275 := F_maxTimestamps_a1_264.other W270 (Or.inr (slot_ne (Or.inl (hw _ (List.mem_of_getElem? (i := 16) rfl))) (Or.inl (hw _ (List.mem_of_getElem? (i := 18) rfl))) (by decide) (t := (.array .long)) (t' := (.array .long)) (by decide) (by decide)))
  have Vc193_276 := Vc193_267.other W270 (Ne.symm ne_a1_c2)
  have Vc215_277 := Vc215_268.other W270 (Ne.symm ne_a1_c3)
  have Vc237_278 := Vc237_269.other W270 (Ne.symm ne_a1_c4)
  have Vc259_279 := Vc259.other W270 (Ne.symm ne_a1_c5)
  have zh270 : n0 ≤ h270.size := Nat.le_trans zh259 (Nat.le_of_eq W270.size.symm)
  have K0_270 : Keep h0 h270 [a1] := K0_259.wr W270 (Or.inl (List.mem_of_getElem? (i := 0) rfl))
  have N270 := Fr.snoc X270 N259 lo1_191
  refine own_Go.mono (T' := T270) (f' := (mkF m 48 #[.val (.ref a1), .val (.int (9 : Int32))] [])) (fun t k => ?_) ?_
  · show Steps p.tables e below (s₁.setTop (mkF m 0 #[.val (.ref a1), .val (.int (9 : Int32))] [])) _
    refine XS.aloadN X0.here hx rfl (hb hby d11_0) rfl rfl ?_
    show Steps p.tables e below (s₁.setTop (mkF m 1 #[.val (.ref a1), .val (.int (9 : Int32))] [(.ref a1)])) _
    refine XS.aloadN X0.here hx rfl (hb hby d11_1) rfl rfl ?_
    show Steps p.tables e below (s₁.setTop (mkF m 2 #[.val (.ref a1), .val (.int (9 : Int32))] [(.ref a1), (.ref a1)])) _
    refine st192 _ ?_
    show Steps p.tables e below (T192.setTop (mkF m 5 #[.val (.ref a1), .val (.int (9 : Int32))] [(.ref a2), (.ref a1)])) _
    refine XS.iloadN X192.here hx rfl (hb hby d11_5) rfl ?_
    show Steps p.tables e below (T192.setTop (mkF m 6 #[.val (.ref a1), .val (.int (9 : Int32))] [(.int (9 : Int32)), (.ref a2), (.ref a1)])) _
    refine st193 _ ?_
    show Steps p.tables e below (T193.setTop (mkF m 9 #[.val (.ref a1), .val (.int (9 : Int32))] [(.ref c2), (.ref a1)])) _
    refine st204 _ ?_
    show Steps p.tables e below (T204.setTop (mkF m 12 #[.val (.ref a1), .val (.int (9 : Int32))] [])) _
    refine XS.aloadN X204.here hx rfl (hb hby d11_12) rfl rfl ?_
    show Steps p.tables e below (T204.setTop (mkF m 13 #[.val (.ref a1), .val (.int (9 : Int32))] [(.ref a1)])) _
    refine XS.aloadN X204.here hx rfl (hb hby d11_13) rfl rfl ?_
    show Steps p.tables e below (T204.setTop (mkF m 14 #[.val (.ref a1), .val (.int (9 : Int32))] [(.ref a1), (.ref a1)])) _
    refine st214 _ ?_
    show Steps p.tables e below (T214.setTop (mkF m 17 #[.val (.ref a1), .val (.int (9 : Int32))] [(.ref a3), (.ref a1)])) _
    refine XS.iloadN X214.here hx rfl (hb hby d11_17) rfl ?_
    show Steps p.tables e below (T214.setTop (mkF m 18 #[.val (.ref a1), .val (.int (9 : Int32))] [(.int (9 : Int32)), (.ref a3), (.ref a1)])) _
    refine st215 _ ?_
    show Steps p.tables e below (T215.setTop (mkF m 21 #[.val (.ref a1), .val (.int (9 : Int32))] [(.ref c3), (.ref a1)])) _
    refine st226 _ ?_
    show Steps p.tables e below (T226.setTop (mkF m 24 #[.val (.ref a1), .val (.int (9 : Int32))] [])) _
    refine XS.aloadN X226.here hx rfl (hb hby d11_24) rfl rfl ?_
    show Steps p.tables e below (T226.setTop (mkF m 25 #[.val (.ref a1), .val (.int (9 : Int32))] [(.ref a1)])) _
    refine XS.aloadN X226.here hx rfl (hb hby d11_25) rfl rfl ?_
    show Steps p.tables e below (T226.setTop (mkF m 26 #[.val (.ref a1), .val (.int (9 : Int32))] [(.ref a1), (.ref a1)])) _
    refine st236 _ ?_
    show Steps p.tables e below (T236.setTop (mkF m 29 #[.val (.ref a1), .val (.int (9 : Int32))] [(.ref a4), (.ref a1)])) _
    refine XS.iloadN X236.here hx rfl (hb hby d11_29) rfl ?_
    show Steps p.tables e below (T236.setTop (mkF m 30 #[.val (.ref a1), .val (.int (9 : Int32))] [(.int (9 : Int32)), (.ref a4), (.ref a1)])) _
    refine st237 _ ?_
    show Steps p.tables e below (T237.setTop (mkF m 33 #[.val (.ref a1), .val (.int (9 : Int32))] [(.ref c4), (.ref a1)])) _
    refine st248 _ ?_
    show Steps p.tables e below (T248.setTop (mkF m 36 #[.val (.ref a1), .val (.int (9 : Int32))] [])) _
    refine XS.aloadN X248.here hx rfl (hb hby d11_36) rfl rfl ?_
    show Steps p.tables e below (T248.setTop (mkF m 37 #[.val (.ref a1), .val (.int (9 : Int32))] [(.ref a1)])) _
    refine XS.aloadN X248.here hx rfl (hb hby d11_37) rfl rfl ?_
    show Steps p.tables e below (T248.setTop (mkF m 38 #[.val (.ref a1), .val (.int (9 : Int32))] [(.ref a1), (.ref a1)])) _
    refine st258 _ ?_
    show Steps p.tables e below (T258.setTop (mkF m 41 #[.val (.ref a1), .val (.int (9 : Int32))] [(.ref a5), (.ref a1)])) _
    refine XS.iloadN X258.here hx rfl (hb hby d11_41) rfl ?_
    show Steps p.tables e below (T258.setTop (mkF m 42 #[.val (.ref a1), .val (.int (9 : Int32))] [(.int (9 : Int32)), (.ref a5), (.ref a1)])) _
    refine st259 _ ?_
    show Steps p.tables e below (T259.setTop (mkF m 45 #[.val (.ref a1), .val (.int (9 : Int32))] [(.ref c5), (.ref a1)])) _
    refine st270 _ ?_
    show Steps p.tables e below (T270.setTop (mkF m 48 #[.val (.ref a1), .val (.int (9 : Int32))] [])) _
    exact k
  exact own_retV X270 hx hret hlk (hb hby d11_48) ((by rw [e270]; exact ⟨c2, c3, c4, c5, j2, j3, j4, j5, rfl, N270, K0_270, ⟨sz_c2, sz_c3, sz_c4, sz_c5⟩, ⟨E1_271, Fc_272, F_offsets_a1_273, F_positions_a1_274, F_maxTimestamps_a1_275, F_writtenAts_a1_270, Vc193_276, Vc215_277, Vc237_278, Vc259_279, ne_c2_c3, ne_c2_c4, ne_c2_c5, ne_c3_c4, ne_c3_c5, ne_c4_c5, lo1_191, lo_c2, lo_c3, lo_c4, lo_c5⟩⟩)) (by decide) (by decide)
theorem d10_0 : decode prog_12_method_11_code 0 = .ok (.aload_n 0, 1) := by decide +kernel
theorem d10_1 : decode prog_12_method_11_code 1 = .ok (.aload_n 0, 1) := by decide +kernel
theorem d10_2 : decode prog_12_method_11_code 2 = .ok (.getfield 22, 3) := by decide +kernel
theorem d10_5 : decode prog_12_method_11_code 5 = .ok (.invokevirtual 34, 3) := by decide +kernel
theorem d10_8 : decode prog_12_method_11_code 8 = .ok (.return_, 1) := by decide +kernel
theorem ef_rm10 (m : MethodId) (x0 : Addr) : entryFrame m #[(.ref x0)] 1 = mkF m 0 #[.val (.ref x0)] [] := by first | (simp [entryFrame, mkF, argsToLocals, Value.category]; done) | rfl
def Q10 (Z : State) (a1 : Addr) (a2 : Addr) (a3 : Addr) (a4 : Addr) (a5 : Addr) (k2 : ClassId) (k3 : ClassId) (k4 : ClassId) (k5 : ClassId) (y2 : Int64) (y3 : Int64) (y4 : Int64) (y5 : Int64) (h0 : Heap) (n0 : Nat) (v : Option Value) (h : Heap) (L : List Loc) : Prop := ∃ (c2 c3 c4 c5 : Addr) (j2 j3 j4 j5 : ClassId), v = none ∧ Fr n0 L ∧ Keep h0 h [a1] ∧ own_Seg Z n0 h a1 (1 : Int32) (1 : Int32) c2 c3 c4 c5 j2 j3 j4 j5 [(.long y2)] [(.long y3)] [(.long y4)] [(.long y5)]
set_option maxRecDepth 65536 in
set_option maxHeartbeats 40000000 in
theorem rm10 (l : Launch) (Z : State) (a0 : Array Value) (hw : ∀ d ∈ tables_1, d.before a0 Z = true) (ws : List Jvm.Cond) (a1 : Addr) (a2 : Addr) (a3 : Addr) (a4 : Addr) (a5 : Addr) (k2 : ClassId) (k3 : ClassId) (k4 : ClassId) (k5 : ClassId) (y2 : Int64) (y3 : Int64) (y4 : Int64) (y5 : Int64) (h0 : Heap) (n0 : Nat) (Z0 : n0 ≤ h0.size) (G : own_Seg Z n0 h0 a1 (1 : Int32) (8 : Int32) a2 a3 a4 a5 k2 k3 k4 k5 [(.long y2), (.long (0 : Int64)), (.long (0 : Int64)), (.long (0 : Int64)), (.long (0 : Int64)), (.long (0 : Int64)), (.long (0 : Int64)), (.long (0 : Int64))] [(.long y3), (.long (0 : Int64)), (.long (0 : Int64)), (.long (0 : Int64)), (.long (0 : Int64)), (.long (0 : Int64)), (.long (0 : Int64)), (.long (0 : Int64))] [(.long y4), (.long (0 : Int64)), (.long (0 : Int64)), (.long (0 : Int64)), (.long (0 : Int64)), (.long (0 : Int64)), (.long (0 : Int64)), (.long (0 : Int64))] [(.long y5), (.long (0 : Int64)), (.long (0 : Int64)), (.long (0 : Int64)), (.long (0 : Int64)), (.long (0 : Int64)), (.long (0 : Int64)), (.long (0 : Int64))]) :
    MetFree l (⟨"com/example/uplog/uplog/SegmentIndex", "trim", "()V"⟩ : MethodName) (head1 (Jvm.Cond.code (⟨"com/example/uplog/uplog/SegmentIndex", "trim", "()V"⟩ : MethodName) prog_12_method_11_code 1 none :: ws) ({ frames := 3, cells := 4, slots := 4, locals := 50 } : Room)) (fun a U => a = #[(.ref a1)] ∧ Z.Warmed39 U.vm ∧ U.heap = h0) (fun _ _ _ _ _ => True) (fun _ U o U' => ∃ v L, o = .returned v ∧ Q10 Z a1 a2 a3 a4 a5 k2 k3 k4 k5 y2 y3 y4 y5 h0 n0 v U'.heap L ∧ FrameEnd U o U' L 4 4) := by
  refine own_body (Qv := Q10 Z a1 a2 a3 a4 a5 k2 k3 k4 k5 y2 y3 y4 y5 h0 n0) (plainFor_of_name (by first | (simp [plainName, overriddenIn]; done) | decide +kernel)) ?_
  intro p e s m below meth c s₁ hx hby hml hret hlk hown hnm hZ X0 e0
  replace hown : s.vm.findClass "com/example/uplog/uplog/SegmentIndex" = some m.cls := hown
  replace hnm : meth.name = "trim" := hnm
  have N0 := Fr.nil n0
  refine own_Go.mono (T' := s₁) (f' := (mkF m 0 #[.val (.ref a1)] [])) (fun t k => castTop (ef_rm10 m a1) k) ?_
  have K0_0 : Keep h0 h0 [a1] := Keep.refl _ _
  have G0 := G
  obtain ⟨E1_280, Fc_280, Fa2_280, Fa3_280, Fa4_280, Fa5_280, Va2_280, Va3_280, Va4_280, Va5_280, da2a3_280, da2a4_280, da2a5_280, da3a4_280, da3a5_280, da4a5_280, lo1_280, loa2_280, loa3_280, loa4_280, loa5_280⟩ := G
  have ne1a2_280 : a1 ≠ a2 := Exa.neArv E1_280 Va2_280 (hw _ (List.mem_of_getElem? (i := 2) rfl))
  have ne1a3_280 : a1 ≠ a3 := Exa.neArv E1_280 Va3_280 (hw _ (List.mem_of_getElem? (i := 2) rfl))
  have ne1a4_280 : a1 ≠ a4 := Exa.neArv E1_280 Va4_280 (hw _ (List.mem_of_getElem? (i := 2) rfl))
  have ne1a5_280 : a1 ≠ a5 := Exa.neArv E1_280 Va5_280 (hw _ (List.mem_of_getElem? (i := 2) rfl))
  obtain ⟨T281, X281, e281, st281⟩ := getF X0 hx hZ hown (host := "") (Or.inl (hw _ (List.mem_of_getElem? (i := 24) rfl))) Via.refl e0 Fc_280 (g := (mkF m 2 #[.val (.ref a1)] [(.ref a1), (.ref a1)])) rfl rfl (hb hby d10_2)
  obtain ⟨cq282, q282, q282'⟩ := E1_280.cell
  obtain ⟨_, _, ⟨T282, L282, k282, n282⟩, -, X282, ⟨Lc282, hQ282, l282, y282, z282⟩, st282⟩ := X281.privateBack hx (y := (⟨"com/example/uplog/uplog/SegmentIndex", "resize", "(I)V"⟩ : MethodName)) hown (mvT hZ (hw _ (List.mem_of_getElem? (i := 63) rfl))) (mvT hZ (hw _ (List.mem_of_getElem? (i := 64) rfl))) (Jvm.Kit.selects_private (by decide) (mvT hZ (hw _ (List.mem_of_getElem? (i := 2) rfl))) (mvP hZ (hw _ (List.mem_of_getElem? (i := 65) rfl))) (mvT hZ (hw _ (List.mem_of_getElem? (i := 64) rfl)))) (Cond.privateMethod_at (mvP hZ (hw _ (List.mem_of_getElem? (i := 65) rfl)) (args := #[]))) (mvT hZ (hw _ (List.mem_of_getElem? (i := 66) rfl))) (by decide) (backOf (W := 0) (rmr8 l Z a0 hw [] a1 (1 : Int32) a2 a3 a4 a5 k2 k3 k4 k5 y2 y3 y4 y5 h0 n0 Z0 G0 rfl) hZ (hw _ (List.mem_of_getElem? (i := 66) rfl)) (hw _ (List.mem_of_getElem? (i := 3) rfl)) (by decide) (by decide)) (g := (mkF m 5 #[.val (.ref a1)] [(.int (1 : Int32)), (.ref a1)])) rfl (by rw [hml]; rfl) (Steps.refl _) (a := a1) (by rw [e281]; exact q282) q282' (argsL := [(.int (1 : Int32))]) (rest := []) (lenOf pd_2 rfl) rfl (by show 2 * 0 + _ ≤ _; exact Nat.le_of_eq rfl) (hb hby d10_5) (fun _ _ => ⟨rfl, e281, (by decide : 0 + 4 ≤ _), (by decide : 0 + 4 ≤ _)⟩)
  dsimp only [Pt.U, Pt.locs, Pt.cells, Pt.slots] at X282 l282 y282 z282 st282 hQ282
  subst l282 y282 z282
  obtain ⟨c2, c3, c4, c5, j2, j3, j4, j5, rfl, N282q, K282, sz282, Gs282⟩ := hQ282
  have N282 := Fr.app N0 N282q
  have E1_283 := E1_280.keep K282
  have zh282 : n0 ≤ T282.heap.size := Nat.le_trans Z0 K282.1
  have K0_282 : Keep h0 T282.heap [a1] := K0_0.trans K282 (allS (Or.inl (List.mem_of_getElem? (i := 0) rfl)) all0)
  refine own_Go.mono (T' := T282) (f' := (mkF m 8 #[.val (.ref a1)] [])) (fun t k => ?_) ?_
  · show Steps p.tables e below (s₁.setTop (mkF m 0 #[.val (.ref a1)] [])) _
    refine XS.aloadN X0.here hx rfl (hb hby d10_0) rfl rfl ?_
    show Steps p.tables e below (s₁.setTop (mkF m 1 #[.val (.ref a1)] [(.ref a1)])) _
    refine XS.aloadN X0.here hx rfl (hb hby d10_1) rfl rfl ?_
    show Steps p.tables e below (s₁.setTop (mkF m 2 #[.val (.ref a1)] [(.ref a1), (.ref a1)])) _
    refine st281 _ ?_
    show Steps p.tables e below (T281.setTop (mkF m 5 #[.val (.ref a1)] [(.int (1 : Int32)), (.ref a1)])) _
    refine st282.trans ?_
    show Steps p.tables e below (T282.setTop (mkF m 8 #[.val (.ref a1)] [])) _
    exact k
  exact own_retV X282 hx hret hlk (hb hby d10_8) (⟨c2, c3, c4, c5, j2, j3, j4, j5, rfl, N282, K0_282, Gs282⟩) (by decide) (by decide)
theorem d3_0 : decode prog_12_method_2_code 0 = .ok (.aload_n 0, 1) := by decide +kernel
theorem d3_1 : decode prog_12_method_2_code 1 = .ok (.getfield 22, 3) := by decide +kernel
theorem d3_4 : decode prog_12_method_2_code 4 = .ok (.ifCond .eq 23, 3) := by decide +kernel
theorem d3_7 : decode prog_12_method_2_code 7 = .ok (.lload_n 3, 1) := by decide +kernel
theorem d3_8 : decode prog_12_method_2_code 8 = .ok (.aload_n 0, 1) := by decide +kernel
theorem d3_9 : decode prog_12_method_2_code 9 = .ok (.getfield 13, 3) := by decide +kernel
theorem d3_12 : decode prog_12_method_2_code 12 = .ok (.aload_n 0, 1) := by decide +kernel
theorem d3_13 : decode prog_12_method_2_code 13 = .ok (.getfield 22, 3) := by decide +kernel
theorem d3_16 : decode prog_12_method_2_code 16 = .ok (.iconst 1, 1) := by decide +kernel
theorem d3_17 : decode prog_12_method_2_code 17 = .ok (.isub, 1) := by decide +kernel
theorem d3_18 : decode prog_12_method_2_code 18 = .ok (.laload, 1) := by decide +kernel
theorem d3_19 : decode prog_12_method_2_code 19 = .ok (.lsub, 1) := by decide +kernel
theorem d3_20 : decode prog_12_method_2_code 20 = .ok (.ldc2_w 26, 3) := by decide +kernel
theorem d3_23 : decode prog_12_method_2_code 23 = .ok (.lcmp, 1) := by decide +kernel
theorem d3_24 : decode prog_12_method_2_code 24 = .ok (.ifCond .lt 88, 3) := by decide +kernel
theorem d3_27 : decode prog_12_method_2_code 27 = .ok (.aload_n 0, 1) := by decide +kernel
theorem d3_28 : decode prog_12_method_2_code 28 = .ok (.getfield 22, 3) := by decide +kernel
theorem d3_31 : decode prog_12_method_2_code 31 = .ok (.aload_n 0, 1) := by decide +kernel
theorem d3_32 : decode prog_12_method_2_code 32 = .ok (.getfield 9, 3) := by decide +kernel
theorem d3_35 : decode prog_12_method_2_code 35 = .ok (.arraylength, 1) := by decide +kernel
theorem d3_36 : decode prog_12_method_2_code 36 = .ok (.if_icmp .ne 21, 3) := by decide +kernel
theorem d3_39 : decode prog_12_method_2_code 39 = .ok (.aload_n 0, 1) := by decide +kernel
theorem d3_40 : decode prog_12_method_2_code 40 = .ok (.aload_n 0, 1) := by decide +kernel
theorem d3_41 : decode prog_12_method_2_code 41 = .ok (.getfield 22, 3) := by decide +kernel
theorem d3_44 : decode prog_12_method_2_code 44 = .ok (.aload_n 0, 1) := by decide +kernel
theorem d3_45 : decode prog_12_method_2_code 45 = .ok (.getfield 22, 3) := by decide +kernel
theorem d3_48 : decode prog_12_method_2_code 48 = .ok (.bipush 8, 2) := by decide +kernel
theorem d3_50 : decode prog_12_method_2_code 50 = .ok (.invokestatic 28, 3) := by decide +kernel
theorem d3_53 : decode prog_12_method_2_code 53 = .ok (.iadd, 1) := by decide +kernel
theorem d3_54 : decode prog_12_method_2_code 54 = .ok (.invokevirtual 34, 3) := by decide +kernel
theorem d3_57 : decode prog_12_method_2_code 57 = .ok (.aload_n 0, 1) := by decide +kernel
theorem d3_58 : decode prog_12_method_2_code 58 = .ok (.getfield 9, 3) := by decide +kernel
theorem d3_61 : decode prog_12_method_2_code 61 = .ok (.aload_n 0, 1) := by decide +kernel
theorem d3_62 : decode prog_12_method_2_code 62 = .ok (.getfield 22, 3) := by decide +kernel
theorem d3_65 : decode prog_12_method_2_code 65 = .ok (.lload_n 1, 1) := by decide +kernel
theorem d3_66 : decode prog_12_method_2_code 66 = .ok (.lastore, 1) := by decide +kernel
theorem d3_67 : decode prog_12_method_2_code 67 = .ok (.aload_n 0, 1) := by decide +kernel
theorem d3_68 : decode prog_12_method_2_code 68 = .ok (.getfield 13, 3) := by decide +kernel
theorem d3_71 : decode prog_12_method_2_code 71 = .ok (.aload_n 0, 1) := by decide +kernel
theorem d3_72 : decode prog_12_method_2_code 72 = .ok (.getfield 22, 3) := by decide +kernel
theorem d3_75 : decode prog_12_method_2_code 75 = .ok (.lload_n 3, 1) := by decide +kernel
theorem d3_76 : decode prog_12_method_2_code 76 = .ok (.lastore, 1) := by decide +kernel
theorem d3_77 : decode prog_12_method_2_code 77 = .ok (.aload_n 0, 1) := by decide +kernel
theorem d3_78 : decode prog_12_method_2_code 78 = .ok (.getfield 16, 3) := by decide +kernel
theorem d3_81 : decode prog_12_method_2_code 81 = .ok (.aload_n 0, 1) := by decide +kernel
theorem d3_82 : decode prog_12_method_2_code 82 = .ok (.getfield 22, 3) := by decide +kernel
theorem d3_85 : decode prog_12_method_2_code 85 = .ok (.lload 5, 2) := by decide +kernel
theorem d3_87 : decode prog_12_method_2_code 87 = .ok (.lastore, 1) := by decide +kernel
theorem d3_88 : decode prog_12_method_2_code 88 = .ok (.aload_n 0, 1) := by decide +kernel
theorem d3_89 : decode prog_12_method_2_code 89 = .ok (.getfield 19, 3) := by decide +kernel
theorem d3_92 : decode prog_12_method_2_code 92 = .ok (.aload_n 0, 1) := by decide +kernel
theorem d3_93 : decode prog_12_method_2_code 93 = .ok (.getfield 22, 3) := by decide +kernel
theorem d3_96 : decode prog_12_method_2_code 96 = .ok (.lload 7, 2) := by decide +kernel
theorem d3_98 : decode prog_12_method_2_code 98 = .ok (.lastore, 1) := by decide +kernel
theorem d3_99 : decode prog_12_method_2_code 99 = .ok (.aload_n 0, 1) := by decide +kernel
theorem d3_100 : decode prog_12_method_2_code 100 = .ok (.dup, 1) := by decide +kernel
theorem d3_101 : decode prog_12_method_2_code 101 = .ok (.getfield 22, 3) := by decide +kernel
theorem d3_104 : decode prog_12_method_2_code 104 = .ok (.iconst 1, 1) := by decide +kernel
theorem d3_105 : decode prog_12_method_2_code 105 = .ok (.iadd, 1) := by decide +kernel
theorem d3_106 : decode prog_12_method_2_code 106 = .ok (.putfield 22, 3) := by decide +kernel
theorem d3_109 : decode prog_12_method_2_code 109 = .ok (.goto 57, 3) := by decide +kernel
theorem d3_112 : decode prog_12_method_2_code 112 = .ok (.aload_n 0, 1) := by decide +kernel
theorem d3_113 : decode prog_12_method_2_code 113 = .ok (.getfield 16, 3) := by decide +kernel
theorem d3_116 : decode prog_12_method_2_code 116 = .ok (.aload_n 0, 1) := by decide +kernel
theorem d3_117 : decode prog_12_method_2_code 117 = .ok (.getfield 22, 3) := by decide +kernel
theorem d3_120 : decode prog_12_method_2_code 120 = .ok (.iconst 1, 1) := by decide +kernel
theorem d3_121 : decode prog_12_method_2_code 121 = .ok (.isub, 1) := by decide +kernel
theorem d3_122 : decode prog_12_method_2_code 122 = .ok (.aload_n 0, 1) := by decide +kernel
theorem d3_123 : decode prog_12_method_2_code 123 = .ok (.getfield 16, 3) := by decide +kernel
theorem d3_126 : decode prog_12_method_2_code 126 = .ok (.aload_n 0, 1) := by decide +kernel
theorem d3_127 : decode prog_12_method_2_code 127 = .ok (.getfield 22, 3) := by decide +kernel
theorem d3_130 : decode prog_12_method_2_code 130 = .ok (.iconst 1, 1) := by decide +kernel
theorem d3_131 : decode prog_12_method_2_code 131 = .ok (.isub, 1) := by decide +kernel
theorem d3_132 : decode prog_12_method_2_code 132 = .ok (.laload, 1) := by decide +kernel
theorem d3_133 : decode prog_12_method_2_code 133 = .ok (.lload 5, 2) := by decide +kernel
theorem d3_135 : decode prog_12_method_2_code 135 = .ok (.invokestatic 38, 3) := by decide +kernel
theorem d3_138 : decode prog_12_method_2_code 138 = .ok (.lastore, 1) := by decide +kernel
theorem d3_139 : decode prog_12_method_2_code 139 = .ok (.aload_n 0, 1) := by decide +kernel
theorem d3_140 : decode prog_12_method_2_code 140 = .ok (.getfield 19, 3) := by decide +kernel
theorem d3_143 : decode prog_12_method_2_code 143 = .ok (.aload_n 0, 1) := by decide +kernel
theorem d3_144 : decode prog_12_method_2_code 144 = .ok (.getfield 22, 3) := by decide +kernel
theorem d3_147 : decode prog_12_method_2_code 147 = .ok (.iconst 1, 1) := by decide +kernel
theorem d3_148 : decode prog_12_method_2_code 148 = .ok (.isub, 1) := by decide +kernel
theorem d3_149 : decode prog_12_method_2_code 149 = .ok (.aload_n 0, 1) := by decide +kernel
theorem d3_150 : decode prog_12_method_2_code 150 = .ok (.getfield 19, 3) := by decide +kernel
theorem d3_153 : decode prog_12_method_2_code 153 = .ok (.aload_n 0, 1) := by decide +kernel
theorem d3_154 : decode prog_12_method_2_code 154 = .ok (.getfield 22, 3) := by decide +kernel
theorem d3_157 : decode prog_12_method_2_code 157 = .ok (.iconst 1, 1) := by decide +kernel
theorem d3_158 : decode prog_12_method_2_code 158 = .ok (.isub, 1) := by decide +kernel
theorem d3_159 : decode prog_12_method_2_code 159 = .ok (.laload, 1) := by decide +kernel
theorem d3_160 : decode prog_12_method_2_code 160 = .ok (.lload 7, 2) := by decide +kernel
theorem d3_162 : decode prog_12_method_2_code 162 = .ok (.invokestatic 38, 3) := by decide +kernel
theorem d3_165 : decode prog_12_method_2_code 165 = .ok (.lastore, 1) := by decide +kernel
theorem d3_166 : decode prog_12_method_2_code 166 = .ok (.return_, 1) := by decide +kernel
theorem ef_rmaA (m : MethodId) (x0 : Addr) (x1 : Int64) (x2 : Int64) (x3 : Int64) (x4 : Int64) : entryFrame m #[(.ref x0), (.long x1), (.long x2), (.long x3), (.long x4)] 9 = mkF m 0 #[.val (.ref x0), .val (.long x1), .second, .val (.long x2), .second, .val (.long x3), .second, .val (.long x4), .second] [] := by first | (simp [entryFrame, mkF, argsToLocals, Value.category]; done) | rfl
def QaA (Z : State) (a1 : Addr) (q1 : Int64) (q2 : Int64) (q3 : Int64) (q4 : Int64) (a2 : Addr) (a3 : Addr) (a4 : Addr) (a5 : Addr) (k2 : ClassId) (k3 : ClassId) (k4 : ClassId) (k5 : ClassId)  (h0 : Heap) (n0 : Nat) (v : Option Value) (h : Heap) (L : List Loc) : Prop := v = none ∧ Fr n0 L ∧ Keep h0 h [a1, a2, a3, a4, a5] ∧ own_Seg Z n0 h a1 (1 : Int32) (8 : Int32) a2 a3 a4 a5 k2 k3 k4 k5 [(.long q1), (.long (0 : Int64)), (.long (0 : Int64)), (.long (0 : Int64)), (.long (0 : Int64)), (.long (0 : Int64)), (.long (0 : Int64)), (.long (0 : Int64))] [(.long q2), (.long (0 : Int64)), (.long (0 : Int64)), (.long (0 : Int64)), (.long (0 : Int64)), (.long (0 : Int64)), (.long (0 : Int64)), (.long (0 : Int64))] [(.long q3), (.long (0 : Int64)), (.long (0 : Int64)), (.long (0 : Int64)), (.long (0 : Int64)), (.long (0 : Int64)), (.long (0 : Int64)), (.long (0 : Int64))] [(.long q4), (.long (0 : Int64)), (.long (0 : Int64)), (.long (0 : Int64)), (.long (0 : Int64)), (.long (0 : Int64)), (.long (0 : Int64)), (.long (0 : Int64))]
set_option maxRecDepth 65536 in
set_option maxHeartbeats 40000000 in
theorem rmaA (l : Launch) (Z : State) (a0 : Array Value) (hw : ∀ d ∈ tables_1, d.before a0 Z = true) (ws : List Jvm.Cond) (a1 : Addr) (q1 : Int64) (q2 : Int64) (q3 : Int64) (q4 : Int64) (a2 : Addr) (a3 : Addr) (a4 : Addr) (a5 : Addr) (k2 : ClassId) (k3 : ClassId) (k4 : ClassId) (k5 : ClassId)  (h0 : Heap) (n0 : Nat) (Z0 : n0 ≤ h0.size) (G : own_Seg Z n0 h0 a1 (0 : Int32) (8 : Int32) a2 a3 a4 a5 k2 k3 k4 k5 [(.long (0 : Int64)), (.long (0 : Int64)), (.long (0 : Int64)), (.long (0 : Int64)), (.long (0 : Int64)), (.long (0 : Int64)), (.long (0 : Int64)), (.long (0 : Int64))] [(.long (0 : Int64)), (.long (0 : Int64)), (.long (0 : Int64)), (.long (0 : Int64)), (.long (0 : Int64)), (.long (0 : Int64)), (.long (0 : Int64)), (.long (0 : Int64))] [(.long (0 : Int64)), (.long (0 : Int64)), (.long (0 : Int64)), (.long (0 : Int64)), (.long (0 : Int64)), (.long (0 : Int64)), (.long (0 : Int64)), (.long (0 : Int64))] [(.long (0 : Int64)), (.long (0 : Int64)), (.long (0 : Int64)), (.long (0 : Int64)), (.long (0 : Int64)), (.long (0 : Int64)), (.long (0 : Int64)), (.long (0 : Int64))]) :
    MetFree l (⟨"com/example/uplog/uplog/SegmentIndex", "add", "(JJJJ)V"⟩ : MethodName) (head1 (Jvm.Cond.code (⟨"com/example/uplog/uplog/SegmentIndex", "add", "(JJJJ)V"⟩ : MethodName) prog_12_method_2_code 9 none :: ws) ({ frames := 0, cells := 0, slots := 0, locals := 0 } : Room)) (fun a U => a = #[(.ref a1), (.long q1), (.long q2), (.long q3), (.long q4)] ∧ Z.Warmed39 U.vm ∧ U.heap = h0) (fun _ _ _ _ _ => True) (fun _ U o U' => ∃ v L, o = .returned v ∧ QaA Z a1 q1 q2 q3 q4 a2 a3 a4 a5 k2 k3 k4 k5 h0 n0 v U'.heap L ∧ FrameEnd U o U' L 0 0) := by
  refine own_body (Qv := QaA Z a1 q1 q2 q3 q4 a2 a3 a4 a5 k2 k3 k4 k5 h0 n0) (plainFor_of_name (by first | (simp [plainName, overriddenIn]; done) | decide +kernel)) ?_
  intro p e s m below meth c s₁ hx hby hml hret hlk hown hnm hZ X0 e0
  replace hown : s.vm.findClass "com/example/uplog/uplog/SegmentIndex" = some m.cls := hown
  replace hnm : meth.name = "add" := hnm
  have N0 := Fr.nil n0
  refine own_Go.mono (T' := s₁) (f' := (mkF m 0 #[.val (.ref a1), .val (.long q1), .second, .val (.long q2), .second, .val (.long q3), .second, .val (.long q4), .second] [])) (fun t k => castTop (ef_rmaA m a1 q1 q2 q3 q4) k) ?_
  have K0_0 : Keep h0 h0 [a1, a2, a3, a4, a5] := Keep.refl _ _
  obtain ⟨E1_284, Fc_284, Fa2_284, Fa3_284, Fa4_284, Fa5_284, Va2_284, Va3_284, Va4_284, Va5_284, da2a3_284, da2a4_284, da2a5_284, da3a4_284, da3a5_284, da4a5_284, lo1_284, loa2_284, loa3_284, loa4_284, loa5_284⟩ := G
  have ne1a2_284 : a1 ≠ a2 := Exa.neArv E1_284 Va2_284 (hw _ (List.mem_of_getElem? (i := 2) rfl))
  have ne1a3_284 : a1 ≠ a3 := Exa.neArv E1_284 Va3_284 (hw _ (List.mem_of_getElem? (i := 2) rfl))
  have ne1a4_284 : a1 ≠ a4 := Exa.neArv E1_284 Va4_284 (hw _ (List.mem_of_getElem? (i := 2) rfl))
  have ne1a5_284 : a1 ≠ a5 := Exa.neArv E1_284 Va5_284 (hw _ (List.mem_of_getElem? (i := 2) rfl))
  obtain ⟨T285, X285, e285, st285⟩ := getF X0 hx hZ hown (host := "") (Or.inl (hw _ (List.mem_of_getElem? (i := 24) rfl))) Via.refl e0 Fc_284 (g := (mkF m 1 #[.val (.ref a1), .val (.long q1), .second, .val (.long q2), .second, .val (.long q3), .second, .val (.long q4), .second] [(.ref a1)])) rfl rfl (hb hby d3_1)
  obtain ⟨T286, X286, e286, st286⟩ := getF X285 hx hZ hown (host := "") (Or.inl (hw _ (List.mem_of_getElem? (i := 24) rfl))) Via.refl e285 Fc_284 (g := (mkF m 28 #[.val (.ref a1), .val (.long q1), .second, .val (.long q2), .second, .val (.long q3), .second, .val (.long q4), .second] [(.ref a1)])) rfl rfl (hb hby d3_28)
  obtain ⟨T287, X287, e287, st287⟩ := getF X286 hx hZ hown (host := "") (Or.inl (hw _ (List.mem_of_getElem? (i := 11) rfl))) Via.refl e286 Fa2_284 (g := (mkF m 32 #[.val (.ref a1), .val (.long q1), .second, .val (.long q2), .second, .val (.long q3), .second, .val (.long q4), .second] [(.ref a1), (.int (0 : Int32))])) rfl rfl (hb hby d3_32)
  obtain ⟨cl288, Ar288, q288, S288, P288, H288, G288⟩ := Va2_284
  have V_a2_289 : Arv Z h0 a2 k2 .long (8 : Int32) [(.long (0 : Int64)), (.long (0 : Int64)), (.long (0 : Int64)), (.long (0 : Int64)), (.long (0 : Int64)), (.long (0 : Int64)), (.long (0 : Int64)), (.long (0 : Int64))] (.long (0 : Int64)) := ⟨cl288, Ar288, q288, S288, P288, H288, G288⟩
  obtain ⟨T290, X290, e290, st290⟩ := getF X287 hx hZ hown (host := "") (Or.inl (hw _ (List.mem_of_getElem? (i := 11) rfl))) Via.refl e287 Fa2_284 (g := (mkF m 58 #[.val (.ref a1), .val (.long q1), .second, .val (.long q2), .second, .val (.long q3), .second, .val (.long q4), .second] [(.ref a1)])) rfl rfl (hb hby d3_58)
  obtain ⟨T291, X291, e291, st291⟩ := getF X290 hx hZ hown (host := "") (Or.inl (hw _ (List.mem_of_getElem? (i := 24) rfl))) Via.refl e290 Fc_284 (g := (mkF m 62 #[.val (.ref a1), .val (.long q1), .second, .val (.long q2), .second, .val (.long q3), .second, .val (.long q4), .second] [(.ref a1), (.ref a2)])) rfl rfl (hb hby d3_62)
  obtain ⟨cl292, Ar292, q292, S292, P292, H292, G292⟩ := V_a2_289
  have hin293 : ¬ ((0 : Int32) < 0 ∨ cl292.slots.size ≤ ((0 : Int32)).toNatClampNeg) := inb_of S292 ⟨by decide, by decide⟩
  obtain ⟨T293, h293, X293, e293, W293, st293⟩ := stJ X291 hx hZ e291 Ar292 (j := (0 : Int32)) hin293 (g := (mkF m 66 #[.val (.ref a1), .val (.long q1), .second, .val (.long q2), .second, .val (.long q3), .second, .val (.long q4), .second] [(.long q1), (.int (0 : Int32)), (.ref a2)])) rfl rfl (hb hby d3_66)
  have V_a2_293 : Arv Z h293 a2 k2 .long (8 : Int32) [(.long q1), (.long (0 : Int64)), (.long (0 : Int64)), (.long (0 : Int64)), (.long (0 : Int64)), (.long (0 : Int64)), (.long (0 : Int64)), (.long (0 : Int64))] (.long (0 : Int64)) := Arv.set Ar292 q292 S292 P292 H292 G292 rfl W293 0 rfl (Nat.le_of_ble_eq_true rfl)
  have E1_294 := E1_284.wr W293
  have Fc_295 := Fc_284.other W293 (Or.inl ne1a2_284)
  have Fa2_296 := Fa2_284.other W293 (Or.inl ne1a2_284)
  have Fa3_297 := Fa3_284.other W293 (Or.inl ne1a2_284)
  have Fa4_298 := Fa4_284.other W293 (Or.inl ne1a2_284)
  have Fa5_299 := Fa5_284.other W293 (Or.inl ne1a2_284)
  have Va3_300 := Va3_284.other W293 (Ne.symm da2a3_284)
  have Va4_301 := Va4_284.other W293 (Ne.symm da2a4_284)
  have Va5_302 := Va5_284.other W293 (Ne.symm da2a5_284)
  have zh293 : n0 ≤ h293.size := Nat.le_trans Z0 (Nat.le_of_eq W293.size.symm)
  have K0_293 : Keep h0 h293 [a1, a2, a3, a4, a5] := K0_0.wr W293 (Or.inl (List.mem_of_getElem? (i := 1) rfl))
  have N293 := Fr.snoc X293 N0 loa2_284
  obtain ⟨T303, X303, e303, st303⟩ := getF X293 hx hZ hown (host := "") (Or.inl (hw _ (List.mem_of_getElem? (i := 13) rfl))) Via.refl e293 Fa3_297 (g := (mkF m 68 #[.val (.ref a1), .val (.long q1), .second, .val (.long q2), .second, .val (.long q3), .second, .val (.long q4), .second] [(.ref a1)])) rfl rfl (hb hby d3_68)
  obtain ⟨T304, X304, e304, st304⟩ := getF X303 hx hZ hown (host := "") (Or.inl (hw _ (List.mem_of_getElem? (i := 24) rfl))) Via.refl e303 Fc_295 (g := (mkF m 72 #[.val (.ref a1), .val (.long q1), .second, .val (.long q2), .second, .val (.long q3), .second, .val (.long q4), .second] [(.ref a1), (.ref a3)])) rfl rfl (hb hby d3_72)
  obtain ⟨cl305, Ar305, q305, S305, P305, H305, G305⟩ := Va3_300
  have hin306 : ¬ ((0 : Int32) < 0 ∨ cl305.slots.size ≤ ((0 : Int32)).toNatClampNeg) := inb_of S305 ⟨by decide, by decide⟩
  obtain ⟨T306, h306, X306, e306, W306, st306⟩ := stJ X304 hx hZ e304 Ar305 (j := (0 : Int32)) hin306 (g := (mkF m 76 #[.val (.ref a1), .val (.long q1), .second, .val (.long q2), .second, .val (.long q3), .second, .val (.long q4), .second] [(.long q2), (.int (0 : Int32)), (.ref a3)])) rfl rfl (hb hby d3_76)
  have V_a3_306 : Arv Z h306 a3 k3 .long (8 : Int32) [(.long q2), (.long (0 : Int64)), (.long (0 : Int64)), (.long (0 : Int64)), (.long (0 : Int64)), (.long (0 : Int64)), (.long (0 : Int64)), (.long (0 : Int64))] (.long (0 : Int64)) := Arv.set Ar305 q305 S305 P305 H305 G305 rfl W306 0 rfl (Nat.le_of_ble_eq_true rfl)
  have E1_307 := E1_294.wr W306
  have Fc_308 := Fc_295.other W306 (Or.inl ne1a3_284)
  have Fa2_309 := Fa2_296.other W306 (Or.inl ne1a3_284)
  have Fa3_310 := Fa3_297.other W306 (Or.inl ne1a3_284)
  have Fa4_311 := Fa4_298.other W306 (Or.inl ne1a3_284)
  have Fa5_312 := Fa5_299.other W306 (Or.inl ne1a3_284)
  have V_a2_313 := V_a2_293.other W306 da2a3_284
  have Va4_314 := Va4_301.other W306 (Ne.symm da3a4_284)
  have Va5_315 := Va5_302.other W306 (Ne.symm da3a5_284)
  have zh306 : n0 ≤ h306.size := Nat.le_trans zh293 (Nat.le_of_eq W306.size.symm)
  have K0_306 : Keep h0 h306 [a1, a2, a3, a4, a5] := K0_293.wr W306 (Or.inl (List.mem_of_getElem? (i := 2) rfl))
  have N306 := Fr.snoc X306 N293 loa3_284
  obtain ⟨T316, X316, e316, st316⟩ := getF X306 hx hZ hown (host := "") (Or.inl (hw _ (List.mem_of_getElem? (i := 15) rfl))) Via.refl e306 Fa4_311 (g := (mkF m 78 #[.val (.ref a1), .val (.long q1), .second, .val (.long q2), .second, .val (.long q3), .second, .val (.long q4), .second] [(.ref a1)])) rfl rfl (hb hby d3_78)
  obtain ⟨T317, X317, e317, st317⟩ := getF X316 hx hZ hown (host := "") (Or.inl (hw _ (List.mem_of_getElem? (i := 24) rfl))) Via.refl e316 Fc_308 (g := (mkF m 82 #[.val (.ref a1), .val (.long q1), .second, .val (.long q2), .second, .val (.long q3), .second, .val (.long q4), .second] [(.ref a1), (.ref a4)])) rfl rfl (hb hby d3_82)
  obtain ⟨cl318, Ar318, q318, S318, P318, H318, G318⟩ := Va4_314
  have hin319 : ¬ ((0 : Int32) < 0 ∨ cl318.slots.size ≤ ((0 : Int32)).toNatClampNeg) := inb_of S318 ⟨by decide, by decide⟩
  obtain ⟨T319, h319, X319, e319, W319, st319⟩ := stJ X317 hx hZ e317 Ar318 (j := (0 : Int32)) hin319 (g := (mkF m 87 #[.val (.ref a1), .val (.long q1), .second, .val (.long q2), .second, .val (.long q3), .second, .val (.long q4), .second] [(.long q3), (.int (0 : Int32)), (.ref a4)])) rfl rfl (hb hby d3_87)
  have V_a4_319 : Arv Z h319 a4 k4 .long (8 : Int32) [(.long q3), (.long (0 : Int64)), (.long (0 : Int64)), (.long (0 : Int64)), (.long (0 : Int64)), (.long (0 : Int64)), (.long (0 : Int64)), (.long (0 : Int64))] (.long (0 : Int64)) := Arv.set Ar318 q318 S318 P318 H318 G318 rfl W319 0 rfl (Nat.le_of_ble_eq_true rfl)
  have E1_320 := E1_307.wr W319
  have Fc_321 := Fc_308.other W319 (Or.inl ne1a4_284)
  have Fa2_322 := Fa2_309.other W319 (Or.inl ne1a4_284)
  have Fa3_323 := Fa3_310.other W319 (Or.inl ne1a4_284)
  have Fa4_324 := Fa4_311.other W319 (Or.inl ne1a4_284)
  have Fa5_325 := Fa5_312.other W319 (Or.inl ne1a4_284)
  have V_a2_326 := V_a2_313.other W319 da2a4_284
  have V_a3_327 := V_a3_306.other W319 da3a4_284
  have Va5_328 := Va5_315.other W319 (Ne.symm da4a5_284)
  have zh319 : n0 ≤ h319.size := Nat.le_trans zh306 (Nat.le_of_eq W319.size.symm)
  have K0_319 : Keep h0 h319 [a1, a2, a3, a4, a5] := K0_306.wr W319 (Or.inl (List.mem_of_getElem? (i := 3) rfl))
  have N319 := Fr.snoc X319 N306 loa4_284
  obtain ⟨T329, X329, e329, st329⟩ := getF X319 hx hZ hown (host := "") (Or.inl (hw _ (List.mem_of_getElem? (i := 17) rfl))) Via.refl e319 Fa5_325 (g := (mkF m 89 #[.val (.ref a1), .val (.long q1), .second, .val (.long q2), .second, .val (.long q3), .second, .val (.long q4), .second] [(.ref a1)])) rfl rfl (hb hby d3_89)
  obtain ⟨T330, X330, e330, st330⟩ := getF X329 hx hZ hown (host := "") (Or.inl (hw _ (List.mem_of_getElem? (i := 24) rfl))) Via.refl e329 Fc_321 (g := (mkF m 93 #[.val (.ref a1), .val (.long q1), .second, .val (.long q2), .second, .val (.long q3), .second, .val (.long q4), .second] [(.ref a1), (.ref a5)])) rfl rfl (hb hby d3_93)
  obtain ⟨cl331, Ar331, q331, S331, P331, H331, G331⟩ := Va5_328
  have hin332 : ¬ ((0 : Int32) < 0 ∨ cl331.slots.size ≤ ((0 : Int32)).toNatClampNeg) := inb_of S331 ⟨by decide, by decide⟩
  obtain ⟨T332, h332, X332, e332, W332, st332⟩ := stJ X330 hx hZ e330 Ar331 (j := (0 : Int32)) hin332 (g := (mkF m 98 #[.val (.ref a1), .val (.long q1), .second, .val (.long q2), .second, .val (.long q3), .second, .val (.long q4), .second] [(.long q4), (.int (0 : Int32)), (.ref a5)])) rfl rfl (hb hby d3_98)
  have V_a5_332 : Arv Z h332 a5 k5 .long (8 : Int32) [(.long q4), (.long (0 : Int64)), (.long (0 : Int64)), (.long (0 : Int64)), (.long (0 : Int64)), (.long (0 : Int64)), (.long (0 : Int64)), (.long (0 : Int64))] (.long (0 : Int64)) := Arv.set Ar331 q331 S331 P331 H331 G331 rfl W332 0 rfl (Nat.le_of_ble_eq_true rfl)
  have E1_333 := E1_320.wr W332
  have Fc_334 := Fc_321.other W332 (Or.inl ne1a5_284)
  have Fa2_335 := Fa2_322.other W332 (Or.inl ne1a5_284)
  have Fa3_336 := Fa3_323.other W332 (Or.inl ne1a5_284)
  have Fa4_337 := Fa4_324.other W332 (Or.inl ne1a5_284)
  have Fa5_338 := Fa5_325.other W332 (Or.inl ne1a5_284)
  have V_a2_339 := V_a2_326.other W332 da2a5_284
  have V_a3_340 := V_a3_327.other W332 da3a5_284
  have V_a4_341 := V_a4_319.other W332 da4a5_284
  have zh332 : n0 ≤ h332.size := Nat.le_trans zh319 (Nat.le_of_eq W332.size.symm)
  have K0_332 : Keep h0 h332 [a1, a2, a3, a4, a5] := K0_319.wr W332 (Or.inl (List.mem_of_getElem? (i := 4) rfl))
  have N332 := Fr.snoc X332 N319 loa5_284
  obtain ⟨T342, X342, e342, st342⟩ := getF X332 hx hZ hown (host := "") (Or.inl (hw _ (List.mem_of_getElem? (i := 24) rfl))) Via.refl e332 Fc_334 (g := (mkF m 101 #[.val (.ref a1), .val (.long q1), .second, .val (.long q2), .second, .val (.long q3), .second, .val (.long q4), .second] [(.ref a1), (.ref a1)])) rfl rfl (hb hby d3_101)
  obtain ⟨T343, h343, X343, e343, W343, st343⟩ := putF X342 hx hZ hown (host := "") (Or.inl (hw _ (List.mem_of_getElem? (i := 24) rfl))) Via.refl e342 Fc_334 E1_333 (Or.inl (hw _ (List.mem_of_getElem? (i := 25) rfl))) (hw _ (List.mem_of_getElem? (i := 2) rfl)) (ty := .int) (by decide) rfl rfl (g := (mkF m 106 #[.val (.ref a1), .val (.long q1), .second, .val (.long q2), .second, .val (.long q3), .second, .val (.long q4), .second] [(.int (1 : Int32)), (.ref a1)])) rfl rfl (hb hby d3_106)
  have F_count_a1_343 := Fc_334.same W343
  have E1_344 := E1_333.wr W343
  have Fa2_345 := Fa2_335.other W343 (Or.inr (slot_ne (Or.inl (hw _ (List.mem_of_getElem? (i := 12) rfl))) (Or.inl (hw _ (List.mem_of_getElem? (i := 25) rfl))) (by decide) (t := (.array .long)) (t' := .int) (by decide) (by decide)))
  have Fa3_346 := Fa3_336.other W343 (Or.inr (slot_ne (Or.inl (hw _ (List.mem_of_getElem? (i := 14) rfl))) (Or.inl (hw _ (List.mem_of_getElem? (i := 25) rfl))) (by decide) (t := (.array .long)) (t' := .int) (by decide) (by decide)))
  have Fa4_347 := Fa4_337.other W343 (Or.inr (slot_ne (Or.inl (hw _ (List.mem_of_getElem? (i := 16) rfl))) (Or.inl (hw _ (List.mem_of_getElem? (i := 25) rfl))) (by decide) (t := (.array .long)) (t' := .int) (by decide) (by decide)))
  have Fa5_348 := Fa5_338.other W343 (Or.inr (slot_ne (Or.inl (hw _ (List.mem_of_getElem? (i := 18) rfl))) (Or.inl (hw _ (List.mem_of_getElem? (i := 25) rfl))) (by decide) (t := (.array .long)) (t' := .int) (by decide) (by decide)))
  have V_a2_349 := V_a2_339.other W343 (Ne.symm ne1a2_284)
  have V_a3_350 := V_a3_340.other W343 (Ne.symm ne1a3_284)
  have V_a4_351 := V_a4_341.other W343 (Ne.symm ne1a4_284)
  have V_a5_352 := V_a5_332.other W343 (Ne.symm ne1a5_284)
  have zh343 : n0 ≤ h343.size := Nat.le_trans zh332 (Nat.le_of_eq W343.size.symm)
  have K0_343 : Keep h0 h343 [a1, a2, a3, a4, a5] := K0_332.wr W343 (Or.inl (List.mem_of_getElem? (i := 0) rfl))
  have N343 := Fr.snoc X343 N332 lo1_284
  refine own_Go.mono (T' := T343) (f' := (mkF m 166 #[.val (.ref a1), .val (.long q1), .second, .val (.long q2), .second, .val (.long q3), .second, .val (.long q4), .second] [])) (fun t k => ?_) ?_
  · show Steps p.tables e below (s₁.setTop (mkF m 0 #[.val (.ref a1), .val (.long q1), .second, .val (.long q2), .second, .val (.long q3), .second, .val (.long q4), .second] [])) _
    refine XS.aloadN X0.here hx rfl (hb hby d3_0) rfl rfl ?_
    show Steps p.tables e below (s₁.setTop (mkF m 1 #[.val (.ref a1), .val (.long q1), .second, .val (.long q2), .second, .val (.long q3), .second, .val (.long q4), .second] [(.ref a1)])) _
    refine st285 _ ?_
    show Steps p.tables e below (T285.setTop (mkF m 4 #[.val (.ref a1), .val (.long q1), .second, .val (.long q2), .second, .val (.long q3), .second, .val (.long q4), .second] [(.int (0 : Int32))])) _
    refine XS.ifYes X285.here hx rfl (pc0 := 4) (pc' := 27) rfl (hb hby d3_4) rfl ((if0 _ _).trans (teq rfl).1) (by decide) (by decide) ?_
    show Steps p.tables e below (T285.setTop (mkF m 27 #[.val (.ref a1), .val (.long q1), .second, .val (.long q2), .second, .val (.long q3), .second, .val (.long q4), .second] [])) _
    refine XS.aloadN X285.here hx rfl (hb hby d3_27) rfl rfl ?_
    show Steps p.tables e below (T285.setTop (mkF m 28 #[.val (.ref a1), .val (.long q1), .second, .val (.long q2), .second, .val (.long q3), .second, .val (.long q4), .second] [(.ref a1)])) _
    refine st286 _ ?_
    show Steps p.tables e below (T286.setTop (mkF m 31 #[.val (.ref a1), .val (.long q1), .second, .val (.long q2), .second, .val (.long q3), .second, .val (.long q4), .second] [(.int (0 : Int32))])) _
    refine XS.aloadN X286.here hx rfl (hb hby d3_31) rfl rfl ?_
    show Steps p.tables e below (T286.setTop (mkF m 32 #[.val (.ref a1), .val (.long q1), .second, .val (.long q2), .second, .val (.long q3), .second, .val (.long q4), .second] [(.ref a1), (.int (0 : Int32))])) _
    refine st287 _ ?_
    show Steps p.tables e below (T287.setTop (mkF m 35 #[.val (.ref a1), .val (.long q1), .second, .val (.long q2), .second, .val (.long q3), .second, .val (.long q4), .second] [(.ref a2), (.int (0 : Int32))])) _
    refine X287.arraylength hx (by rw [e287]; exact Ar288.1) (State.isArrayOf_alike hZ.alike Ar288.2.1) (g := (mkF m 35 #[.val (.ref a1), .val (.long q1), .second, .val (.long q2), .second, .val (.long q3), .second, .val (.long q4), .second] [(.ref a2), (.int (0 : Int32))])) rfl rfl (hb hby d3_35) _ ?_
    rw [len_of S288 P288]
    show Steps p.tables e below (T287.setTop (mkF m 36 #[.val (.ref a1), .val (.long q1), .second, .val (.long q2), .second, .val (.long q3), .second, .val (.long q4), .second] [(.int (8 : Int32)), (.int (0 : Int32))])) _
    refine XS.icmpYes X287.here hx rfl (pc0 := 36) (pc' := 57) rfl (hb hby d3_36) rfl (feq (by decide)).2 (by decide) (by decide) ?_
    show Steps p.tables e below (T287.setTop (mkF m 57 #[.val (.ref a1), .val (.long q1), .second, .val (.long q2), .second, .val (.long q3), .second, .val (.long q4), .second] [])) _
    refine XS.aloadN X287.here hx rfl (hb hby d3_57) rfl rfl ?_
    show Steps p.tables e below (T287.setTop (mkF m 58 #[.val (.ref a1), .val (.long q1), .second, .val (.long q2), .second, .val (.long q3), .second, .val (.long q4), .second] [(.ref a1)])) _
    refine st290 _ ?_
    show Steps p.tables e below (T290.setTop (mkF m 61 #[.val (.ref a1), .val (.long q1), .second, .val (.long q2), .second, .val (.long q3), .second, .val (.long q4), .second] [(.ref a2)])) _
    refine XS.aloadN X290.here hx rfl (hb hby d3_61) rfl rfl ?_
    show Steps p.tables e below (T290.setTop (mkF m 62 #[.val (.ref a1), .val (.long q1), .second, .val (.long q2), .second, .val (.long q3), .second, .val (.long q4), .second] [(.ref a1), (.ref a2)])) _
    refine st291 _ ?_
    show Steps p.tables e below (T291.setTop (mkF m 65 #[.val (.ref a1), .val (.long q1), .second, .val (.long q2), .second, .val (.long q3), .second, .val (.long q4), .second] [(.int (0 : Int32)), (.ref a2)])) _
    refine XS.lloadN X291.here hx rfl (hb hby d3_65) rfl ?_
    show Steps p.tables e below (T291.setTop (mkF m 66 #[.val (.ref a1), .val (.long q1), .second, .val (.long q2), .second, .val (.long q3), .second, .val (.long q4), .second] [(.long q1), (.int (0 : Int32)), (.ref a2)])) _
    refine st293 _ ?_
    show Steps p.tables e below (T293.setTop (mkF m 67 #[.val (.ref a1), .val (.long q1), .second, .val (.long q2), .second, .val (.long q3), .second, .val (.long q4), .second] [])) _
    refine XS.aloadN X293.here hx rfl (hb hby d3_67) rfl rfl ?_
    show Steps p.tables e below (T293.setTop (mkF m 68 #[.val (.ref a1), .val (.long q1), .second, .val (.long q2), .second, .val (.long q3), .second, .val (.long q4), .second] [(.ref a1)])) _
    refine st303 _ ?_
    show Steps p.tables e below (T303.setTop (mkF m 71 #[.val (.ref a1), .val (.long q1), .second, .val (.long q2), .second, .val (.long q3), .second, .val (.long q4), .second] [(.ref a3)])) _
    refine XS.aloadN X303.here hx rfl (hb hby d3_71) rfl rfl ?_
    show Steps p.tables e below (T303.setTop (mkF m 72 #[.val (.ref a1), .val (.long q1), .second, .val (.long q2), .second, .val (.long q3), .second, .val (.long q4), .second] [(.ref a1), (.ref a3)])) _
    refine st304 _ ?_
    show Steps p.tables e below (T304.setTop (mkF m 75 #[.val (.ref a1), .val (.long q1), .second, .val (.long q2), .second, .val (.long q3), .second, .val (.long q4), .second] [(.int (0 : Int32)), (.ref a3)])) _
    refine XS.lloadN X304.here hx rfl (hb hby d3_75) rfl ?_
    show Steps p.tables e below (T304.setTop (mkF m 76 #[.val (.ref a1), .val (.long q1), .second, .val (.long q2), .second, .val (.long q3), .second, .val (.long q4), .second] [(.long q2), (.int (0 : Int32)), (.ref a3)])) _
    refine st306 _ ?_
    show Steps p.tables e below (T306.setTop (mkF m 77 #[.val (.ref a1), .val (.long q1), .second, .val (.long q2), .second, .val (.long q3), .second, .val (.long q4), .second] [])) _
    refine XS.aloadN X306.here hx rfl (hb hby d3_77) rfl rfl ?_
    show Steps p.tables e below (T306.setTop (mkF m 78 #[.val (.ref a1), .val (.long q1), .second, .val (.long q2), .second, .val (.long q3), .second, .val (.long q4), .second] [(.ref a1)])) _
    refine st316 _ ?_
    show Steps p.tables e below (T316.setTop (mkF m 81 #[.val (.ref a1), .val (.long q1), .second, .val (.long q2), .second, .val (.long q3), .second, .val (.long q4), .second] [(.ref a4)])) _
    refine XS.aloadN X316.here hx rfl (hb hby d3_81) rfl rfl ?_
    show Steps p.tables e below (T316.setTop (mkF m 82 #[.val (.ref a1), .val (.long q1), .second, .val (.long q2), .second, .val (.long q3), .second, .val (.long q4), .second] [(.ref a1), (.ref a4)])) _
    refine st317 _ ?_
    show Steps p.tables e below (T317.setTop (mkF m 85 #[.val (.ref a1), .val (.long q1), .second, .val (.long q2), .second, .val (.long q3), .second, .val (.long q4), .second] [(.int (0 : Int32)), (.ref a4)])) _
    refine XS.lload X317.here hx rfl (hb hby d3_85) rfl ?_
    show Steps p.tables e below (T317.setTop (mkF m 87 #[.val (.ref a1), .val (.long q1), .second, .val (.long q2), .second, .val (.long q3), .second, .val (.long q4), .second] [(.long q3), (.int (0 : Int32)), (.ref a4)])) _
    refine st319 _ ?_
    show Steps p.tables e below (T319.setTop (mkF m 88 #[.val (.ref a1), .val (.long q1), .second, .val (.long q2), .second, .val (.long q3), .second, .val (.long q4), .second] [])) _
    refine XS.aloadN X319.here hx rfl (hb hby d3_88) rfl rfl ?_
    show Steps p.tables e below (T319.setTop (mkF m 89 #[.val (.ref a1), .val (.long q1), .second, .val (.long q2), .second, .val (.long q3), .second, .val (.long q4), .second] [(.ref a1)])) _
    refine st329 _ ?_
    show Steps p.tables e below (T329.setTop (mkF m 92 #[.val (.ref a1), .val (.long q1), .second, .val (.long q2), .second, .val (.long q3), .second, .val (.long q4), .second] [(.ref a5)])) _
    refine XS.aloadN X329.here hx rfl (hb hby d3_92) rfl rfl ?_
    show Steps p.tables e below (T329.setTop (mkF m 93 #[.val (.ref a1), .val (.long q1), .second, .val (.long q2), .second, .val (.long q3), .second, .val (.long q4), .second] [(.ref a1), (.ref a5)])) _
    refine st330 _ ?_
    show Steps p.tables e below (T330.setTop (mkF m 96 #[.val (.ref a1), .val (.long q1), .second, .val (.long q2), .second, .val (.long q3), .second, .val (.long q4), .second] [(.int (0 : Int32)), (.ref a5)])) _
    refine XS.lload X330.here hx rfl (hb hby d3_96) rfl ?_
    show Steps p.tables e below (T330.setTop (mkF m 98 #[.val (.ref a1), .val (.long q1), .second, .val (.long q2), .second, .val (.long q3), .second, .val (.long q4), .second] [(.long q4), (.int (0 : Int32)), (.ref a5)])) _
    refine st332 _ ?_
    show Steps p.tables e below (T332.setTop (mkF m 99 #[.val (.ref a1), .val (.long q1), .second, .val (.long q2), .second, .val (.long q3), .second, .val (.long q4), .second] [])) _
    refine XS.aloadN X332.here hx rfl (hb hby d3_99) rfl rfl ?_
    show Steps p.tables e below (T332.setTop (mkF m 100 #[.val (.ref a1), .val (.long q1), .second, .val (.long q2), .second, .val (.long q3), .second, .val (.long q4), .second] [(.ref a1)])) _
    refine XS.dup X332.here hx rfl (hb hby d3_100) rfl rfl ?_
    show Steps p.tables e below (T332.setTop (mkF m 101 #[.val (.ref a1), .val (.long q1), .second, .val (.long q2), .second, .val (.long q3), .second, .val (.long q4), .second] [(.ref a1), (.ref a1)])) _
    refine st342 _ ?_
    show Steps p.tables e below (T342.setTop (mkF m 104 #[.val (.ref a1), .val (.long q1), .second, .val (.long q2), .second, .val (.long q3), .second, .val (.long q4), .second] [(.int (0 : Int32)), (.ref a1)])) _
    refine XS.iconst X342.here hx rfl (hb hby d3_104) ?_
    show Steps p.tables e below (T342.setTop (mkF m 105 #[.val (.ref a1), .val (.long q1), .second, .val (.long q2), .second, .val (.long q3), .second, .val (.long q4), .second] [(.int (1 : Int32)), (.int (0 : Int32)), (.ref a1)])) _
    refine XS.iadd X342.here hx rfl (hb hby d3_105) rfl ?_
    show Steps p.tables e below (T342.setTop (mkF m 106 #[.val (.ref a1), .val (.long q1), .second, .val (.long q2), .second, .val (.long q3), .second, .val (.long q4), .second] [(.int (1 : Int32)), (.ref a1)])) _
    refine st343 _ ?_
    show Steps p.tables e below (T343.setTop (mkF m 109 #[.val (.ref a1), .val (.long q1), .second, .val (.long q2), .second, .val (.long q3), .second, .val (.long q4), .second] [])) _
    refine XS.goto X343.here hx rfl (pc0 := 109) (pc' := 166) rfl (hb hby d3_109) (by decide) (by decide) ?_
    show Steps p.tables e below (T343.setTop (mkF m 166 #[.val (.ref a1), .val (.long q1), .second, .val (.long q2), .second, .val (.long q3), .second, .val (.long q4), .second] [])) _
    exact k
  exact own_retV X343 hx hret hlk (hb hby d3_166) ((by rw [e343]; exact ⟨rfl, N343, K0_343, ⟨E1_344, F_count_a1_343, Fa2_345, Fa3_346, Fa4_347, Fa5_348, V_a2_349, V_a3_350, V_a4_351, V_a5_352, da2a3_284, da2a4_284, da2a5_284, da3a4_284, da3a5_284, da4a5_284, lo1_284, loa2_284, loa3_284, loa4_284, loa5_284⟩⟩)) (by decide) (by decide)
theorem ef_rmaB8 (m : MethodId) (x0 : Addr) (x1 : Int64) (x2 : Int64) (x3 : Int64) (x4 : Int64) : entryFrame m #[(.ref x0), (.long x1), (.long x2), (.long x3), (.long x4)] 9 = mkF m 0 #[.val (.ref x0), .val (.long x1), .second, .val (.long x2), .second, .val (.long x3), .second, .val (.long x4), .second] [] := by first | (simp [entryFrame, mkF, argsToLocals, Value.category]; done) | rfl
def QaB8 (Z : State) (a1 : Addr) (q1 : Int64) (q2 : Int64) (q3 : Int64) (q4 : Int64) (a2 : Addr) (a3 : Addr) (a4 : Addr) (a5 : Addr) (k2 : ClassId) (k3 : ClassId) (k4 : ClassId) (k5 : ClassId) (y2 : Int64) (y3 : Int64) (y4 : Int64) (y5 : Int64) (h0 : Heap) (n0 : Nat) (v : Option Value) (h : Heap) (L : List Loc) : Prop := v = none ∧ Fr n0 L ∧ Keep h0 h [a1, a2, a3, a4, a5] ∧ own_Seg Z n0 h a1 (1 : Int32) (8 : Int32) a2 a3 a4 a5 k2 k3 k4 k5 [(.long y2), (.long (0 : Int64)), (.long (0 : Int64)), (.long (0 : Int64)), (.long (0 : Int64)), (.long (0 : Int64)), (.long (0 : Int64)), (.long (0 : Int64))] [(.long y3), (.long (0 : Int64)), (.long (0 : Int64)), (.long (0 : Int64)), (.long (0 : Int64)), (.long (0 : Int64)), (.long (0 : Int64)), (.long (0 : Int64))] [(.long (B9_0 y4 q3)), (.long (0 : Int64)), (.long (0 : Int64)), (.long (0 : Int64)), (.long (0 : Int64)), (.long (0 : Int64)), (.long (0 : Int64)), (.long (0 : Int64))] [(.long (B9_0 y5 q4)), (.long (0 : Int64)), (.long (0 : Int64)), (.long (0 : Int64)), (.long (0 : Int64)), (.long (0 : Int64)), (.long (0 : Int64)), (.long (0 : Int64))]
set_option maxRecDepth 65536 in
set_option maxHeartbeats 40000000 in
theorem rmaB8 (l : Launch) (Z : State) (a0 : Array Value) (hw : ∀ d ∈ tables_1, d.before a0 Z = true) (ws : List Jvm.Cond) (a1 : Addr) (q1 : Int64) (q2 : Int64) (q3 : Int64) (q4 : Int64) (a2 : Addr) (a3 : Addr) (a4 : Addr) (a5 : Addr) (k2 : ClassId) (k3 : ClassId) (k4 : ClassId) (k5 : ClassId) (y2 : Int64) (y3 : Int64) (y4 : Int64) (y5 : Int64) (h0 : Heap) (n0 : Nat) (Z0 : n0 ≤ h0.size) (G : own_Seg Z n0 h0 a1 (1 : Int32) (8 : Int32) a2 a3 a4 a5 k2 k3 k4 k5 [(.long y2), (.long (0 : Int64)), (.long (0 : Int64)), (.long (0 : Int64)), (.long (0 : Int64)), (.long (0 : Int64)), (.long (0 : Int64)), (.long (0 : Int64))] [(.long y3), (.long (0 : Int64)), (.long (0 : Int64)), (.long (0 : Int64)), (.long (0 : Int64)), (.long (0 : Int64)), (.long (0 : Int64)), (.long (0 : Int64))] [(.long y4), (.long (0 : Int64)), (.long (0 : Int64)), (.long (0 : Int64)), (.long (0 : Int64)), (.long (0 : Int64)), (.long (0 : Int64)), (.long (0 : Int64))] [(.long y5), (.long (0 : Int64)), (.long (0 : Int64)), (.long (0 : Int64)), (.long (0 : Int64)), (.long (0 : Int64)), (.long (0 : Int64)), (.long (0 : Int64))]) (hd : (q2 - y3) < 32768) :
    MetFree l (⟨"com/example/uplog/uplog/SegmentIndex", "add", "(JJJJ)V"⟩ : MethodName) (head1 (Jvm.Cond.code (⟨"com/example/uplog/uplog/SegmentIndex", "add", "(JJJJ)V"⟩ : MethodName) prog_12_method_2_code 9 none :: ws) ({ frames := 1, cells := 0, slots := 0, locals := 17 } : Room)) (fun a U => a = #[(.ref a1), (.long q1), (.long q2), (.long q3), (.long q4)] ∧ Z.Warmed39 U.vm ∧ U.heap = h0) (fun _ _ _ _ _ => True) (fun _ U o U' => ∃ v L, o = .returned v ∧ QaB8 Z a1 q1 q2 q3 q4 a2 a3 a4 a5 k2 k3 k4 k5 y2 y3 y4 y5 h0 n0 v U'.heap L ∧ FrameEnd U o U' L 0 0) := by
  refine own_body (Qv := QaB8 Z a1 q1 q2 q3 q4 a2 a3 a4 a5 k2 k3 k4 k5 y2 y3 y4 y5 h0 n0) (plainFor_of_name (by first | (simp [plainName, overriddenIn]; done) | decide +kernel)) ?_
  intro p e s m below meth c s₁ hx hby hml hret hlk hown hnm hZ X0 e0
  replace hown : s.vm.findClass "com/example/uplog/uplog/SegmentIndex" = some m.cls := hown
  replace hnm : meth.name = "add" := hnm
  have N0 := Fr.nil n0
  refine own_Go.mono (T' := s₁) (f' := (mkF m 0 #[.val (.ref a1), .val (.long q1), .second, .val (.long q2), .second, .val (.long q3), .second, .val (.long q4), .second] [])) (fun t k => castTop (ef_rmaB8 m a1 q1 q2 q3 q4) k) ?_
  have K0_0 : Keep h0 h0 [a1, a2, a3, a4, a5] := Keep.refl _ _
  obtain ⟨E1_353, Fc_353, Fa2_353, Fa3_353, Fa4_353, Fa5_353, Va2_353, Va3_353, Va4_353, Va5_353, da2a3_353, da2a4_353, da2a5_353, da3a4_353, da3a5_353, da4a5_353, lo1_353, loa2_353, loa3_353, loa4_353, loa5_353⟩ := G
  have ne1a2_353 : a1 ≠ a2 := Exa.neArv E1_353 Va2_353 (hw _ (List.mem_of_getElem? (i := 2) rfl))
  have ne1a3_353 : a1 ≠ a3 := Exa.neArv E1_353 Va3_353 (hw _ (List.mem_of_getElem? (i := 2) rfl))
  have ne1a4_353 : a1 ≠ a4 := Exa.neArv E1_353 Va4_353 (hw _ (List.mem_of_getElem? (i := 2) rfl))
  have ne1a5_353 : a1 ≠ a5 := Exa.neArv E1_353 Va5_353 (hw _ (List.mem_of_getElem? (i := 2) rfl))
  obtain ⟨T354, X354, e354, st354⟩ := getF X0 hx hZ hown (host := "") (Or.inl (hw _ (List.mem_of_getElem? (i := 24) rfl))) Via.refl e0 Fc_353 (g := (mkF m 1 #[.val (.ref a1), .val (.long q1), .second, .val (.long q2), .second, .val (.long q3), .second, .val (.long q4), .second] [(.ref a1)])) rfl rfl (hb hby d3_1)
  obtain ⟨T355, X355, e355, st355⟩ := getF X354 hx hZ hown (host := "") (Or.inl (hw _ (List.mem_of_getElem? (i := 13) rfl))) Via.refl e354 Fa3_353 (g := (mkF m 9 #[.val (.ref a1), .val (.long q1), .second, .val (.long q2), .second, .val (.long q3), .second, .val (.long q4), .second] [(.ref a1), (.long q2)])) rfl rfl (hb hby d3_9)
  obtain ⟨T356, X356, e356, st356⟩ := getF X355 hx hZ hown (host := "") (Or.inl (hw _ (List.mem_of_getElem? (i := 24) rfl))) Via.refl e355 Fc_353 (g := (mkF m 13 #[.val (.ref a1), .val (.long q1), .second, .val (.long q2), .second, .val (.long q3), .second, .val (.long q4), .second] [(.ref a1), (.ref a3), (.long q2)])) rfl rfl (hb hby d3_13)
  obtain ⟨cl357, Ar357, q357, S357, P357, H357, G357⟩ := Va3_353
  have hin358 : ¬ ((0 : Int32) < 0 ∨ cl357.slots.size ≤ ((0 : Int32)).toNatClampNeg) := inb_of S357 ⟨by decide, by decide⟩
  have hat358 : cl357.slots[((0 : Int32)).toNatClampNeg]? = some (.long y3) := H357.at hin358 rfl
  have V_a3_358 : Arv Z h0 a3 k3 .long (8 : Int32) [(.long y3), (.long (0 : Int64)), (.long (0 : Int64)), (.long (0 : Int64)), (.long (0 : Int64)), (.long (0 : Int64)), (.long (0 : Int64)), (.long (0 : Int64))] (.long (0 : Int64)) := ⟨cl357, Ar357, q357, S357, P357, H357, G357⟩
  obtain ⟨T359, X359, e359, st359⟩ := getF X356 hx hZ hown (host := "") (Or.inl (hw _ (List.mem_of_getElem? (i := 15) rfl))) Via.refl e356 Fa4_353 (g := (mkF m 113 #[.val (.ref a1), .val (.long q1), .second, .val (.long q2), .second, .val (.long q3), .second, .val (.long q4), .second] [(.ref a1)])) rfl rfl (hb hby d3_113)
  obtain ⟨T360, X360, e360, st360⟩ := getF X359 hx hZ hown (host := "") (Or.inl (hw _ (List.mem_of_getElem? (i := 24) rfl))) Via.refl e359 Fc_353 (g := (mkF m 117 #[.val (.ref a1), .val (.long q1), .second, .val (.long q2), .second, .val (.long q3), .second, .val (.long q4), .second] [(.ref a1), (.ref a4)])) rfl rfl (hb hby d3_117)
  obtain ⟨T361, X361, e361, st361⟩ := getF X360 hx hZ hown (host := "") (Or.inl (hw _ (List.mem_of_getElem? (i := 15) rfl))) Via.refl e360 Fa4_353 (g := (mkF m 123 #[.val (.ref a1), .val (.long q1), .second, .val (.long q2), .second, .val (.long q3), .second, .val (.long q4), .second] [(.ref a1), (.int (0 : Int32)), (.ref a4)])) rfl rfl (hb hby d3_123)
  obtain ⟨T362, X362, e362, st362⟩ := getF X361 hx hZ hown (host := "") (Or.inl (hw _ (List.mem_of_getElem? (i := 24) rfl))) Via.refl e361 Fc_353 (g := (mkF m 127 #[.val (.ref a1), .val (.long q1), .second, .val (.long q2), .second, .val (.long q3), .second, .val (.long q4), .second] [(.ref a1), (.ref a4), (.int (0 : Int32)), (.ref a4)])) rfl rfl (hb hby d3_127)
  obtain ⟨cl363, Ar363, q363, S363, P363, H363, G363⟩ := Va4_353
  have hin364 : ¬ ((0 : Int32) < 0 ∨ cl363.slots.size ≤ ((0 : Int32)).toNatClampNeg) := inb_of S363 ⟨by decide, by decide⟩
  have hat364 : cl363.slots[((0 : Int32)).toNatClampNeg]? = some (.long y4) := H363.at hin364 rfl
  have V_a4_364 : Arv Z h0 a4 k4 .long (8 : Int32) [(.long y4), (.long (0 : Int64)), (.long (0 : Int64)), (.long (0 : Int64)), (.long (0 : Int64)), (.long (0 : Int64)), (.long (0 : Int64)), (.long (0 : Int64))] (.long (0 : Int64)) := ⟨cl363, Ar363, q363, S363, P363, H363, G363⟩
  obtain ⟨_, _, ⟨T365, L365, k365, n365⟩, -, X365, ⟨Lc365, hQ365, l365, y365, z365⟩, st365⟩ := Jvm.LawKit.callS X362 hx (y := (⟨"java/lang/Math", "max", "(JJ)J"⟩ : MethodName)) hown (mvT hZ (hw _ (List.mem_of_getElem? (i := 53) rfl))) (mvT hZ (hw _ (List.mem_of_getElem? (i := 54) rfl))) (mvT hZ (hw _ (List.mem_of_getElem? (i := 55) rfl))) (mvT hZ (hw _ (List.mem_of_getElem? (i := 56) rfl))) (by decide) (backOf (W := 2) (rm9 l Z a0 hw [] y4 q3 h0 n0 Z0) hZ (hw _ (List.mem_of_getElem? (i := 56) rfl)) (hw _ (List.mem_of_getElem? (i := 55) rfl)) (by decide) (by decide)) (g := (mkF m 135 #[.val (.ref a1), .val (.long q1), .second, .val (.long q2), .second, .val (.long q3), .second, .val (.long q4), .second] [(.long q3), (.long y4), (.int (0 : Int32)), (.ref a4)])) rfl (by rw [hml]; rfl) (argsL := [(.long y4), (.long q3)]) (rest := [(.int (0 : Int32)), (.ref a4)]) (lenOf pd_3 rfl) rfl (by show 2 * 0 + _ ≤ _; exact Nat.le_of_eq rfl) (hb hby d3_135) (fun _ _ => ⟨rfl, e362, (by decide : 0 + 0 ≤ _), (by decide : 0 + 0 ≤ _)⟩)
  dsimp only [Pt.U, Pt.locs, Pt.cells, Pt.slots] at X365 l365 y365 z365 st365 hQ365
  subst l365 y365 z365
  obtain ⟨rfl, N365q, hh365⟩ := hQ365
  have N365 := Fr.app N0 N365q
  obtain ⟨cl366, Ar366, q366, S366, P366, H366, G366⟩ := V_a4_364
  have hin367 : ¬ ((0 : Int32) < 0 ∨ cl366.slots.size ≤ ((0 : Int32)).toNatClampNeg) := inb_of S366 ⟨by decide, by decide⟩
  obtain ⟨T367, h367, X367, e367, W367, st367⟩ := stJ X365 hx hZ hh365 Ar366 (j := (0 : Int32)) hin367 (g := (mkF m 138 #[.val (.ref a1), .val (.long q1), .second, .val (.long q2), .second, .val (.long q3), .second, .val (.long q4), .second] [(.long (B9_0 y4 q3)), (.int (0 : Int32)), (.ref a4)])) rfl rfl (hb hby d3_138)
  have V_a4_367 : Arv Z h367 a4 k4 .long (8 : Int32) [(.long (B9_0 y4 q3)), (.long (0 : Int64)), (.long (0 : Int64)), (.long (0 : Int64)), (.long (0 : Int64)), (.long (0 : Int64)), (.long (0 : Int64)), (.long (0 : Int64))] (.long (0 : Int64)) := Arv.set Ar366 q366 S366 P366 H366 G366 rfl W367 0 rfl (Nat.le_of_ble_eq_true rfl)
  have E1_368 := E1_353.wr W367
  have Fc_369 := Fc_353.other W367 (Or.inl ne1a4_353)
  have Fa2_370 := Fa2_353.other W367 (Or.inl ne1a4_353)
  have Fa3_371 := Fa3_353.other W367 (Or.inl ne1a4_353)
  have Fa4_372 := Fa4_353.other W367 (Or.inl ne1a4_353)
  have Fa5_373 := Fa5_353.other W367 (Or.inl ne1a4_353)
  have Va2_374 := Va2_353.other W367 da2a4_353
  have V_a3_375 := V_a3_358.other W367 da3a4_353
  have Va5_376 := Va5_353.other W367 (Ne.symm da4a5_353)
  have zh367 : n0 ≤ h367.size := Nat.le_trans Z0 (Nat.le_of_eq W367.size.symm)
  have K0_367 : Keep h0 h367 [a1, a2, a3, a4, a5] := K0_0.wr W367 (Or.inl (List.mem_of_getElem? (i := 3) rfl))
  have N367 := Fr.snoc X367 N365 loa4_353
  obtain ⟨T377, X377, e377, st377⟩ := getF X367 hx hZ hown (host := "") (Or.inl (hw _ (List.mem_of_getElem? (i := 17) rfl))) Via.refl e367 Fa5_373 (g := (mkF m 140 #[.val (.ref a1), .val (.long q1), .second, .val (.long q2), .second, .val (.long q3), .second, .val (.long q4), .second] [(.ref a1)])) rfl rfl (hb hby d3_140)
  obtain ⟨T378, X378, e378, st378⟩ := getF X377 hx hZ hown (host := "") (Or.inl (hw _ (List.mem_of_getElem? (i := 24) rfl))) Via.refl e377 Fc_369 (g := (mkF m 144 #[.val (.ref a1), .val (.long q1), .second, .val (.long q2), .second, .val (.long q3), .second, .val (.long q4), .second] [(.ref a1), (.ref a5)])) rfl rfl (hb hby d3_144)
  obtain ⟨T379, X379, e379, st379⟩ := getF X378 hx hZ hown (host := "") (Or.inl (hw _ (List.mem_of_getElem? (i := 17) rfl))) Via.refl e378 Fa5_373 (g := (mkF m 150 #[.val (.ref a1), .val (.long q1), .second, .val (.long q2), .second, .val (.long q3), .second, .val (.long q4), .second] [(.ref a1), (.int (0 : Int32)), (.ref a5)])) rfl rfl (hb hby d3_150)
  obtain ⟨T380, X380, e380, st380⟩ := getF X379 hx hZ hown (host := "") (Or.inl (hw _ (List.mem_of_getElem? (i := 24) rfl))) Via.refl e379 Fc_369 (g := (mkF m 154 #[.val (.ref a1), .val (.long q1), .second, .val (.long q2), .second, .val (.long q3), .second, .val (.long q4), .second] [(.ref a1), (.ref a5), (.int (0 : Int32)), (.ref a5)])) rfl rfl (hb hby d3_154)
  obtain ⟨cl381, Ar381, q381, S381, P381, H381, G381⟩ := Va5_376
  have hin382 : ¬ ((0 : Int32) < 0 ∨ cl381.slots.size ≤ ((0 : Int32)).toNatClampNeg) := inb_of S381 ⟨by decide, by decide⟩
  have hat382 : cl381.slots[((0 : Int32)).toNatClampNeg]? = some (.long y5) := H381.at hin382 rfl
  have V_a5_382 : Arv Z h367 a5 k5 .long (8 : Int32) [(.long y5), (.long (0 : Int64)), (.long (0 : Int64)), (.long (0 : Int64)), (.long (0 : Int64)), (.long (0 : Int64)), (.long (0 : Int64)), (.long (0 : Int64))] (.long (0 : Int64)) := ⟨cl381, Ar381, q381, S381, P381, H381, G381⟩
  obtain ⟨_, _, ⟨T383, L383, k383, n383⟩, -, X383, ⟨Lc383, hQ383, l383, y383, z383⟩, st383⟩ := Jvm.LawKit.callS X380 hx (y := (⟨"java/lang/Math", "max", "(JJ)J"⟩ : MethodName)) hown (mvT hZ (hw _ (List.mem_of_getElem? (i := 53) rfl))) (mvT hZ (hw _ (List.mem_of_getElem? (i := 54) rfl))) (mvT hZ (hw _ (List.mem_of_getElem? (i := 55) rfl))) (mvT hZ (hw _ (List.mem_of_getElem? (i := 56) rfl))) (by decide) (backOf (W := 2) (rm9 l Z a0 hw [] y5 q4 h367 n0 zh367) hZ (hw _ (List.mem_of_getElem? (i := 56) rfl)) (hw _ (List.mem_of_getElem? (i := 55) rfl)) (by decide) (by decide)) (g := (mkF m 162 #[.val (.ref a1), .val (.long q1), .second, .val (.long q2), .second, .val (.long q3), .second, .val (.long q4), .second] [(.long q4), (.long y5), (.int (0 : Int32)), (.ref a5)])) rfl (by rw [hml]; rfl) (argsL := [(.long y5), (.long q4)]) (rest := [(.int (0 : Int32)), (.ref a5)]) (lenOf pd_3 rfl) rfl (by show 2 * 0 + _ ≤ _; exact Nat.le_of_eq rfl) (hb hby d3_162) (fun _ _ => ⟨rfl, e380, (by decide : 0 + 0 ≤ _), (by decide : 0 + 0 ≤ _)⟩)
  dsimp only [Pt.U, Pt.locs, Pt.cells, Pt.slots] at X383 l383 y383 z383 st383 hQ383
  subst l383 y383 z383
  obtain ⟨rfl, N383q, hh383⟩ := hQ383
  have N383 := Fr.app N367 N383q
  obtain ⟨cl384, Ar384, q384, S384, P384, H384, G384⟩ := V_a5_382
  have hin385 : ¬ ((0 : Int32) < 0 ∨ cl384.slots.size ≤ ((0 : Int32)).toNatClampNeg) := inb_of S384 ⟨by decide, by decide⟩
  obtain ⟨T385, h385, X385, e385, W385, st385⟩ := stJ X383 hx hZ hh383 Ar384 (j := (0 : Int32)) hin385 (g := (mkF m 165 #[.val (.ref a1), .val (.long q1), .second, .val (.long q2), .second, .val (.long q3), .second, .val (.long q4), .second] [(.long (B9_0 y5 q4)), (.int (0 : Int32)), (.ref a5)])) rfl rfl (hb hby d3_165)
  have V_a5_385 : Arv Z h385 a5 k5 .long (8 : Int32) [(.long (B9_0 y5 q4)), (.long (0 : Int64)), (.long (0 : Int64)), (.long (0 : Int64)), (.long (0 : Int64)), (.long (0 : Int64)), (.long (0 : Int64)), (.long (0 : Int64))] (.long (0 : Int64)) := Arv.set Ar384 q384 S384 P384 H384 G384 rfl W385 0 rfl (Nat.le_of_ble_eq_true rfl)
  have E1_386 := E1_368.wr W385
  have Fc_387 := Fc_369.other W385 (Or.inl ne1a5_353)
  have Fa2_388 := Fa2_370.other W385 (Or.inl ne1a5_353)
  have Fa3_389 := Fa3_371.other W385 (Or.inl ne1a5_353)
  have Fa4_390 := Fa4_372.other W385 (Or.inl ne1a5_353)
  have Fa5_391 := Fa5_373.other W385 (Or.inl ne1a5_353)
  have Va2_392 := Va2_374.other W385 da2a5_353
  have V_a3_393 := V_a3_375.other W385 da3a5_353
  have V_a4_394 := V_a4_367.other W385 da4a5_353
  have zh385 : n0 ≤ h385.size := Nat.le_trans zh367 (Nat.le_of_eq W385.size.symm)
  have K0_385 : Keep h0 h385 [a1, a2, a3, a4, a5] := K0_367.wr W385 (Or.inl (List.mem_of_getElem? (i := 4) rfl))
  have N385 := Fr.snoc X385 N383 loa5_353
  refine own_Go.mono (T' := T385) (f' := (mkF m 166 #[.val (.ref a1), .val (.long q1), .second, .val (.long q2), .second, .val (.long q3), .second, .val (.long q4), .second] [])) (fun t k => ?_) ?_
  · show Steps p.tables e below (s₁.setTop (mkF m 0 #[.val (.ref a1), .val (.long q1), .second, .val (.long q2), .second, .val (.long q3), .second, .val (.long q4), .second] [])) _
    refine XS.aloadN X0.here hx rfl (hb hby d3_0) rfl rfl ?_
    show Steps p.tables e below (s₁.setTop (mkF m 1 #[.val (.ref a1), .val (.long q1), .second, .val (.long q2), .second, .val (.long q3), .second, .val (.long q4), .second] [(.ref a1)])) _
    refine st354 _ ?_
    show Steps p.tables e below (T354.setTop (mkF m 4 #[.val (.ref a1), .val (.long q1), .second, .val (.long q2), .second, .val (.long q3), .second, .val (.long q4), .second] [(.int (1 : Int32))])) _
    refine XS.ifNo X354.here hx rfl (hb hby d3_4) rfl ((if0 _ _).trans (feq (by decide)).1) ?_
    show Steps p.tables e below (T354.setTop (mkF m 7 #[.val (.ref a1), .val (.long q1), .second, .val (.long q2), .second, .val (.long q3), .second, .val (.long q4), .second] [])) _
    refine XS.lloadN X354.here hx rfl (hb hby d3_7) rfl ?_
    show Steps p.tables e below (T354.setTop (mkF m 8 #[.val (.ref a1), .val (.long q1), .second, .val (.long q2), .second, .val (.long q3), .second, .val (.long q4), .second] [(.long q2)])) _
    refine XS.aloadN X354.here hx rfl (hb hby d3_8) rfl rfl ?_
    show Steps p.tables e below (T354.setTop (mkF m 9 #[.val (.ref a1), .val (.long q1), .second, .val (.long q2), .second, .val (.long q3), .second, .val (.long q4), .second] [(.ref a1), (.long q2)])) _
    refine st355 _ ?_
    show Steps p.tables e below (T355.setTop (mkF m 12 #[.val (.ref a1), .val (.long q1), .second, .val (.long q2), .second, .val (.long q3), .second, .val (.long q4), .second] [(.ref a3), (.long q2)])) _
    refine XS.aloadN X355.here hx rfl (hb hby d3_12) rfl rfl ?_
    show Steps p.tables e below (T355.setTop (mkF m 13 #[.val (.ref a1), .val (.long q1), .second, .val (.long q2), .second, .val (.long q3), .second, .val (.long q4), .second] [(.ref a1), (.ref a3), (.long q2)])) _
    refine st356 _ ?_
    show Steps p.tables e below (T356.setTop (mkF m 16 #[.val (.ref a1), .val (.long q1), .second, .val (.long q2), .second, .val (.long q3), .second, .val (.long q4), .second] [(.int (1 : Int32)), (.ref a3), (.long q2)])) _
    refine XS.iconst X356.here hx rfl (hb hby d3_16) ?_
    show Steps p.tables e below (T356.setTop (mkF m 17 #[.val (.ref a1), .val (.long q1), .second, .val (.long q2), .second, .val (.long q3), .second, .val (.long q4), .second] [(.int (1 : Int32)), (.int (1 : Int32)), (.ref a3), (.long q2)])) _
    refine XS.isub X356.here hx rfl (hb hby d3_17) rfl ?_
    show Steps p.tables e below (T356.setTop (mkF m 18 #[.val (.ref a1), .val (.long q1), .second, .val (.long q2), .second, .val (.long q3), .second, .val (.long q4), .second] [(.int (0 : Int32)), (.ref a3), (.long q2)])) _
    refine X356.laload hx (j := (0 : Int32)) (v := (.long y3)) (by rw [e356]; exact Ar357.1) (State.isArrayOf_alike hZ.alike Ar357.2.1) Ar357.2.2 hin358 hat358 (g := (mkF m 18 #[.val (.ref a1), .val (.long q1), .second, .val (.long q2), .second, .val (.long q3), .second, .val (.long q4), .second] [(.int (0 : Int32)), (.ref a3), (.long q2)])) rfl rfl (hb hby d3_18) _ ?_
    show Steps p.tables e below (T356.setTop (mkF m 19 #[.val (.ref a1), .val (.long q1), .second, .val (.long q2), .second, .val (.long q3), .second, .val (.long q4), .second] [(.long y3), (.long q2)])) _
    refine XS.lsub X356.here hx rfl (hb hby d3_19) rfl ?_
    show Steps p.tables e below (T356.setTop (mkF m 20 #[.val (.ref a1), .val (.long q1), .second, .val (.long q2), .second, .val (.long q3), .second, .val (.long q4), .second] [(.long (q2 - y3))])) _
    refine X356.ldc2Long hx hown (mvT hZ (hw _ (List.mem_of_getElem? (i := 26) rfl))) (g := (mkF m 20 #[.val (.ref a1), .val (.long q1), .second, .val (.long q2), .second, .val (.long q3), .second, .val (.long q4), .second] [(.long (q2 - y3))])) rfl (hb hby d3_20) _ ?_
    show Steps p.tables e below (T356.setTop (mkF m 23 #[.val (.ref a1), .val (.long q1), .second, .val (.long q2), .second, .val (.long q3), .second, .val (.long q4), .second] [(.long (32768 : Int64)), (.long (q2 - y3))])) _
    refine XS.lcmp X356.here hx rfl (hb hby d3_23) rfl ?_
    show Steps p.tables e below (T356.setTop (mkF m 24 #[.val (.ref a1), .val (.long q1), .second, .val (.long q2), .second, .val (.long q3), .second, .val (.long q4), .second] [(.int (lcmpW (q2 - y3) (32768 : Int64)))])) _
    refine XS.ifYes X356.here hx rfl (pc0 := 24) (pc' := 112) rfl (hb hby d3_24) rfl ((if0 _ _).trans (tlt (own_lt.mpr hd)).1) (by decide) (by decide) ?_
    show Steps p.tables e below (T356.setTop (mkF m 112 #[.val (.ref a1), .val (.long q1), .second, .val (.long q2), .second, .val (.long q3), .second, .val (.long q4), .second] [])) _
    refine XS.aloadN X356.here hx rfl (hb hby d3_112) rfl rfl ?_
    show Steps p.tables e below (T356.setTop (mkF m 113 #[.val (.ref a1), .val (.long q1), .second, .val (.long q2), .second, .val (.long q3), .second, .val (.long q4), .second] [(.ref a1)])) _
    refine st359 _ ?_
    show Steps p.tables e below (T359.setTop (mkF m 116 #[.val (.ref a1), .val (.long q1), .second, .val (.long q2), .second, .val (.long q3), .second, .val (.long q4), .second] [(.ref a4)])) _
    refine XS.aloadN X359.here hx rfl (hb hby d3_116) rfl rfl ?_
    show Steps p.tables e below (T359.setTop (mkF m 117 #[.val (.ref a1), .val (.long q1), .second, .val (.long q2), .second, .val (.long q3), .second, .val (.long q4), .second] [(.ref a1), (.ref a4)])) _
    refine st360 _ ?_
    show Steps p.tables e below (T360.setTop (mkF m 120 #[.val (.ref a1), .val (.long q1), .second, .val (.long q2), .second, .val (.long q3), .second, .val (.long q4), .second] [(.int (1 : Int32)), (.ref a4)])) _
    refine XS.iconst X360.here hx rfl (hb hby d3_120) ?_
    show Steps p.tables e below (T360.setTop (mkF m 121 #[.val (.ref a1), .val (.long q1), .second, .val (.long q2), .second, .val (.long q3), .second, .val (.long q4), .second] [(.int (1 : Int32)), (.int (1 : Int32)), (.ref a4)])) _
    refine XS.isub X360.here hx rfl (hb hby d3_121) rfl ?_
    show Steps p.tables e below (T360.setTop (mkF m 122 #[.val (.ref a1), .val (.long q1), .second, .val (.long q2), .second, .val (.long q3), .second, .val (.long q4), .second] [(.int (0 : Int32)), (.ref a4)])) _
    refine XS.aloadN X360.here hx rfl (hb hby d3_122) rfl rfl ?_
    show Steps p.tables e below (T360.setTop (mkF m 123 #[.val (.ref a1), .val (.long q1), .second, .val (.long q2), .second, .val (.long q3), .second, .val (.long q4), .second] [(.ref a1), (.int (0 : Int32)), (.ref a4)])) _
    refine st361 _ ?_
    show Steps p.tables e below (T361.setTop (mkF m 126 #[.val (.ref a1), .val (.long q1), .second, .val (.long q2), .second, .val (.long q3), .second, .val (.long q4), .second] [(.ref a4), (.int (0 : Int32)), (.ref a4)])) _
    refine XS.aloadN X361.here hx rfl (hb hby d3_126) rfl rfl ?_
    show Steps p.tables e below (T361.setTop (mkF m 127 #[.val (.ref a1), .val (.long q1), .second, .val (.long q2), .second, .val (.long q3), .second, .val (.long q4), .second] [(.ref a1), (.ref a4), (.int (0 : Int32)), (.ref a4)])) _
    refine st362 _ ?_
    show Steps p.tables e below (T362.setTop (mkF m 130 #[.val (.ref a1), .val (.long q1), .second, .val (.long q2), .second, .val (.long q3), .second, .val (.long q4), .second] [(.int (1 : Int32)), (.ref a4), (.int (0 : Int32)), (.ref a4)])) _
    refine XS.iconst X362.here hx rfl (hb hby d3_130) ?_
    show Steps p.tables e below (T362.setTop (mkF m 131 #[.val (.ref a1), .val (.long q1), .second, .val (.long q2), .second, .val (.long q3), .second, .val (.long q4), .second] [(.int (1 : Int32)), (.int (1 : Int32)), (.ref a4), (.int (0 : Int32)), (.ref a4)])) _
    refine XS.isub X362.here hx rfl (hb hby d3_131) rfl ?_
    show Steps p.tables e below (T362.setTop (mkF m 132 #[.val (.ref a1), .val (.long q1), .second, .val (.long q2), .second, .val (.long q3), .second, .val (.long q4), .second] [(.int (0 : Int32)), (.ref a4), (.int (0 : Int32)), (.ref a4)])) _
    refine X362.laload hx (j := (0 : Int32)) (v := (.long y4)) (by rw [e362]; exact Ar363.1) (State.isArrayOf_alike hZ.alike Ar363.2.1) Ar363.2.2 hin364 hat364 (g := (mkF m 132 #[.val (.ref a1), .val (.long q1), .second, .val (.long q2), .second, .val (.long q3), .second, .val (.long q4), .second] [(.int (0 : Int32)), (.ref a4), (.int (0 : Int32)), (.ref a4)])) rfl rfl (hb hby d3_132) _ ?_
    show Steps p.tables e below (T362.setTop (mkF m 133 #[.val (.ref a1), .val (.long q1), .second, .val (.long q2), .second, .val (.long q3), .second, .val (.long q4), .second] [(.long y4), (.int (0 : Int32)), (.ref a4)])) _
    refine XS.lload X362.here hx rfl (hb hby d3_133) rfl ?_
    show Steps p.tables e below (T362.setTop (mkF m 135 #[.val (.ref a1), .val (.long q1), .second, .val (.long q2), .second, .val (.long q3), .second, .val (.long q4), .second] [(.long q3), (.long y4), (.int (0 : Int32)), (.ref a4)])) _
    refine st365 _ ?_
    show Steps p.tables e below (T365.setTop (mkF m 138 #[.val (.ref a1), .val (.long q1), .second, .val (.long q2), .second, .val (.long q3), .second, .val (.long q4), .second] [(.long (B9_0 y4 q3)), (.int (0 : Int32)), (.ref a4)])) _
    refine st367 _ ?_
    show Steps p.tables e below (T367.setTop (mkF m 139 #[.val (.ref a1), .val (.long q1), .second, .val (.long q2), .second, .val (.long q3), .second, .val (.long q4), .second] [])) _
    refine XS.aloadN X367.here hx rfl (hb hby d3_139) rfl rfl ?_
    show Steps p.tables e below (T367.setTop (mkF m 140 #[.val (.ref a1), .val (.long q1), .second, .val (.long q2), .second, .val (.long q3), .second, .val (.long q4), .second] [(.ref a1)])) _
    refine st377 _ ?_
    show Steps p.tables e below (T377.setTop (mkF m 143 #[.val (.ref a1), .val (.long q1), .second, .val (.long q2), .second, .val (.long q3), .second, .val (.long q4), .second] [(.ref a5)])) _
    refine XS.aloadN X377.here hx rfl (hb hby d3_143) rfl rfl ?_
    show Steps p.tables e below (T377.setTop (mkF m 144 #[.val (.ref a1), .val (.long q1), .second, .val (.long q2), .second, .val (.long q3), .second, .val (.long q4), .second] [(.ref a1), (.ref a5)])) _
    refine st378 _ ?_
    show Steps p.tables e below (T378.setTop (mkF m 147 #[.val (.ref a1), .val (.long q1), .second, .val (.long q2), .second, .val (.long q3), .second, .val (.long q4), .second] [(.int (1 : Int32)), (.ref a5)])) _
    refine XS.iconst X378.here hx rfl (hb hby d3_147) ?_
    show Steps p.tables e below (T378.setTop (mkF m 148 #[.val (.ref a1), .val (.long q1), .second, .val (.long q2), .second, .val (.long q3), .second, .val (.long q4), .second] [(.int (1 : Int32)), (.int (1 : Int32)), (.ref a5)])) _
    refine XS.isub X378.here hx rfl (hb hby d3_148) rfl ?_
    show Steps p.tables e below (T378.setTop (mkF m 149 #[.val (.ref a1), .val (.long q1), .second, .val (.long q2), .second, .val (.long q3), .second, .val (.long q4), .second] [(.int (0 : Int32)), (.ref a5)])) _
    refine XS.aloadN X378.here hx rfl (hb hby d3_149) rfl rfl ?_
    show Steps p.tables e below (T378.setTop (mkF m 150 #[.val (.ref a1), .val (.long q1), .second, .val (.long q2), .second, .val (.long q3), .second, .val (.long q4), .second] [(.ref a1), (.int (0 : Int32)), (.ref a5)])) _
    refine st379 _ ?_
    show Steps p.tables e below (T379.setTop (mkF m 153 #[.val (.ref a1), .val (.long q1), .second, .val (.long q2), .second, .val (.long q3), .second, .val (.long q4), .second] [(.ref a5), (.int (0 : Int32)), (.ref a5)])) _
    refine XS.aloadN X379.here hx rfl (hb hby d3_153) rfl rfl ?_
    show Steps p.tables e below (T379.setTop (mkF m 154 #[.val (.ref a1), .val (.long q1), .second, .val (.long q2), .second, .val (.long q3), .second, .val (.long q4), .second] [(.ref a1), (.ref a5), (.int (0 : Int32)), (.ref a5)])) _
    refine st380 _ ?_
    show Steps p.tables e below (T380.setTop (mkF m 157 #[.val (.ref a1), .val (.long q1), .second, .val (.long q2), .second, .val (.long q3), .second, .val (.long q4), .second] [(.int (1 : Int32)), (.ref a5), (.int (0 : Int32)), (.ref a5)])) _
    refine XS.iconst X380.here hx rfl (hb hby d3_157) ?_
    show Steps p.tables e below (T380.setTop (mkF m 158 #[.val (.ref a1), .val (.long q1), .second, .val (.long q2), .second, .val (.long q3), .second, .val (.long q4), .second] [(.int (1 : Int32)), (.int (1 : Int32)), (.ref a5), (.int (0 : Int32)), (.ref a5)])) _
    refine XS.isub X380.here hx rfl (hb hby d3_158) rfl ?_
    show Steps p.tables e below (T380.setTop (mkF m 159 #[.val (.ref a1), .val (.long q1), .second, .val (.long q2), .second, .val (.long q3), .second, .val (.long q4), .second] [(.int (0 : Int32)), (.ref a5), (.int (0 : Int32)), (.ref a5)])) _
    refine X380.laload hx (j := (0 : Int32)) (v := (.long y5)) (by rw [e380]; exact Ar381.1) (State.isArrayOf_alike hZ.alike Ar381.2.1) Ar381.2.2 hin382 hat382 (g := (mkF m 159 #[.val (.ref a1), .val (.long q1), .second, .val (.long q2), .second, .val (.long q3), .second, .val (.long q4), .second] [(.int (0 : Int32)), (.ref a5), (.int (0 : Int32)), (.ref a5)])) rfl rfl (hb hby d3_159) _ ?_
    show Steps p.tables e below (T380.setTop (mkF m 160 #[.val (.ref a1), .val (.long q1), .second, .val (.long q2), .second, .val (.long q3), .second, .val (.long q4), .second] [(.long y5), (.int (0 : Int32)), (.ref a5)])) _
    refine XS.lload X380.here hx rfl (hb hby d3_160) rfl ?_
    show Steps p.tables e below (T380.setTop (mkF m 162 #[.val (.ref a1), .val (.long q1), .second, .val (.long q2), .second, .val (.long q3), .second, .val (.long q4), .second] [(.long q4), (.long y5), (.int (0 : Int32)), (.ref a5)])) _
    refine st383 _ ?_
    show Steps p.tables e below (T383.setTop (mkF m 165 #[.val (.ref a1), .val (.long q1), .second, .val (.long q2), .second, .val (.long q3), .second, .val (.long q4), .second] [(.long (B9_0 y5 q4)), (.int (0 : Int32)), (.ref a5)])) _
    refine st385 _ ?_
    show Steps p.tables e below (T385.setTop (mkF m 166 #[.val (.ref a1), .val (.long q1), .second, .val (.long q2), .second, .val (.long q3), .second, .val (.long q4), .second] [])) _
    exact k
  exact own_retV X385 hx hret hlk (hb hby d3_166) ((by rw [e385]; exact ⟨rfl, N385, K0_385, ⟨E1_386, Fc_387, Fa2_388, Fa3_389, Fa4_390, Fa5_391, Va2_392, V_a3_393, V_a4_394, V_a5_385, da2a3_353, da2a4_353, da2a5_353, da3a4_353, da3a5_353, da4a5_353, lo1_353, loa2_353, loa3_353, loa4_353, loa5_353⟩⟩)) (by decide) (by decide)
theorem ef_rmaB1 (m : MethodId) (x0 : Addr) (x1 : Int64) (x2 : Int64) (x3 : Int64) (x4 : Int64) : entryFrame m #[(.ref x0), (.long x1), (.long x2), (.long x3), (.long x4)] 9 = mkF m 0 #[.val (.ref x0), .val (.long x1), .second, .val (.long x2), .second, .val (.long x3), .second, .val (.long x4), .second] [] := by first | (simp [entryFrame, mkF, argsToLocals, Value.category]; done) | rfl
def QaB1 (Z : State) (a1 : Addr) (q1 : Int64) (q2 : Int64) (q3 : Int64) (q4 : Int64) (a2 : Addr) (a3 : Addr) (a4 : Addr) (a5 : Addr) (k2 : ClassId) (k3 : ClassId) (k4 : ClassId) (k5 : ClassId) (y2 : Int64) (y3 : Int64) (y4 : Int64) (y5 : Int64) (h0 : Heap) (n0 : Nat) (v : Option Value) (h : Heap) (L : List Loc) : Prop := v = none ∧ Fr n0 L ∧ Keep h0 h [a1, a2, a3, a4, a5] ∧ own_Seg Z n0 h a1 (1 : Int32) (1 : Int32) a2 a3 a4 a5 k2 k3 k4 k5 [(.long y2)] [(.long y3)] [(.long (B9_0 y4 q3))] [(.long (B9_0 y5 q4))]
set_option maxRecDepth 65536 in
set_option maxHeartbeats 40000000 in
theorem rmaB1 (l : Launch) (Z : State) (a0 : Array Value) (hw : ∀ d ∈ tables_1, d.before a0 Z = true) (ws : List Jvm.Cond) (a1 : Addr) (q1 : Int64) (q2 : Int64) (q3 : Int64) (q4 : Int64) (a2 : Addr) (a3 : Addr) (a4 : Addr) (a5 : Addr) (k2 : ClassId) (k3 : ClassId) (k4 : ClassId) (k5 : ClassId) (y2 : Int64) (y3 : Int64) (y4 : Int64) (y5 : Int64) (h0 : Heap) (n0 : Nat) (Z0 : n0 ≤ h0.size) (G : own_Seg Z n0 h0 a1 (1 : Int32) (1 : Int32) a2 a3 a4 a5 k2 k3 k4 k5 [(.long y2)] [(.long y3)] [(.long y4)] [(.long y5)]) (hd : (q2 - y3) < 32768) :
    MetFree l (⟨"com/example/uplog/uplog/SegmentIndex", "add", "(JJJJ)V"⟩ : MethodName) (head1 (Jvm.Cond.code (⟨"com/example/uplog/uplog/SegmentIndex", "add", "(JJJJ)V"⟩ : MethodName) prog_12_method_2_code 9 none :: ws) ({ frames := 1, cells := 0, slots := 0, locals := 17 } : Room)) (fun a U => a = #[(.ref a1), (.long q1), (.long q2), (.long q3), (.long q4)] ∧ Z.Warmed39 U.vm ∧ U.heap = h0) (fun _ _ _ _ _ => True) (fun _ U o U' => ∃ v L, o = .returned v ∧ QaB1 Z a1 q1 q2 q3 q4 a2 a3 a4 a5 k2 k3 k4 k5 y2 y3 y4 y5 h0 n0 v U'.heap L ∧ FrameEnd U o U' L 0 0) := by
  refine own_body (Qv := QaB1 Z a1 q1 q2 q3 q4 a2 a3 a4 a5 k2 k3 k4 k5 y2 y3 y4 y5 h0 n0) (plainFor_of_name (by first | (simp [plainName, overriddenIn]; done) | decide +kernel)) ?_
  intro p e s m below meth c s₁ hx hby hml hret hlk hown hnm hZ X0 e0
  replace hown : s.vm.findClass "com/example/uplog/uplog/SegmentIndex" = some m.cls := hown
  replace hnm : meth.name = "add" := hnm
  have N0 := Fr.nil n0
  refine own_Go.mono (T' := s₁) (f' := (mkF m 0 #[.val (.ref a1), .val (.long q1), .second, .val (.long q2), .second, .val (.long q3), .second, .val (.long q4), .second] [])) (fun t k => castTop (ef_rmaB1 m a1 q1 q2 q3 q4) k) ?_
  have K0_0 : Keep h0 h0 [a1, a2, a3, a4, a5] := Keep.refl _ _
  obtain ⟨E1_395, Fc_395, Fa2_395, Fa3_395, Fa4_395, Fa5_395, Va2_395, Va3_395, Va4_395, Va5_395, da2a3_395, da2a4_395, da2a5_395, da3a4_395, da3a5_395, da4a5_395, lo1_395, loa2_395, loa3_395, loa4_395, loa5_395⟩ := G
  have ne1a2_395 : a1 ≠ a2 := Exa.neArv E1_395 Va2_395 (hw _ (List.mem_of_getElem? (i := 2) rfl))
  have ne1a3_395 : a1 ≠ a3 := Exa.neArv E1_395 Va3_395 (hw _ (List.mem_of_getElem? (i := 2) rfl))
  have ne1a4_395 : a1 ≠ a4 := Exa.neArv E1_395 Va4_395 (hw _ (List.mem_of_getElem? (i := 2) rfl))
  have ne1a5_395 : a1 ≠ a5 := Exa.neArv E1_395 Va5_395 (hw _ (List.mem_of_getElem? (i := 2) rfl))
  obtain ⟨T396, X396, e396, st396⟩ := getF X0 hx hZ hown (host := "") (Or.inl (hw _ (List.mem_of_getElem? (i := 24) rfl))) Via.refl e0 Fc_395 (g := (mkF m 1 #[.val (.ref a1), .val (.long q1), .second, .val (.long q2), .second, .val (.long q3), .second, .val (.long q4), .second] [(.ref a1)])) rfl rfl (hb hby d3_1)
  obtain ⟨T397, X397, e397, st397⟩ := getF X396 hx hZ hown (host := "") (Or.inl (hw _ (List.mem_of_getElem? (i := 13) rfl))) Via.refl e396 Fa3_395 (g := (mkF m 9 #[.val (.ref a1), .val (.long q1), .second, .val (.long q2), .second, .val (.long q3), .second, .val (.long q4), .second] [(.ref a1), (.long q2)])) rfl rfl (hb hby d3_9)
  obtain ⟨T398, X398, e398, st398⟩ := getF X397 hx hZ hown (host := "") (Or.inl (hw _ (List.mem_of_getElem? (i := 24) rfl))) Via.refl e397 Fc_395 (g := (mkF m 13 #[.val (.ref a1), .val (.long q1), .second, .val (.long q2), .second, .val (.long q3), .second, .val (.long q4), .second] [(.ref a1), (.ref a3), (.long q2)])) rfl rfl (hb hby d3_13)
  obtain ⟨cl399, Ar399, q399, S399, P399, H399, G399⟩ := Va3_395
  have hin400 : ¬ ((0 : Int32) < 0 ∨ cl399.slots.size ≤ ((0 : Int32)).toNatClampNeg) := inb_of S399 ⟨by decide, by decide⟩
  have hat400 : cl399.slots[((0 : Int32)).toNatClampNeg]? = some (.long y3) := H399.at hin400 rfl
  have V_a3_400 : Arv Z h0 a3 k3 .long (1 : Int32) [(.long y3)] (.long (0 : Int64)) := ⟨cl399, Ar399, q399, S399, P399, H399, G399⟩
  obtain ⟨T401, X401, e401, st401⟩ := getF X398 hx hZ hown (host := "") (Or.inl (hw _ (List.mem_of_getElem? (i := 15) rfl))) Via.refl e398 Fa4_395 (g := (mkF m 113 #[.val (.ref a1), .val (.long q1), .second, .val (.long q2), .second, .val (.long q3), .second, .val (.long q4), .second] [(.ref a1)])) rfl rfl (hb hby d3_113)
  obtain ⟨T402, X402, e402, st402⟩ := getF X401 hx hZ hown (host := "") (Or.inl (hw _ (List.mem_of_getElem? (i := 24) rfl))) Via.refl e401 Fc_395 (g := (mkF m 117 #[.val (.ref a1), .val (.long q1), .second, .val (.long q2), .second, .val (.long q3), .second, .val (.long q4), .second] [(.ref a1), (.ref a4)])) rfl rfl (hb hby d3_117)
  obtain ⟨T403, X403, e403, st403⟩ := getF X402 hx hZ hown (host := "") (Or.inl (hw _ (List.mem_of_getElem? (i := 15) rfl))) Via.refl e402 Fa4_395 (g := (mkF m 123 #[.val (.ref a1), .val (.long q1), .second, .val (.long q2), .second, .val (.long q3), .second, .val (.long q4), .second] [(.ref a1), (.int (0 : Int32)), (.ref a4)])) rfl rfl (hb hby d3_123)
  obtain ⟨T404, X404, e404, st404⟩ := getF X403 hx hZ hown (host := "") (Or.inl (hw _ (List.mem_of_getElem? (i := 24) rfl))) Via.refl e403 Fc_395 (g := (mkF m 127 #[.val (.ref a1), .val (.long q1), .second, .val (.long q2), .second, .val (.long q3), .second, .val (.long q4), .second] [(.ref a1), (.ref a4), (.int (0 : Int32)), (.ref a4)])) rfl rfl (hb hby d3_127)
  obtain ⟨cl405, Ar405, q405, S405, P405, H405, G405⟩ := Va4_395
  have hin406 : ¬ ((0 : Int32) < 0 ∨ cl405.slots.size ≤ ((0 : Int32)).toNatClampNeg) := inb_of S405 ⟨by decide, by decide⟩
  have hat406 : cl405.slots[((0 : Int32)).toNatClampNeg]? = some (.long y4) := H405.at hin406 rfl
  have V_a4_406 : Arv Z h0 a4 k4 .long (1 : Int32) [(.long y4)] (.long (0 : Int64)) := ⟨cl405, Ar405, q405, S405, P405, H405, G405⟩
  obtain ⟨_, _, ⟨T407, L407, k407, n407⟩, -, X407, ⟨Lc407, hQ407, l407, y407, z407⟩, st407⟩ := Jvm.LawKit.callS X404 hx (y := (⟨"java/lang/Math", "max", "(JJ)J"⟩ : MethodName)) hown (mvT hZ (hw _ (List.mem_of_getElem? (i := 53) rfl))) (mvT hZ (hw _ (List.mem_of_getElem? (i := 54) rfl))) (mvT hZ (hw _ (List.mem_of_getElem? (i := 55) rfl))) (mvT hZ (hw _ (List.mem_of_getElem? (i := 56) rfl))) (by decide) (backOf (W := 2) (rm9 l Z a0 hw [] y4 q3 h0 n0 Z0) hZ (hw _ (List.mem_of_getElem? (i := 56) rfl)) (hw _ (List.mem_of_getElem? (i := 55) rfl)) (by decide) (by decide)) (g := (mkF m 135 #[.val (.ref a1), .val (.long q1), .second, .val (.long q2), .second, .val (.long q3), .second, .val (.long q4), .second] [(.long q3), (.long y4), (.int (0 : Int32)), (.ref a4)])) rfl (by rw [hml]; rfl) (argsL := [(.long y4), (.long q3)]) (rest := [(.int (0 : Int32)), (.ref a4)]) (lenOf pd_3 rfl) rfl (by show 2 * 0 + _ ≤ _; exact Nat.le_of_eq rfl) (hb hby d3_135) (fun _ _ => ⟨rfl, e404, (by decide : 0 + 0 ≤ _), (by decide : 0 + 0 ≤ _)⟩)
  dsimp only [Pt.U, Pt.locs, Pt.cells, Pt.slots] at X407 l407 y407 z407 st407 hQ407
  subst l407 y407 z407
  obtain ⟨rfl, N407q, hh407⟩ := hQ407
  have N407 := Fr.app N0 N407q
  obtain ⟨cl408, Ar408, q408, S408, P408, H408, G408⟩ := V_a4_406
  have hin409 : ¬ ((0 : Int32) < 0 ∨ cl408.slots.size ≤ ((0 : Int32)).toNatClampNeg) := inb_of S408 ⟨by decide, by decide⟩
  obtain ⟨T409, h409, X409, e409, W409, st409⟩ := stJ X407 hx hZ hh407 Ar408 (j := (0 : Int32)) hin409 (g := (mkF m 138 #[.val (.ref a1), .val (.long q1), .second, .val (.long q2), .second, .val (.long q3), .second, .val (.long q4), .second] [(.long (B9_0 y4 q3)), (.int (0 : Int32)), (.ref a4)])) rfl rfl (hb hby d3_138)
  have V_a4_409 : Arv Z h409 a4 k4 .long (1 : Int32) [(.long (B9_0 y4 q3))] (.long (0 : Int64)) := Arv.set Ar408 q408 S408 P408 H408 G408 rfl W409 0 rfl (Nat.le_of_ble_eq_true rfl)
  have E1_410 := E1_395.wr W409
  have Fc_411 := Fc_395.other W409 (Or.inl ne1a4_395)
  have Fa2_412 := Fa2_395.other W409 (Or.inl ne1a4_395)
  have Fa3_413 := Fa3_395.other W409 (Or.inl ne1a4_395)
  have Fa4_414 := Fa4_395.other W409 (Or.inl ne1a4_395)
  have Fa5_415 := Fa5_395.other W409 (Or.inl ne1a4_395)
  have Va2_416 := Va2_395.other W409 da2a4_395
  have V_a3_417 := V_a3_400.other W409 da3a4_395
  have Va5_418 := Va5_395.other W409 (Ne.symm da4a5_395)
  have zh409 : n0 ≤ h409.size := Nat.le_trans Z0 (Nat.le_of_eq W409.size.symm)
  have K0_409 : Keep h0 h409 [a1, a2, a3, a4, a5] := K0_0.wr W409 (Or.inl (List.mem_of_getElem? (i := 3) rfl))
  have N409 := Fr.snoc X409 N407 loa4_395
  obtain ⟨T419, X419, e419, st419⟩ := getF X409 hx hZ hown (host := "") (Or.inl (hw _ (List.mem_of_getElem? (i := 17) rfl))) Via.refl e409 Fa5_415 (g := (mkF m 140 #[.val (.ref a1), .val (.long q1), .second, .val (.long q2), .second, .val (.long q3), .second, .val (.long q4), .second] [(.ref a1)])) rfl rfl (hb hby d3_140)
  obtain ⟨T420, X420, e420, st420⟩ := getF X419 hx hZ hown (host := "") (Or.inl (hw _ (List.mem_of_getElem? (i := 24) rfl))) Via.refl e419 Fc_411 (g := (mkF m 144 #[.val (.ref a1), .val (.long q1), .second, .val (.long q2), .second, .val (.long q3), .second, .val (.long q4), .second] [(.ref a1), (.ref a5)])) rfl rfl (hb hby d3_144)
  obtain ⟨T421, X421, e421, st421⟩ := getF X420 hx hZ hown (host := "") (Or.inl (hw _ (List.mem_of_getElem? (i := 17) rfl))) Via.refl e420 Fa5_415 (g := (mkF m 150 #[.val (.ref a1), .val (.long q1), .second, .val (.long q2), .second, .val (.long q3), .second, .val (.long q4), .second] [(.ref a1), (.int (0 : Int32)), (.ref a5)])) rfl rfl (hb hby d3_150)
  obtain ⟨T422, X422, e422, st422⟩ := getF X421 hx hZ hown (host := "") (Or.inl (hw _ (List.mem_of_getElem? (i := 24) rfl))) Via.refl e421 Fc_411 (g := (mkF m 154 #[.val (.ref a1), .val (.long q1), .second, .val (.long q2), .second, .val (.long q3), .second, .val (.long q4), .second] [(.ref a1), (.ref a5), (.int (0 : Int32)), (.ref a5)])) rfl rfl (hb hby d3_154)
  obtain ⟨cl423, Ar423, q423, S423, P423, H423, G423⟩ := Va5_418
  have hin424 : ¬ ((0 : Int32) < 0 ∨ cl423.slots.size ≤ ((0 : Int32)).toNatClampNeg) := inb_of S423 ⟨by decide, by decide⟩
  have hat424 : cl423.slots[((0 : Int32)).toNatClampNeg]? = some (.long y5) := H423.at hin424 rfl
  have V_a5_424 : Arv Z h409 a5 k5 .long (1 : Int32) [(.long y5)] (.long (0 : Int64)) := ⟨cl423, Ar423, q423, S423, P423, H423, G423⟩
  obtain ⟨_, _, ⟨T425, L425, k425, n425⟩, -, X425, ⟨Lc425, hQ425, l425, y425, z425⟩, st425⟩ := Jvm.LawKit.callS X422 hx (y := (⟨"java/lang/Math", "max", "(JJ)J"⟩ : MethodName)) hown (mvT hZ (hw _ (List.mem_of_getElem? (i := 53) rfl))) (mvT hZ (hw _ (List.mem_of_getElem? (i := 54) rfl))) (mvT hZ (hw _ (List.mem_of_getElem? (i := 55) rfl))) (mvT hZ (hw _ (List.mem_of_getElem? (i := 56) rfl))) (by decide) (backOf (W := 2) (rm9 l Z a0 hw [] y5 q4 h409 n0 zh409) hZ (hw _ (List.mem_of_getElem? (i := 56) rfl)) (hw _ (List.mem_of_getElem? (i := 55) rfl)) (by decide) (by decide)) (g := (mkF m 162 #[.val (.ref a1), .val (.long q1), .second, .val (.long q2), .second, .val (.long q3), .second, .val (.long q4), .second] [(.long q4), (.long y5), (.int (0 : Int32)), (.ref a5)])) rfl (by rw [hml]; rfl) (argsL := [(.long y5), (.long q4)]) (rest := [(.int (0 : Int32)), (.ref a5)]) (lenOf pd_3 rfl) rfl (by show 2 * 0 + _ ≤ _; exact Nat.le_of_eq rfl) (hb hby d3_162) (fun _ _ => ⟨rfl, e422, (by decide : 0 + 0 ≤ _), (by decide : 0 + 0 ≤ _)⟩)
  dsimp only [Pt.U, Pt.locs, Pt.cells, Pt.slots] at X425 l425 y425 z425 st425 hQ425
  subst l425 y425 z425
  obtain ⟨rfl, N425q, hh425⟩ := hQ425
  have N425 := Fr.app N409 N425q
  obtain ⟨cl426, Ar426, q426, S426, P426, H426, G426⟩ := V_a5_424
  have hin427 : ¬ ((0 : Int32) < 0 ∨ cl426.slots.size ≤ ((0 : Int32)).toNatClampNeg) := inb_of S426 ⟨by decide, by decide⟩
  obtain ⟨T427, h427, X427, e427, W427, st427⟩ := stJ X425 hx hZ hh425 Ar426 (j := (0 : Int32)) hin427 (g := (mkF m 165 #[.val (.ref a1), .val (.long q1), .second, .val (.long q2), .second, .val (.long q3), .second, .val (.long q4), .second] [(.long (B9_0 y5 q4)), (.int (0 : Int32)), (.ref a5)])) rfl rfl (hb hby d3_165)
  have V_a5_427 : Arv Z h427 a5 k5 .long (1 : Int32) [(.long (B9_0 y5 q4))] (.long (0 : Int64)) := Arv.set Ar426 q426 S426 P426 H426 G426 rfl W427 0 rfl (Nat.le_of_ble_eq_true rfl)
  have E1_428 := E1_410.wr W427
  have Fc_429 := Fc_411.other W427 (Or.inl ne1a5_395)
  have Fa2_430 := Fa2_412.other W427 (Or.inl ne1a5_395)
  have Fa3_431 := Fa3_413.other W427 (Or.inl ne1a5_395)
  have Fa4_432 := Fa4_414.other W427 (Or.inl ne1a5_395)
  have Fa5_433 := Fa5_415.other W427 (Or.inl ne1a5_395)
  have Va2_434 := Va2_416.other W427 da2a5_395
  have V_a3_435 := V_a3_417.other W427 da3a5_395
  have V_a4_436 := V_a4_409.other W427 da4a5_395
  have zh427 : n0 ≤ h427.size := Nat.le_trans zh409 (Nat.le_of_eq W427.size.symm)
  have K0_427 : Keep h0 h427 [a1, a2, a3, a4, a5] := K0_409.wr W427 (Or.inl (List.mem_of_getElem? (i := 4) rfl))
  have N427 := Fr.snoc X427 N425 loa5_395
  refine own_Go.mono (T' := T427) (f' := (mkF m 166 #[.val (.ref a1), .val (.long q1), .second, .val (.long q2), .second, .val (.long q3), .second, .val (.long q4), .second] [])) (fun t k => ?_) ?_
  · show Steps p.tables e below (s₁.setTop (mkF m 0 #[.val (.ref a1), .val (.long q1), .second, .val (.long q2), .second, .val (.long q3), .second, .val (.long q4), .second] [])) _
    refine XS.aloadN X0.here hx rfl (hb hby d3_0) rfl rfl ?_
    show Steps p.tables e below (s₁.setTop (mkF m 1 #[.val (.ref a1), .val (.long q1), .second, .val (.long q2), .second, .val (.long q3), .second, .val (.long q4), .second] [(.ref a1)])) _
    refine st396 _ ?_
    show Steps p.tables e below (T396.setTop (mkF m 4 #[.val (.ref a1), .val (.long q1), .second, .val (.long q2), .second, .val (.long q3), .second, .val (.long q4), .second] [(.int (1 : Int32))])) _
    refine XS.ifNo X396.here hx rfl (hb hby d3_4) rfl ((if0 _ _).trans (feq (by decide)).1) ?_
    show Steps p.tables e below (T396.setTop (mkF m 7 #[.val (.ref a1), .val (.long q1), .second, .val (.long q2), .second, .val (.long q3), .second, .val (.long q4), .second] [])) _
    refine XS.lloadN X396.here hx rfl (hb hby d3_7) rfl ?_
    show Steps p.tables e below (T396.setTop (mkF m 8 #[.val (.ref a1), .val (.long q1), .second, .val (.long q2), .second, .val (.long q3), .second, .val (.long q4), .second] [(.long q2)])) _
    refine XS.aloadN X396.here hx rfl (hb hby d3_8) rfl rfl ?_
    show Steps p.tables e below (T396.setTop (mkF m 9 #[.val (.ref a1), .val (.long q1), .second, .val (.long q2), .second, .val (.long q3), .second, .val (.long q4), .second] [(.ref a1), (.long q2)])) _
    refine st397 _ ?_
    show Steps p.tables e below (T397.setTop (mkF m 12 #[.val (.ref a1), .val (.long q1), .second, .val (.long q2), .second, .val (.long q3), .second, .val (.long q4), .second] [(.ref a3), (.long q2)])) _
    refine XS.aloadN X397.here hx rfl (hb hby d3_12) rfl rfl ?_
    show Steps p.tables e below (T397.setTop (mkF m 13 #[.val (.ref a1), .val (.long q1), .second, .val (.long q2), .second, .val (.long q3), .second, .val (.long q4), .second] [(.ref a1), (.ref a3), (.long q2)])) _
    refine st398 _ ?_
    show Steps p.tables e below (T398.setTop (mkF m 16 #[.val (.ref a1), .val (.long q1), .second, .val (.long q2), .second, .val (.long q3), .second, .val (.long q4), .second] [(.int (1 : Int32)), (.ref a3), (.long q2)])) _
    refine XS.iconst X398.here hx rfl (hb hby d3_16) ?_
    show Steps p.tables e below (T398.setTop (mkF m 17 #[.val (.ref a1), .val (.long q1), .second, .val (.long q2), .second, .val (.long q3), .second, .val (.long q4), .second] [(.int (1 : Int32)), (.int (1 : Int32)), (.ref a3), (.long q2)])) _
    refine XS.isub X398.here hx rfl (hb hby d3_17) rfl ?_
    show Steps p.tables e below (T398.setTop (mkF m 18 #[.val (.ref a1), .val (.long q1), .second, .val (.long q2), .second, .val (.long q3), .second, .val (.long q4), .second] [(.int (0 : Int32)), (.ref a3), (.long q2)])) _
    refine X398.laload hx (j := (0 : Int32)) (v := (.long y3)) (by rw [e398]; exact Ar399.1) (State.isArrayOf_alike hZ.alike Ar399.2.1) Ar399.2.2 hin400 hat400 (g := (mkF m 18 #[.val (.ref a1), .val (.long q1), .second, .val (.long q2), .second, .val (.long q3), .second, .val (.long q4), .second] [(.int (0 : Int32)), (.ref a3), (.long q2)])) rfl rfl (hb hby d3_18) _ ?_
    show Steps p.tables e below (T398.setTop (mkF m 19 #[.val (.ref a1), .val (.long q1), .second, .val (.long q2), .second, .val (.long q3), .second, .val (.long q4), .second] [(.long y3), (.long q2)])) _
    refine XS.lsub X398.here hx rfl (hb hby d3_19) rfl ?_
    show Steps p.tables e below (T398.setTop (mkF m 20 #[.val (.ref a1), .val (.long q1), .second, .val (.long q2), .second, .val (.long q3), .second, .val (.long q4), .second] [(.long (q2 - y3))])) _
    refine X398.ldc2Long hx hown (mvT hZ (hw _ (List.mem_of_getElem? (i := 26) rfl))) (g := (mkF m 20 #[.val (.ref a1), .val (.long q1), .second, .val (.long q2), .second, .val (.long q3), .second, .val (.long q4), .second] [(.long (q2 - y3))])) rfl (hb hby d3_20) _ ?_
    show Steps p.tables e below (T398.setTop (mkF m 23 #[.val (.ref a1), .val (.long q1), .second, .val (.long q2), .second, .val (.long q3), .second, .val (.long q4), .second] [(.long (32768 : Int64)), (.long (q2 - y3))])) _
    refine XS.lcmp X398.here hx rfl (hb hby d3_23) rfl ?_
    show Steps p.tables e below (T398.setTop (mkF m 24 #[.val (.ref a1), .val (.long q1), .second, .val (.long q2), .second, .val (.long q3), .second, .val (.long q4), .second] [(.int (lcmpW (q2 - y3) (32768 : Int64)))])) _
    refine XS.ifYes X398.here hx rfl (pc0 := 24) (pc' := 112) rfl (hb hby d3_24) rfl ((if0 _ _).trans (tlt (own_lt.mpr hd)).1) (by decide) (by decide) ?_
    show Steps p.tables e below (T398.setTop (mkF m 112 #[.val (.ref a1), .val (.long q1), .second, .val (.long q2), .second, .val (.long q3), .second, .val (.long q4), .second] [])) _
    refine XS.aloadN X398.here hx rfl (hb hby d3_112) rfl rfl ?_
    show Steps p.tables e below (T398.setTop (mkF m 113 #[.val (.ref a1), .val (.long q1), .second, .val (.long q2), .second, .val (.long q3), .second, .val (.long q4), .second] [(.ref a1)])) _
    refine st401 _ ?_
    show Steps p.tables e below (T401.setTop (mkF m 116 #[.val (.ref a1), .val (.long q1), .second, .val (.long q2), .second, .val (.long q3), .second, .val (.long q4), .second] [(.ref a4)])) _
    refine XS.aloadN X401.here hx rfl (hb hby d3_116) rfl rfl ?_
    show Steps p.tables e below (T401.setTop (mkF m 117 #[.val (.ref a1), .val (.long q1), .second, .val (.long q2), .second, .val (.long q3), .second, .val (.long q4), .second] [(.ref a1), (.ref a4)])) _
    refine st402 _ ?_
    show Steps p.tables e below (T402.setTop (mkF m 120 #[.val (.ref a1), .val (.long q1), .second, .val (.long q2), .second, .val (.long q3), .second, .val (.long q4), .second] [(.int (1 : Int32)), (.ref a4)])) _
    refine XS.iconst X402.here hx rfl (hb hby d3_120) ?_
    show Steps p.tables e below (T402.setTop (mkF m 121 #[.val (.ref a1), .val (.long q1), .second, .val (.long q2), .second, .val (.long q3), .second, .val (.long q4), .second] [(.int (1 : Int32)), (.int (1 : Int32)), (.ref a4)])) _
    refine XS.isub X402.here hx rfl (hb hby d3_121) rfl ?_
    show Steps p.tables e below (T402.setTop (mkF m 122 #[.val (.ref a1), .val (.long q1), .second, .val (.long q2), .second, .val (.long q3), .second, .val (.long q4), .second] [(.int (0 : Int32)), (.ref a4)])) _
    refine XS.aloadN X402.here hx rfl (hb hby d3_122) rfl rfl ?_
    show Steps p.tables e below (T402.setTop (mkF m 123 #[.val (.ref a1), .val (.long q1), .second, .val (.long q2), .second, .val (.long q3), .second, .val (.long q4), .second] [(.ref a1), (.int (0 : Int32)), (.ref a4)])) _
    refine st403 _ ?_
    show Steps p.tables e below (T403.setTop (mkF m 126 #[.val (.ref a1), .val (.long q1), .second, .val (.long q2), .second, .val (.long q3), .second, .val (.long q4), .second] [(.ref a4), (.int (0 : Int32)), (.ref a4)])) _
    refine XS.aloadN X403.here hx rfl (hb hby d3_126) rfl rfl ?_
    show Steps p.tables e below (T403.setTop (mkF m 127 #[.val (.ref a1), .val (.long q1), .second, .val (.long q2), .second, .val (.long q3), .second, .val (.long q4), .second] [(.ref a1), (.ref a4), (.int (0 : Int32)), (.ref a4)])) _
    refine st404 _ ?_
    show Steps p.tables e below (T404.setTop (mkF m 130 #[.val (.ref a1), .val (.long q1), .second, .val (.long q2), .second, .val (.long q3), .second, .val (.long q4), .second] [(.int (1 : Int32)), (.ref a4), (.int (0 : Int32)), (.ref a4)])) _
    refine XS.iconst X404.here hx rfl (hb hby d3_130) ?_
    show Steps p.tables e below (T404.setTop (mkF m 131 #[.val (.ref a1), .val (.long q1), .second, .val (.long q2), .second, .val (.long q3), .second, .val (.long q4), .second] [(.int (1 : Int32)), (.int (1 : Int32)), (.ref a4), (.int (0 : Int32)), (.ref a4)])) _
    refine XS.isub X404.here hx rfl (hb hby d3_131) rfl ?_
    show Steps p.tables e below (T404.setTop (mkF m 132 #[.val (.ref a1), .val (.long q1), .second, .val (.long q2), .second, .val (.long q3), .second, .val (.long q4), .second] [(.int (0 : Int32)), (.ref a4), (.int (0 : Int32)), (.ref a4)])) _
    refine X404.laload hx (j := (0 : Int32)) (v := (.long y4)) (by rw [e404]; exact Ar405.1) (State.isArrayOf_alike hZ.alike Ar405.2.1) Ar405.2.2 hin406 hat406 (g := (mkF m 132 #[.val (.ref a1), .val (.long q1), .second, .val (.long q2), .second, .val (.long q3), .second, .val (.long q4), .second] [(.int (0 : Int32)), (.ref a4), (.int (0 : Int32)), (.ref a4)])) rfl rfl (hb hby d3_132) _ ?_
    show Steps p.tables e below (T404.setTop (mkF m 133 #[.val (.ref a1), .val (.long q1), .second, .val (.long q2), .second, .val (.long q3), .second, .val (.long q4), .second] [(.long y4), (.int (0 : Int32)), (.ref a4)])) _
    refine XS.lload X404.here hx rfl (hb hby d3_133) rfl ?_
    show Steps p.tables e below (T404.setTop (mkF m 135 #[.val (.ref a1), .val (.long q1), .second, .val (.long q2), .second, .val (.long q3), .second, .val (.long q4), .second] [(.long q3), (.long y4), (.int (0 : Int32)), (.ref a4)])) _
    refine st407 _ ?_
    show Steps p.tables e below (T407.setTop (mkF m 138 #[.val (.ref a1), .val (.long q1), .second, .val (.long q2), .second, .val (.long q3), .second, .val (.long q4), .second] [(.long (B9_0 y4 q3)), (.int (0 : Int32)), (.ref a4)])) _
    refine st409 _ ?_
    show Steps p.tables e below (T409.setTop (mkF m 139 #[.val (.ref a1), .val (.long q1), .second, .val (.long q2), .second, .val (.long q3), .second, .val (.long q4), .second] [])) _
    refine XS.aloadN X409.here hx rfl (hb hby d3_139) rfl rfl ?_
    show Steps p.tables e below (T409.setTop (mkF m 140 #[.val (.ref a1), .val (.long q1), .second, .val (.long q2), .second, .val (.long q3), .second, .val (.long q4), .second] [(.ref a1)])) _
    refine st419 _ ?_
    show Steps p.tables e below (T419.setTop (mkF m 143 #[.val (.ref a1), .val (.long q1), .second, .val (.long q2), .second, .val (.long q3), .second, .val (.long q4), .second] [(.ref a5)])) _
    refine XS.aloadN X419.here hx rfl (hb hby d3_143) rfl rfl ?_
    show Steps p.tables e below (T419.setTop (mkF m 144 #[.val (.ref a1), .val (.long q1), .second, .val (.long q2), .second, .val (.long q3), .second, .val (.long q4), .second] [(.ref a1), (.ref a5)])) _
    refine st420 _ ?_
    show Steps p.tables e below (T420.setTop (mkF m 147 #[.val (.ref a1), .val (.long q1), .second, .val (.long q2), .second, .val (.long q3), .second, .val (.long q4), .second] [(.int (1 : Int32)), (.ref a5)])) _
    refine XS.iconst X420.here hx rfl (hb hby d3_147) ?_
    show Steps p.tables e below (T420.setTop (mkF m 148 #[.val (.ref a1), .val (.long q1), .second, .val (.long q2), .second, .val (.long q3), .second, .val (.long q4), .second] [(.int (1 : Int32)), (.int (1 : Int32)), (.ref a5)])) _
    refine XS.isub X420.here hx rfl (hb hby d3_148) rfl ?_
    show Steps p.tables e below (T420.setTop (mkF m 149 #[.val (.ref a1), .val (.long q1), .second, .val (.long q2), .second, .val (.long q3), .second, .val (.long q4), .second] [(.int (0 : Int32)), (.ref a5)])) _
    refine XS.aloadN X420.here hx rfl (hb hby d3_149) rfl rfl ?_
    show Steps p.tables e below (T420.setTop (mkF m 150 #[.val (.ref a1), .val (.long q1), .second, .val (.long q2), .second, .val (.long q3), .second, .val (.long q4), .second] [(.ref a1), (.int (0 : Int32)), (.ref a5)])) _
    refine st421 _ ?_
    show Steps p.tables e below (T421.setTop (mkF m 153 #[.val (.ref a1), .val (.long q1), .second, .val (.long q2), .second, .val (.long q3), .second, .val (.long q4), .second] [(.ref a5), (.int (0 : Int32)), (.ref a5)])) _
    refine XS.aloadN X421.here hx rfl (hb hby d3_153) rfl rfl ?_
    show Steps p.tables e below (T421.setTop (mkF m 154 #[.val (.ref a1), .val (.long q1), .second, .val (.long q2), .second, .val (.long q3), .second, .val (.long q4), .second] [(.ref a1), (.ref a5), (.int (0 : Int32)), (.ref a5)])) _
    refine st422 _ ?_
    show Steps p.tables e below (T422.setTop (mkF m 157 #[.val (.ref a1), .val (.long q1), .second, .val (.long q2), .second, .val (.long q3), .second, .val (.long q4), .second] [(.int (1 : Int32)), (.ref a5), (.int (0 : Int32)), (.ref a5)])) _
    refine XS.iconst X422.here hx rfl (hb hby d3_157) ?_
    show Steps p.tables e below (T422.setTop (mkF m 158 #[.val (.ref a1), .val (.long q1), .second, .val (.long q2), .second, .val (.long q3), .second, .val (.long q4), .second] [(.int (1 : Int32)), (.int (1 : Int32)), (.ref a5), (.int (0 : Int32)), (.ref a5)])) _
    refine XS.isub X422.here hx rfl (hb hby d3_158) rfl ?_
    show Steps p.tables e below (T422.setTop (mkF m 159 #[.val (.ref a1), .val (.long q1), .second, .val (.long q2), .second, .val (.long q3), .second, .val (.long q4), .second] [(.int (0 : Int32)), (.ref a5), (.int (0 : Int32)), (.ref a5)])) _
    refine X422.laload hx (j := (0 : Int32)) (v := (.long y5)) (by rw [e422]; exact Ar423.1) (State.isArrayOf_alike hZ.alike Ar423.2.1) Ar423.2.2 hin424 hat424 (g := (mkF m 159 #[.val (.ref a1), .val (.long q1), .second, .val (.long q2), .second, .val (.long q3), .second, .val (.long q4), .second] [(.int (0 : Int32)), (.ref a5), (.int (0 : Int32)), (.ref a5)])) rfl rfl (hb hby d3_159) _ ?_
    show Steps p.tables e below (T422.setTop (mkF m 160 #[.val (.ref a1), .val (.long q1), .second, .val (.long q2), .second, .val (.long q3), .second, .val (.long q4), .second] [(.long y5), (.int (0 : Int32)), (.ref a5)])) _
    refine XS.lload X422.here hx rfl (hb hby d3_160) rfl ?_
    show Steps p.tables e below (T422.setTop (mkF m 162 #[.val (.ref a1), .val (.long q1), .second, .val (.long q2), .second, .val (.long q3), .second, .val (.long q4), .second] [(.long q4), (.long y5), (.int (0 : Int32)), (.ref a5)])) _
    refine st425 _ ?_
    show Steps p.tables e below (T425.setTop (mkF m 165 #[.val (.ref a1), .val (.long q1), .second, .val (.long q2), .second, .val (.long q3), .second, .val (.long q4), .second] [(.long (B9_0 y5 q4)), (.int (0 : Int32)), (.ref a5)])) _
    refine st427 _ ?_
    show Steps p.tables e below (T427.setTop (mkF m 166 #[.val (.ref a1), .val (.long q1), .second, .val (.long q2), .second, .val (.long q3), .second, .val (.long q4), .second] [])) _
    exact k
  exact own_retV X427 hx hret hlk (hb hby d3_166) ((by rw [e427]; exact ⟨rfl, N427, K0_427, ⟨E1_428, Fc_429, Fa2_430, Fa3_431, Fa4_432, Fa5_433, Va2_434, V_a3_435, V_a4_436, V_a5_427, da2a3_395, da2a4_395, da2a5_395, da3a4_395, da3a5_395, da4a5_395, lo1_395, loa2_395, loa3_395, loa4_395, loa5_395⟩⟩)) (by decide) (by decide)
theorem ef_rmaC (m : MethodId) (x0 : Addr) (x1 : Int64) (x2 : Int64) (x3 : Int64) (x4 : Int64) : entryFrame m #[(.ref x0), (.long x1), (.long x2), (.long x3), (.long x4)] 9 = mkF m 0 #[.val (.ref x0), .val (.long x1), .second, .val (.long x2), .second, .val (.long x3), .second, .val (.long x4), .second] [] := by first | (simp [entryFrame, mkF, argsToLocals, Value.category]; done) | rfl
def QaC (Z : State) (a1 : Addr) (q1 : Int64) (q2 : Int64) (q3 : Int64) (q4 : Int64) (a2 : Addr) (a3 : Addr) (a4 : Addr) (a5 : Addr) (k2 : ClassId) (k3 : ClassId) (k4 : ClassId) (k5 : ClassId) (y2 : Int64) (y3 : Int64) (y4 : Int64) (y5 : Int64) (h0 : Heap) (n0 : Nat) (v : Option Value) (h : Heap) (L : List Loc) : Prop := v = none ∧ Fr n0 L ∧ Keep h0 h [a1, a2, a3, a4, a5] ∧ own_Seg Z n0 h a1 (2 : Int32) (8 : Int32) a2 a3 a4 a5 k2 k3 k4 k5 [(.long y2), (.long q1), (.long (0 : Int64)), (.long (0 : Int64)), (.long (0 : Int64)), (.long (0 : Int64)), (.long (0 : Int64)), (.long (0 : Int64))] [(.long y3), (.long q2), (.long (0 : Int64)), (.long (0 : Int64)), (.long (0 : Int64)), (.long (0 : Int64)), (.long (0 : Int64)), (.long (0 : Int64))] [(.long y4), (.long q3), (.long (0 : Int64)), (.long (0 : Int64)), (.long (0 : Int64)), (.long (0 : Int64)), (.long (0 : Int64)), (.long (0 : Int64))] [(.long y5), (.long q4), (.long (0 : Int64)), (.long (0 : Int64)), (.long (0 : Int64)), (.long (0 : Int64)), (.long (0 : Int64)), (.long (0 : Int64))]
set_option maxRecDepth 65536 in
set_option maxHeartbeats 40000000 in
theorem rmaC (l : Launch) (Z : State) (a0 : Array Value) (hw : ∀ d ∈ tables_1, d.before a0 Z = true) (ws : List Jvm.Cond) (a1 : Addr) (q1 : Int64) (q2 : Int64) (q3 : Int64) (q4 : Int64) (a2 : Addr) (a3 : Addr) (a4 : Addr) (a5 : Addr) (k2 : ClassId) (k3 : ClassId) (k4 : ClassId) (k5 : ClassId) (y2 : Int64) (y3 : Int64) (y4 : Int64) (y5 : Int64) (h0 : Heap) (n0 : Nat) (Z0 : n0 ≤ h0.size) (G : own_Seg Z n0 h0 a1 (1 : Int32) (8 : Int32) a2 a3 a4 a5 k2 k3 k4 k5 [(.long y2), (.long (0 : Int64)), (.long (0 : Int64)), (.long (0 : Int64)), (.long (0 : Int64)), (.long (0 : Int64)), (.long (0 : Int64)), (.long (0 : Int64))] [(.long y3), (.long (0 : Int64)), (.long (0 : Int64)), (.long (0 : Int64)), (.long (0 : Int64)), (.long (0 : Int64)), (.long (0 : Int64)), (.long (0 : Int64))] [(.long y4), (.long (0 : Int64)), (.long (0 : Int64)), (.long (0 : Int64)), (.long (0 : Int64)), (.long (0 : Int64)), (.long (0 : Int64)), (.long (0 : Int64))] [(.long y5), (.long (0 : Int64)), (.long (0 : Int64)), (.long (0 : Int64)), (.long (0 : Int64)), (.long (0 : Int64)), (.long (0 : Int64)), (.long (0 : Int64))]) (hd : ¬ (q2 - y3) < 32768) :
    MetFree l (⟨"com/example/uplog/uplog/SegmentIndex", "add", "(JJJJ)V"⟩ : MethodName) (head1 (Jvm.Cond.code (⟨"com/example/uplog/uplog/SegmentIndex", "add", "(JJJJ)V"⟩ : MethodName) prog_12_method_2_code 9 none :: ws) ({ frames := 0, cells := 0, slots := 0, locals := 0 } : Room)) (fun a U => a = #[(.ref a1), (.long q1), (.long q2), (.long q3), (.long q4)] ∧ Z.Warmed39 U.vm ∧ U.heap = h0) (fun _ _ _ _ _ => True) (fun _ U o U' => ∃ v L, o = .returned v ∧ QaC Z a1 q1 q2 q3 q4 a2 a3 a4 a5 k2 k3 k4 k5 y2 y3 y4 y5 h0 n0 v U'.heap L ∧ FrameEnd U o U' L 0 0) := by
  refine own_body (Qv := QaC Z a1 q1 q2 q3 q4 a2 a3 a4 a5 k2 k3 k4 k5 y2 y3 y4 y5 h0 n0) (plainFor_of_name (by first | (simp [plainName, overriddenIn]; done) | decide +kernel)) ?_
  intro p e s m below meth c s₁ hx hby hml hret hlk hown hnm hZ X0 e0
  replace hown : s.vm.findClass "com/example/uplog/uplog/SegmentIndex" = some m.cls := hown
  replace hnm : meth.name = "add" := hnm
  have N0 := Fr.nil n0
  refine own_Go.mono (T' := s₁) (f' := (mkF m 0 #[.val (.ref a1), .val (.long q1), .second, .val (.long q2), .second, .val (.long q3), .second, .val (.long q4), .second] [])) (fun t k => castTop (ef_rmaC m a1 q1 q2 q3 q4) k) ?_
  have K0_0 : Keep h0 h0 [a1, a2, a3, a4, a5] := Keep.refl _ _
  obtain ⟨E1_437, Fc_437, Fa2_437, Fa3_437, Fa4_437, Fa5_437, Va2_437, Va3_437, Va4_437, Va5_437, da2a3_437, da2a4_437, da2a5_437, da3a4_437, da3a5_437, da4a5_437, lo1_437, loa2_437, loa3_437, loa4_437, loa5_437⟩ := G
  have ne1a2_437 : a1 ≠ a2 := Exa.neArv E1_437 Va2_437 (hw _ (List.mem_of_getElem? (i := 2) rfl))
  have ne1a3_437 : a1 ≠ a3 := Exa.neArv E1_437 Va3_437 (hw _ (List.mem_of_getElem? (i := 2) rfl))
  have ne1a4_437 : a1 ≠ a4 := Exa.neArv E1_437 Va4_437 (hw _ (List.mem_of_getElem? (i := 2) rfl))
  have ne1a5_437 : a1 ≠ a5 := Exa.neArv E1_437 Va5_437 (hw _ (List.mem_of_getElem? (i := 2) rfl))
  obtain ⟨T438, X438, e438, st438⟩ := getF X0 hx hZ hown (host := "") (Or.inl (hw _ (List.mem_of_getElem? (i := 24) rfl))) Via.refl e0 Fc_437 (g := (mkF m 1 #[.val (.ref a1), .val (.long q1), .second, .val (.long q2), .second, .val (.long q3), .second, .val (.long q4), .second] [(.ref a1)])) rfl rfl (hb hby d3_1)
  obtain ⟨T439, X439, e439, st439⟩ := getF X438 hx hZ hown (host := "") (Or.inl (hw _ (List.mem_of_getElem? (i := 13) rfl))) Via.refl e438 Fa3_437 (g := (mkF m 9 #[.val (.ref a1), .val (.long q1), .second, .val (.long q2), .second, .val (.long q3), .second, .val (.long q4), .second] [(.ref a1), (.long q2)])) rfl rfl (hb hby d3_9)
  obtain ⟨T440, X440, e440, st440⟩ := getF X439 hx hZ hown (host := "") (Or.inl (hw _ (List.mem_of_getElem? (i := 24) rfl))) Via.refl e439 Fc_437 (g := (mkF m 13 #[.val (.ref a1), .val (.long q1), .second, .val (.long q2), .second, .val (.long q3), .second, .val (.long q4), .second] [(.ref a1), (.ref a3), (.long q2)])) rfl rfl (hb hby d3_13)
  obtain ⟨cl441, Ar441, q441, S441, P441, H441, G441⟩ := Va3_437
  have hin442 : ¬ ((0 : Int32) < 0 ∨ cl441.slots.size ≤ ((0 : Int32)).toNatClampNeg) := inb_of S441 ⟨by decide, by decide⟩
  have hat442 : cl441.slots[((0 : Int32)).toNatClampNeg]? = some (.long y3) := H441.at hin442 rfl
  have V_a3_442 : Arv Z h0 a3 k3 .long (8 : Int32) [(.long y3), (.long (0 : Int64)), (.long (0 : Int64)), (.long (0 : Int64)), (.long (0 : Int64)), (.long (0 : Int64)), (.long (0 : Int64)), (.long (0 : Int64))] (.long (0 : Int64)) := ⟨cl441, Ar441, q441, S441, P441, H441, G441⟩
  obtain ⟨T443, X443, e443, st443⟩ := getF X440 hx hZ hown (host := "") (Or.inl (hw _ (List.mem_of_getElem? (i := 24) rfl))) Via.refl e440 Fc_437 (g := (mkF m 28 #[.val (.ref a1), .val (.long q1), .second, .val (.long q2), .second, .val (.long q3), .second, .val (.long q4), .second] [(.ref a1)])) rfl rfl (hb hby d3_28)
  obtain ⟨T444, X444, e444, st444⟩ := getF X443 hx hZ hown (host := "") (Or.inl (hw _ (List.mem_of_getElem? (i := 11) rfl))) Via.refl e443 Fa2_437 (g := (mkF m 32 #[.val (.ref a1), .val (.long q1), .second, .val (.long q2), .second, .val (.long q3), .second, .val (.long q4), .second] [(.ref a1), (.int (1 : Int32))])) rfl rfl (hb hby d3_32)
  obtain ⟨cl445, Ar445, q445, S445, P445, H445, G445⟩ := Va2_437
  have V_a2_446 : Arv Z h0 a2 k2 .long (8 : Int32) [(.long y2), (.long (0 : Int64)), (.long (0 : Int64)), (.long (0 : Int64)), (.long (0 : Int64)), (.long (0 : Int64)), (.long (0 : Int64)), (.long (0 : Int64))] (.long (0 : Int64)) := ⟨cl445, Ar445, q445, S445, P445, H445, G445⟩
  obtain ⟨T447, X447, e447, st447⟩ := getF X444 hx hZ hown (host := "") (Or.inl (hw _ (List.mem_of_getElem? (i := 11) rfl))) Via.refl e444 Fa2_437 (g := (mkF m 58 #[.val (.ref a1), .val (.long q1), .second, .val (.long q2), .second, .val (.long q3), .second, .val (.long q4), .second] [(.ref a1)])) rfl rfl (hb hby d3_58)
  obtain ⟨T448, X448, e448, st448⟩ := getF X447 hx hZ hown (host := "") (Or.inl (hw _ (List.mem_of_getElem? (i := 24) rfl))) Via.refl e447 Fc_437 (g := (mkF m 62 #[.val (.ref a1), .val (.long q1), .second, .val (.long q2), .second, .val (.long q3), .second, .val (.long q4), .second] [(.ref a1), (.ref a2)])) rfl rfl (hb hby d3_62)
  obtain ⟨cl449, Ar449, q449, S449, P449, H449, G449⟩ := V_a2_446
  have hin450 : ¬ ((1 : Int32) < 0 ∨ cl449.slots.size ≤ ((1 : Int32)).toNatClampNeg) := inb_of S449 ⟨by decide, by decide⟩
  obtain ⟨T450, h450, X450, e450, W450, st450⟩ := stJ X448 hx hZ e448 Ar449 (j := (1 : Int32)) hin450 (g := (mkF m 66 #[.val (.ref a1), .val (.long q1), .second, .val (.long q2), .second, .val (.long q3), .second, .val (.long q4), .second] [(.long q1), (.int (1 : Int32)), (.ref a2)])) rfl rfl (hb hby d3_66)
  have V_a2_450 : Arv Z h450 a2 k2 .long (8 : Int32) [(.long y2), (.long q1), (.long (0 : Int64)), (.long (0 : Int64)), (.long (0 : Int64)), (.long (0 : Int64)), (.long (0 : Int64)), (.long (0 : Int64))] (.long (0 : Int64)) := Arv.set Ar449 q449 S449 P449 H449 G449 rfl W450 1 rfl (Nat.le_of_ble_eq_true rfl)
  have E1_451 := E1_437.wr W450
  have Fc_452 := Fc_437.other W450 (Or.inl ne1a2_437)
  have Fa2_453 := Fa2_437.other W450 (Or.inl ne1a2_437)
  have Fa3_454 := Fa3_437.other W450 (Or.inl ne1a2_437)
  have Fa4_455 := Fa4_437.other W450 (Or.inl ne1a2_437)
  have Fa5_456 := Fa5_437.other W450 (Or.inl ne1a2_437)
  have V_a3_457 := V_a3_442.other W450 (Ne.symm da2a3_437)
  have Va4_458 := Va4_437.other W450 (Ne.symm da2a4_437)
  have Va5_459 := Va5_437.other W450 (Ne.symm da2a5_437)
  have zh450 : n0 ≤ h450.size := Nat.le_trans Z0 (Nat.le_of_eq W450.size.symm)
  have K0_450 : Keep h0 h450 [a1, a2, a3, a4, a5] := K0_0.wr W450 (Or.inl (List.mem_of_getElem? (i := 1) rfl))
  have N450 := Fr.snoc X450 N0 loa2_437
  obtain ⟨T460, X460, e460, st460⟩ := getF X450 hx hZ hown (host := "") (Or.inl (hw _ (List.mem_of_getElem? (i := 13) rfl))) Via.refl e450 Fa3_454 (g := (mkF m 68 #[.val (.ref a1), .val (.long q1), .second, .val (.long q2), .second, .val (.long q3), .second, .val (.long q4), .second] [(.ref a1)])) rfl rfl (hb hby d3_68)
  obtain ⟨T461, X461, e461, st461⟩ := getF X460 hx hZ hown (host := "") (Or.inl (hw _ (List.mem_of_getElem? (i := 24) rfl))) Via.refl e460 Fc_452 (g := (mkF m 72 #[.val (.ref a1), .val (.long q1), .second, .val (.long q2), .second, .val (.long q3), .second, .val (.long q4), .second] [(.ref a1), (.ref a3)])) rfl rfl (hb hby d3_72)
  obtain ⟨cl462, Ar462, q462, S462, P462, H462, G462⟩ := V_a3_457
  have hin463 : ¬ ((1 : Int32) < 0 ∨ cl462.slots.size ≤ ((1 : Int32)).toNatClampNeg) := inb_of S462 ⟨by decide, by decide⟩
  obtain ⟨T463, h463, X463, e463, W463, st463⟩ := stJ X461 hx hZ e461 Ar462 (j := (1 : Int32)) hin463 (g := (mkF m 76 #[.val (.ref a1), .val (.long q1), .second, .val (.long q2), .second, .val (.long q3), .second, .val (.long q4), .second] [(.long q2), (.int (1 : Int32)), (.ref a3)])) rfl rfl (hb hby d3_76)
  have V_a3_463 : Arv Z h463 a3 k3 .long (8 : Int32) [(.long y3), (.long q2), (.long (0 : Int64)), (.long (0 : Int64)), (.long (0 : Int64)), (.long (0 : Int64)), (.long (0 : Int64)), (.long (0 : Int64))] (.long (0 : Int64)) := Arv.set Ar462 q462 S462 P462 H462 G462 rfl W463 1 rfl (Nat.le_of_ble_eq_true rfl)
  have E1_464 := E1_451.wr W463
  have Fc_465 := Fc_452.other W463 (Or.inl ne1a3_437)
  have Fa2_466 := Fa2_453.other W463 (Or.inl ne1a3_437)
  have Fa3_467 := Fa3_454.other W463 (Or.inl ne1a3_437)
  have Fa4_468 := Fa4_455.other W463 (Or.inl ne1a3_437)
  have Fa5_469 := Fa5_456.other W463 (Or.inl ne1a3_437)
  have V_a2_470 := V_a2_450.other W463 da2a3_437
  have Va4_471 := Va4_458.other W463 (Ne.symm da3a4_437)
  have Va5_472 := Va5_459.other W463 (Ne.symm da3a5_437)
  have zh463 : n0 ≤ h463.size := Nat.le_trans zh450 (Nat.le_of_eq W463.size.symm)
  have K0_463 : Keep h0 h463 [a1, a2, a3, a4, a5] := K0_450.wr W463 (Or.inl (List.mem_of_getElem? (i := 2) rfl))
  have N463 := Fr.snoc X463 N450 loa3_437
  obtain ⟨T473, X473, e473, st473⟩ := getF X463 hx hZ hown (host := "") (Or.inl (hw _ (List.mem_of_getElem? (i := 15) rfl))) Via.refl e463 Fa4_468 (g := (mkF m 78 #[.val (.ref a1), .val (.long q1), .second, .val (.long q2), .second, .val (.long q3), .second, .val (.long q4), .second] [(.ref a1)])) rfl rfl (hb hby d3_78)
  obtain ⟨T474, X474, e474, st474⟩ := getF X473 hx hZ hown (host := "") (Or.inl (hw _ (List.mem_of_getElem? (i := 24) rfl))) Via.refl e473 Fc_465 (g := (mkF m 82 #[.val (.ref a1), .val (.long q1), .second, .val (.long q2), .second, .val (.long q3), .second, .val (.long q4), .second] [(.ref a1), (.ref a4)])) rfl rfl (hb hby d3_82)
  obtain ⟨cl475, Ar475, q475, S475, P475, H475, G475⟩ := Va4_471
  have hin476 : ¬ ((1 : Int32) < 0 ∨ cl475.slots.size ≤ ((1 : Int32)).toNatClampNeg) := inb_of S475 ⟨by decide, by decide⟩
  obtain ⟨T476, h476, X476, e476, W476, st476⟩ := stJ X474 hx hZ e474 Ar475 (j := (1 : Int32)) hin476 (g := (mkF m 87 #[.val (.ref a1), .val (.long q1), .second, .val (.long q2), .second, .val (.long q3), .second, .val (.long q4), .second] [(.long q3), (.int (1 : Int32)), (.ref a4)])) rfl rfl (hb hby d3_87)
  have V_a4_476 : Arv Z h476 a4 k4 .long (8 : Int32) [(.long y4), (.long q3), (.long (0 : Int64)), (.long (0 : Int64)), (.long (0 : Int64)), (.long (0 : Int64)), (.long (0 : Int64)), (.long (0 : Int64))] (.long (0 : Int64)) := Arv.set Ar475 q475 S475 P475 H475 G475 rfl W476 1 rfl (Nat.le_of_ble_eq_true rfl)
  have E1_477 := E1_464.wr W476
  have Fc_478 := Fc_465.other W476 (Or.inl ne1a4_437)
  have Fa2_479 := Fa2_466.other W476 (Or.inl ne1a4_437)
  have Fa3_480 := Fa3_467.other W476 (Or.inl ne1a4_437)
  have Fa4_481 := Fa4_468.other W476 (Or.inl ne1a4_437)
  have Fa5_482 := Fa5_469.other W476 (Or.inl ne1a4_437)
  have V_a2_483 := V_a2_470.other W476 da2a4_437
  have V_a3_484 := V_a3_463.other W476 da3a4_437
  have Va5_485 := Va5_472.other W476 (Ne.symm da4a5_437)
  have zh476 : n0 ≤ h476.size := Nat.le_trans zh463 (Nat.le_of_eq W476.size.symm)
  have K0_476 : Keep h0 h476 [a1, a2, a3, a4, a5] := K0_463.wr W476 (Or.inl (List.mem_of_getElem? (i := 3) rfl))
  have N476 := Fr.snoc X476 N463 loa4_437
  obtain ⟨T486, X486, e486, st486⟩ := getF X476 hx hZ hown (host := "") (Or.inl (hw _ (List.mem_of_getElem? (i := 17) rfl))) Via.refl e476 Fa5_482 (g := (mkF m 89 #[.val (.ref a1), .val (.long q1), .second, .val (.long q2), .second, .val (.long q3), .second, .val (.long q4), .second] [(.ref a1)])) rfl rfl (hb hby d3_89)
  obtain ⟨T487, X487, e487, st487⟩ := getF X486 hx hZ hown (host := "") (Or.inl (hw _ (List.mem_of_getElem? (i := 24) rfl))) Via.refl e486 Fc_478 (g := (mkF m 93 #[.val (.ref a1), .val (.long q1), .second, .val (.long q2), .second, .val (.long q3), .second, .val (.long q4), .second] [(.ref a1), (.ref a5)])) rfl rfl (hb hby d3_93)
  obtain ⟨cl488, Ar488, q488, S488, P488, H488, G488⟩ := Va5_485
  have hin489 : ¬ ((1 : Int32) < 0 ∨ cl488.slots.size ≤ ((1 : Int32)).toNatClampNeg) := inb_of S488 ⟨by decide, by decide⟩
  obtain ⟨T489, h489, X489, e489, W489, st489⟩ := stJ X487 hx hZ e487 Ar488 (j := (1 : Int32)) hin489 (g := (mkF m 98 #[.val (.ref a1), .val (.long q1), .second, .val (.long q2), .second, .val (.long q3), .second, .val (.long q4), .second] [(.long q4), (.int (1 : Int32)), (.ref a5)])) rfl rfl (hb hby d3_98)
  have V_a5_489 : Arv Z h489 a5 k5 .long (8 : Int32) [(.long y5), (.long q4), (.long (0 : Int64)), (.long (0 : Int64)), (.long (0 : Int64)), (.long (0 : Int64)), (.long (0 : Int64)), (.long (0 : Int64))] (.long (0 : Int64)) := Arv.set Ar488 q488 S488 P488 H488 G488 rfl W489 1 rfl (Nat.le_of_ble_eq_true rfl)
  have E1_490 := E1_477.wr W489
  have Fc_491 := Fc_478.other W489 (Or.inl ne1a5_437)
  have Fa2_492 := Fa2_479.other W489 (Or.inl ne1a5_437)
  have Fa3_493 := Fa3_480.other W489 (Or.inl ne1a5_437)
  have Fa4_494 := Fa4_481.other W489 (Or.inl ne1a5_437)
  have Fa5_495 := Fa5_482.other W489 (Or.inl ne1a5_437)
  have V_a2_496 := V_a2_483.other W489 da2a5_437
  have V_a3_497 := V_a3_484.other W489 da3a5_437
  have V_a4_498 := V_a4_476.other W489 da4a5_437
  have zh489 : n0 ≤ h489.size := Nat.le_trans zh476 (Nat.le_of_eq W489.size.symm)
  have K0_489 : Keep h0 h489 [a1, a2, a3, a4, a5] := K0_476.wr W489 (Or.inl (List.mem_of_getElem? (i := 4) rfl))
  have N489 := Fr.snoc X489 N476 loa5_437
  obtain ⟨T499, X499, e499, st499⟩ := getF X489 hx hZ hown (host := "") (Or.inl (hw _ (List.mem_of_getElem? (i := 24) rfl))) Via.refl e489 Fc_491 (g := (mkF m 101 #[.val (.ref a1), .val (.long q1), .second, .val (.long q2), .second, .val (.long q3), .second, .val (.long q4), .second] [(.ref a1), (.ref a1)])) rfl rfl (hb hby d3_101)
  obtain ⟨T500, h500, X500, e500, W500, st500⟩ := putF X499 hx hZ hown (host := "") (Or.inl (hw _ (List.mem_of_getElem? (i := 24) rfl))) Via.refl e499 Fc_491 E1_490 (Or.inl (hw _ (List.mem_of_getElem? (i := 25) rfl))) (hw _ (List.mem_of_getElem? (i := 2) rfl)) (ty := .int) (by decide) rfl rfl (g := (mkF m 106 #[.val (.ref a1), .val (.long q1), .second, .val (.long q2), .second, .val (.long q3), .second, .val (.long q4), .second] [(.int (2 : Int32)), (.ref a1)])) rfl rfl (hb hby d3_106)
  have F_count_a1_500 := Fc_491.same W500
  have E1_501 := E1_490.wr W500
  have Fa2_502 := Fa2_492.other W500 (Or.inr (slot_ne (Or.inl (hw _ (List.mem_of_getElem? (i := 12) rfl))) (Or.inl (hw _ (List.mem_of_getElem? (i := 25) rfl))) (by decide) (t := (.array .long)) (t' := .int) (by decide) (by decide)))
  have Fa3_503 := Fa3_493.other W500 (Or.inr (slot_ne (Or.inl (hw _ (List.mem_of_getElem? (i := 14) rfl))) (Or.inl (hw _ (List.mem_of_getElem? (i := 25) rfl))) (by decide) (t := (.array .long)) (t' := .int) (by decide) (by decide)))
  have Fa4_504 := Fa4_494.other W500 (Or.inr (slot_ne (Or.inl (hw _ (List.mem_of_getElem? (i := 16) rfl))) (Or.inl (hw _ (List.mem_of_getElem? (i := 25) rfl))) (by decide) (t := (.array .long)) (t' := .int) (by decide) (by decide)))
  have Fa5_505 := Fa5_495.other W500 (Or.inr (slot_ne (Or.inl (hw _ (List.mem_of_getElem? (i := 18) rfl))) (Or.inl (hw _ (List.mem_of_getElem? (i := 25) rfl))) (by decide) (t := (.array .long)) (t' := .int) (by decide) (by decide)))
  have V_a2_506 := V_a2_496.other W500 (Ne.symm ne1a2_437)
  have V_a3_507 := V_a3_497.other W500 (Ne.symm ne1a3_437)
  have V_a4_508 := V_a4_498.other W500 (Ne.symm ne1a4_437)
  have V_a5_509 := V_a5_489.other W500 (Ne.symm ne1a5_437)
  have zh500 : n0 ≤ h500.size := Nat.le_trans zh489 (Nat.le_of_eq W500.size.symm)
  have K0_500 : Keep h0 h500 [a1, a2, a3, a4, a5] := K0_489.wr W500 (Or.inl (List.mem_of_getElem? (i := 0) rfl))
  have N500 := Fr.snoc X500 N489 lo1_437
  refine own_Go.mono (T' := T500) (f' := (mkF m 166 #[.val (.ref a1), .val (.long q1), .second, .val (.long q2), .second, .val (.long q3), .second, .val (.long q4), .second] [])) (fun t k => ?_) ?_
  · show Steps p.tables e below (s₁.setTop (mkF m 0 #[.val (.ref a1), .val (.long q1), .second, .val (.long q2), .second, .val (.long q3), .second, .val (.long q4), .second] [])) _
    refine XS.aloadN X0.here hx rfl (hb hby d3_0) rfl rfl ?_
    show Steps p.tables e below (s₁.setTop (mkF m 1 #[.val (.ref a1), .val (.long q1), .second, .val (.long q2), .second, .val (.long q3), .second, .val (.long q4), .second] [(.ref a1)])) _
    refine st438 _ ?_
    show Steps p.tables e below (T438.setTop (mkF m 4 #[.val (.ref a1), .val (.long q1), .second, .val (.long q2), .second, .val (.long q3), .second, .val (.long q4), .second] [(.int (1 : Int32))])) _
    refine XS.ifNo X438.here hx rfl (hb hby d3_4) rfl ((if0 _ _).trans (feq (by decide)).1) ?_
    show Steps p.tables e below (T438.setTop (mkF m 7 #[.val (.ref a1), .val (.long q1), .second, .val (.long q2), .second, .val (.long q3), .second, .val (.long q4), .second] [])) _
    refine XS.lloadN X438.here hx rfl (hb hby d3_7) rfl ?_
    show Steps p.tables e below (T438.setTop (mkF m 8 #[.val (.ref a1), .val (.long q1), .second, .val (.long q2), .second, .val (.long q3), .second, .val (.long q4), .second] [(.long q2)])) _
    refine XS.aloadN X438.here hx rfl (hb hby d3_8) rfl rfl ?_
    show Steps p.tables e below (T438.setTop (mkF m 9 #[.val (.ref a1), .val (.long q1), .second, .val (.long q2), .second, .val (.long q3), .second, .val (.long q4), .second] [(.ref a1), (.long q2)])) _
    refine st439 _ ?_
    show Steps p.tables e below (T439.setTop (mkF m 12 #[.val (.ref a1), .val (.long q1), .second, .val (.long q2), .second, .val (.long q3), .second, .val (.long q4), .second] [(.ref a3), (.long q2)])) _
    refine XS.aloadN X439.here hx rfl (hb hby d3_12) rfl rfl ?_
    show Steps p.tables e below (T439.setTop (mkF m 13 #[.val (.ref a1), .val (.long q1), .second, .val (.long q2), .second, .val (.long q3), .second, .val (.long q4), .second] [(.ref a1), (.ref a3), (.long q2)])) _
    refine st440 _ ?_
    show Steps p.tables e below (T440.setTop (mkF m 16 #[.val (.ref a1), .val (.long q1), .second, .val (.long q2), .second, .val (.long q3), .second, .val (.long q4), .second] [(.int (1 : Int32)), (.ref a3), (.long q2)])) _
    refine XS.iconst X440.here hx rfl (hb hby d3_16) ?_
    show Steps p.tables e below (T440.setTop (mkF m 17 #[.val (.ref a1), .val (.long q1), .second, .val (.long q2), .second, .val (.long q3), .second, .val (.long q4), .second] [(.int (1 : Int32)), (.int (1 : Int32)), (.ref a3), (.long q2)])) _
    refine XS.isub X440.here hx rfl (hb hby d3_17) rfl ?_
    show Steps p.tables e below (T440.setTop (mkF m 18 #[.val (.ref a1), .val (.long q1), .second, .val (.long q2), .second, .val (.long q3), .second, .val (.long q4), .second] [(.int (0 : Int32)), (.ref a3), (.long q2)])) _
    refine X440.laload hx (j := (0 : Int32)) (v := (.long y3)) (by rw [e440]; exact Ar441.1) (State.isArrayOf_alike hZ.alike Ar441.2.1) Ar441.2.2 hin442 hat442 (g := (mkF m 18 #[.val (.ref a1), .val (.long q1), .second, .val (.long q2), .second, .val (.long q3), .second, .val (.long q4), .second] [(.int (0 : Int32)), (.ref a3), (.long q2)])) rfl rfl (hb hby d3_18) _ ?_
    show Steps p.tables e below (T440.setTop (mkF m 19 #[.val (.ref a1), .val (.long q1), .second, .val (.long q2), .second, .val (.long q3), .second, .val (.long q4), .second] [(.long y3), (.long q2)])) _
    refine XS.lsub X440.here hx rfl (hb hby d3_19) rfl ?_
    show Steps p.tables e below (T440.setTop (mkF m 20 #[.val (.ref a1), .val (.long q1), .second, .val (.long q2), .second, .val (.long q3), .second, .val (.long q4), .second] [(.long (q2 - y3))])) _
    refine X440.ldc2Long hx hown (mvT hZ (hw _ (List.mem_of_getElem? (i := 26) rfl))) (g := (mkF m 20 #[.val (.ref a1), .val (.long q1), .second, .val (.long q2), .second, .val (.long q3), .second, .val (.long q4), .second] [(.long (q2 - y3))])) rfl (hb hby d3_20) _ ?_
    show Steps p.tables e below (T440.setTop (mkF m 23 #[.val (.ref a1), .val (.long q1), .second, .val (.long q2), .second, .val (.long q3), .second, .val (.long q4), .second] [(.long (32768 : Int64)), (.long (q2 - y3))])) _
    refine XS.lcmp X440.here hx rfl (hb hby d3_23) rfl ?_
    show Steps p.tables e below (T440.setTop (mkF m 24 #[.val (.ref a1), .val (.long q1), .second, .val (.long q2), .second, .val (.long q3), .second, .val (.long q4), .second] [(.int (lcmpW (q2 - y3) (32768 : Int64)))])) _
    refine XS.ifNo X440.here hx rfl (hb hby d3_24) rfl ((if0 _ _).trans (flt (mt own_lt.mp hd)).1) ?_
    show Steps p.tables e below (T440.setTop (mkF m 27 #[.val (.ref a1), .val (.long q1), .second, .val (.long q2), .second, .val (.long q3), .second, .val (.long q4), .second] [])) _
    refine XS.aloadN X440.here hx rfl (hb hby d3_27) rfl rfl ?_
    show Steps p.tables e below (T440.setTop (mkF m 28 #[.val (.ref a1), .val (.long q1), .second, .val (.long q2), .second, .val (.long q3), .second, .val (.long q4), .second] [(.ref a1)])) _
    refine st443 _ ?_
    show Steps p.tables e below (T443.setTop (mkF m 31 #[.val (.ref a1), .val (.long q1), .second, .val (.long q2), .second, .val (.long q3), .second, .val (.long q4), .second] [(.int (1 : Int32))])) _
    refine XS.aloadN X443.here hx rfl (hb hby d3_31) rfl rfl ?_
    show Steps p.tables e below (T443.setTop (mkF m 32 #[.val (.ref a1), .val (.long q1), .second, .val (.long q2), .second, .val (.long q3), .second, .val (.long q4), .second] [(.ref a1), (.int (1 : Int32))])) _
    refine st444 _ ?_
    show Steps p.tables e below (T444.setTop (mkF m 35 #[.val (.ref a1), .val (.long q1), .second, .val (.long q2), .second, .val (.long q3), .second, .val (.long q4), .second] [(.ref a2), (.int (1 : Int32))])) _
    refine X444.arraylength hx (by rw [e444]; exact Ar445.1) (State.isArrayOf_alike hZ.alike Ar445.2.1) (g := (mkF m 35 #[.val (.ref a1), .val (.long q1), .second, .val (.long q2), .second, .val (.long q3), .second, .val (.long q4), .second] [(.ref a2), (.int (1 : Int32))])) rfl rfl (hb hby d3_35) _ ?_
    rw [len_of S445 P445]
    show Steps p.tables e below (T444.setTop (mkF m 36 #[.val (.ref a1), .val (.long q1), .second, .val (.long q2), .second, .val (.long q3), .second, .val (.long q4), .second] [(.int (8 : Int32)), (.int (1 : Int32))])) _
    refine XS.icmpYes X444.here hx rfl (pc0 := 36) (pc' := 57) rfl (hb hby d3_36) rfl (feq (by decide)).2 (by decide) (by decide) ?_
    show Steps p.tables e below (T444.setTop (mkF m 57 #[.val (.ref a1), .val (.long q1), .second, .val (.long q2), .second, .val (.long q3), .second, .val (.long q4), .second] [])) _
    refine XS.aloadN X444.here hx rfl (hb hby d3_57) rfl rfl ?_
    show Steps p.tables e below (T444.setTop (mkF m 58 #[.val (.ref a1), .val (.long q1), .second, .val (.long q2), .second, .val (.long q3), .second, .val (.long q4), .second] [(.ref a1)])) _
    refine st447 _ ?_
    show Steps p.tables e below (T447.setTop (mkF m 61 #[.val (.ref a1), .val (.long q1), .second, .val (.long q2), .second, .val (.long q3), .second, .val (.long q4), .second] [(.ref a2)])) _
    refine XS.aloadN X447.here hx rfl (hb hby d3_61) rfl rfl ?_
    show Steps p.tables e below (T447.setTop (mkF m 62 #[.val (.ref a1), .val (.long q1), .second, .val (.long q2), .second, .val (.long q3), .second, .val (.long q4), .second] [(.ref a1), (.ref a2)])) _
    refine st448 _ ?_
    show Steps p.tables e below (T448.setTop (mkF m 65 #[.val (.ref a1), .val (.long q1), .second, .val (.long q2), .second, .val (.long q3), .second, .val (.long q4), .second] [(.int (1 : Int32)), (.ref a2)])) _
    refine XS.lloadN X448.here hx rfl (hb hby d3_65) rfl ?_
    show Steps p.tables e below (T448.setTop (mkF m 66 #[.val (.ref a1), .val (.long q1), .second, .val (.long q2), .second, .val (.long q3), .second, .val (.long q4), .second] [(.long q1), (.int (1 : Int32)), (.ref a2)])) _
    refine st450 _ ?_
    show Steps p.tables e below (T450.setTop (mkF m 67 #[.val (.ref a1), .val (.long q1), .second, .val (.long q2), .second, .val (.long q3), .second, .val (.long q4), .second] [])) _
    refine XS.aloadN X450.here hx rfl (hb hby d3_67) rfl rfl ?_
    show Steps p.tables e below (T450.setTop (mkF m 68 #[.val (.ref a1), .val (.long q1), .second, .val (.long q2), .second, .val (.long q3), .second, .val (.long q4), .second] [(.ref a1)])) _
    refine st460 _ ?_
    show Steps p.tables e below (T460.setTop (mkF m 71 #[.val (.ref a1), .val (.long q1), .second, .val (.long q2), .second, .val (.long q3), .second, .val (.long q4), .second] [(.ref a3)])) _
    refine XS.aloadN X460.here hx rfl (hb hby d3_71) rfl rfl ?_
    show Steps p.tables e below (T460.setTop (mkF m 72 #[.val (.ref a1), .val (.long q1), .second, .val (.long q2), .second, .val (.long q3), .second, .val (.long q4), .second] [(.ref a1), (.ref a3)])) _
    refine st461 _ ?_
    show Steps p.tables e below (T461.setTop (mkF m 75 #[.val (.ref a1), .val (.long q1), .second, .val (.long q2), .second, .val (.long q3), .second, .val (.long q4), .second] [(.int (1 : Int32)), (.ref a3)])) _
    refine XS.lloadN X461.here hx rfl (hb hby d3_75) rfl ?_
    show Steps p.tables e below (T461.setTop (mkF m 76 #[.val (.ref a1), .val (.long q1), .second, .val (.long q2), .second, .val (.long q3), .second, .val (.long q4), .second] [(.long q2), (.int (1 : Int32)), (.ref a3)])) _
    refine st463 _ ?_
    show Steps p.tables e below (T463.setTop (mkF m 77 #[.val (.ref a1), .val (.long q1), .second, .val (.long q2), .second, .val (.long q3), .second, .val (.long q4), .second] [])) _
    refine XS.aloadN X463.here hx rfl (hb hby d3_77) rfl rfl ?_
    show Steps p.tables e below (T463.setTop (mkF m 78 #[.val (.ref a1), .val (.long q1), .second, .val (.long q2), .second, .val (.long q3), .second, .val (.long q4), .second] [(.ref a1)])) _
    refine st473 _ ?_
    show Steps p.tables e below (T473.setTop (mkF m 81 #[.val (.ref a1), .val (.long q1), .second, .val (.long q2), .second, .val (.long q3), .second, .val (.long q4), .second] [(.ref a4)])) _
    refine XS.aloadN X473.here hx rfl (hb hby d3_81) rfl rfl ?_
    show Steps p.tables e below (T473.setTop (mkF m 82 #[.val (.ref a1), .val (.long q1), .second, .val (.long q2), .second, .val (.long q3), .second, .val (.long q4), .second] [(.ref a1), (.ref a4)])) _
    refine st474 _ ?_
    show Steps p.tables e below (T474.setTop (mkF m 85 #[.val (.ref a1), .val (.long q1), .second, .val (.long q2), .second, .val (.long q3), .second, .val (.long q4), .second] [(.int (1 : Int32)), (.ref a4)])) _
    refine XS.lload X474.here hx rfl (hb hby d3_85) rfl ?_
    show Steps p.tables e below (T474.setTop (mkF m 87 #[.val (.ref a1), .val (.long q1), .second, .val (.long q2), .second, .val (.long q3), .second, .val (.long q4), .second] [(.long q3), (.int (1 : Int32)), (.ref a4)])) _
    refine st476 _ ?_
    show Steps p.tables e below (T476.setTop (mkF m 88 #[.val (.ref a1), .val (.long q1), .second, .val (.long q2), .second, .val (.long q3), .second, .val (.long q4), .second] [])) _
    refine XS.aloadN X476.here hx rfl (hb hby d3_88) rfl rfl ?_
    show Steps p.tables e below (T476.setTop (mkF m 89 #[.val (.ref a1), .val (.long q1), .second, .val (.long q2), .second, .val (.long q3), .second, .val (.long q4), .second] [(.ref a1)])) _
    refine st486 _ ?_
    show Steps p.tables e below (T486.setTop (mkF m 92 #[.val (.ref a1), .val (.long q1), .second, .val (.long q2), .second, .val (.long q3), .second, .val (.long q4), .second] [(.ref a5)])) _
    refine XS.aloadN X486.here hx rfl (hb hby d3_92) rfl rfl ?_
    show Steps p.tables e below (T486.setTop (mkF m 93 #[.val (.ref a1), .val (.long q1), .second, .val (.long q2), .second, .val (.long q3), .second, .val (.long q4), .second] [(.ref a1), (.ref a5)])) _
    refine st487 _ ?_
    show Steps p.tables e below (T487.setTop (mkF m 96 #[.val (.ref a1), .val (.long q1), .second, .val (.long q2), .second, .val (.long q3), .second, .val (.long q4), .second] [(.int (1 : Int32)), (.ref a5)])) _
    refine XS.lload X487.here hx rfl (hb hby d3_96) rfl ?_
    show Steps p.tables e below (T487.setTop (mkF m 98 #[.val (.ref a1), .val (.long q1), .second, .val (.long q2), .second, .val (.long q3), .second, .val (.long q4), .second] [(.long q4), (.int (1 : Int32)), (.ref a5)])) _
    refine st489 _ ?_
    show Steps p.tables e below (T489.setTop (mkF m 99 #[.val (.ref a1), .val (.long q1), .second, .val (.long q2), .second, .val (.long q3), .second, .val (.long q4), .second] [])) _
    refine XS.aloadN X489.here hx rfl (hb hby d3_99) rfl rfl ?_
    show Steps p.tables e below (T489.setTop (mkF m 100 #[.val (.ref a1), .val (.long q1), .second, .val (.long q2), .second, .val (.long q3), .second, .val (.long q4), .second] [(.ref a1)])) _
    refine XS.dup X489.here hx rfl (hb hby d3_100) rfl rfl ?_
    show Steps p.tables e below (T489.setTop (mkF m 101 #[.val (.ref a1), .val (.long q1), .second, .val (.long q2), .second, .val (.long q3), .second, .val (.long q4), .second] [(.ref a1), (.ref a1)])) _
    refine st499 _ ?_
    show Steps p.tables e below (T499.setTop (mkF m 104 #[.val (.ref a1), .val (.long q1), .second, .val (.long q2), .second, .val (.long q3), .second, .val (.long q4), .second] [(.int (1 : Int32)), (.ref a1)])) _
    refine XS.iconst X499.here hx rfl (hb hby d3_104) ?_
    show Steps p.tables e below (T499.setTop (mkF m 105 #[.val (.ref a1), .val (.long q1), .second, .val (.long q2), .second, .val (.long q3), .second, .val (.long q4), .second] [(.int (1 : Int32)), (.int (1 : Int32)), (.ref a1)])) _
    refine XS.iadd X499.here hx rfl (hb hby d3_105) rfl ?_
    show Steps p.tables e below (T499.setTop (mkF m 106 #[.val (.ref a1), .val (.long q1), .second, .val (.long q2), .second, .val (.long q3), .second, .val (.long q4), .second] [(.int (2 : Int32)), (.ref a1)])) _
    refine st500 _ ?_
    show Steps p.tables e below (T500.setTop (mkF m 109 #[.val (.ref a1), .val (.long q1), .second, .val (.long q2), .second, .val (.long q3), .second, .val (.long q4), .second] [])) _
    refine XS.goto X500.here hx rfl (pc0 := 109) (pc' := 166) rfl (hb hby d3_109) (by decide) (by decide) ?_
    show Steps p.tables e below (T500.setTop (mkF m 166 #[.val (.ref a1), .val (.long q1), .second, .val (.long q2), .second, .val (.long q3), .second, .val (.long q4), .second] [])) _
    exact k
  exact own_retV X500 hx hret hlk (hb hby d3_166) ((by rw [e500]; exact ⟨rfl, N500, K0_500, ⟨E1_501, F_count_a1_500, Fa2_502, Fa3_503, Fa4_504, Fa5_505, V_a2_506, V_a3_507, V_a4_508, V_a5_509, da2a3_437, da2a4_437, da2a5_437, da3a4_437, da3a5_437, da4a5_437, lo1_437, loa2_437, loa3_437, loa4_437, loa5_437⟩⟩)) (by decide) (by decide)
theorem ef_rmaD (m : MethodId) (x0 : Addr) (x1 : Int64) (x2 : Int64) (x3 : Int64) (x4 : Int64) : entryFrame m #[(.ref x0), (.long x1), (.long x2), (.long x3), (.long x4)] 9 = mkF m 0 #[.val (.ref x0), .val (.long x1), .second, .val (.long x2), .second, .val (.long x3), .second, .val (.long x4), .second] [] := by first | (simp [entryFrame, mkF, argsToLocals, Value.category]; done) | rfl
def QaD (Z : State) (a1 : Addr) (q1 : Int64) (q2 : Int64) (q3 : Int64) (q4 : Int64) (a2 : Addr) (a3 : Addr) (a4 : Addr) (a5 : Addr) (k2 : ClassId) (k3 : ClassId) (k4 : ClassId) (k5 : ClassId) (y2 : Int64) (y3 : Int64) (y4 : Int64) (y5 : Int64) (h0 : Heap) (n0 : Nat) (v : Option Value) (h : Heap) (L : List Loc) : Prop := ∃ (c2 c3 c4 c5 : Addr) (j2 j3 j4 j5 : ClassId), v = none ∧ Fr n0 L ∧ Keep h0 h [a1] ∧ own_Seg Z n0 h a1 (2 : Int32) (9 : Int32) c2 c3 c4 c5 j2 j3 j4 j5 [(.long y2), (.long q1), (.long (0 : Int64)), (.long (0 : Int64)), (.long (0 : Int64)), (.long (0 : Int64)), (.long (0 : Int64)), (.long (0 : Int64)), (.long (0 : Int64))] [(.long y3), (.long q2), (.long (0 : Int64)), (.long (0 : Int64)), (.long (0 : Int64)), (.long (0 : Int64)), (.long (0 : Int64)), (.long (0 : Int64)), (.long (0 : Int64))] [(.long y4), (.long q3), (.long (0 : Int64)), (.long (0 : Int64)), (.long (0 : Int64)), (.long (0 : Int64)), (.long (0 : Int64)), (.long (0 : Int64)), (.long (0 : Int64))] [(.long y5), (.long q4), (.long (0 : Int64)), (.long (0 : Int64)), (.long (0 : Int64)), (.long (0 : Int64)), (.long (0 : Int64)), (.long (0 : Int64)), (.long (0 : Int64))]
set_option maxRecDepth 65536 in
set_option maxHeartbeats 40000000 in
theorem rmaD (l : Launch) (Z : State) (a0 : Array Value) (hw : ∀ d ∈ tables_1, d.before a0 Z = true) (ws : List Jvm.Cond) (a1 : Addr) (q1 : Int64) (q2 : Int64) (q3 : Int64) (q4 : Int64) (a2 : Addr) (a3 : Addr) (a4 : Addr) (a5 : Addr) (k2 : ClassId) (k3 : ClassId) (k4 : ClassId) (k5 : ClassId) (y2 : Int64) (y3 : Int64) (y4 : Int64) (y5 : Int64) (h0 : Heap) (n0 : Nat) (Z0 : n0 ≤ h0.size) (G : own_Seg Z n0 h0 a1 (1 : Int32) (1 : Int32) a2 a3 a4 a5 k2 k3 k4 k5 [(.long y2)] [(.long y3)] [(.long y4)] [(.long y5)]) (hd : ¬ (q2 - y3) < 32768) :
    MetFree l (⟨"com/example/uplog/uplog/SegmentIndex", "add", "(JJJJ)V"⟩ : MethodName) (head1 (Jvm.Cond.code (⟨"com/example/uplog/uplog/SegmentIndex", "add", "(JJJJ)V"⟩ : MethodName) prog_12_method_2_code 9 none :: ws) ({ frames := 3, cells := 4, slots := 36, locals := 52 } : Room)) (fun a U => a = #[(.ref a1), (.long q1), (.long q2), (.long q3), (.long q4)] ∧ Z.Warmed39 U.vm ∧ U.heap = h0) (fun _ _ _ _ _ => True) (fun _ U o U' => ∃ v L, o = .returned v ∧ QaD Z a1 q1 q2 q3 q4 a2 a3 a4 a5 k2 k3 k4 k5 y2 y3 y4 y5 h0 n0 v U'.heap L ∧ FrameEnd U o U' L 4 36) := by
  refine own_body (Qv := QaD Z a1 q1 q2 q3 q4 a2 a3 a4 a5 k2 k3 k4 k5 y2 y3 y4 y5 h0 n0) (plainFor_of_name (by first | (simp [plainName, overriddenIn]; done) | decide +kernel)) ?_
  intro p e s m below meth c s₁ hx hby hml hret hlk hown hnm hZ X0 e0
  replace hown : s.vm.findClass "com/example/uplog/uplog/SegmentIndex" = some m.cls := hown
  replace hnm : meth.name = "add" := hnm
  have N0 := Fr.nil n0
  refine own_Go.mono (T' := s₁) (f' := (mkF m 0 #[.val (.ref a1), .val (.long q1), .second, .val (.long q2), .second, .val (.long q3), .second, .val (.long q4), .second] [])) (fun t k => castTop (ef_rmaD m a1 q1 q2 q3 q4) k) ?_
  have K0_0 : Keep h0 h0 [a1] := Keep.refl _ _
  have G0 := G
  obtain ⟨E1_510, Fc_510, Fa2_510, Fa3_510, Fa4_510, Fa5_510, Va2_510, Va3_510, Va4_510, Va5_510, da2a3_510, da2a4_510, da2a5_510, da3a4_510, da3a5_510, da4a5_510, lo1_510, loa2_510, loa3_510, loa4_510, loa5_510⟩ := G
  have ne1a2_510 : a1 ≠ a2 := Exa.neArv E1_510 Va2_510 (hw _ (List.mem_of_getElem? (i := 2) rfl))
  have ne1a3_510 : a1 ≠ a3 := Exa.neArv E1_510 Va3_510 (hw _ (List.mem_of_getElem? (i := 2) rfl))
  have ne1a4_510 : a1 ≠ a4 := Exa.neArv E1_510 Va4_510 (hw _ (List.mem_of_getElem? (i := 2) rfl))
  have ne1a5_510 : a1 ≠ a5 := Exa.neArv E1_510 Va5_510 (hw _ (List.mem_of_getElem? (i := 2) rfl))
  obtain ⟨T511, X511, e511, st511⟩ := getF X0 hx hZ hown (host := "") (Or.inl (hw _ (List.mem_of_getElem? (i := 24) rfl))) Via.refl e0 Fc_510 (g := (mkF m 1 #[.val (.ref a1), .val (.long q1), .second, .val (.long q2), .second, .val (.long q3), .second, .val (.long q4), .second] [(.ref a1)])) rfl rfl (hb hby d3_1)
  obtain ⟨T512, X512, e512, st512⟩ := getF X511 hx hZ hown (host := "") (Or.inl (hw _ (List.mem_of_getElem? (i := 13) rfl))) Via.refl e511 Fa3_510 (g := (mkF m 9 #[.val (.ref a1), .val (.long q1), .second, .val (.long q2), .second, .val (.long q3), .second, .val (.long q4), .second] [(.ref a1), (.long q2)])) rfl rfl (hb hby d3_9)
  obtain ⟨T513, X513, e513, st513⟩ := getF X512 hx hZ hown (host := "") (Or.inl (hw _ (List.mem_of_getElem? (i := 24) rfl))) Via.refl e512 Fc_510 (g := (mkF m 13 #[.val (.ref a1), .val (.long q1), .second, .val (.long q2), .second, .val (.long q3), .second, .val (.long q4), .second] [(.ref a1), (.ref a3), (.long q2)])) rfl rfl (hb hby d3_13)
  obtain ⟨cl514, Ar514, q514, S514, P514, H514, G514⟩ := Va3_510
  have hin515 : ¬ ((0 : Int32) < 0 ∨ cl514.slots.size ≤ ((0 : Int32)).toNatClampNeg) := inb_of S514 ⟨by decide, by decide⟩
  have hat515 : cl514.slots[((0 : Int32)).toNatClampNeg]? = some (.long y3) := H514.at hin515 rfl
  have V_a3_515 : Arv Z h0 a3 k3 .long (1 : Int32) [(.long y3)] (.long (0 : Int64)) := ⟨cl514, Ar514, q514, S514, P514, H514, G514⟩
  obtain ⟨T516, X516, e516, st516⟩ := getF X513 hx hZ hown (host := "") (Or.inl (hw _ (List.mem_of_getElem? (i := 24) rfl))) Via.refl e513 Fc_510 (g := (mkF m 28 #[.val (.ref a1), .val (.long q1), .second, .val (.long q2), .second, .val (.long q3), .second, .val (.long q4), .second] [(.ref a1)])) rfl rfl (hb hby d3_28)
  obtain ⟨T517, X517, e517, st517⟩ := getF X516 hx hZ hown (host := "") (Or.inl (hw _ (List.mem_of_getElem? (i := 11) rfl))) Via.refl e516 Fa2_510 (g := (mkF m 32 #[.val (.ref a1), .val (.long q1), .second, .val (.long q2), .second, .val (.long q3), .second, .val (.long q4), .second] [(.ref a1), (.int (1 : Int32))])) rfl rfl (hb hby d3_32)
  obtain ⟨cl518, Ar518, q518, S518, P518, H518, G518⟩ := Va2_510
  have V_a2_519 : Arv Z h0 a2 k2 .long (1 : Int32) [(.long y2)] (.long (0 : Int64)) := ⟨cl518, Ar518, q518, S518, P518, H518, G518⟩
  obtain ⟨T520, X520, e520, st520⟩ := getF X517 hx hZ hown (host := "") (Or.inl (hw _ (List.mem_of_getElem? (i := 24) rfl))) Via.refl e517 Fc_510 (g := (mkF m 41 #[.val (.ref a1), .val (.long q1), .second, .val (.long q2), .second, .val (.long q3), .second, .val (.long q4), .second] [(.ref a1), (.ref a1)])) rfl rfl (hb hby d3_41)
  obtain ⟨T521, X521, e521, st521⟩ := getF X520 hx hZ hown (host := "") (Or.inl (hw _ (List.mem_of_getElem? (i := 24) rfl))) Via.refl e520 Fc_510 (g := (mkF m 45 #[.val (.ref a1), .val (.long q1), .second, .val (.long q2), .second, .val (.long q3), .second, .val (.long q4), .second] [(.ref a1), (.int (1 : Int32)), (.ref a1)])) rfl rfl (hb hby d3_45)
  obtain ⟨_, _, ⟨T522, L522, k522, n522⟩, -, X522, ⟨Lc522, hQ522, l522, y522, z522⟩, st522⟩ := Jvm.LawKit.callS X521 hx (y := (⟨"java/lang/Math", "max", "(II)I"⟩ : MethodName)) hown (mvT hZ (hw _ (List.mem_of_getElem? (i := 78) rfl))) (mvT hZ (hw _ (List.mem_of_getElem? (i := 79) rfl))) (mvT hZ (hw _ (List.mem_of_getElem? (i := 55) rfl))) (mvT hZ (hw _ (List.mem_of_getElem? (i := 80) rfl))) (by decide) (backOf (W := 2) (rm14 l Z a0 hw [] (1 : Int32) (8 : Int32) h0 n0 Z0) hZ (hw _ (List.mem_of_getElem? (i := 80) rfl)) (hw _ (List.mem_of_getElem? (i := 55) rfl)) (by decide) (by decide)) (g := (mkF m 50 #[.val (.ref a1), .val (.long q1), .second, .val (.long q2), .second, .val (.long q3), .second, .val (.long q4), .second] [(.int (8 : Int32)), (.int (1 : Int32)), (.int (1 : Int32)), (.ref a1)])) rfl (by rw [hml]; rfl) (argsL := [(.int (1 : Int32)), (.int (8 : Int32))]) (rest := [(.int (1 : Int32)), (.ref a1)]) (lenOf pd_0 rfl) rfl (by show 2 * 0 + _ ≤ _; exact Nat.le_of_eq rfl) (hb hby d3_50) (fun _ _ => ⟨rfl, e521, (by decide : 0 + 0 ≤ _), (by decide : 0 + 0 ≤ _)⟩)
  dsimp only [Pt.U, Pt.locs, Pt.cells, Pt.slots] at X522 l522 y522 z522 st522 hQ522
  subst l522 y522 z522
  obtain ⟨rfl, N522q, hh522⟩ := hQ522
  have N522 := Fr.app N0 N522q
  refine own_Go.mono (T' := T522) (f' := (mkF m 53 #[.val (.ref a1), .val (.long q1), .second, .val (.long q2), .second, .val (.long q3), .second, .val (.long q4), .second] [(.int (B14_0 (1 : Int32) (8 : Int32))), (.int (1 : Int32)), (.ref a1)])) (fun t k => ?_) ?_
  · show Steps p.tables e below (s₁.setTop (mkF m 0 #[.val (.ref a1), .val (.long q1), .second, .val (.long q2), .second, .val (.long q3), .second, .val (.long q4), .second] [])) _
    refine XS.aloadN X0.here hx rfl (hb hby d3_0) rfl rfl ?_
    show Steps p.tables e below (s₁.setTop (mkF m 1 #[.val (.ref a1), .val (.long q1), .second, .val (.long q2), .second, .val (.long q3), .second, .val (.long q4), .second] [(.ref a1)])) _
    refine st511 _ ?_
    show Steps p.tables e below (T511.setTop (mkF m 4 #[.val (.ref a1), .val (.long q1), .second, .val (.long q2), .second, .val (.long q3), .second, .val (.long q4), .second] [(.int (1 : Int32))])) _
    refine XS.ifNo X511.here hx rfl (hb hby d3_4) rfl ((if0 _ _).trans (feq (by decide)).1) ?_
    show Steps p.tables e below (T511.setTop (mkF m 7 #[.val (.ref a1), .val (.long q1), .second, .val (.long q2), .second, .val (.long q3), .second, .val (.long q4), .second] [])) _
    refine XS.lloadN X511.here hx rfl (hb hby d3_7) rfl ?_
    show Steps p.tables e below (T511.setTop (mkF m 8 #[.val (.ref a1), .val (.long q1), .second, .val (.long q2), .second, .val (.long q3), .second, .val (.long q4), .second] [(.long q2)])) _
    refine XS.aloadN X511.here hx rfl (hb hby d3_8) rfl rfl ?_
    show Steps p.tables e below (T511.setTop (mkF m 9 #[.val (.ref a1), .val (.long q1), .second, .val (.long q2), .second, .val (.long q3), .second, .val (.long q4), .second] [(.ref a1), (.long q2)])) _
    refine st512 _ ?_
    show Steps p.tables e below (T512.setTop (mkF m 12 #[.val (.ref a1), .val (.long q1), .second, .val (.long q2), .second, .val (.long q3), .second, .val (.long q4), .second] [(.ref a3), (.long q2)])) _
    refine XS.aloadN X512.here hx rfl (hb hby d3_12) rfl rfl ?_
    show Steps p.tables e below (T512.setTop (mkF m 13 #[.val (.ref a1), .val (.long q1), .second, .val (.long q2), .second, .val (.long q3), .second, .val (.long q4), .second] [(.ref a1), (.ref a3), (.long q2)])) _
    refine st513 _ ?_
    show Steps p.tables e below (T513.setTop (mkF m 16 #[.val (.ref a1), .val (.long q1), .second, .val (.long q2), .second, .val (.long q3), .second, .val (.long q4), .second] [(.int (1 : Int32)), (.ref a3), (.long q2)])) _
    refine XS.iconst X513.here hx rfl (hb hby d3_16) ?_
    show Steps p.tables e below (T513.setTop (mkF m 17 #[.val (.ref a1), .val (.long q1), .second, .val (.long q2), .second, .val (.long q3), .second, .val (.long q4), .second] [(.int (1 : Int32)), (.int (1 : Int32)), (.ref a3), (.long q2)])) _
    refine XS.isub X513.here hx rfl (hb hby d3_17) rfl ?_
    show Steps p.tables e below (T513.setTop (mkF m 18 #[.val (.ref a1), .val (.long q1), .second, .val (.long q2), .second, .val (.long q3), .second, .val (.long q4), .second] [(.int (0 : Int32)), (.ref a3), (.long q2)])) _
    refine X513.laload hx (j := (0 : Int32)) (v := (.long y3)) (by rw [e513]; exact Ar514.1) (State.isArrayOf_alike hZ.alike Ar514.2.1) Ar514.2.2 hin515 hat515 (g := (mkF m 18 #[.val (.ref a1), .val (.long q1), .second, .val (.long q2), .second, .val (.long q3), .second, .val (.long q4), .second] [(.int (0 : Int32)), (.ref a3), (.long q2)])) rfl rfl (hb hby d3_18) _ ?_
    show Steps p.tables e below (T513.setTop (mkF m 19 #[.val (.ref a1), .val (.long q1), .second, .val (.long q2), .second, .val (.long q3), .second, .val (.long q4), .second] [(.long y3), (.long q2)])) _
    refine XS.lsub X513.here hx rfl (hb hby d3_19) rfl ?_
    show Steps p.tables e below (T513.setTop (mkF m 20 #[.val (.ref a1), .val (.long q1), .second, .val (.long q2), .second, .val (.long q3), .second, .val (.long q4), .second] [(.long (q2 - y3))])) _
    refine X513.ldc2Long hx hown (mvT hZ (hw _ (List.mem_of_getElem? (i := 26) rfl))) (g := (mkF m 20 #[.val (.ref a1), .val (.long q1), .second, .val (.long q2), .second, .val (.long q3), .second, .val (.long q4), .second] [(.long (q2 - y3))])) rfl (hb hby d3_20) _ ?_
    show Steps p.tables e below (T513.setTop (mkF m 23 #[.val (.ref a1), .val (.long q1), .second, .val (.long q2), .second, .val (.long q3), .second, .val (.long q4), .second] [(.long (32768 : Int64)), (.long (q2 - y3))])) _
    refine XS.lcmp X513.here hx rfl (hb hby d3_23) rfl ?_
    show Steps p.tables e below (T513.setTop (mkF m 24 #[.val (.ref a1), .val (.long q1), .second, .val (.long q2), .second, .val (.long q3), .second, .val (.long q4), .second] [(.int (lcmpW (q2 - y3) (32768 : Int64)))])) _
    refine XS.ifNo X513.here hx rfl (hb hby d3_24) rfl ((if0 _ _).trans (flt (mt own_lt.mp hd)).1) ?_
    show Steps p.tables e below (T513.setTop (mkF m 27 #[.val (.ref a1), .val (.long q1), .second, .val (.long q2), .second, .val (.long q3), .second, .val (.long q4), .second] [])) _
    refine XS.aloadN X513.here hx rfl (hb hby d3_27) rfl rfl ?_
    show Steps p.tables e below (T513.setTop (mkF m 28 #[.val (.ref a1), .val (.long q1), .second, .val (.long q2), .second, .val (.long q3), .second, .val (.long q4), .second] [(.ref a1)])) _
    refine st516 _ ?_
    show Steps p.tables e below (T516.setTop (mkF m 31 #[.val (.ref a1), .val (.long q1), .second, .val (.long q2), .second, .val (.long q3), .second, .val (.long q4), .second] [(.int (1 : Int32))])) _
    refine XS.aloadN X516.here hx rfl (hb hby d3_31) rfl rfl ?_
    show Steps p.tables e below (T516.setTop (mkF m 32 #[.val (.ref a1), .val (.long q1), .second, .val (.long q2), .second, .val (.long q3), .second, .val (.long q4), .second] [(.ref a1), (.int (1 : Int32))])) _
    refine st517 _ ?_
    show Steps p.tables e below (T517.setTop (mkF m 35 #[.val (.ref a1), .val (.long q1), .second, .val (.long q2), .second, .val (.long q3), .second, .val (.long q4), .second] [(.ref a2), (.int (1 : Int32))])) _
    refine X517.arraylength hx (by rw [e517]; exact Ar518.1) (State.isArrayOf_alike hZ.alike Ar518.2.1) (g := (mkF m 35 #[.val (.ref a1), .val (.long q1), .second, .val (.long q2), .second, .val (.long q3), .second, .val (.long q4), .second] [(.ref a2), (.int (1 : Int32))])) rfl rfl (hb hby d3_35) _ ?_
    rw [len_of S518 P518]
    show Steps p.tables e below (T517.setTop (mkF m 36 #[.val (.ref a1), .val (.long q1), .second, .val (.long q2), .second, .val (.long q3), .second, .val (.long q4), .second] [(.int (1 : Int32)), (.int (1 : Int32))])) _
    refine XS.icmpNo X517.here hx rfl (hb hby d3_36) rfl (teq rfl).2 ?_
    show Steps p.tables e below (T517.setTop (mkF m 39 #[.val (.ref a1), .val (.long q1), .second, .val (.long q2), .second, .val (.long q3), .second, .val (.long q4), .second] [])) _
    refine XS.aloadN X517.here hx rfl (hb hby d3_39) rfl rfl ?_
    show Steps p.tables e below (T517.setTop (mkF m 40 #[.val (.ref a1), .val (.long q1), .second, .val (.long q2), .second, .val (.long q3), .second, .val (.long q4), .second] [(.ref a1)])) _
    refine XS.aloadN X517.here hx rfl (hb hby d3_40) rfl rfl ?_
    show Steps p.tables e below (T517.setTop (mkF m 41 #[.val (.ref a1), .val (.long q1), .second, .val (.long q2), .second, .val (.long q3), .second, .val (.long q4), .second] [(.ref a1), (.ref a1)])) _
    refine st520 _ ?_
    show Steps p.tables e below (T520.setTop (mkF m 44 #[.val (.ref a1), .val (.long q1), .second, .val (.long q2), .second, .val (.long q3), .second, .val (.long q4), .second] [(.int (1 : Int32)), (.ref a1)])) _
    refine XS.aloadN X520.here hx rfl (hb hby d3_44) rfl rfl ?_
    show Steps p.tables e below (T520.setTop (mkF m 45 #[.val (.ref a1), .val (.long q1), .second, .val (.long q2), .second, .val (.long q3), .second, .val (.long q4), .second] [(.ref a1), (.int (1 : Int32)), (.ref a1)])) _
    refine st521 _ ?_
    show Steps p.tables e below (T521.setTop (mkF m 48 #[.val (.ref a1), .val (.long q1), .second, .val (.long q2), .second, .val (.long q3), .second, .val (.long q4), .second] [(.int (1 : Int32)), (.int (1 : Int32)), (.ref a1)])) _
    refine XS.bipush X521.here hx rfl (hb hby d3_48) ?_
    show Steps p.tables e below (T521.setTop (mkF m 50 #[.val (.ref a1), .val (.long q1), .second, .val (.long q2), .second, .val (.long q3), .second, .val (.long q4), .second] [(.int (8 : Int32)), (.int (1 : Int32)), (.int (1 : Int32)), (.ref a1)])) _
    refine st522 _ ?_
    show Steps p.tables e below (T522.setTop (mkF m 53 #[.val (.ref a1), .val (.long q1), .second, .val (.long q2), .second, .val (.long q3), .second, .val (.long q4), .second] [(.int (B14_0 (1 : Int32) (8 : Int32))), (.int (1 : Int32)), (.ref a1)])) _
    exact k
  rw [show (B14_0 (1 : Int32) (8 : Int32)) = (8 : Int32) from by decide]
  obtain ⟨cq523, q523, q523'⟩ := E1_510.cell
  obtain ⟨_, _, ⟨T523, L523, k523, n523⟩, -, X523, ⟨Lc523, hQ523, l523, y523, z523⟩, st523⟩ := X522.privateBack hx (y := (⟨"com/example/uplog/uplog/SegmentIndex", "resize", "(I)V"⟩ : MethodName)) hown (mvT hZ (hw _ (List.mem_of_getElem? (i := 63) rfl))) (mvT hZ (hw _ (List.mem_of_getElem? (i := 64) rfl))) (Jvm.Kit.selects_private (by decide) (mvT hZ (hw _ (List.mem_of_getElem? (i := 2) rfl))) (mvP hZ (hw _ (List.mem_of_getElem? (i := 65) rfl))) (mvT hZ (hw _ (List.mem_of_getElem? (i := 64) rfl)))) (Cond.privateMethod_at (mvP hZ (hw _ (List.mem_of_getElem? (i := 65) rfl)) (args := #[]))) (mvT hZ (hw _ (List.mem_of_getElem? (i := 66) rfl))) (by decide) (backOf (W := 0) (rmr1 l Z a0 hw [] a1 (9 : Int32) a2 a3 a4 a5 k2 k3 k4 k5 y2 y3 y4 y5 h0 n0 Z0 G0 rfl) hZ (hw _ (List.mem_of_getElem? (i := 66) rfl)) (hw _ (List.mem_of_getElem? (i := 3) rfl)) (by decide) (by decide)) (g := (mkF m 54 #[.val (.ref a1), .val (.long q1), .second, .val (.long q2), .second, .val (.long q3), .second, .val (.long q4), .second] [(.int (9 : Int32)), (.ref a1)])) rfl (by rw [hml]; rfl) (Steps.refl _) (a := a1) (by rw [hh522]; exact q523) q523' (argsL := [(.int (9 : Int32))]) (rest := []) (lenOf pd_2 rfl) rfl (by show 2 * 0 + _ ≤ _; exact Nat.le_of_eq rfl) (hb hby d3_54) (fun _ _ => ⟨rfl, hh522, (by decide : 0 + 4 ≤ _), (by decide : 0 + 36 ≤ _)⟩)
  dsimp only [Pt.U, Pt.locs, Pt.cells, Pt.slots] at X523 l523 y523 z523 st523 hQ523
  subst l523 y523 z523
  obtain ⟨c2, c3, c4, c5, j2, j3, j4, j5, rfl, N523q, K523, sz523, Gs523⟩ := hQ523
  have N523 := Fr.app N522 N523q
  have E1_524 := E1_510.keep K523
  have zh523 : n0 ≤ T523.heap.size := Nat.le_trans Z0 K523.1
  have K0_523 : Keep h0 T523.heap [a1] := K0_0.trans K523 (allS (Or.inl (List.mem_of_getElem? (i := 0) rfl)) all0)
  obtain ⟨sz_c2, sz_c3, sz_c4, sz_c5⟩ := sz523
  obtain ⟨E1_525, Fc_525, Fc2_525, Fc3_525, Fc4_525, Fc5_525, Vc2_525, Vc3_525, Vc4_525, Vc5_525, dc2c3_525, dc2c4_525, dc2c5_525, dc3c4_525, dc3c5_525, dc4c5_525, lo1_525, loc2_525, loc3_525, loc4_525, loc5_525⟩ := Gs523
  have ne1c2_525 : a1 ≠ c2 := Exa.neArv E1_525 Vc2_525 (hw _ (List.mem_of_getElem? (i := 2) rfl))
  have ne1c3_525 : a1 ≠ c3 := Exa.neArv E1_525 Vc3_525 (hw _ (List.mem_of_getElem? (i := 2) rfl))
  have ne1c4_525 : a1 ≠ c4 := Exa.neArv E1_525 Vc4_525 (hw _ (List.mem_of_getElem? (i := 2) rfl))
  have ne1c5_525 : a1 ≠ c5 := Exa.neArv E1_525 Vc5_525 (hw _ (List.mem_of_getElem? (i := 2) rfl))
  obtain ⟨T526, X526, e526, st526⟩ := getF X523 hx hZ hown (host := "") (Or.inl (hw _ (List.mem_of_getElem? (i := 11) rfl))) Via.refl rfl Fc2_525 (g := (mkF m 58 #[.val (.ref a1), .val (.long q1), .second, .val (.long q2), .second, .val (.long q3), .second, .val (.long q4), .second] [(.ref a1)])) rfl rfl (hb hby d3_58)
  obtain ⟨T527, X527, e527, st527⟩ := getF X526 hx hZ hown (host := "") (Or.inl (hw _ (List.mem_of_getElem? (i := 24) rfl))) Via.refl e526 Fc_525 (g := (mkF m 62 #[.val (.ref a1), .val (.long q1), .second, .val (.long q2), .second, .val (.long q3), .second, .val (.long q4), .second] [(.ref a1), (.ref c2)])) rfl rfl (hb hby d3_62)
  obtain ⟨cl528, Ar528, q528, S528, P528, H528, G528⟩ := Vc2_525
  have hin529 : ¬ ((1 : Int32) < 0 ∨ cl528.slots.size ≤ ((1 : Int32)).toNatClampNeg) := inb_of S528 ⟨by decide, by decide⟩
  obtain ⟨T529, h529, X529, e529, W529, st529⟩ := stJ X527 hx hZ e527 Ar528 (j := (1 : Int32)) hin529 (g := (mkF m 66 #[.val (.ref a1), .val (.long q1), .second, .val (.long q2), .second, .val (.long q3), .second, .val (.long q4), .second] [(.long q1), (.int (1 : Int32)), (.ref c2)])) rfl rfl (hb hby d3_66)
  have V_c2_529 : Arv Z h529 c2 j2 .long (9 : Int32) [(.long y2), (.long q1), (.long (0 : Int64)), (.long (0 : Int64)), (.long (0 : Int64)), (.long (0 : Int64)), (.long (0 : Int64)), (.long (0 : Int64)), (.long (0 : Int64))] (.long (0 : Int64)) := Arv.set Ar528 q528 S528 P528 H528 G528 rfl W529 1 rfl (Nat.le_of_ble_eq_true rfl)
  have E1_530 := E1_525.wr W529
  have Fc_531 := Fc_525.other W529 (Or.inl ne1c2_525)
  have Fc2_532 := Fc2_525.other W529 (Or.inl ne1c2_525)
  have Fc3_533 := Fc3_525.other W529 (Or.inl ne1c2_525)
  have Fc4_534 := Fc4_525.other W529 (Or.inl ne1c2_525)
  have Fc5_535 := Fc5_525.other W529 (Or.inl ne1c2_525)
  have Vc3_536 := Vc3_525.other W529 (Ne.symm dc2c3_525)
  have Vc4_537 := Vc4_525.other W529 (Ne.symm dc2c4_525)
  have Vc5_538 := Vc5_525.other W529 (Ne.symm dc2c5_525)
  have zh529 : n0 ≤ h529.size := Nat.le_trans zh523 (Nat.le_of_eq W529.size.symm)
  have K0_529 : Keep h0 h529 [a1] := K0_523.wr W529 (Or.inr sz_c2)
  have N529 := Fr.snoc X529 N523 loc2_525
  obtain ⟨T539, X539, e539, st539⟩ := getF X529 hx hZ hown (host := "") (Or.inl (hw _ (List.mem_of_getElem? (i := 13) rfl))) Via.refl e529 Fc3_533 (g := (mkF m 68 #[.val (.ref a1), .val (.long q1), .second, .val (.long q2), .second, .val (.long q3), .second, .val (.long q4), .second] [(.ref a1)])) rfl rfl (hb hby d3_68)
  obtain ⟨T540, X540, e540, st540⟩ := getF X539 hx hZ hown (host := "") (Or.inl (hw _ (List.mem_of_getElem? (i := 24) rfl))) Via.refl e539 Fc_531 (g := (mkF m 72 #[.val (.ref a1), .val (.long q1), .second, .val (.long q2), .second, .val (.long q3), .second, .val (.long q4), .second] [(.ref a1), (.ref c3)])) rfl rfl (hb hby d3_72)
  obtain ⟨cl541, Ar541, q541, S541, P541, H541, G541⟩ := Vc3_536
  have hin542 : ¬ ((1 : Int32) < 0 ∨ cl541.slots.size ≤ ((1 : Int32)).toNatClampNeg) := inb_of S541 ⟨by decide, by decide⟩
  obtain ⟨T542, h542, X542, e542, W542, st542⟩ := stJ X540 hx hZ e540 Ar541 (j := (1 : Int32)) hin542 (g := (mkF m 76 #[.val (.ref a1), .val (.long q1), .second, .val (.long q2), .second, .val (.long q3), .second, .val (.long q4), .second] [(.long q2), (.int (1 : Int32)), (.ref c3)])) rfl rfl (hb hby d3_76)
  have V_c3_542 : Arv Z h542 c3 j3 .long (9 : Int32) [(.long y3), (.long q2), (.long (0 : Int64)), (.long (0 : Int64)), (.long (0 : Int64)), (.long (0 : Int64)), (.long (0 : Int64)), (.long (0 : Int64)), (.long (0 : Int64))] (.long (0 : Int64)) := Arv.set Ar541 q541 S541 P541 H541 G541 rfl W542 1 rfl (Nat.le_of_ble_eq_true rfl)
  have E1_543 := E1_530.wr W542
  have Fc_544 := Fc_531.other W542 (Or.inl ne1c3_525)
  have Fc2_545 := Fc2_532.other W542 (Or.inl ne1c3_525)
  have Fc3_546 := Fc3_533.other W542 (Or.inl ne1c3_525)
  have Fc4_547 := Fc4_534.other W542 (Or.inl ne1c3_525)
  have Fc5_548 := Fc5_535.other W542 (Or.inl ne1c3_525)
  have V_c2_549 := V_c2_529.other W542 dc2c3_525
  have Vc4_550 := Vc4_537.other W542 (Ne.symm dc3c4_525)
  have Vc5_551 := Vc5_538.other W542 (Ne.symm dc3c5_525)
  have zh542 : n0 ≤ h542.size := Nat.le_trans zh529 (Nat.le_of_eq W542.size.symm)
  have K0_542 : Keep h0 h542 [a1] := K0_529.wr W542 (Or.inr sz_c3)
  have N542 := Fr.snoc X542 N529 loc3_525
  obtain ⟨T552, X552, e552, st552⟩ := getF X542 hx hZ hown (host := "") (Or.inl (hw _ (List.mem_of_getElem? (i := 15) rfl))) Via.refl e542 Fc4_547 (g := (mkF m 78 #[.val (.ref a1), .val (.long q1), .second, .val (.long q2), .second, .val (.long q3), .second, .val (.long q4), .second] [(.ref a1)])) rfl rfl (hb hby d3_78)
  obtain ⟨T553, X553, e553, st553⟩ := getF X552 hx hZ hown (host := "") (Or.inl (hw _ (List.mem_of_getElem? (i := 24) rfl))) Via.refl e552 Fc_544 (g := (mkF m 82 #[.val (.ref a1), .val (.long q1), .second, .val (.long q2), .second, .val (.long q3), .second, .val (.long q4), .second] [(.ref a1), (.ref c4)])) rfl rfl (hb hby d3_82)
  obtain ⟨cl554, Ar554, q554, S554, P554, H554, G554⟩ := Vc4_550
  have hin555 : ¬ ((1 : Int32) < 0 ∨ cl554.slots.size ≤ ((1 : Int32)).toNatClampNeg) := inb_of S554 ⟨by decide, by decide⟩
  obtain ⟨T555, h555, X555, e555, W555, st555⟩ := stJ X553 hx hZ e553 Ar554 (j := (1 : Int32)) hin555 (g := (mkF m 87 #[.val (.ref a1), .val (.long q1), .second, .val (.long q2), .second, .val (.long q3), .second, .val (.long q4), .second] [(.long q3), (.int (1 : Int32)), (.ref c4)])) rfl rfl (hb hby d3_87)
  have V_c4_555 : Arv Z h555 c4 j4 .long (9 : Int32) [(.long y4), (.long q3), (.long (0 : Int64)), (.long (0 : Int64)), (.long (0 : Int64)), (.long (0 : Int64)), (.long (0 : Int64)), (.long (0 : Int64)), (.long (0 : Int64))] (.long (0 : Int64)) := Arv.set Ar554 q554 S554 P554 H554 G554 rfl W555 1 rfl (Nat.le_of_ble_eq_true rfl)
  have E1_556 := E1_543.wr W555
  have Fc_557 := Fc_544.other W555 (Or.inl ne1c4_525)
  have Fc2_558 := Fc2_545.other W555 (Or.inl ne1c4_525)
  have Fc3_559 := Fc3_546.other W555 (Or.inl ne1c4_525)
  have Fc4_560 := Fc4_547.other W555 (Or.inl ne1c4_525)
  have Fc5_561 := Fc5_548.other W555 (Or.inl ne1c4_525)
  have V_c2_562 := V_c2_549.other W555 dc2c4_525
  have V_c3_563 := V_c3_542.other W555 dc3c4_525
  have Vc5_564 := Vc5_551.other W555 (Ne.symm dc4c5_525)
  have zh555 : n0 ≤ h555.size := Nat.le_trans zh542 (Nat.le_of_eq W555.size.symm)
  have K0_555 : Keep h0 h555 [a1] := K0_542.wr W555 (Or.inr sz_c4)
  have N555 := Fr.snoc X555 N542 loc4_525
  obtain ⟨T565, X565, e565, st565⟩ := getF X555 hx hZ hown (host := "") (Or.inl (hw _ (List.mem_of_getElem? (i := 17) rfl))) Via.refl e555 Fc5_561 (g := (mkF m 89 #[.val (.ref a1), .val (.long q1), .second, .val (.long q2), .second, .val (.long q3), .second, .val (.long q4), .second] [(.ref a1)])) rfl rfl (hb hby d3_89)
  obtain ⟨T566, X566, e566, st566⟩ := getF X565 hx hZ hown (host := "") (Or.inl (hw _ (List.mem_of_getElem? (i := 24) rfl))) Via.refl e565 Fc_557 (g := (mkF m 93 #[.val (.ref a1), .val (.long q1), .second, .val (.long q2), .second, .val (.long q3), .second, .val (.long q4), .second] [(.ref a1), (.ref c5)])) rfl rfl (hb hby d3_93)
  obtain ⟨cl567, Ar567, q567, S567, P567, H567, G567⟩ := Vc5_564
  have hin568 : ¬ ((1 : Int32) < 0 ∨ cl567.slots.size ≤ ((1 : Int32)).toNatClampNeg) := inb_of S567 ⟨by decide, by decide⟩
  obtain ⟨T568, h568, X568, e568, W568, st568⟩ := stJ X566 hx hZ e566 Ar567 (j := (1 : Int32)) hin568 (g := (mkF m 98 #[.val (.ref a1), .val (.long q1), .second, .val (.long q2), .second, .val (.long q3), .second, .val (.long q4), .second] [(.long q4), (.int (1 : Int32)), (.ref c5)])) rfl rfl (hb hby d3_98)
  have V_c5_568 : Arv Z h568 c5 j5 .long (9 : Int32) [(.long y5), (.long q4), (.long (0 : Int64)), (.long (0 : Int64)), (.long (0 : Int64)), (.long (0 : Int64)), (.long (0 : Int64)), (.long (0 : Int64)), (.long (0 : Int64))] (.long (0 : Int64)) := Arv.set Ar567 q567 S567 P567 H567 G567 rfl W568 1 rfl (Nat.le_of_ble_eq_true rfl)
  have E1_569 := E1_556.wr W568
  have Fc_570 := Fc_557.other W568 (Or.inl ne1c5_525)
  have Fc2_571 := Fc2_558.other W568 (Or.inl ne1c5_525)
  have Fc3_572 := Fc3_559.other W568 (Or.inl ne1c5_525)
  have Fc4_573 := Fc4_560.other W568 (Or.inl ne1c5_525)
  have Fc5_574 := Fc5_561.other W568 (Or.inl ne1c5_525)
  have V_c2_575 := V_c2_562.other W568 dc2c5_525
  have V_c3_576 := V_c3_563.other W568 dc3c5_525
  have V_c4_577 := V_c4_555.other W568 dc4c5_525
  have zh568 : n0 ≤ h568.size := Nat.le_trans zh555 (Nat.le_of_eq W568.size.symm)
  have K0_568 : Keep h0 h568 [a1] := K0_555.wr W568 (Or.inr sz_c5)
  have N568 := Fr.snoc X568 N555 loc5_525
  obtain ⟨T578, X578, e578, st578⟩ := getF X568 hx hZ hown (host := "") (Or.inl (hw _ (List.mem_of_getElem? (i := 24) rfl))) Via.refl e568 Fc_570 (g := (mkF m 101 #[.val (.ref a1), .val (.long q1), .second, .val (.long q2), .second, .val (.long q3), .second, .val (.long q4), .second] [(.ref a1), (.ref a1)])) rfl rfl (hb hby d3_101)
  obtain ⟨T579, h579, X579, e579, W579, st579⟩ := putF X578 hx hZ hown (host := "") (Or.inl (hw _ (List.mem_of_getElem? (i := 24) rfl))) Via.refl e578 Fc_570 E1_569 (Or.inl (hw _ (List.mem_of_getElem? (i := 25) rfl))) (hw _ (List.mem_of_getElem? (i := 2) rfl)) (ty := .int) (by decide) rfl rfl (g := (mkF m 106 #[.val (.ref a1), .val (.long q1), .second, .val (.long q2), .second, .val (.long q3), .second, .val (.long q4), .second] [(.int (2 : Int32)), (.ref a1)])) rfl rfl (hb hby d3_106)
  have F_count_a1_579 := Fc_570.same W579
  have E1_580 := E1_569.wr W579
  have Fc2_581 := Fc2_571.other W579 (Or.inr (slot_ne (Or.inl (hw _ (List.mem_of_getElem? (i := 12) rfl))) (Or.inl (hw _ (List.mem_of_getElem? (i := 25) rfl))) (by decide) (t := (.array .long)) (t' := .int) (by decide) (by decide)))
  have Fc3_582 := Fc3_572.other W579 (Or.inr (slot_ne (Or.inl (hw _ (List.mem_of_getElem? (i := 14) rfl))) (Or.inl (hw _ (List.mem_of_getElem? (i := 25) rfl))) (by decide) (t := (.array .long)) (t' := .int) (by decide) (by decide)))
  have Fc4_583 := Fc4_573.other W579 (Or.inr (slot_ne (Or.inl (hw _ (List.mem_of_getElem? (i := 16) rfl))) (Or.inl (hw _ (List.mem_of_getElem? (i := 25) rfl))) (by decide) (t := (.array .long)) (t' := .int) (by decide) (by decide)))
  have Fc5_584 := Fc5_574.other W579 (Or.inr (slot_ne (Or.inl (hw _ (List.mem_of_getElem? (i := 18) rfl))) (Or.inl (hw _ (List.mem_of_getElem? (i := 25) rfl))) (by decide) (t := (.array .long)) (t' := .int) (by decide) (by decide)))
  have V_c2_585 := V_c2_575.other W579 (Ne.symm ne1c2_525)
  have V_c3_586 := V_c3_576.other W579 (Ne.symm ne1c3_525)
  have V_c4_587 := V_c4_577.other W579 (Ne.symm ne1c4_525)
  have V_c5_588 := V_c5_568.other W579 (Ne.symm ne1c5_525)
  have zh579 : n0 ≤ h579.size := Nat.le_trans zh568 (Nat.le_of_eq W579.size.symm)
  have K0_579 : Keep h0 h579 [a1] := K0_568.wr W579 (Or.inl (List.mem_of_getElem? (i := 0) rfl))
  have N579 := Fr.snoc X579 N568 lo1_525
  refine own_Go.mono (T' := T579) (f' := (mkF m 166 #[.val (.ref a1), .val (.long q1), .second, .val (.long q2), .second, .val (.long q3), .second, .val (.long q4), .second] [])) (fun t k => ?_) ?_
  · show Steps p.tables e below (T522.setTop (mkF m 53 #[.val (.ref a1), .val (.long q1), .second, .val (.long q2), .second, .val (.long q3), .second, .val (.long q4), .second] [(.int (8 : Int32)), (.int (1 : Int32)), (.ref a1)])) _
    refine XS.iadd X522.here hx rfl (hb hby d3_53) rfl ?_
    show Steps p.tables e below (T522.setTop (mkF m 54 #[.val (.ref a1), .val (.long q1), .second, .val (.long q2), .second, .val (.long q3), .second, .val (.long q4), .second] [(.int (9 : Int32)), (.ref a1)])) _
    refine st523.trans ?_
    show Steps p.tables e below (T523.setTop (mkF m 57 #[.val (.ref a1), .val (.long q1), .second, .val (.long q2), .second, .val (.long q3), .second, .val (.long q4), .second] [])) _
    refine XS.aloadN X523.here hx rfl (hb hby d3_57) rfl rfl ?_
    show Steps p.tables e below (T523.setTop (mkF m 58 #[.val (.ref a1), .val (.long q1), .second, .val (.long q2), .second, .val (.long q3), .second, .val (.long q4), .second] [(.ref a1)])) _
    refine st526 _ ?_
    show Steps p.tables e below (T526.setTop (mkF m 61 #[.val (.ref a1), .val (.long q1), .second, .val (.long q2), .second, .val (.long q3), .second, .val (.long q4), .second] [(.ref c2)])) _
    refine XS.aloadN X526.here hx rfl (hb hby d3_61) rfl rfl ?_
    show Steps p.tables e below (T526.setTop (mkF m 62 #[.val (.ref a1), .val (.long q1), .second, .val (.long q2), .second, .val (.long q3), .second, .val (.long q4), .second] [(.ref a1), (.ref c2)])) _
    refine st527 _ ?_
    show Steps p.tables e below (T527.setTop (mkF m 65 #[.val (.ref a1), .val (.long q1), .second, .val (.long q2), .second, .val (.long q3), .second, .val (.long q4), .second] [(.int (1 : Int32)), (.ref c2)])) _
    refine XS.lloadN X527.here hx rfl (hb hby d3_65) rfl ?_
    show Steps p.tables e below (T527.setTop (mkF m 66 #[.val (.ref a1), .val (.long q1), .second, .val (.long q2), .second, .val (.long q3), .second, .val (.long q4), .second] [(.long q1), (.int (1 : Int32)), (.ref c2)])) _
    refine st529 _ ?_
    show Steps p.tables e below (T529.setTop (mkF m 67 #[.val (.ref a1), .val (.long q1), .second, .val (.long q2), .second, .val (.long q3), .second, .val (.long q4), .second] [])) _
    refine XS.aloadN X529.here hx rfl (hb hby d3_67) rfl rfl ?_
    show Steps p.tables e below (T529.setTop (mkF m 68 #[.val (.ref a1), .val (.long q1), .second, .val (.long q2), .second, .val (.long q3), .second, .val (.long q4), .second] [(.ref a1)])) _
    refine st539 _ ?_
    show Steps p.tables e below (T539.setTop (mkF m 71 #[.val (.ref a1), .val (.long q1), .second, .val (.long q2), .second, .val (.long q3), .second, .val (.long q4), .second] [(.ref c3)])) _
    refine XS.aloadN X539.here hx rfl (hb hby d3_71) rfl rfl ?_
    show Steps p.tables e below (T539.setTop (mkF m 72 #[.val (.ref a1), .val (.long q1), .second, .val (.long q2), .second, .val (.long q3), .second, .val (.long q4), .second] [(.ref a1), (.ref c3)])) _
    refine st540 _ ?_
    show Steps p.tables e below (T540.setTop (mkF m 75 #[.val (.ref a1), .val (.long q1), .second, .val (.long q2), .second, .val (.long q3), .second, .val (.long q4), .second] [(.int (1 : Int32)), (.ref c3)])) _
    refine XS.lloadN X540.here hx rfl (hb hby d3_75) rfl ?_
    show Steps p.tables e below (T540.setTop (mkF m 76 #[.val (.ref a1), .val (.long q1), .second, .val (.long q2), .second, .val (.long q3), .second, .val (.long q4), .second] [(.long q2), (.int (1 : Int32)), (.ref c3)])) _
    refine st542 _ ?_
    show Steps p.tables e below (T542.setTop (mkF m 77 #[.val (.ref a1), .val (.long q1), .second, .val (.long q2), .second, .val (.long q3), .second, .val (.long q4), .second] [])) _
    refine XS.aloadN X542.here hx rfl (hb hby d3_77) rfl rfl ?_
    show Steps p.tables e below (T542.setTop (mkF m 78 #[.val (.ref a1), .val (.long q1), .second, .val (.long q2), .second, .val (.long q3), .second, .val (.long q4), .second] [(.ref a1)])) _
    refine st552 _ ?_
    show Steps p.tables e below (T552.setTop (mkF m 81 #[.val (.ref a1), .val (.long q1), .second, .val (.long q2), .second, .val (.long q3), .second, .val (.long q4), .second] [(.ref c4)])) _
    refine XS.aloadN X552.here hx rfl (hb hby d3_81) rfl rfl ?_
    show Steps p.tables e below (T552.setTop (mkF m 82 #[.val (.ref a1), .val (.long q1), .second, .val (.long q2), .second, .val (.long q3), .second, .val (.long q4), .second] [(.ref a1), (.ref c4)])) _
    refine st553 _ ?_
    show Steps p.tables e below (T553.setTop (mkF m 85 #[.val (.ref a1), .val (.long q1), .second, .val (.long q2), .second, .val (.long q3), .second, .val (.long q4), .second] [(.int (1 : Int32)), (.ref c4)])) _
    refine XS.lload X553.here hx rfl (hb hby d3_85) rfl ?_
    show Steps p.tables e below (T553.setTop (mkF m 87 #[.val (.ref a1), .val (.long q1), .second, .val (.long q2), .second, .val (.long q3), .second, .val (.long q4), .second] [(.long q3), (.int (1 : Int32)), (.ref c4)])) _
    refine st555 _ ?_
    show Steps p.tables e below (T555.setTop (mkF m 88 #[.val (.ref a1), .val (.long q1), .second, .val (.long q2), .second, .val (.long q3), .second, .val (.long q4), .second] [])) _
    refine XS.aloadN X555.here hx rfl (hb hby d3_88) rfl rfl ?_
    show Steps p.tables e below (T555.setTop (mkF m 89 #[.val (.ref a1), .val (.long q1), .second, .val (.long q2), .second, .val (.long q3), .second, .val (.long q4), .second] [(.ref a1)])) _
    refine st565 _ ?_
    show Steps p.tables e below (T565.setTop (mkF m 92 #[.val (.ref a1), .val (.long q1), .second, .val (.long q2), .second, .val (.long q3), .second, .val (.long q4), .second] [(.ref c5)])) _
    refine XS.aloadN X565.here hx rfl (hb hby d3_92) rfl rfl ?_
    show Steps p.tables e below (T565.setTop (mkF m 93 #[.val (.ref a1), .val (.long q1), .second, .val (.long q2), .second, .val (.long q3), .second, .val (.long q4), .second] [(.ref a1), (.ref c5)])) _
    refine st566 _ ?_
    show Steps p.tables e below (T566.setTop (mkF m 96 #[.val (.ref a1), .val (.long q1), .second, .val (.long q2), .second, .val (.long q3), .second, .val (.long q4), .second] [(.int (1 : Int32)), (.ref c5)])) _
    refine XS.lload X566.here hx rfl (hb hby d3_96) rfl ?_
    show Steps p.tables e below (T566.setTop (mkF m 98 #[.val (.ref a1), .val (.long q1), .second, .val (.long q2), .second, .val (.long q3), .second, .val (.long q4), .second] [(.long q4), (.int (1 : Int32)), (.ref c5)])) _
    refine st568 _ ?_
    show Steps p.tables e below (T568.setTop (mkF m 99 #[.val (.ref a1), .val (.long q1), .second, .val (.long q2), .second, .val (.long q3), .second, .val (.long q4), .second] [])) _
    refine XS.aloadN X568.here hx rfl (hb hby d3_99) rfl rfl ?_
    show Steps p.tables e below (T568.setTop (mkF m 100 #[.val (.ref a1), .val (.long q1), .second, .val (.long q2), .second, .val (.long q3), .second, .val (.long q4), .second] [(.ref a1)])) _
    refine XS.dup X568.here hx rfl (hb hby d3_100) rfl rfl ?_
    show Steps p.tables e below (T568.setTop (mkF m 101 #[.val (.ref a1), .val (.long q1), .second, .val (.long q2), .second, .val (.long q3), .second, .val (.long q4), .second] [(.ref a1), (.ref a1)])) _
    refine st578 _ ?_
    show Steps p.tables e below (T578.setTop (mkF m 104 #[.val (.ref a1), .val (.long q1), .second, .val (.long q2), .second, .val (.long q3), .second, .val (.long q4), .second] [(.int (1 : Int32)), (.ref a1)])) _
    refine XS.iconst X578.here hx rfl (hb hby d3_104) ?_
    show Steps p.tables e below (T578.setTop (mkF m 105 #[.val (.ref a1), .val (.long q1), .second, .val (.long q2), .second, .val (.long q3), .second, .val (.long q4), .second] [(.int (1 : Int32)), (.int (1 : Int32)), (.ref a1)])) _
    refine XS.iadd X578.here hx rfl (hb hby d3_105) rfl ?_
    show Steps p.tables e below (T578.setTop (mkF m 106 #[.val (.ref a1), .val (.long q1), .second, .val (.long q2), .second, .val (.long q3), .second, .val (.long q4), .second] [(.int (2 : Int32)), (.ref a1)])) _
    refine st579 _ ?_
    show Steps p.tables e below (T579.setTop (mkF m 109 #[.val (.ref a1), .val (.long q1), .second, .val (.long q2), .second, .val (.long q3), .second, .val (.long q4), .second] [])) _
    refine XS.goto X579.here hx rfl (pc0 := 109) (pc' := 166) rfl (hb hby d3_109) (by decide) (by decide) ?_
    show Steps p.tables e below (T579.setTop (mkF m 166 #[.val (.ref a1), .val (.long q1), .second, .val (.long q2), .second, .val (.long q3), .second, .val (.long q4), .second] [])) _
    exact k
  exact own_retV X579 hx hret hlk (hb hby d3_166) ((by rw [e579]; exact ⟨c2, c3, c4, c5, j2, j3, j4, j5, rfl, N579, K0_579, ⟨E1_580, F_count_a1_579, Fc2_581, Fc3_582, Fc4_583, Fc5_584, V_c2_585, V_c3_586, V_c4_587, V_c5_588, dc2c3_525, dc2c4_525, dc2c5_525, dc3c4_525, dc3c5_525, dc4c5_525, lo1_525, loc2_525, loc3_525, loc4_525, loc5_525⟩⟩)) (by decide) (by decide)
theorem own_canc (a d : Int64) : (a + d) - a = d := by
  apply Int64.toInt_inj.mp
  have q1 := c_lsub (a + d) a; have q2 := c_ladd a d; have r1 := rng64 ((a + d) - a); have r2 := rng64 d; omega
theorem own_dist (a d : Int64) (h : d < 32768) : ((a + d) - a) < 32768 := by rw [own_canc]; exact h
theorem own_distN (a d : Int64) (h : ¬ d < 32768) : ¬ ((a + d) - a) < 32768 := by rw [own_canc]; exact h
theorem ef_rm0 (m : MethodId) (x0 : Int64) (x1 : Int64) (x2 : Int64) (x3 : Int64) (x4 : Int64) (x5 : Int64) : entryFrame m #[(.long x0), (.long x1), (.long x2), (.long x3), (.long x4), (.long x5)] maxLocals = mkF m 0 #[.val (.long x0), .second, .val (.long x1), .second, .val (.long x2), .second, .val (.long x3), .second, .val (.long x4), .second, .val (.long x5), .second, .unset, .unset, .unset, .unset, .unset, .unset, .unset, .unset, .unset, .unset, .unset, .unset, .unset, .unset, .unset, .unset, .unset, .unset, .unset, .unset] [] := by first | (simp [entryFrame, mkF, argsToLocals, Value.category, maxLocals]; done) | rfl
def Q0 (Z : State) (q0 : Int64) (q1 : Int64) (q2 : Int64) (q3 : Int64) (q4 : Int64) (q5 : Int64)  (h0 : Heap) (n0 : Nat) (v : Option Value) (h : Heap) (L : List Loc) : Prop := v = some (.int 1) ∧ Fr n0 L
set_option maxRecDepth 65536 in
set_option maxHeartbeats 40000000 in
theorem rm0 (l : Launch) (Z : State) (a0 : Array Value) (hw : ∀ d ∈ tables_1, d.before a0 Z = true) (ws : List Jvm.Cond) (q0 : Int64) (q1 : Int64) (q2 : Int64) (q3 : Int64) (q4 : Int64) (q5 : Int64)  (h0 : Heap) (n0 : Nat) (Z0 : n0 ≤ h0.size)  :
    MetFree l x (head1 (Jvm.Cond.code x code maxLocals ret :: ws) room_1) (fun a U => a = #[(.long q0), (.long q1), (.long q2), (.long q3), (.long q4), (.long q5)] ∧ Z.Warmed39 U.vm ∧ U.heap = h0) (fun _ _ _ _ _ => True) (fun _ U o U' => ∃ v L, o = .returned v ∧ Q0 Z q0 q1 q2 q3 q4 q5  h0 n0 v U'.heap L ∧ FrameEnd U o U' L 40 256) := by
  refine own_body (Qv := Q0 Z q0 q1 q2 q3 q4 q5  h0 n0) (plainFor_of_name (by first | (simp [plainName, overriddenIn]; done) | decide +kernel)) ?_
  intro p e s m below meth c s₁ hx hby hml hret hlk hown hnm hZ X0 e0
  replace hown : s.vm.findClass "com/example/uplog/uplog/SegmentIndexAddPinLaw" = some m.cls := hown
  replace hnm : meth.name = "law" := hnm
  have N0 := Fr.nil n0
  replace hml : c.maxLocals = 32 := hml
  refine own_Go.mono (T' := s₁) (f' := (mkF m 0 #[.val (.long q0), .second, .val (.long q1), .second, .val (.long q2), .second, .val (.long q3), .second, .val (.long q4), .second, .val (.long q5), .second, .unset, .unset, .unset, .unset, .unset, .unset, .unset, .unset, .unset, .unset, .unset, .unset, .unset, .unset, .unset, .unset, .unset, .unset, .unset, .unset] [])) (fun t k => castTop (ef_rm0 m q0 q1 q2 q3 q4 q5) k) ?_
  refine own_Go.mono (T' := s₁) (f' := (mkF m 45 #[.val (.long q0), .second, .val (.long q1), .second, .val (.long q2), .second, .val (.long q3), .second, .val (.long q4), .second, .val (.long q5), .second, .val (.long (q1 &&& (4611686018427387903 : Int64))), .second, .val (.long (q2 &&& (4611686018427387903 : Int64))), .second, .val (.long ((q1 &&& (4611686018427387903 : Int64)) + (q2 &&& (4611686018427387903 : Int64)))), .second, .val (.long (q0 ^^^ q2)), .second, .val (.long q5), .second, .val (.long ((q5 ^^^ q3) ^^^ q4)), .second, .unset, .unset, .unset, .unset, .unset, .unset, .unset, .unset] [(.int (lcmpW q1 (0 : Int64)))])) (fun t k => ?_) ?_
  · show Steps p.tables e below (s₁.setTop (mkF m 0 #[.val (.long q0), .second, .val (.long q1), .second, .val (.long q2), .second, .val (.long q3), .second, .val (.long q4), .second, .val (.long q5), .second, .unset, .unset, .unset, .unset, .unset, .unset, .unset, .unset, .unset, .unset, .unset, .unset, .unset, .unset, .unset, .unset, .unset, .unset, .unset, .unset] [])) _
    refine XS.lloadN X0.here hx rfl (hb hby at_0) rfl ?_
    show Steps p.tables e below (s₁.setTop (mkF m 1 #[.val (.long q0), .second, .val (.long q1), .second, .val (.long q2), .second, .val (.long q3), .second, .val (.long q4), .second, .val (.long q5), .second, .unset, .unset, .unset, .unset, .unset, .unset, .unset, .unset, .unset, .unset, .unset, .unset, .unset, .unset, .unset, .unset, .unset, .unset, .unset, .unset] [(.long q1)])) _
    refine X0.ldc2Long hx hown (mvT hZ (hw _ (List.mem_of_getElem? (i := 0) rfl))) (g := (mkF m 1 #[.val (.long q0), .second, .val (.long q1), .second, .val (.long q2), .second, .val (.long q3), .second, .val (.long q4), .second, .val (.long q5), .second, .unset, .unset, .unset, .unset, .unset, .unset, .unset, .unset, .unset, .unset, .unset, .unset, .unset, .unset, .unset, .unset, .unset, .unset, .unset, .unset] [(.long q1)])) rfl (hb hby at_1) _ ?_
    show Steps p.tables e below (s₁.setTop (mkF m 4 #[.val (.long q0), .second, .val (.long q1), .second, .val (.long q2), .second, .val (.long q3), .second, .val (.long q4), .second, .val (.long q5), .second, .unset, .unset, .unset, .unset, .unset, .unset, .unset, .unset, .unset, .unset, .unset, .unset, .unset, .unset, .unset, .unset, .unset, .unset, .unset, .unset] [(.long (4611686018427387903 : Int64)), (.long q1)])) _
    refine XS.land X0.here hx rfl (hb hby at_4) rfl ?_
    show Steps p.tables e below (s₁.setTop (mkF m 5 #[.val (.long q0), .second, .val (.long q1), .second, .val (.long q2), .second, .val (.long q3), .second, .val (.long q4), .second, .val (.long q5), .second, .unset, .unset, .unset, .unset, .unset, .unset, .unset, .unset, .unset, .unset, .unset, .unset, .unset, .unset, .unset, .unset, .unset, .unset, .unset, .unset] [(.long (q1 &&& (4611686018427387903 : Int64)))])) _
    refine XS.lstore X0.here hx rfl (hb hby at_5) rfl (l' := #[.val (.long q0), .second, .val (.long q1), .second, .val (.long q2), .second, .val (.long q3), .second, .val (.long q4), .second, .val (.long q5), .second, .val (.long (q1 &&& (4611686018427387903 : Int64))), .second, .unset, .unset, .unset, .unset, .unset, .unset, .unset, .unset, .unset, .unset, .unset, .unset, .unset, .unset, .unset, .unset, .unset, .unset]) rfl ?_
    show Steps p.tables e below (s₁.setTop (mkF m 7 #[.val (.long q0), .second, .val (.long q1), .second, .val (.long q2), .second, .val (.long q3), .second, .val (.long q4), .second, .val (.long q5), .second, .val (.long (q1 &&& (4611686018427387903 : Int64))), .second, .unset, .unset, .unset, .unset, .unset, .unset, .unset, .unset, .unset, .unset, .unset, .unset, .unset, .unset, .unset, .unset, .unset, .unset] [])) _
    refine XS.lload X0.here hx rfl (hb hby at_7) rfl ?_
    show Steps p.tables e below (s₁.setTop (mkF m 9 #[.val (.long q0), .second, .val (.long q1), .second, .val (.long q2), .second, .val (.long q3), .second, .val (.long q4), .second, .val (.long q5), .second, .val (.long (q1 &&& (4611686018427387903 : Int64))), .second, .unset, .unset, .unset, .unset, .unset, .unset, .unset, .unset, .unset, .unset, .unset, .unset, .unset, .unset, .unset, .unset, .unset, .unset] [(.long q2)])) _
    refine X0.ldc2Long hx hown (mvT hZ (hw _ (List.mem_of_getElem? (i := 0) rfl))) (g := (mkF m 9 #[.val (.long q0), .second, .val (.long q1), .second, .val (.long q2), .second, .val (.long q3), .second, .val (.long q4), .second, .val (.long q5), .second, .val (.long (q1 &&& (4611686018427387903 : Int64))), .second, .unset, .unset, .unset, .unset, .unset, .unset, .unset, .unset, .unset, .unset, .unset, .unset, .unset, .unset, .unset, .unset, .unset, .unset] [(.long q2)])) rfl (hb hby at_9) _ ?_
    show Steps p.tables e below (s₁.setTop (mkF m 12 #[.val (.long q0), .second, .val (.long q1), .second, .val (.long q2), .second, .val (.long q3), .second, .val (.long q4), .second, .val (.long q5), .second, .val (.long (q1 &&& (4611686018427387903 : Int64))), .second, .unset, .unset, .unset, .unset, .unset, .unset, .unset, .unset, .unset, .unset, .unset, .unset, .unset, .unset, .unset, .unset, .unset, .unset] [(.long (4611686018427387903 : Int64)), (.long q2)])) _
    refine XS.land X0.here hx rfl (hb hby at_12) rfl ?_
    show Steps p.tables e below (s₁.setTop (mkF m 13 #[.val (.long q0), .second, .val (.long q1), .second, .val (.long q2), .second, .val (.long q3), .second, .val (.long q4), .second, .val (.long q5), .second, .val (.long (q1 &&& (4611686018427387903 : Int64))), .second, .unset, .unset, .unset, .unset, .unset, .unset, .unset, .unset, .unset, .unset, .unset, .unset, .unset, .unset, .unset, .unset, .unset, .unset] [(.long (q2 &&& (4611686018427387903 : Int64)))])) _
    refine XS.lstore X0.here hx rfl (hb hby at_13) rfl (l' := #[.val (.long q0), .second, .val (.long q1), .second, .val (.long q2), .second, .val (.long q3), .second, .val (.long q4), .second, .val (.long q5), .second, .val (.long (q1 &&& (4611686018427387903 : Int64))), .second, .val (.long (q2 &&& (4611686018427387903 : Int64))), .second, .unset, .unset, .unset, .unset, .unset, .unset, .unset, .unset, .unset, .unset, .unset, .unset, .unset, .unset, .unset, .unset]) rfl ?_
    show Steps p.tables e below (s₁.setTop (mkF m 15 #[.val (.long q0), .second, .val (.long q1), .second, .val (.long q2), .second, .val (.long q3), .second, .val (.long q4), .second, .val (.long q5), .second, .val (.long (q1 &&& (4611686018427387903 : Int64))), .second, .val (.long (q2 &&& (4611686018427387903 : Int64))), .second, .unset, .unset, .unset, .unset, .unset, .unset, .unset, .unset, .unset, .unset, .unset, .unset, .unset, .unset, .unset, .unset] [])) _
    refine XS.lload X0.here hx rfl (hb hby at_15) rfl ?_
    show Steps p.tables e below (s₁.setTop (mkF m 17 #[.val (.long q0), .second, .val (.long q1), .second, .val (.long q2), .second, .val (.long q3), .second, .val (.long q4), .second, .val (.long q5), .second, .val (.long (q1 &&& (4611686018427387903 : Int64))), .second, .val (.long (q2 &&& (4611686018427387903 : Int64))), .second, .unset, .unset, .unset, .unset, .unset, .unset, .unset, .unset, .unset, .unset, .unset, .unset, .unset, .unset, .unset, .unset] [(.long (q1 &&& (4611686018427387903 : Int64)))])) _
    refine XS.lload X0.here hx rfl (hb hby at_17) rfl ?_
    show Steps p.tables e below (s₁.setTop (mkF m 19 #[.val (.long q0), .second, .val (.long q1), .second, .val (.long q2), .second, .val (.long q3), .second, .val (.long q4), .second, .val (.long q5), .second, .val (.long (q1 &&& (4611686018427387903 : Int64))), .second, .val (.long (q2 &&& (4611686018427387903 : Int64))), .second, .unset, .unset, .unset, .unset, .unset, .unset, .unset, .unset, .unset, .unset, .unset, .unset, .unset, .unset, .unset, .unset] [(.long (q2 &&& (4611686018427387903 : Int64))), (.long (q1 &&& (4611686018427387903 : Int64)))])) _
    refine XS.ladd X0.here hx rfl (hb hby at_19) rfl ?_
    show Steps p.tables e below (s₁.setTop (mkF m 20 #[.val (.long q0), .second, .val (.long q1), .second, .val (.long q2), .second, .val (.long q3), .second, .val (.long q4), .second, .val (.long q5), .second, .val (.long (q1 &&& (4611686018427387903 : Int64))), .second, .val (.long (q2 &&& (4611686018427387903 : Int64))), .second, .unset, .unset, .unset, .unset, .unset, .unset, .unset, .unset, .unset, .unset, .unset, .unset, .unset, .unset, .unset, .unset] [(.long ((q1 &&& (4611686018427387903 : Int64)) + (q2 &&& (4611686018427387903 : Int64))))])) _
    refine XS.lstore X0.here hx rfl (hb hby at_20) rfl (l' := #[.val (.long q0), .second, .val (.long q1), .second, .val (.long q2), .second, .val (.long q3), .second, .val (.long q4), .second, .val (.long q5), .second, .val (.long (q1 &&& (4611686018427387903 : Int64))), .second, .val (.long (q2 &&& (4611686018427387903 : Int64))), .second, .val (.long ((q1 &&& (4611686018427387903 : Int64)) + (q2 &&& (4611686018427387903 : Int64)))), .second, .unset, .unset, .unset, .unset, .unset, .unset, .unset, .unset, .unset, .unset, .unset, .unset, .unset, .unset]) rfl ?_
    show Steps p.tables e below (s₁.setTop (mkF m 22 #[.val (.long q0), .second, .val (.long q1), .second, .val (.long q2), .second, .val (.long q3), .second, .val (.long q4), .second, .val (.long q5), .second, .val (.long (q1 &&& (4611686018427387903 : Int64))), .second, .val (.long (q2 &&& (4611686018427387903 : Int64))), .second, .val (.long ((q1 &&& (4611686018427387903 : Int64)) + (q2 &&& (4611686018427387903 : Int64)))), .second, .unset, .unset, .unset, .unset, .unset, .unset, .unset, .unset, .unset, .unset, .unset, .unset, .unset, .unset] [])) _
    refine XS.lloadN X0.here hx rfl (hb hby at_22) rfl ?_
    show Steps p.tables e below (s₁.setTop (mkF m 23 #[.val (.long q0), .second, .val (.long q1), .second, .val (.long q2), .second, .val (.long q3), .second, .val (.long q4), .second, .val (.long q5), .second, .val (.long (q1 &&& (4611686018427387903 : Int64))), .second, .val (.long (q2 &&& (4611686018427387903 : Int64))), .second, .val (.long ((q1 &&& (4611686018427387903 : Int64)) + (q2 &&& (4611686018427387903 : Int64)))), .second, .unset, .unset, .unset, .unset, .unset, .unset, .unset, .unset, .unset, .unset, .unset, .unset, .unset, .unset] [(.long q0)])) _
    refine XS.lload X0.here hx rfl (hb hby at_23) rfl ?_
    show Steps p.tables e below (s₁.setTop (mkF m 25 #[.val (.long q0), .second, .val (.long q1), .second, .val (.long q2), .second, .val (.long q3), .second, .val (.long q4), .second, .val (.long q5), .second, .val (.long (q1 &&& (4611686018427387903 : Int64))), .second, .val (.long (q2 &&& (4611686018427387903 : Int64))), .second, .val (.long ((q1 &&& (4611686018427387903 : Int64)) + (q2 &&& (4611686018427387903 : Int64)))), .second, .unset, .unset, .unset, .unset, .unset, .unset, .unset, .unset, .unset, .unset, .unset, .unset, .unset, .unset] [(.long q2), (.long q0)])) _
    refine XS.lxor X0.here hx rfl (hb hby at_25) rfl ?_
    show Steps p.tables e below (s₁.setTop (mkF m 26 #[.val (.long q0), .second, .val (.long q1), .second, .val (.long q2), .second, .val (.long q3), .second, .val (.long q4), .second, .val (.long q5), .second, .val (.long (q1 &&& (4611686018427387903 : Int64))), .second, .val (.long (q2 &&& (4611686018427387903 : Int64))), .second, .val (.long ((q1 &&& (4611686018427387903 : Int64)) + (q2 &&& (4611686018427387903 : Int64)))), .second, .unset, .unset, .unset, .unset, .unset, .unset, .unset, .unset, .unset, .unset, .unset, .unset, .unset, .unset] [(.long (q0 ^^^ q2))])) _
    refine XS.lstore X0.here hx rfl (hb hby at_26) rfl (l' := #[.val (.long q0), .second, .val (.long q1), .second, .val (.long q2), .second, .val (.long q3), .second, .val (.long q4), .second, .val (.long q5), .second, .val (.long (q1 &&& (4611686018427387903 : Int64))), .second, .val (.long (q2 &&& (4611686018427387903 : Int64))), .second, .val (.long ((q1 &&& (4611686018427387903 : Int64)) + (q2 &&& (4611686018427387903 : Int64)))), .second, .val (.long (q0 ^^^ q2)), .second, .unset, .unset, .unset, .unset, .unset, .unset, .unset, .unset, .unset, .unset, .unset, .unset]) rfl ?_
    show Steps p.tables e below (s₁.setTop (mkF m 28 #[.val (.long q0), .second, .val (.long q1), .second, .val (.long q2), .second, .val (.long q3), .second, .val (.long q4), .second, .val (.long q5), .second, .val (.long (q1 &&& (4611686018427387903 : Int64))), .second, .val (.long (q2 &&& (4611686018427387903 : Int64))), .second, .val (.long ((q1 &&& (4611686018427387903 : Int64)) + (q2 &&& (4611686018427387903 : Int64)))), .second, .val (.long (q0 ^^^ q2)), .second, .unset, .unset, .unset, .unset, .unset, .unset, .unset, .unset, .unset, .unset, .unset, .unset] [])) _
    refine XS.lload X0.here hx rfl (hb hby at_28) rfl ?_
    show Steps p.tables e below (s₁.setTop (mkF m 30 #[.val (.long q0), .second, .val (.long q1), .second, .val (.long q2), .second, .val (.long q3), .second, .val (.long q4), .second, .val (.long q5), .second, .val (.long (q1 &&& (4611686018427387903 : Int64))), .second, .val (.long (q2 &&& (4611686018427387903 : Int64))), .second, .val (.long ((q1 &&& (4611686018427387903 : Int64)) + (q2 &&& (4611686018427387903 : Int64)))), .second, .val (.long (q0 ^^^ q2)), .second, .unset, .unset, .unset, .unset, .unset, .unset, .unset, .unset, .unset, .unset, .unset, .unset] [(.long q5)])) _
    refine XS.lstore X0.here hx rfl (hb hby at_30) rfl (l' := #[.val (.long q0), .second, .val (.long q1), .second, .val (.long q2), .second, .val (.long q3), .second, .val (.long q4), .second, .val (.long q5), .second, .val (.long (q1 &&& (4611686018427387903 : Int64))), .second, .val (.long (q2 &&& (4611686018427387903 : Int64))), .second, .val (.long ((q1 &&& (4611686018427387903 : Int64)) + (q2 &&& (4611686018427387903 : Int64)))), .second, .val (.long (q0 ^^^ q2)), .second, .val (.long q5), .second, .unset, .unset, .unset, .unset, .unset, .unset, .unset, .unset, .unset, .unset]) rfl ?_
    show Steps p.tables e below (s₁.setTop (mkF m 32 #[.val (.long q0), .second, .val (.long q1), .second, .val (.long q2), .second, .val (.long q3), .second, .val (.long q4), .second, .val (.long q5), .second, .val (.long (q1 &&& (4611686018427387903 : Int64))), .second, .val (.long (q2 &&& (4611686018427387903 : Int64))), .second, .val (.long ((q1 &&& (4611686018427387903 : Int64)) + (q2 &&& (4611686018427387903 : Int64)))), .second, .val (.long (q0 ^^^ q2)), .second, .val (.long q5), .second, .unset, .unset, .unset, .unset, .unset, .unset, .unset, .unset, .unset, .unset] [])) _
    refine XS.lload X0.here hx rfl (hb hby at_32) rfl ?_
    show Steps p.tables e below (s₁.setTop (mkF m 34 #[.val (.long q0), .second, .val (.long q1), .second, .val (.long q2), .second, .val (.long q3), .second, .val (.long q4), .second, .val (.long q5), .second, .val (.long (q1 &&& (4611686018427387903 : Int64))), .second, .val (.long (q2 &&& (4611686018427387903 : Int64))), .second, .val (.long ((q1 &&& (4611686018427387903 : Int64)) + (q2 &&& (4611686018427387903 : Int64)))), .second, .val (.long (q0 ^^^ q2)), .second, .val (.long q5), .second, .unset, .unset, .unset, .unset, .unset, .unset, .unset, .unset, .unset, .unset] [(.long q5)])) _
    refine XS.lload X0.here hx rfl (hb hby at_34) rfl ?_
    show Steps p.tables e below (s₁.setTop (mkF m 36 #[.val (.long q0), .second, .val (.long q1), .second, .val (.long q2), .second, .val (.long q3), .second, .val (.long q4), .second, .val (.long q5), .second, .val (.long (q1 &&& (4611686018427387903 : Int64))), .second, .val (.long (q2 &&& (4611686018427387903 : Int64))), .second, .val (.long ((q1 &&& (4611686018427387903 : Int64)) + (q2 &&& (4611686018427387903 : Int64)))), .second, .val (.long (q0 ^^^ q2)), .second, .val (.long q5), .second, .unset, .unset, .unset, .unset, .unset, .unset, .unset, .unset, .unset, .unset] [(.long q3), (.long q5)])) _
    refine XS.lxor X0.here hx rfl (hb hby at_36) rfl ?_
    show Steps p.tables e below (s₁.setTop (mkF m 37 #[.val (.long q0), .second, .val (.long q1), .second, .val (.long q2), .second, .val (.long q3), .second, .val (.long q4), .second, .val (.long q5), .second, .val (.long (q1 &&& (4611686018427387903 : Int64))), .second, .val (.long (q2 &&& (4611686018427387903 : Int64))), .second, .val (.long ((q1 &&& (4611686018427387903 : Int64)) + (q2 &&& (4611686018427387903 : Int64)))), .second, .val (.long (q0 ^^^ q2)), .second, .val (.long q5), .second, .unset, .unset, .unset, .unset, .unset, .unset, .unset, .unset, .unset, .unset] [(.long (q5 ^^^ q3))])) _
    refine XS.lload X0.here hx rfl (hb hby at_37) rfl ?_
    show Steps p.tables e below (s₁.setTop (mkF m 39 #[.val (.long q0), .second, .val (.long q1), .second, .val (.long q2), .second, .val (.long q3), .second, .val (.long q4), .second, .val (.long q5), .second, .val (.long (q1 &&& (4611686018427387903 : Int64))), .second, .val (.long (q2 &&& (4611686018427387903 : Int64))), .second, .val (.long ((q1 &&& (4611686018427387903 : Int64)) + (q2 &&& (4611686018427387903 : Int64)))), .second, .val (.long (q0 ^^^ q2)), .second, .val (.long q5), .second, .unset, .unset, .unset, .unset, .unset, .unset, .unset, .unset, .unset, .unset] [(.long q4), (.long (q5 ^^^ q3))])) _
    refine XS.lxor X0.here hx rfl (hb hby at_39) rfl ?_
    show Steps p.tables e below (s₁.setTop (mkF m 40 #[.val (.long q0), .second, .val (.long q1), .second, .val (.long q2), .second, .val (.long q3), .second, .val (.long q4), .second, .val (.long q5), .second, .val (.long (q1 &&& (4611686018427387903 : Int64))), .second, .val (.long (q2 &&& (4611686018427387903 : Int64))), .second, .val (.long ((q1 &&& (4611686018427387903 : Int64)) + (q2 &&& (4611686018427387903 : Int64)))), .second, .val (.long (q0 ^^^ q2)), .second, .val (.long q5), .second, .unset, .unset, .unset, .unset, .unset, .unset, .unset, .unset, .unset, .unset] [(.long ((q5 ^^^ q3) ^^^ q4))])) _
    refine XS.lstore X0.here hx rfl (hb hby at_40) rfl (l' := #[.val (.long q0), .second, .val (.long q1), .second, .val (.long q2), .second, .val (.long q3), .second, .val (.long q4), .second, .val (.long q5), .second, .val (.long (q1 &&& (4611686018427387903 : Int64))), .second, .val (.long (q2 &&& (4611686018427387903 : Int64))), .second, .val (.long ((q1 &&& (4611686018427387903 : Int64)) + (q2 &&& (4611686018427387903 : Int64)))), .second, .val (.long (q0 ^^^ q2)), .second, .val (.long q5), .second, .val (.long ((q5 ^^^ q3) ^^^ q4)), .second, .unset, .unset, .unset, .unset, .unset, .unset, .unset, .unset]) rfl ?_
    show Steps p.tables e below (s₁.setTop (mkF m 42 #[.val (.long q0), .second, .val (.long q1), .second, .val (.long q2), .second, .val (.long q3), .second, .val (.long q4), .second, .val (.long q5), .second, .val (.long (q1 &&& (4611686018427387903 : Int64))), .second, .val (.long (q2 &&& (4611686018427387903 : Int64))), .second, .val (.long ((q1 &&& (4611686018427387903 : Int64)) + (q2 &&& (4611686018427387903 : Int64)))), .second, .val (.long (q0 ^^^ q2)), .second, .val (.long q5), .second, .val (.long ((q5 ^^^ q3) ^^^ q4)), .second, .unset, .unset, .unset, .unset, .unset, .unset, .unset, .unset] [])) _
    refine XS.lloadN X0.here hx rfl (hb hby at_42) rfl ?_
    show Steps p.tables e below (s₁.setTop (mkF m 43 #[.val (.long q0), .second, .val (.long q1), .second, .val (.long q2), .second, .val (.long q3), .second, .val (.long q4), .second, .val (.long q5), .second, .val (.long (q1 &&& (4611686018427387903 : Int64))), .second, .val (.long (q2 &&& (4611686018427387903 : Int64))), .second, .val (.long ((q1 &&& (4611686018427387903 : Int64)) + (q2 &&& (4611686018427387903 : Int64)))), .second, .val (.long (q0 ^^^ q2)), .second, .val (.long q5), .second, .val (.long ((q5 ^^^ q3) ^^^ q4)), .second, .unset, .unset, .unset, .unset, .unset, .unset, .unset, .unset] [(.long q1)])) _
    refine XS.lconst X0.here hx rfl (hb hby at_43) ?_
    show Steps p.tables e below (s₁.setTop (mkF m 44 #[.val (.long q0), .second, .val (.long q1), .second, .val (.long q2), .second, .val (.long q3), .second, .val (.long q4), .second, .val (.long q5), .second, .val (.long (q1 &&& (4611686018427387903 : Int64))), .second, .val (.long (q2 &&& (4611686018427387903 : Int64))), .second, .val (.long ((q1 &&& (4611686018427387903 : Int64)) + (q2 &&& (4611686018427387903 : Int64)))), .second, .val (.long (q0 ^^^ q2)), .second, .val (.long q5), .second, .val (.long ((q5 ^^^ q3) ^^^ q4)), .second, .unset, .unset, .unset, .unset, .unset, .unset, .unset, .unset] [(.long (0 : Int64)), (.long q1)])) _
    refine XS.lcmp X0.here hx rfl (hb hby at_44) rfl ?_
    show Steps p.tables e below (s₁.setTop (mkF m 45 #[.val (.long q0), .second, .val (.long q1), .second, .val (.long q2), .second, .val (.long q3), .second, .val (.long q4), .second, .val (.long q5), .second, .val (.long (q1 &&& (4611686018427387903 : Int64))), .second, .val (.long (q2 &&& (4611686018427387903 : Int64))), .second, .val (.long ((q1 &&& (4611686018427387903 : Int64)) + (q2 &&& (4611686018427387903 : Int64)))), .second, .val (.long (q0 ^^^ q2)), .second, .val (.long q5), .second, .val (.long ((q5 ^^^ q3) ^^^ q4)), .second, .unset, .unset, .unset, .unset, .unset, .unset, .unset, .unset] [(.int (lcmpW q1 (0 : Int64)))])) _
    exact k
  by_cases c45_589 : (lcmpW q1 (0 : Int64)) < (0 : Int32)
  · obtain ⟨T590, h590, X590, e590, E590, A590, D590, -, st590⟩ := newO X0 hx hZ hown (hw _ (List.mem_of_getElem? (i := 1) rfl)) (hw _ (List.mem_of_getElem? (i := 2) rfl)) (hw _ (List.mem_of_getElem? (i := 3) rfl)) e0 (g := (mkF m 55 #[.val (.long q0), .second, .val (.long q1), .second, .val (.long q2), .second, .val (.long q3), .second, .val (.long q4), .second, .val (.long q5), .second, .val (.long (q1 &&& (4611686018427387903 : Int64))), .second, .val (.long (q2 &&& (4611686018427387903 : Int64))), .second, .val (.long ((q1 &&& (4611686018427387903 : Int64)) + (q2 &&& (4611686018427387903 : Int64)))), .second, .val (.long (q0 ^^^ q2)), .second, .val (.long q5), .second, .val (.long ((q5 ^^^ q3) ^^^ q4)), .second, .val (.int (1 : Int32)), .unset, .unset, .unset, .unset, .unset, .unset, .unset] [])) rfl (hb hby at_55) (by decide) (by decide)
    obtain ⟨b1, g590⟩ : ∃ z, z = h0.size := ⟨_, rfl⟩
    rw [← g590] at A590 D590 st590
    have lo_b1 : n0 ≤ b1 := Nat.le_trans Z0 (Nat.le_of_eq g590.symm)
    have zh590 : n0 ≤ h590.size := Nat.le_trans Z0 E590.1
    have F_offsets_b1_590 : Fld Z h590 b1 "com/example/uplog/uplog/SegmentIndex" "offsets" "[J" .null := D590 (Or.inl (hw _ (List.mem_of_getElem? (i := 12) rfl))) (ty := (.array .long)) (by decide)
    have F_positions_b1_590 : Fld Z h590 b1 "com/example/uplog/uplog/SegmentIndex" "positions" "[J" .null := D590 (Or.inl (hw _ (List.mem_of_getElem? (i := 14) rfl))) (ty := (.array .long)) (by decide)
    have F_maxTimestamps_b1_590 : Fld Z h590 b1 "com/example/uplog/uplog/SegmentIndex" "maxTimestamps" "[J" .null := D590 (Or.inl (hw _ (List.mem_of_getElem? (i := 16) rfl))) (ty := (.array .long)) (by decide)
    have F_writtenAts_b1_590 : Fld Z h590 b1 "com/example/uplog/uplog/SegmentIndex" "writtenAts" "[J" .null := D590 (Or.inl (hw _ (List.mem_of_getElem? (i := 18) rfl))) (ty := (.array .long)) (by decide)
    have F_count_b1_590 : Fld Z h590 b1 "com/example/uplog/uplog/SegmentIndex" "count" "I" (.int (0 : Int32)) := D590 (Or.inl (hw _ (List.mem_of_getElem? (i := 25) rfl))) (ty := .int) (by decide)
    obtain ⟨_, _, ⟨T591, L591, k591, n591⟩, -, X591, ⟨Lc591, hQ591, l591, y591, z591⟩, st591⟩ := X590.specialBack hx (y := (⟨"com/example/uplog/uplog/SegmentIndex", "<init>", "()V"⟩ : MethodName)) rfl hown (mvT hZ (hw _ (List.mem_of_getElem? (i := 4) rfl))) (mvT hZ (hw _ (List.mem_of_getElem? (i := 5) rfl))) (mvT hZ (hw _ (List.mem_of_getElem? (i := 6) rfl))) (by decide) (backOf (W := 1) (rm1 l Z a0 hw [] b1 h590 n0 zh590 A590 F_count_b1_590 F_offsets_b1_590 F_positions_b1_590 F_maxTimestamps_b1_590 F_writtenAts_b1_590 lo_b1) hZ (hw _ (List.mem_of_getElem? (i := 6) rfl)) (hw _ (List.mem_of_getElem? (i := 3) rfl)) (by decide) (by decide)) (g := (mkF m 59 #[.val (.long q0), .second, .val (.long q1), .second, .val (.long q2), .second, .val (.long q3), .second, .val (.long q4), .second, .val (.long q5), .second, .val (.long (q1 &&& (4611686018427387903 : Int64))), .second, .val (.long (q2 &&& (4611686018427387903 : Int64))), .second, .val (.long ((q1 &&& (4611686018427387903 : Int64)) + (q2 &&& (4611686018427387903 : Int64)))), .second, .val (.long (q0 ^^^ q2)), .second, .val (.long q5), .second, .val (.long ((q5 ^^^ q3) ^^^ q4)), .second, .val (.int (1 : Int32)), .unset, .unset, .unset, .unset, .unset, .unset, .unset] [(.ref b1), (.ref b1)])) rfl (by rw [hml]; rfl) (Steps.refl _) (a := b1) (argsL := []) (rest := [(.ref b1)]) (lenOf pd_4 rfl) rfl (by show 2 * 0 + _ ≤ _; exact Nat.le_of_eq rfl) (hb hby at_59) (fun _ _ => ⟨rfl, e590, (by decide : 1 + 4 ≤ _), (by decide : 5 + 32 ≤ _)⟩)
    dsimp only [Pt.U, Pt.locs, Pt.cells, Pt.slots] at X591 l591 y591 z591 st591 hQ591
    subst l591 y591 z591
    obtain ⟨a2, a3, a4, a5, k2, k3, k4, k5, rfl, N591q, K591, Gs591⟩ := hQ591
    have N591 := Fr.app N0 N591q
    have A590_592 := A590.keep K591
    have zh591 : n0 ≤ T591.heap.size := Nat.le_trans zh590 K591.1
    have GA := Gs591
    obtain ⟨E1_593, Fc_593, Fa2_593, Fa3_593, Fa4_593, Fa5_593, Va2_593, Va3_593, Va4_593, Va5_593, da2a3_593, da2a4_593, da2a5_593, da3a4_593, da3a5_593, da4a5_593, lo1_593, loa2_593, loa3_593, loa4_593, loa5_593⟩ := Gs591
    have ne1a2_593 : b1 ≠ a2 := Exa.neArv E1_593 Va2_593 (hw _ (List.mem_of_getElem? (i := 2) rfl))
    have ne1a3_593 : b1 ≠ a3 := Exa.neArv E1_593 Va3_593 (hw _ (List.mem_of_getElem? (i := 2) rfl))
    have ne1a4_593 : b1 ≠ a4 := Exa.neArv E1_593 Va4_593 (hw _ (List.mem_of_getElem? (i := 2) rfl))
    have ne1a5_593 : b1 ≠ a5 := Exa.neArv E1_593 Va5_593 (hw _ (List.mem_of_getElem? (i := 2) rfl))
    obtain ⟨cq594, kq594, q594a, q594b, q594c⟩ := isOf hZ rfl E1_593
    obtain ⟨_, _, ⟨T594, L594, k594, n594⟩, -, X594, ⟨Lc594, hQ594, l594, y594, z594⟩, st594⟩ := X591.virtualBack hx (y := (⟨"com/example/uplog/uplog/SegmentIndex", "add", "(JJJJ)V"⟩ : MethodName)) (z := (⟨"com/example/uplog/uplog/SegmentIndex", "add", "(JJJJ)V"⟩ : MethodName)) hown (mvT hZ (hw _ (List.mem_of_getElem? (i := 19) rfl))) (mvT hZ (hw _ (List.mem_of_getElem? (i := 20) rfl))) (notFace_of_selects (args := #[]) (mvT hZ (hw _ (List.mem_of_getElem? (i := 22) rfl)))) (mvT hZ (hw _ (List.mem_of_getElem? (i := 22) rfl))) (mvT hZ (hw _ (List.mem_of_getElem? (i := 21) rfl))) (by decide) (backOf (W := 0) (rmaA l Z a0 hw [] b1 q0 (q1 &&& (4611686018427387903 : Int64)) q3 q4 a2 a3 a4 a5 k2 k3 k4 k5 T591.heap n0 zh591 GA) hZ (hw _ (List.mem_of_getElem? (i := 23) rfl)) (hw _ (List.mem_of_getElem? (i := 3) rfl)) (by decide) (by decide)) q594a q594c (g := (mkF m 73 #[.val (.long q0), .second, .val (.long q1), .second, .val (.long q2), .second, .val (.long q3), .second, .val (.long q4), .second, .val (.long q5), .second, .val (.long (q1 &&& (4611686018427387903 : Int64))), .second, .val (.long (q2 &&& (4611686018427387903 : Int64))), .second, .val (.long ((q1 &&& (4611686018427387903 : Int64)) + (q2 &&& (4611686018427387903 : Int64)))), .second, .val (.long (q0 ^^^ q2)), .second, .val (.long q5), .second, .val (.long ((q5 ^^^ q3) ^^^ q4)), .second, .val (.int (1 : Int32)), .val (.ref b1), .unset, .unset, .unset, .unset, .unset, .unset] [(.long q4), (.long q3), (.long (q1 &&& (4611686018427387903 : Int64))), (.long q0), (.ref b1)])) rfl (by rw [hml]; rfl) (Steps.refl _) (argsL := [(.long q0), (.long (q1 &&& (4611686018427387903 : Int64))), (.long q3), (.long q4)]) (rest := []) (lenOf pd_5 rfl) rfl (by show 2 * 0 + _ ≤ _; exact Nat.le_of_eq rfl) (hb hby at_73) (fun _ _ => ⟨rfl, rfl, (by decide : 5 + 0 ≤ _), (by decide : 37 + 0 ≤ _)⟩)
    dsimp only [Pt.U, Pt.locs, Pt.cells, Pt.slots] at X594 l594 y594 z594 st594 hQ594
    subst l594 y594 z594
    obtain ⟨rfl, N594q, K594, Gs594⟩ := hQ594
    have N594 := Fr.app N591 N594q
    have E1_595 := E1_593.keep K594
    have zh594 : n0 ≤ T594.heap.size := Nat.le_trans zh591 K594.1
    have GB := Gs594
    obtain ⟨E1_596, Fc_596, Fa2_596, Fa3_596, Fa4_596, Fa5_596, Va2_596, Va3_596, Va4_596, Va5_596, da2a3_596, da2a4_596, da2a5_596, da3a4_596, da3a5_596, da4a5_596, lo1_596, loa2_596, loa3_596, loa4_596, loa5_596⟩ := Gs594
    have ne1a2_596 : b1 ≠ a2 := Exa.neArv E1_596 Va2_596 (hw _ (List.mem_of_getElem? (i := 2) rfl))
    have ne1a3_596 : b1 ≠ a3 := Exa.neArv E1_596 Va3_596 (hw _ (List.mem_of_getElem? (i := 2) rfl))
    have ne1a4_596 : b1 ≠ a4 := Exa.neArv E1_596 Va4_596 (hw _ (List.mem_of_getElem? (i := 2) rfl))
    have ne1a5_596 : b1 ≠ a5 := Exa.neArv E1_596 Va5_596 (hw _ (List.mem_of_getElem? (i := 2) rfl))
    obtain ⟨cq597, kq597, q597a, q597b, q597c⟩ := isOf hZ rfl E1_596
    obtain ⟨_, _, ⟨T597, L597, k597, n597⟩, -, X597, ⟨Lc597, hQ597, l597, y597, z597⟩, st597⟩ := X594.virtualBack hx (y := (⟨"com/example/uplog/uplog/SegmentIndex", "trim", "()V"⟩ : MethodName)) (z := (⟨"com/example/uplog/uplog/SegmentIndex", "trim", "()V"⟩ : MethodName)) hown (mvT hZ (hw _ (List.mem_of_getElem? (i := 58) rfl))) (mvT hZ (hw _ (List.mem_of_getElem? (i := 59) rfl))) (notFace_of_selects (args := #[]) (mvT hZ (hw _ (List.mem_of_getElem? (i := 61) rfl)))) (mvT hZ (hw _ (List.mem_of_getElem? (i := 61) rfl))) (mvT hZ (hw _ (List.mem_of_getElem? (i := 60) rfl))) (by decide) (backOf (W := 0) (rm10 l Z a0 hw [] b1 a2 a3 a4 a5 k2 k3 k4 k5 q0 (q1 &&& (4611686018427387903 : Int64)) q3 q4 T594.heap n0 zh594 GB) hZ (hw _ (List.mem_of_getElem? (i := 62) rfl)) (hw _ (List.mem_of_getElem? (i := 3) rfl)) (by decide) (by decide)) q597a q597c (g := (mkF m 83 #[.val (.long q0), .second, .val (.long q1), .second, .val (.long q2), .second, .val (.long q3), .second, .val (.long q4), .second, .val (.long q5), .second, .val (.long (q1 &&& (4611686018427387903 : Int64))), .second, .val (.long (q2 &&& (4611686018427387903 : Int64))), .second, .val (.long ((q1 &&& (4611686018427387903 : Int64)) + (q2 &&& (4611686018427387903 : Int64)))), .second, .val (.long (q0 ^^^ q2)), .second, .val (.long q5), .second, .val (.long ((q5 ^^^ q3) ^^^ q4)), .second, .val (.int (1 : Int32)), .val (.ref b1), .unset, .unset, .unset, .unset, .unset, .unset] [(.ref b1)])) rfl (by rw [hml]; rfl) (Steps.refl _) (argsL := []) (rest := []) (lenOf pd_4 rfl) rfl (by show 2 * 0 + _ ≤ _; exact Nat.le_of_eq rfl) (hb hby at_83) (fun _ _ => ⟨rfl, rfl, (by decide : 5 + 4 ≤ _), (by decide : 37 + 4 ≤ _)⟩)
    dsimp only [Pt.U, Pt.locs, Pt.cells, Pt.slots] at X597 l597 y597 z597 st597 hQ597
    subst l597 y597 z597
    obtain ⟨c2, c3, c4, c5, j2, j3, j4, j5, rfl, N597q, K597, Gs597⟩ := hQ597
    have N597 := Fr.app N594 N597q
    have E1_598 := E1_596.keep K597
    have zh597 : n0 ≤ T597.heap.size := Nat.le_trans zh594 K597.1
    have GC := Gs597
    obtain ⟨E1_599, Fc_599, Fc2_599, Fc3_599, Fc4_599, Fc5_599, Vc2_599, Vc3_599, Vc4_599, Vc5_599, dc2c3_599, dc2c4_599, dc2c5_599, dc3c4_599, dc3c5_599, dc4c5_599, lo1_599, loc2_599, loc3_599, loc4_599, loc5_599⟩ := Gs597
    have ne1c2_599 : b1 ≠ c2 := Exa.neArv E1_599 Vc2_599 (hw _ (List.mem_of_getElem? (i := 2) rfl))
    have ne1c3_599 : b1 ≠ c3 := Exa.neArv E1_599 Vc3_599 (hw _ (List.mem_of_getElem? (i := 2) rfl))
    have ne1c4_599 : b1 ≠ c4 := Exa.neArv E1_599 Vc4_599 (hw _ (List.mem_of_getElem? (i := 2) rfl))
    have ne1c5_599 : b1 ≠ c5 := Exa.neArv E1_599 Vc5_599 (hw _ (List.mem_of_getElem? (i := 2) rfl))
    refine own_Go.mono (T' := T597) (f' := (mkF m 96 #[.val (.long q0), .second, .val (.long q1), .second, .val (.long q2), .second, .val (.long q3), .second, .val (.long q4), .second, .val (.long q5), .second, .val (.long (q1 &&& (4611686018427387903 : Int64))), .second, .val (.long (q2 &&& (4611686018427387903 : Int64))), .second, .val (.long ((q1 &&& (4611686018427387903 : Int64)) + (q2 &&& (4611686018427387903 : Int64)))), .second, .val (.long (q0 ^^^ q2)), .second, .val (.long q5), .second, .val (.long ((q5 ^^^ q3) ^^^ q4)), .second, .val (.int (1 : Int32)), .val (.ref b1), .unset, .unset, .unset, .unset, .unset, .unset] [(.long ((q5 ^^^ q3) ^^^ q4)), (.long q5), (.long ((q1 &&& (4611686018427387903 : Int64)) + (q2 &&& (4611686018427387903 : Int64)))), (.long (q0 ^^^ q2)), (.ref b1)])) (fun t k => ?_) ?_
    · show Steps p.tables e below (s₁.setTop (mkF m 45 #[.val (.long q0), .second, .val (.long q1), .second, .val (.long q2), .second, .val (.long q3), .second, .val (.long q4), .second, .val (.long q5), .second, .val (.long (q1 &&& (4611686018427387903 : Int64))), .second, .val (.long (q2 &&& (4611686018427387903 : Int64))), .second, .val (.long ((q1 &&& (4611686018427387903 : Int64)) + (q2 &&& (4611686018427387903 : Int64)))), .second, .val (.long (q0 ^^^ q2)), .second, .val (.long q5), .second, .val (.long ((q5 ^^^ q3) ^^^ q4)), .second, .unset, .unset, .unset, .unset, .unset, .unset, .unset, .unset] [(.int (lcmpW q1 (0 : Int64)))])) _
      refine XS.ifNo X0.here hx rfl (hb hby at_45) rfl ((if0 _ _).trans (tlt c45_589).2.1) ?_
      show Steps p.tables e below (s₁.setTop (mkF m 48 #[.val (.long q0), .second, .val (.long q1), .second, .val (.long q2), .second, .val (.long q3), .second, .val (.long q4), .second, .val (.long q5), .second, .val (.long (q1 &&& (4611686018427387903 : Int64))), .second, .val (.long (q2 &&& (4611686018427387903 : Int64))), .second, .val (.long ((q1 &&& (4611686018427387903 : Int64)) + (q2 &&& (4611686018427387903 : Int64)))), .second, .val (.long (q0 ^^^ q2)), .second, .val (.long q5), .second, .val (.long ((q5 ^^^ q3) ^^^ q4)), .second, .unset, .unset, .unset, .unset, .unset, .unset, .unset, .unset] [])) _
      refine XS.iconst X0.here hx rfl (hb hby at_48) ?_
      show Steps p.tables e below (s₁.setTop (mkF m 49 #[.val (.long q0), .second, .val (.long q1), .second, .val (.long q2), .second, .val (.long q3), .second, .val (.long q4), .second, .val (.long q5), .second, .val (.long (q1 &&& (4611686018427387903 : Int64))), .second, .val (.long (q2 &&& (4611686018427387903 : Int64))), .second, .val (.long ((q1 &&& (4611686018427387903 : Int64)) + (q2 &&& (4611686018427387903 : Int64)))), .second, .val (.long (q0 ^^^ q2)), .second, .val (.long q5), .second, .val (.long ((q5 ^^^ q3) ^^^ q4)), .second, .unset, .unset, .unset, .unset, .unset, .unset, .unset, .unset] [(.int (1 : Int32))])) _
      refine XS.goto X0.here hx rfl (pc0 := 49) (pc' := 53) rfl (hb hby at_49) (by decide) (by decide) ?_
      show Steps p.tables e below (s₁.setTop (mkF m 53 #[.val (.long q0), .second, .val (.long q1), .second, .val (.long q2), .second, .val (.long q3), .second, .val (.long q4), .second, .val (.long q5), .second, .val (.long (q1 &&& (4611686018427387903 : Int64))), .second, .val (.long (q2 &&& (4611686018427387903 : Int64))), .second, .val (.long ((q1 &&& (4611686018427387903 : Int64)) + (q2 &&& (4611686018427387903 : Int64)))), .second, .val (.long (q0 ^^^ q2)), .second, .val (.long q5), .second, .val (.long ((q5 ^^^ q3) ^^^ q4)), .second, .unset, .unset, .unset, .unset, .unset, .unset, .unset, .unset] [(.int (1 : Int32))])) _
      refine XS.istore X0.here hx rfl (hb hby at_53) rfl (l' := #[.val (.long q0), .second, .val (.long q1), .second, .val (.long q2), .second, .val (.long q3), .second, .val (.long q4), .second, .val (.long q5), .second, .val (.long (q1 &&& (4611686018427387903 : Int64))), .second, .val (.long (q2 &&& (4611686018427387903 : Int64))), .second, .val (.long ((q1 &&& (4611686018427387903 : Int64)) + (q2 &&& (4611686018427387903 : Int64)))), .second, .val (.long (q0 ^^^ q2)), .second, .val (.long q5), .second, .val (.long ((q5 ^^^ q3) ^^^ q4)), .second, .val (.int (1 : Int32)), .unset, .unset, .unset, .unset, .unset, .unset, .unset]) rfl ?_
      show Steps p.tables e below (s₁.setTop (mkF m 55 #[.val (.long q0), .second, .val (.long q1), .second, .val (.long q2), .second, .val (.long q3), .second, .val (.long q4), .second, .val (.long q5), .second, .val (.long (q1 &&& (4611686018427387903 : Int64))), .second, .val (.long (q2 &&& (4611686018427387903 : Int64))), .second, .val (.long ((q1 &&& (4611686018427387903 : Int64)) + (q2 &&& (4611686018427387903 : Int64)))), .second, .val (.long (q0 ^^^ q2)), .second, .val (.long q5), .second, .val (.long ((q5 ^^^ q3) ^^^ q4)), .second, .val (.int (1 : Int32)), .unset, .unset, .unset, .unset, .unset, .unset, .unset] [])) _
      refine st590 _ ?_
      show Steps p.tables e below (T590.setTop (mkF m 58 #[.val (.long q0), .second, .val (.long q1), .second, .val (.long q2), .second, .val (.long q3), .second, .val (.long q4), .second, .val (.long q5), .second, .val (.long (q1 &&& (4611686018427387903 : Int64))), .second, .val (.long (q2 &&& (4611686018427387903 : Int64))), .second, .val (.long ((q1 &&& (4611686018427387903 : Int64)) + (q2 &&& (4611686018427387903 : Int64)))), .second, .val (.long (q0 ^^^ q2)), .second, .val (.long q5), .second, .val (.long ((q5 ^^^ q3) ^^^ q4)), .second, .val (.int (1 : Int32)), .unset, .unset, .unset, .unset, .unset, .unset, .unset] [(.ref b1)])) _
      refine XS.dup X590.here hx rfl (hb hby at_58) rfl rfl ?_
      show Steps p.tables e below (T590.setTop (mkF m 59 #[.val (.long q0), .second, .val (.long q1), .second, .val (.long q2), .second, .val (.long q3), .second, .val (.long q4), .second, .val (.long q5), .second, .val (.long (q1 &&& (4611686018427387903 : Int64))), .second, .val (.long (q2 &&& (4611686018427387903 : Int64))), .second, .val (.long ((q1 &&& (4611686018427387903 : Int64)) + (q2 &&& (4611686018427387903 : Int64)))), .second, .val (.long (q0 ^^^ q2)), .second, .val (.long q5), .second, .val (.long ((q5 ^^^ q3) ^^^ q4)), .second, .val (.int (1 : Int32)), .unset, .unset, .unset, .unset, .unset, .unset, .unset] [(.ref b1), (.ref b1)])) _
      refine st591.trans ?_
      show Steps p.tables e below (T591.setTop (mkF m 62 #[.val (.long q0), .second, .val (.long q1), .second, .val (.long q2), .second, .val (.long q3), .second, .val (.long q4), .second, .val (.long q5), .second, .val (.long (q1 &&& (4611686018427387903 : Int64))), .second, .val (.long (q2 &&& (4611686018427387903 : Int64))), .second, .val (.long ((q1 &&& (4611686018427387903 : Int64)) + (q2 &&& (4611686018427387903 : Int64)))), .second, .val (.long (q0 ^^^ q2)), .second, .val (.long q5), .second, .val (.long ((q5 ^^^ q3) ^^^ q4)), .second, .val (.int (1 : Int32)), .unset, .unset, .unset, .unset, .unset, .unset, .unset] [(.ref b1)])) _
      refine XS.astore X591.here hx rfl (hb hby at_62) rfl rfl (l' := #[.val (.long q0), .second, .val (.long q1), .second, .val (.long q2), .second, .val (.long q3), .second, .val (.long q4), .second, .val (.long q5), .second, .val (.long (q1 &&& (4611686018427387903 : Int64))), .second, .val (.long (q2 &&& (4611686018427387903 : Int64))), .second, .val (.long ((q1 &&& (4611686018427387903 : Int64)) + (q2 &&& (4611686018427387903 : Int64)))), .second, .val (.long (q0 ^^^ q2)), .second, .val (.long q5), .second, .val (.long ((q5 ^^^ q3) ^^^ q4)), .second, .val (.int (1 : Int32)), .val (.ref b1), .unset, .unset, .unset, .unset, .unset, .unset]) rfl ?_
      show Steps p.tables e below (T591.setTop (mkF m 64 #[.val (.long q0), .second, .val (.long q1), .second, .val (.long q2), .second, .val (.long q3), .second, .val (.long q4), .second, .val (.long q5), .second, .val (.long (q1 &&& (4611686018427387903 : Int64))), .second, .val (.long (q2 &&& (4611686018427387903 : Int64))), .second, .val (.long ((q1 &&& (4611686018427387903 : Int64)) + (q2 &&& (4611686018427387903 : Int64)))), .second, .val (.long (q0 ^^^ q2)), .second, .val (.long q5), .second, .val (.long ((q5 ^^^ q3) ^^^ q4)), .second, .val (.int (1 : Int32)), .val (.ref b1), .unset, .unset, .unset, .unset, .unset, .unset] [])) _
      refine XS.aload X591.here hx rfl (hb hby at_64) rfl rfl ?_
      show Steps p.tables e below (T591.setTop (mkF m 66 #[.val (.long q0), .second, .val (.long q1), .second, .val (.long q2), .second, .val (.long q3), .second, .val (.long q4), .second, .val (.long q5), .second, .val (.long (q1 &&& (4611686018427387903 : Int64))), .second, .val (.long (q2 &&& (4611686018427387903 : Int64))), .second, .val (.long ((q1 &&& (4611686018427387903 : Int64)) + (q2 &&& (4611686018427387903 : Int64)))), .second, .val (.long (q0 ^^^ q2)), .second, .val (.long q5), .second, .val (.long ((q5 ^^^ q3) ^^^ q4)), .second, .val (.int (1 : Int32)), .val (.ref b1), .unset, .unset, .unset, .unset, .unset, .unset] [(.ref b1)])) _
      refine XS.lloadN X591.here hx rfl (hb hby at_66) rfl ?_
      show Steps p.tables e below (T591.setTop (mkF m 67 #[.val (.long q0), .second, .val (.long q1), .second, .val (.long q2), .second, .val (.long q3), .second, .val (.long q4), .second, .val (.long q5), .second, .val (.long (q1 &&& (4611686018427387903 : Int64))), .second, .val (.long (q2 &&& (4611686018427387903 : Int64))), .second, .val (.long ((q1 &&& (4611686018427387903 : Int64)) + (q2 &&& (4611686018427387903 : Int64)))), .second, .val (.long (q0 ^^^ q2)), .second, .val (.long q5), .second, .val (.long ((q5 ^^^ q3) ^^^ q4)), .second, .val (.int (1 : Int32)), .val (.ref b1), .unset, .unset, .unset, .unset, .unset, .unset] [(.long q0), (.ref b1)])) _
      refine XS.lload X591.here hx rfl (hb hby at_67) rfl ?_
      show Steps p.tables e below (T591.setTop (mkF m 69 #[.val (.long q0), .second, .val (.long q1), .second, .val (.long q2), .second, .val (.long q3), .second, .val (.long q4), .second, .val (.long q5), .second, .val (.long (q1 &&& (4611686018427387903 : Int64))), .second, .val (.long (q2 &&& (4611686018427387903 : Int64))), .second, .val (.long ((q1 &&& (4611686018427387903 : Int64)) + (q2 &&& (4611686018427387903 : Int64)))), .second, .val (.long (q0 ^^^ q2)), .second, .val (.long q5), .second, .val (.long ((q5 ^^^ q3) ^^^ q4)), .second, .val (.int (1 : Int32)), .val (.ref b1), .unset, .unset, .unset, .unset, .unset, .unset] [(.long (q1 &&& (4611686018427387903 : Int64))), (.long q0), (.ref b1)])) _
      refine XS.lload X591.here hx rfl (hb hby at_69) rfl ?_
      show Steps p.tables e below (T591.setTop (mkF m 71 #[.val (.long q0), .second, .val (.long q1), .second, .val (.long q2), .second, .val (.long q3), .second, .val (.long q4), .second, .val (.long q5), .second, .val (.long (q1 &&& (4611686018427387903 : Int64))), .second, .val (.long (q2 &&& (4611686018427387903 : Int64))), .second, .val (.long ((q1 &&& (4611686018427387903 : Int64)) + (q2 &&& (4611686018427387903 : Int64)))), .second, .val (.long (q0 ^^^ q2)), .second, .val (.long q5), .second, .val (.long ((q5 ^^^ q3) ^^^ q4)), .second, .val (.int (1 : Int32)), .val (.ref b1), .unset, .unset, .unset, .unset, .unset, .unset] [(.long q3), (.long (q1 &&& (4611686018427387903 : Int64))), (.long q0), (.ref b1)])) _
      refine XS.lload X591.here hx rfl (hb hby at_71) rfl ?_
      show Steps p.tables e below (T591.setTop (mkF m 73 #[.val (.long q0), .second, .val (.long q1), .second, .val (.long q2), .second, .val (.long q3), .second, .val (.long q4), .second, .val (.long q5), .second, .val (.long (q1 &&& (4611686018427387903 : Int64))), .second, .val (.long (q2 &&& (4611686018427387903 : Int64))), .second, .val (.long ((q1 &&& (4611686018427387903 : Int64)) + (q2 &&& (4611686018427387903 : Int64)))), .second, .val (.long (q0 ^^^ q2)), .second, .val (.long q5), .second, .val (.long ((q5 ^^^ q3) ^^^ q4)), .second, .val (.int (1 : Int32)), .val (.ref b1), .unset, .unset, .unset, .unset, .unset, .unset] [(.long q4), (.long q3), (.long (q1 &&& (4611686018427387903 : Int64))), (.long q0), (.ref b1)])) _
      refine st594.trans ?_
      show Steps p.tables e below (T594.setTop (mkF m 76 #[.val (.long q0), .second, .val (.long q1), .second, .val (.long q2), .second, .val (.long q3), .second, .val (.long q4), .second, .val (.long q5), .second, .val (.long (q1 &&& (4611686018427387903 : Int64))), .second, .val (.long (q2 &&& (4611686018427387903 : Int64))), .second, .val (.long ((q1 &&& (4611686018427387903 : Int64)) + (q2 &&& (4611686018427387903 : Int64)))), .second, .val (.long (q0 ^^^ q2)), .second, .val (.long q5), .second, .val (.long ((q5 ^^^ q3) ^^^ q4)), .second, .val (.int (1 : Int32)), .val (.ref b1), .unset, .unset, .unset, .unset, .unset, .unset] [])) _
      refine XS.iload X594.here hx rfl (hb hby at_76) rfl ?_
      show Steps p.tables e below (T594.setTop (mkF m 78 #[.val (.long q0), .second, .val (.long q1), .second, .val (.long q2), .second, .val (.long q3), .second, .val (.long q4), .second, .val (.long q5), .second, .val (.long (q1 &&& (4611686018427387903 : Int64))), .second, .val (.long (q2 &&& (4611686018427387903 : Int64))), .second, .val (.long ((q1 &&& (4611686018427387903 : Int64)) + (q2 &&& (4611686018427387903 : Int64)))), .second, .val (.long (q0 ^^^ q2)), .second, .val (.long q5), .second, .val (.long ((q5 ^^^ q3) ^^^ q4)), .second, .val (.int (1 : Int32)), .val (.ref b1), .unset, .unset, .unset, .unset, .unset, .unset] [(.int (1 : Int32))])) _
      refine XS.ifNo X594.here hx rfl (hb hby at_78) rfl ((if0 _ _).trans (feq (by decide)).1) ?_
      show Steps p.tables e below (T594.setTop (mkF m 81 #[.val (.long q0), .second, .val (.long q1), .second, .val (.long q2), .second, .val (.long q3), .second, .val (.long q4), .second, .val (.long q5), .second, .val (.long (q1 &&& (4611686018427387903 : Int64))), .second, .val (.long (q2 &&& (4611686018427387903 : Int64))), .second, .val (.long ((q1 &&& (4611686018427387903 : Int64)) + (q2 &&& (4611686018427387903 : Int64)))), .second, .val (.long (q0 ^^^ q2)), .second, .val (.long q5), .second, .val (.long ((q5 ^^^ q3) ^^^ q4)), .second, .val (.int (1 : Int32)), .val (.ref b1), .unset, .unset, .unset, .unset, .unset, .unset] [])) _
      refine XS.aload X594.here hx rfl (hb hby at_81) rfl rfl ?_
      show Steps p.tables e below (T594.setTop (mkF m 83 #[.val (.long q0), .second, .val (.long q1), .second, .val (.long q2), .second, .val (.long q3), .second, .val (.long q4), .second, .val (.long q5), .second, .val (.long (q1 &&& (4611686018427387903 : Int64))), .second, .val (.long (q2 &&& (4611686018427387903 : Int64))), .second, .val (.long ((q1 &&& (4611686018427387903 : Int64)) + (q2 &&& (4611686018427387903 : Int64)))), .second, .val (.long (q0 ^^^ q2)), .second, .val (.long q5), .second, .val (.long ((q5 ^^^ q3) ^^^ q4)), .second, .val (.int (1 : Int32)), .val (.ref b1), .unset, .unset, .unset, .unset, .unset, .unset] [(.ref b1)])) _
      refine st597.trans ?_
      show Steps p.tables e below (T597.setTop (mkF m 86 #[.val (.long q0), .second, .val (.long q1), .second, .val (.long q2), .second, .val (.long q3), .second, .val (.long q4), .second, .val (.long q5), .second, .val (.long (q1 &&& (4611686018427387903 : Int64))), .second, .val (.long (q2 &&& (4611686018427387903 : Int64))), .second, .val (.long ((q1 &&& (4611686018427387903 : Int64)) + (q2 &&& (4611686018427387903 : Int64)))), .second, .val (.long (q0 ^^^ q2)), .second, .val (.long q5), .second, .val (.long ((q5 ^^^ q3) ^^^ q4)), .second, .val (.int (1 : Int32)), .val (.ref b1), .unset, .unset, .unset, .unset, .unset, .unset] [])) _
      refine XS.aload X597.here hx rfl (hb hby at_86) rfl rfl ?_
      show Steps p.tables e below (T597.setTop (mkF m 88 #[.val (.long q0), .second, .val (.long q1), .second, .val (.long q2), .second, .val (.long q3), .second, .val (.long q4), .second, .val (.long q5), .second, .val (.long (q1 &&& (4611686018427387903 : Int64))), .second, .val (.long (q2 &&& (4611686018427387903 : Int64))), .second, .val (.long ((q1 &&& (4611686018427387903 : Int64)) + (q2 &&& (4611686018427387903 : Int64)))), .second, .val (.long (q0 ^^^ q2)), .second, .val (.long q5), .second, .val (.long ((q5 ^^^ q3) ^^^ q4)), .second, .val (.int (1 : Int32)), .val (.ref b1), .unset, .unset, .unset, .unset, .unset, .unset] [(.ref b1)])) _
      refine XS.lload X597.here hx rfl (hb hby at_88) rfl ?_
      show Steps p.tables e below (T597.setTop (mkF m 90 #[.val (.long q0), .second, .val (.long q1), .second, .val (.long q2), .second, .val (.long q3), .second, .val (.long q4), .second, .val (.long q5), .second, .val (.long (q1 &&& (4611686018427387903 : Int64))), .second, .val (.long (q2 &&& (4611686018427387903 : Int64))), .second, .val (.long ((q1 &&& (4611686018427387903 : Int64)) + (q2 &&& (4611686018427387903 : Int64)))), .second, .val (.long (q0 ^^^ q2)), .second, .val (.long q5), .second, .val (.long ((q5 ^^^ q3) ^^^ q4)), .second, .val (.int (1 : Int32)), .val (.ref b1), .unset, .unset, .unset, .unset, .unset, .unset] [(.long (q0 ^^^ q2)), (.ref b1)])) _
      refine XS.lload X597.here hx rfl (hb hby at_90) rfl ?_
      show Steps p.tables e below (T597.setTop (mkF m 92 #[.val (.long q0), .second, .val (.long q1), .second, .val (.long q2), .second, .val (.long q3), .second, .val (.long q4), .second, .val (.long q5), .second, .val (.long (q1 &&& (4611686018427387903 : Int64))), .second, .val (.long (q2 &&& (4611686018427387903 : Int64))), .second, .val (.long ((q1 &&& (4611686018427387903 : Int64)) + (q2 &&& (4611686018427387903 : Int64)))), .second, .val (.long (q0 ^^^ q2)), .second, .val (.long q5), .second, .val (.long ((q5 ^^^ q3) ^^^ q4)), .second, .val (.int (1 : Int32)), .val (.ref b1), .unset, .unset, .unset, .unset, .unset, .unset] [(.long ((q1 &&& (4611686018427387903 : Int64)) + (q2 &&& (4611686018427387903 : Int64)))), (.long (q0 ^^^ q2)), (.ref b1)])) _
      refine XS.lload X597.here hx rfl (hb hby at_92) rfl ?_
      show Steps p.tables e below (T597.setTop (mkF m 94 #[.val (.long q0), .second, .val (.long q1), .second, .val (.long q2), .second, .val (.long q3), .second, .val (.long q4), .second, .val (.long q5), .second, .val (.long (q1 &&& (4611686018427387903 : Int64))), .second, .val (.long (q2 &&& (4611686018427387903 : Int64))), .second, .val (.long ((q1 &&& (4611686018427387903 : Int64)) + (q2 &&& (4611686018427387903 : Int64)))), .second, .val (.long (q0 ^^^ q2)), .second, .val (.long q5), .second, .val (.long ((q5 ^^^ q3) ^^^ q4)), .second, .val (.int (1 : Int32)), .val (.ref b1), .unset, .unset, .unset, .unset, .unset, .unset] [(.long q5), (.long ((q1 &&& (4611686018427387903 : Int64)) + (q2 &&& (4611686018427387903 : Int64)))), (.long (q0 ^^^ q2)), (.ref b1)])) _
      refine XS.lload X597.here hx rfl (hb hby at_94) rfl ?_
      show Steps p.tables e below (T597.setTop (mkF m 96 #[.val (.long q0), .second, .val (.long q1), .second, .val (.long q2), .second, .val (.long q3), .second, .val (.long q4), .second, .val (.long q5), .second, .val (.long (q1 &&& (4611686018427387903 : Int64))), .second, .val (.long (q2 &&& (4611686018427387903 : Int64))), .second, .val (.long ((q1 &&& (4611686018427387903 : Int64)) + (q2 &&& (4611686018427387903 : Int64)))), .second, .val (.long (q0 ^^^ q2)), .second, .val (.long q5), .second, .val (.long ((q5 ^^^ q3) ^^^ q4)), .second, .val (.int (1 : Int32)), .val (.ref b1), .unset, .unset, .unset, .unset, .unset, .unset] [(.long ((q5 ^^^ q3) ^^^ q4)), (.long q5), (.long ((q1 &&& (4611686018427387903 : Int64)) + (q2 &&& (4611686018427387903 : Int64)))), (.long (q0 ^^^ q2)), (.ref b1)])) _
      exact k
    by_cases hd : (q2 &&& (4611686018427387903 : Int64)) < 32768
    · obtain ⟨cq600, kq600, q600a, q600b, q600c⟩ := isOf hZ rfl E1_599
      obtain ⟨_, _, ⟨T600, L600, k600, n600⟩, -, X600, ⟨Lc600, hQ600, l600, y600, z600⟩, st600⟩ := X597.virtualBack hx (y := (⟨"com/example/uplog/uplog/SegmentIndex", "add", "(JJJJ)V"⟩ : MethodName)) (z := (⟨"com/example/uplog/uplog/SegmentIndex", "add", "(JJJJ)V"⟩ : MethodName)) hown (mvT hZ (hw _ (List.mem_of_getElem? (i := 19) rfl))) (mvT hZ (hw _ (List.mem_of_getElem? (i := 20) rfl))) (notFace_of_selects (args := #[]) (mvT hZ (hw _ (List.mem_of_getElem? (i := 22) rfl)))) (mvT hZ (hw _ (List.mem_of_getElem? (i := 22) rfl))) (mvT hZ (hw _ (List.mem_of_getElem? (i := 21) rfl))) (by decide) (backOf (W := 0) (rmaB1 l Z a0 hw [] b1 (q0 ^^^ q2) ((q1 &&& (4611686018427387903 : Int64)) + (q2 &&& (4611686018427387903 : Int64))) q5 ((q5 ^^^ q3) ^^^ q4) c2 c3 c4 c5 j2 j3 j4 j5 q0 (q1 &&& (4611686018427387903 : Int64)) q3 q4 T597.heap n0 zh597 GC (own_dist _ _ hd)) hZ (hw _ (List.mem_of_getElem? (i := 23) rfl)) (hw _ (List.mem_of_getElem? (i := 3) rfl)) (by decide) (by decide)) q600a q600c (g := (mkF m 96 #[.val (.long q0), .second, .val (.long q1), .second, .val (.long q2), .second, .val (.long q3), .second, .val (.long q4), .second, .val (.long q5), .second, .val (.long (q1 &&& (4611686018427387903 : Int64))), .second, .val (.long (q2 &&& (4611686018427387903 : Int64))), .second, .val (.long ((q1 &&& (4611686018427387903 : Int64)) + (q2 &&& (4611686018427387903 : Int64)))), .second, .val (.long (q0 ^^^ q2)), .second, .val (.long q5), .second, .val (.long ((q5 ^^^ q3) ^^^ q4)), .second, .val (.int (1 : Int32)), .val (.ref b1), .unset, .unset, .unset, .unset, .unset, .unset] [(.long ((q5 ^^^ q3) ^^^ q4)), (.long q5), (.long ((q1 &&& (4611686018427387903 : Int64)) + (q2 &&& (4611686018427387903 : Int64)))), (.long (q0 ^^^ q2)), (.ref b1)])) rfl (by rw [hml]; rfl) (Steps.refl _) (argsL := [(.long (q0 ^^^ q2)), (.long ((q1 &&& (4611686018427387903 : Int64)) + (q2 &&& (4611686018427387903 : Int64)))), (.long q5), (.long ((q5 ^^^ q3) ^^^ q4))]) (rest := []) (lenOf pd_5 rfl) rfl (by show 2 * 0 + _ ≤ _; exact Nat.le_of_eq rfl) (hb hby at_96) (fun _ _ => ⟨rfl, rfl, (by decide : 9 + 0 ≤ _), (by decide : 41 + 0 ≤ _)⟩)
      dsimp only [Pt.U, Pt.locs, Pt.cells, Pt.slots] at X600 l600 y600 z600 st600 hQ600
      subst l600 y600 z600
      obtain ⟨rfl, N600q, K600, Gs600⟩ := hQ600
      have N600 := Fr.app N597 N600q
      have E1_601 := E1_599.keep K600
      have zh600 : n0 ≤ T600.heap.size := Nat.le_trans zh597 K600.1
      obtain ⟨E1_602, Fc_602, Fc2_602, Fc3_602, Fc4_602, Fc5_602, Vc2_602, Vc3_602, Vc4_602, Vc5_602, dc2c3_602, dc2c4_602, dc2c5_602, dc3c4_602, dc3c5_602, dc4c5_602, lo1_602, loc2_602, loc3_602, loc4_602, loc5_602⟩ := Gs600
      have ne1c2_602 : b1 ≠ c2 := Exa.neArv E1_602 Vc2_602 (hw _ (List.mem_of_getElem? (i := 2) rfl))
      have ne1c3_602 : b1 ≠ c3 := Exa.neArv E1_602 Vc3_602 (hw _ (List.mem_of_getElem? (i := 2) rfl))
      have ne1c4_602 : b1 ≠ c4 := Exa.neArv E1_602 Vc4_602 (hw _ (List.mem_of_getElem? (i := 2) rfl))
      have ne1c5_602 : b1 ≠ c5 := Exa.neArv E1_602 Vc5_602 (hw _ (List.mem_of_getElem? (i := 2) rfl))
      obtain ⟨_, _, ⟨T603, L603, k603, n603⟩, -, X603, ⟨Lc603, hQ603, l603, y603, z603⟩, st603⟩ := Jvm.LawKit.callS X600 hx (y := (⟨"java/lang/Math", "max", "(JJ)J"⟩ : MethodName)) hown (mvT hZ (hw _ (List.mem_of_getElem? (i := 57) rfl))) (mvT hZ (hw _ (List.mem_of_getElem? (i := 54) rfl))) (mvT hZ (hw _ (List.mem_of_getElem? (i := 55) rfl))) (mvT hZ (hw _ (List.mem_of_getElem? (i := 56) rfl))) (by decide) (backOf (W := 0) (rm9 l Z a0 hw [] q3 q5 T600.heap n0 zh600) hZ (hw _ (List.mem_of_getElem? (i := 56) rfl)) (hw _ (List.mem_of_getElem? (i := 55) rfl)) (by decide) (by decide)) (g := (mkF m 141 #[.val (.long q0), .second, .val (.long q1), .second, .val (.long q2), .second, .val (.long q3), .second, .val (.long q4), .second, .val (.long q5), .second, .val (.long (q1 &&& (4611686018427387903 : Int64))), .second, .val (.long (q2 &&& (4611686018427387903 : Int64))), .second, .val (.long ((q1 &&& (4611686018427387903 : Int64)) + (q2 &&& (4611686018427387903 : Int64)))), .second, .val (.long (q0 ^^^ q2)), .second, .val (.long q5), .second, .val (.long ((q5 ^^^ q3) ^^^ q4)), .second, .val (.int (1 : Int32)), .val (.ref b1), .val (.int (0 : Int32)), .val (.int (1 : Int32)), .unset, .unset, .unset, .unset] [(.long q5), (.long q3)])) rfl (by rw [hml]; rfl) (argsL := [(.long q3), (.long q5)]) (rest := []) (lenOf pd_3 rfl) rfl (by show 2 * 0 + _ ≤ _; exact Nat.le_of_eq rfl) (hb hby at_141) (fun _ _ => ⟨rfl, rfl, (by decide : 9 + 0 ≤ _), (by decide : 41 + 0 ≤ _)⟩)
      dsimp only [Pt.U, Pt.locs, Pt.cells, Pt.slots] at X603 l603 y603 z603 st603 hQ603
      subst l603 y603 z603
      obtain ⟨rfl, N603q, hh603⟩ := hQ603
      have N603 := Fr.app N600 N603q
      obtain ⟨_, _, ⟨T604, L604, k604, n604⟩, -, X604, ⟨Lc604, hQ604, l604, y604, z604⟩, st604⟩ := Jvm.LawKit.callS X603 hx (y := (⟨"java/lang/Math", "max", "(JJ)J"⟩ : MethodName)) hown (mvT hZ (hw _ (List.mem_of_getElem? (i := 57) rfl))) (mvT hZ (hw _ (List.mem_of_getElem? (i := 54) rfl))) (mvT hZ (hw _ (List.mem_of_getElem? (i := 55) rfl))) (mvT hZ (hw _ (List.mem_of_getElem? (i := 56) rfl))) (by decide) (backOf (W := 0) (rm9 l Z a0 hw [] q4 ((q5 ^^^ q3) ^^^ q4) T600.heap n0 zh600) hZ (hw _ (List.mem_of_getElem? (i := 56) rfl)) (hw _ (List.mem_of_getElem? (i := 55) rfl)) (by decide) (by decide)) (g := (mkF m 160 #[.val (.long q0), .second, .val (.long q1), .second, .val (.long q2), .second, .val (.long q3), .second, .val (.long q4), .second, .val (.long q5), .second, .val (.long (q1 &&& (4611686018427387903 : Int64))), .second, .val (.long (q2 &&& (4611686018427387903 : Int64))), .second, .val (.long ((q1 &&& (4611686018427387903 : Int64)) + (q2 &&& (4611686018427387903 : Int64)))), .second, .val (.long (q0 ^^^ q2)), .second, .val (.long q5), .second, .val (.long ((q5 ^^^ q3) ^^^ q4)), .second, .val (.int (1 : Int32)), .val (.ref b1), .val (.int (0 : Int32)), .val (.int (1 : Int32)), .val (.long (B9_0 q3 q5)), .second, .unset, .unset] [(.long ((q5 ^^^ q3) ^^^ q4)), (.long q4)])) rfl (by rw [hml]; rfl) (argsL := [(.long q4), (.long ((q5 ^^^ q3) ^^^ q4))]) (rest := []) (lenOf pd_3 rfl) rfl (by show 2 * 0 + _ ≤ _; exact Nat.le_of_eq rfl) (hb hby at_160) (fun _ _ => ⟨rfl, hh603, (by decide : 9 + 0 ≤ _), (by decide : 41 + 0 ≤ _)⟩)
      dsimp only [Pt.U, Pt.locs, Pt.cells, Pt.slots] at X604 l604 y604 z604 st604 hQ604
      subst l604 y604 z604
      obtain ⟨rfl, N604q, hh604⟩ := hQ604
      have N604 := Fr.app N603 N604q
      obtain ⟨cq605, kq605, q605a, q605b, q605c⟩ := isOf hZ hh604 E1_602
      obtain ⟨_, _, ⟨T605, L605, k605, n605⟩, -, X605, ⟨Lc605, hQ605, l605, y605, z605⟩, st605⟩ := X604.virtualBack hx (y := (⟨"com/example/uplog/uplog/SegmentIndex", "count", "()I"⟩ : MethodName)) (z := (⟨"com/example/uplog/uplog/SegmentIndex", "count", "()I"⟩ : MethodName)) hown (mvT hZ (hw _ (List.mem_of_getElem? (i := 28) rfl))) (mvT hZ (hw _ (List.mem_of_getElem? (i := 29) rfl))) (notFace_of_selects (args := #[]) (mvT hZ (hw _ (List.mem_of_getElem? (i := 31) rfl)))) (mvT hZ (hw _ (List.mem_of_getElem? (i := 31) rfl))) (mvT hZ (hw _ (List.mem_of_getElem? (i := 30) rfl))) (by decide) (backOf (W := 0) (rm4 l Z a0 hw [] b1 (1 : Int32) T600.heap n0 zh600 Fc_602) hZ (hw _ (List.mem_of_getElem? (i := 32) rfl)) (hw _ (List.mem_of_getElem? (i := 3) rfl)) (by decide) (by decide)) q605a q605c (g := (mkF m 167 #[.val (.long q0), .second, .val (.long q1), .second, .val (.long q2), .second, .val (.long q3), .second, .val (.long q4), .second, .val (.long q5), .second, .val (.long (q1 &&& (4611686018427387903 : Int64))), .second, .val (.long (q2 &&& (4611686018427387903 : Int64))), .second, .val (.long ((q1 &&& (4611686018427387903 : Int64)) + (q2 &&& (4611686018427387903 : Int64)))), .second, .val (.long (q0 ^^^ q2)), .second, .val (.long q5), .second, .val (.long ((q5 ^^^ q3) ^^^ q4)), .second, .val (.int (1 : Int32)), .val (.ref b1), .val (.int (0 : Int32)), .val (.int (1 : Int32)), .val (.long (B9_0 q3 q5)), .second, .val (.long (B9_0 q4 ((q5 ^^^ q3) ^^^ q4))), .second] [(.ref b1)])) rfl (by rw [hml]; rfl) (Steps.refl _) (argsL := []) (rest := []) (lenOf pd_6 rfl) rfl (by show 2 * 0 + _ ≤ _; exact Nat.le_of_eq rfl) (hb hby at_167) (fun _ _ => ⟨rfl, hh604, (by decide : 9 + 0 ≤ _), (by decide : 41 + 0 ≤ _)⟩)
      dsimp only [Pt.U, Pt.locs, Pt.cells, Pt.slots] at X605 l605 y605 z605 st605 hQ605
      subst l605 y605 z605
      obtain ⟨rfl, N605q, hh605⟩ := hQ605
      have N605 := Fr.app N604 N605q
      obtain ⟨cq606, kq606, q606a, q606b, q606c⟩ := isOf hZ hh605 E1_602
      obtain ⟨_, _, ⟨T606, L606, k606, n606⟩, -, X606, ⟨Lc606, hQ606, l606, y606, z606⟩, st606⟩ := X605.virtualBack hx (y := (⟨"com/example/uplog/uplog/SegmentIndex", "offset", "(I)J"⟩ : MethodName)) (z := (⟨"com/example/uplog/uplog/SegmentIndex", "offset", "(I)J"⟩ : MethodName)) hown (mvT hZ (hw _ (List.mem_of_getElem? (i := 33) rfl))) (mvT hZ (hw _ (List.mem_of_getElem? (i := 34) rfl))) (notFace_of_selects (args := #[]) (mvT hZ (hw _ (List.mem_of_getElem? (i := 36) rfl)))) (mvT hZ (hw _ (List.mem_of_getElem? (i := 36) rfl))) (mvT hZ (hw _ (List.mem_of_getElem? (i := 35) rfl))) (by decide) (backOf (W := 0) (rm5 l Z a0 hw [] b1 (0 : Int32) c2 j2 (1 : Int32) [(.long q0)] q0 T600.heap n0 zh600 Fc2_602 Vc2_602 ⟨by decide, by decide⟩ rfl) hZ (hw _ (List.mem_of_getElem? (i := 37) rfl)) (hw _ (List.mem_of_getElem? (i := 3) rfl)) (by decide) (by decide)) q606a q606c (g := (mkF m 180 #[.val (.long q0), .second, .val (.long q1), .second, .val (.long q2), .second, .val (.long q3), .second, .val (.long q4), .second, .val (.long q5), .second, .val (.long (q1 &&& (4611686018427387903 : Int64))), .second, .val (.long (q2 &&& (4611686018427387903 : Int64))), .second, .val (.long ((q1 &&& (4611686018427387903 : Int64)) + (q2 &&& (4611686018427387903 : Int64)))), .second, .val (.long (q0 ^^^ q2)), .second, .val (.long q5), .second, .val (.long ((q5 ^^^ q3) ^^^ q4)), .second, .val (.int (1 : Int32)), .val (.ref b1), .val (.int (0 : Int32)), .val (.int (1 : Int32)), .val (.long (B9_0 q3 q5)), .second, .val (.long (B9_0 q4 ((q5 ^^^ q3) ^^^ q4))), .second] [(.int (0 : Int32)), (.ref b1)])) rfl (by rw [hml]; rfl) (Steps.refl _) (argsL := [(.int (0 : Int32))]) (rest := []) (lenOf pd_7 rfl) rfl (by show 2 * 0 + _ ≤ _; exact Nat.le_of_eq rfl) (hb hby at_180) (fun _ _ => ⟨rfl, hh605, (by decide : 9 + 0 ≤ _), (by decide : 41 + 0 ≤ _)⟩)
      dsimp only [Pt.U, Pt.locs, Pt.cells, Pt.slots] at X606 l606 y606 z606 st606 hQ606
      subst l606 y606 z606
      obtain ⟨rfl, N606q, hh606⟩ := hQ606
      have N606 := Fr.app N605 N606q
      obtain ⟨cq607, kq607, q607a, q607b, q607c⟩ := isOf hZ hh606 E1_602
      obtain ⟨_, _, ⟨T607, L607, k607, n607⟩, -, X607, ⟨Lc607, hQ607, l607, y607, z607⟩, st607⟩ := X606.virtualBack hx (y := (⟨"com/example/uplog/uplog/SegmentIndex", "position", "(I)J"⟩ : MethodName)) (z := (⟨"com/example/uplog/uplog/SegmentIndex", "position", "(I)J"⟩ : MethodName)) hown (mvT hZ (hw _ (List.mem_of_getElem? (i := 38) rfl))) (mvT hZ (hw _ (List.mem_of_getElem? (i := 39) rfl))) (notFace_of_selects (args := #[]) (mvT hZ (hw _ (List.mem_of_getElem? (i := 41) rfl)))) (mvT hZ (hw _ (List.mem_of_getElem? (i := 41) rfl))) (mvT hZ (hw _ (List.mem_of_getElem? (i := 40) rfl))) (by decide) (backOf (W := 0) (rm6 l Z a0 hw [] b1 (0 : Int32) c3 j3 (1 : Int32) [(.long (q1 &&& (4611686018427387903 : Int64)))] (q1 &&& (4611686018427387903 : Int64)) T600.heap n0 zh600 Fc3_602 Vc3_602 ⟨by decide, by decide⟩ rfl) hZ (hw _ (List.mem_of_getElem? (i := 42) rfl)) (hw _ (List.mem_of_getElem? (i := 3) rfl)) (by decide) (by decide)) q607a q607c (g := (mkF m 191 #[.val (.long q0), .second, .val (.long q1), .second, .val (.long q2), .second, .val (.long q3), .second, .val (.long q4), .second, .val (.long q5), .second, .val (.long (q1 &&& (4611686018427387903 : Int64))), .second, .val (.long (q2 &&& (4611686018427387903 : Int64))), .second, .val (.long ((q1 &&& (4611686018427387903 : Int64)) + (q2 &&& (4611686018427387903 : Int64)))), .second, .val (.long (q0 ^^^ q2)), .second, .val (.long q5), .second, .val (.long ((q5 ^^^ q3) ^^^ q4)), .second, .val (.int (1 : Int32)), .val (.ref b1), .val (.int (0 : Int32)), .val (.int (1 : Int32)), .val (.long (B9_0 q3 q5)), .second, .val (.long (B9_0 q4 ((q5 ^^^ q3) ^^^ q4))), .second] [(.int (0 : Int32)), (.ref b1)])) rfl (by rw [hml]; rfl) (Steps.refl _) (argsL := [(.int (0 : Int32))]) (rest := []) (lenOf pd_7 rfl) rfl (by show 2 * 0 + _ ≤ _; exact Nat.le_of_eq rfl) (hb hby at_191) (fun _ _ => ⟨rfl, hh606, (by decide : 9 + 0 ≤ _), (by decide : 41 + 0 ≤ _)⟩)
      dsimp only [Pt.U, Pt.locs, Pt.cells, Pt.slots] at X607 l607 y607 z607 st607 hQ607
      subst l607 y607 z607
      obtain ⟨rfl, N607q, hh607⟩ := hQ607
      have N607 := Fr.app N606 N607q
      obtain ⟨cq608, kq608, q608a, q608b, q608c⟩ := isOf hZ hh607 E1_602
      obtain ⟨_, _, ⟨T608, L608, k608, n608⟩, -, X608, ⟨Lc608, hQ608, l608, y608, z608⟩, st608⟩ := X607.virtualBack hx (y := (⟨"com/example/uplog/uplog/SegmentIndex", "maxTimestamp", "(I)J"⟩ : MethodName)) (z := (⟨"com/example/uplog/uplog/SegmentIndex", "maxTimestamp", "(I)J"⟩ : MethodName)) hown (mvT hZ (hw _ (List.mem_of_getElem? (i := 43) rfl))) (mvT hZ (hw _ (List.mem_of_getElem? (i := 44) rfl))) (notFace_of_selects (args := #[]) (mvT hZ (hw _ (List.mem_of_getElem? (i := 46) rfl)))) (mvT hZ (hw _ (List.mem_of_getElem? (i := 46) rfl))) (mvT hZ (hw _ (List.mem_of_getElem? (i := 45) rfl))) (by decide) (backOf (W := 0) (rm7 l Z a0 hw [] b1 (0 : Int32) c4 j4 (1 : Int32) [(.long (B9_0 q3 q5))] (B9_0 q3 q5) T600.heap n0 zh600 Fc4_602 Vc4_602 ⟨by decide, by decide⟩ rfl) hZ (hw _ (List.mem_of_getElem? (i := 47) rfl)) (hw _ (List.mem_of_getElem? (i := 3) rfl)) (by decide) (by decide)) q608a q608c (g := (mkF m 205 #[.val (.long q0), .second, .val (.long q1), .second, .val (.long q2), .second, .val (.long q3), .second, .val (.long q4), .second, .val (.long q5), .second, .val (.long (q1 &&& (4611686018427387903 : Int64))), .second, .val (.long (q2 &&& (4611686018427387903 : Int64))), .second, .val (.long ((q1 &&& (4611686018427387903 : Int64)) + (q2 &&& (4611686018427387903 : Int64)))), .second, .val (.long (q0 ^^^ q2)), .second, .val (.long q5), .second, .val (.long ((q5 ^^^ q3) ^^^ q4)), .second, .val (.int (1 : Int32)), .val (.ref b1), .val (.int (0 : Int32)), .val (.int (1 : Int32)), .val (.long (B9_0 q3 q5)), .second, .val (.long (B9_0 q4 ((q5 ^^^ q3) ^^^ q4))), .second] [(.int (0 : Int32)), (.ref b1)])) rfl (by rw [hml]; rfl) (Steps.refl _) (argsL := [(.int (0 : Int32))]) (rest := []) (lenOf pd_7 rfl) rfl (by show 2 * 0 + _ ≤ _; exact Nat.le_of_eq rfl) (hb hby at_205) (fun _ _ => ⟨rfl, hh607, (by decide : 9 + 0 ≤ _), (by decide : 41 + 0 ≤ _)⟩)
      dsimp only [Pt.U, Pt.locs, Pt.cells, Pt.slots] at X608 l608 y608 z608 st608 hQ608
      subst l608 y608 z608
      obtain ⟨rfl, N608q, hh608⟩ := hQ608
      have N608 := Fr.app N607 N608q
      obtain ⟨cq609, kq609, q609a, q609b, q609c⟩ := isOf hZ hh608 E1_602
      obtain ⟨_, _, ⟨T609, L609, k609, n609⟩, -, X609, ⟨Lc609, hQ609, l609, y609, z609⟩, st609⟩ := X608.virtualBack hx (y := (⟨"com/example/uplog/uplog/SegmentIndex", "writtenAt", "(I)J"⟩ : MethodName)) (z := (⟨"com/example/uplog/uplog/SegmentIndex", "writtenAt", "(I)J"⟩ : MethodName)) hown (mvT hZ (hw _ (List.mem_of_getElem? (i := 48) rfl))) (mvT hZ (hw _ (List.mem_of_getElem? (i := 49) rfl))) (notFace_of_selects (args := #[]) (mvT hZ (hw _ (List.mem_of_getElem? (i := 51) rfl)))) (mvT hZ (hw _ (List.mem_of_getElem? (i := 51) rfl))) (mvT hZ (hw _ (List.mem_of_getElem? (i := 50) rfl))) (by decide) (backOf (W := 0) (rm8 l Z a0 hw [] b1 (0 : Int32) c5 j5 (1 : Int32) [(.long (B9_0 q4 ((q5 ^^^ q3) ^^^ q4)))] (B9_0 q4 ((q5 ^^^ q3) ^^^ q4)) T600.heap n0 zh600 Fc5_602 Vc5_602 ⟨by decide, by decide⟩ rfl) hZ (hw _ (List.mem_of_getElem? (i := 52) rfl)) (hw _ (List.mem_of_getElem? (i := 3) rfl)) (by decide) (by decide)) q609a q609c (g := (mkF m 217 #[.val (.long q0), .second, .val (.long q1), .second, .val (.long q2), .second, .val (.long q3), .second, .val (.long q4), .second, .val (.long q5), .second, .val (.long (q1 &&& (4611686018427387903 : Int64))), .second, .val (.long (q2 &&& (4611686018427387903 : Int64))), .second, .val (.long ((q1 &&& (4611686018427387903 : Int64)) + (q2 &&& (4611686018427387903 : Int64)))), .second, .val (.long (q0 ^^^ q2)), .second, .val (.long q5), .second, .val (.long ((q5 ^^^ q3) ^^^ q4)), .second, .val (.int (1 : Int32)), .val (.ref b1), .val (.int (0 : Int32)), .val (.int (1 : Int32)), .val (.long (B9_0 q3 q5)), .second, .val (.long (B9_0 q4 ((q5 ^^^ q3) ^^^ q4))), .second] [(.int (0 : Int32)), (.ref b1)])) rfl (by rw [hml]; rfl) (Steps.refl _) (argsL := [(.int (0 : Int32))]) (rest := []) (lenOf pd_7 rfl) rfl (by show 2 * 0 + _ ≤ _; exact Nat.le_of_eq rfl) (hb hby at_217) (fun _ _ => ⟨rfl, hh608, (by decide : 9 + 0 ≤ _), (by decide : 41 + 0 ≤ _)⟩)
      dsimp only [Pt.U, Pt.locs, Pt.cells, Pt.slots] at X609 l609 y609 z609 st609 hQ609
      subst l609 y609 z609
      obtain ⟨rfl, N609q, hh609⟩ := hQ609
      have N609 := Fr.app N608 N609q
      refine own_Go.mono (T' := T609) (f' := (mkF m 286 #[.val (.long q0), .second, .val (.long q1), .second, .val (.long q2), .second, .val (.long q3), .second, .val (.long q4), .second, .val (.long q5), .second, .val (.long (q1 &&& (4611686018427387903 : Int64))), .second, .val (.long (q2 &&& (4611686018427387903 : Int64))), .second, .val (.long ((q1 &&& (4611686018427387903 : Int64)) + (q2 &&& (4611686018427387903 : Int64)))), .second, .val (.long (q0 ^^^ q2)), .second, .val (.long q5), .second, .val (.long ((q5 ^^^ q3) ^^^ q4)), .second, .val (.int (1 : Int32)), .val (.ref b1), .val (.int (0 : Int32)), .val (.int (1 : Int32)), .val (.long (B9_0 q3 q5)), .second, .val (.long (B9_0 q4 ((q5 ^^^ q3) ^^^ q4))), .second] [(.int (1 : Int32))])) (fun t k => ?_) ?_
      · show Steps p.tables e below (T597.setTop (mkF m 96 #[.val (.long q0), .second, .val (.long q1), .second, .val (.long q2), .second, .val (.long q3), .second, .val (.long q4), .second, .val (.long q5), .second, .val (.long (q1 &&& (4611686018427387903 : Int64))), .second, .val (.long (q2 &&& (4611686018427387903 : Int64))), .second, .val (.long ((q1 &&& (4611686018427387903 : Int64)) + (q2 &&& (4611686018427387903 : Int64)))), .second, .val (.long (q0 ^^^ q2)), .second, .val (.long q5), .second, .val (.long ((q5 ^^^ q3) ^^^ q4)), .second, .val (.int (1 : Int32)), .val (.ref b1), .unset, .unset, .unset, .unset, .unset, .unset] [(.long ((q5 ^^^ q3) ^^^ q4)), (.long q5), (.long ((q1 &&& (4611686018427387903 : Int64)) + (q2 &&& (4611686018427387903 : Int64)))), (.long (q0 ^^^ q2)), (.ref b1)])) _
        refine st600.trans ?_
        show Steps p.tables e below (T600.setTop (mkF m 99 #[.val (.long q0), .second, .val (.long q1), .second, .val (.long q2), .second, .val (.long q3), .second, .val (.long q4), .second, .val (.long q5), .second, .val (.long (q1 &&& (4611686018427387903 : Int64))), .second, .val (.long (q2 &&& (4611686018427387903 : Int64))), .second, .val (.long ((q1 &&& (4611686018427387903 : Int64)) + (q2 &&& (4611686018427387903 : Int64)))), .second, .val (.long (q0 ^^^ q2)), .second, .val (.long q5), .second, .val (.long ((q5 ^^^ q3) ^^^ q4)), .second, .val (.int (1 : Int32)), .val (.ref b1), .unset, .unset, .unset, .unset, .unset, .unset] [])) _
        refine XS.lload X600.here hx rfl (hb hby at_99) rfl ?_
        show Steps p.tables e below (T600.setTop (mkF m 101 #[.val (.long q0), .second, .val (.long q1), .second, .val (.long q2), .second, .val (.long q3), .second, .val (.long q4), .second, .val (.long q5), .second, .val (.long (q1 &&& (4611686018427387903 : Int64))), .second, .val (.long (q2 &&& (4611686018427387903 : Int64))), .second, .val (.long ((q1 &&& (4611686018427387903 : Int64)) + (q2 &&& (4611686018427387903 : Int64)))), .second, .val (.long (q0 ^^^ q2)), .second, .val (.long q5), .second, .val (.long ((q5 ^^^ q3) ^^^ q4)), .second, .val (.int (1 : Int32)), .val (.ref b1), .unset, .unset, .unset, .unset, .unset, .unset] [(.long (q2 &&& (4611686018427387903 : Int64)))])) _
        refine X600.ldc2Long hx hown (mvT hZ (hw _ (List.mem_of_getElem? (i := 27) rfl))) (g := (mkF m 101 #[.val (.long q0), .second, .val (.long q1), .second, .val (.long q2), .second, .val (.long q3), .second, .val (.long q4), .second, .val (.long q5), .second, .val (.long (q1 &&& (4611686018427387903 : Int64))), .second, .val (.long (q2 &&& (4611686018427387903 : Int64))), .second, .val (.long ((q1 &&& (4611686018427387903 : Int64)) + (q2 &&& (4611686018427387903 : Int64)))), .second, .val (.long (q0 ^^^ q2)), .second, .val (.long q5), .second, .val (.long ((q5 ^^^ q3) ^^^ q4)), .second, .val (.int (1 : Int32)), .val (.ref b1), .unset, .unset, .unset, .unset, .unset, .unset] [(.long (q2 &&& (4611686018427387903 : Int64)))])) rfl (hb hby at_101) _ ?_
        show Steps p.tables e below (T600.setTop (mkF m 104 #[.val (.long q0), .second, .val (.long q1), .second, .val (.long q2), .second, .val (.long q3), .second, .val (.long q4), .second, .val (.long q5), .second, .val (.long (q1 &&& (4611686018427387903 : Int64))), .second, .val (.long (q2 &&& (4611686018427387903 : Int64))), .second, .val (.long ((q1 &&& (4611686018427387903 : Int64)) + (q2 &&& (4611686018427387903 : Int64)))), .second, .val (.long (q0 ^^^ q2)), .second, .val (.long q5), .second, .val (.long ((q5 ^^^ q3) ^^^ q4)), .second, .val (.int (1 : Int32)), .val (.ref b1), .unset, .unset, .unset, .unset, .unset, .unset] [(.long (32768 : Int64)), (.long (q2 &&& (4611686018427387903 : Int64)))])) _
        refine XS.lcmp X600.here hx rfl (hb hby at_104) rfl ?_
        show Steps p.tables e below (T600.setTop (mkF m 105 #[.val (.long q0), .second, .val (.long q1), .second, .val (.long q2), .second, .val (.long q3), .second, .val (.long q4), .second, .val (.long q5), .second, .val (.long (q1 &&& (4611686018427387903 : Int64))), .second, .val (.long (q2 &&& (4611686018427387903 : Int64))), .second, .val (.long ((q1 &&& (4611686018427387903 : Int64)) + (q2 &&& (4611686018427387903 : Int64)))), .second, .val (.long (q0 ^^^ q2)), .second, .val (.long q5), .second, .val (.long ((q5 ^^^ q3) ^^^ q4)), .second, .val (.int (1 : Int32)), .val (.ref b1), .unset, .unset, .unset, .unset, .unset, .unset] [(.int (lcmpW (q2 &&& (4611686018427387903 : Int64)) (32768 : Int64)))])) _
        refine XS.ifYes X600.here hx rfl (pc0 := 105) (pc' := 112) rfl (hb hby at_105) rfl ((if0 _ _).trans (tlt (own_lt.mpr hd)).1) (by decide) (by decide) ?_
        show Steps p.tables e below (T600.setTop (mkF m 112 #[.val (.long q0), .second, .val (.long q1), .second, .val (.long q2), .second, .val (.long q3), .second, .val (.long q4), .second, .val (.long q5), .second, .val (.long (q1 &&& (4611686018427387903 : Int64))), .second, .val (.long (q2 &&& (4611686018427387903 : Int64))), .second, .val (.long ((q1 &&& (4611686018427387903 : Int64)) + (q2 &&& (4611686018427387903 : Int64)))), .second, .val (.long (q0 ^^^ q2)), .second, .val (.long q5), .second, .val (.long ((q5 ^^^ q3) ^^^ q4)), .second, .val (.int (1 : Int32)), .val (.ref b1), .unset, .unset, .unset, .unset, .unset, .unset] [])) _
        refine XS.iconst X600.here hx rfl (hb hby at_112) ?_
        show Steps p.tables e below (T600.setTop (mkF m 113 #[.val (.long q0), .second, .val (.long q1), .second, .val (.long q2), .second, .val (.long q3), .second, .val (.long q4), .second, .val (.long q5), .second, .val (.long (q1 &&& (4611686018427387903 : Int64))), .second, .val (.long (q2 &&& (4611686018427387903 : Int64))), .second, .val (.long ((q1 &&& (4611686018427387903 : Int64)) + (q2 &&& (4611686018427387903 : Int64)))), .second, .val (.long (q0 ^^^ q2)), .second, .val (.long q5), .second, .val (.long ((q5 ^^^ q3) ^^^ q4)), .second, .val (.int (1 : Int32)), .val (.ref b1), .unset, .unset, .unset, .unset, .unset, .unset] [(.int (0 : Int32))])) _
        refine XS.istore X600.here hx rfl (hb hby at_113) rfl (l' := #[.val (.long q0), .second, .val (.long q1), .second, .val (.long q2), .second, .val (.long q3), .second, .val (.long q4), .second, .val (.long q5), .second, .val (.long (q1 &&& (4611686018427387903 : Int64))), .second, .val (.long (q2 &&& (4611686018427387903 : Int64))), .second, .val (.long ((q1 &&& (4611686018427387903 : Int64)) + (q2 &&& (4611686018427387903 : Int64)))), .second, .val (.long (q0 ^^^ q2)), .second, .val (.long q5), .second, .val (.long ((q5 ^^^ q3) ^^^ q4)), .second, .val (.int (1 : Int32)), .val (.ref b1), .val (.int (0 : Int32)), .unset, .unset, .unset, .unset, .unset]) rfl ?_
        show Steps p.tables e below (T600.setTop (mkF m 115 #[.val (.long q0), .second, .val (.long q1), .second, .val (.long q2), .second, .val (.long q3), .second, .val (.long q4), .second, .val (.long q5), .second, .val (.long (q1 &&& (4611686018427387903 : Int64))), .second, .val (.long (q2 &&& (4611686018427387903 : Int64))), .second, .val (.long ((q1 &&& (4611686018427387903 : Int64)) + (q2 &&& (4611686018427387903 : Int64)))), .second, .val (.long (q0 ^^^ q2)), .second, .val (.long q5), .second, .val (.long ((q5 ^^^ q3) ^^^ q4)), .second, .val (.int (1 : Int32)), .val (.ref b1), .val (.int (0 : Int32)), .unset, .unset, .unset, .unset, .unset] [])) _
        refine XS.iload X600.here hx rfl (hb hby at_115) rfl ?_
        show Steps p.tables e below (T600.setTop (mkF m 117 #[.val (.long q0), .second, .val (.long q1), .second, .val (.long q2), .second, .val (.long q3), .second, .val (.long q4), .second, .val (.long q5), .second, .val (.long (q1 &&& (4611686018427387903 : Int64))), .second, .val (.long (q2 &&& (4611686018427387903 : Int64))), .second, .val (.long ((q1 &&& (4611686018427387903 : Int64)) + (q2 &&& (4611686018427387903 : Int64)))), .second, .val (.long (q0 ^^^ q2)), .second, .val (.long q5), .second, .val (.long ((q5 ^^^ q3) ^^^ q4)), .second, .val (.int (1 : Int32)), .val (.ref b1), .val (.int (0 : Int32)), .unset, .unset, .unset, .unset, .unset] [(.int (0 : Int32))])) _
        refine XS.ifYes X600.here hx rfl (pc0 := 117) (pc' := 124) rfl (hb hby at_117) rfl ((if0 _ _).trans (teq rfl).1) (by decide) (by decide) ?_
        show Steps p.tables e below (T600.setTop (mkF m 124 #[.val (.long q0), .second, .val (.long q1), .second, .val (.long q2), .second, .val (.long q3), .second, .val (.long q4), .second, .val (.long q5), .second, .val (.long (q1 &&& (4611686018427387903 : Int64))), .second, .val (.long (q2 &&& (4611686018427387903 : Int64))), .second, .val (.long ((q1 &&& (4611686018427387903 : Int64)) + (q2 &&& (4611686018427387903 : Int64)))), .second, .val (.long (q0 ^^^ q2)), .second, .val (.long q5), .second, .val (.long ((q5 ^^^ q3) ^^^ q4)), .second, .val (.int (1 : Int32)), .val (.ref b1), .val (.int (0 : Int32)), .unset, .unset, .unset, .unset, .unset] [])) _
        refine XS.iconst X600.here hx rfl (hb hby at_124) ?_
        show Steps p.tables e below (T600.setTop (mkF m 125 #[.val (.long q0), .second, .val (.long q1), .second, .val (.long q2), .second, .val (.long q3), .second, .val (.long q4), .second, .val (.long q5), .second, .val (.long (q1 &&& (4611686018427387903 : Int64))), .second, .val (.long (q2 &&& (4611686018427387903 : Int64))), .second, .val (.long ((q1 &&& (4611686018427387903 : Int64)) + (q2 &&& (4611686018427387903 : Int64)))), .second, .val (.long (q0 ^^^ q2)), .second, .val (.long q5), .second, .val (.long ((q5 ^^^ q3) ^^^ q4)), .second, .val (.int (1 : Int32)), .val (.ref b1), .val (.int (0 : Int32)), .unset, .unset, .unset, .unset, .unset] [(.int (1 : Int32))])) _
        refine XS.istore X600.here hx rfl (hb hby at_125) rfl (l' := #[.val (.long q0), .second, .val (.long q1), .second, .val (.long q2), .second, .val (.long q3), .second, .val (.long q4), .second, .val (.long q5), .second, .val (.long (q1 &&& (4611686018427387903 : Int64))), .second, .val (.long (q2 &&& (4611686018427387903 : Int64))), .second, .val (.long ((q1 &&& (4611686018427387903 : Int64)) + (q2 &&& (4611686018427387903 : Int64)))), .second, .val (.long (q0 ^^^ q2)), .second, .val (.long q5), .second, .val (.long ((q5 ^^^ q3) ^^^ q4)), .second, .val (.int (1 : Int32)), .val (.ref b1), .val (.int (0 : Int32)), .val (.int (1 : Int32)), .unset, .unset, .unset, .unset]) rfl ?_
        show Steps p.tables e below (T600.setTop (mkF m 127 #[.val (.long q0), .second, .val (.long q1), .second, .val (.long q2), .second, .val (.long q3), .second, .val (.long q4), .second, .val (.long q5), .second, .val (.long (q1 &&& (4611686018427387903 : Int64))), .second, .val (.long (q2 &&& (4611686018427387903 : Int64))), .second, .val (.long ((q1 &&& (4611686018427387903 : Int64)) + (q2 &&& (4611686018427387903 : Int64)))), .second, .val (.long (q0 ^^^ q2)), .second, .val (.long q5), .second, .val (.long ((q5 ^^^ q3) ^^^ q4)), .second, .val (.int (1 : Int32)), .val (.ref b1), .val (.int (0 : Int32)), .val (.int (1 : Int32)), .unset, .unset, .unset, .unset] [])) _
        refine XS.iload X600.here hx rfl (hb hby at_127) rfl ?_
        show Steps p.tables e below (T600.setTop (mkF m 129 #[.val (.long q0), .second, .val (.long q1), .second, .val (.long q2), .second, .val (.long q3), .second, .val (.long q4), .second, .val (.long q5), .second, .val (.long (q1 &&& (4611686018427387903 : Int64))), .second, .val (.long (q2 &&& (4611686018427387903 : Int64))), .second, .val (.long ((q1 &&& (4611686018427387903 : Int64)) + (q2 &&& (4611686018427387903 : Int64)))), .second, .val (.long (q0 ^^^ q2)), .second, .val (.long q5), .second, .val (.long ((q5 ^^^ q3) ^^^ q4)), .second, .val (.int (1 : Int32)), .val (.ref b1), .val (.int (0 : Int32)), .val (.int (1 : Int32)), .unset, .unset, .unset, .unset] [(.int (0 : Int32))])) _
        refine XS.ifYes X600.here hx rfl (pc0 := 129) (pc' := 137) rfl (hb hby at_129) rfl ((if0 _ _).trans (teq rfl).1) (by decide) (by decide) ?_
        show Steps p.tables e below (T600.setTop (mkF m 137 #[.val (.long q0), .second, .val (.long q1), .second, .val (.long q2), .second, .val (.long q3), .second, .val (.long q4), .second, .val (.long q5), .second, .val (.long (q1 &&& (4611686018427387903 : Int64))), .second, .val (.long (q2 &&& (4611686018427387903 : Int64))), .second, .val (.long ((q1 &&& (4611686018427387903 : Int64)) + (q2 &&& (4611686018427387903 : Int64)))), .second, .val (.long (q0 ^^^ q2)), .second, .val (.long q5), .second, .val (.long ((q5 ^^^ q3) ^^^ q4)), .second, .val (.int (1 : Int32)), .val (.ref b1), .val (.int (0 : Int32)), .val (.int (1 : Int32)), .unset, .unset, .unset, .unset] [])) _
        refine XS.lload X600.here hx rfl (hb hby at_137) rfl ?_
        show Steps p.tables e below (T600.setTop (mkF m 139 #[.val (.long q0), .second, .val (.long q1), .second, .val (.long q2), .second, .val (.long q3), .second, .val (.long q4), .second, .val (.long q5), .second, .val (.long (q1 &&& (4611686018427387903 : Int64))), .second, .val (.long (q2 &&& (4611686018427387903 : Int64))), .second, .val (.long ((q1 &&& (4611686018427387903 : Int64)) + (q2 &&& (4611686018427387903 : Int64)))), .second, .val (.long (q0 ^^^ q2)), .second, .val (.long q5), .second, .val (.long ((q5 ^^^ q3) ^^^ q4)), .second, .val (.int (1 : Int32)), .val (.ref b1), .val (.int (0 : Int32)), .val (.int (1 : Int32)), .unset, .unset, .unset, .unset] [(.long q3)])) _
        refine XS.lload X600.here hx rfl (hb hby at_139) rfl ?_
        show Steps p.tables e below (T600.setTop (mkF m 141 #[.val (.long q0), .second, .val (.long q1), .second, .val (.long q2), .second, .val (.long q3), .second, .val (.long q4), .second, .val (.long q5), .second, .val (.long (q1 &&& (4611686018427387903 : Int64))), .second, .val (.long (q2 &&& (4611686018427387903 : Int64))), .second, .val (.long ((q1 &&& (4611686018427387903 : Int64)) + (q2 &&& (4611686018427387903 : Int64)))), .second, .val (.long (q0 ^^^ q2)), .second, .val (.long q5), .second, .val (.long ((q5 ^^^ q3) ^^^ q4)), .second, .val (.int (1 : Int32)), .val (.ref b1), .val (.int (0 : Int32)), .val (.int (1 : Int32)), .unset, .unset, .unset, .unset] [(.long q5), (.long q3)])) _
        refine st603 _ ?_
        show Steps p.tables e below (T603.setTop (mkF m 144 #[.val (.long q0), .second, .val (.long q1), .second, .val (.long q2), .second, .val (.long q3), .second, .val (.long q4), .second, .val (.long q5), .second, .val (.long (q1 &&& (4611686018427387903 : Int64))), .second, .val (.long (q2 &&& (4611686018427387903 : Int64))), .second, .val (.long ((q1 &&& (4611686018427387903 : Int64)) + (q2 &&& (4611686018427387903 : Int64)))), .second, .val (.long (q0 ^^^ q2)), .second, .val (.long q5), .second, .val (.long ((q5 ^^^ q3) ^^^ q4)), .second, .val (.int (1 : Int32)), .val (.ref b1), .val (.int (0 : Int32)), .val (.int (1 : Int32)), .unset, .unset, .unset, .unset] [(.long (B9_0 q3 q5))])) _
        refine XS.lstore X603.here hx rfl (hb hby at_144) rfl (l' := #[.val (.long q0), .second, .val (.long q1), .second, .val (.long q2), .second, .val (.long q3), .second, .val (.long q4), .second, .val (.long q5), .second, .val (.long (q1 &&& (4611686018427387903 : Int64))), .second, .val (.long (q2 &&& (4611686018427387903 : Int64))), .second, .val (.long ((q1 &&& (4611686018427387903 : Int64)) + (q2 &&& (4611686018427387903 : Int64)))), .second, .val (.long (q0 ^^^ q2)), .second, .val (.long q5), .second, .val (.long ((q5 ^^^ q3) ^^^ q4)), .second, .val (.int (1 : Int32)), .val (.ref b1), .val (.int (0 : Int32)), .val (.int (1 : Int32)), .val (.long (B9_0 q3 q5)), .second, .unset, .unset]) rfl ?_
        show Steps p.tables e below (T603.setTop (mkF m 146 #[.val (.long q0), .second, .val (.long q1), .second, .val (.long q2), .second, .val (.long q3), .second, .val (.long q4), .second, .val (.long q5), .second, .val (.long (q1 &&& (4611686018427387903 : Int64))), .second, .val (.long (q2 &&& (4611686018427387903 : Int64))), .second, .val (.long ((q1 &&& (4611686018427387903 : Int64)) + (q2 &&& (4611686018427387903 : Int64)))), .second, .val (.long (q0 ^^^ q2)), .second, .val (.long q5), .second, .val (.long ((q5 ^^^ q3) ^^^ q4)), .second, .val (.int (1 : Int32)), .val (.ref b1), .val (.int (0 : Int32)), .val (.int (1 : Int32)), .val (.long (B9_0 q3 q5)), .second, .unset, .unset] [])) _
        refine XS.iload X603.here hx rfl (hb hby at_146) rfl ?_
        show Steps p.tables e below (T603.setTop (mkF m 148 #[.val (.long q0), .second, .val (.long q1), .second, .val (.long q2), .second, .val (.long q3), .second, .val (.long q4), .second, .val (.long q5), .second, .val (.long (q1 &&& (4611686018427387903 : Int64))), .second, .val (.long (q2 &&& (4611686018427387903 : Int64))), .second, .val (.long ((q1 &&& (4611686018427387903 : Int64)) + (q2 &&& (4611686018427387903 : Int64)))), .second, .val (.long (q0 ^^^ q2)), .second, .val (.long q5), .second, .val (.long ((q5 ^^^ q3) ^^^ q4)), .second, .val (.int (1 : Int32)), .val (.ref b1), .val (.int (0 : Int32)), .val (.int (1 : Int32)), .val (.long (B9_0 q3 q5)), .second, .unset, .unset] [(.int (0 : Int32))])) _
        refine XS.ifYes X603.here hx rfl (pc0 := 148) (pc' := 156) rfl (hb hby at_148) rfl ((if0 _ _).trans (teq rfl).1) (by decide) (by decide) ?_
        show Steps p.tables e below (T603.setTop (mkF m 156 #[.val (.long q0), .second, .val (.long q1), .second, .val (.long q2), .second, .val (.long q3), .second, .val (.long q4), .second, .val (.long q5), .second, .val (.long (q1 &&& (4611686018427387903 : Int64))), .second, .val (.long (q2 &&& (4611686018427387903 : Int64))), .second, .val (.long ((q1 &&& (4611686018427387903 : Int64)) + (q2 &&& (4611686018427387903 : Int64)))), .second, .val (.long (q0 ^^^ q2)), .second, .val (.long q5), .second, .val (.long ((q5 ^^^ q3) ^^^ q4)), .second, .val (.int (1 : Int32)), .val (.ref b1), .val (.int (0 : Int32)), .val (.int (1 : Int32)), .val (.long (B9_0 q3 q5)), .second, .unset, .unset] [])) _
        refine XS.lload X603.here hx rfl (hb hby at_156) rfl ?_
        show Steps p.tables e below (T603.setTop (mkF m 158 #[.val (.long q0), .second, .val (.long q1), .second, .val (.long q2), .second, .val (.long q3), .second, .val (.long q4), .second, .val (.long q5), .second, .val (.long (q1 &&& (4611686018427387903 : Int64))), .second, .val (.long (q2 &&& (4611686018427387903 : Int64))), .second, .val (.long ((q1 &&& (4611686018427387903 : Int64)) + (q2 &&& (4611686018427387903 : Int64)))), .second, .val (.long (q0 ^^^ q2)), .second, .val (.long q5), .second, .val (.long ((q5 ^^^ q3) ^^^ q4)), .second, .val (.int (1 : Int32)), .val (.ref b1), .val (.int (0 : Int32)), .val (.int (1 : Int32)), .val (.long (B9_0 q3 q5)), .second, .unset, .unset] [(.long q4)])) _
        refine XS.lload X603.here hx rfl (hb hby at_158) rfl ?_
        show Steps p.tables e below (T603.setTop (mkF m 160 #[.val (.long q0), .second, .val (.long q1), .second, .val (.long q2), .second, .val (.long q3), .second, .val (.long q4), .second, .val (.long q5), .second, .val (.long (q1 &&& (4611686018427387903 : Int64))), .second, .val (.long (q2 &&& (4611686018427387903 : Int64))), .second, .val (.long ((q1 &&& (4611686018427387903 : Int64)) + (q2 &&& (4611686018427387903 : Int64)))), .second, .val (.long (q0 ^^^ q2)), .second, .val (.long q5), .second, .val (.long ((q5 ^^^ q3) ^^^ q4)), .second, .val (.int (1 : Int32)), .val (.ref b1), .val (.int (0 : Int32)), .val (.int (1 : Int32)), .val (.long (B9_0 q3 q5)), .second, .unset, .unset] [(.long ((q5 ^^^ q3) ^^^ q4)), (.long q4)])) _
        refine st604 _ ?_
        show Steps p.tables e below (T604.setTop (mkF m 163 #[.val (.long q0), .second, .val (.long q1), .second, .val (.long q2), .second, .val (.long q3), .second, .val (.long q4), .second, .val (.long q5), .second, .val (.long (q1 &&& (4611686018427387903 : Int64))), .second, .val (.long (q2 &&& (4611686018427387903 : Int64))), .second, .val (.long ((q1 &&& (4611686018427387903 : Int64)) + (q2 &&& (4611686018427387903 : Int64)))), .second, .val (.long (q0 ^^^ q2)), .second, .val (.long q5), .second, .val (.long ((q5 ^^^ q3) ^^^ q4)), .second, .val (.int (1 : Int32)), .val (.ref b1), .val (.int (0 : Int32)), .val (.int (1 : Int32)), .val (.long (B9_0 q3 q5)), .second, .unset, .unset] [(.long (B9_0 q4 ((q5 ^^^ q3) ^^^ q4)))])) _
        refine XS.lstore X604.here hx rfl (hb hby at_163) rfl (l' := #[.val (.long q0), .second, .val (.long q1), .second, .val (.long q2), .second, .val (.long q3), .second, .val (.long q4), .second, .val (.long q5), .second, .val (.long (q1 &&& (4611686018427387903 : Int64))), .second, .val (.long (q2 &&& (4611686018427387903 : Int64))), .second, .val (.long ((q1 &&& (4611686018427387903 : Int64)) + (q2 &&& (4611686018427387903 : Int64)))), .second, .val (.long (q0 ^^^ q2)), .second, .val (.long q5), .second, .val (.long ((q5 ^^^ q3) ^^^ q4)), .second, .val (.int (1 : Int32)), .val (.ref b1), .val (.int (0 : Int32)), .val (.int (1 : Int32)), .val (.long (B9_0 q3 q5)), .second, .val (.long (B9_0 q4 ((q5 ^^^ q3) ^^^ q4))), .second]) rfl ?_
        show Steps p.tables e below (T604.setTop (mkF m 165 #[.val (.long q0), .second, .val (.long q1), .second, .val (.long q2), .second, .val (.long q3), .second, .val (.long q4), .second, .val (.long q5), .second, .val (.long (q1 &&& (4611686018427387903 : Int64))), .second, .val (.long (q2 &&& (4611686018427387903 : Int64))), .second, .val (.long ((q1 &&& (4611686018427387903 : Int64)) + (q2 &&& (4611686018427387903 : Int64)))), .second, .val (.long (q0 ^^^ q2)), .second, .val (.long q5), .second, .val (.long ((q5 ^^^ q3) ^^^ q4)), .second, .val (.int (1 : Int32)), .val (.ref b1), .val (.int (0 : Int32)), .val (.int (1 : Int32)), .val (.long (B9_0 q3 q5)), .second, .val (.long (B9_0 q4 ((q5 ^^^ q3) ^^^ q4))), .second] [])) _
        refine XS.aload X604.here hx rfl (hb hby at_165) rfl rfl ?_
        show Steps p.tables e below (T604.setTop (mkF m 167 #[.val (.long q0), .second, .val (.long q1), .second, .val (.long q2), .second, .val (.long q3), .second, .val (.long q4), .second, .val (.long q5), .second, .val (.long (q1 &&& (4611686018427387903 : Int64))), .second, .val (.long (q2 &&& (4611686018427387903 : Int64))), .second, .val (.long ((q1 &&& (4611686018427387903 : Int64)) + (q2 &&& (4611686018427387903 : Int64)))), .second, .val (.long (q0 ^^^ q2)), .second, .val (.long q5), .second, .val (.long ((q5 ^^^ q3) ^^^ q4)), .second, .val (.int (1 : Int32)), .val (.ref b1), .val (.int (0 : Int32)), .val (.int (1 : Int32)), .val (.long (B9_0 q3 q5)), .second, .val (.long (B9_0 q4 ((q5 ^^^ q3) ^^^ q4))), .second] [(.ref b1)])) _
        refine st605.trans ?_
        show Steps p.tables e below (T605.setTop (mkF m 170 #[.val (.long q0), .second, .val (.long q1), .second, .val (.long q2), .second, .val (.long q3), .second, .val (.long q4), .second, .val (.long q5), .second, .val (.long (q1 &&& (4611686018427387903 : Int64))), .second, .val (.long (q2 &&& (4611686018427387903 : Int64))), .second, .val (.long ((q1 &&& (4611686018427387903 : Int64)) + (q2 &&& (4611686018427387903 : Int64)))), .second, .val (.long (q0 ^^^ q2)), .second, .val (.long q5), .second, .val (.long ((q5 ^^^ q3) ^^^ q4)), .second, .val (.int (1 : Int32)), .val (.ref b1), .val (.int (0 : Int32)), .val (.int (1 : Int32)), .val (.long (B9_0 q3 q5)), .second, .val (.long (B9_0 q4 ((q5 ^^^ q3) ^^^ q4))), .second] [(.int (1 : Int32))])) _
        refine XS.iload X605.here hx rfl (hb hby at_170) rfl ?_
        show Steps p.tables e below (T605.setTop (mkF m 172 #[.val (.long q0), .second, .val (.long q1), .second, .val (.long q2), .second, .val (.long q3), .second, .val (.long q4), .second, .val (.long q5), .second, .val (.long (q1 &&& (4611686018427387903 : Int64))), .second, .val (.long (q2 &&& (4611686018427387903 : Int64))), .second, .val (.long ((q1 &&& (4611686018427387903 : Int64)) + (q2 &&& (4611686018427387903 : Int64)))), .second, .val (.long (q0 ^^^ q2)), .second, .val (.long q5), .second, .val (.long ((q5 ^^^ q3) ^^^ q4)), .second, .val (.int (1 : Int32)), .val (.ref b1), .val (.int (0 : Int32)), .val (.int (1 : Int32)), .val (.long (B9_0 q3 q5)), .second, .val (.long (B9_0 q4 ((q5 ^^^ q3) ^^^ q4))), .second] [(.int (1 : Int32)), (.int (1 : Int32))])) _
        refine XS.icmpYes X605.here hx rfl (pc0 := 172) (pc' := 177) rfl (hb hby at_172) rfl (teq rfl).1 (by decide) (by decide) ?_
        show Steps p.tables e below (T605.setTop (mkF m 177 #[.val (.long q0), .second, .val (.long q1), .second, .val (.long q2), .second, .val (.long q3), .second, .val (.long q4), .second, .val (.long q5), .second, .val (.long (q1 &&& (4611686018427387903 : Int64))), .second, .val (.long (q2 &&& (4611686018427387903 : Int64))), .second, .val (.long ((q1 &&& (4611686018427387903 : Int64)) + (q2 &&& (4611686018427387903 : Int64)))), .second, .val (.long (q0 ^^^ q2)), .second, .val (.long q5), .second, .val (.long ((q5 ^^^ q3) ^^^ q4)), .second, .val (.int (1 : Int32)), .val (.ref b1), .val (.int (0 : Int32)), .val (.int (1 : Int32)), .val (.long (B9_0 q3 q5)), .second, .val (.long (B9_0 q4 ((q5 ^^^ q3) ^^^ q4))), .second] [])) _
        refine XS.aload X605.here hx rfl (hb hby at_177) rfl rfl ?_
        show Steps p.tables e below (T605.setTop (mkF m 179 #[.val (.long q0), .second, .val (.long q1), .second, .val (.long q2), .second, .val (.long q3), .second, .val (.long q4), .second, .val (.long q5), .second, .val (.long (q1 &&& (4611686018427387903 : Int64))), .second, .val (.long (q2 &&& (4611686018427387903 : Int64))), .second, .val (.long ((q1 &&& (4611686018427387903 : Int64)) + (q2 &&& (4611686018427387903 : Int64)))), .second, .val (.long (q0 ^^^ q2)), .second, .val (.long q5), .second, .val (.long ((q5 ^^^ q3) ^^^ q4)), .second, .val (.int (1 : Int32)), .val (.ref b1), .val (.int (0 : Int32)), .val (.int (1 : Int32)), .val (.long (B9_0 q3 q5)), .second, .val (.long (B9_0 q4 ((q5 ^^^ q3) ^^^ q4))), .second] [(.ref b1)])) _
        refine XS.iconst X605.here hx rfl (hb hby at_179) ?_
        show Steps p.tables e below (T605.setTop (mkF m 180 #[.val (.long q0), .second, .val (.long q1), .second, .val (.long q2), .second, .val (.long q3), .second, .val (.long q4), .second, .val (.long q5), .second, .val (.long (q1 &&& (4611686018427387903 : Int64))), .second, .val (.long (q2 &&& (4611686018427387903 : Int64))), .second, .val (.long ((q1 &&& (4611686018427387903 : Int64)) + (q2 &&& (4611686018427387903 : Int64)))), .second, .val (.long (q0 ^^^ q2)), .second, .val (.long q5), .second, .val (.long ((q5 ^^^ q3) ^^^ q4)), .second, .val (.int (1 : Int32)), .val (.ref b1), .val (.int (0 : Int32)), .val (.int (1 : Int32)), .val (.long (B9_0 q3 q5)), .second, .val (.long (B9_0 q4 ((q5 ^^^ q3) ^^^ q4))), .second] [(.int (0 : Int32)), (.ref b1)])) _
        refine st606.trans ?_
        show Steps p.tables e below (T606.setTop (mkF m 183 #[.val (.long q0), .second, .val (.long q1), .second, .val (.long q2), .second, .val (.long q3), .second, .val (.long q4), .second, .val (.long q5), .second, .val (.long (q1 &&& (4611686018427387903 : Int64))), .second, .val (.long (q2 &&& (4611686018427387903 : Int64))), .second, .val (.long ((q1 &&& (4611686018427387903 : Int64)) + (q2 &&& (4611686018427387903 : Int64)))), .second, .val (.long (q0 ^^^ q2)), .second, .val (.long q5), .second, .val (.long ((q5 ^^^ q3) ^^^ q4)), .second, .val (.int (1 : Int32)), .val (.ref b1), .val (.int (0 : Int32)), .val (.int (1 : Int32)), .val (.long (B9_0 q3 q5)), .second, .val (.long (B9_0 q4 ((q5 ^^^ q3) ^^^ q4))), .second] [(.long q0)])) _
        refine XS.lloadN X606.here hx rfl (hb hby at_183) rfl ?_
        show Steps p.tables e below (T606.setTop (mkF m 184 #[.val (.long q0), .second, .val (.long q1), .second, .val (.long q2), .second, .val (.long q3), .second, .val (.long q4), .second, .val (.long q5), .second, .val (.long (q1 &&& (4611686018427387903 : Int64))), .second, .val (.long (q2 &&& (4611686018427387903 : Int64))), .second, .val (.long ((q1 &&& (4611686018427387903 : Int64)) + (q2 &&& (4611686018427387903 : Int64)))), .second, .val (.long (q0 ^^^ q2)), .second, .val (.long q5), .second, .val (.long ((q5 ^^^ q3) ^^^ q4)), .second, .val (.int (1 : Int32)), .val (.ref b1), .val (.int (0 : Int32)), .val (.int (1 : Int32)), .val (.long (B9_0 q3 q5)), .second, .val (.long (B9_0 q4 ((q5 ^^^ q3) ^^^ q4))), .second] [(.long q0), (.long q0)])) _
        refine XS.lcmp X606.here hx rfl (hb hby at_184) rfl ?_
        show Steps p.tables e below (T606.setTop (mkF m 185 #[.val (.long q0), .second, .val (.long q1), .second, .val (.long q2), .second, .val (.long q3), .second, .val (.long q4), .second, .val (.long q5), .second, .val (.long (q1 &&& (4611686018427387903 : Int64))), .second, .val (.long (q2 &&& (4611686018427387903 : Int64))), .second, .val (.long ((q1 &&& (4611686018427387903 : Int64)) + (q2 &&& (4611686018427387903 : Int64)))), .second, .val (.long (q0 ^^^ q2)), .second, .val (.long q5), .second, .val (.long ((q5 ^^^ q3) ^^^ q4)), .second, .val (.int (1 : Int32)), .val (.ref b1), .val (.int (0 : Int32)), .val (.int (1 : Int32)), .val (.long (B9_0 q3 q5)), .second, .val (.long (B9_0 q4 ((q5 ^^^ q3) ^^^ q4))), .second] [(.int (lcmpW q0 q0))])) _
        refine XS.ifNo X606.here hx rfl (hb hby at_185) rfl ((if0 _ _).trans (teq (own_eq0.mpr rfl)).2) ?_
        show Steps p.tables e below (T606.setTop (mkF m 188 #[.val (.long q0), .second, .val (.long q1), .second, .val (.long q2), .second, .val (.long q3), .second, .val (.long q4), .second, .val (.long q5), .second, .val (.long (q1 &&& (4611686018427387903 : Int64))), .second, .val (.long (q2 &&& (4611686018427387903 : Int64))), .second, .val (.long ((q1 &&& (4611686018427387903 : Int64)) + (q2 &&& (4611686018427387903 : Int64)))), .second, .val (.long (q0 ^^^ q2)), .second, .val (.long q5), .second, .val (.long ((q5 ^^^ q3) ^^^ q4)), .second, .val (.int (1 : Int32)), .val (.ref b1), .val (.int (0 : Int32)), .val (.int (1 : Int32)), .val (.long (B9_0 q3 q5)), .second, .val (.long (B9_0 q4 ((q5 ^^^ q3) ^^^ q4))), .second] [])) _
        refine XS.aload X606.here hx rfl (hb hby at_188) rfl rfl ?_
        show Steps p.tables e below (T606.setTop (mkF m 190 #[.val (.long q0), .second, .val (.long q1), .second, .val (.long q2), .second, .val (.long q3), .second, .val (.long q4), .second, .val (.long q5), .second, .val (.long (q1 &&& (4611686018427387903 : Int64))), .second, .val (.long (q2 &&& (4611686018427387903 : Int64))), .second, .val (.long ((q1 &&& (4611686018427387903 : Int64)) + (q2 &&& (4611686018427387903 : Int64)))), .second, .val (.long (q0 ^^^ q2)), .second, .val (.long q5), .second, .val (.long ((q5 ^^^ q3) ^^^ q4)), .second, .val (.int (1 : Int32)), .val (.ref b1), .val (.int (0 : Int32)), .val (.int (1 : Int32)), .val (.long (B9_0 q3 q5)), .second, .val (.long (B9_0 q4 ((q5 ^^^ q3) ^^^ q4))), .second] [(.ref b1)])) _
        refine XS.iconst X606.here hx rfl (hb hby at_190) ?_
        show Steps p.tables e below (T606.setTop (mkF m 191 #[.val (.long q0), .second, .val (.long q1), .second, .val (.long q2), .second, .val (.long q3), .second, .val (.long q4), .second, .val (.long q5), .second, .val (.long (q1 &&& (4611686018427387903 : Int64))), .second, .val (.long (q2 &&& (4611686018427387903 : Int64))), .second, .val (.long ((q1 &&& (4611686018427387903 : Int64)) + (q2 &&& (4611686018427387903 : Int64)))), .second, .val (.long (q0 ^^^ q2)), .second, .val (.long q5), .second, .val (.long ((q5 ^^^ q3) ^^^ q4)), .second, .val (.int (1 : Int32)), .val (.ref b1), .val (.int (0 : Int32)), .val (.int (1 : Int32)), .val (.long (B9_0 q3 q5)), .second, .val (.long (B9_0 q4 ((q5 ^^^ q3) ^^^ q4))), .second] [(.int (0 : Int32)), (.ref b1)])) _
        refine st607.trans ?_
        show Steps p.tables e below (T607.setTop (mkF m 194 #[.val (.long q0), .second, .val (.long q1), .second, .val (.long q2), .second, .val (.long q3), .second, .val (.long q4), .second, .val (.long q5), .second, .val (.long (q1 &&& (4611686018427387903 : Int64))), .second, .val (.long (q2 &&& (4611686018427387903 : Int64))), .second, .val (.long ((q1 &&& (4611686018427387903 : Int64)) + (q2 &&& (4611686018427387903 : Int64)))), .second, .val (.long (q0 ^^^ q2)), .second, .val (.long q5), .second, .val (.long ((q5 ^^^ q3) ^^^ q4)), .second, .val (.int (1 : Int32)), .val (.ref b1), .val (.int (0 : Int32)), .val (.int (1 : Int32)), .val (.long (B9_0 q3 q5)), .second, .val (.long (B9_0 q4 ((q5 ^^^ q3) ^^^ q4))), .second] [(.long (q1 &&& (4611686018427387903 : Int64)))])) _
        refine XS.lload X607.here hx rfl (hb hby at_194) rfl ?_
        show Steps p.tables e below (T607.setTop (mkF m 196 #[.val (.long q0), .second, .val (.long q1), .second, .val (.long q2), .second, .val (.long q3), .second, .val (.long q4), .second, .val (.long q5), .second, .val (.long (q1 &&& (4611686018427387903 : Int64))), .second, .val (.long (q2 &&& (4611686018427387903 : Int64))), .second, .val (.long ((q1 &&& (4611686018427387903 : Int64)) + (q2 &&& (4611686018427387903 : Int64)))), .second, .val (.long (q0 ^^^ q2)), .second, .val (.long q5), .second, .val (.long ((q5 ^^^ q3) ^^^ q4)), .second, .val (.int (1 : Int32)), .val (.ref b1), .val (.int (0 : Int32)), .val (.int (1 : Int32)), .val (.long (B9_0 q3 q5)), .second, .val (.long (B9_0 q4 ((q5 ^^^ q3) ^^^ q4))), .second] [(.long (q1 &&& (4611686018427387903 : Int64))), (.long (q1 &&& (4611686018427387903 : Int64)))])) _
        refine XS.lcmp X607.here hx rfl (hb hby at_196) rfl ?_
        show Steps p.tables e below (T607.setTop (mkF m 197 #[.val (.long q0), .second, .val (.long q1), .second, .val (.long q2), .second, .val (.long q3), .second, .val (.long q4), .second, .val (.long q5), .second, .val (.long (q1 &&& (4611686018427387903 : Int64))), .second, .val (.long (q2 &&& (4611686018427387903 : Int64))), .second, .val (.long ((q1 &&& (4611686018427387903 : Int64)) + (q2 &&& (4611686018427387903 : Int64)))), .second, .val (.long (q0 ^^^ q2)), .second, .val (.long q5), .second, .val (.long ((q5 ^^^ q3) ^^^ q4)), .second, .val (.int (1 : Int32)), .val (.ref b1), .val (.int (0 : Int32)), .val (.int (1 : Int32)), .val (.long (B9_0 q3 q5)), .second, .val (.long (B9_0 q4 ((q5 ^^^ q3) ^^^ q4))), .second] [(.int (lcmpW (q1 &&& (4611686018427387903 : Int64)) (q1 &&& (4611686018427387903 : Int64))))])) _
        refine XS.ifYes X607.here hx rfl (pc0 := 197) (pc' := 202) rfl (hb hby at_197) rfl ((if0 _ _).trans (teq (own_eq0.mpr rfl)).1) (by decide) (by decide) ?_
        show Steps p.tables e below (T607.setTop (mkF m 202 #[.val (.long q0), .second, .val (.long q1), .second, .val (.long q2), .second, .val (.long q3), .second, .val (.long q4), .second, .val (.long q5), .second, .val (.long (q1 &&& (4611686018427387903 : Int64))), .second, .val (.long (q2 &&& (4611686018427387903 : Int64))), .second, .val (.long ((q1 &&& (4611686018427387903 : Int64)) + (q2 &&& (4611686018427387903 : Int64)))), .second, .val (.long (q0 ^^^ q2)), .second, .val (.long q5), .second, .val (.long ((q5 ^^^ q3) ^^^ q4)), .second, .val (.int (1 : Int32)), .val (.ref b1), .val (.int (0 : Int32)), .val (.int (1 : Int32)), .val (.long (B9_0 q3 q5)), .second, .val (.long (B9_0 q4 ((q5 ^^^ q3) ^^^ q4))), .second] [])) _
        refine XS.aload X607.here hx rfl (hb hby at_202) rfl rfl ?_
        show Steps p.tables e below (T607.setTop (mkF m 204 #[.val (.long q0), .second, .val (.long q1), .second, .val (.long q2), .second, .val (.long q3), .second, .val (.long q4), .second, .val (.long q5), .second, .val (.long (q1 &&& (4611686018427387903 : Int64))), .second, .val (.long (q2 &&& (4611686018427387903 : Int64))), .second, .val (.long ((q1 &&& (4611686018427387903 : Int64)) + (q2 &&& (4611686018427387903 : Int64)))), .second, .val (.long (q0 ^^^ q2)), .second, .val (.long q5), .second, .val (.long ((q5 ^^^ q3) ^^^ q4)), .second, .val (.int (1 : Int32)), .val (.ref b1), .val (.int (0 : Int32)), .val (.int (1 : Int32)), .val (.long (B9_0 q3 q5)), .second, .val (.long (B9_0 q4 ((q5 ^^^ q3) ^^^ q4))), .second] [(.ref b1)])) _
        refine XS.iconst X607.here hx rfl (hb hby at_204) ?_
        show Steps p.tables e below (T607.setTop (mkF m 205 #[.val (.long q0), .second, .val (.long q1), .second, .val (.long q2), .second, .val (.long q3), .second, .val (.long q4), .second, .val (.long q5), .second, .val (.long (q1 &&& (4611686018427387903 : Int64))), .second, .val (.long (q2 &&& (4611686018427387903 : Int64))), .second, .val (.long ((q1 &&& (4611686018427387903 : Int64)) + (q2 &&& (4611686018427387903 : Int64)))), .second, .val (.long (q0 ^^^ q2)), .second, .val (.long q5), .second, .val (.long ((q5 ^^^ q3) ^^^ q4)), .second, .val (.int (1 : Int32)), .val (.ref b1), .val (.int (0 : Int32)), .val (.int (1 : Int32)), .val (.long (B9_0 q3 q5)), .second, .val (.long (B9_0 q4 ((q5 ^^^ q3) ^^^ q4))), .second] [(.int (0 : Int32)), (.ref b1)])) _
        refine st608.trans ?_
        show Steps p.tables e below (T608.setTop (mkF m 208 #[.val (.long q0), .second, .val (.long q1), .second, .val (.long q2), .second, .val (.long q3), .second, .val (.long q4), .second, .val (.long q5), .second, .val (.long (q1 &&& (4611686018427387903 : Int64))), .second, .val (.long (q2 &&& (4611686018427387903 : Int64))), .second, .val (.long ((q1 &&& (4611686018427387903 : Int64)) + (q2 &&& (4611686018427387903 : Int64)))), .second, .val (.long (q0 ^^^ q2)), .second, .val (.long q5), .second, .val (.long ((q5 ^^^ q3) ^^^ q4)), .second, .val (.int (1 : Int32)), .val (.ref b1), .val (.int (0 : Int32)), .val (.int (1 : Int32)), .val (.long (B9_0 q3 q5)), .second, .val (.long (B9_0 q4 ((q5 ^^^ q3) ^^^ q4))), .second] [(.long (B9_0 q3 q5))])) _
        refine XS.lload X608.here hx rfl (hb hby at_208) rfl ?_
        show Steps p.tables e below (T608.setTop (mkF m 210 #[.val (.long q0), .second, .val (.long q1), .second, .val (.long q2), .second, .val (.long q3), .second, .val (.long q4), .second, .val (.long q5), .second, .val (.long (q1 &&& (4611686018427387903 : Int64))), .second, .val (.long (q2 &&& (4611686018427387903 : Int64))), .second, .val (.long ((q1 &&& (4611686018427387903 : Int64)) + (q2 &&& (4611686018427387903 : Int64)))), .second, .val (.long (q0 ^^^ q2)), .second, .val (.long q5), .second, .val (.long ((q5 ^^^ q3) ^^^ q4)), .second, .val (.int (1 : Int32)), .val (.ref b1), .val (.int (0 : Int32)), .val (.int (1 : Int32)), .val (.long (B9_0 q3 q5)), .second, .val (.long (B9_0 q4 ((q5 ^^^ q3) ^^^ q4))), .second] [(.long (B9_0 q3 q5)), (.long (B9_0 q3 q5))])) _
        refine XS.lcmp X608.here hx rfl (hb hby at_210) rfl ?_
        show Steps p.tables e below (T608.setTop (mkF m 211 #[.val (.long q0), .second, .val (.long q1), .second, .val (.long q2), .second, .val (.long q3), .second, .val (.long q4), .second, .val (.long q5), .second, .val (.long (q1 &&& (4611686018427387903 : Int64))), .second, .val (.long (q2 &&& (4611686018427387903 : Int64))), .second, .val (.long ((q1 &&& (4611686018427387903 : Int64)) + (q2 &&& (4611686018427387903 : Int64)))), .second, .val (.long (q0 ^^^ q2)), .second, .val (.long q5), .second, .val (.long ((q5 ^^^ q3) ^^^ q4)), .second, .val (.int (1 : Int32)), .val (.ref b1), .val (.int (0 : Int32)), .val (.int (1 : Int32)), .val (.long (B9_0 q3 q5)), .second, .val (.long (B9_0 q4 ((q5 ^^^ q3) ^^^ q4))), .second] [(.int (lcmpW (B9_0 q3 q5) (B9_0 q3 q5)))])) _
        refine XS.ifNo X608.here hx rfl (hb hby at_211) rfl ((if0 _ _).trans (teq (own_eq0.mpr rfl)).2) ?_
        show Steps p.tables e below (T608.setTop (mkF m 214 #[.val (.long q0), .second, .val (.long q1), .second, .val (.long q2), .second, .val (.long q3), .second, .val (.long q4), .second, .val (.long q5), .second, .val (.long (q1 &&& (4611686018427387903 : Int64))), .second, .val (.long (q2 &&& (4611686018427387903 : Int64))), .second, .val (.long ((q1 &&& (4611686018427387903 : Int64)) + (q2 &&& (4611686018427387903 : Int64)))), .second, .val (.long (q0 ^^^ q2)), .second, .val (.long q5), .second, .val (.long ((q5 ^^^ q3) ^^^ q4)), .second, .val (.int (1 : Int32)), .val (.ref b1), .val (.int (0 : Int32)), .val (.int (1 : Int32)), .val (.long (B9_0 q3 q5)), .second, .val (.long (B9_0 q4 ((q5 ^^^ q3) ^^^ q4))), .second] [])) _
        refine XS.aload X608.here hx rfl (hb hby at_214) rfl rfl ?_
        show Steps p.tables e below (T608.setTop (mkF m 216 #[.val (.long q0), .second, .val (.long q1), .second, .val (.long q2), .second, .val (.long q3), .second, .val (.long q4), .second, .val (.long q5), .second, .val (.long (q1 &&& (4611686018427387903 : Int64))), .second, .val (.long (q2 &&& (4611686018427387903 : Int64))), .second, .val (.long ((q1 &&& (4611686018427387903 : Int64)) + (q2 &&& (4611686018427387903 : Int64)))), .second, .val (.long (q0 ^^^ q2)), .second, .val (.long q5), .second, .val (.long ((q5 ^^^ q3) ^^^ q4)), .second, .val (.int (1 : Int32)), .val (.ref b1), .val (.int (0 : Int32)), .val (.int (1 : Int32)), .val (.long (B9_0 q3 q5)), .second, .val (.long (B9_0 q4 ((q5 ^^^ q3) ^^^ q4))), .second] [(.ref b1)])) _
        refine XS.iconst X608.here hx rfl (hb hby at_216) ?_
        show Steps p.tables e below (T608.setTop (mkF m 217 #[.val (.long q0), .second, .val (.long q1), .second, .val (.long q2), .second, .val (.long q3), .second, .val (.long q4), .second, .val (.long q5), .second, .val (.long (q1 &&& (4611686018427387903 : Int64))), .second, .val (.long (q2 &&& (4611686018427387903 : Int64))), .second, .val (.long ((q1 &&& (4611686018427387903 : Int64)) + (q2 &&& (4611686018427387903 : Int64)))), .second, .val (.long (q0 ^^^ q2)), .second, .val (.long q5), .second, .val (.long ((q5 ^^^ q3) ^^^ q4)), .second, .val (.int (1 : Int32)), .val (.ref b1), .val (.int (0 : Int32)), .val (.int (1 : Int32)), .val (.long (B9_0 q3 q5)), .second, .val (.long (B9_0 q4 ((q5 ^^^ q3) ^^^ q4))), .second] [(.int (0 : Int32)), (.ref b1)])) _
        refine st609.trans ?_
        show Steps p.tables e below (T609.setTop (mkF m 220 #[.val (.long q0), .second, .val (.long q1), .second, .val (.long q2), .second, .val (.long q3), .second, .val (.long q4), .second, .val (.long q5), .second, .val (.long (q1 &&& (4611686018427387903 : Int64))), .second, .val (.long (q2 &&& (4611686018427387903 : Int64))), .second, .val (.long ((q1 &&& (4611686018427387903 : Int64)) + (q2 &&& (4611686018427387903 : Int64)))), .second, .val (.long (q0 ^^^ q2)), .second, .val (.long q5), .second, .val (.long ((q5 ^^^ q3) ^^^ q4)), .second, .val (.int (1 : Int32)), .val (.ref b1), .val (.int (0 : Int32)), .val (.int (1 : Int32)), .val (.long (B9_0 q3 q5)), .second, .val (.long (B9_0 q4 ((q5 ^^^ q3) ^^^ q4))), .second] [(.long (B9_0 q4 ((q5 ^^^ q3) ^^^ q4)))])) _
        refine XS.lload X609.here hx rfl (hb hby at_220) rfl ?_
        show Steps p.tables e below (T609.setTop (mkF m 222 #[.val (.long q0), .second, .val (.long q1), .second, .val (.long q2), .second, .val (.long q3), .second, .val (.long q4), .second, .val (.long q5), .second, .val (.long (q1 &&& (4611686018427387903 : Int64))), .second, .val (.long (q2 &&& (4611686018427387903 : Int64))), .second, .val (.long ((q1 &&& (4611686018427387903 : Int64)) + (q2 &&& (4611686018427387903 : Int64)))), .second, .val (.long (q0 ^^^ q2)), .second, .val (.long q5), .second, .val (.long ((q5 ^^^ q3) ^^^ q4)), .second, .val (.int (1 : Int32)), .val (.ref b1), .val (.int (0 : Int32)), .val (.int (1 : Int32)), .val (.long (B9_0 q3 q5)), .second, .val (.long (B9_0 q4 ((q5 ^^^ q3) ^^^ q4))), .second] [(.long (B9_0 q4 ((q5 ^^^ q3) ^^^ q4))), (.long (B9_0 q4 ((q5 ^^^ q3) ^^^ q4)))])) _
        refine XS.lcmp X609.here hx rfl (hb hby at_222) rfl ?_
        show Steps p.tables e below (T609.setTop (mkF m 223 #[.val (.long q0), .second, .val (.long q1), .second, .val (.long q2), .second, .val (.long q3), .second, .val (.long q4), .second, .val (.long q5), .second, .val (.long (q1 &&& (4611686018427387903 : Int64))), .second, .val (.long (q2 &&& (4611686018427387903 : Int64))), .second, .val (.long ((q1 &&& (4611686018427387903 : Int64)) + (q2 &&& (4611686018427387903 : Int64)))), .second, .val (.long (q0 ^^^ q2)), .second, .val (.long q5), .second, .val (.long ((q5 ^^^ q3) ^^^ q4)), .second, .val (.int (1 : Int32)), .val (.ref b1), .val (.int (0 : Int32)), .val (.int (1 : Int32)), .val (.long (B9_0 q3 q5)), .second, .val (.long (B9_0 q4 ((q5 ^^^ q3) ^^^ q4))), .second] [(.int (lcmpW (B9_0 q4 ((q5 ^^^ q3) ^^^ q4)) (B9_0 q4 ((q5 ^^^ q3) ^^^ q4))))])) _
        refine XS.ifYes X609.here hx rfl (pc0 := 223) (pc' := 228) rfl (hb hby at_223) rfl ((if0 _ _).trans (teq (own_eq0.mpr rfl)).1) (by decide) (by decide) ?_
        show Steps p.tables e below (T609.setTop (mkF m 228 #[.val (.long q0), .second, .val (.long q1), .second, .val (.long q2), .second, .val (.long q3), .second, .val (.long q4), .second, .val (.long q5), .second, .val (.long (q1 &&& (4611686018427387903 : Int64))), .second, .val (.long (q2 &&& (4611686018427387903 : Int64))), .second, .val (.long ((q1 &&& (4611686018427387903 : Int64)) + (q2 &&& (4611686018427387903 : Int64)))), .second, .val (.long (q0 ^^^ q2)), .second, .val (.long q5), .second, .val (.long ((q5 ^^^ q3) ^^^ q4)), .second, .val (.int (1 : Int32)), .val (.ref b1), .val (.int (0 : Int32)), .val (.int (1 : Int32)), .val (.long (B9_0 q3 q5)), .second, .val (.long (B9_0 q4 ((q5 ^^^ q3) ^^^ q4))), .second] [])) _
        refine XS.iload X609.here hx rfl (hb hby at_228) rfl ?_
        show Steps p.tables e below (T609.setTop (mkF m 230 #[.val (.long q0), .second, .val (.long q1), .second, .val (.long q2), .second, .val (.long q3), .second, .val (.long q4), .second, .val (.long q5), .second, .val (.long (q1 &&& (4611686018427387903 : Int64))), .second, .val (.long (q2 &&& (4611686018427387903 : Int64))), .second, .val (.long ((q1 &&& (4611686018427387903 : Int64)) + (q2 &&& (4611686018427387903 : Int64)))), .second, .val (.long (q0 ^^^ q2)), .second, .val (.long q5), .second, .val (.long ((q5 ^^^ q3) ^^^ q4)), .second, .val (.int (1 : Int32)), .val (.ref b1), .val (.int (0 : Int32)), .val (.int (1 : Int32)), .val (.long (B9_0 q3 q5)), .second, .val (.long (B9_0 q4 ((q5 ^^^ q3) ^^^ q4))), .second] [(.int (0 : Int32))])) _
        refine XS.ifYes X609.here hx rfl (pc0 := 230) (pc' := 285) rfl (hb hby at_230) rfl ((if0 _ _).trans (teq rfl).1) (by decide) (by decide) ?_
        show Steps p.tables e below (T609.setTop (mkF m 285 #[.val (.long q0), .second, .val (.long q1), .second, .val (.long q2), .second, .val (.long q3), .second, .val (.long q4), .second, .val (.long q5), .second, .val (.long (q1 &&& (4611686018427387903 : Int64))), .second, .val (.long (q2 &&& (4611686018427387903 : Int64))), .second, .val (.long ((q1 &&& (4611686018427387903 : Int64)) + (q2 &&& (4611686018427387903 : Int64)))), .second, .val (.long (q0 ^^^ q2)), .second, .val (.long q5), .second, .val (.long ((q5 ^^^ q3) ^^^ q4)), .second, .val (.int (1 : Int32)), .val (.ref b1), .val (.int (0 : Int32)), .val (.int (1 : Int32)), .val (.long (B9_0 q3 q5)), .second, .val (.long (B9_0 q4 ((q5 ^^^ q3) ^^^ q4))), .second] [])) _
        refine XS.iconst X609.here hx rfl (hb hby at_285) ?_
        show Steps p.tables e below (T609.setTop (mkF m 286 #[.val (.long q0), .second, .val (.long q1), .second, .val (.long q2), .second, .val (.long q3), .second, .val (.long q4), .second, .val (.long q5), .second, .val (.long (q1 &&& (4611686018427387903 : Int64))), .second, .val (.long (q2 &&& (4611686018427387903 : Int64))), .second, .val (.long ((q1 &&& (4611686018427387903 : Int64)) + (q2 &&& (4611686018427387903 : Int64)))), .second, .val (.long (q0 ^^^ q2)), .second, .val (.long q5), .second, .val (.long ((q5 ^^^ q3) ^^^ q4)), .second, .val (.int (1 : Int32)), .val (.ref b1), .val (.int (0 : Int32)), .val (.int (1 : Int32)), .val (.long (B9_0 q3 q5)), .second, .val (.long (B9_0 q4 ((q5 ^^^ q3) ^^^ q4))), .second] [(.int (1 : Int32))])) _
        exact k
      exact own_retN X609 hx (t := .boolean) hret (by simp) hlk (hb hby at_286) (⟨rfl, N609⟩) (by decide) (by decide)
    · obtain ⟨cq610, kq610, q610a, q610b, q610c⟩ := isOf hZ rfl E1_599
      obtain ⟨_, _, ⟨T610, L610, k610, n610⟩, -, X610, ⟨Lc610, hQ610, l610, y610, z610⟩, st610⟩ := X597.virtualBack hx (y := (⟨"com/example/uplog/uplog/SegmentIndex", "add", "(JJJJ)V"⟩ : MethodName)) (z := (⟨"com/example/uplog/uplog/SegmentIndex", "add", "(JJJJ)V"⟩ : MethodName)) hown (mvT hZ (hw _ (List.mem_of_getElem? (i := 19) rfl))) (mvT hZ (hw _ (List.mem_of_getElem? (i := 20) rfl))) (notFace_of_selects (args := #[]) (mvT hZ (hw _ (List.mem_of_getElem? (i := 22) rfl)))) (mvT hZ (hw _ (List.mem_of_getElem? (i := 22) rfl))) (mvT hZ (hw _ (List.mem_of_getElem? (i := 21) rfl))) (by decide) (backOf (W := 0) (rmaD l Z a0 hw [] b1 (q0 ^^^ q2) ((q1 &&& (4611686018427387903 : Int64)) + (q2 &&& (4611686018427387903 : Int64))) q5 ((q5 ^^^ q3) ^^^ q4) c2 c3 c4 c5 j2 j3 j4 j5 q0 (q1 &&& (4611686018427387903 : Int64)) q3 q4 T597.heap n0 zh597 GC (own_distN _ _ hd)) hZ (hw _ (List.mem_of_getElem? (i := 23) rfl)) (hw _ (List.mem_of_getElem? (i := 3) rfl)) (by decide) (by decide)) q610a q610c (g := (mkF m 96 #[.val (.long q0), .second, .val (.long q1), .second, .val (.long q2), .second, .val (.long q3), .second, .val (.long q4), .second, .val (.long q5), .second, .val (.long (q1 &&& (4611686018427387903 : Int64))), .second, .val (.long (q2 &&& (4611686018427387903 : Int64))), .second, .val (.long ((q1 &&& (4611686018427387903 : Int64)) + (q2 &&& (4611686018427387903 : Int64)))), .second, .val (.long (q0 ^^^ q2)), .second, .val (.long q5), .second, .val (.long ((q5 ^^^ q3) ^^^ q4)), .second, .val (.int (1 : Int32)), .val (.ref b1), .unset, .unset, .unset, .unset, .unset, .unset] [(.long ((q5 ^^^ q3) ^^^ q4)), (.long q5), (.long ((q1 &&& (4611686018427387903 : Int64)) + (q2 &&& (4611686018427387903 : Int64)))), (.long (q0 ^^^ q2)), (.ref b1)])) rfl (by rw [hml]; rfl) (Steps.refl _) (argsL := [(.long (q0 ^^^ q2)), (.long ((q1 &&& (4611686018427387903 : Int64)) + (q2 &&& (4611686018427387903 : Int64)))), (.long q5), (.long ((q5 ^^^ q3) ^^^ q4))]) (rest := []) (lenOf pd_5 rfl) rfl (by show 2 * 0 + _ ≤ _; exact Nat.le_of_eq rfl) (hb hby at_96) (fun _ _ => ⟨rfl, rfl, (by decide : 9 + 4 ≤ _), (by decide : 41 + 36 ≤ _)⟩)
      dsimp only [Pt.U, Pt.locs, Pt.cells, Pt.slots] at X610 l610 y610 z610 st610 hQ610
      subst l610 y610 z610
      obtain ⟨e2, e3, e4, e5, i2, i3, i4, i5, rfl, N610q, K610, Gs610⟩ := hQ610
      have N610 := Fr.app N597 N610q
      have E1_611 := E1_599.keep K610
      have zh610 : n0 ≤ T610.heap.size := Nat.le_trans zh597 K610.1
      obtain ⟨E1_612, Fc_612, Fe2_612, Fe3_612, Fe4_612, Fe5_612, Ve2_612, Ve3_612, Ve4_612, Ve5_612, de2e3_612, de2e4_612, de2e5_612, de3e4_612, de3e5_612, de4e5_612, lo1_612, loe2_612, loe3_612, loe4_612, loe5_612⟩ := Gs610
      have ne1e2_612 : b1 ≠ e2 := Exa.neArv E1_612 Ve2_612 (hw _ (List.mem_of_getElem? (i := 2) rfl))
      have ne1e3_612 : b1 ≠ e3 := Exa.neArv E1_612 Ve3_612 (hw _ (List.mem_of_getElem? (i := 2) rfl))
      have ne1e4_612 : b1 ≠ e4 := Exa.neArv E1_612 Ve4_612 (hw _ (List.mem_of_getElem? (i := 2) rfl))
      have ne1e5_612 : b1 ≠ e5 := Exa.neArv E1_612 Ve5_612 (hw _ (List.mem_of_getElem? (i := 2) rfl))
      obtain ⟨cq613, kq613, q613a, q613b, q613c⟩ := isOf hZ rfl E1_612
      obtain ⟨_, _, ⟨T613, L613, k613, n613⟩, -, X613, ⟨Lc613, hQ613, l613, y613, z613⟩, st613⟩ := X610.virtualBack hx (y := (⟨"com/example/uplog/uplog/SegmentIndex", "count", "()I"⟩ : MethodName)) (z := (⟨"com/example/uplog/uplog/SegmentIndex", "count", "()I"⟩ : MethodName)) hown (mvT hZ (hw _ (List.mem_of_getElem? (i := 28) rfl))) (mvT hZ (hw _ (List.mem_of_getElem? (i := 29) rfl))) (notFace_of_selects (args := #[]) (mvT hZ (hw _ (List.mem_of_getElem? (i := 31) rfl)))) (mvT hZ (hw _ (List.mem_of_getElem? (i := 31) rfl))) (mvT hZ (hw _ (List.mem_of_getElem? (i := 30) rfl))) (by decide) (backOf (W := 0) (rm4 l Z a0 hw [] b1 (2 : Int32) T610.heap n0 zh610 Fc_612) hZ (hw _ (List.mem_of_getElem? (i := 32) rfl)) (hw _ (List.mem_of_getElem? (i := 3) rfl)) (by decide) (by decide)) q613a q613c (g := (mkF m 167 #[.val (.long q0), .second, .val (.long q1), .second, .val (.long q2), .second, .val (.long q3), .second, .val (.long q4), .second, .val (.long q5), .second, .val (.long (q1 &&& (4611686018427387903 : Int64))), .second, .val (.long (q2 &&& (4611686018427387903 : Int64))), .second, .val (.long ((q1 &&& (4611686018427387903 : Int64)) + (q2 &&& (4611686018427387903 : Int64)))), .second, .val (.long (q0 ^^^ q2)), .second, .val (.long q5), .second, .val (.long ((q5 ^^^ q3) ^^^ q4)), .second, .val (.int (1 : Int32)), .val (.ref b1), .val (.int (1 : Int32)), .val (.int (2 : Int32)), .val (.long q3), .second, .val (.long q4), .second] [(.ref b1)])) rfl (by rw [hml]; rfl) (Steps.refl _) (argsL := []) (rest := []) (lenOf pd_6 rfl) rfl (by show 2 * 0 + _ ≤ _; exact Nat.le_of_eq rfl) (hb hby at_167) (fun _ _ => ⟨rfl, rfl, (by decide : 13 + 0 ≤ _), (by decide : 77 + 0 ≤ _)⟩)
      dsimp only [Pt.U, Pt.locs, Pt.cells, Pt.slots] at X613 l613 y613 z613 st613 hQ613
      subst l613 y613 z613
      obtain ⟨rfl, N613q, hh613⟩ := hQ613
      have N613 := Fr.app N610 N613q
      obtain ⟨cq614, kq614, q614a, q614b, q614c⟩ := isOf hZ hh613 E1_612
      obtain ⟨_, _, ⟨T614, L614, k614, n614⟩, -, X614, ⟨Lc614, hQ614, l614, y614, z614⟩, st614⟩ := X613.virtualBack hx (y := (⟨"com/example/uplog/uplog/SegmentIndex", "offset", "(I)J"⟩ : MethodName)) (z := (⟨"com/example/uplog/uplog/SegmentIndex", "offset", "(I)J"⟩ : MethodName)) hown (mvT hZ (hw _ (List.mem_of_getElem? (i := 33) rfl))) (mvT hZ (hw _ (List.mem_of_getElem? (i := 34) rfl))) (notFace_of_selects (args := #[]) (mvT hZ (hw _ (List.mem_of_getElem? (i := 36) rfl)))) (mvT hZ (hw _ (List.mem_of_getElem? (i := 36) rfl))) (mvT hZ (hw _ (List.mem_of_getElem? (i := 35) rfl))) (by decide) (backOf (W := 0) (rm5 l Z a0 hw [] b1 (0 : Int32) e2 i2 (9 : Int32) [(.long q0), (.long (q0 ^^^ q2)), (.long (0 : Int64)), (.long (0 : Int64)), (.long (0 : Int64)), (.long (0 : Int64)), (.long (0 : Int64)), (.long (0 : Int64)), (.long (0 : Int64))] q0 T610.heap n0 zh610 Fe2_612 Ve2_612 ⟨by decide, by decide⟩ rfl) hZ (hw _ (List.mem_of_getElem? (i := 37) rfl)) (hw _ (List.mem_of_getElem? (i := 3) rfl)) (by decide) (by decide)) q614a q614c (g := (mkF m 180 #[.val (.long q0), .second, .val (.long q1), .second, .val (.long q2), .second, .val (.long q3), .second, .val (.long q4), .second, .val (.long q5), .second, .val (.long (q1 &&& (4611686018427387903 : Int64))), .second, .val (.long (q2 &&& (4611686018427387903 : Int64))), .second, .val (.long ((q1 &&& (4611686018427387903 : Int64)) + (q2 &&& (4611686018427387903 : Int64)))), .second, .val (.long (q0 ^^^ q2)), .second, .val (.long q5), .second, .val (.long ((q5 ^^^ q3) ^^^ q4)), .second, .val (.int (1 : Int32)), .val (.ref b1), .val (.int (1 : Int32)), .val (.int (2 : Int32)), .val (.long q3), .second, .val (.long q4), .second] [(.int (0 : Int32)), (.ref b1)])) rfl (by rw [hml]; rfl) (Steps.refl _) (argsL := [(.int (0 : Int32))]) (rest := []) (lenOf pd_7 rfl) rfl (by show 2 * 0 + _ ≤ _; exact Nat.le_of_eq rfl) (hb hby at_180) (fun _ _ => ⟨rfl, hh613, (by decide : 13 + 0 ≤ _), (by decide : 77 + 0 ≤ _)⟩)
      dsimp only [Pt.U, Pt.locs, Pt.cells, Pt.slots] at X614 l614 y614 z614 st614 hQ614
      subst l614 y614 z614
      obtain ⟨rfl, N614q, hh614⟩ := hQ614
      have N614 := Fr.app N613 N614q
      obtain ⟨cq615, kq615, q615a, q615b, q615c⟩ := isOf hZ hh614 E1_612
      obtain ⟨_, _, ⟨T615, L615, k615, n615⟩, -, X615, ⟨Lc615, hQ615, l615, y615, z615⟩, st615⟩ := X614.virtualBack hx (y := (⟨"com/example/uplog/uplog/SegmentIndex", "position", "(I)J"⟩ : MethodName)) (z := (⟨"com/example/uplog/uplog/SegmentIndex", "position", "(I)J"⟩ : MethodName)) hown (mvT hZ (hw _ (List.mem_of_getElem? (i := 38) rfl))) (mvT hZ (hw _ (List.mem_of_getElem? (i := 39) rfl))) (notFace_of_selects (args := #[]) (mvT hZ (hw _ (List.mem_of_getElem? (i := 41) rfl)))) (mvT hZ (hw _ (List.mem_of_getElem? (i := 41) rfl))) (mvT hZ (hw _ (List.mem_of_getElem? (i := 40) rfl))) (by decide) (backOf (W := 0) (rm6 l Z a0 hw [] b1 (0 : Int32) e3 i3 (9 : Int32) [(.long (q1 &&& (4611686018427387903 : Int64))), (.long ((q1 &&& (4611686018427387903 : Int64)) + (q2 &&& (4611686018427387903 : Int64)))), (.long (0 : Int64)), (.long (0 : Int64)), (.long (0 : Int64)), (.long (0 : Int64)), (.long (0 : Int64)), (.long (0 : Int64)), (.long (0 : Int64))] (q1 &&& (4611686018427387903 : Int64)) T610.heap n0 zh610 Fe3_612 Ve3_612 ⟨by decide, by decide⟩ rfl) hZ (hw _ (List.mem_of_getElem? (i := 42) rfl)) (hw _ (List.mem_of_getElem? (i := 3) rfl)) (by decide) (by decide)) q615a q615c (g := (mkF m 191 #[.val (.long q0), .second, .val (.long q1), .second, .val (.long q2), .second, .val (.long q3), .second, .val (.long q4), .second, .val (.long q5), .second, .val (.long (q1 &&& (4611686018427387903 : Int64))), .second, .val (.long (q2 &&& (4611686018427387903 : Int64))), .second, .val (.long ((q1 &&& (4611686018427387903 : Int64)) + (q2 &&& (4611686018427387903 : Int64)))), .second, .val (.long (q0 ^^^ q2)), .second, .val (.long q5), .second, .val (.long ((q5 ^^^ q3) ^^^ q4)), .second, .val (.int (1 : Int32)), .val (.ref b1), .val (.int (1 : Int32)), .val (.int (2 : Int32)), .val (.long q3), .second, .val (.long q4), .second] [(.int (0 : Int32)), (.ref b1)])) rfl (by rw [hml]; rfl) (Steps.refl _) (argsL := [(.int (0 : Int32))]) (rest := []) (lenOf pd_7 rfl) rfl (by show 2 * 0 + _ ≤ _; exact Nat.le_of_eq rfl) (hb hby at_191) (fun _ _ => ⟨rfl, hh614, (by decide : 13 + 0 ≤ _), (by decide : 77 + 0 ≤ _)⟩)
      dsimp only [Pt.U, Pt.locs, Pt.cells, Pt.slots] at X615 l615 y615 z615 st615 hQ615
      subst l615 y615 z615
      obtain ⟨rfl, N615q, hh615⟩ := hQ615
      have N615 := Fr.app N614 N615q
      obtain ⟨cq616, kq616, q616a, q616b, q616c⟩ := isOf hZ hh615 E1_612
      obtain ⟨_, _, ⟨T616, L616, k616, n616⟩, -, X616, ⟨Lc616, hQ616, l616, y616, z616⟩, st616⟩ := X615.virtualBack hx (y := (⟨"com/example/uplog/uplog/SegmentIndex", "maxTimestamp", "(I)J"⟩ : MethodName)) (z := (⟨"com/example/uplog/uplog/SegmentIndex", "maxTimestamp", "(I)J"⟩ : MethodName)) hown (mvT hZ (hw _ (List.mem_of_getElem? (i := 43) rfl))) (mvT hZ (hw _ (List.mem_of_getElem? (i := 44) rfl))) (notFace_of_selects (args := #[]) (mvT hZ (hw _ (List.mem_of_getElem? (i := 46) rfl)))) (mvT hZ (hw _ (List.mem_of_getElem? (i := 46) rfl))) (mvT hZ (hw _ (List.mem_of_getElem? (i := 45) rfl))) (by decide) (backOf (W := 0) (rm7 l Z a0 hw [] b1 (0 : Int32) e4 i4 (9 : Int32) [(.long q3), (.long q5), (.long (0 : Int64)), (.long (0 : Int64)), (.long (0 : Int64)), (.long (0 : Int64)), (.long (0 : Int64)), (.long (0 : Int64)), (.long (0 : Int64))] q3 T610.heap n0 zh610 Fe4_612 Ve4_612 ⟨by decide, by decide⟩ rfl) hZ (hw _ (List.mem_of_getElem? (i := 47) rfl)) (hw _ (List.mem_of_getElem? (i := 3) rfl)) (by decide) (by decide)) q616a q616c (g := (mkF m 205 #[.val (.long q0), .second, .val (.long q1), .second, .val (.long q2), .second, .val (.long q3), .second, .val (.long q4), .second, .val (.long q5), .second, .val (.long (q1 &&& (4611686018427387903 : Int64))), .second, .val (.long (q2 &&& (4611686018427387903 : Int64))), .second, .val (.long ((q1 &&& (4611686018427387903 : Int64)) + (q2 &&& (4611686018427387903 : Int64)))), .second, .val (.long (q0 ^^^ q2)), .second, .val (.long q5), .second, .val (.long ((q5 ^^^ q3) ^^^ q4)), .second, .val (.int (1 : Int32)), .val (.ref b1), .val (.int (1 : Int32)), .val (.int (2 : Int32)), .val (.long q3), .second, .val (.long q4), .second] [(.int (0 : Int32)), (.ref b1)])) rfl (by rw [hml]; rfl) (Steps.refl _) (argsL := [(.int (0 : Int32))]) (rest := []) (lenOf pd_7 rfl) rfl (by show 2 * 0 + _ ≤ _; exact Nat.le_of_eq rfl) (hb hby at_205) (fun _ _ => ⟨rfl, hh615, (by decide : 13 + 0 ≤ _), (by decide : 77 + 0 ≤ _)⟩)
      dsimp only [Pt.U, Pt.locs, Pt.cells, Pt.slots] at X616 l616 y616 z616 st616 hQ616
      subst l616 y616 z616
      obtain ⟨rfl, N616q, hh616⟩ := hQ616
      have N616 := Fr.app N615 N616q
      obtain ⟨cq617, kq617, q617a, q617b, q617c⟩ := isOf hZ hh616 E1_612
      obtain ⟨_, _, ⟨T617, L617, k617, n617⟩, -, X617, ⟨Lc617, hQ617, l617, y617, z617⟩, st617⟩ := X616.virtualBack hx (y := (⟨"com/example/uplog/uplog/SegmentIndex", "writtenAt", "(I)J"⟩ : MethodName)) (z := (⟨"com/example/uplog/uplog/SegmentIndex", "writtenAt", "(I)J"⟩ : MethodName)) hown (mvT hZ (hw _ (List.mem_of_getElem? (i := 48) rfl))) (mvT hZ (hw _ (List.mem_of_getElem? (i := 49) rfl))) (notFace_of_selects (args := #[]) (mvT hZ (hw _ (List.mem_of_getElem? (i := 51) rfl)))) (mvT hZ (hw _ (List.mem_of_getElem? (i := 51) rfl))) (mvT hZ (hw _ (List.mem_of_getElem? (i := 50) rfl))) (by decide) (backOf (W := 0) (rm8 l Z a0 hw [] b1 (0 : Int32) e5 i5 (9 : Int32) [(.long q4), (.long ((q5 ^^^ q3) ^^^ q4)), (.long (0 : Int64)), (.long (0 : Int64)), (.long (0 : Int64)), (.long (0 : Int64)), (.long (0 : Int64)), (.long (0 : Int64)), (.long (0 : Int64))] q4 T610.heap n0 zh610 Fe5_612 Ve5_612 ⟨by decide, by decide⟩ rfl) hZ (hw _ (List.mem_of_getElem? (i := 52) rfl)) (hw _ (List.mem_of_getElem? (i := 3) rfl)) (by decide) (by decide)) q617a q617c (g := (mkF m 217 #[.val (.long q0), .second, .val (.long q1), .second, .val (.long q2), .second, .val (.long q3), .second, .val (.long q4), .second, .val (.long q5), .second, .val (.long (q1 &&& (4611686018427387903 : Int64))), .second, .val (.long (q2 &&& (4611686018427387903 : Int64))), .second, .val (.long ((q1 &&& (4611686018427387903 : Int64)) + (q2 &&& (4611686018427387903 : Int64)))), .second, .val (.long (q0 ^^^ q2)), .second, .val (.long q5), .second, .val (.long ((q5 ^^^ q3) ^^^ q4)), .second, .val (.int (1 : Int32)), .val (.ref b1), .val (.int (1 : Int32)), .val (.int (2 : Int32)), .val (.long q3), .second, .val (.long q4), .second] [(.int (0 : Int32)), (.ref b1)])) rfl (by rw [hml]; rfl) (Steps.refl _) (argsL := [(.int (0 : Int32))]) (rest := []) (lenOf pd_7 rfl) rfl (by show 2 * 0 + _ ≤ _; exact Nat.le_of_eq rfl) (hb hby at_217) (fun _ _ => ⟨rfl, hh616, (by decide : 13 + 0 ≤ _), (by decide : 77 + 0 ≤ _)⟩)
      dsimp only [Pt.U, Pt.locs, Pt.cells, Pt.slots] at X617 l617 y617 z617 st617 hQ617
      subst l617 y617 z617
      obtain ⟨rfl, N617q, hh617⟩ := hQ617
      have N617 := Fr.app N616 N617q
      obtain ⟨cq618, kq618, q618a, q618b, q618c⟩ := isOf hZ hh617 E1_612
      obtain ⟨_, _, ⟨T618, L618, k618, n618⟩, -, X618, ⟨Lc618, hQ618, l618, y618, z618⟩, st618⟩ := X617.virtualBack hx (y := (⟨"com/example/uplog/uplog/SegmentIndex", "offset", "(I)J"⟩ : MethodName)) (z := (⟨"com/example/uplog/uplog/SegmentIndex", "offset", "(I)J"⟩ : MethodName)) hown (mvT hZ (hw _ (List.mem_of_getElem? (i := 33) rfl))) (mvT hZ (hw _ (List.mem_of_getElem? (i := 34) rfl))) (notFace_of_selects (args := #[]) (mvT hZ (hw _ (List.mem_of_getElem? (i := 36) rfl)))) (mvT hZ (hw _ (List.mem_of_getElem? (i := 36) rfl))) (mvT hZ (hw _ (List.mem_of_getElem? (i := 35) rfl))) (by decide) (backOf (W := 0) (rm5 l Z a0 hw [] b1 (1 : Int32) e2 i2 (9 : Int32) [(.long q0), (.long (q0 ^^^ q2)), (.long (0 : Int64)), (.long (0 : Int64)), (.long (0 : Int64)), (.long (0 : Int64)), (.long (0 : Int64)), (.long (0 : Int64)), (.long (0 : Int64))] (q0 ^^^ q2) T610.heap n0 zh610 Fe2_612 Ve2_612 ⟨by decide, by decide⟩ rfl) hZ (hw _ (List.mem_of_getElem? (i := 37) rfl)) (hw _ (List.mem_of_getElem? (i := 3) rfl)) (by decide) (by decide)) q618a q618c (g := (mkF m 236 #[.val (.long q0), .second, .val (.long q1), .second, .val (.long q2), .second, .val (.long q3), .second, .val (.long q4), .second, .val (.long q5), .second, .val (.long (q1 &&& (4611686018427387903 : Int64))), .second, .val (.long (q2 &&& (4611686018427387903 : Int64))), .second, .val (.long ((q1 &&& (4611686018427387903 : Int64)) + (q2 &&& (4611686018427387903 : Int64)))), .second, .val (.long (q0 ^^^ q2)), .second, .val (.long q5), .second, .val (.long ((q5 ^^^ q3) ^^^ q4)), .second, .val (.int (1 : Int32)), .val (.ref b1), .val (.int (1 : Int32)), .val (.int (2 : Int32)), .val (.long q3), .second, .val (.long q4), .second] [(.int (1 : Int32)), (.ref b1)])) rfl (by rw [hml]; rfl) (Steps.refl _) (argsL := [(.int (1 : Int32))]) (rest := []) (lenOf pd_7 rfl) rfl (by show 2 * 0 + _ ≤ _; exact Nat.le_of_eq rfl) (hb hby at_236) (fun _ _ => ⟨rfl, hh617, (by decide : 13 + 0 ≤ _), (by decide : 77 + 0 ≤ _)⟩)
      dsimp only [Pt.U, Pt.locs, Pt.cells, Pt.slots] at X618 l618 y618 z618 st618 hQ618
      subst l618 y618 z618
      obtain ⟨rfl, N618q, hh618⟩ := hQ618
      have N618 := Fr.app N617 N618q
      obtain ⟨cq619, kq619, q619a, q619b, q619c⟩ := isOf hZ hh618 E1_612
      obtain ⟨_, _, ⟨T619, L619, k619, n619⟩, -, X619, ⟨Lc619, hQ619, l619, y619, z619⟩, st619⟩ := X618.virtualBack hx (y := (⟨"com/example/uplog/uplog/SegmentIndex", "position", "(I)J"⟩ : MethodName)) (z := (⟨"com/example/uplog/uplog/SegmentIndex", "position", "(I)J"⟩ : MethodName)) hown (mvT hZ (hw _ (List.mem_of_getElem? (i := 38) rfl))) (mvT hZ (hw _ (List.mem_of_getElem? (i := 39) rfl))) (notFace_of_selects (args := #[]) (mvT hZ (hw _ (List.mem_of_getElem? (i := 41) rfl)))) (mvT hZ (hw _ (List.mem_of_getElem? (i := 41) rfl))) (mvT hZ (hw _ (List.mem_of_getElem? (i := 40) rfl))) (by decide) (backOf (W := 0) (rm6 l Z a0 hw [] b1 (1 : Int32) e3 i3 (9 : Int32) [(.long (q1 &&& (4611686018427387903 : Int64))), (.long ((q1 &&& (4611686018427387903 : Int64)) + (q2 &&& (4611686018427387903 : Int64)))), (.long (0 : Int64)), (.long (0 : Int64)), (.long (0 : Int64)), (.long (0 : Int64)), (.long (0 : Int64)), (.long (0 : Int64)), (.long (0 : Int64))] ((q1 &&& (4611686018427387903 : Int64)) + (q2 &&& (4611686018427387903 : Int64))) T610.heap n0 zh610 Fe3_612 Ve3_612 ⟨by decide, by decide⟩ rfl) hZ (hw _ (List.mem_of_getElem? (i := 42) rfl)) (hw _ (List.mem_of_getElem? (i := 3) rfl)) (by decide) (by decide)) q619a q619c (g := (mkF m 248 #[.val (.long q0), .second, .val (.long q1), .second, .val (.long q2), .second, .val (.long q3), .second, .val (.long q4), .second, .val (.long q5), .second, .val (.long (q1 &&& (4611686018427387903 : Int64))), .second, .val (.long (q2 &&& (4611686018427387903 : Int64))), .second, .val (.long ((q1 &&& (4611686018427387903 : Int64)) + (q2 &&& (4611686018427387903 : Int64)))), .second, .val (.long (q0 ^^^ q2)), .second, .val (.long q5), .second, .val (.long ((q5 ^^^ q3) ^^^ q4)), .second, .val (.int (1 : Int32)), .val (.ref b1), .val (.int (1 : Int32)), .val (.int (2 : Int32)), .val (.long q3), .second, .val (.long q4), .second] [(.int (1 : Int32)), (.ref b1)])) rfl (by rw [hml]; rfl) (Steps.refl _) (argsL := [(.int (1 : Int32))]) (rest := []) (lenOf pd_7 rfl) rfl (by show 2 * 0 + _ ≤ _; exact Nat.le_of_eq rfl) (hb hby at_248) (fun _ _ => ⟨rfl, hh618, (by decide : 13 + 0 ≤ _), (by decide : 77 + 0 ≤ _)⟩)
      dsimp only [Pt.U, Pt.locs, Pt.cells, Pt.slots] at X619 l619 y619 z619 st619 hQ619
      subst l619 y619 z619
      obtain ⟨rfl, N619q, hh619⟩ := hQ619
      have N619 := Fr.app N618 N619q
      obtain ⟨cq620, kq620, q620a, q620b, q620c⟩ := isOf hZ hh619 E1_612
      obtain ⟨_, _, ⟨T620, L620, k620, n620⟩, -, X620, ⟨Lc620, hQ620, l620, y620, z620⟩, st620⟩ := X619.virtualBack hx (y := (⟨"com/example/uplog/uplog/SegmentIndex", "maxTimestamp", "(I)J"⟩ : MethodName)) (z := (⟨"com/example/uplog/uplog/SegmentIndex", "maxTimestamp", "(I)J"⟩ : MethodName)) hown (mvT hZ (hw _ (List.mem_of_getElem? (i := 43) rfl))) (mvT hZ (hw _ (List.mem_of_getElem? (i := 44) rfl))) (notFace_of_selects (args := #[]) (mvT hZ (hw _ (List.mem_of_getElem? (i := 46) rfl)))) (mvT hZ (hw _ (List.mem_of_getElem? (i := 46) rfl))) (mvT hZ (hw _ (List.mem_of_getElem? (i := 45) rfl))) (by decide) (backOf (W := 0) (rm7 l Z a0 hw [] b1 (1 : Int32) e4 i4 (9 : Int32) [(.long q3), (.long q5), (.long (0 : Int64)), (.long (0 : Int64)), (.long (0 : Int64)), (.long (0 : Int64)), (.long (0 : Int64)), (.long (0 : Int64)), (.long (0 : Int64))] q5 T610.heap n0 zh610 Fe4_612 Ve4_612 ⟨by decide, by decide⟩ rfl) hZ (hw _ (List.mem_of_getElem? (i := 47) rfl)) (hw _ (List.mem_of_getElem? (i := 3) rfl)) (by decide) (by decide)) q620a q620c (g := (mkF m 262 #[.val (.long q0), .second, .val (.long q1), .second, .val (.long q2), .second, .val (.long q3), .second, .val (.long q4), .second, .val (.long q5), .second, .val (.long (q1 &&& (4611686018427387903 : Int64))), .second, .val (.long (q2 &&& (4611686018427387903 : Int64))), .second, .val (.long ((q1 &&& (4611686018427387903 : Int64)) + (q2 &&& (4611686018427387903 : Int64)))), .second, .val (.long (q0 ^^^ q2)), .second, .val (.long q5), .second, .val (.long ((q5 ^^^ q3) ^^^ q4)), .second, .val (.int (1 : Int32)), .val (.ref b1), .val (.int (1 : Int32)), .val (.int (2 : Int32)), .val (.long q3), .second, .val (.long q4), .second] [(.int (1 : Int32)), (.ref b1)])) rfl (by rw [hml]; rfl) (Steps.refl _) (argsL := [(.int (1 : Int32))]) (rest := []) (lenOf pd_7 rfl) rfl (by show 2 * 0 + _ ≤ _; exact Nat.le_of_eq rfl) (hb hby at_262) (fun _ _ => ⟨rfl, hh619, (by decide : 13 + 0 ≤ _), (by decide : 77 + 0 ≤ _)⟩)
      dsimp only [Pt.U, Pt.locs, Pt.cells, Pt.slots] at X620 l620 y620 z620 st620 hQ620
      subst l620 y620 z620
      obtain ⟨rfl, N620q, hh620⟩ := hQ620
      have N620 := Fr.app N619 N620q
      obtain ⟨cq621, kq621, q621a, q621b, q621c⟩ := isOf hZ hh620 E1_612
      obtain ⟨_, _, ⟨T621, L621, k621, n621⟩, -, X621, ⟨Lc621, hQ621, l621, y621, z621⟩, st621⟩ := X620.virtualBack hx (y := (⟨"com/example/uplog/uplog/SegmentIndex", "writtenAt", "(I)J"⟩ : MethodName)) (z := (⟨"com/example/uplog/uplog/SegmentIndex", "writtenAt", "(I)J"⟩ : MethodName)) hown (mvT hZ (hw _ (List.mem_of_getElem? (i := 48) rfl))) (mvT hZ (hw _ (List.mem_of_getElem? (i := 49) rfl))) (notFace_of_selects (args := #[]) (mvT hZ (hw _ (List.mem_of_getElem? (i := 51) rfl)))) (mvT hZ (hw _ (List.mem_of_getElem? (i := 51) rfl))) (mvT hZ (hw _ (List.mem_of_getElem? (i := 50) rfl))) (by decide) (backOf (W := 0) (rm8 l Z a0 hw [] b1 (1 : Int32) e5 i5 (9 : Int32) [(.long q4), (.long ((q5 ^^^ q3) ^^^ q4)), (.long (0 : Int64)), (.long (0 : Int64)), (.long (0 : Int64)), (.long (0 : Int64)), (.long (0 : Int64)), (.long (0 : Int64)), (.long (0 : Int64))] ((q5 ^^^ q3) ^^^ q4) T610.heap n0 zh610 Fe5_612 Ve5_612 ⟨by decide, by decide⟩ rfl) hZ (hw _ (List.mem_of_getElem? (i := 52) rfl)) (hw _ (List.mem_of_getElem? (i := 3) rfl)) (by decide) (by decide)) q621a q621c (g := (mkF m 274 #[.val (.long q0), .second, .val (.long q1), .second, .val (.long q2), .second, .val (.long q3), .second, .val (.long q4), .second, .val (.long q5), .second, .val (.long (q1 &&& (4611686018427387903 : Int64))), .second, .val (.long (q2 &&& (4611686018427387903 : Int64))), .second, .val (.long ((q1 &&& (4611686018427387903 : Int64)) + (q2 &&& (4611686018427387903 : Int64)))), .second, .val (.long (q0 ^^^ q2)), .second, .val (.long q5), .second, .val (.long ((q5 ^^^ q3) ^^^ q4)), .second, .val (.int (1 : Int32)), .val (.ref b1), .val (.int (1 : Int32)), .val (.int (2 : Int32)), .val (.long q3), .second, .val (.long q4), .second] [(.int (1 : Int32)), (.ref b1)])) rfl (by rw [hml]; rfl) (Steps.refl _) (argsL := [(.int (1 : Int32))]) (rest := []) (lenOf pd_7 rfl) rfl (by show 2 * 0 + _ ≤ _; exact Nat.le_of_eq rfl) (hb hby at_274) (fun _ _ => ⟨rfl, hh620, (by decide : 13 + 0 ≤ _), (by decide : 77 + 0 ≤ _)⟩)
      dsimp only [Pt.U, Pt.locs, Pt.cells, Pt.slots] at X621 l621 y621 z621 st621 hQ621
      subst l621 y621 z621
      obtain ⟨rfl, N621q, hh621⟩ := hQ621
      have N621 := Fr.app N620 N621q
      refine own_Go.mono (T' := T621) (f' := (mkF m 286 #[.val (.long q0), .second, .val (.long q1), .second, .val (.long q2), .second, .val (.long q3), .second, .val (.long q4), .second, .val (.long q5), .second, .val (.long (q1 &&& (4611686018427387903 : Int64))), .second, .val (.long (q2 &&& (4611686018427387903 : Int64))), .second, .val (.long ((q1 &&& (4611686018427387903 : Int64)) + (q2 &&& (4611686018427387903 : Int64)))), .second, .val (.long (q0 ^^^ q2)), .second, .val (.long q5), .second, .val (.long ((q5 ^^^ q3) ^^^ q4)), .second, .val (.int (1 : Int32)), .val (.ref b1), .val (.int (1 : Int32)), .val (.int (2 : Int32)), .val (.long q3), .second, .val (.long q4), .second] [(.int (1 : Int32))])) (fun t k => ?_) ?_
      · show Steps p.tables e below (T597.setTop (mkF m 96 #[.val (.long q0), .second, .val (.long q1), .second, .val (.long q2), .second, .val (.long q3), .second, .val (.long q4), .second, .val (.long q5), .second, .val (.long (q1 &&& (4611686018427387903 : Int64))), .second, .val (.long (q2 &&& (4611686018427387903 : Int64))), .second, .val (.long ((q1 &&& (4611686018427387903 : Int64)) + (q2 &&& (4611686018427387903 : Int64)))), .second, .val (.long (q0 ^^^ q2)), .second, .val (.long q5), .second, .val (.long ((q5 ^^^ q3) ^^^ q4)), .second, .val (.int (1 : Int32)), .val (.ref b1), .unset, .unset, .unset, .unset, .unset, .unset] [(.long ((q5 ^^^ q3) ^^^ q4)), (.long q5), (.long ((q1 &&& (4611686018427387903 : Int64)) + (q2 &&& (4611686018427387903 : Int64)))), (.long (q0 ^^^ q2)), (.ref b1)])) _
        refine st610.trans ?_
        show Steps p.tables e below (T610.setTop (mkF m 99 #[.val (.long q0), .second, .val (.long q1), .second, .val (.long q2), .second, .val (.long q3), .second, .val (.long q4), .second, .val (.long q5), .second, .val (.long (q1 &&& (4611686018427387903 : Int64))), .second, .val (.long (q2 &&& (4611686018427387903 : Int64))), .second, .val (.long ((q1 &&& (4611686018427387903 : Int64)) + (q2 &&& (4611686018427387903 : Int64)))), .second, .val (.long (q0 ^^^ q2)), .second, .val (.long q5), .second, .val (.long ((q5 ^^^ q3) ^^^ q4)), .second, .val (.int (1 : Int32)), .val (.ref b1), .unset, .unset, .unset, .unset, .unset, .unset] [])) _
        refine XS.lload X610.here hx rfl (hb hby at_99) rfl ?_
        show Steps p.tables e below (T610.setTop (mkF m 101 #[.val (.long q0), .second, .val (.long q1), .second, .val (.long q2), .second, .val (.long q3), .second, .val (.long q4), .second, .val (.long q5), .second, .val (.long (q1 &&& (4611686018427387903 : Int64))), .second, .val (.long (q2 &&& (4611686018427387903 : Int64))), .second, .val (.long ((q1 &&& (4611686018427387903 : Int64)) + (q2 &&& (4611686018427387903 : Int64)))), .second, .val (.long (q0 ^^^ q2)), .second, .val (.long q5), .second, .val (.long ((q5 ^^^ q3) ^^^ q4)), .second, .val (.int (1 : Int32)), .val (.ref b1), .unset, .unset, .unset, .unset, .unset, .unset] [(.long (q2 &&& (4611686018427387903 : Int64)))])) _
        refine X610.ldc2Long hx hown (mvT hZ (hw _ (List.mem_of_getElem? (i := 27) rfl))) (g := (mkF m 101 #[.val (.long q0), .second, .val (.long q1), .second, .val (.long q2), .second, .val (.long q3), .second, .val (.long q4), .second, .val (.long q5), .second, .val (.long (q1 &&& (4611686018427387903 : Int64))), .second, .val (.long (q2 &&& (4611686018427387903 : Int64))), .second, .val (.long ((q1 &&& (4611686018427387903 : Int64)) + (q2 &&& (4611686018427387903 : Int64)))), .second, .val (.long (q0 ^^^ q2)), .second, .val (.long q5), .second, .val (.long ((q5 ^^^ q3) ^^^ q4)), .second, .val (.int (1 : Int32)), .val (.ref b1), .unset, .unset, .unset, .unset, .unset, .unset] [(.long (q2 &&& (4611686018427387903 : Int64)))])) rfl (hb hby at_101) _ ?_
        show Steps p.tables e below (T610.setTop (mkF m 104 #[.val (.long q0), .second, .val (.long q1), .second, .val (.long q2), .second, .val (.long q3), .second, .val (.long q4), .second, .val (.long q5), .second, .val (.long (q1 &&& (4611686018427387903 : Int64))), .second, .val (.long (q2 &&& (4611686018427387903 : Int64))), .second, .val (.long ((q1 &&& (4611686018427387903 : Int64)) + (q2 &&& (4611686018427387903 : Int64)))), .second, .val (.long (q0 ^^^ q2)), .second, .val (.long q5), .second, .val (.long ((q5 ^^^ q3) ^^^ q4)), .second, .val (.int (1 : Int32)), .val (.ref b1), .unset, .unset, .unset, .unset, .unset, .unset] [(.long (32768 : Int64)), (.long (q2 &&& (4611686018427387903 : Int64)))])) _
        refine XS.lcmp X610.here hx rfl (hb hby at_104) rfl ?_
        show Steps p.tables e below (T610.setTop (mkF m 105 #[.val (.long q0), .second, .val (.long q1), .second, .val (.long q2), .second, .val (.long q3), .second, .val (.long q4), .second, .val (.long q5), .second, .val (.long (q1 &&& (4611686018427387903 : Int64))), .second, .val (.long (q2 &&& (4611686018427387903 : Int64))), .second, .val (.long ((q1 &&& (4611686018427387903 : Int64)) + (q2 &&& (4611686018427387903 : Int64)))), .second, .val (.long (q0 ^^^ q2)), .second, .val (.long q5), .second, .val (.long ((q5 ^^^ q3) ^^^ q4)), .second, .val (.int (1 : Int32)), .val (.ref b1), .unset, .unset, .unset, .unset, .unset, .unset] [(.int (lcmpW (q2 &&& (4611686018427387903 : Int64)) (32768 : Int64)))])) _
        refine XS.ifNo X610.here hx rfl (hb hby at_105) rfl ((if0 _ _).trans (flt (mt own_lt.mp hd)).1) ?_
        show Steps p.tables e below (T610.setTop (mkF m 108 #[.val (.long q0), .second, .val (.long q1), .second, .val (.long q2), .second, .val (.long q3), .second, .val (.long q4), .second, .val (.long q5), .second, .val (.long (q1 &&& (4611686018427387903 : Int64))), .second, .val (.long (q2 &&& (4611686018427387903 : Int64))), .second, .val (.long ((q1 &&& (4611686018427387903 : Int64)) + (q2 &&& (4611686018427387903 : Int64)))), .second, .val (.long (q0 ^^^ q2)), .second, .val (.long q5), .second, .val (.long ((q5 ^^^ q3) ^^^ q4)), .second, .val (.int (1 : Int32)), .val (.ref b1), .unset, .unset, .unset, .unset, .unset, .unset] [])) _
        refine XS.iconst X610.here hx rfl (hb hby at_108) ?_
        show Steps p.tables e below (T610.setTop (mkF m 109 #[.val (.long q0), .second, .val (.long q1), .second, .val (.long q2), .second, .val (.long q3), .second, .val (.long q4), .second, .val (.long q5), .second, .val (.long (q1 &&& (4611686018427387903 : Int64))), .second, .val (.long (q2 &&& (4611686018427387903 : Int64))), .second, .val (.long ((q1 &&& (4611686018427387903 : Int64)) + (q2 &&& (4611686018427387903 : Int64)))), .second, .val (.long (q0 ^^^ q2)), .second, .val (.long q5), .second, .val (.long ((q5 ^^^ q3) ^^^ q4)), .second, .val (.int (1 : Int32)), .val (.ref b1), .unset, .unset, .unset, .unset, .unset, .unset] [(.int (1 : Int32))])) _
        refine XS.goto X610.here hx rfl (pc0 := 109) (pc' := 113) rfl (hb hby at_109) (by decide) (by decide) ?_
        show Steps p.tables e below (T610.setTop (mkF m 113 #[.val (.long q0), .second, .val (.long q1), .second, .val (.long q2), .second, .val (.long q3), .second, .val (.long q4), .second, .val (.long q5), .second, .val (.long (q1 &&& (4611686018427387903 : Int64))), .second, .val (.long (q2 &&& (4611686018427387903 : Int64))), .second, .val (.long ((q1 &&& (4611686018427387903 : Int64)) + (q2 &&& (4611686018427387903 : Int64)))), .second, .val (.long (q0 ^^^ q2)), .second, .val (.long q5), .second, .val (.long ((q5 ^^^ q3) ^^^ q4)), .second, .val (.int (1 : Int32)), .val (.ref b1), .unset, .unset, .unset, .unset, .unset, .unset] [(.int (1 : Int32))])) _
        refine XS.istore X610.here hx rfl (hb hby at_113) rfl (l' := #[.val (.long q0), .second, .val (.long q1), .second, .val (.long q2), .second, .val (.long q3), .second, .val (.long q4), .second, .val (.long q5), .second, .val (.long (q1 &&& (4611686018427387903 : Int64))), .second, .val (.long (q2 &&& (4611686018427387903 : Int64))), .second, .val (.long ((q1 &&& (4611686018427387903 : Int64)) + (q2 &&& (4611686018427387903 : Int64)))), .second, .val (.long (q0 ^^^ q2)), .second, .val (.long q5), .second, .val (.long ((q5 ^^^ q3) ^^^ q4)), .second, .val (.int (1 : Int32)), .val (.ref b1), .val (.int (1 : Int32)), .unset, .unset, .unset, .unset, .unset]) rfl ?_
        show Steps p.tables e below (T610.setTop (mkF m 115 #[.val (.long q0), .second, .val (.long q1), .second, .val (.long q2), .second, .val (.long q3), .second, .val (.long q4), .second, .val (.long q5), .second, .val (.long (q1 &&& (4611686018427387903 : Int64))), .second, .val (.long (q2 &&& (4611686018427387903 : Int64))), .second, .val (.long ((q1 &&& (4611686018427387903 : Int64)) + (q2 &&& (4611686018427387903 : Int64)))), .second, .val (.long (q0 ^^^ q2)), .second, .val (.long q5), .second, .val (.long ((q5 ^^^ q3) ^^^ q4)), .second, .val (.int (1 : Int32)), .val (.ref b1), .val (.int (1 : Int32)), .unset, .unset, .unset, .unset, .unset] [])) _
        refine XS.iload X610.here hx rfl (hb hby at_115) rfl ?_
        show Steps p.tables e below (T610.setTop (mkF m 117 #[.val (.long q0), .second, .val (.long q1), .second, .val (.long q2), .second, .val (.long q3), .second, .val (.long q4), .second, .val (.long q5), .second, .val (.long (q1 &&& (4611686018427387903 : Int64))), .second, .val (.long (q2 &&& (4611686018427387903 : Int64))), .second, .val (.long ((q1 &&& (4611686018427387903 : Int64)) + (q2 &&& (4611686018427387903 : Int64)))), .second, .val (.long (q0 ^^^ q2)), .second, .val (.long q5), .second, .val (.long ((q5 ^^^ q3) ^^^ q4)), .second, .val (.int (1 : Int32)), .val (.ref b1), .val (.int (1 : Int32)), .unset, .unset, .unset, .unset, .unset] [(.int (1 : Int32))])) _
        refine XS.ifNo X610.here hx rfl (hb hby at_117) rfl ((if0 _ _).trans (feq (by decide)).1) ?_
        show Steps p.tables e below (T610.setTop (mkF m 120 #[.val (.long q0), .second, .val (.long q1), .second, .val (.long q2), .second, .val (.long q3), .second, .val (.long q4), .second, .val (.long q5), .second, .val (.long (q1 &&& (4611686018427387903 : Int64))), .second, .val (.long (q2 &&& (4611686018427387903 : Int64))), .second, .val (.long ((q1 &&& (4611686018427387903 : Int64)) + (q2 &&& (4611686018427387903 : Int64)))), .second, .val (.long (q0 ^^^ q2)), .second, .val (.long q5), .second, .val (.long ((q5 ^^^ q3) ^^^ q4)), .second, .val (.int (1 : Int32)), .val (.ref b1), .val (.int (1 : Int32)), .unset, .unset, .unset, .unset, .unset] [])) _
        refine XS.iconst X610.here hx rfl (hb hby at_120) ?_
        show Steps p.tables e below (T610.setTop (mkF m 121 #[.val (.long q0), .second, .val (.long q1), .second, .val (.long q2), .second, .val (.long q3), .second, .val (.long q4), .second, .val (.long q5), .second, .val (.long (q1 &&& (4611686018427387903 : Int64))), .second, .val (.long (q2 &&& (4611686018427387903 : Int64))), .second, .val (.long ((q1 &&& (4611686018427387903 : Int64)) + (q2 &&& (4611686018427387903 : Int64)))), .second, .val (.long (q0 ^^^ q2)), .second, .val (.long q5), .second, .val (.long ((q5 ^^^ q3) ^^^ q4)), .second, .val (.int (1 : Int32)), .val (.ref b1), .val (.int (1 : Int32)), .unset, .unset, .unset, .unset, .unset] [(.int (2 : Int32))])) _
        refine XS.goto X610.here hx rfl (pc0 := 121) (pc' := 125) rfl (hb hby at_121) (by decide) (by decide) ?_
        show Steps p.tables e below (T610.setTop (mkF m 125 #[.val (.long q0), .second, .val (.long q1), .second, .val (.long q2), .second, .val (.long q3), .second, .val (.long q4), .second, .val (.long q5), .second, .val (.long (q1 &&& (4611686018427387903 : Int64))), .second, .val (.long (q2 &&& (4611686018427387903 : Int64))), .second, .val (.long ((q1 &&& (4611686018427387903 : Int64)) + (q2 &&& (4611686018427387903 : Int64)))), .second, .val (.long (q0 ^^^ q2)), .second, .val (.long q5), .second, .val (.long ((q5 ^^^ q3) ^^^ q4)), .second, .val (.int (1 : Int32)), .val (.ref b1), .val (.int (1 : Int32)), .unset, .unset, .unset, .unset, .unset] [(.int (2 : Int32))])) _
        refine XS.istore X610.here hx rfl (hb hby at_125) rfl (l' := #[.val (.long q0), .second, .val (.long q1), .second, .val (.long q2), .second, .val (.long q3), .second, .val (.long q4), .second, .val (.long q5), .second, .val (.long (q1 &&& (4611686018427387903 : Int64))), .second, .val (.long (q2 &&& (4611686018427387903 : Int64))), .second, .val (.long ((q1 &&& (4611686018427387903 : Int64)) + (q2 &&& (4611686018427387903 : Int64)))), .second, .val (.long (q0 ^^^ q2)), .second, .val (.long q5), .second, .val (.long ((q5 ^^^ q3) ^^^ q4)), .second, .val (.int (1 : Int32)), .val (.ref b1), .val (.int (1 : Int32)), .val (.int (2 : Int32)), .unset, .unset, .unset, .unset]) rfl ?_
        show Steps p.tables e below (T610.setTop (mkF m 127 #[.val (.long q0), .second, .val (.long q1), .second, .val (.long q2), .second, .val (.long q3), .second, .val (.long q4), .second, .val (.long q5), .second, .val (.long (q1 &&& (4611686018427387903 : Int64))), .second, .val (.long (q2 &&& (4611686018427387903 : Int64))), .second, .val (.long ((q1 &&& (4611686018427387903 : Int64)) + (q2 &&& (4611686018427387903 : Int64)))), .second, .val (.long (q0 ^^^ q2)), .second, .val (.long q5), .second, .val (.long ((q5 ^^^ q3) ^^^ q4)), .second, .val (.int (1 : Int32)), .val (.ref b1), .val (.int (1 : Int32)), .val (.int (2 : Int32)), .unset, .unset, .unset, .unset] [])) _
        refine XS.iload X610.here hx rfl (hb hby at_127) rfl ?_
        show Steps p.tables e below (T610.setTop (mkF m 129 #[.val (.long q0), .second, .val (.long q1), .second, .val (.long q2), .second, .val (.long q3), .second, .val (.long q4), .second, .val (.long q5), .second, .val (.long (q1 &&& (4611686018427387903 : Int64))), .second, .val (.long (q2 &&& (4611686018427387903 : Int64))), .second, .val (.long ((q1 &&& (4611686018427387903 : Int64)) + (q2 &&& (4611686018427387903 : Int64)))), .second, .val (.long (q0 ^^^ q2)), .second, .val (.long q5), .second, .val (.long ((q5 ^^^ q3) ^^^ q4)), .second, .val (.int (1 : Int32)), .val (.ref b1), .val (.int (1 : Int32)), .val (.int (2 : Int32)), .unset, .unset, .unset, .unset] [(.int (1 : Int32))])) _
        refine XS.ifNo X610.here hx rfl (hb hby at_129) rfl ((if0 _ _).trans (feq (by decide)).1) ?_
        show Steps p.tables e below (T610.setTop (mkF m 132 #[.val (.long q0), .second, .val (.long q1), .second, .val (.long q2), .second, .val (.long q3), .second, .val (.long q4), .second, .val (.long q5), .second, .val (.long (q1 &&& (4611686018427387903 : Int64))), .second, .val (.long (q2 &&& (4611686018427387903 : Int64))), .second, .val (.long ((q1 &&& (4611686018427387903 : Int64)) + (q2 &&& (4611686018427387903 : Int64)))), .second, .val (.long (q0 ^^^ q2)), .second, .val (.long q5), .second, .val (.long ((q5 ^^^ q3) ^^^ q4)), .second, .val (.int (1 : Int32)), .val (.ref b1), .val (.int (1 : Int32)), .val (.int (2 : Int32)), .unset, .unset, .unset, .unset] [])) _
        refine XS.lload X610.here hx rfl (hb hby at_132) rfl ?_
        show Steps p.tables e below (T610.setTop (mkF m 134 #[.val (.long q0), .second, .val (.long q1), .second, .val (.long q2), .second, .val (.long q3), .second, .val (.long q4), .second, .val (.long q5), .second, .val (.long (q1 &&& (4611686018427387903 : Int64))), .second, .val (.long (q2 &&& (4611686018427387903 : Int64))), .second, .val (.long ((q1 &&& (4611686018427387903 : Int64)) + (q2 &&& (4611686018427387903 : Int64)))), .second, .val (.long (q0 ^^^ q2)), .second, .val (.long q5), .second, .val (.long ((q5 ^^^ q3) ^^^ q4)), .second, .val (.int (1 : Int32)), .val (.ref b1), .val (.int (1 : Int32)), .val (.int (2 : Int32)), .unset, .unset, .unset, .unset] [(.long q3)])) _
        refine XS.goto X610.here hx rfl (pc0 := 134) (pc' := 144) rfl (hb hby at_134) (by decide) (by decide) ?_
        show Steps p.tables e below (T610.setTop (mkF m 144 #[.val (.long q0), .second, .val (.long q1), .second, .val (.long q2), .second, .val (.long q3), .second, .val (.long q4), .second, .val (.long q5), .second, .val (.long (q1 &&& (4611686018427387903 : Int64))), .second, .val (.long (q2 &&& (4611686018427387903 : Int64))), .second, .val (.long ((q1 &&& (4611686018427387903 : Int64)) + (q2 &&& (4611686018427387903 : Int64)))), .second, .val (.long (q0 ^^^ q2)), .second, .val (.long q5), .second, .val (.long ((q5 ^^^ q3) ^^^ q4)), .second, .val (.int (1 : Int32)), .val (.ref b1), .val (.int (1 : Int32)), .val (.int (2 : Int32)), .unset, .unset, .unset, .unset] [(.long q3)])) _
        refine XS.lstore X610.here hx rfl (hb hby at_144) rfl (l' := #[.val (.long q0), .second, .val (.long q1), .second, .val (.long q2), .second, .val (.long q3), .second, .val (.long q4), .second, .val (.long q5), .second, .val (.long (q1 &&& (4611686018427387903 : Int64))), .second, .val (.long (q2 &&& (4611686018427387903 : Int64))), .second, .val (.long ((q1 &&& (4611686018427387903 : Int64)) + (q2 &&& (4611686018427387903 : Int64)))), .second, .val (.long (q0 ^^^ q2)), .second, .val (.long q5), .second, .val (.long ((q5 ^^^ q3) ^^^ q4)), .second, .val (.int (1 : Int32)), .val (.ref b1), .val (.int (1 : Int32)), .val (.int (2 : Int32)), .val (.long q3), .second, .unset, .unset]) rfl ?_
        show Steps p.tables e below (T610.setTop (mkF m 146 #[.val (.long q0), .second, .val (.long q1), .second, .val (.long q2), .second, .val (.long q3), .second, .val (.long q4), .second, .val (.long q5), .second, .val (.long (q1 &&& (4611686018427387903 : Int64))), .second, .val (.long (q2 &&& (4611686018427387903 : Int64))), .second, .val (.long ((q1 &&& (4611686018427387903 : Int64)) + (q2 &&& (4611686018427387903 : Int64)))), .second, .val (.long (q0 ^^^ q2)), .second, .val (.long q5), .second, .val (.long ((q5 ^^^ q3) ^^^ q4)), .second, .val (.int (1 : Int32)), .val (.ref b1), .val (.int (1 : Int32)), .val (.int (2 : Int32)), .val (.long q3), .second, .unset, .unset] [])) _
        refine XS.iload X610.here hx rfl (hb hby at_146) rfl ?_
        show Steps p.tables e below (T610.setTop (mkF m 148 #[.val (.long q0), .second, .val (.long q1), .second, .val (.long q2), .second, .val (.long q3), .second, .val (.long q4), .second, .val (.long q5), .second, .val (.long (q1 &&& (4611686018427387903 : Int64))), .second, .val (.long (q2 &&& (4611686018427387903 : Int64))), .second, .val (.long ((q1 &&& (4611686018427387903 : Int64)) + (q2 &&& (4611686018427387903 : Int64)))), .second, .val (.long (q0 ^^^ q2)), .second, .val (.long q5), .second, .val (.long ((q5 ^^^ q3) ^^^ q4)), .second, .val (.int (1 : Int32)), .val (.ref b1), .val (.int (1 : Int32)), .val (.int (2 : Int32)), .val (.long q3), .second, .unset, .unset] [(.int (1 : Int32))])) _
        refine XS.ifNo X610.here hx rfl (hb hby at_148) rfl ((if0 _ _).trans (feq (by decide)).1) ?_
        show Steps p.tables e below (T610.setTop (mkF m 151 #[.val (.long q0), .second, .val (.long q1), .second, .val (.long q2), .second, .val (.long q3), .second, .val (.long q4), .second, .val (.long q5), .second, .val (.long (q1 &&& (4611686018427387903 : Int64))), .second, .val (.long (q2 &&& (4611686018427387903 : Int64))), .second, .val (.long ((q1 &&& (4611686018427387903 : Int64)) + (q2 &&& (4611686018427387903 : Int64)))), .second, .val (.long (q0 ^^^ q2)), .second, .val (.long q5), .second, .val (.long ((q5 ^^^ q3) ^^^ q4)), .second, .val (.int (1 : Int32)), .val (.ref b1), .val (.int (1 : Int32)), .val (.int (2 : Int32)), .val (.long q3), .second, .unset, .unset] [])) _
        refine XS.lload X610.here hx rfl (hb hby at_151) rfl ?_
        show Steps p.tables e below (T610.setTop (mkF m 153 #[.val (.long q0), .second, .val (.long q1), .second, .val (.long q2), .second, .val (.long q3), .second, .val (.long q4), .second, .val (.long q5), .second, .val (.long (q1 &&& (4611686018427387903 : Int64))), .second, .val (.long (q2 &&& (4611686018427387903 : Int64))), .second, .val (.long ((q1 &&& (4611686018427387903 : Int64)) + (q2 &&& (4611686018427387903 : Int64)))), .second, .val (.long (q0 ^^^ q2)), .second, .val (.long q5), .second, .val (.long ((q5 ^^^ q3) ^^^ q4)), .second, .val (.int (1 : Int32)), .val (.ref b1), .val (.int (1 : Int32)), .val (.int (2 : Int32)), .val (.long q3), .second, .unset, .unset] [(.long q4)])) _
        refine XS.goto X610.here hx rfl (pc0 := 153) (pc' := 163) rfl (hb hby at_153) (by decide) (by decide) ?_
        show Steps p.tables e below (T610.setTop (mkF m 163 #[.val (.long q0), .second, .val (.long q1), .second, .val (.long q2), .second, .val (.long q3), .second, .val (.long q4), .second, .val (.long q5), .second, .val (.long (q1 &&& (4611686018427387903 : Int64))), .second, .val (.long (q2 &&& (4611686018427387903 : Int64))), .second, .val (.long ((q1 &&& (4611686018427387903 : Int64)) + (q2 &&& (4611686018427387903 : Int64)))), .second, .val (.long (q0 ^^^ q2)), .second, .val (.long q5), .second, .val (.long ((q5 ^^^ q3) ^^^ q4)), .second, .val (.int (1 : Int32)), .val (.ref b1), .val (.int (1 : Int32)), .val (.int (2 : Int32)), .val (.long q3), .second, .unset, .unset] [(.long q4)])) _
        refine XS.lstore X610.here hx rfl (hb hby at_163) rfl (l' := #[.val (.long q0), .second, .val (.long q1), .second, .val (.long q2), .second, .val (.long q3), .second, .val (.long q4), .second, .val (.long q5), .second, .val (.long (q1 &&& (4611686018427387903 : Int64))), .second, .val (.long (q2 &&& (4611686018427387903 : Int64))), .second, .val (.long ((q1 &&& (4611686018427387903 : Int64)) + (q2 &&& (4611686018427387903 : Int64)))), .second, .val (.long (q0 ^^^ q2)), .second, .val (.long q5), .second, .val (.long ((q5 ^^^ q3) ^^^ q4)), .second, .val (.int (1 : Int32)), .val (.ref b1), .val (.int (1 : Int32)), .val (.int (2 : Int32)), .val (.long q3), .second, .val (.long q4), .second]) rfl ?_
        show Steps p.tables e below (T610.setTop (mkF m 165 #[.val (.long q0), .second, .val (.long q1), .second, .val (.long q2), .second, .val (.long q3), .second, .val (.long q4), .second, .val (.long q5), .second, .val (.long (q1 &&& (4611686018427387903 : Int64))), .second, .val (.long (q2 &&& (4611686018427387903 : Int64))), .second, .val (.long ((q1 &&& (4611686018427387903 : Int64)) + (q2 &&& (4611686018427387903 : Int64)))), .second, .val (.long (q0 ^^^ q2)), .second, .val (.long q5), .second, .val (.long ((q5 ^^^ q3) ^^^ q4)), .second, .val (.int (1 : Int32)), .val (.ref b1), .val (.int (1 : Int32)), .val (.int (2 : Int32)), .val (.long q3), .second, .val (.long q4), .second] [])) _
        refine XS.aload X610.here hx rfl (hb hby at_165) rfl rfl ?_
        show Steps p.tables e below (T610.setTop (mkF m 167 #[.val (.long q0), .second, .val (.long q1), .second, .val (.long q2), .second, .val (.long q3), .second, .val (.long q4), .second, .val (.long q5), .second, .val (.long (q1 &&& (4611686018427387903 : Int64))), .second, .val (.long (q2 &&& (4611686018427387903 : Int64))), .second, .val (.long ((q1 &&& (4611686018427387903 : Int64)) + (q2 &&& (4611686018427387903 : Int64)))), .second, .val (.long (q0 ^^^ q2)), .second, .val (.long q5), .second, .val (.long ((q5 ^^^ q3) ^^^ q4)), .second, .val (.int (1 : Int32)), .val (.ref b1), .val (.int (1 : Int32)), .val (.int (2 : Int32)), .val (.long q3), .second, .val (.long q4), .second] [(.ref b1)])) _
        refine st613.trans ?_
        show Steps p.tables e below (T613.setTop (mkF m 170 #[.val (.long q0), .second, .val (.long q1), .second, .val (.long q2), .second, .val (.long q3), .second, .val (.long q4), .second, .val (.long q5), .second, .val (.long (q1 &&& (4611686018427387903 : Int64))), .second, .val (.long (q2 &&& (4611686018427387903 : Int64))), .second, .val (.long ((q1 &&& (4611686018427387903 : Int64)) + (q2 &&& (4611686018427387903 : Int64)))), .second, .val (.long (q0 ^^^ q2)), .second, .val (.long q5), .second, .val (.long ((q5 ^^^ q3) ^^^ q4)), .second, .val (.int (1 : Int32)), .val (.ref b1), .val (.int (1 : Int32)), .val (.int (2 : Int32)), .val (.long q3), .second, .val (.long q4), .second] [(.int (2 : Int32))])) _
        refine XS.iload X613.here hx rfl (hb hby at_170) rfl ?_
        show Steps p.tables e below (T613.setTop (mkF m 172 #[.val (.long q0), .second, .val (.long q1), .second, .val (.long q2), .second, .val (.long q3), .second, .val (.long q4), .second, .val (.long q5), .second, .val (.long (q1 &&& (4611686018427387903 : Int64))), .second, .val (.long (q2 &&& (4611686018427387903 : Int64))), .second, .val (.long ((q1 &&& (4611686018427387903 : Int64)) + (q2 &&& (4611686018427387903 : Int64)))), .second, .val (.long (q0 ^^^ q2)), .second, .val (.long q5), .second, .val (.long ((q5 ^^^ q3) ^^^ q4)), .second, .val (.int (1 : Int32)), .val (.ref b1), .val (.int (1 : Int32)), .val (.int (2 : Int32)), .val (.long q3), .second, .val (.long q4), .second] [(.int (2 : Int32)), (.int (2 : Int32))])) _
        refine XS.icmpYes X613.here hx rfl (pc0 := 172) (pc' := 177) rfl (hb hby at_172) rfl (teq rfl).1 (by decide) (by decide) ?_
        show Steps p.tables e below (T613.setTop (mkF m 177 #[.val (.long q0), .second, .val (.long q1), .second, .val (.long q2), .second, .val (.long q3), .second, .val (.long q4), .second, .val (.long q5), .second, .val (.long (q1 &&& (4611686018427387903 : Int64))), .second, .val (.long (q2 &&& (4611686018427387903 : Int64))), .second, .val (.long ((q1 &&& (4611686018427387903 : Int64)) + (q2 &&& (4611686018427387903 : Int64)))), .second, .val (.long (q0 ^^^ q2)), .second, .val (.long q5), .second, .val (.long ((q5 ^^^ q3) ^^^ q4)), .second, .val (.int (1 : Int32)), .val (.ref b1), .val (.int (1 : Int32)), .val (.int (2 : Int32)), .val (.long q3), .second, .val (.long q4), .second] [])) _
        refine XS.aload X613.here hx rfl (hb hby at_177) rfl rfl ?_
        show Steps p.tables e below (T613.setTop (mkF m 179 #[.val (.long q0), .second, .val (.long q1), .second, .val (.long q2), .second, .val (.long q3), .second, .val (.long q4), .second, .val (.long q5), .second, .val (.long (q1 &&& (4611686018427387903 : Int64))), .second, .val (.long (q2 &&& (4611686018427387903 : Int64))), .second, .val (.long ((q1 &&& (4611686018427387903 : Int64)) + (q2 &&& (4611686018427387903 : Int64)))), .second, .val (.long (q0 ^^^ q2)), .second, .val (.long q5), .second, .val (.long ((q5 ^^^ q3) ^^^ q4)), .second, .val (.int (1 : Int32)), .val (.ref b1), .val (.int (1 : Int32)), .val (.int (2 : Int32)), .val (.long q3), .second, .val (.long q4), .second] [(.ref b1)])) _
        refine XS.iconst X613.here hx rfl (hb hby at_179) ?_
        show Steps p.tables e below (T613.setTop (mkF m 180 #[.val (.long q0), .second, .val (.long q1), .second, .val (.long q2), .second, .val (.long q3), .second, .val (.long q4), .second, .val (.long q5), .second, .val (.long (q1 &&& (4611686018427387903 : Int64))), .second, .val (.long (q2 &&& (4611686018427387903 : Int64))), .second, .val (.long ((q1 &&& (4611686018427387903 : Int64)) + (q2 &&& (4611686018427387903 : Int64)))), .second, .val (.long (q0 ^^^ q2)), .second, .val (.long q5), .second, .val (.long ((q5 ^^^ q3) ^^^ q4)), .second, .val (.int (1 : Int32)), .val (.ref b1), .val (.int (1 : Int32)), .val (.int (2 : Int32)), .val (.long q3), .second, .val (.long q4), .second] [(.int (0 : Int32)), (.ref b1)])) _
        refine st614.trans ?_
        show Steps p.tables e below (T614.setTop (mkF m 183 #[.val (.long q0), .second, .val (.long q1), .second, .val (.long q2), .second, .val (.long q3), .second, .val (.long q4), .second, .val (.long q5), .second, .val (.long (q1 &&& (4611686018427387903 : Int64))), .second, .val (.long (q2 &&& (4611686018427387903 : Int64))), .second, .val (.long ((q1 &&& (4611686018427387903 : Int64)) + (q2 &&& (4611686018427387903 : Int64)))), .second, .val (.long (q0 ^^^ q2)), .second, .val (.long q5), .second, .val (.long ((q5 ^^^ q3) ^^^ q4)), .second, .val (.int (1 : Int32)), .val (.ref b1), .val (.int (1 : Int32)), .val (.int (2 : Int32)), .val (.long q3), .second, .val (.long q4), .second] [(.long q0)])) _
        refine XS.lloadN X614.here hx rfl (hb hby at_183) rfl ?_
        show Steps p.tables e below (T614.setTop (mkF m 184 #[.val (.long q0), .second, .val (.long q1), .second, .val (.long q2), .second, .val (.long q3), .second, .val (.long q4), .second, .val (.long q5), .second, .val (.long (q1 &&& (4611686018427387903 : Int64))), .second, .val (.long (q2 &&& (4611686018427387903 : Int64))), .second, .val (.long ((q1 &&& (4611686018427387903 : Int64)) + (q2 &&& (4611686018427387903 : Int64)))), .second, .val (.long (q0 ^^^ q2)), .second, .val (.long q5), .second, .val (.long ((q5 ^^^ q3) ^^^ q4)), .second, .val (.int (1 : Int32)), .val (.ref b1), .val (.int (1 : Int32)), .val (.int (2 : Int32)), .val (.long q3), .second, .val (.long q4), .second] [(.long q0), (.long q0)])) _
        refine XS.lcmp X614.here hx rfl (hb hby at_184) rfl ?_
        show Steps p.tables e below (T614.setTop (mkF m 185 #[.val (.long q0), .second, .val (.long q1), .second, .val (.long q2), .second, .val (.long q3), .second, .val (.long q4), .second, .val (.long q5), .second, .val (.long (q1 &&& (4611686018427387903 : Int64))), .second, .val (.long (q2 &&& (4611686018427387903 : Int64))), .second, .val (.long ((q1 &&& (4611686018427387903 : Int64)) + (q2 &&& (4611686018427387903 : Int64)))), .second, .val (.long (q0 ^^^ q2)), .second, .val (.long q5), .second, .val (.long ((q5 ^^^ q3) ^^^ q4)), .second, .val (.int (1 : Int32)), .val (.ref b1), .val (.int (1 : Int32)), .val (.int (2 : Int32)), .val (.long q3), .second, .val (.long q4), .second] [(.int (lcmpW q0 q0))])) _
        refine XS.ifNo X614.here hx rfl (hb hby at_185) rfl ((if0 _ _).trans (teq (own_eq0.mpr rfl)).2) ?_
        show Steps p.tables e below (T614.setTop (mkF m 188 #[.val (.long q0), .second, .val (.long q1), .second, .val (.long q2), .second, .val (.long q3), .second, .val (.long q4), .second, .val (.long q5), .second, .val (.long (q1 &&& (4611686018427387903 : Int64))), .second, .val (.long (q2 &&& (4611686018427387903 : Int64))), .second, .val (.long ((q1 &&& (4611686018427387903 : Int64)) + (q2 &&& (4611686018427387903 : Int64)))), .second, .val (.long (q0 ^^^ q2)), .second, .val (.long q5), .second, .val (.long ((q5 ^^^ q3) ^^^ q4)), .second, .val (.int (1 : Int32)), .val (.ref b1), .val (.int (1 : Int32)), .val (.int (2 : Int32)), .val (.long q3), .second, .val (.long q4), .second] [])) _
        refine XS.aload X614.here hx rfl (hb hby at_188) rfl rfl ?_
        show Steps p.tables e below (T614.setTop (mkF m 190 #[.val (.long q0), .second, .val (.long q1), .second, .val (.long q2), .second, .val (.long q3), .second, .val (.long q4), .second, .val (.long q5), .second, .val (.long (q1 &&& (4611686018427387903 : Int64))), .second, .val (.long (q2 &&& (4611686018427387903 : Int64))), .second, .val (.long ((q1 &&& (4611686018427387903 : Int64)) + (q2 &&& (4611686018427387903 : Int64)))), .second, .val (.long (q0 ^^^ q2)), .second, .val (.long q5), .second, .val (.long ((q5 ^^^ q3) ^^^ q4)), .second, .val (.int (1 : Int32)), .val (.ref b1), .val (.int (1 : Int32)), .val (.int (2 : Int32)), .val (.long q3), .second, .val (.long q4), .second] [(.ref b1)])) _
        refine XS.iconst X614.here hx rfl (hb hby at_190) ?_
        show Steps p.tables e below (T614.setTop (mkF m 191 #[.val (.long q0), .second, .val (.long q1), .second, .val (.long q2), .second, .val (.long q3), .second, .val (.long q4), .second, .val (.long q5), .second, .val (.long (q1 &&& (4611686018427387903 : Int64))), .second, .val (.long (q2 &&& (4611686018427387903 : Int64))), .second, .val (.long ((q1 &&& (4611686018427387903 : Int64)) + (q2 &&& (4611686018427387903 : Int64)))), .second, .val (.long (q0 ^^^ q2)), .second, .val (.long q5), .second, .val (.long ((q5 ^^^ q3) ^^^ q4)), .second, .val (.int (1 : Int32)), .val (.ref b1), .val (.int (1 : Int32)), .val (.int (2 : Int32)), .val (.long q3), .second, .val (.long q4), .second] [(.int (0 : Int32)), (.ref b1)])) _
        refine st615.trans ?_
        show Steps p.tables e below (T615.setTop (mkF m 194 #[.val (.long q0), .second, .val (.long q1), .second, .val (.long q2), .second, .val (.long q3), .second, .val (.long q4), .second, .val (.long q5), .second, .val (.long (q1 &&& (4611686018427387903 : Int64))), .second, .val (.long (q2 &&& (4611686018427387903 : Int64))), .second, .val (.long ((q1 &&& (4611686018427387903 : Int64)) + (q2 &&& (4611686018427387903 : Int64)))), .second, .val (.long (q0 ^^^ q2)), .second, .val (.long q5), .second, .val (.long ((q5 ^^^ q3) ^^^ q4)), .second, .val (.int (1 : Int32)), .val (.ref b1), .val (.int (1 : Int32)), .val (.int (2 : Int32)), .val (.long q3), .second, .val (.long q4), .second] [(.long (q1 &&& (4611686018427387903 : Int64)))])) _
        refine XS.lload X615.here hx rfl (hb hby at_194) rfl ?_
        show Steps p.tables e below (T615.setTop (mkF m 196 #[.val (.long q0), .second, .val (.long q1), .second, .val (.long q2), .second, .val (.long q3), .second, .val (.long q4), .second, .val (.long q5), .second, .val (.long (q1 &&& (4611686018427387903 : Int64))), .second, .val (.long (q2 &&& (4611686018427387903 : Int64))), .second, .val (.long ((q1 &&& (4611686018427387903 : Int64)) + (q2 &&& (4611686018427387903 : Int64)))), .second, .val (.long (q0 ^^^ q2)), .second, .val (.long q5), .second, .val (.long ((q5 ^^^ q3) ^^^ q4)), .second, .val (.int (1 : Int32)), .val (.ref b1), .val (.int (1 : Int32)), .val (.int (2 : Int32)), .val (.long q3), .second, .val (.long q4), .second] [(.long (q1 &&& (4611686018427387903 : Int64))), (.long (q1 &&& (4611686018427387903 : Int64)))])) _
        refine XS.lcmp X615.here hx rfl (hb hby at_196) rfl ?_
        show Steps p.tables e below (T615.setTop (mkF m 197 #[.val (.long q0), .second, .val (.long q1), .second, .val (.long q2), .second, .val (.long q3), .second, .val (.long q4), .second, .val (.long q5), .second, .val (.long (q1 &&& (4611686018427387903 : Int64))), .second, .val (.long (q2 &&& (4611686018427387903 : Int64))), .second, .val (.long ((q1 &&& (4611686018427387903 : Int64)) + (q2 &&& (4611686018427387903 : Int64)))), .second, .val (.long (q0 ^^^ q2)), .second, .val (.long q5), .second, .val (.long ((q5 ^^^ q3) ^^^ q4)), .second, .val (.int (1 : Int32)), .val (.ref b1), .val (.int (1 : Int32)), .val (.int (2 : Int32)), .val (.long q3), .second, .val (.long q4), .second] [(.int (lcmpW (q1 &&& (4611686018427387903 : Int64)) (q1 &&& (4611686018427387903 : Int64))))])) _
        refine XS.ifYes X615.here hx rfl (pc0 := 197) (pc' := 202) rfl (hb hby at_197) rfl ((if0 _ _).trans (teq (own_eq0.mpr rfl)).1) (by decide) (by decide) ?_
        show Steps p.tables e below (T615.setTop (mkF m 202 #[.val (.long q0), .second, .val (.long q1), .second, .val (.long q2), .second, .val (.long q3), .second, .val (.long q4), .second, .val (.long q5), .second, .val (.long (q1 &&& (4611686018427387903 : Int64))), .second, .val (.long (q2 &&& (4611686018427387903 : Int64))), .second, .val (.long ((q1 &&& (4611686018427387903 : Int64)) + (q2 &&& (4611686018427387903 : Int64)))), .second, .val (.long (q0 ^^^ q2)), .second, .val (.long q5), .second, .val (.long ((q5 ^^^ q3) ^^^ q4)), .second, .val (.int (1 : Int32)), .val (.ref b1), .val (.int (1 : Int32)), .val (.int (2 : Int32)), .val (.long q3), .second, .val (.long q4), .second] [])) _
        refine XS.aload X615.here hx rfl (hb hby at_202) rfl rfl ?_
        show Steps p.tables e below (T615.setTop (mkF m 204 #[.val (.long q0), .second, .val (.long q1), .second, .val (.long q2), .second, .val (.long q3), .second, .val (.long q4), .second, .val (.long q5), .second, .val (.long (q1 &&& (4611686018427387903 : Int64))), .second, .val (.long (q2 &&& (4611686018427387903 : Int64))), .second, .val (.long ((q1 &&& (4611686018427387903 : Int64)) + (q2 &&& (4611686018427387903 : Int64)))), .second, .val (.long (q0 ^^^ q2)), .second, .val (.long q5), .second, .val (.long ((q5 ^^^ q3) ^^^ q4)), .second, .val (.int (1 : Int32)), .val (.ref b1), .val (.int (1 : Int32)), .val (.int (2 : Int32)), .val (.long q3), .second, .val (.long q4), .second] [(.ref b1)])) _
        refine XS.iconst X615.here hx rfl (hb hby at_204) ?_
        show Steps p.tables e below (T615.setTop (mkF m 205 #[.val (.long q0), .second, .val (.long q1), .second, .val (.long q2), .second, .val (.long q3), .second, .val (.long q4), .second, .val (.long q5), .second, .val (.long (q1 &&& (4611686018427387903 : Int64))), .second, .val (.long (q2 &&& (4611686018427387903 : Int64))), .second, .val (.long ((q1 &&& (4611686018427387903 : Int64)) + (q2 &&& (4611686018427387903 : Int64)))), .second, .val (.long (q0 ^^^ q2)), .second, .val (.long q5), .second, .val (.long ((q5 ^^^ q3) ^^^ q4)), .second, .val (.int (1 : Int32)), .val (.ref b1), .val (.int (1 : Int32)), .val (.int (2 : Int32)), .val (.long q3), .second, .val (.long q4), .second] [(.int (0 : Int32)), (.ref b1)])) _
        refine st616.trans ?_
        show Steps p.tables e below (T616.setTop (mkF m 208 #[.val (.long q0), .second, .val (.long q1), .second, .val (.long q2), .second, .val (.long q3), .second, .val (.long q4), .second, .val (.long q5), .second, .val (.long (q1 &&& (4611686018427387903 : Int64))), .second, .val (.long (q2 &&& (4611686018427387903 : Int64))), .second, .val (.long ((q1 &&& (4611686018427387903 : Int64)) + (q2 &&& (4611686018427387903 : Int64)))), .second, .val (.long (q0 ^^^ q2)), .second, .val (.long q5), .second, .val (.long ((q5 ^^^ q3) ^^^ q4)), .second, .val (.int (1 : Int32)), .val (.ref b1), .val (.int (1 : Int32)), .val (.int (2 : Int32)), .val (.long q3), .second, .val (.long q4), .second] [(.long q3)])) _
        refine XS.lload X616.here hx rfl (hb hby at_208) rfl ?_
        show Steps p.tables e below (T616.setTop (mkF m 210 #[.val (.long q0), .second, .val (.long q1), .second, .val (.long q2), .second, .val (.long q3), .second, .val (.long q4), .second, .val (.long q5), .second, .val (.long (q1 &&& (4611686018427387903 : Int64))), .second, .val (.long (q2 &&& (4611686018427387903 : Int64))), .second, .val (.long ((q1 &&& (4611686018427387903 : Int64)) + (q2 &&& (4611686018427387903 : Int64)))), .second, .val (.long (q0 ^^^ q2)), .second, .val (.long q5), .second, .val (.long ((q5 ^^^ q3) ^^^ q4)), .second, .val (.int (1 : Int32)), .val (.ref b1), .val (.int (1 : Int32)), .val (.int (2 : Int32)), .val (.long q3), .second, .val (.long q4), .second] [(.long q3), (.long q3)])) _
        refine XS.lcmp X616.here hx rfl (hb hby at_210) rfl ?_
        show Steps p.tables e below (T616.setTop (mkF m 211 #[.val (.long q0), .second, .val (.long q1), .second, .val (.long q2), .second, .val (.long q3), .second, .val (.long q4), .second, .val (.long q5), .second, .val (.long (q1 &&& (4611686018427387903 : Int64))), .second, .val (.long (q2 &&& (4611686018427387903 : Int64))), .second, .val (.long ((q1 &&& (4611686018427387903 : Int64)) + (q2 &&& (4611686018427387903 : Int64)))), .second, .val (.long (q0 ^^^ q2)), .second, .val (.long q5), .second, .val (.long ((q5 ^^^ q3) ^^^ q4)), .second, .val (.int (1 : Int32)), .val (.ref b1), .val (.int (1 : Int32)), .val (.int (2 : Int32)), .val (.long q3), .second, .val (.long q4), .second] [(.int (lcmpW q3 q3))])) _
        refine XS.ifNo X616.here hx rfl (hb hby at_211) rfl ((if0 _ _).trans (teq (own_eq0.mpr rfl)).2) ?_
        show Steps p.tables e below (T616.setTop (mkF m 214 #[.val (.long q0), .second, .val (.long q1), .second, .val (.long q2), .second, .val (.long q3), .second, .val (.long q4), .second, .val (.long q5), .second, .val (.long (q1 &&& (4611686018427387903 : Int64))), .second, .val (.long (q2 &&& (4611686018427387903 : Int64))), .second, .val (.long ((q1 &&& (4611686018427387903 : Int64)) + (q2 &&& (4611686018427387903 : Int64)))), .second, .val (.long (q0 ^^^ q2)), .second, .val (.long q5), .second, .val (.long ((q5 ^^^ q3) ^^^ q4)), .second, .val (.int (1 : Int32)), .val (.ref b1), .val (.int (1 : Int32)), .val (.int (2 : Int32)), .val (.long q3), .second, .val (.long q4), .second] [])) _
        refine XS.aload X616.here hx rfl (hb hby at_214) rfl rfl ?_
        show Steps p.tables e below (T616.setTop (mkF m 216 #[.val (.long q0), .second, .val (.long q1), .second, .val (.long q2), .second, .val (.long q3), .second, .val (.long q4), .second, .val (.long q5), .second, .val (.long (q1 &&& (4611686018427387903 : Int64))), .second, .val (.long (q2 &&& (4611686018427387903 : Int64))), .second, .val (.long ((q1 &&& (4611686018427387903 : Int64)) + (q2 &&& (4611686018427387903 : Int64)))), .second, .val (.long (q0 ^^^ q2)), .second, .val (.long q5), .second, .val (.long ((q5 ^^^ q3) ^^^ q4)), .second, .val (.int (1 : Int32)), .val (.ref b1), .val (.int (1 : Int32)), .val (.int (2 : Int32)), .val (.long q3), .second, .val (.long q4), .second] [(.ref b1)])) _
        refine XS.iconst X616.here hx rfl (hb hby at_216) ?_
        show Steps p.tables e below (T616.setTop (mkF m 217 #[.val (.long q0), .second, .val (.long q1), .second, .val (.long q2), .second, .val (.long q3), .second, .val (.long q4), .second, .val (.long q5), .second, .val (.long (q1 &&& (4611686018427387903 : Int64))), .second, .val (.long (q2 &&& (4611686018427387903 : Int64))), .second, .val (.long ((q1 &&& (4611686018427387903 : Int64)) + (q2 &&& (4611686018427387903 : Int64)))), .second, .val (.long (q0 ^^^ q2)), .second, .val (.long q5), .second, .val (.long ((q5 ^^^ q3) ^^^ q4)), .second, .val (.int (1 : Int32)), .val (.ref b1), .val (.int (1 : Int32)), .val (.int (2 : Int32)), .val (.long q3), .second, .val (.long q4), .second] [(.int (0 : Int32)), (.ref b1)])) _
        refine st617.trans ?_
        show Steps p.tables e below (T617.setTop (mkF m 220 #[.val (.long q0), .second, .val (.long q1), .second, .val (.long q2), .second, .val (.long q3), .second, .val (.long q4), .second, .val (.long q5), .second, .val (.long (q1 &&& (4611686018427387903 : Int64))), .second, .val (.long (q2 &&& (4611686018427387903 : Int64))), .second, .val (.long ((q1 &&& (4611686018427387903 : Int64)) + (q2 &&& (4611686018427387903 : Int64)))), .second, .val (.long (q0 ^^^ q2)), .second, .val (.long q5), .second, .val (.long ((q5 ^^^ q3) ^^^ q4)), .second, .val (.int (1 : Int32)), .val (.ref b1), .val (.int (1 : Int32)), .val (.int (2 : Int32)), .val (.long q3), .second, .val (.long q4), .second] [(.long q4)])) _
        refine XS.lload X617.here hx rfl (hb hby at_220) rfl ?_
        show Steps p.tables e below (T617.setTop (mkF m 222 #[.val (.long q0), .second, .val (.long q1), .second, .val (.long q2), .second, .val (.long q3), .second, .val (.long q4), .second, .val (.long q5), .second, .val (.long (q1 &&& (4611686018427387903 : Int64))), .second, .val (.long (q2 &&& (4611686018427387903 : Int64))), .second, .val (.long ((q1 &&& (4611686018427387903 : Int64)) + (q2 &&& (4611686018427387903 : Int64)))), .second, .val (.long (q0 ^^^ q2)), .second, .val (.long q5), .second, .val (.long ((q5 ^^^ q3) ^^^ q4)), .second, .val (.int (1 : Int32)), .val (.ref b1), .val (.int (1 : Int32)), .val (.int (2 : Int32)), .val (.long q3), .second, .val (.long q4), .second] [(.long q4), (.long q4)])) _
        refine XS.lcmp X617.here hx rfl (hb hby at_222) rfl ?_
        show Steps p.tables e below (T617.setTop (mkF m 223 #[.val (.long q0), .second, .val (.long q1), .second, .val (.long q2), .second, .val (.long q3), .second, .val (.long q4), .second, .val (.long q5), .second, .val (.long (q1 &&& (4611686018427387903 : Int64))), .second, .val (.long (q2 &&& (4611686018427387903 : Int64))), .second, .val (.long ((q1 &&& (4611686018427387903 : Int64)) + (q2 &&& (4611686018427387903 : Int64)))), .second, .val (.long (q0 ^^^ q2)), .second, .val (.long q5), .second, .val (.long ((q5 ^^^ q3) ^^^ q4)), .second, .val (.int (1 : Int32)), .val (.ref b1), .val (.int (1 : Int32)), .val (.int (2 : Int32)), .val (.long q3), .second, .val (.long q4), .second] [(.int (lcmpW q4 q4))])) _
        refine XS.ifYes X617.here hx rfl (pc0 := 223) (pc' := 228) rfl (hb hby at_223) rfl ((if0 _ _).trans (teq (own_eq0.mpr rfl)).1) (by decide) (by decide) ?_
        show Steps p.tables e below (T617.setTop (mkF m 228 #[.val (.long q0), .second, .val (.long q1), .second, .val (.long q2), .second, .val (.long q3), .second, .val (.long q4), .second, .val (.long q5), .second, .val (.long (q1 &&& (4611686018427387903 : Int64))), .second, .val (.long (q2 &&& (4611686018427387903 : Int64))), .second, .val (.long ((q1 &&& (4611686018427387903 : Int64)) + (q2 &&& (4611686018427387903 : Int64)))), .second, .val (.long (q0 ^^^ q2)), .second, .val (.long q5), .second, .val (.long ((q5 ^^^ q3) ^^^ q4)), .second, .val (.int (1 : Int32)), .val (.ref b1), .val (.int (1 : Int32)), .val (.int (2 : Int32)), .val (.long q3), .second, .val (.long q4), .second] [])) _
        refine XS.iload X617.here hx rfl (hb hby at_228) rfl ?_
        show Steps p.tables e below (T617.setTop (mkF m 230 #[.val (.long q0), .second, .val (.long q1), .second, .val (.long q2), .second, .val (.long q3), .second, .val (.long q4), .second, .val (.long q5), .second, .val (.long (q1 &&& (4611686018427387903 : Int64))), .second, .val (.long (q2 &&& (4611686018427387903 : Int64))), .second, .val (.long ((q1 &&& (4611686018427387903 : Int64)) + (q2 &&& (4611686018427387903 : Int64)))), .second, .val (.long (q0 ^^^ q2)), .second, .val (.long q5), .second, .val (.long ((q5 ^^^ q3) ^^^ q4)), .second, .val (.int (1 : Int32)), .val (.ref b1), .val (.int (1 : Int32)), .val (.int (2 : Int32)), .val (.long q3), .second, .val (.long q4), .second] [(.int (1 : Int32))])) _
        refine XS.ifNo X617.here hx rfl (hb hby at_230) rfl ((if0 _ _).trans (feq (by decide)).1) ?_
        show Steps p.tables e below (T617.setTop (mkF m 233 #[.val (.long q0), .second, .val (.long q1), .second, .val (.long q2), .second, .val (.long q3), .second, .val (.long q4), .second, .val (.long q5), .second, .val (.long (q1 &&& (4611686018427387903 : Int64))), .second, .val (.long (q2 &&& (4611686018427387903 : Int64))), .second, .val (.long ((q1 &&& (4611686018427387903 : Int64)) + (q2 &&& (4611686018427387903 : Int64)))), .second, .val (.long (q0 ^^^ q2)), .second, .val (.long q5), .second, .val (.long ((q5 ^^^ q3) ^^^ q4)), .second, .val (.int (1 : Int32)), .val (.ref b1), .val (.int (1 : Int32)), .val (.int (2 : Int32)), .val (.long q3), .second, .val (.long q4), .second] [])) _
        refine XS.aload X617.here hx rfl (hb hby at_233) rfl rfl ?_
        show Steps p.tables e below (T617.setTop (mkF m 235 #[.val (.long q0), .second, .val (.long q1), .second, .val (.long q2), .second, .val (.long q3), .second, .val (.long q4), .second, .val (.long q5), .second, .val (.long (q1 &&& (4611686018427387903 : Int64))), .second, .val (.long (q2 &&& (4611686018427387903 : Int64))), .second, .val (.long ((q1 &&& (4611686018427387903 : Int64)) + (q2 &&& (4611686018427387903 : Int64)))), .second, .val (.long (q0 ^^^ q2)), .second, .val (.long q5), .second, .val (.long ((q5 ^^^ q3) ^^^ q4)), .second, .val (.int (1 : Int32)), .val (.ref b1), .val (.int (1 : Int32)), .val (.int (2 : Int32)), .val (.long q3), .second, .val (.long q4), .second] [(.ref b1)])) _
        refine XS.iconst X617.here hx rfl (hb hby at_235) ?_
        show Steps p.tables e below (T617.setTop (mkF m 236 #[.val (.long q0), .second, .val (.long q1), .second, .val (.long q2), .second, .val (.long q3), .second, .val (.long q4), .second, .val (.long q5), .second, .val (.long (q1 &&& (4611686018427387903 : Int64))), .second, .val (.long (q2 &&& (4611686018427387903 : Int64))), .second, .val (.long ((q1 &&& (4611686018427387903 : Int64)) + (q2 &&& (4611686018427387903 : Int64)))), .second, .val (.long (q0 ^^^ q2)), .second, .val (.long q5), .second, .val (.long ((q5 ^^^ q3) ^^^ q4)), .second, .val (.int (1 : Int32)), .val (.ref b1), .val (.int (1 : Int32)), .val (.int (2 : Int32)), .val (.long q3), .second, .val (.long q4), .second] [(.int (1 : Int32)), (.ref b1)])) _
        refine st618.trans ?_
        show Steps p.tables e below (T618.setTop (mkF m 239 #[.val (.long q0), .second, .val (.long q1), .second, .val (.long q2), .second, .val (.long q3), .second, .val (.long q4), .second, .val (.long q5), .second, .val (.long (q1 &&& (4611686018427387903 : Int64))), .second, .val (.long (q2 &&& (4611686018427387903 : Int64))), .second, .val (.long ((q1 &&& (4611686018427387903 : Int64)) + (q2 &&& (4611686018427387903 : Int64)))), .second, .val (.long (q0 ^^^ q2)), .second, .val (.long q5), .second, .val (.long ((q5 ^^^ q3) ^^^ q4)), .second, .val (.int (1 : Int32)), .val (.ref b1), .val (.int (1 : Int32)), .val (.int (2 : Int32)), .val (.long q3), .second, .val (.long q4), .second] [(.long (q0 ^^^ q2))])) _
        refine XS.lload X618.here hx rfl (hb hby at_239) rfl ?_
        show Steps p.tables e below (T618.setTop (mkF m 241 #[.val (.long q0), .second, .val (.long q1), .second, .val (.long q2), .second, .val (.long q3), .second, .val (.long q4), .second, .val (.long q5), .second, .val (.long (q1 &&& (4611686018427387903 : Int64))), .second, .val (.long (q2 &&& (4611686018427387903 : Int64))), .second, .val (.long ((q1 &&& (4611686018427387903 : Int64)) + (q2 &&& (4611686018427387903 : Int64)))), .second, .val (.long (q0 ^^^ q2)), .second, .val (.long q5), .second, .val (.long ((q5 ^^^ q3) ^^^ q4)), .second, .val (.int (1 : Int32)), .val (.ref b1), .val (.int (1 : Int32)), .val (.int (2 : Int32)), .val (.long q3), .second, .val (.long q4), .second] [(.long (q0 ^^^ q2)), (.long (q0 ^^^ q2))])) _
        refine XS.lcmp X618.here hx rfl (hb hby at_241) rfl ?_
        show Steps p.tables e below (T618.setTop (mkF m 242 #[.val (.long q0), .second, .val (.long q1), .second, .val (.long q2), .second, .val (.long q3), .second, .val (.long q4), .second, .val (.long q5), .second, .val (.long (q1 &&& (4611686018427387903 : Int64))), .second, .val (.long (q2 &&& (4611686018427387903 : Int64))), .second, .val (.long ((q1 &&& (4611686018427387903 : Int64)) + (q2 &&& (4611686018427387903 : Int64)))), .second, .val (.long (q0 ^^^ q2)), .second, .val (.long q5), .second, .val (.long ((q5 ^^^ q3) ^^^ q4)), .second, .val (.int (1 : Int32)), .val (.ref b1), .val (.int (1 : Int32)), .val (.int (2 : Int32)), .val (.long q3), .second, .val (.long q4), .second] [(.int (lcmpW (q0 ^^^ q2) (q0 ^^^ q2)))])) _
        refine XS.ifNo X618.here hx rfl (hb hby at_242) rfl ((if0 _ _).trans (teq (own_eq0.mpr rfl)).2) ?_
        show Steps p.tables e below (T618.setTop (mkF m 245 #[.val (.long q0), .second, .val (.long q1), .second, .val (.long q2), .second, .val (.long q3), .second, .val (.long q4), .second, .val (.long q5), .second, .val (.long (q1 &&& (4611686018427387903 : Int64))), .second, .val (.long (q2 &&& (4611686018427387903 : Int64))), .second, .val (.long ((q1 &&& (4611686018427387903 : Int64)) + (q2 &&& (4611686018427387903 : Int64)))), .second, .val (.long (q0 ^^^ q2)), .second, .val (.long q5), .second, .val (.long ((q5 ^^^ q3) ^^^ q4)), .second, .val (.int (1 : Int32)), .val (.ref b1), .val (.int (1 : Int32)), .val (.int (2 : Int32)), .val (.long q3), .second, .val (.long q4), .second] [])) _
        refine XS.aload X618.here hx rfl (hb hby at_245) rfl rfl ?_
        show Steps p.tables e below (T618.setTop (mkF m 247 #[.val (.long q0), .second, .val (.long q1), .second, .val (.long q2), .second, .val (.long q3), .second, .val (.long q4), .second, .val (.long q5), .second, .val (.long (q1 &&& (4611686018427387903 : Int64))), .second, .val (.long (q2 &&& (4611686018427387903 : Int64))), .second, .val (.long ((q1 &&& (4611686018427387903 : Int64)) + (q2 &&& (4611686018427387903 : Int64)))), .second, .val (.long (q0 ^^^ q2)), .second, .val (.long q5), .second, .val (.long ((q5 ^^^ q3) ^^^ q4)), .second, .val (.int (1 : Int32)), .val (.ref b1), .val (.int (1 : Int32)), .val (.int (2 : Int32)), .val (.long q3), .second, .val (.long q4), .second] [(.ref b1)])) _
        refine XS.iconst X618.here hx rfl (hb hby at_247) ?_
        show Steps p.tables e below (T618.setTop (mkF m 248 #[.val (.long q0), .second, .val (.long q1), .second, .val (.long q2), .second, .val (.long q3), .second, .val (.long q4), .second, .val (.long q5), .second, .val (.long (q1 &&& (4611686018427387903 : Int64))), .second, .val (.long (q2 &&& (4611686018427387903 : Int64))), .second, .val (.long ((q1 &&& (4611686018427387903 : Int64)) + (q2 &&& (4611686018427387903 : Int64)))), .second, .val (.long (q0 ^^^ q2)), .second, .val (.long q5), .second, .val (.long ((q5 ^^^ q3) ^^^ q4)), .second, .val (.int (1 : Int32)), .val (.ref b1), .val (.int (1 : Int32)), .val (.int (2 : Int32)), .val (.long q3), .second, .val (.long q4), .second] [(.int (1 : Int32)), (.ref b1)])) _
        refine st619.trans ?_
        show Steps p.tables e below (T619.setTop (mkF m 251 #[.val (.long q0), .second, .val (.long q1), .second, .val (.long q2), .second, .val (.long q3), .second, .val (.long q4), .second, .val (.long q5), .second, .val (.long (q1 &&& (4611686018427387903 : Int64))), .second, .val (.long (q2 &&& (4611686018427387903 : Int64))), .second, .val (.long ((q1 &&& (4611686018427387903 : Int64)) + (q2 &&& (4611686018427387903 : Int64)))), .second, .val (.long (q0 ^^^ q2)), .second, .val (.long q5), .second, .val (.long ((q5 ^^^ q3) ^^^ q4)), .second, .val (.int (1 : Int32)), .val (.ref b1), .val (.int (1 : Int32)), .val (.int (2 : Int32)), .val (.long q3), .second, .val (.long q4), .second] [(.long ((q1 &&& (4611686018427387903 : Int64)) + (q2 &&& (4611686018427387903 : Int64))))])) _
        refine XS.lload X619.here hx rfl (hb hby at_251) rfl ?_
        show Steps p.tables e below (T619.setTop (mkF m 253 #[.val (.long q0), .second, .val (.long q1), .second, .val (.long q2), .second, .val (.long q3), .second, .val (.long q4), .second, .val (.long q5), .second, .val (.long (q1 &&& (4611686018427387903 : Int64))), .second, .val (.long (q2 &&& (4611686018427387903 : Int64))), .second, .val (.long ((q1 &&& (4611686018427387903 : Int64)) + (q2 &&& (4611686018427387903 : Int64)))), .second, .val (.long (q0 ^^^ q2)), .second, .val (.long q5), .second, .val (.long ((q5 ^^^ q3) ^^^ q4)), .second, .val (.int (1 : Int32)), .val (.ref b1), .val (.int (1 : Int32)), .val (.int (2 : Int32)), .val (.long q3), .second, .val (.long q4), .second] [(.long ((q1 &&& (4611686018427387903 : Int64)) + (q2 &&& (4611686018427387903 : Int64)))), (.long ((q1 &&& (4611686018427387903 : Int64)) + (q2 &&& (4611686018427387903 : Int64))))])) _
        refine XS.lcmp X619.here hx rfl (hb hby at_253) rfl ?_
        show Steps p.tables e below (T619.setTop (mkF m 254 #[.val (.long q0), .second, .val (.long q1), .second, .val (.long q2), .second, .val (.long q3), .second, .val (.long q4), .second, .val (.long q5), .second, .val (.long (q1 &&& (4611686018427387903 : Int64))), .second, .val (.long (q2 &&& (4611686018427387903 : Int64))), .second, .val (.long ((q1 &&& (4611686018427387903 : Int64)) + (q2 &&& (4611686018427387903 : Int64)))), .second, .val (.long (q0 ^^^ q2)), .second, .val (.long q5), .second, .val (.long ((q5 ^^^ q3) ^^^ q4)), .second, .val (.int (1 : Int32)), .val (.ref b1), .val (.int (1 : Int32)), .val (.int (2 : Int32)), .val (.long q3), .second, .val (.long q4), .second] [(.int (lcmpW ((q1 &&& (4611686018427387903 : Int64)) + (q2 &&& (4611686018427387903 : Int64))) ((q1 &&& (4611686018427387903 : Int64)) + (q2 &&& (4611686018427387903 : Int64)))))])) _
        refine XS.ifYes X619.here hx rfl (pc0 := 254) (pc' := 259) rfl (hb hby at_254) rfl ((if0 _ _).trans (teq (own_eq0.mpr rfl)).1) (by decide) (by decide) ?_
        show Steps p.tables e below (T619.setTop (mkF m 259 #[.val (.long q0), .second, .val (.long q1), .second, .val (.long q2), .second, .val (.long q3), .second, .val (.long q4), .second, .val (.long q5), .second, .val (.long (q1 &&& (4611686018427387903 : Int64))), .second, .val (.long (q2 &&& (4611686018427387903 : Int64))), .second, .val (.long ((q1 &&& (4611686018427387903 : Int64)) + (q2 &&& (4611686018427387903 : Int64)))), .second, .val (.long (q0 ^^^ q2)), .second, .val (.long q5), .second, .val (.long ((q5 ^^^ q3) ^^^ q4)), .second, .val (.int (1 : Int32)), .val (.ref b1), .val (.int (1 : Int32)), .val (.int (2 : Int32)), .val (.long q3), .second, .val (.long q4), .second] [])) _
        refine XS.aload X619.here hx rfl (hb hby at_259) rfl rfl ?_
        show Steps p.tables e below (T619.setTop (mkF m 261 #[.val (.long q0), .second, .val (.long q1), .second, .val (.long q2), .second, .val (.long q3), .second, .val (.long q4), .second, .val (.long q5), .second, .val (.long (q1 &&& (4611686018427387903 : Int64))), .second, .val (.long (q2 &&& (4611686018427387903 : Int64))), .second, .val (.long ((q1 &&& (4611686018427387903 : Int64)) + (q2 &&& (4611686018427387903 : Int64)))), .second, .val (.long (q0 ^^^ q2)), .second, .val (.long q5), .second, .val (.long ((q5 ^^^ q3) ^^^ q4)), .second, .val (.int (1 : Int32)), .val (.ref b1), .val (.int (1 : Int32)), .val (.int (2 : Int32)), .val (.long q3), .second, .val (.long q4), .second] [(.ref b1)])) _
        refine XS.iconst X619.here hx rfl (hb hby at_261) ?_
        show Steps p.tables e below (T619.setTop (mkF m 262 #[.val (.long q0), .second, .val (.long q1), .second, .val (.long q2), .second, .val (.long q3), .second, .val (.long q4), .second, .val (.long q5), .second, .val (.long (q1 &&& (4611686018427387903 : Int64))), .second, .val (.long (q2 &&& (4611686018427387903 : Int64))), .second, .val (.long ((q1 &&& (4611686018427387903 : Int64)) + (q2 &&& (4611686018427387903 : Int64)))), .second, .val (.long (q0 ^^^ q2)), .second, .val (.long q5), .second, .val (.long ((q5 ^^^ q3) ^^^ q4)), .second, .val (.int (1 : Int32)), .val (.ref b1), .val (.int (1 : Int32)), .val (.int (2 : Int32)), .val (.long q3), .second, .val (.long q4), .second] [(.int (1 : Int32)), (.ref b1)])) _
        refine st620.trans ?_
        show Steps p.tables e below (T620.setTop (mkF m 265 #[.val (.long q0), .second, .val (.long q1), .second, .val (.long q2), .second, .val (.long q3), .second, .val (.long q4), .second, .val (.long q5), .second, .val (.long (q1 &&& (4611686018427387903 : Int64))), .second, .val (.long (q2 &&& (4611686018427387903 : Int64))), .second, .val (.long ((q1 &&& (4611686018427387903 : Int64)) + (q2 &&& (4611686018427387903 : Int64)))), .second, .val (.long (q0 ^^^ q2)), .second, .val (.long q5), .second, .val (.long ((q5 ^^^ q3) ^^^ q4)), .second, .val (.int (1 : Int32)), .val (.ref b1), .val (.int (1 : Int32)), .val (.int (2 : Int32)), .val (.long q3), .second, .val (.long q4), .second] [(.long q5)])) _
        refine XS.lload X620.here hx rfl (hb hby at_265) rfl ?_
        show Steps p.tables e below (T620.setTop (mkF m 267 #[.val (.long q0), .second, .val (.long q1), .second, .val (.long q2), .second, .val (.long q3), .second, .val (.long q4), .second, .val (.long q5), .second, .val (.long (q1 &&& (4611686018427387903 : Int64))), .second, .val (.long (q2 &&& (4611686018427387903 : Int64))), .second, .val (.long ((q1 &&& (4611686018427387903 : Int64)) + (q2 &&& (4611686018427387903 : Int64)))), .second, .val (.long (q0 ^^^ q2)), .second, .val (.long q5), .second, .val (.long ((q5 ^^^ q3) ^^^ q4)), .second, .val (.int (1 : Int32)), .val (.ref b1), .val (.int (1 : Int32)), .val (.int (2 : Int32)), .val (.long q3), .second, .val (.long q4), .second] [(.long q5), (.long q5)])) _
        refine XS.lcmp X620.here hx rfl (hb hby at_267) rfl ?_
        show Steps p.tables e below (T620.setTop (mkF m 268 #[.val (.long q0), .second, .val (.long q1), .second, .val (.long q2), .second, .val (.long q3), .second, .val (.long q4), .second, .val (.long q5), .second, .val (.long (q1 &&& (4611686018427387903 : Int64))), .second, .val (.long (q2 &&& (4611686018427387903 : Int64))), .second, .val (.long ((q1 &&& (4611686018427387903 : Int64)) + (q2 &&& (4611686018427387903 : Int64)))), .second, .val (.long (q0 ^^^ q2)), .second, .val (.long q5), .second, .val (.long ((q5 ^^^ q3) ^^^ q4)), .second, .val (.int (1 : Int32)), .val (.ref b1), .val (.int (1 : Int32)), .val (.int (2 : Int32)), .val (.long q3), .second, .val (.long q4), .second] [(.int (lcmpW q5 q5))])) _
        refine XS.ifNo X620.here hx rfl (hb hby at_268) rfl ((if0 _ _).trans (teq (own_eq0.mpr rfl)).2) ?_
        show Steps p.tables e below (T620.setTop (mkF m 271 #[.val (.long q0), .second, .val (.long q1), .second, .val (.long q2), .second, .val (.long q3), .second, .val (.long q4), .second, .val (.long q5), .second, .val (.long (q1 &&& (4611686018427387903 : Int64))), .second, .val (.long (q2 &&& (4611686018427387903 : Int64))), .second, .val (.long ((q1 &&& (4611686018427387903 : Int64)) + (q2 &&& (4611686018427387903 : Int64)))), .second, .val (.long (q0 ^^^ q2)), .second, .val (.long q5), .second, .val (.long ((q5 ^^^ q3) ^^^ q4)), .second, .val (.int (1 : Int32)), .val (.ref b1), .val (.int (1 : Int32)), .val (.int (2 : Int32)), .val (.long q3), .second, .val (.long q4), .second] [])) _
        refine XS.aload X620.here hx rfl (hb hby at_271) rfl rfl ?_
        show Steps p.tables e below (T620.setTop (mkF m 273 #[.val (.long q0), .second, .val (.long q1), .second, .val (.long q2), .second, .val (.long q3), .second, .val (.long q4), .second, .val (.long q5), .second, .val (.long (q1 &&& (4611686018427387903 : Int64))), .second, .val (.long (q2 &&& (4611686018427387903 : Int64))), .second, .val (.long ((q1 &&& (4611686018427387903 : Int64)) + (q2 &&& (4611686018427387903 : Int64)))), .second, .val (.long (q0 ^^^ q2)), .second, .val (.long q5), .second, .val (.long ((q5 ^^^ q3) ^^^ q4)), .second, .val (.int (1 : Int32)), .val (.ref b1), .val (.int (1 : Int32)), .val (.int (2 : Int32)), .val (.long q3), .second, .val (.long q4), .second] [(.ref b1)])) _
        refine XS.iconst X620.here hx rfl (hb hby at_273) ?_
        show Steps p.tables e below (T620.setTop (mkF m 274 #[.val (.long q0), .second, .val (.long q1), .second, .val (.long q2), .second, .val (.long q3), .second, .val (.long q4), .second, .val (.long q5), .second, .val (.long (q1 &&& (4611686018427387903 : Int64))), .second, .val (.long (q2 &&& (4611686018427387903 : Int64))), .second, .val (.long ((q1 &&& (4611686018427387903 : Int64)) + (q2 &&& (4611686018427387903 : Int64)))), .second, .val (.long (q0 ^^^ q2)), .second, .val (.long q5), .second, .val (.long ((q5 ^^^ q3) ^^^ q4)), .second, .val (.int (1 : Int32)), .val (.ref b1), .val (.int (1 : Int32)), .val (.int (2 : Int32)), .val (.long q3), .second, .val (.long q4), .second] [(.int (1 : Int32)), (.ref b1)])) _
        refine st621.trans ?_
        show Steps p.tables e below (T621.setTop (mkF m 277 #[.val (.long q0), .second, .val (.long q1), .second, .val (.long q2), .second, .val (.long q3), .second, .val (.long q4), .second, .val (.long q5), .second, .val (.long (q1 &&& (4611686018427387903 : Int64))), .second, .val (.long (q2 &&& (4611686018427387903 : Int64))), .second, .val (.long ((q1 &&& (4611686018427387903 : Int64)) + (q2 &&& (4611686018427387903 : Int64)))), .second, .val (.long (q0 ^^^ q2)), .second, .val (.long q5), .second, .val (.long ((q5 ^^^ q3) ^^^ q4)), .second, .val (.int (1 : Int32)), .val (.ref b1), .val (.int (1 : Int32)), .val (.int (2 : Int32)), .val (.long q3), .second, .val (.long q4), .second] [(.long ((q5 ^^^ q3) ^^^ q4))])) _
        refine XS.lload X621.here hx rfl (hb hby at_277) rfl ?_
        show Steps p.tables e below (T621.setTop (mkF m 279 #[.val (.long q0), .second, .val (.long q1), .second, .val (.long q2), .second, .val (.long q3), .second, .val (.long q4), .second, .val (.long q5), .second, .val (.long (q1 &&& (4611686018427387903 : Int64))), .second, .val (.long (q2 &&& (4611686018427387903 : Int64))), .second, .val (.long ((q1 &&& (4611686018427387903 : Int64)) + (q2 &&& (4611686018427387903 : Int64)))), .second, .val (.long (q0 ^^^ q2)), .second, .val (.long q5), .second, .val (.long ((q5 ^^^ q3) ^^^ q4)), .second, .val (.int (1 : Int32)), .val (.ref b1), .val (.int (1 : Int32)), .val (.int (2 : Int32)), .val (.long q3), .second, .val (.long q4), .second] [(.long ((q5 ^^^ q3) ^^^ q4)), (.long ((q5 ^^^ q3) ^^^ q4))])) _
        refine XS.lcmp X621.here hx rfl (hb hby at_279) rfl ?_
        show Steps p.tables e below (T621.setTop (mkF m 280 #[.val (.long q0), .second, .val (.long q1), .second, .val (.long q2), .second, .val (.long q3), .second, .val (.long q4), .second, .val (.long q5), .second, .val (.long (q1 &&& (4611686018427387903 : Int64))), .second, .val (.long (q2 &&& (4611686018427387903 : Int64))), .second, .val (.long ((q1 &&& (4611686018427387903 : Int64)) + (q2 &&& (4611686018427387903 : Int64)))), .second, .val (.long (q0 ^^^ q2)), .second, .val (.long q5), .second, .val (.long ((q5 ^^^ q3) ^^^ q4)), .second, .val (.int (1 : Int32)), .val (.ref b1), .val (.int (1 : Int32)), .val (.int (2 : Int32)), .val (.long q3), .second, .val (.long q4), .second] [(.int (lcmpW ((q5 ^^^ q3) ^^^ q4) ((q5 ^^^ q3) ^^^ q4)))])) _
        refine XS.ifYes X621.here hx rfl (pc0 := 280) (pc' := 285) rfl (hb hby at_280) rfl ((if0 _ _).trans (teq (own_eq0.mpr rfl)).1) (by decide) (by decide) ?_
        show Steps p.tables e below (T621.setTop (mkF m 285 #[.val (.long q0), .second, .val (.long q1), .second, .val (.long q2), .second, .val (.long q3), .second, .val (.long q4), .second, .val (.long q5), .second, .val (.long (q1 &&& (4611686018427387903 : Int64))), .second, .val (.long (q2 &&& (4611686018427387903 : Int64))), .second, .val (.long ((q1 &&& (4611686018427387903 : Int64)) + (q2 &&& (4611686018427387903 : Int64)))), .second, .val (.long (q0 ^^^ q2)), .second, .val (.long q5), .second, .val (.long ((q5 ^^^ q3) ^^^ q4)), .second, .val (.int (1 : Int32)), .val (.ref b1), .val (.int (1 : Int32)), .val (.int (2 : Int32)), .val (.long q3), .second, .val (.long q4), .second] [])) _
        refine XS.iconst X621.here hx rfl (hb hby at_285) ?_
        show Steps p.tables e below (T621.setTop (mkF m 286 #[.val (.long q0), .second, .val (.long q1), .second, .val (.long q2), .second, .val (.long q3), .second, .val (.long q4), .second, .val (.long q5), .second, .val (.long (q1 &&& (4611686018427387903 : Int64))), .second, .val (.long (q2 &&& (4611686018427387903 : Int64))), .second, .val (.long ((q1 &&& (4611686018427387903 : Int64)) + (q2 &&& (4611686018427387903 : Int64)))), .second, .val (.long (q0 ^^^ q2)), .second, .val (.long q5), .second, .val (.long ((q5 ^^^ q3) ^^^ q4)), .second, .val (.int (1 : Int32)), .val (.ref b1), .val (.int (1 : Int32)), .val (.int (2 : Int32)), .val (.long q3), .second, .val (.long q4), .second] [(.int (1 : Int32))])) _
        exact k
      exact own_retN X621 hx (t := .boolean) hret (by simp) hlk (hb hby at_286) (⟨rfl, N621⟩) (by decide) (by decide)
  · obtain ⟨T622, h622, X622, e622, E622, A622, D622, -, st622⟩ := newO X0 hx hZ hown (hw _ (List.mem_of_getElem? (i := 1) rfl)) (hw _ (List.mem_of_getElem? (i := 2) rfl)) (hw _ (List.mem_of_getElem? (i := 3) rfl)) e0 (g := (mkF m 55 #[.val (.long q0), .second, .val (.long q1), .second, .val (.long q2), .second, .val (.long q3), .second, .val (.long q4), .second, .val (.long q5), .second, .val (.long (q1 &&& (4611686018427387903 : Int64))), .second, .val (.long (q2 &&& (4611686018427387903 : Int64))), .second, .val (.long ((q1 &&& (4611686018427387903 : Int64)) + (q2 &&& (4611686018427387903 : Int64)))), .second, .val (.long (q0 ^^^ q2)), .second, .val (.long q5), .second, .val (.long ((q5 ^^^ q3) ^^^ q4)), .second, .val (.int (0 : Int32)), .unset, .unset, .unset, .unset, .unset, .unset, .unset] [])) rfl (hb hby at_55) (by decide) (by decide)
    obtain ⟨b1, g622⟩ : ∃ z, z = h0.size := ⟨_, rfl⟩
    rw [← g622] at A622 D622 st622
    have lo_b1 : n0 ≤ b1 := Nat.le_trans Z0 (Nat.le_of_eq g622.symm)
    have zh622 : n0 ≤ h622.size := Nat.le_trans Z0 E622.1
    have F_offsets_b1_622 : Fld Z h622 b1 "com/example/uplog/uplog/SegmentIndex" "offsets" "[J" .null := D622 (Or.inl (hw _ (List.mem_of_getElem? (i := 12) rfl))) (ty := (.array .long)) (by decide)
    have F_positions_b1_622 : Fld Z h622 b1 "com/example/uplog/uplog/SegmentIndex" "positions" "[J" .null := D622 (Or.inl (hw _ (List.mem_of_getElem? (i := 14) rfl))) (ty := (.array .long)) (by decide)
    have F_maxTimestamps_b1_622 : Fld Z h622 b1 "com/example/uplog/uplog/SegmentIndex" "maxTimestamps" "[J" .null := D622 (Or.inl (hw _ (List.mem_of_getElem? (i := 16) rfl))) (ty := (.array .long)) (by decide)
    have F_writtenAts_b1_622 : Fld Z h622 b1 "com/example/uplog/uplog/SegmentIndex" "writtenAts" "[J" .null := D622 (Or.inl (hw _ (List.mem_of_getElem? (i := 18) rfl))) (ty := (.array .long)) (by decide)
    have F_count_b1_622 : Fld Z h622 b1 "com/example/uplog/uplog/SegmentIndex" "count" "I" (.int (0 : Int32)) := D622 (Or.inl (hw _ (List.mem_of_getElem? (i := 25) rfl))) (ty := .int) (by decide)
    obtain ⟨_, _, ⟨T623, L623, k623, n623⟩, -, X623, ⟨Lc623, hQ623, l623, y623, z623⟩, st623⟩ := X622.specialBack hx (y := (⟨"com/example/uplog/uplog/SegmentIndex", "<init>", "()V"⟩ : MethodName)) rfl hown (mvT hZ (hw _ (List.mem_of_getElem? (i := 4) rfl))) (mvT hZ (hw _ (List.mem_of_getElem? (i := 5) rfl))) (mvT hZ (hw _ (List.mem_of_getElem? (i := 6) rfl))) (by decide) (backOf (W := 1) (rm1 l Z a0 hw [] b1 h622 n0 zh622 A622 F_count_b1_622 F_offsets_b1_622 F_positions_b1_622 F_maxTimestamps_b1_622 F_writtenAts_b1_622 lo_b1) hZ (hw _ (List.mem_of_getElem? (i := 6) rfl)) (hw _ (List.mem_of_getElem? (i := 3) rfl)) (by decide) (by decide)) (g := (mkF m 59 #[.val (.long q0), .second, .val (.long q1), .second, .val (.long q2), .second, .val (.long q3), .second, .val (.long q4), .second, .val (.long q5), .second, .val (.long (q1 &&& (4611686018427387903 : Int64))), .second, .val (.long (q2 &&& (4611686018427387903 : Int64))), .second, .val (.long ((q1 &&& (4611686018427387903 : Int64)) + (q2 &&& (4611686018427387903 : Int64)))), .second, .val (.long (q0 ^^^ q2)), .second, .val (.long q5), .second, .val (.long ((q5 ^^^ q3) ^^^ q4)), .second, .val (.int (0 : Int32)), .unset, .unset, .unset, .unset, .unset, .unset, .unset] [(.ref b1), (.ref b1)])) rfl (by rw [hml]; rfl) (Steps.refl _) (a := b1) (argsL := []) (rest := [(.ref b1)]) (lenOf pd_4 rfl) rfl (by show 2 * 0 + _ ≤ _; exact Nat.le_of_eq rfl) (hb hby at_59) (fun _ _ => ⟨rfl, e622, (by decide : 1 + 4 ≤ _), (by decide : 5 + 32 ≤ _)⟩)
    dsimp only [Pt.U, Pt.locs, Pt.cells, Pt.slots] at X623 l623 y623 z623 st623 hQ623
    subst l623 y623 z623
    obtain ⟨a2, a3, a4, a5, k2, k3, k4, k5, rfl, N623q, K623, Gs623⟩ := hQ623
    have N623 := Fr.app N0 N623q
    have A622_624 := A622.keep K623
    have zh623 : n0 ≤ T623.heap.size := Nat.le_trans zh622 K623.1
    have GA := Gs623
    obtain ⟨E1_625, Fc_625, Fa2_625, Fa3_625, Fa4_625, Fa5_625, Va2_625, Va3_625, Va4_625, Va5_625, da2a3_625, da2a4_625, da2a5_625, da3a4_625, da3a5_625, da4a5_625, lo1_625, loa2_625, loa3_625, loa4_625, loa5_625⟩ := Gs623
    have ne1a2_625 : b1 ≠ a2 := Exa.neArv E1_625 Va2_625 (hw _ (List.mem_of_getElem? (i := 2) rfl))
    have ne1a3_625 : b1 ≠ a3 := Exa.neArv E1_625 Va3_625 (hw _ (List.mem_of_getElem? (i := 2) rfl))
    have ne1a4_625 : b1 ≠ a4 := Exa.neArv E1_625 Va4_625 (hw _ (List.mem_of_getElem? (i := 2) rfl))
    have ne1a5_625 : b1 ≠ a5 := Exa.neArv E1_625 Va5_625 (hw _ (List.mem_of_getElem? (i := 2) rfl))
    obtain ⟨cq626, kq626, q626a, q626b, q626c⟩ := isOf hZ rfl E1_625
    obtain ⟨_, _, ⟨T626, L626, k626, n626⟩, -, X626, ⟨Lc626, hQ626, l626, y626, z626⟩, st626⟩ := X623.virtualBack hx (y := (⟨"com/example/uplog/uplog/SegmentIndex", "add", "(JJJJ)V"⟩ : MethodName)) (z := (⟨"com/example/uplog/uplog/SegmentIndex", "add", "(JJJJ)V"⟩ : MethodName)) hown (mvT hZ (hw _ (List.mem_of_getElem? (i := 19) rfl))) (mvT hZ (hw _ (List.mem_of_getElem? (i := 20) rfl))) (notFace_of_selects (args := #[]) (mvT hZ (hw _ (List.mem_of_getElem? (i := 22) rfl)))) (mvT hZ (hw _ (List.mem_of_getElem? (i := 22) rfl))) (mvT hZ (hw _ (List.mem_of_getElem? (i := 21) rfl))) (by decide) (backOf (W := 0) (rmaA l Z a0 hw [] b1 q0 (q1 &&& (4611686018427387903 : Int64)) q3 q4 a2 a3 a4 a5 k2 k3 k4 k5 T623.heap n0 zh623 GA) hZ (hw _ (List.mem_of_getElem? (i := 23) rfl)) (hw _ (List.mem_of_getElem? (i := 3) rfl)) (by decide) (by decide)) q626a q626c (g := (mkF m 73 #[.val (.long q0), .second, .val (.long q1), .second, .val (.long q2), .second, .val (.long q3), .second, .val (.long q4), .second, .val (.long q5), .second, .val (.long (q1 &&& (4611686018427387903 : Int64))), .second, .val (.long (q2 &&& (4611686018427387903 : Int64))), .second, .val (.long ((q1 &&& (4611686018427387903 : Int64)) + (q2 &&& (4611686018427387903 : Int64)))), .second, .val (.long (q0 ^^^ q2)), .second, .val (.long q5), .second, .val (.long ((q5 ^^^ q3) ^^^ q4)), .second, .val (.int (0 : Int32)), .val (.ref b1), .unset, .unset, .unset, .unset, .unset, .unset] [(.long q4), (.long q3), (.long (q1 &&& (4611686018427387903 : Int64))), (.long q0), (.ref b1)])) rfl (by rw [hml]; rfl) (Steps.refl _) (argsL := [(.long q0), (.long (q1 &&& (4611686018427387903 : Int64))), (.long q3), (.long q4)]) (rest := []) (lenOf pd_5 rfl) rfl (by show 2 * 0 + _ ≤ _; exact Nat.le_of_eq rfl) (hb hby at_73) (fun _ _ => ⟨rfl, rfl, (by decide : 5 + 0 ≤ _), (by decide : 37 + 0 ≤ _)⟩)
    dsimp only [Pt.U, Pt.locs, Pt.cells, Pt.slots] at X626 l626 y626 z626 st626 hQ626
    subst l626 y626 z626
    obtain ⟨rfl, N626q, K626, Gs626⟩ := hQ626
    have N626 := Fr.app N623 N626q
    have E1_627 := E1_625.keep K626
    have zh626 : n0 ≤ T626.heap.size := Nat.le_trans zh623 K626.1
    have GB := Gs626
    obtain ⟨E1_628, Fc_628, Fa2_628, Fa3_628, Fa4_628, Fa5_628, Va2_628, Va3_628, Va4_628, Va5_628, da2a3_628, da2a4_628, da2a5_628, da3a4_628, da3a5_628, da4a5_628, lo1_628, loa2_628, loa3_628, loa4_628, loa5_628⟩ := Gs626
    have ne1a2_628 : b1 ≠ a2 := Exa.neArv E1_628 Va2_628 (hw _ (List.mem_of_getElem? (i := 2) rfl))
    have ne1a3_628 : b1 ≠ a3 := Exa.neArv E1_628 Va3_628 (hw _ (List.mem_of_getElem? (i := 2) rfl))
    have ne1a4_628 : b1 ≠ a4 := Exa.neArv E1_628 Va4_628 (hw _ (List.mem_of_getElem? (i := 2) rfl))
    have ne1a5_628 : b1 ≠ a5 := Exa.neArv E1_628 Va5_628 (hw _ (List.mem_of_getElem? (i := 2) rfl))
    refine own_Go.mono (T' := T626) (f' := (mkF m 96 #[.val (.long q0), .second, .val (.long q1), .second, .val (.long q2), .second, .val (.long q3), .second, .val (.long q4), .second, .val (.long q5), .second, .val (.long (q1 &&& (4611686018427387903 : Int64))), .second, .val (.long (q2 &&& (4611686018427387903 : Int64))), .second, .val (.long ((q1 &&& (4611686018427387903 : Int64)) + (q2 &&& (4611686018427387903 : Int64)))), .second, .val (.long (q0 ^^^ q2)), .second, .val (.long q5), .second, .val (.long ((q5 ^^^ q3) ^^^ q4)), .second, .val (.int (0 : Int32)), .val (.ref b1), .unset, .unset, .unset, .unset, .unset, .unset] [(.long ((q5 ^^^ q3) ^^^ q4)), (.long q5), (.long ((q1 &&& (4611686018427387903 : Int64)) + (q2 &&& (4611686018427387903 : Int64)))), (.long (q0 ^^^ q2)), (.ref b1)])) (fun t k => ?_) ?_
    · show Steps p.tables e below (s₁.setTop (mkF m 45 #[.val (.long q0), .second, .val (.long q1), .second, .val (.long q2), .second, .val (.long q3), .second, .val (.long q4), .second, .val (.long q5), .second, .val (.long (q1 &&& (4611686018427387903 : Int64))), .second, .val (.long (q2 &&& (4611686018427387903 : Int64))), .second, .val (.long ((q1 &&& (4611686018427387903 : Int64)) + (q2 &&& (4611686018427387903 : Int64)))), .second, .val (.long (q0 ^^^ q2)), .second, .val (.long q5), .second, .val (.long ((q5 ^^^ q3) ^^^ q4)), .second, .unset, .unset, .unset, .unset, .unset, .unset, .unset, .unset] [(.int (lcmpW q1 (0 : Int64)))])) _
      refine XS.ifYes X0.here hx rfl (pc0 := 45) (pc' := 52) rfl (hb hby at_45) rfl ((if0 _ _).trans (flt c45_589).2.1) (by decide) (by decide) ?_
      show Steps p.tables e below (s₁.setTop (mkF m 52 #[.val (.long q0), .second, .val (.long q1), .second, .val (.long q2), .second, .val (.long q3), .second, .val (.long q4), .second, .val (.long q5), .second, .val (.long (q1 &&& (4611686018427387903 : Int64))), .second, .val (.long (q2 &&& (4611686018427387903 : Int64))), .second, .val (.long ((q1 &&& (4611686018427387903 : Int64)) + (q2 &&& (4611686018427387903 : Int64)))), .second, .val (.long (q0 ^^^ q2)), .second, .val (.long q5), .second, .val (.long ((q5 ^^^ q3) ^^^ q4)), .second, .unset, .unset, .unset, .unset, .unset, .unset, .unset, .unset] [])) _
      refine XS.iconst X0.here hx rfl (hb hby at_52) ?_
      show Steps p.tables e below (s₁.setTop (mkF m 53 #[.val (.long q0), .second, .val (.long q1), .second, .val (.long q2), .second, .val (.long q3), .second, .val (.long q4), .second, .val (.long q5), .second, .val (.long (q1 &&& (4611686018427387903 : Int64))), .second, .val (.long (q2 &&& (4611686018427387903 : Int64))), .second, .val (.long ((q1 &&& (4611686018427387903 : Int64)) + (q2 &&& (4611686018427387903 : Int64)))), .second, .val (.long (q0 ^^^ q2)), .second, .val (.long q5), .second, .val (.long ((q5 ^^^ q3) ^^^ q4)), .second, .unset, .unset, .unset, .unset, .unset, .unset, .unset, .unset] [(.int (0 : Int32))])) _
      refine XS.istore X0.here hx rfl (hb hby at_53) rfl (l' := #[.val (.long q0), .second, .val (.long q1), .second, .val (.long q2), .second, .val (.long q3), .second, .val (.long q4), .second, .val (.long q5), .second, .val (.long (q1 &&& (4611686018427387903 : Int64))), .second, .val (.long (q2 &&& (4611686018427387903 : Int64))), .second, .val (.long ((q1 &&& (4611686018427387903 : Int64)) + (q2 &&& (4611686018427387903 : Int64)))), .second, .val (.long (q0 ^^^ q2)), .second, .val (.long q5), .second, .val (.long ((q5 ^^^ q3) ^^^ q4)), .second, .val (.int (0 : Int32)), .unset, .unset, .unset, .unset, .unset, .unset, .unset]) rfl ?_
      show Steps p.tables e below (s₁.setTop (mkF m 55 #[.val (.long q0), .second, .val (.long q1), .second, .val (.long q2), .second, .val (.long q3), .second, .val (.long q4), .second, .val (.long q5), .second, .val (.long (q1 &&& (4611686018427387903 : Int64))), .second, .val (.long (q2 &&& (4611686018427387903 : Int64))), .second, .val (.long ((q1 &&& (4611686018427387903 : Int64)) + (q2 &&& (4611686018427387903 : Int64)))), .second, .val (.long (q0 ^^^ q2)), .second, .val (.long q5), .second, .val (.long ((q5 ^^^ q3) ^^^ q4)), .second, .val (.int (0 : Int32)), .unset, .unset, .unset, .unset, .unset, .unset, .unset] [])) _
      refine st622 _ ?_
      show Steps p.tables e below (T622.setTop (mkF m 58 #[.val (.long q0), .second, .val (.long q1), .second, .val (.long q2), .second, .val (.long q3), .second, .val (.long q4), .second, .val (.long q5), .second, .val (.long (q1 &&& (4611686018427387903 : Int64))), .second, .val (.long (q2 &&& (4611686018427387903 : Int64))), .second, .val (.long ((q1 &&& (4611686018427387903 : Int64)) + (q2 &&& (4611686018427387903 : Int64)))), .second, .val (.long (q0 ^^^ q2)), .second, .val (.long q5), .second, .val (.long ((q5 ^^^ q3) ^^^ q4)), .second, .val (.int (0 : Int32)), .unset, .unset, .unset, .unset, .unset, .unset, .unset] [(.ref b1)])) _
      refine XS.dup X622.here hx rfl (hb hby at_58) rfl rfl ?_
      show Steps p.tables e below (T622.setTop (mkF m 59 #[.val (.long q0), .second, .val (.long q1), .second, .val (.long q2), .second, .val (.long q3), .second, .val (.long q4), .second, .val (.long q5), .second, .val (.long (q1 &&& (4611686018427387903 : Int64))), .second, .val (.long (q2 &&& (4611686018427387903 : Int64))), .second, .val (.long ((q1 &&& (4611686018427387903 : Int64)) + (q2 &&& (4611686018427387903 : Int64)))), .second, .val (.long (q0 ^^^ q2)), .second, .val (.long q5), .second, .val (.long ((q5 ^^^ q3) ^^^ q4)), .second, .val (.int (0 : Int32)), .unset, .unset, .unset, .unset, .unset, .unset, .unset] [(.ref b1), (.ref b1)])) _
      refine st623.trans ?_
      show Steps p.tables e below (T623.setTop (mkF m 62 #[.val (.long q0), .second, .val (.long q1), .second, .val (.long q2), .second, .val (.long q3), .second, .val (.long q4), .second, .val (.long q5), .second, .val (.long (q1 &&& (4611686018427387903 : Int64))), .second, .val (.long (q2 &&& (4611686018427387903 : Int64))), .second, .val (.long ((q1 &&& (4611686018427387903 : Int64)) + (q2 &&& (4611686018427387903 : Int64)))), .second, .val (.long (q0 ^^^ q2)), .second, .val (.long q5), .second, .val (.long ((q5 ^^^ q3) ^^^ q4)), .second, .val (.int (0 : Int32)), .unset, .unset, .unset, .unset, .unset, .unset, .unset] [(.ref b1)])) _
      refine XS.astore X623.here hx rfl (hb hby at_62) rfl rfl (l' := #[.val (.long q0), .second, .val (.long q1), .second, .val (.long q2), .second, .val (.long q3), .second, .val (.long q4), .second, .val (.long q5), .second, .val (.long (q1 &&& (4611686018427387903 : Int64))), .second, .val (.long (q2 &&& (4611686018427387903 : Int64))), .second, .val (.long ((q1 &&& (4611686018427387903 : Int64)) + (q2 &&& (4611686018427387903 : Int64)))), .second, .val (.long (q0 ^^^ q2)), .second, .val (.long q5), .second, .val (.long ((q5 ^^^ q3) ^^^ q4)), .second, .val (.int (0 : Int32)), .val (.ref b1), .unset, .unset, .unset, .unset, .unset, .unset]) rfl ?_
      show Steps p.tables e below (T623.setTop (mkF m 64 #[.val (.long q0), .second, .val (.long q1), .second, .val (.long q2), .second, .val (.long q3), .second, .val (.long q4), .second, .val (.long q5), .second, .val (.long (q1 &&& (4611686018427387903 : Int64))), .second, .val (.long (q2 &&& (4611686018427387903 : Int64))), .second, .val (.long ((q1 &&& (4611686018427387903 : Int64)) + (q2 &&& (4611686018427387903 : Int64)))), .second, .val (.long (q0 ^^^ q2)), .second, .val (.long q5), .second, .val (.long ((q5 ^^^ q3) ^^^ q4)), .second, .val (.int (0 : Int32)), .val (.ref b1), .unset, .unset, .unset, .unset, .unset, .unset] [])) _
      refine XS.aload X623.here hx rfl (hb hby at_64) rfl rfl ?_
      show Steps p.tables e below (T623.setTop (mkF m 66 #[.val (.long q0), .second, .val (.long q1), .second, .val (.long q2), .second, .val (.long q3), .second, .val (.long q4), .second, .val (.long q5), .second, .val (.long (q1 &&& (4611686018427387903 : Int64))), .second, .val (.long (q2 &&& (4611686018427387903 : Int64))), .second, .val (.long ((q1 &&& (4611686018427387903 : Int64)) + (q2 &&& (4611686018427387903 : Int64)))), .second, .val (.long (q0 ^^^ q2)), .second, .val (.long q5), .second, .val (.long ((q5 ^^^ q3) ^^^ q4)), .second, .val (.int (0 : Int32)), .val (.ref b1), .unset, .unset, .unset, .unset, .unset, .unset] [(.ref b1)])) _
      refine XS.lloadN X623.here hx rfl (hb hby at_66) rfl ?_
      show Steps p.tables e below (T623.setTop (mkF m 67 #[.val (.long q0), .second, .val (.long q1), .second, .val (.long q2), .second, .val (.long q3), .second, .val (.long q4), .second, .val (.long q5), .second, .val (.long (q1 &&& (4611686018427387903 : Int64))), .second, .val (.long (q2 &&& (4611686018427387903 : Int64))), .second, .val (.long ((q1 &&& (4611686018427387903 : Int64)) + (q2 &&& (4611686018427387903 : Int64)))), .second, .val (.long (q0 ^^^ q2)), .second, .val (.long q5), .second, .val (.long ((q5 ^^^ q3) ^^^ q4)), .second, .val (.int (0 : Int32)), .val (.ref b1), .unset, .unset, .unset, .unset, .unset, .unset] [(.long q0), (.ref b1)])) _
      refine XS.lload X623.here hx rfl (hb hby at_67) rfl ?_
      show Steps p.tables e below (T623.setTop (mkF m 69 #[.val (.long q0), .second, .val (.long q1), .second, .val (.long q2), .second, .val (.long q3), .second, .val (.long q4), .second, .val (.long q5), .second, .val (.long (q1 &&& (4611686018427387903 : Int64))), .second, .val (.long (q2 &&& (4611686018427387903 : Int64))), .second, .val (.long ((q1 &&& (4611686018427387903 : Int64)) + (q2 &&& (4611686018427387903 : Int64)))), .second, .val (.long (q0 ^^^ q2)), .second, .val (.long q5), .second, .val (.long ((q5 ^^^ q3) ^^^ q4)), .second, .val (.int (0 : Int32)), .val (.ref b1), .unset, .unset, .unset, .unset, .unset, .unset] [(.long (q1 &&& (4611686018427387903 : Int64))), (.long q0), (.ref b1)])) _
      refine XS.lload X623.here hx rfl (hb hby at_69) rfl ?_
      show Steps p.tables e below (T623.setTop (mkF m 71 #[.val (.long q0), .second, .val (.long q1), .second, .val (.long q2), .second, .val (.long q3), .second, .val (.long q4), .second, .val (.long q5), .second, .val (.long (q1 &&& (4611686018427387903 : Int64))), .second, .val (.long (q2 &&& (4611686018427387903 : Int64))), .second, .val (.long ((q1 &&& (4611686018427387903 : Int64)) + (q2 &&& (4611686018427387903 : Int64)))), .second, .val (.long (q0 ^^^ q2)), .second, .val (.long q5), .second, .val (.long ((q5 ^^^ q3) ^^^ q4)), .second, .val (.int (0 : Int32)), .val (.ref b1), .unset, .unset, .unset, .unset, .unset, .unset] [(.long q3), (.long (q1 &&& (4611686018427387903 : Int64))), (.long q0), (.ref b1)])) _
      refine XS.lload X623.here hx rfl (hb hby at_71) rfl ?_
      show Steps p.tables e below (T623.setTop (mkF m 73 #[.val (.long q0), .second, .val (.long q1), .second, .val (.long q2), .second, .val (.long q3), .second, .val (.long q4), .second, .val (.long q5), .second, .val (.long (q1 &&& (4611686018427387903 : Int64))), .second, .val (.long (q2 &&& (4611686018427387903 : Int64))), .second, .val (.long ((q1 &&& (4611686018427387903 : Int64)) + (q2 &&& (4611686018427387903 : Int64)))), .second, .val (.long (q0 ^^^ q2)), .second, .val (.long q5), .second, .val (.long ((q5 ^^^ q3) ^^^ q4)), .second, .val (.int (0 : Int32)), .val (.ref b1), .unset, .unset, .unset, .unset, .unset, .unset] [(.long q4), (.long q3), (.long (q1 &&& (4611686018427387903 : Int64))), (.long q0), (.ref b1)])) _
      refine st626.trans ?_
      show Steps p.tables e below (T626.setTop (mkF m 76 #[.val (.long q0), .second, .val (.long q1), .second, .val (.long q2), .second, .val (.long q3), .second, .val (.long q4), .second, .val (.long q5), .second, .val (.long (q1 &&& (4611686018427387903 : Int64))), .second, .val (.long (q2 &&& (4611686018427387903 : Int64))), .second, .val (.long ((q1 &&& (4611686018427387903 : Int64)) + (q2 &&& (4611686018427387903 : Int64)))), .second, .val (.long (q0 ^^^ q2)), .second, .val (.long q5), .second, .val (.long ((q5 ^^^ q3) ^^^ q4)), .second, .val (.int (0 : Int32)), .val (.ref b1), .unset, .unset, .unset, .unset, .unset, .unset] [])) _
      refine XS.iload X626.here hx rfl (hb hby at_76) rfl ?_
      show Steps p.tables e below (T626.setTop (mkF m 78 #[.val (.long q0), .second, .val (.long q1), .second, .val (.long q2), .second, .val (.long q3), .second, .val (.long q4), .second, .val (.long q5), .second, .val (.long (q1 &&& (4611686018427387903 : Int64))), .second, .val (.long (q2 &&& (4611686018427387903 : Int64))), .second, .val (.long ((q1 &&& (4611686018427387903 : Int64)) + (q2 &&& (4611686018427387903 : Int64)))), .second, .val (.long (q0 ^^^ q2)), .second, .val (.long q5), .second, .val (.long ((q5 ^^^ q3) ^^^ q4)), .second, .val (.int (0 : Int32)), .val (.ref b1), .unset, .unset, .unset, .unset, .unset, .unset] [(.int (0 : Int32))])) _
      refine XS.ifYes X626.here hx rfl (pc0 := 78) (pc' := 86) rfl (hb hby at_78) rfl ((if0 _ _).trans (teq (by decide)).1) (by decide) (by decide) ?_
      show Steps p.tables e below (T626.setTop (mkF m 86 #[.val (.long q0), .second, .val (.long q1), .second, .val (.long q2), .second, .val (.long q3), .second, .val (.long q4), .second, .val (.long q5), .second, .val (.long (q1 &&& (4611686018427387903 : Int64))), .second, .val (.long (q2 &&& (4611686018427387903 : Int64))), .second, .val (.long ((q1 &&& (4611686018427387903 : Int64)) + (q2 &&& (4611686018427387903 : Int64)))), .second, .val (.long (q0 ^^^ q2)), .second, .val (.long q5), .second, .val (.long ((q5 ^^^ q3) ^^^ q4)), .second, .val (.int (0 : Int32)), .val (.ref b1), .unset, .unset, .unset, .unset, .unset, .unset] [])) _
      refine XS.aload X626.here hx rfl (hb hby at_86) rfl rfl ?_
      show Steps p.tables e below (T626.setTop (mkF m 88 #[.val (.long q0), .second, .val (.long q1), .second, .val (.long q2), .second, .val (.long q3), .second, .val (.long q4), .second, .val (.long q5), .second, .val (.long (q1 &&& (4611686018427387903 : Int64))), .second, .val (.long (q2 &&& (4611686018427387903 : Int64))), .second, .val (.long ((q1 &&& (4611686018427387903 : Int64)) + (q2 &&& (4611686018427387903 : Int64)))), .second, .val (.long (q0 ^^^ q2)), .second, .val (.long q5), .second, .val (.long ((q5 ^^^ q3) ^^^ q4)), .second, .val (.int (0 : Int32)), .val (.ref b1), .unset, .unset, .unset, .unset, .unset, .unset] [(.ref b1)])) _
      refine XS.lload X626.here hx rfl (hb hby at_88) rfl ?_
      show Steps p.tables e below (T626.setTop (mkF m 90 #[.val (.long q0), .second, .val (.long q1), .second, .val (.long q2), .second, .val (.long q3), .second, .val (.long q4), .second, .val (.long q5), .second, .val (.long (q1 &&& (4611686018427387903 : Int64))), .second, .val (.long (q2 &&& (4611686018427387903 : Int64))), .second, .val (.long ((q1 &&& (4611686018427387903 : Int64)) + (q2 &&& (4611686018427387903 : Int64)))), .second, .val (.long (q0 ^^^ q2)), .second, .val (.long q5), .second, .val (.long ((q5 ^^^ q3) ^^^ q4)), .second, .val (.int (0 : Int32)), .val (.ref b1), .unset, .unset, .unset, .unset, .unset, .unset] [(.long (q0 ^^^ q2)), (.ref b1)])) _
      refine XS.lload X626.here hx rfl (hb hby at_90) rfl ?_
      show Steps p.tables e below (T626.setTop (mkF m 92 #[.val (.long q0), .second, .val (.long q1), .second, .val (.long q2), .second, .val (.long q3), .second, .val (.long q4), .second, .val (.long q5), .second, .val (.long (q1 &&& (4611686018427387903 : Int64))), .second, .val (.long (q2 &&& (4611686018427387903 : Int64))), .second, .val (.long ((q1 &&& (4611686018427387903 : Int64)) + (q2 &&& (4611686018427387903 : Int64)))), .second, .val (.long (q0 ^^^ q2)), .second, .val (.long q5), .second, .val (.long ((q5 ^^^ q3) ^^^ q4)), .second, .val (.int (0 : Int32)), .val (.ref b1), .unset, .unset, .unset, .unset, .unset, .unset] [(.long ((q1 &&& (4611686018427387903 : Int64)) + (q2 &&& (4611686018427387903 : Int64)))), (.long (q0 ^^^ q2)), (.ref b1)])) _
      refine XS.lload X626.here hx rfl (hb hby at_92) rfl ?_
      show Steps p.tables e below (T626.setTop (mkF m 94 #[.val (.long q0), .second, .val (.long q1), .second, .val (.long q2), .second, .val (.long q3), .second, .val (.long q4), .second, .val (.long q5), .second, .val (.long (q1 &&& (4611686018427387903 : Int64))), .second, .val (.long (q2 &&& (4611686018427387903 : Int64))), .second, .val (.long ((q1 &&& (4611686018427387903 : Int64)) + (q2 &&& (4611686018427387903 : Int64)))), .second, .val (.long (q0 ^^^ q2)), .second, .val (.long q5), .second, .val (.long ((q5 ^^^ q3) ^^^ q4)), .second, .val (.int (0 : Int32)), .val (.ref b1), .unset, .unset, .unset, .unset, .unset, .unset] [(.long q5), (.long ((q1 &&& (4611686018427387903 : Int64)) + (q2 &&& (4611686018427387903 : Int64)))), (.long (q0 ^^^ q2)), (.ref b1)])) _
      refine XS.lload X626.here hx rfl (hb hby at_94) rfl ?_
      show Steps p.tables e below (T626.setTop (mkF m 96 #[.val (.long q0), .second, .val (.long q1), .second, .val (.long q2), .second, .val (.long q3), .second, .val (.long q4), .second, .val (.long q5), .second, .val (.long (q1 &&& (4611686018427387903 : Int64))), .second, .val (.long (q2 &&& (4611686018427387903 : Int64))), .second, .val (.long ((q1 &&& (4611686018427387903 : Int64)) + (q2 &&& (4611686018427387903 : Int64)))), .second, .val (.long (q0 ^^^ q2)), .second, .val (.long q5), .second, .val (.long ((q5 ^^^ q3) ^^^ q4)), .second, .val (.int (0 : Int32)), .val (.ref b1), .unset, .unset, .unset, .unset, .unset, .unset] [(.long ((q5 ^^^ q3) ^^^ q4)), (.long q5), (.long ((q1 &&& (4611686018427387903 : Int64)) + (q2 &&& (4611686018427387903 : Int64)))), (.long (q0 ^^^ q2)), (.ref b1)])) _
      exact k
    by_cases hd : (q2 &&& (4611686018427387903 : Int64)) < 32768
    · obtain ⟨cq629, kq629, q629a, q629b, q629c⟩ := isOf hZ rfl E1_628
      obtain ⟨_, _, ⟨T629, L629, k629, n629⟩, -, X629, ⟨Lc629, hQ629, l629, y629, z629⟩, st629⟩ := X626.virtualBack hx (y := (⟨"com/example/uplog/uplog/SegmentIndex", "add", "(JJJJ)V"⟩ : MethodName)) (z := (⟨"com/example/uplog/uplog/SegmentIndex", "add", "(JJJJ)V"⟩ : MethodName)) hown (mvT hZ (hw _ (List.mem_of_getElem? (i := 19) rfl))) (mvT hZ (hw _ (List.mem_of_getElem? (i := 20) rfl))) (notFace_of_selects (args := #[]) (mvT hZ (hw _ (List.mem_of_getElem? (i := 22) rfl)))) (mvT hZ (hw _ (List.mem_of_getElem? (i := 22) rfl))) (mvT hZ (hw _ (List.mem_of_getElem? (i := 21) rfl))) (by decide) (backOf (W := 0) (rmaB8 l Z a0 hw [] b1 (q0 ^^^ q2) ((q1 &&& (4611686018427387903 : Int64)) + (q2 &&& (4611686018427387903 : Int64))) q5 ((q5 ^^^ q3) ^^^ q4) a2 a3 a4 a5 k2 k3 k4 k5 q0 (q1 &&& (4611686018427387903 : Int64)) q3 q4 T626.heap n0 zh626 GB (own_dist _ _ hd)) hZ (hw _ (List.mem_of_getElem? (i := 23) rfl)) (hw _ (List.mem_of_getElem? (i := 3) rfl)) (by decide) (by decide)) q629a q629c (g := (mkF m 96 #[.val (.long q0), .second, .val (.long q1), .second, .val (.long q2), .second, .val (.long q3), .second, .val (.long q4), .second, .val (.long q5), .second, .val (.long (q1 &&& (4611686018427387903 : Int64))), .second, .val (.long (q2 &&& (4611686018427387903 : Int64))), .second, .val (.long ((q1 &&& (4611686018427387903 : Int64)) + (q2 &&& (4611686018427387903 : Int64)))), .second, .val (.long (q0 ^^^ q2)), .second, .val (.long q5), .second, .val (.long ((q5 ^^^ q3) ^^^ q4)), .second, .val (.int (0 : Int32)), .val (.ref b1), .unset, .unset, .unset, .unset, .unset, .unset] [(.long ((q5 ^^^ q3) ^^^ q4)), (.long q5), (.long ((q1 &&& (4611686018427387903 : Int64)) + (q2 &&& (4611686018427387903 : Int64)))), (.long (q0 ^^^ q2)), (.ref b1)])) rfl (by rw [hml]; rfl) (Steps.refl _) (argsL := [(.long (q0 ^^^ q2)), (.long ((q1 &&& (4611686018427387903 : Int64)) + (q2 &&& (4611686018427387903 : Int64)))), (.long q5), (.long ((q5 ^^^ q3) ^^^ q4))]) (rest := []) (lenOf pd_5 rfl) rfl (by show 2 * 0 + _ ≤ _; exact Nat.le_of_eq rfl) (hb hby at_96) (fun _ _ => ⟨rfl, rfl, (by decide : 5 + 0 ≤ _), (by decide : 37 + 0 ≤ _)⟩)
      dsimp only [Pt.U, Pt.locs, Pt.cells, Pt.slots] at X629 l629 y629 z629 st629 hQ629
      subst l629 y629 z629
      obtain ⟨rfl, N629q, K629, Gs629⟩ := hQ629
      have N629 := Fr.app N626 N629q
      have E1_630 := E1_628.keep K629
      have zh629 : n0 ≤ T629.heap.size := Nat.le_trans zh626 K629.1
      obtain ⟨E1_631, Fc_631, Fa2_631, Fa3_631, Fa4_631, Fa5_631, Va2_631, Va3_631, Va4_631, Va5_631, da2a3_631, da2a4_631, da2a5_631, da3a4_631, da3a5_631, da4a5_631, lo1_631, loa2_631, loa3_631, loa4_631, loa5_631⟩ := Gs629
      have ne1a2_631 : b1 ≠ a2 := Exa.neArv E1_631 Va2_631 (hw _ (List.mem_of_getElem? (i := 2) rfl))
      have ne1a3_631 : b1 ≠ a3 := Exa.neArv E1_631 Va3_631 (hw _ (List.mem_of_getElem? (i := 2) rfl))
      have ne1a4_631 : b1 ≠ a4 := Exa.neArv E1_631 Va4_631 (hw _ (List.mem_of_getElem? (i := 2) rfl))
      have ne1a5_631 : b1 ≠ a5 := Exa.neArv E1_631 Va5_631 (hw _ (List.mem_of_getElem? (i := 2) rfl))
      obtain ⟨_, _, ⟨T632, L632, k632, n632⟩, -, X632, ⟨Lc632, hQ632, l632, y632, z632⟩, st632⟩ := Jvm.LawKit.callS X629 hx (y := (⟨"java/lang/Math", "max", "(JJ)J"⟩ : MethodName)) hown (mvT hZ (hw _ (List.mem_of_getElem? (i := 57) rfl))) (mvT hZ (hw _ (List.mem_of_getElem? (i := 54) rfl))) (mvT hZ (hw _ (List.mem_of_getElem? (i := 55) rfl))) (mvT hZ (hw _ (List.mem_of_getElem? (i := 56) rfl))) (by decide) (backOf (W := 0) (rm9 l Z a0 hw [] q3 q5 T629.heap n0 zh629) hZ (hw _ (List.mem_of_getElem? (i := 56) rfl)) (hw _ (List.mem_of_getElem? (i := 55) rfl)) (by decide) (by decide)) (g := (mkF m 141 #[.val (.long q0), .second, .val (.long q1), .second, .val (.long q2), .second, .val (.long q3), .second, .val (.long q4), .second, .val (.long q5), .second, .val (.long (q1 &&& (4611686018427387903 : Int64))), .second, .val (.long (q2 &&& (4611686018427387903 : Int64))), .second, .val (.long ((q1 &&& (4611686018427387903 : Int64)) + (q2 &&& (4611686018427387903 : Int64)))), .second, .val (.long (q0 ^^^ q2)), .second, .val (.long q5), .second, .val (.long ((q5 ^^^ q3) ^^^ q4)), .second, .val (.int (0 : Int32)), .val (.ref b1), .val (.int (0 : Int32)), .val (.int (1 : Int32)), .unset, .unset, .unset, .unset] [(.long q5), (.long q3)])) rfl (by rw [hml]; rfl) (argsL := [(.long q3), (.long q5)]) (rest := []) (lenOf pd_3 rfl) rfl (by show 2 * 0 + _ ≤ _; exact Nat.le_of_eq rfl) (hb hby at_141) (fun _ _ => ⟨rfl, rfl, (by decide : 5 + 0 ≤ _), (by decide : 37 + 0 ≤ _)⟩)
      dsimp only [Pt.U, Pt.locs, Pt.cells, Pt.slots] at X632 l632 y632 z632 st632 hQ632
      subst l632 y632 z632
      obtain ⟨rfl, N632q, hh632⟩ := hQ632
      have N632 := Fr.app N629 N632q
      obtain ⟨_, _, ⟨T633, L633, k633, n633⟩, -, X633, ⟨Lc633, hQ633, l633, y633, z633⟩, st633⟩ := Jvm.LawKit.callS X632 hx (y := (⟨"java/lang/Math", "max", "(JJ)J"⟩ : MethodName)) hown (mvT hZ (hw _ (List.mem_of_getElem? (i := 57) rfl))) (mvT hZ (hw _ (List.mem_of_getElem? (i := 54) rfl))) (mvT hZ (hw _ (List.mem_of_getElem? (i := 55) rfl))) (mvT hZ (hw _ (List.mem_of_getElem? (i := 56) rfl))) (by decide) (backOf (W := 0) (rm9 l Z a0 hw [] q4 ((q5 ^^^ q3) ^^^ q4) T629.heap n0 zh629) hZ (hw _ (List.mem_of_getElem? (i := 56) rfl)) (hw _ (List.mem_of_getElem? (i := 55) rfl)) (by decide) (by decide)) (g := (mkF m 160 #[.val (.long q0), .second, .val (.long q1), .second, .val (.long q2), .second, .val (.long q3), .second, .val (.long q4), .second, .val (.long q5), .second, .val (.long (q1 &&& (4611686018427387903 : Int64))), .second, .val (.long (q2 &&& (4611686018427387903 : Int64))), .second, .val (.long ((q1 &&& (4611686018427387903 : Int64)) + (q2 &&& (4611686018427387903 : Int64)))), .second, .val (.long (q0 ^^^ q2)), .second, .val (.long q5), .second, .val (.long ((q5 ^^^ q3) ^^^ q4)), .second, .val (.int (0 : Int32)), .val (.ref b1), .val (.int (0 : Int32)), .val (.int (1 : Int32)), .val (.long (B9_0 q3 q5)), .second, .unset, .unset] [(.long ((q5 ^^^ q3) ^^^ q4)), (.long q4)])) rfl (by rw [hml]; rfl) (argsL := [(.long q4), (.long ((q5 ^^^ q3) ^^^ q4))]) (rest := []) (lenOf pd_3 rfl) rfl (by show 2 * 0 + _ ≤ _; exact Nat.le_of_eq rfl) (hb hby at_160) (fun _ _ => ⟨rfl, hh632, (by decide : 5 + 0 ≤ _), (by decide : 37 + 0 ≤ _)⟩)
      dsimp only [Pt.U, Pt.locs, Pt.cells, Pt.slots] at X633 l633 y633 z633 st633 hQ633
      subst l633 y633 z633
      obtain ⟨rfl, N633q, hh633⟩ := hQ633
      have N633 := Fr.app N632 N633q
      obtain ⟨cq634, kq634, q634a, q634b, q634c⟩ := isOf hZ hh633 E1_631
      obtain ⟨_, _, ⟨T634, L634, k634, n634⟩, -, X634, ⟨Lc634, hQ634, l634, y634, z634⟩, st634⟩ := X633.virtualBack hx (y := (⟨"com/example/uplog/uplog/SegmentIndex", "count", "()I"⟩ : MethodName)) (z := (⟨"com/example/uplog/uplog/SegmentIndex", "count", "()I"⟩ : MethodName)) hown (mvT hZ (hw _ (List.mem_of_getElem? (i := 28) rfl))) (mvT hZ (hw _ (List.mem_of_getElem? (i := 29) rfl))) (notFace_of_selects (args := #[]) (mvT hZ (hw _ (List.mem_of_getElem? (i := 31) rfl)))) (mvT hZ (hw _ (List.mem_of_getElem? (i := 31) rfl))) (mvT hZ (hw _ (List.mem_of_getElem? (i := 30) rfl))) (by decide) (backOf (W := 0) (rm4 l Z a0 hw [] b1 (1 : Int32) T629.heap n0 zh629 Fc_631) hZ (hw _ (List.mem_of_getElem? (i := 32) rfl)) (hw _ (List.mem_of_getElem? (i := 3) rfl)) (by decide) (by decide)) q634a q634c (g := (mkF m 167 #[.val (.long q0), .second, .val (.long q1), .second, .val (.long q2), .second, .val (.long q3), .second, .val (.long q4), .second, .val (.long q5), .second, .val (.long (q1 &&& (4611686018427387903 : Int64))), .second, .val (.long (q2 &&& (4611686018427387903 : Int64))), .second, .val (.long ((q1 &&& (4611686018427387903 : Int64)) + (q2 &&& (4611686018427387903 : Int64)))), .second, .val (.long (q0 ^^^ q2)), .second, .val (.long q5), .second, .val (.long ((q5 ^^^ q3) ^^^ q4)), .second, .val (.int (0 : Int32)), .val (.ref b1), .val (.int (0 : Int32)), .val (.int (1 : Int32)), .val (.long (B9_0 q3 q5)), .second, .val (.long (B9_0 q4 ((q5 ^^^ q3) ^^^ q4))), .second] [(.ref b1)])) rfl (by rw [hml]; rfl) (Steps.refl _) (argsL := []) (rest := []) (lenOf pd_6 rfl) rfl (by show 2 * 0 + _ ≤ _; exact Nat.le_of_eq rfl) (hb hby at_167) (fun _ _ => ⟨rfl, hh633, (by decide : 5 + 0 ≤ _), (by decide : 37 + 0 ≤ _)⟩)
      dsimp only [Pt.U, Pt.locs, Pt.cells, Pt.slots] at X634 l634 y634 z634 st634 hQ634
      subst l634 y634 z634
      obtain ⟨rfl, N634q, hh634⟩ := hQ634
      have N634 := Fr.app N633 N634q
      obtain ⟨cq635, kq635, q635a, q635b, q635c⟩ := isOf hZ hh634 E1_631
      obtain ⟨_, _, ⟨T635, L635, k635, n635⟩, -, X635, ⟨Lc635, hQ635, l635, y635, z635⟩, st635⟩ := X634.virtualBack hx (y := (⟨"com/example/uplog/uplog/SegmentIndex", "offset", "(I)J"⟩ : MethodName)) (z := (⟨"com/example/uplog/uplog/SegmentIndex", "offset", "(I)J"⟩ : MethodName)) hown (mvT hZ (hw _ (List.mem_of_getElem? (i := 33) rfl))) (mvT hZ (hw _ (List.mem_of_getElem? (i := 34) rfl))) (notFace_of_selects (args := #[]) (mvT hZ (hw _ (List.mem_of_getElem? (i := 36) rfl)))) (mvT hZ (hw _ (List.mem_of_getElem? (i := 36) rfl))) (mvT hZ (hw _ (List.mem_of_getElem? (i := 35) rfl))) (by decide) (backOf (W := 0) (rm5 l Z a0 hw [] b1 (0 : Int32) a2 k2 (8 : Int32) [(.long q0), (.long (0 : Int64)), (.long (0 : Int64)), (.long (0 : Int64)), (.long (0 : Int64)), (.long (0 : Int64)), (.long (0 : Int64)), (.long (0 : Int64))] q0 T629.heap n0 zh629 Fa2_631 Va2_631 ⟨by decide, by decide⟩ rfl) hZ (hw _ (List.mem_of_getElem? (i := 37) rfl)) (hw _ (List.mem_of_getElem? (i := 3) rfl)) (by decide) (by decide)) q635a q635c (g := (mkF m 180 #[.val (.long q0), .second, .val (.long q1), .second, .val (.long q2), .second, .val (.long q3), .second, .val (.long q4), .second, .val (.long q5), .second, .val (.long (q1 &&& (4611686018427387903 : Int64))), .second, .val (.long (q2 &&& (4611686018427387903 : Int64))), .second, .val (.long ((q1 &&& (4611686018427387903 : Int64)) + (q2 &&& (4611686018427387903 : Int64)))), .second, .val (.long (q0 ^^^ q2)), .second, .val (.long q5), .second, .val (.long ((q5 ^^^ q3) ^^^ q4)), .second, .val (.int (0 : Int32)), .val (.ref b1), .val (.int (0 : Int32)), .val (.int (1 : Int32)), .val (.long (B9_0 q3 q5)), .second, .val (.long (B9_0 q4 ((q5 ^^^ q3) ^^^ q4))), .second] [(.int (0 : Int32)), (.ref b1)])) rfl (by rw [hml]; rfl) (Steps.refl _) (argsL := [(.int (0 : Int32))]) (rest := []) (lenOf pd_7 rfl) rfl (by show 2 * 0 + _ ≤ _; exact Nat.le_of_eq rfl) (hb hby at_180) (fun _ _ => ⟨rfl, hh634, (by decide : 5 + 0 ≤ _), (by decide : 37 + 0 ≤ _)⟩)
      dsimp only [Pt.U, Pt.locs, Pt.cells, Pt.slots] at X635 l635 y635 z635 st635 hQ635
      subst l635 y635 z635
      obtain ⟨rfl, N635q, hh635⟩ := hQ635
      have N635 := Fr.app N634 N635q
      obtain ⟨cq636, kq636, q636a, q636b, q636c⟩ := isOf hZ hh635 E1_631
      obtain ⟨_, _, ⟨T636, L636, k636, n636⟩, -, X636, ⟨Lc636, hQ636, l636, y636, z636⟩, st636⟩ := X635.virtualBack hx (y := (⟨"com/example/uplog/uplog/SegmentIndex", "position", "(I)J"⟩ : MethodName)) (z := (⟨"com/example/uplog/uplog/SegmentIndex", "position", "(I)J"⟩ : MethodName)) hown (mvT hZ (hw _ (List.mem_of_getElem? (i := 38) rfl))) (mvT hZ (hw _ (List.mem_of_getElem? (i := 39) rfl))) (notFace_of_selects (args := #[]) (mvT hZ (hw _ (List.mem_of_getElem? (i := 41) rfl)))) (mvT hZ (hw _ (List.mem_of_getElem? (i := 41) rfl))) (mvT hZ (hw _ (List.mem_of_getElem? (i := 40) rfl))) (by decide) (backOf (W := 0) (rm6 l Z a0 hw [] b1 (0 : Int32) a3 k3 (8 : Int32) [(.long (q1 &&& (4611686018427387903 : Int64))), (.long (0 : Int64)), (.long (0 : Int64)), (.long (0 : Int64)), (.long (0 : Int64)), (.long (0 : Int64)), (.long (0 : Int64)), (.long (0 : Int64))] (q1 &&& (4611686018427387903 : Int64)) T629.heap n0 zh629 Fa3_631 Va3_631 ⟨by decide, by decide⟩ rfl) hZ (hw _ (List.mem_of_getElem? (i := 42) rfl)) (hw _ (List.mem_of_getElem? (i := 3) rfl)) (by decide) (by decide)) q636a q636c (g := (mkF m 191 #[.val (.long q0), .second, .val (.long q1), .second, .val (.long q2), .second, .val (.long q3), .second, .val (.long q4), .second, .val (.long q5), .second, .val (.long (q1 &&& (4611686018427387903 : Int64))), .second, .val (.long (q2 &&& (4611686018427387903 : Int64))), .second, .val (.long ((q1 &&& (4611686018427387903 : Int64)) + (q2 &&& (4611686018427387903 : Int64)))), .second, .val (.long (q0 ^^^ q2)), .second, .val (.long q5), .second, .val (.long ((q5 ^^^ q3) ^^^ q4)), .second, .val (.int (0 : Int32)), .val (.ref b1), .val (.int (0 : Int32)), .val (.int (1 : Int32)), .val (.long (B9_0 q3 q5)), .second, .val (.long (B9_0 q4 ((q5 ^^^ q3) ^^^ q4))), .second] [(.int (0 : Int32)), (.ref b1)])) rfl (by rw [hml]; rfl) (Steps.refl _) (argsL := [(.int (0 : Int32))]) (rest := []) (lenOf pd_7 rfl) rfl (by show 2 * 0 + _ ≤ _; exact Nat.le_of_eq rfl) (hb hby at_191) (fun _ _ => ⟨rfl, hh635, (by decide : 5 + 0 ≤ _), (by decide : 37 + 0 ≤ _)⟩)
      dsimp only [Pt.U, Pt.locs, Pt.cells, Pt.slots] at X636 l636 y636 z636 st636 hQ636
      subst l636 y636 z636
      obtain ⟨rfl, N636q, hh636⟩ := hQ636
      have N636 := Fr.app N635 N636q
      obtain ⟨cq637, kq637, q637a, q637b, q637c⟩ := isOf hZ hh636 E1_631
      obtain ⟨_, _, ⟨T637, L637, k637, n637⟩, -, X637, ⟨Lc637, hQ637, l637, y637, z637⟩, st637⟩ := X636.virtualBack hx (y := (⟨"com/example/uplog/uplog/SegmentIndex", "maxTimestamp", "(I)J"⟩ : MethodName)) (z := (⟨"com/example/uplog/uplog/SegmentIndex", "maxTimestamp", "(I)J"⟩ : MethodName)) hown (mvT hZ (hw _ (List.mem_of_getElem? (i := 43) rfl))) (mvT hZ (hw _ (List.mem_of_getElem? (i := 44) rfl))) (notFace_of_selects (args := #[]) (mvT hZ (hw _ (List.mem_of_getElem? (i := 46) rfl)))) (mvT hZ (hw _ (List.mem_of_getElem? (i := 46) rfl))) (mvT hZ (hw _ (List.mem_of_getElem? (i := 45) rfl))) (by decide) (backOf (W := 0) (rm7 l Z a0 hw [] b1 (0 : Int32) a4 k4 (8 : Int32) [(.long (B9_0 q3 q5)), (.long (0 : Int64)), (.long (0 : Int64)), (.long (0 : Int64)), (.long (0 : Int64)), (.long (0 : Int64)), (.long (0 : Int64)), (.long (0 : Int64))] (B9_0 q3 q5) T629.heap n0 zh629 Fa4_631 Va4_631 ⟨by decide, by decide⟩ rfl) hZ (hw _ (List.mem_of_getElem? (i := 47) rfl)) (hw _ (List.mem_of_getElem? (i := 3) rfl)) (by decide) (by decide)) q637a q637c (g := (mkF m 205 #[.val (.long q0), .second, .val (.long q1), .second, .val (.long q2), .second, .val (.long q3), .second, .val (.long q4), .second, .val (.long q5), .second, .val (.long (q1 &&& (4611686018427387903 : Int64))), .second, .val (.long (q2 &&& (4611686018427387903 : Int64))), .second, .val (.long ((q1 &&& (4611686018427387903 : Int64)) + (q2 &&& (4611686018427387903 : Int64)))), .second, .val (.long (q0 ^^^ q2)), .second, .val (.long q5), .second, .val (.long ((q5 ^^^ q3) ^^^ q4)), .second, .val (.int (0 : Int32)), .val (.ref b1), .val (.int (0 : Int32)), .val (.int (1 : Int32)), .val (.long (B9_0 q3 q5)), .second, .val (.long (B9_0 q4 ((q5 ^^^ q3) ^^^ q4))), .second] [(.int (0 : Int32)), (.ref b1)])) rfl (by rw [hml]; rfl) (Steps.refl _) (argsL := [(.int (0 : Int32))]) (rest := []) (lenOf pd_7 rfl) rfl (by show 2 * 0 + _ ≤ _; exact Nat.le_of_eq rfl) (hb hby at_205) (fun _ _ => ⟨rfl, hh636, (by decide : 5 + 0 ≤ _), (by decide : 37 + 0 ≤ _)⟩)
      dsimp only [Pt.U, Pt.locs, Pt.cells, Pt.slots] at X637 l637 y637 z637 st637 hQ637
      subst l637 y637 z637
      obtain ⟨rfl, N637q, hh637⟩ := hQ637
      have N637 := Fr.app N636 N637q
      obtain ⟨cq638, kq638, q638a, q638b, q638c⟩ := isOf hZ hh637 E1_631
      obtain ⟨_, _, ⟨T638, L638, k638, n638⟩, -, X638, ⟨Lc638, hQ638, l638, y638, z638⟩, st638⟩ := X637.virtualBack hx (y := (⟨"com/example/uplog/uplog/SegmentIndex", "writtenAt", "(I)J"⟩ : MethodName)) (z := (⟨"com/example/uplog/uplog/SegmentIndex", "writtenAt", "(I)J"⟩ : MethodName)) hown (mvT hZ (hw _ (List.mem_of_getElem? (i := 48) rfl))) (mvT hZ (hw _ (List.mem_of_getElem? (i := 49) rfl))) (notFace_of_selects (args := #[]) (mvT hZ (hw _ (List.mem_of_getElem? (i := 51) rfl)))) (mvT hZ (hw _ (List.mem_of_getElem? (i := 51) rfl))) (mvT hZ (hw _ (List.mem_of_getElem? (i := 50) rfl))) (by decide) (backOf (W := 0) (rm8 l Z a0 hw [] b1 (0 : Int32) a5 k5 (8 : Int32) [(.long (B9_0 q4 ((q5 ^^^ q3) ^^^ q4))), (.long (0 : Int64)), (.long (0 : Int64)), (.long (0 : Int64)), (.long (0 : Int64)), (.long (0 : Int64)), (.long (0 : Int64)), (.long (0 : Int64))] (B9_0 q4 ((q5 ^^^ q3) ^^^ q4)) T629.heap n0 zh629 Fa5_631 Va5_631 ⟨by decide, by decide⟩ rfl) hZ (hw _ (List.mem_of_getElem? (i := 52) rfl)) (hw _ (List.mem_of_getElem? (i := 3) rfl)) (by decide) (by decide)) q638a q638c (g := (mkF m 217 #[.val (.long q0), .second, .val (.long q1), .second, .val (.long q2), .second, .val (.long q3), .second, .val (.long q4), .second, .val (.long q5), .second, .val (.long (q1 &&& (4611686018427387903 : Int64))), .second, .val (.long (q2 &&& (4611686018427387903 : Int64))), .second, .val (.long ((q1 &&& (4611686018427387903 : Int64)) + (q2 &&& (4611686018427387903 : Int64)))), .second, .val (.long (q0 ^^^ q2)), .second, .val (.long q5), .second, .val (.long ((q5 ^^^ q3) ^^^ q4)), .second, .val (.int (0 : Int32)), .val (.ref b1), .val (.int (0 : Int32)), .val (.int (1 : Int32)), .val (.long (B9_0 q3 q5)), .second, .val (.long (B9_0 q4 ((q5 ^^^ q3) ^^^ q4))), .second] [(.int (0 : Int32)), (.ref b1)])) rfl (by rw [hml]; rfl) (Steps.refl _) (argsL := [(.int (0 : Int32))]) (rest := []) (lenOf pd_7 rfl) rfl (by show 2 * 0 + _ ≤ _; exact Nat.le_of_eq rfl) (hb hby at_217) (fun _ _ => ⟨rfl, hh637, (by decide : 5 + 0 ≤ _), (by decide : 37 + 0 ≤ _)⟩)
      dsimp only [Pt.U, Pt.locs, Pt.cells, Pt.slots] at X638 l638 y638 z638 st638 hQ638
      subst l638 y638 z638
      obtain ⟨rfl, N638q, hh638⟩ := hQ638
      have N638 := Fr.app N637 N638q
      refine own_Go.mono (T' := T638) (f' := (mkF m 286 #[.val (.long q0), .second, .val (.long q1), .second, .val (.long q2), .second, .val (.long q3), .second, .val (.long q4), .second, .val (.long q5), .second, .val (.long (q1 &&& (4611686018427387903 : Int64))), .second, .val (.long (q2 &&& (4611686018427387903 : Int64))), .second, .val (.long ((q1 &&& (4611686018427387903 : Int64)) + (q2 &&& (4611686018427387903 : Int64)))), .second, .val (.long (q0 ^^^ q2)), .second, .val (.long q5), .second, .val (.long ((q5 ^^^ q3) ^^^ q4)), .second, .val (.int (0 : Int32)), .val (.ref b1), .val (.int (0 : Int32)), .val (.int (1 : Int32)), .val (.long (B9_0 q3 q5)), .second, .val (.long (B9_0 q4 ((q5 ^^^ q3) ^^^ q4))), .second] [(.int (1 : Int32))])) (fun t k => ?_) ?_
      · show Steps p.tables e below (T626.setTop (mkF m 96 #[.val (.long q0), .second, .val (.long q1), .second, .val (.long q2), .second, .val (.long q3), .second, .val (.long q4), .second, .val (.long q5), .second, .val (.long (q1 &&& (4611686018427387903 : Int64))), .second, .val (.long (q2 &&& (4611686018427387903 : Int64))), .second, .val (.long ((q1 &&& (4611686018427387903 : Int64)) + (q2 &&& (4611686018427387903 : Int64)))), .second, .val (.long (q0 ^^^ q2)), .second, .val (.long q5), .second, .val (.long ((q5 ^^^ q3) ^^^ q4)), .second, .val (.int (0 : Int32)), .val (.ref b1), .unset, .unset, .unset, .unset, .unset, .unset] [(.long ((q5 ^^^ q3) ^^^ q4)), (.long q5), (.long ((q1 &&& (4611686018427387903 : Int64)) + (q2 &&& (4611686018427387903 : Int64)))), (.long (q0 ^^^ q2)), (.ref b1)])) _
        refine st629.trans ?_
        show Steps p.tables e below (T629.setTop (mkF m 99 #[.val (.long q0), .second, .val (.long q1), .second, .val (.long q2), .second, .val (.long q3), .second, .val (.long q4), .second, .val (.long q5), .second, .val (.long (q1 &&& (4611686018427387903 : Int64))), .second, .val (.long (q2 &&& (4611686018427387903 : Int64))), .second, .val (.long ((q1 &&& (4611686018427387903 : Int64)) + (q2 &&& (4611686018427387903 : Int64)))), .second, .val (.long (q0 ^^^ q2)), .second, .val (.long q5), .second, .val (.long ((q5 ^^^ q3) ^^^ q4)), .second, .val (.int (0 : Int32)), .val (.ref b1), .unset, .unset, .unset, .unset, .unset, .unset] [])) _
        refine XS.lload X629.here hx rfl (hb hby at_99) rfl ?_
        show Steps p.tables e below (T629.setTop (mkF m 101 #[.val (.long q0), .second, .val (.long q1), .second, .val (.long q2), .second, .val (.long q3), .second, .val (.long q4), .second, .val (.long q5), .second, .val (.long (q1 &&& (4611686018427387903 : Int64))), .second, .val (.long (q2 &&& (4611686018427387903 : Int64))), .second, .val (.long ((q1 &&& (4611686018427387903 : Int64)) + (q2 &&& (4611686018427387903 : Int64)))), .second, .val (.long (q0 ^^^ q2)), .second, .val (.long q5), .second, .val (.long ((q5 ^^^ q3) ^^^ q4)), .second, .val (.int (0 : Int32)), .val (.ref b1), .unset, .unset, .unset, .unset, .unset, .unset] [(.long (q2 &&& (4611686018427387903 : Int64)))])) _
        refine X629.ldc2Long hx hown (mvT hZ (hw _ (List.mem_of_getElem? (i := 27) rfl))) (g := (mkF m 101 #[.val (.long q0), .second, .val (.long q1), .second, .val (.long q2), .second, .val (.long q3), .second, .val (.long q4), .second, .val (.long q5), .second, .val (.long (q1 &&& (4611686018427387903 : Int64))), .second, .val (.long (q2 &&& (4611686018427387903 : Int64))), .second, .val (.long ((q1 &&& (4611686018427387903 : Int64)) + (q2 &&& (4611686018427387903 : Int64)))), .second, .val (.long (q0 ^^^ q2)), .second, .val (.long q5), .second, .val (.long ((q5 ^^^ q3) ^^^ q4)), .second, .val (.int (0 : Int32)), .val (.ref b1), .unset, .unset, .unset, .unset, .unset, .unset] [(.long (q2 &&& (4611686018427387903 : Int64)))])) rfl (hb hby at_101) _ ?_
        show Steps p.tables e below (T629.setTop (mkF m 104 #[.val (.long q0), .second, .val (.long q1), .second, .val (.long q2), .second, .val (.long q3), .second, .val (.long q4), .second, .val (.long q5), .second, .val (.long (q1 &&& (4611686018427387903 : Int64))), .second, .val (.long (q2 &&& (4611686018427387903 : Int64))), .second, .val (.long ((q1 &&& (4611686018427387903 : Int64)) + (q2 &&& (4611686018427387903 : Int64)))), .second, .val (.long (q0 ^^^ q2)), .second, .val (.long q5), .second, .val (.long ((q5 ^^^ q3) ^^^ q4)), .second, .val (.int (0 : Int32)), .val (.ref b1), .unset, .unset, .unset, .unset, .unset, .unset] [(.long (32768 : Int64)), (.long (q2 &&& (4611686018427387903 : Int64)))])) _
        refine XS.lcmp X629.here hx rfl (hb hby at_104) rfl ?_
        show Steps p.tables e below (T629.setTop (mkF m 105 #[.val (.long q0), .second, .val (.long q1), .second, .val (.long q2), .second, .val (.long q3), .second, .val (.long q4), .second, .val (.long q5), .second, .val (.long (q1 &&& (4611686018427387903 : Int64))), .second, .val (.long (q2 &&& (4611686018427387903 : Int64))), .second, .val (.long ((q1 &&& (4611686018427387903 : Int64)) + (q2 &&& (4611686018427387903 : Int64)))), .second, .val (.long (q0 ^^^ q2)), .second, .val (.long q5), .second, .val (.long ((q5 ^^^ q3) ^^^ q4)), .second, .val (.int (0 : Int32)), .val (.ref b1), .unset, .unset, .unset, .unset, .unset, .unset] [(.int (lcmpW (q2 &&& (4611686018427387903 : Int64)) (32768 : Int64)))])) _
        refine XS.ifYes X629.here hx rfl (pc0 := 105) (pc' := 112) rfl (hb hby at_105) rfl ((if0 _ _).trans (tlt (own_lt.mpr hd)).1) (by decide) (by decide) ?_
        show Steps p.tables e below (T629.setTop (mkF m 112 #[.val (.long q0), .second, .val (.long q1), .second, .val (.long q2), .second, .val (.long q3), .second, .val (.long q4), .second, .val (.long q5), .second, .val (.long (q1 &&& (4611686018427387903 : Int64))), .second, .val (.long (q2 &&& (4611686018427387903 : Int64))), .second, .val (.long ((q1 &&& (4611686018427387903 : Int64)) + (q2 &&& (4611686018427387903 : Int64)))), .second, .val (.long (q0 ^^^ q2)), .second, .val (.long q5), .second, .val (.long ((q5 ^^^ q3) ^^^ q4)), .second, .val (.int (0 : Int32)), .val (.ref b1), .unset, .unset, .unset, .unset, .unset, .unset] [])) _
        refine XS.iconst X629.here hx rfl (hb hby at_112) ?_
        show Steps p.tables e below (T629.setTop (mkF m 113 #[.val (.long q0), .second, .val (.long q1), .second, .val (.long q2), .second, .val (.long q3), .second, .val (.long q4), .second, .val (.long q5), .second, .val (.long (q1 &&& (4611686018427387903 : Int64))), .second, .val (.long (q2 &&& (4611686018427387903 : Int64))), .second, .val (.long ((q1 &&& (4611686018427387903 : Int64)) + (q2 &&& (4611686018427387903 : Int64)))), .second, .val (.long (q0 ^^^ q2)), .second, .val (.long q5), .second, .val (.long ((q5 ^^^ q3) ^^^ q4)), .second, .val (.int (0 : Int32)), .val (.ref b1), .unset, .unset, .unset, .unset, .unset, .unset] [(.int (0 : Int32))])) _
        refine XS.istore X629.here hx rfl (hb hby at_113) rfl (l' := #[.val (.long q0), .second, .val (.long q1), .second, .val (.long q2), .second, .val (.long q3), .second, .val (.long q4), .second, .val (.long q5), .second, .val (.long (q1 &&& (4611686018427387903 : Int64))), .second, .val (.long (q2 &&& (4611686018427387903 : Int64))), .second, .val (.long ((q1 &&& (4611686018427387903 : Int64)) + (q2 &&& (4611686018427387903 : Int64)))), .second, .val (.long (q0 ^^^ q2)), .second, .val (.long q5), .second, .val (.long ((q5 ^^^ q3) ^^^ q4)), .second, .val (.int (0 : Int32)), .val (.ref b1), .val (.int (0 : Int32)), .unset, .unset, .unset, .unset, .unset]) rfl ?_
        show Steps p.tables e below (T629.setTop (mkF m 115 #[.val (.long q0), .second, .val (.long q1), .second, .val (.long q2), .second, .val (.long q3), .second, .val (.long q4), .second, .val (.long q5), .second, .val (.long (q1 &&& (4611686018427387903 : Int64))), .second, .val (.long (q2 &&& (4611686018427387903 : Int64))), .second, .val (.long ((q1 &&& (4611686018427387903 : Int64)) + (q2 &&& (4611686018427387903 : Int64)))), .second, .val (.long (q0 ^^^ q2)), .second, .val (.long q5), .second, .val (.long ((q5 ^^^ q3) ^^^ q4)), .second, .val (.int (0 : Int32)), .val (.ref b1), .val (.int (0 : Int32)), .unset, .unset, .unset, .unset, .unset] [])) _
        refine XS.iload X629.here hx rfl (hb hby at_115) rfl ?_
        show Steps p.tables e below (T629.setTop (mkF m 117 #[.val (.long q0), .second, .val (.long q1), .second, .val (.long q2), .second, .val (.long q3), .second, .val (.long q4), .second, .val (.long q5), .second, .val (.long (q1 &&& (4611686018427387903 : Int64))), .second, .val (.long (q2 &&& (4611686018427387903 : Int64))), .second, .val (.long ((q1 &&& (4611686018427387903 : Int64)) + (q2 &&& (4611686018427387903 : Int64)))), .second, .val (.long (q0 ^^^ q2)), .second, .val (.long q5), .second, .val (.long ((q5 ^^^ q3) ^^^ q4)), .second, .val (.int (0 : Int32)), .val (.ref b1), .val (.int (0 : Int32)), .unset, .unset, .unset, .unset, .unset] [(.int (0 : Int32))])) _
        refine XS.ifYes X629.here hx rfl (pc0 := 117) (pc' := 124) rfl (hb hby at_117) rfl ((if0 _ _).trans (teq rfl).1) (by decide) (by decide) ?_
        show Steps p.tables e below (T629.setTop (mkF m 124 #[.val (.long q0), .second, .val (.long q1), .second, .val (.long q2), .second, .val (.long q3), .second, .val (.long q4), .second, .val (.long q5), .second, .val (.long (q1 &&& (4611686018427387903 : Int64))), .second, .val (.long (q2 &&& (4611686018427387903 : Int64))), .second, .val (.long ((q1 &&& (4611686018427387903 : Int64)) + (q2 &&& (4611686018427387903 : Int64)))), .second, .val (.long (q0 ^^^ q2)), .second, .val (.long q5), .second, .val (.long ((q5 ^^^ q3) ^^^ q4)), .second, .val (.int (0 : Int32)), .val (.ref b1), .val (.int (0 : Int32)), .unset, .unset, .unset, .unset, .unset] [])) _
        refine XS.iconst X629.here hx rfl (hb hby at_124) ?_
        show Steps p.tables e below (T629.setTop (mkF m 125 #[.val (.long q0), .second, .val (.long q1), .second, .val (.long q2), .second, .val (.long q3), .second, .val (.long q4), .second, .val (.long q5), .second, .val (.long (q1 &&& (4611686018427387903 : Int64))), .second, .val (.long (q2 &&& (4611686018427387903 : Int64))), .second, .val (.long ((q1 &&& (4611686018427387903 : Int64)) + (q2 &&& (4611686018427387903 : Int64)))), .second, .val (.long (q0 ^^^ q2)), .second, .val (.long q5), .second, .val (.long ((q5 ^^^ q3) ^^^ q4)), .second, .val (.int (0 : Int32)), .val (.ref b1), .val (.int (0 : Int32)), .unset, .unset, .unset, .unset, .unset] [(.int (1 : Int32))])) _
        refine XS.istore X629.here hx rfl (hb hby at_125) rfl (l' := #[.val (.long q0), .second, .val (.long q1), .second, .val (.long q2), .second, .val (.long q3), .second, .val (.long q4), .second, .val (.long q5), .second, .val (.long (q1 &&& (4611686018427387903 : Int64))), .second, .val (.long (q2 &&& (4611686018427387903 : Int64))), .second, .val (.long ((q1 &&& (4611686018427387903 : Int64)) + (q2 &&& (4611686018427387903 : Int64)))), .second, .val (.long (q0 ^^^ q2)), .second, .val (.long q5), .second, .val (.long ((q5 ^^^ q3) ^^^ q4)), .second, .val (.int (0 : Int32)), .val (.ref b1), .val (.int (0 : Int32)), .val (.int (1 : Int32)), .unset, .unset, .unset, .unset]) rfl ?_
        show Steps p.tables e below (T629.setTop (mkF m 127 #[.val (.long q0), .second, .val (.long q1), .second, .val (.long q2), .second, .val (.long q3), .second, .val (.long q4), .second, .val (.long q5), .second, .val (.long (q1 &&& (4611686018427387903 : Int64))), .second, .val (.long (q2 &&& (4611686018427387903 : Int64))), .second, .val (.long ((q1 &&& (4611686018427387903 : Int64)) + (q2 &&& (4611686018427387903 : Int64)))), .second, .val (.long (q0 ^^^ q2)), .second, .val (.long q5), .second, .val (.long ((q5 ^^^ q3) ^^^ q4)), .second, .val (.int (0 : Int32)), .val (.ref b1), .val (.int (0 : Int32)), .val (.int (1 : Int32)), .unset, .unset, .unset, .unset] [])) _
        refine XS.iload X629.here hx rfl (hb hby at_127) rfl ?_
        show Steps p.tables e below (T629.setTop (mkF m 129 #[.val (.long q0), .second, .val (.long q1), .second, .val (.long q2), .second, .val (.long q3), .second, .val (.long q4), .second, .val (.long q5), .second, .val (.long (q1 &&& (4611686018427387903 : Int64))), .second, .val (.long (q2 &&& (4611686018427387903 : Int64))), .second, .val (.long ((q1 &&& (4611686018427387903 : Int64)) + (q2 &&& (4611686018427387903 : Int64)))), .second, .val (.long (q0 ^^^ q2)), .second, .val (.long q5), .second, .val (.long ((q5 ^^^ q3) ^^^ q4)), .second, .val (.int (0 : Int32)), .val (.ref b1), .val (.int (0 : Int32)), .val (.int (1 : Int32)), .unset, .unset, .unset, .unset] [(.int (0 : Int32))])) _
        refine XS.ifYes X629.here hx rfl (pc0 := 129) (pc' := 137) rfl (hb hby at_129) rfl ((if0 _ _).trans (teq rfl).1) (by decide) (by decide) ?_
        show Steps p.tables e below (T629.setTop (mkF m 137 #[.val (.long q0), .second, .val (.long q1), .second, .val (.long q2), .second, .val (.long q3), .second, .val (.long q4), .second, .val (.long q5), .second, .val (.long (q1 &&& (4611686018427387903 : Int64))), .second, .val (.long (q2 &&& (4611686018427387903 : Int64))), .second, .val (.long ((q1 &&& (4611686018427387903 : Int64)) + (q2 &&& (4611686018427387903 : Int64)))), .second, .val (.long (q0 ^^^ q2)), .second, .val (.long q5), .second, .val (.long ((q5 ^^^ q3) ^^^ q4)), .second, .val (.int (0 : Int32)), .val (.ref b1), .val (.int (0 : Int32)), .val (.int (1 : Int32)), .unset, .unset, .unset, .unset] [])) _
        refine XS.lload X629.here hx rfl (hb hby at_137) rfl ?_
        show Steps p.tables e below (T629.setTop (mkF m 139 #[.val (.long q0), .second, .val (.long q1), .second, .val (.long q2), .second, .val (.long q3), .second, .val (.long q4), .second, .val (.long q5), .second, .val (.long (q1 &&& (4611686018427387903 : Int64))), .second, .val (.long (q2 &&& (4611686018427387903 : Int64))), .second, .val (.long ((q1 &&& (4611686018427387903 : Int64)) + (q2 &&& (4611686018427387903 : Int64)))), .second, .val (.long (q0 ^^^ q2)), .second, .val (.long q5), .second, .val (.long ((q5 ^^^ q3) ^^^ q4)), .second, .val (.int (0 : Int32)), .val (.ref b1), .val (.int (0 : Int32)), .val (.int (1 : Int32)), .unset, .unset, .unset, .unset] [(.long q3)])) _
        refine XS.lload X629.here hx rfl (hb hby at_139) rfl ?_
        show Steps p.tables e below (T629.setTop (mkF m 141 #[.val (.long q0), .second, .val (.long q1), .second, .val (.long q2), .second, .val (.long q3), .second, .val (.long q4), .second, .val (.long q5), .second, .val (.long (q1 &&& (4611686018427387903 : Int64))), .second, .val (.long (q2 &&& (4611686018427387903 : Int64))), .second, .val (.long ((q1 &&& (4611686018427387903 : Int64)) + (q2 &&& (4611686018427387903 : Int64)))), .second, .val (.long (q0 ^^^ q2)), .second, .val (.long q5), .second, .val (.long ((q5 ^^^ q3) ^^^ q4)), .second, .val (.int (0 : Int32)), .val (.ref b1), .val (.int (0 : Int32)), .val (.int (1 : Int32)), .unset, .unset, .unset, .unset] [(.long q5), (.long q3)])) _
        refine st632 _ ?_
        show Steps p.tables e below (T632.setTop (mkF m 144 #[.val (.long q0), .second, .val (.long q1), .second, .val (.long q2), .second, .val (.long q3), .second, .val (.long q4), .second, .val (.long q5), .second, .val (.long (q1 &&& (4611686018427387903 : Int64))), .second, .val (.long (q2 &&& (4611686018427387903 : Int64))), .second, .val (.long ((q1 &&& (4611686018427387903 : Int64)) + (q2 &&& (4611686018427387903 : Int64)))), .second, .val (.long (q0 ^^^ q2)), .second, .val (.long q5), .second, .val (.long ((q5 ^^^ q3) ^^^ q4)), .second, .val (.int (0 : Int32)), .val (.ref b1), .val (.int (0 : Int32)), .val (.int (1 : Int32)), .unset, .unset, .unset, .unset] [(.long (B9_0 q3 q5))])) _
        refine XS.lstore X632.here hx rfl (hb hby at_144) rfl (l' := #[.val (.long q0), .second, .val (.long q1), .second, .val (.long q2), .second, .val (.long q3), .second, .val (.long q4), .second, .val (.long q5), .second, .val (.long (q1 &&& (4611686018427387903 : Int64))), .second, .val (.long (q2 &&& (4611686018427387903 : Int64))), .second, .val (.long ((q1 &&& (4611686018427387903 : Int64)) + (q2 &&& (4611686018427387903 : Int64)))), .second, .val (.long (q0 ^^^ q2)), .second, .val (.long q5), .second, .val (.long ((q5 ^^^ q3) ^^^ q4)), .second, .val (.int (0 : Int32)), .val (.ref b1), .val (.int (0 : Int32)), .val (.int (1 : Int32)), .val (.long (B9_0 q3 q5)), .second, .unset, .unset]) rfl ?_
        show Steps p.tables e below (T632.setTop (mkF m 146 #[.val (.long q0), .second, .val (.long q1), .second, .val (.long q2), .second, .val (.long q3), .second, .val (.long q4), .second, .val (.long q5), .second, .val (.long (q1 &&& (4611686018427387903 : Int64))), .second, .val (.long (q2 &&& (4611686018427387903 : Int64))), .second, .val (.long ((q1 &&& (4611686018427387903 : Int64)) + (q2 &&& (4611686018427387903 : Int64)))), .second, .val (.long (q0 ^^^ q2)), .second, .val (.long q5), .second, .val (.long ((q5 ^^^ q3) ^^^ q4)), .second, .val (.int (0 : Int32)), .val (.ref b1), .val (.int (0 : Int32)), .val (.int (1 : Int32)), .val (.long (B9_0 q3 q5)), .second, .unset, .unset] [])) _
        refine XS.iload X632.here hx rfl (hb hby at_146) rfl ?_
        show Steps p.tables e below (T632.setTop (mkF m 148 #[.val (.long q0), .second, .val (.long q1), .second, .val (.long q2), .second, .val (.long q3), .second, .val (.long q4), .second, .val (.long q5), .second, .val (.long (q1 &&& (4611686018427387903 : Int64))), .second, .val (.long (q2 &&& (4611686018427387903 : Int64))), .second, .val (.long ((q1 &&& (4611686018427387903 : Int64)) + (q2 &&& (4611686018427387903 : Int64)))), .second, .val (.long (q0 ^^^ q2)), .second, .val (.long q5), .second, .val (.long ((q5 ^^^ q3) ^^^ q4)), .second, .val (.int (0 : Int32)), .val (.ref b1), .val (.int (0 : Int32)), .val (.int (1 : Int32)), .val (.long (B9_0 q3 q5)), .second, .unset, .unset] [(.int (0 : Int32))])) _
        refine XS.ifYes X632.here hx rfl (pc0 := 148) (pc' := 156) rfl (hb hby at_148) rfl ((if0 _ _).trans (teq rfl).1) (by decide) (by decide) ?_
        show Steps p.tables e below (T632.setTop (mkF m 156 #[.val (.long q0), .second, .val (.long q1), .second, .val (.long q2), .second, .val (.long q3), .second, .val (.long q4), .second, .val (.long q5), .second, .val (.long (q1 &&& (4611686018427387903 : Int64))), .second, .val (.long (q2 &&& (4611686018427387903 : Int64))), .second, .val (.long ((q1 &&& (4611686018427387903 : Int64)) + (q2 &&& (4611686018427387903 : Int64)))), .second, .val (.long (q0 ^^^ q2)), .second, .val (.long q5), .second, .val (.long ((q5 ^^^ q3) ^^^ q4)), .second, .val (.int (0 : Int32)), .val (.ref b1), .val (.int (0 : Int32)), .val (.int (1 : Int32)), .val (.long (B9_0 q3 q5)), .second, .unset, .unset] [])) _
        refine XS.lload X632.here hx rfl (hb hby at_156) rfl ?_
        show Steps p.tables e below (T632.setTop (mkF m 158 #[.val (.long q0), .second, .val (.long q1), .second, .val (.long q2), .second, .val (.long q3), .second, .val (.long q4), .second, .val (.long q5), .second, .val (.long (q1 &&& (4611686018427387903 : Int64))), .second, .val (.long (q2 &&& (4611686018427387903 : Int64))), .second, .val (.long ((q1 &&& (4611686018427387903 : Int64)) + (q2 &&& (4611686018427387903 : Int64)))), .second, .val (.long (q0 ^^^ q2)), .second, .val (.long q5), .second, .val (.long ((q5 ^^^ q3) ^^^ q4)), .second, .val (.int (0 : Int32)), .val (.ref b1), .val (.int (0 : Int32)), .val (.int (1 : Int32)), .val (.long (B9_0 q3 q5)), .second, .unset, .unset] [(.long q4)])) _
        refine XS.lload X632.here hx rfl (hb hby at_158) rfl ?_
        show Steps p.tables e below (T632.setTop (mkF m 160 #[.val (.long q0), .second, .val (.long q1), .second, .val (.long q2), .second, .val (.long q3), .second, .val (.long q4), .second, .val (.long q5), .second, .val (.long (q1 &&& (4611686018427387903 : Int64))), .second, .val (.long (q2 &&& (4611686018427387903 : Int64))), .second, .val (.long ((q1 &&& (4611686018427387903 : Int64)) + (q2 &&& (4611686018427387903 : Int64)))), .second, .val (.long (q0 ^^^ q2)), .second, .val (.long q5), .second, .val (.long ((q5 ^^^ q3) ^^^ q4)), .second, .val (.int (0 : Int32)), .val (.ref b1), .val (.int (0 : Int32)), .val (.int (1 : Int32)), .val (.long (B9_0 q3 q5)), .second, .unset, .unset] [(.long ((q5 ^^^ q3) ^^^ q4)), (.long q4)])) _
        refine st633 _ ?_
        show Steps p.tables e below (T633.setTop (mkF m 163 #[.val (.long q0), .second, .val (.long q1), .second, .val (.long q2), .second, .val (.long q3), .second, .val (.long q4), .second, .val (.long q5), .second, .val (.long (q1 &&& (4611686018427387903 : Int64))), .second, .val (.long (q2 &&& (4611686018427387903 : Int64))), .second, .val (.long ((q1 &&& (4611686018427387903 : Int64)) + (q2 &&& (4611686018427387903 : Int64)))), .second, .val (.long (q0 ^^^ q2)), .second, .val (.long q5), .second, .val (.long ((q5 ^^^ q3) ^^^ q4)), .second, .val (.int (0 : Int32)), .val (.ref b1), .val (.int (0 : Int32)), .val (.int (1 : Int32)), .val (.long (B9_0 q3 q5)), .second, .unset, .unset] [(.long (B9_0 q4 ((q5 ^^^ q3) ^^^ q4)))])) _
        refine XS.lstore X633.here hx rfl (hb hby at_163) rfl (l' := #[.val (.long q0), .second, .val (.long q1), .second, .val (.long q2), .second, .val (.long q3), .second, .val (.long q4), .second, .val (.long q5), .second, .val (.long (q1 &&& (4611686018427387903 : Int64))), .second, .val (.long (q2 &&& (4611686018427387903 : Int64))), .second, .val (.long ((q1 &&& (4611686018427387903 : Int64)) + (q2 &&& (4611686018427387903 : Int64)))), .second, .val (.long (q0 ^^^ q2)), .second, .val (.long q5), .second, .val (.long ((q5 ^^^ q3) ^^^ q4)), .second, .val (.int (0 : Int32)), .val (.ref b1), .val (.int (0 : Int32)), .val (.int (1 : Int32)), .val (.long (B9_0 q3 q5)), .second, .val (.long (B9_0 q4 ((q5 ^^^ q3) ^^^ q4))), .second]) rfl ?_
        show Steps p.tables e below (T633.setTop (mkF m 165 #[.val (.long q0), .second, .val (.long q1), .second, .val (.long q2), .second, .val (.long q3), .second, .val (.long q4), .second, .val (.long q5), .second, .val (.long (q1 &&& (4611686018427387903 : Int64))), .second, .val (.long (q2 &&& (4611686018427387903 : Int64))), .second, .val (.long ((q1 &&& (4611686018427387903 : Int64)) + (q2 &&& (4611686018427387903 : Int64)))), .second, .val (.long (q0 ^^^ q2)), .second, .val (.long q5), .second, .val (.long ((q5 ^^^ q3) ^^^ q4)), .second, .val (.int (0 : Int32)), .val (.ref b1), .val (.int (0 : Int32)), .val (.int (1 : Int32)), .val (.long (B9_0 q3 q5)), .second, .val (.long (B9_0 q4 ((q5 ^^^ q3) ^^^ q4))), .second] [])) _
        refine XS.aload X633.here hx rfl (hb hby at_165) rfl rfl ?_
        show Steps p.tables e below (T633.setTop (mkF m 167 #[.val (.long q0), .second, .val (.long q1), .second, .val (.long q2), .second, .val (.long q3), .second, .val (.long q4), .second, .val (.long q5), .second, .val (.long (q1 &&& (4611686018427387903 : Int64))), .second, .val (.long (q2 &&& (4611686018427387903 : Int64))), .second, .val (.long ((q1 &&& (4611686018427387903 : Int64)) + (q2 &&& (4611686018427387903 : Int64)))), .second, .val (.long (q0 ^^^ q2)), .second, .val (.long q5), .second, .val (.long ((q5 ^^^ q3) ^^^ q4)), .second, .val (.int (0 : Int32)), .val (.ref b1), .val (.int (0 : Int32)), .val (.int (1 : Int32)), .val (.long (B9_0 q3 q5)), .second, .val (.long (B9_0 q4 ((q5 ^^^ q3) ^^^ q4))), .second] [(.ref b1)])) _
        refine st634.trans ?_
        show Steps p.tables e below (T634.setTop (mkF m 170 #[.val (.long q0), .second, .val (.long q1), .second, .val (.long q2), .second, .val (.long q3), .second, .val (.long q4), .second, .val (.long q5), .second, .val (.long (q1 &&& (4611686018427387903 : Int64))), .second, .val (.long (q2 &&& (4611686018427387903 : Int64))), .second, .val (.long ((q1 &&& (4611686018427387903 : Int64)) + (q2 &&& (4611686018427387903 : Int64)))), .second, .val (.long (q0 ^^^ q2)), .second, .val (.long q5), .second, .val (.long ((q5 ^^^ q3) ^^^ q4)), .second, .val (.int (0 : Int32)), .val (.ref b1), .val (.int (0 : Int32)), .val (.int (1 : Int32)), .val (.long (B9_0 q3 q5)), .second, .val (.long (B9_0 q4 ((q5 ^^^ q3) ^^^ q4))), .second] [(.int (1 : Int32))])) _
        refine XS.iload X634.here hx rfl (hb hby at_170) rfl ?_
        show Steps p.tables e below (T634.setTop (mkF m 172 #[.val (.long q0), .second, .val (.long q1), .second, .val (.long q2), .second, .val (.long q3), .second, .val (.long q4), .second, .val (.long q5), .second, .val (.long (q1 &&& (4611686018427387903 : Int64))), .second, .val (.long (q2 &&& (4611686018427387903 : Int64))), .second, .val (.long ((q1 &&& (4611686018427387903 : Int64)) + (q2 &&& (4611686018427387903 : Int64)))), .second, .val (.long (q0 ^^^ q2)), .second, .val (.long q5), .second, .val (.long ((q5 ^^^ q3) ^^^ q4)), .second, .val (.int (0 : Int32)), .val (.ref b1), .val (.int (0 : Int32)), .val (.int (1 : Int32)), .val (.long (B9_0 q3 q5)), .second, .val (.long (B9_0 q4 ((q5 ^^^ q3) ^^^ q4))), .second] [(.int (1 : Int32)), (.int (1 : Int32))])) _
        refine XS.icmpYes X634.here hx rfl (pc0 := 172) (pc' := 177) rfl (hb hby at_172) rfl (teq rfl).1 (by decide) (by decide) ?_
        show Steps p.tables e below (T634.setTop (mkF m 177 #[.val (.long q0), .second, .val (.long q1), .second, .val (.long q2), .second, .val (.long q3), .second, .val (.long q4), .second, .val (.long q5), .second, .val (.long (q1 &&& (4611686018427387903 : Int64))), .second, .val (.long (q2 &&& (4611686018427387903 : Int64))), .second, .val (.long ((q1 &&& (4611686018427387903 : Int64)) + (q2 &&& (4611686018427387903 : Int64)))), .second, .val (.long (q0 ^^^ q2)), .second, .val (.long q5), .second, .val (.long ((q5 ^^^ q3) ^^^ q4)), .second, .val (.int (0 : Int32)), .val (.ref b1), .val (.int (0 : Int32)), .val (.int (1 : Int32)), .val (.long (B9_0 q3 q5)), .second, .val (.long (B9_0 q4 ((q5 ^^^ q3) ^^^ q4))), .second] [])) _
        refine XS.aload X634.here hx rfl (hb hby at_177) rfl rfl ?_
        show Steps p.tables e below (T634.setTop (mkF m 179 #[.val (.long q0), .second, .val (.long q1), .second, .val (.long q2), .second, .val (.long q3), .second, .val (.long q4), .second, .val (.long q5), .second, .val (.long (q1 &&& (4611686018427387903 : Int64))), .second, .val (.long (q2 &&& (4611686018427387903 : Int64))), .second, .val (.long ((q1 &&& (4611686018427387903 : Int64)) + (q2 &&& (4611686018427387903 : Int64)))), .second, .val (.long (q0 ^^^ q2)), .second, .val (.long q5), .second, .val (.long ((q5 ^^^ q3) ^^^ q4)), .second, .val (.int (0 : Int32)), .val (.ref b1), .val (.int (0 : Int32)), .val (.int (1 : Int32)), .val (.long (B9_0 q3 q5)), .second, .val (.long (B9_0 q4 ((q5 ^^^ q3) ^^^ q4))), .second] [(.ref b1)])) _
        refine XS.iconst X634.here hx rfl (hb hby at_179) ?_
        show Steps p.tables e below (T634.setTop (mkF m 180 #[.val (.long q0), .second, .val (.long q1), .second, .val (.long q2), .second, .val (.long q3), .second, .val (.long q4), .second, .val (.long q5), .second, .val (.long (q1 &&& (4611686018427387903 : Int64))), .second, .val (.long (q2 &&& (4611686018427387903 : Int64))), .second, .val (.long ((q1 &&& (4611686018427387903 : Int64)) + (q2 &&& (4611686018427387903 : Int64)))), .second, .val (.long (q0 ^^^ q2)), .second, .val (.long q5), .second, .val (.long ((q5 ^^^ q3) ^^^ q4)), .second, .val (.int (0 : Int32)), .val (.ref b1), .val (.int (0 : Int32)), .val (.int (1 : Int32)), .val (.long (B9_0 q3 q5)), .second, .val (.long (B9_0 q4 ((q5 ^^^ q3) ^^^ q4))), .second] [(.int (0 : Int32)), (.ref b1)])) _
        refine st635.trans ?_
        show Steps p.tables e below (T635.setTop (mkF m 183 #[.val (.long q0), .second, .val (.long q1), .second, .val (.long q2), .second, .val (.long q3), .second, .val (.long q4), .second, .val (.long q5), .second, .val (.long (q1 &&& (4611686018427387903 : Int64))), .second, .val (.long (q2 &&& (4611686018427387903 : Int64))), .second, .val (.long ((q1 &&& (4611686018427387903 : Int64)) + (q2 &&& (4611686018427387903 : Int64)))), .second, .val (.long (q0 ^^^ q2)), .second, .val (.long q5), .second, .val (.long ((q5 ^^^ q3) ^^^ q4)), .second, .val (.int (0 : Int32)), .val (.ref b1), .val (.int (0 : Int32)), .val (.int (1 : Int32)), .val (.long (B9_0 q3 q5)), .second, .val (.long (B9_0 q4 ((q5 ^^^ q3) ^^^ q4))), .second] [(.long q0)])) _
        refine XS.lloadN X635.here hx rfl (hb hby at_183) rfl ?_
        show Steps p.tables e below (T635.setTop (mkF m 184 #[.val (.long q0), .second, .val (.long q1), .second, .val (.long q2), .second, .val (.long q3), .second, .val (.long q4), .second, .val (.long q5), .second, .val (.long (q1 &&& (4611686018427387903 : Int64))), .second, .val (.long (q2 &&& (4611686018427387903 : Int64))), .second, .val (.long ((q1 &&& (4611686018427387903 : Int64)) + (q2 &&& (4611686018427387903 : Int64)))), .second, .val (.long (q0 ^^^ q2)), .second, .val (.long q5), .second, .val (.long ((q5 ^^^ q3) ^^^ q4)), .second, .val (.int (0 : Int32)), .val (.ref b1), .val (.int (0 : Int32)), .val (.int (1 : Int32)), .val (.long (B9_0 q3 q5)), .second, .val (.long (B9_0 q4 ((q5 ^^^ q3) ^^^ q4))), .second] [(.long q0), (.long q0)])) _
        refine XS.lcmp X635.here hx rfl (hb hby at_184) rfl ?_
        show Steps p.tables e below (T635.setTop (mkF m 185 #[.val (.long q0), .second, .val (.long q1), .second, .val (.long q2), .second, .val (.long q3), .second, .val (.long q4), .second, .val (.long q5), .second, .val (.long (q1 &&& (4611686018427387903 : Int64))), .second, .val (.long (q2 &&& (4611686018427387903 : Int64))), .second, .val (.long ((q1 &&& (4611686018427387903 : Int64)) + (q2 &&& (4611686018427387903 : Int64)))), .second, .val (.long (q0 ^^^ q2)), .second, .val (.long q5), .second, .val (.long ((q5 ^^^ q3) ^^^ q4)), .second, .val (.int (0 : Int32)), .val (.ref b1), .val (.int (0 : Int32)), .val (.int (1 : Int32)), .val (.long (B9_0 q3 q5)), .second, .val (.long (B9_0 q4 ((q5 ^^^ q3) ^^^ q4))), .second] [(.int (lcmpW q0 q0))])) _
        refine XS.ifNo X635.here hx rfl (hb hby at_185) rfl ((if0 _ _).trans (teq (own_eq0.mpr rfl)).2) ?_
        show Steps p.tables e below (T635.setTop (mkF m 188 #[.val (.long q0), .second, .val (.long q1), .second, .val (.long q2), .second, .val (.long q3), .second, .val (.long q4), .second, .val (.long q5), .second, .val (.long (q1 &&& (4611686018427387903 : Int64))), .second, .val (.long (q2 &&& (4611686018427387903 : Int64))), .second, .val (.long ((q1 &&& (4611686018427387903 : Int64)) + (q2 &&& (4611686018427387903 : Int64)))), .second, .val (.long (q0 ^^^ q2)), .second, .val (.long q5), .second, .val (.long ((q5 ^^^ q3) ^^^ q4)), .second, .val (.int (0 : Int32)), .val (.ref b1), .val (.int (0 : Int32)), .val (.int (1 : Int32)), .val (.long (B9_0 q3 q5)), .second, .val (.long (B9_0 q4 ((q5 ^^^ q3) ^^^ q4))), .second] [])) _
        refine XS.aload X635.here hx rfl (hb hby at_188) rfl rfl ?_
        show Steps p.tables e below (T635.setTop (mkF m 190 #[.val (.long q0), .second, .val (.long q1), .second, .val (.long q2), .second, .val (.long q3), .second, .val (.long q4), .second, .val (.long q5), .second, .val (.long (q1 &&& (4611686018427387903 : Int64))), .second, .val (.long (q2 &&& (4611686018427387903 : Int64))), .second, .val (.long ((q1 &&& (4611686018427387903 : Int64)) + (q2 &&& (4611686018427387903 : Int64)))), .second, .val (.long (q0 ^^^ q2)), .second, .val (.long q5), .second, .val (.long ((q5 ^^^ q3) ^^^ q4)), .second, .val (.int (0 : Int32)), .val (.ref b1), .val (.int (0 : Int32)), .val (.int (1 : Int32)), .val (.long (B9_0 q3 q5)), .second, .val (.long (B9_0 q4 ((q5 ^^^ q3) ^^^ q4))), .second] [(.ref b1)])) _
        refine XS.iconst X635.here hx rfl (hb hby at_190) ?_
        show Steps p.tables e below (T635.setTop (mkF m 191 #[.val (.long q0), .second, .val (.long q1), .second, .val (.long q2), .second, .val (.long q3), .second, .val (.long q4), .second, .val (.long q5), .second, .val (.long (q1 &&& (4611686018427387903 : Int64))), .second, .val (.long (q2 &&& (4611686018427387903 : Int64))), .second, .val (.long ((q1 &&& (4611686018427387903 : Int64)) + (q2 &&& (4611686018427387903 : Int64)))), .second, .val (.long (q0 ^^^ q2)), .second, .val (.long q5), .second, .val (.long ((q5 ^^^ q3) ^^^ q4)), .second, .val (.int (0 : Int32)), .val (.ref b1), .val (.int (0 : Int32)), .val (.int (1 : Int32)), .val (.long (B9_0 q3 q5)), .second, .val (.long (B9_0 q4 ((q5 ^^^ q3) ^^^ q4))), .second] [(.int (0 : Int32)), (.ref b1)])) _
        refine st636.trans ?_
        show Steps p.tables e below (T636.setTop (mkF m 194 #[.val (.long q0), .second, .val (.long q1), .second, .val (.long q2), .second, .val (.long q3), .second, .val (.long q4), .second, .val (.long q5), .second, .val (.long (q1 &&& (4611686018427387903 : Int64))), .second, .val (.long (q2 &&& (4611686018427387903 : Int64))), .second, .val (.long ((q1 &&& (4611686018427387903 : Int64)) + (q2 &&& (4611686018427387903 : Int64)))), .second, .val (.long (q0 ^^^ q2)), .second, .val (.long q5), .second, .val (.long ((q5 ^^^ q3) ^^^ q4)), .second, .val (.int (0 : Int32)), .val (.ref b1), .val (.int (0 : Int32)), .val (.int (1 : Int32)), .val (.long (B9_0 q3 q5)), .second, .val (.long (B9_0 q4 ((q5 ^^^ q3) ^^^ q4))), .second] [(.long (q1 &&& (4611686018427387903 : Int64)))])) _
        refine XS.lload X636.here hx rfl (hb hby at_194) rfl ?_
        show Steps p.tables e below (T636.setTop (mkF m 196 #[.val (.long q0), .second, .val (.long q1), .second, .val (.long q2), .second, .val (.long q3), .second, .val (.long q4), .second, .val (.long q5), .second, .val (.long (q1 &&& (4611686018427387903 : Int64))), .second, .val (.long (q2 &&& (4611686018427387903 : Int64))), .second, .val (.long ((q1 &&& (4611686018427387903 : Int64)) + (q2 &&& (4611686018427387903 : Int64)))), .second, .val (.long (q0 ^^^ q2)), .second, .val (.long q5), .second, .val (.long ((q5 ^^^ q3) ^^^ q4)), .second, .val (.int (0 : Int32)), .val (.ref b1), .val (.int (0 : Int32)), .val (.int (1 : Int32)), .val (.long (B9_0 q3 q5)), .second, .val (.long (B9_0 q4 ((q5 ^^^ q3) ^^^ q4))), .second] [(.long (q1 &&& (4611686018427387903 : Int64))), (.long (q1 &&& (4611686018427387903 : Int64)))])) _
        refine XS.lcmp X636.here hx rfl (hb hby at_196) rfl ?_
        show Steps p.tables e below (T636.setTop (mkF m 197 #[.val (.long q0), .second, .val (.long q1), .second, .val (.long q2), .second, .val (.long q3), .second, .val (.long q4), .second, .val (.long q5), .second, .val (.long (q1 &&& (4611686018427387903 : Int64))), .second, .val (.long (q2 &&& (4611686018427387903 : Int64))), .second, .val (.long ((q1 &&& (4611686018427387903 : Int64)) + (q2 &&& (4611686018427387903 : Int64)))), .second, .val (.long (q0 ^^^ q2)), .second, .val (.long q5), .second, .val (.long ((q5 ^^^ q3) ^^^ q4)), .second, .val (.int (0 : Int32)), .val (.ref b1), .val (.int (0 : Int32)), .val (.int (1 : Int32)), .val (.long (B9_0 q3 q5)), .second, .val (.long (B9_0 q4 ((q5 ^^^ q3) ^^^ q4))), .second] [(.int (lcmpW (q1 &&& (4611686018427387903 : Int64)) (q1 &&& (4611686018427387903 : Int64))))])) _
        refine XS.ifYes X636.here hx rfl (pc0 := 197) (pc' := 202) rfl (hb hby at_197) rfl ((if0 _ _).trans (teq (own_eq0.mpr rfl)).1) (by decide) (by decide) ?_
        show Steps p.tables e below (T636.setTop (mkF m 202 #[.val (.long q0), .second, .val (.long q1), .second, .val (.long q2), .second, .val (.long q3), .second, .val (.long q4), .second, .val (.long q5), .second, .val (.long (q1 &&& (4611686018427387903 : Int64))), .second, .val (.long (q2 &&& (4611686018427387903 : Int64))), .second, .val (.long ((q1 &&& (4611686018427387903 : Int64)) + (q2 &&& (4611686018427387903 : Int64)))), .second, .val (.long (q0 ^^^ q2)), .second, .val (.long q5), .second, .val (.long ((q5 ^^^ q3) ^^^ q4)), .second, .val (.int (0 : Int32)), .val (.ref b1), .val (.int (0 : Int32)), .val (.int (1 : Int32)), .val (.long (B9_0 q3 q5)), .second, .val (.long (B9_0 q4 ((q5 ^^^ q3) ^^^ q4))), .second] [])) _
        refine XS.aload X636.here hx rfl (hb hby at_202) rfl rfl ?_
        show Steps p.tables e below (T636.setTop (mkF m 204 #[.val (.long q0), .second, .val (.long q1), .second, .val (.long q2), .second, .val (.long q3), .second, .val (.long q4), .second, .val (.long q5), .second, .val (.long (q1 &&& (4611686018427387903 : Int64))), .second, .val (.long (q2 &&& (4611686018427387903 : Int64))), .second, .val (.long ((q1 &&& (4611686018427387903 : Int64)) + (q2 &&& (4611686018427387903 : Int64)))), .second, .val (.long (q0 ^^^ q2)), .second, .val (.long q5), .second, .val (.long ((q5 ^^^ q3) ^^^ q4)), .second, .val (.int (0 : Int32)), .val (.ref b1), .val (.int (0 : Int32)), .val (.int (1 : Int32)), .val (.long (B9_0 q3 q5)), .second, .val (.long (B9_0 q4 ((q5 ^^^ q3) ^^^ q4))), .second] [(.ref b1)])) _
        refine XS.iconst X636.here hx rfl (hb hby at_204) ?_
        show Steps p.tables e below (T636.setTop (mkF m 205 #[.val (.long q0), .second, .val (.long q1), .second, .val (.long q2), .second, .val (.long q3), .second, .val (.long q4), .second, .val (.long q5), .second, .val (.long (q1 &&& (4611686018427387903 : Int64))), .second, .val (.long (q2 &&& (4611686018427387903 : Int64))), .second, .val (.long ((q1 &&& (4611686018427387903 : Int64)) + (q2 &&& (4611686018427387903 : Int64)))), .second, .val (.long (q0 ^^^ q2)), .second, .val (.long q5), .second, .val (.long ((q5 ^^^ q3) ^^^ q4)), .second, .val (.int (0 : Int32)), .val (.ref b1), .val (.int (0 : Int32)), .val (.int (1 : Int32)), .val (.long (B9_0 q3 q5)), .second, .val (.long (B9_0 q4 ((q5 ^^^ q3) ^^^ q4))), .second] [(.int (0 : Int32)), (.ref b1)])) _
        refine st637.trans ?_
        show Steps p.tables e below (T637.setTop (mkF m 208 #[.val (.long q0), .second, .val (.long q1), .second, .val (.long q2), .second, .val (.long q3), .second, .val (.long q4), .second, .val (.long q5), .second, .val (.long (q1 &&& (4611686018427387903 : Int64))), .second, .val (.long (q2 &&& (4611686018427387903 : Int64))), .second, .val (.long ((q1 &&& (4611686018427387903 : Int64)) + (q2 &&& (4611686018427387903 : Int64)))), .second, .val (.long (q0 ^^^ q2)), .second, .val (.long q5), .second, .val (.long ((q5 ^^^ q3) ^^^ q4)), .second, .val (.int (0 : Int32)), .val (.ref b1), .val (.int (0 : Int32)), .val (.int (1 : Int32)), .val (.long (B9_0 q3 q5)), .second, .val (.long (B9_0 q4 ((q5 ^^^ q3) ^^^ q4))), .second] [(.long (B9_0 q3 q5))])) _
        refine XS.lload X637.here hx rfl (hb hby at_208) rfl ?_
        show Steps p.tables e below (T637.setTop (mkF m 210 #[.val (.long q0), .second, .val (.long q1), .second, .val (.long q2), .second, .val (.long q3), .second, .val (.long q4), .second, .val (.long q5), .second, .val (.long (q1 &&& (4611686018427387903 : Int64))), .second, .val (.long (q2 &&& (4611686018427387903 : Int64))), .second, .val (.long ((q1 &&& (4611686018427387903 : Int64)) + (q2 &&& (4611686018427387903 : Int64)))), .second, .val (.long (q0 ^^^ q2)), .second, .val (.long q5), .second, .val (.long ((q5 ^^^ q3) ^^^ q4)), .second, .val (.int (0 : Int32)), .val (.ref b1), .val (.int (0 : Int32)), .val (.int (1 : Int32)), .val (.long (B9_0 q3 q5)), .second, .val (.long (B9_0 q4 ((q5 ^^^ q3) ^^^ q4))), .second] [(.long (B9_0 q3 q5)), (.long (B9_0 q3 q5))])) _
        refine XS.lcmp X637.here hx rfl (hb hby at_210) rfl ?_
        show Steps p.tables e below (T637.setTop (mkF m 211 #[.val (.long q0), .second, .val (.long q1), .second, .val (.long q2), .second, .val (.long q3), .second, .val (.long q4), .second, .val (.long q5), .second, .val (.long (q1 &&& (4611686018427387903 : Int64))), .second, .val (.long (q2 &&& (4611686018427387903 : Int64))), .second, .val (.long ((q1 &&& (4611686018427387903 : Int64)) + (q2 &&& (4611686018427387903 : Int64)))), .second, .val (.long (q0 ^^^ q2)), .second, .val (.long q5), .second, .val (.long ((q5 ^^^ q3) ^^^ q4)), .second, .val (.int (0 : Int32)), .val (.ref b1), .val (.int (0 : Int32)), .val (.int (1 : Int32)), .val (.long (B9_0 q3 q5)), .second, .val (.long (B9_0 q4 ((q5 ^^^ q3) ^^^ q4))), .second] [(.int (lcmpW (B9_0 q3 q5) (B9_0 q3 q5)))])) _
        refine XS.ifNo X637.here hx rfl (hb hby at_211) rfl ((if0 _ _).trans (teq (own_eq0.mpr rfl)).2) ?_
        show Steps p.tables e below (T637.setTop (mkF m 214 #[.val (.long q0), .second, .val (.long q1), .second, .val (.long q2), .second, .val (.long q3), .second, .val (.long q4), .second, .val (.long q5), .second, .val (.long (q1 &&& (4611686018427387903 : Int64))), .second, .val (.long (q2 &&& (4611686018427387903 : Int64))), .second, .val (.long ((q1 &&& (4611686018427387903 : Int64)) + (q2 &&& (4611686018427387903 : Int64)))), .second, .val (.long (q0 ^^^ q2)), .second, .val (.long q5), .second, .val (.long ((q5 ^^^ q3) ^^^ q4)), .second, .val (.int (0 : Int32)), .val (.ref b1), .val (.int (0 : Int32)), .val (.int (1 : Int32)), .val (.long (B9_0 q3 q5)), .second, .val (.long (B9_0 q4 ((q5 ^^^ q3) ^^^ q4))), .second] [])) _
        refine XS.aload X637.here hx rfl (hb hby at_214) rfl rfl ?_
        show Steps p.tables e below (T637.setTop (mkF m 216 #[.val (.long q0), .second, .val (.long q1), .second, .val (.long q2), .second, .val (.long q3), .second, .val (.long q4), .second, .val (.long q5), .second, .val (.long (q1 &&& (4611686018427387903 : Int64))), .second, .val (.long (q2 &&& (4611686018427387903 : Int64))), .second, .val (.long ((q1 &&& (4611686018427387903 : Int64)) + (q2 &&& (4611686018427387903 : Int64)))), .second, .val (.long (q0 ^^^ q2)), .second, .val (.long q5), .second, .val (.long ((q5 ^^^ q3) ^^^ q4)), .second, .val (.int (0 : Int32)), .val (.ref b1), .val (.int (0 : Int32)), .val (.int (1 : Int32)), .val (.long (B9_0 q3 q5)), .second, .val (.long (B9_0 q4 ((q5 ^^^ q3) ^^^ q4))), .second] [(.ref b1)])) _
        refine XS.iconst X637.here hx rfl (hb hby at_216) ?_
        show Steps p.tables e below (T637.setTop (mkF m 217 #[.val (.long q0), .second, .val (.long q1), .second, .val (.long q2), .second, .val (.long q3), .second, .val (.long q4), .second, .val (.long q5), .second, .val (.long (q1 &&& (4611686018427387903 : Int64))), .second, .val (.long (q2 &&& (4611686018427387903 : Int64))), .second, .val (.long ((q1 &&& (4611686018427387903 : Int64)) + (q2 &&& (4611686018427387903 : Int64)))), .second, .val (.long (q0 ^^^ q2)), .second, .val (.long q5), .second, .val (.long ((q5 ^^^ q3) ^^^ q4)), .second, .val (.int (0 : Int32)), .val (.ref b1), .val (.int (0 : Int32)), .val (.int (1 : Int32)), .val (.long (B9_0 q3 q5)), .second, .val (.long (B9_0 q4 ((q5 ^^^ q3) ^^^ q4))), .second] [(.int (0 : Int32)), (.ref b1)])) _
        refine st638.trans ?_
        show Steps p.tables e below (T638.setTop (mkF m 220 #[.val (.long q0), .second, .val (.long q1), .second, .val (.long q2), .second, .val (.long q3), .second, .val (.long q4), .second, .val (.long q5), .second, .val (.long (q1 &&& (4611686018427387903 : Int64))), .second, .val (.long (q2 &&& (4611686018427387903 : Int64))), .second, .val (.long ((q1 &&& (4611686018427387903 : Int64)) + (q2 &&& (4611686018427387903 : Int64)))), .second, .val (.long (q0 ^^^ q2)), .second, .val (.long q5), .second, .val (.long ((q5 ^^^ q3) ^^^ q4)), .second, .val (.int (0 : Int32)), .val (.ref b1), .val (.int (0 : Int32)), .val (.int (1 : Int32)), .val (.long (B9_0 q3 q5)), .second, .val (.long (B9_0 q4 ((q5 ^^^ q3) ^^^ q4))), .second] [(.long (B9_0 q4 ((q5 ^^^ q3) ^^^ q4)))])) _
        refine XS.lload X638.here hx rfl (hb hby at_220) rfl ?_
        show Steps p.tables e below (T638.setTop (mkF m 222 #[.val (.long q0), .second, .val (.long q1), .second, .val (.long q2), .second, .val (.long q3), .second, .val (.long q4), .second, .val (.long q5), .second, .val (.long (q1 &&& (4611686018427387903 : Int64))), .second, .val (.long (q2 &&& (4611686018427387903 : Int64))), .second, .val (.long ((q1 &&& (4611686018427387903 : Int64)) + (q2 &&& (4611686018427387903 : Int64)))), .second, .val (.long (q0 ^^^ q2)), .second, .val (.long q5), .second, .val (.long ((q5 ^^^ q3) ^^^ q4)), .second, .val (.int (0 : Int32)), .val (.ref b1), .val (.int (0 : Int32)), .val (.int (1 : Int32)), .val (.long (B9_0 q3 q5)), .second, .val (.long (B9_0 q4 ((q5 ^^^ q3) ^^^ q4))), .second] [(.long (B9_0 q4 ((q5 ^^^ q3) ^^^ q4))), (.long (B9_0 q4 ((q5 ^^^ q3) ^^^ q4)))])) _
        refine XS.lcmp X638.here hx rfl (hb hby at_222) rfl ?_
        show Steps p.tables e below (T638.setTop (mkF m 223 #[.val (.long q0), .second, .val (.long q1), .second, .val (.long q2), .second, .val (.long q3), .second, .val (.long q4), .second, .val (.long q5), .second, .val (.long (q1 &&& (4611686018427387903 : Int64))), .second, .val (.long (q2 &&& (4611686018427387903 : Int64))), .second, .val (.long ((q1 &&& (4611686018427387903 : Int64)) + (q2 &&& (4611686018427387903 : Int64)))), .second, .val (.long (q0 ^^^ q2)), .second, .val (.long q5), .second, .val (.long ((q5 ^^^ q3) ^^^ q4)), .second, .val (.int (0 : Int32)), .val (.ref b1), .val (.int (0 : Int32)), .val (.int (1 : Int32)), .val (.long (B9_0 q3 q5)), .second, .val (.long (B9_0 q4 ((q5 ^^^ q3) ^^^ q4))), .second] [(.int (lcmpW (B9_0 q4 ((q5 ^^^ q3) ^^^ q4)) (B9_0 q4 ((q5 ^^^ q3) ^^^ q4))))])) _
        refine XS.ifYes X638.here hx rfl (pc0 := 223) (pc' := 228) rfl (hb hby at_223) rfl ((if0 _ _).trans (teq (own_eq0.mpr rfl)).1) (by decide) (by decide) ?_
        show Steps p.tables e below (T638.setTop (mkF m 228 #[.val (.long q0), .second, .val (.long q1), .second, .val (.long q2), .second, .val (.long q3), .second, .val (.long q4), .second, .val (.long q5), .second, .val (.long (q1 &&& (4611686018427387903 : Int64))), .second, .val (.long (q2 &&& (4611686018427387903 : Int64))), .second, .val (.long ((q1 &&& (4611686018427387903 : Int64)) + (q2 &&& (4611686018427387903 : Int64)))), .second, .val (.long (q0 ^^^ q2)), .second, .val (.long q5), .second, .val (.long ((q5 ^^^ q3) ^^^ q4)), .second, .val (.int (0 : Int32)), .val (.ref b1), .val (.int (0 : Int32)), .val (.int (1 : Int32)), .val (.long (B9_0 q3 q5)), .second, .val (.long (B9_0 q4 ((q5 ^^^ q3) ^^^ q4))), .second] [])) _
        refine XS.iload X638.here hx rfl (hb hby at_228) rfl ?_
        show Steps p.tables e below (T638.setTop (mkF m 230 #[.val (.long q0), .second, .val (.long q1), .second, .val (.long q2), .second, .val (.long q3), .second, .val (.long q4), .second, .val (.long q5), .second, .val (.long (q1 &&& (4611686018427387903 : Int64))), .second, .val (.long (q2 &&& (4611686018427387903 : Int64))), .second, .val (.long ((q1 &&& (4611686018427387903 : Int64)) + (q2 &&& (4611686018427387903 : Int64)))), .second, .val (.long (q0 ^^^ q2)), .second, .val (.long q5), .second, .val (.long ((q5 ^^^ q3) ^^^ q4)), .second, .val (.int (0 : Int32)), .val (.ref b1), .val (.int (0 : Int32)), .val (.int (1 : Int32)), .val (.long (B9_0 q3 q5)), .second, .val (.long (B9_0 q4 ((q5 ^^^ q3) ^^^ q4))), .second] [(.int (0 : Int32))])) _
        refine XS.ifYes X638.here hx rfl (pc0 := 230) (pc' := 285) rfl (hb hby at_230) rfl ((if0 _ _).trans (teq rfl).1) (by decide) (by decide) ?_
        show Steps p.tables e below (T638.setTop (mkF m 285 #[.val (.long q0), .second, .val (.long q1), .second, .val (.long q2), .second, .val (.long q3), .second, .val (.long q4), .second, .val (.long q5), .second, .val (.long (q1 &&& (4611686018427387903 : Int64))), .second, .val (.long (q2 &&& (4611686018427387903 : Int64))), .second, .val (.long ((q1 &&& (4611686018427387903 : Int64)) + (q2 &&& (4611686018427387903 : Int64)))), .second, .val (.long (q0 ^^^ q2)), .second, .val (.long q5), .second, .val (.long ((q5 ^^^ q3) ^^^ q4)), .second, .val (.int (0 : Int32)), .val (.ref b1), .val (.int (0 : Int32)), .val (.int (1 : Int32)), .val (.long (B9_0 q3 q5)), .second, .val (.long (B9_0 q4 ((q5 ^^^ q3) ^^^ q4))), .second] [])) _
        refine XS.iconst X638.here hx rfl (hb hby at_285) ?_
        show Steps p.tables e below (T638.setTop (mkF m 286 #[.val (.long q0), .second, .val (.long q1), .second, .val (.long q2), .second, .val (.long q3), .second, .val (.long q4), .second, .val (.long q5), .second, .val (.long (q1 &&& (4611686018427387903 : Int64))), .second, .val (.long (q2 &&& (4611686018427387903 : Int64))), .second, .val (.long ((q1 &&& (4611686018427387903 : Int64)) + (q2 &&& (4611686018427387903 : Int64)))), .second, .val (.long (q0 ^^^ q2)), .second, .val (.long q5), .second, .val (.long ((q5 ^^^ q3) ^^^ q4)), .second, .val (.int (0 : Int32)), .val (.ref b1), .val (.int (0 : Int32)), .val (.int (1 : Int32)), .val (.long (B9_0 q3 q5)), .second, .val (.long (B9_0 q4 ((q5 ^^^ q3) ^^^ q4))), .second] [(.int (1 : Int32))])) _
        exact k
      exact own_retN X638 hx (t := .boolean) hret (by simp) hlk (hb hby at_286) (⟨rfl, N638⟩) (by decide) (by decide)
    · obtain ⟨cq639, kq639, q639a, q639b, q639c⟩ := isOf hZ rfl E1_628
      obtain ⟨_, _, ⟨T639, L639, k639, n639⟩, -, X639, ⟨Lc639, hQ639, l639, y639, z639⟩, st639⟩ := X626.virtualBack hx (y := (⟨"com/example/uplog/uplog/SegmentIndex", "add", "(JJJJ)V"⟩ : MethodName)) (z := (⟨"com/example/uplog/uplog/SegmentIndex", "add", "(JJJJ)V"⟩ : MethodName)) hown (mvT hZ (hw _ (List.mem_of_getElem? (i := 19) rfl))) (mvT hZ (hw _ (List.mem_of_getElem? (i := 20) rfl))) (notFace_of_selects (args := #[]) (mvT hZ (hw _ (List.mem_of_getElem? (i := 22) rfl)))) (mvT hZ (hw _ (List.mem_of_getElem? (i := 22) rfl))) (mvT hZ (hw _ (List.mem_of_getElem? (i := 21) rfl))) (by decide) (backOf (W := 0) (rmaC l Z a0 hw [] b1 (q0 ^^^ q2) ((q1 &&& (4611686018427387903 : Int64)) + (q2 &&& (4611686018427387903 : Int64))) q5 ((q5 ^^^ q3) ^^^ q4) a2 a3 a4 a5 k2 k3 k4 k5 q0 (q1 &&& (4611686018427387903 : Int64)) q3 q4 T626.heap n0 zh626 GB (own_distN _ _ hd)) hZ (hw _ (List.mem_of_getElem? (i := 23) rfl)) (hw _ (List.mem_of_getElem? (i := 3) rfl)) (by decide) (by decide)) q639a q639c (g := (mkF m 96 #[.val (.long q0), .second, .val (.long q1), .second, .val (.long q2), .second, .val (.long q3), .second, .val (.long q4), .second, .val (.long q5), .second, .val (.long (q1 &&& (4611686018427387903 : Int64))), .second, .val (.long (q2 &&& (4611686018427387903 : Int64))), .second, .val (.long ((q1 &&& (4611686018427387903 : Int64)) + (q2 &&& (4611686018427387903 : Int64)))), .second, .val (.long (q0 ^^^ q2)), .second, .val (.long q5), .second, .val (.long ((q5 ^^^ q3) ^^^ q4)), .second, .val (.int (0 : Int32)), .val (.ref b1), .unset, .unset, .unset, .unset, .unset, .unset] [(.long ((q5 ^^^ q3) ^^^ q4)), (.long q5), (.long ((q1 &&& (4611686018427387903 : Int64)) + (q2 &&& (4611686018427387903 : Int64)))), (.long (q0 ^^^ q2)), (.ref b1)])) rfl (by rw [hml]; rfl) (Steps.refl _) (argsL := [(.long (q0 ^^^ q2)), (.long ((q1 &&& (4611686018427387903 : Int64)) + (q2 &&& (4611686018427387903 : Int64)))), (.long q5), (.long ((q5 ^^^ q3) ^^^ q4))]) (rest := []) (lenOf pd_5 rfl) rfl (by show 2 * 0 + _ ≤ _; exact Nat.le_of_eq rfl) (hb hby at_96) (fun _ _ => ⟨rfl, rfl, (by decide : 5 + 0 ≤ _), (by decide : 37 + 0 ≤ _)⟩)
      dsimp only [Pt.U, Pt.locs, Pt.cells, Pt.slots] at X639 l639 y639 z639 st639 hQ639
      subst l639 y639 z639
      obtain ⟨rfl, N639q, K639, Gs639⟩ := hQ639
      have N639 := Fr.app N626 N639q
      have E1_640 := E1_628.keep K639
      have zh639 : n0 ≤ T639.heap.size := Nat.le_trans zh626 K639.1
      obtain ⟨E1_641, Fc_641, Fa2_641, Fa3_641, Fa4_641, Fa5_641, Va2_641, Va3_641, Va4_641, Va5_641, da2a3_641, da2a4_641, da2a5_641, da3a4_641, da3a5_641, da4a5_641, lo1_641, loa2_641, loa3_641, loa4_641, loa5_641⟩ := Gs639
      have ne1a2_641 : b1 ≠ a2 := Exa.neArv E1_641 Va2_641 (hw _ (List.mem_of_getElem? (i := 2) rfl))
      have ne1a3_641 : b1 ≠ a3 := Exa.neArv E1_641 Va3_641 (hw _ (List.mem_of_getElem? (i := 2) rfl))
      have ne1a4_641 : b1 ≠ a4 := Exa.neArv E1_641 Va4_641 (hw _ (List.mem_of_getElem? (i := 2) rfl))
      have ne1a5_641 : b1 ≠ a5 := Exa.neArv E1_641 Va5_641 (hw _ (List.mem_of_getElem? (i := 2) rfl))
      obtain ⟨cq642, kq642, q642a, q642b, q642c⟩ := isOf hZ rfl E1_641
      obtain ⟨_, _, ⟨T642, L642, k642, n642⟩, -, X642, ⟨Lc642, hQ642, l642, y642, z642⟩, st642⟩ := X639.virtualBack hx (y := (⟨"com/example/uplog/uplog/SegmentIndex", "count", "()I"⟩ : MethodName)) (z := (⟨"com/example/uplog/uplog/SegmentIndex", "count", "()I"⟩ : MethodName)) hown (mvT hZ (hw _ (List.mem_of_getElem? (i := 28) rfl))) (mvT hZ (hw _ (List.mem_of_getElem? (i := 29) rfl))) (notFace_of_selects (args := #[]) (mvT hZ (hw _ (List.mem_of_getElem? (i := 31) rfl)))) (mvT hZ (hw _ (List.mem_of_getElem? (i := 31) rfl))) (mvT hZ (hw _ (List.mem_of_getElem? (i := 30) rfl))) (by decide) (backOf (W := 0) (rm4 l Z a0 hw [] b1 (2 : Int32) T639.heap n0 zh639 Fc_641) hZ (hw _ (List.mem_of_getElem? (i := 32) rfl)) (hw _ (List.mem_of_getElem? (i := 3) rfl)) (by decide) (by decide)) q642a q642c (g := (mkF m 167 #[.val (.long q0), .second, .val (.long q1), .second, .val (.long q2), .second, .val (.long q3), .second, .val (.long q4), .second, .val (.long q5), .second, .val (.long (q1 &&& (4611686018427387903 : Int64))), .second, .val (.long (q2 &&& (4611686018427387903 : Int64))), .second, .val (.long ((q1 &&& (4611686018427387903 : Int64)) + (q2 &&& (4611686018427387903 : Int64)))), .second, .val (.long (q0 ^^^ q2)), .second, .val (.long q5), .second, .val (.long ((q5 ^^^ q3) ^^^ q4)), .second, .val (.int (0 : Int32)), .val (.ref b1), .val (.int (1 : Int32)), .val (.int (2 : Int32)), .val (.long q3), .second, .val (.long q4), .second] [(.ref b1)])) rfl (by rw [hml]; rfl) (Steps.refl _) (argsL := []) (rest := []) (lenOf pd_6 rfl) rfl (by show 2 * 0 + _ ≤ _; exact Nat.le_of_eq rfl) (hb hby at_167) (fun _ _ => ⟨rfl, rfl, (by decide : 5 + 0 ≤ _), (by decide : 37 + 0 ≤ _)⟩)
      dsimp only [Pt.U, Pt.locs, Pt.cells, Pt.slots] at X642 l642 y642 z642 st642 hQ642
      subst l642 y642 z642
      obtain ⟨rfl, N642q, hh642⟩ := hQ642
      have N642 := Fr.app N639 N642q
      obtain ⟨cq643, kq643, q643a, q643b, q643c⟩ := isOf hZ hh642 E1_641
      obtain ⟨_, _, ⟨T643, L643, k643, n643⟩, -, X643, ⟨Lc643, hQ643, l643, y643, z643⟩, st643⟩ := X642.virtualBack hx (y := (⟨"com/example/uplog/uplog/SegmentIndex", "offset", "(I)J"⟩ : MethodName)) (z := (⟨"com/example/uplog/uplog/SegmentIndex", "offset", "(I)J"⟩ : MethodName)) hown (mvT hZ (hw _ (List.mem_of_getElem? (i := 33) rfl))) (mvT hZ (hw _ (List.mem_of_getElem? (i := 34) rfl))) (notFace_of_selects (args := #[]) (mvT hZ (hw _ (List.mem_of_getElem? (i := 36) rfl)))) (mvT hZ (hw _ (List.mem_of_getElem? (i := 36) rfl))) (mvT hZ (hw _ (List.mem_of_getElem? (i := 35) rfl))) (by decide) (backOf (W := 0) (rm5 l Z a0 hw [] b1 (0 : Int32) a2 k2 (8 : Int32) [(.long q0), (.long (q0 ^^^ q2)), (.long (0 : Int64)), (.long (0 : Int64)), (.long (0 : Int64)), (.long (0 : Int64)), (.long (0 : Int64)), (.long (0 : Int64))] q0 T639.heap n0 zh639 Fa2_641 Va2_641 ⟨by decide, by decide⟩ rfl) hZ (hw _ (List.mem_of_getElem? (i := 37) rfl)) (hw _ (List.mem_of_getElem? (i := 3) rfl)) (by decide) (by decide)) q643a q643c (g := (mkF m 180 #[.val (.long q0), .second, .val (.long q1), .second, .val (.long q2), .second, .val (.long q3), .second, .val (.long q4), .second, .val (.long q5), .second, .val (.long (q1 &&& (4611686018427387903 : Int64))), .second, .val (.long (q2 &&& (4611686018427387903 : Int64))), .second, .val (.long ((q1 &&& (4611686018427387903 : Int64)) + (q2 &&& (4611686018427387903 : Int64)))), .second, .val (.long (q0 ^^^ q2)), .second, .val (.long q5), .second, .val (.long ((q5 ^^^ q3) ^^^ q4)), .second, .val (.int (0 : Int32)), .val (.ref b1), .val (.int (1 : Int32)), .val (.int (2 : Int32)), .val (.long q3), .second, .val (.long q4), .second] [(.int (0 : Int32)), (.ref b1)])) rfl (by rw [hml]; rfl) (Steps.refl _) (argsL := [(.int (0 : Int32))]) (rest := []) (lenOf pd_7 rfl) rfl (by show 2 * 0 + _ ≤ _; exact Nat.le_of_eq rfl) (hb hby at_180) (fun _ _ => ⟨rfl, hh642, (by decide : 5 + 0 ≤ _), (by decide : 37 + 0 ≤ _)⟩)
      dsimp only [Pt.U, Pt.locs, Pt.cells, Pt.slots] at X643 l643 y643 z643 st643 hQ643
      subst l643 y643 z643
      obtain ⟨rfl, N643q, hh643⟩ := hQ643
      have N643 := Fr.app N642 N643q
      obtain ⟨cq644, kq644, q644a, q644b, q644c⟩ := isOf hZ hh643 E1_641
      obtain ⟨_, _, ⟨T644, L644, k644, n644⟩, -, X644, ⟨Lc644, hQ644, l644, y644, z644⟩, st644⟩ := X643.virtualBack hx (y := (⟨"com/example/uplog/uplog/SegmentIndex", "position", "(I)J"⟩ : MethodName)) (z := (⟨"com/example/uplog/uplog/SegmentIndex", "position", "(I)J"⟩ : MethodName)) hown (mvT hZ (hw _ (List.mem_of_getElem? (i := 38) rfl))) (mvT hZ (hw _ (List.mem_of_getElem? (i := 39) rfl))) (notFace_of_selects (args := #[]) (mvT hZ (hw _ (List.mem_of_getElem? (i := 41) rfl)))) (mvT hZ (hw _ (List.mem_of_getElem? (i := 41) rfl))) (mvT hZ (hw _ (List.mem_of_getElem? (i := 40) rfl))) (by decide) (backOf (W := 0) (rm6 l Z a0 hw [] b1 (0 : Int32) a3 k3 (8 : Int32) [(.long (q1 &&& (4611686018427387903 : Int64))), (.long ((q1 &&& (4611686018427387903 : Int64)) + (q2 &&& (4611686018427387903 : Int64)))), (.long (0 : Int64)), (.long (0 : Int64)), (.long (0 : Int64)), (.long (0 : Int64)), (.long (0 : Int64)), (.long (0 : Int64))] (q1 &&& (4611686018427387903 : Int64)) T639.heap n0 zh639 Fa3_641 Va3_641 ⟨by decide, by decide⟩ rfl) hZ (hw _ (List.mem_of_getElem? (i := 42) rfl)) (hw _ (List.mem_of_getElem? (i := 3) rfl)) (by decide) (by decide)) q644a q644c (g := (mkF m 191 #[.val (.long q0), .second, .val (.long q1), .second, .val (.long q2), .second, .val (.long q3), .second, .val (.long q4), .second, .val (.long q5), .second, .val (.long (q1 &&& (4611686018427387903 : Int64))), .second, .val (.long (q2 &&& (4611686018427387903 : Int64))), .second, .val (.long ((q1 &&& (4611686018427387903 : Int64)) + (q2 &&& (4611686018427387903 : Int64)))), .second, .val (.long (q0 ^^^ q2)), .second, .val (.long q5), .second, .val (.long ((q5 ^^^ q3) ^^^ q4)), .second, .val (.int (0 : Int32)), .val (.ref b1), .val (.int (1 : Int32)), .val (.int (2 : Int32)), .val (.long q3), .second, .val (.long q4), .second] [(.int (0 : Int32)), (.ref b1)])) rfl (by rw [hml]; rfl) (Steps.refl _) (argsL := [(.int (0 : Int32))]) (rest := []) (lenOf pd_7 rfl) rfl (by show 2 * 0 + _ ≤ _; exact Nat.le_of_eq rfl) (hb hby at_191) (fun _ _ => ⟨rfl, hh643, (by decide : 5 + 0 ≤ _), (by decide : 37 + 0 ≤ _)⟩)
      dsimp only [Pt.U, Pt.locs, Pt.cells, Pt.slots] at X644 l644 y644 z644 st644 hQ644
      subst l644 y644 z644
      obtain ⟨rfl, N644q, hh644⟩ := hQ644
      have N644 := Fr.app N643 N644q
      obtain ⟨cq645, kq645, q645a, q645b, q645c⟩ := isOf hZ hh644 E1_641
      obtain ⟨_, _, ⟨T645, L645, k645, n645⟩, -, X645, ⟨Lc645, hQ645, l645, y645, z645⟩, st645⟩ := X644.virtualBack hx (y := (⟨"com/example/uplog/uplog/SegmentIndex", "maxTimestamp", "(I)J"⟩ : MethodName)) (z := (⟨"com/example/uplog/uplog/SegmentIndex", "maxTimestamp", "(I)J"⟩ : MethodName)) hown (mvT hZ (hw _ (List.mem_of_getElem? (i := 43) rfl))) (mvT hZ (hw _ (List.mem_of_getElem? (i := 44) rfl))) (notFace_of_selects (args := #[]) (mvT hZ (hw _ (List.mem_of_getElem? (i := 46) rfl)))) (mvT hZ (hw _ (List.mem_of_getElem? (i := 46) rfl))) (mvT hZ (hw _ (List.mem_of_getElem? (i := 45) rfl))) (by decide) (backOf (W := 0) (rm7 l Z a0 hw [] b1 (0 : Int32) a4 k4 (8 : Int32) [(.long q3), (.long q5), (.long (0 : Int64)), (.long (0 : Int64)), (.long (0 : Int64)), (.long (0 : Int64)), (.long (0 : Int64)), (.long (0 : Int64))] q3 T639.heap n0 zh639 Fa4_641 Va4_641 ⟨by decide, by decide⟩ rfl) hZ (hw _ (List.mem_of_getElem? (i := 47) rfl)) (hw _ (List.mem_of_getElem? (i := 3) rfl)) (by decide) (by decide)) q645a q645c (g := (mkF m 205 #[.val (.long q0), .second, .val (.long q1), .second, .val (.long q2), .second, .val (.long q3), .second, .val (.long q4), .second, .val (.long q5), .second, .val (.long (q1 &&& (4611686018427387903 : Int64))), .second, .val (.long (q2 &&& (4611686018427387903 : Int64))), .second, .val (.long ((q1 &&& (4611686018427387903 : Int64)) + (q2 &&& (4611686018427387903 : Int64)))), .second, .val (.long (q0 ^^^ q2)), .second, .val (.long q5), .second, .val (.long ((q5 ^^^ q3) ^^^ q4)), .second, .val (.int (0 : Int32)), .val (.ref b1), .val (.int (1 : Int32)), .val (.int (2 : Int32)), .val (.long q3), .second, .val (.long q4), .second] [(.int (0 : Int32)), (.ref b1)])) rfl (by rw [hml]; rfl) (Steps.refl _) (argsL := [(.int (0 : Int32))]) (rest := []) (lenOf pd_7 rfl) rfl (by show 2 * 0 + _ ≤ _; exact Nat.le_of_eq rfl) (hb hby at_205) (fun _ _ => ⟨rfl, hh644, (by decide : 5 + 0 ≤ _), (by decide : 37 + 0 ≤ _)⟩)
      dsimp only [Pt.U, Pt.locs, Pt.cells, Pt.slots] at X645 l645 y645 z645 st645 hQ645
      subst l645 y645 z645
      obtain ⟨rfl, N645q, hh645⟩ := hQ645
      have N645 := Fr.app N644 N645q
      obtain ⟨cq646, kq646, q646a, q646b, q646c⟩ := isOf hZ hh645 E1_641
      obtain ⟨_, _, ⟨T646, L646, k646, n646⟩, -, X646, ⟨Lc646, hQ646, l646, y646, z646⟩, st646⟩ := X645.virtualBack hx (y := (⟨"com/example/uplog/uplog/SegmentIndex", "writtenAt", "(I)J"⟩ : MethodName)) (z := (⟨"com/example/uplog/uplog/SegmentIndex", "writtenAt", "(I)J"⟩ : MethodName)) hown (mvT hZ (hw _ (List.mem_of_getElem? (i := 48) rfl))) (mvT hZ (hw _ (List.mem_of_getElem? (i := 49) rfl))) (notFace_of_selects (args := #[]) (mvT hZ (hw _ (List.mem_of_getElem? (i := 51) rfl)))) (mvT hZ (hw _ (List.mem_of_getElem? (i := 51) rfl))) (mvT hZ (hw _ (List.mem_of_getElem? (i := 50) rfl))) (by decide) (backOf (W := 0) (rm8 l Z a0 hw [] b1 (0 : Int32) a5 k5 (8 : Int32) [(.long q4), (.long ((q5 ^^^ q3) ^^^ q4)), (.long (0 : Int64)), (.long (0 : Int64)), (.long (0 : Int64)), (.long (0 : Int64)), (.long (0 : Int64)), (.long (0 : Int64))] q4 T639.heap n0 zh639 Fa5_641 Va5_641 ⟨by decide, by decide⟩ rfl) hZ (hw _ (List.mem_of_getElem? (i := 52) rfl)) (hw _ (List.mem_of_getElem? (i := 3) rfl)) (by decide) (by decide)) q646a q646c (g := (mkF m 217 #[.val (.long q0), .second, .val (.long q1), .second, .val (.long q2), .second, .val (.long q3), .second, .val (.long q4), .second, .val (.long q5), .second, .val (.long (q1 &&& (4611686018427387903 : Int64))), .second, .val (.long (q2 &&& (4611686018427387903 : Int64))), .second, .val (.long ((q1 &&& (4611686018427387903 : Int64)) + (q2 &&& (4611686018427387903 : Int64)))), .second, .val (.long (q0 ^^^ q2)), .second, .val (.long q5), .second, .val (.long ((q5 ^^^ q3) ^^^ q4)), .second, .val (.int (0 : Int32)), .val (.ref b1), .val (.int (1 : Int32)), .val (.int (2 : Int32)), .val (.long q3), .second, .val (.long q4), .second] [(.int (0 : Int32)), (.ref b1)])) rfl (by rw [hml]; rfl) (Steps.refl _) (argsL := [(.int (0 : Int32))]) (rest := []) (lenOf pd_7 rfl) rfl (by show 2 * 0 + _ ≤ _; exact Nat.le_of_eq rfl) (hb hby at_217) (fun _ _ => ⟨rfl, hh645, (by decide : 5 + 0 ≤ _), (by decide : 37 + 0 ≤ _)⟩)
      dsimp only [Pt.U, Pt.locs, Pt.cells, Pt.slots] at X646 l646 y646 z646 st646 hQ646
      subst l646 y646 z646
      obtain ⟨rfl, N646q, hh646⟩ := hQ646
      have N646 := Fr.app N645 N646q
      obtain ⟨cq647, kq647, q647a, q647b, q647c⟩ := isOf hZ hh646 E1_641
      obtain ⟨_, _, ⟨T647, L647, k647, n647⟩, -, X647, ⟨Lc647, hQ647, l647, y647, z647⟩, st647⟩ := X646.virtualBack hx (y := (⟨"com/example/uplog/uplog/SegmentIndex", "offset", "(I)J"⟩ : MethodName)) (z := (⟨"com/example/uplog/uplog/SegmentIndex", "offset", "(I)J"⟩ : MethodName)) hown (mvT hZ (hw _ (List.mem_of_getElem? (i := 33) rfl))) (mvT hZ (hw _ (List.mem_of_getElem? (i := 34) rfl))) (notFace_of_selects (args := #[]) (mvT hZ (hw _ (List.mem_of_getElem? (i := 36) rfl)))) (mvT hZ (hw _ (List.mem_of_getElem? (i := 36) rfl))) (mvT hZ (hw _ (List.mem_of_getElem? (i := 35) rfl))) (by decide) (backOf (W := 0) (rm5 l Z a0 hw [] b1 (1 : Int32) a2 k2 (8 : Int32) [(.long q0), (.long (q0 ^^^ q2)), (.long (0 : Int64)), (.long (0 : Int64)), (.long (0 : Int64)), (.long (0 : Int64)), (.long (0 : Int64)), (.long (0 : Int64))] (q0 ^^^ q2) T639.heap n0 zh639 Fa2_641 Va2_641 ⟨by decide, by decide⟩ rfl) hZ (hw _ (List.mem_of_getElem? (i := 37) rfl)) (hw _ (List.mem_of_getElem? (i := 3) rfl)) (by decide) (by decide)) q647a q647c (g := (mkF m 236 #[.val (.long q0), .second, .val (.long q1), .second, .val (.long q2), .second, .val (.long q3), .second, .val (.long q4), .second, .val (.long q5), .second, .val (.long (q1 &&& (4611686018427387903 : Int64))), .second, .val (.long (q2 &&& (4611686018427387903 : Int64))), .second, .val (.long ((q1 &&& (4611686018427387903 : Int64)) + (q2 &&& (4611686018427387903 : Int64)))), .second, .val (.long (q0 ^^^ q2)), .second, .val (.long q5), .second, .val (.long ((q5 ^^^ q3) ^^^ q4)), .second, .val (.int (0 : Int32)), .val (.ref b1), .val (.int (1 : Int32)), .val (.int (2 : Int32)), .val (.long q3), .second, .val (.long q4), .second] [(.int (1 : Int32)), (.ref b1)])) rfl (by rw [hml]; rfl) (Steps.refl _) (argsL := [(.int (1 : Int32))]) (rest := []) (lenOf pd_7 rfl) rfl (by show 2 * 0 + _ ≤ _; exact Nat.le_of_eq rfl) (hb hby at_236) (fun _ _ => ⟨rfl, hh646, (by decide : 5 + 0 ≤ _), (by decide : 37 + 0 ≤ _)⟩)
      dsimp only [Pt.U, Pt.locs, Pt.cells, Pt.slots] at X647 l647 y647 z647 st647 hQ647
      subst l647 y647 z647
      obtain ⟨rfl, N647q, hh647⟩ := hQ647
      have N647 := Fr.app N646 N647q
      obtain ⟨cq648, kq648, q648a, q648b, q648c⟩ := isOf hZ hh647 E1_641
      obtain ⟨_, _, ⟨T648, L648, k648, n648⟩, -, X648, ⟨Lc648, hQ648, l648, y648, z648⟩, st648⟩ := X647.virtualBack hx (y := (⟨"com/example/uplog/uplog/SegmentIndex", "position", "(I)J"⟩ : MethodName)) (z := (⟨"com/example/uplog/uplog/SegmentIndex", "position", "(I)J"⟩ : MethodName)) hown (mvT hZ (hw _ (List.mem_of_getElem? (i := 38) rfl))) (mvT hZ (hw _ (List.mem_of_getElem? (i := 39) rfl))) (notFace_of_selects (args := #[]) (mvT hZ (hw _ (List.mem_of_getElem? (i := 41) rfl)))) (mvT hZ (hw _ (List.mem_of_getElem? (i := 41) rfl))) (mvT hZ (hw _ (List.mem_of_getElem? (i := 40) rfl))) (by decide) (backOf (W := 0) (rm6 l Z a0 hw [] b1 (1 : Int32) a3 k3 (8 : Int32) [(.long (q1 &&& (4611686018427387903 : Int64))), (.long ((q1 &&& (4611686018427387903 : Int64)) + (q2 &&& (4611686018427387903 : Int64)))), (.long (0 : Int64)), (.long (0 : Int64)), (.long (0 : Int64)), (.long (0 : Int64)), (.long (0 : Int64)), (.long (0 : Int64))] ((q1 &&& (4611686018427387903 : Int64)) + (q2 &&& (4611686018427387903 : Int64))) T639.heap n0 zh639 Fa3_641 Va3_641 ⟨by decide, by decide⟩ rfl) hZ (hw _ (List.mem_of_getElem? (i := 42) rfl)) (hw _ (List.mem_of_getElem? (i := 3) rfl)) (by decide) (by decide)) q648a q648c (g := (mkF m 248 #[.val (.long q0), .second, .val (.long q1), .second, .val (.long q2), .second, .val (.long q3), .second, .val (.long q4), .second, .val (.long q5), .second, .val (.long (q1 &&& (4611686018427387903 : Int64))), .second, .val (.long (q2 &&& (4611686018427387903 : Int64))), .second, .val (.long ((q1 &&& (4611686018427387903 : Int64)) + (q2 &&& (4611686018427387903 : Int64)))), .second, .val (.long (q0 ^^^ q2)), .second, .val (.long q5), .second, .val (.long ((q5 ^^^ q3) ^^^ q4)), .second, .val (.int (0 : Int32)), .val (.ref b1), .val (.int (1 : Int32)), .val (.int (2 : Int32)), .val (.long q3), .second, .val (.long q4), .second] [(.int (1 : Int32)), (.ref b1)])) rfl (by rw [hml]; rfl) (Steps.refl _) (argsL := [(.int (1 : Int32))]) (rest := []) (lenOf pd_7 rfl) rfl (by show 2 * 0 + _ ≤ _; exact Nat.le_of_eq rfl) (hb hby at_248) (fun _ _ => ⟨rfl, hh647, (by decide : 5 + 0 ≤ _), (by decide : 37 + 0 ≤ _)⟩)
      dsimp only [Pt.U, Pt.locs, Pt.cells, Pt.slots] at X648 l648 y648 z648 st648 hQ648
      subst l648 y648 z648
      obtain ⟨rfl, N648q, hh648⟩ := hQ648
      have N648 := Fr.app N647 N648q
      obtain ⟨cq649, kq649, q649a, q649b, q649c⟩ := isOf hZ hh648 E1_641
      obtain ⟨_, _, ⟨T649, L649, k649, n649⟩, -, X649, ⟨Lc649, hQ649, l649, y649, z649⟩, st649⟩ := X648.virtualBack hx (y := (⟨"com/example/uplog/uplog/SegmentIndex", "maxTimestamp", "(I)J"⟩ : MethodName)) (z := (⟨"com/example/uplog/uplog/SegmentIndex", "maxTimestamp", "(I)J"⟩ : MethodName)) hown (mvT hZ (hw _ (List.mem_of_getElem? (i := 43) rfl))) (mvT hZ (hw _ (List.mem_of_getElem? (i := 44) rfl))) (notFace_of_selects (args := #[]) (mvT hZ (hw _ (List.mem_of_getElem? (i := 46) rfl)))) (mvT hZ (hw _ (List.mem_of_getElem? (i := 46) rfl))) (mvT hZ (hw _ (List.mem_of_getElem? (i := 45) rfl))) (by decide) (backOf (W := 0) (rm7 l Z a0 hw [] b1 (1 : Int32) a4 k4 (8 : Int32) [(.long q3), (.long q5), (.long (0 : Int64)), (.long (0 : Int64)), (.long (0 : Int64)), (.long (0 : Int64)), (.long (0 : Int64)), (.long (0 : Int64))] q5 T639.heap n0 zh639 Fa4_641 Va4_641 ⟨by decide, by decide⟩ rfl) hZ (hw _ (List.mem_of_getElem? (i := 47) rfl)) (hw _ (List.mem_of_getElem? (i := 3) rfl)) (by decide) (by decide)) q649a q649c (g := (mkF m 262 #[.val (.long q0), .second, .val (.long q1), .second, .val (.long q2), .second, .val (.long q3), .second, .val (.long q4), .second, .val (.long q5), .second, .val (.long (q1 &&& (4611686018427387903 : Int64))), .second, .val (.long (q2 &&& (4611686018427387903 : Int64))), .second, .val (.long ((q1 &&& (4611686018427387903 : Int64)) + (q2 &&& (4611686018427387903 : Int64)))), .second, .val (.long (q0 ^^^ q2)), .second, .val (.long q5), .second, .val (.long ((q5 ^^^ q3) ^^^ q4)), .second, .val (.int (0 : Int32)), .val (.ref b1), .val (.int (1 : Int32)), .val (.int (2 : Int32)), .val (.long q3), .second, .val (.long q4), .second] [(.int (1 : Int32)), (.ref b1)])) rfl (by rw [hml]; rfl) (Steps.refl _) (argsL := [(.int (1 : Int32))]) (rest := []) (lenOf pd_7 rfl) rfl (by show 2 * 0 + _ ≤ _; exact Nat.le_of_eq rfl) (hb hby at_262) (fun _ _ => ⟨rfl, hh648, (by decide : 5 + 0 ≤ _), (by decide : 37 + 0 ≤ _)⟩)
      dsimp only [Pt.U, Pt.locs, Pt.cells, Pt.slots] at X649 l649 y649 z649 st649 hQ649
      subst l649 y649 z649
      obtain ⟨rfl, N649q, hh649⟩ := hQ649
      have N649 := Fr.app N648 N649q
      obtain ⟨cq650, kq650, q650a, q650b, q650c⟩ := isOf hZ hh649 E1_641
      obtain ⟨_, _, ⟨T650, L650, k650, n650⟩, -, X650, ⟨Lc650, hQ650, l650, y650, z650⟩, st650⟩ := X649.virtualBack hx (y := (⟨"com/example/uplog/uplog/SegmentIndex", "writtenAt", "(I)J"⟩ : MethodName)) (z := (⟨"com/example/uplog/uplog/SegmentIndex", "writtenAt", "(I)J"⟩ : MethodName)) hown (mvT hZ (hw _ (List.mem_of_getElem? (i := 48) rfl))) (mvT hZ (hw _ (List.mem_of_getElem? (i := 49) rfl))) (notFace_of_selects (args := #[]) (mvT hZ (hw _ (List.mem_of_getElem? (i := 51) rfl)))) (mvT hZ (hw _ (List.mem_of_getElem? (i := 51) rfl))) (mvT hZ (hw _ (List.mem_of_getElem? (i := 50) rfl))) (by decide) (backOf (W := 0) (rm8 l Z a0 hw [] b1 (1 : Int32) a5 k5 (8 : Int32) [(.long q4), (.long ((q5 ^^^ q3) ^^^ q4)), (.long (0 : Int64)), (.long (0 : Int64)), (.long (0 : Int64)), (.long (0 : Int64)), (.long (0 : Int64)), (.long (0 : Int64))] ((q5 ^^^ q3) ^^^ q4) T639.heap n0 zh639 Fa5_641 Va5_641 ⟨by decide, by decide⟩ rfl) hZ (hw _ (List.mem_of_getElem? (i := 52) rfl)) (hw _ (List.mem_of_getElem? (i := 3) rfl)) (by decide) (by decide)) q650a q650c (g := (mkF m 274 #[.val (.long q0), .second, .val (.long q1), .second, .val (.long q2), .second, .val (.long q3), .second, .val (.long q4), .second, .val (.long q5), .second, .val (.long (q1 &&& (4611686018427387903 : Int64))), .second, .val (.long (q2 &&& (4611686018427387903 : Int64))), .second, .val (.long ((q1 &&& (4611686018427387903 : Int64)) + (q2 &&& (4611686018427387903 : Int64)))), .second, .val (.long (q0 ^^^ q2)), .second, .val (.long q5), .second, .val (.long ((q5 ^^^ q3) ^^^ q4)), .second, .val (.int (0 : Int32)), .val (.ref b1), .val (.int (1 : Int32)), .val (.int (2 : Int32)), .val (.long q3), .second, .val (.long q4), .second] [(.int (1 : Int32)), (.ref b1)])) rfl (by rw [hml]; rfl) (Steps.refl _) (argsL := [(.int (1 : Int32))]) (rest := []) (lenOf pd_7 rfl) rfl (by show 2 * 0 + _ ≤ _; exact Nat.le_of_eq rfl) (hb hby at_274) (fun _ _ => ⟨rfl, hh649, (by decide : 5 + 0 ≤ _), (by decide : 37 + 0 ≤ _)⟩)
      dsimp only [Pt.U, Pt.locs, Pt.cells, Pt.slots] at X650 l650 y650 z650 st650 hQ650
      subst l650 y650 z650
      obtain ⟨rfl, N650q, hh650⟩ := hQ650
      have N650 := Fr.app N649 N650q
      refine own_Go.mono (T' := T650) (f' := (mkF m 286 #[.val (.long q0), .second, .val (.long q1), .second, .val (.long q2), .second, .val (.long q3), .second, .val (.long q4), .second, .val (.long q5), .second, .val (.long (q1 &&& (4611686018427387903 : Int64))), .second, .val (.long (q2 &&& (4611686018427387903 : Int64))), .second, .val (.long ((q1 &&& (4611686018427387903 : Int64)) + (q2 &&& (4611686018427387903 : Int64)))), .second, .val (.long (q0 ^^^ q2)), .second, .val (.long q5), .second, .val (.long ((q5 ^^^ q3) ^^^ q4)), .second, .val (.int (0 : Int32)), .val (.ref b1), .val (.int (1 : Int32)), .val (.int (2 : Int32)), .val (.long q3), .second, .val (.long q4), .second] [(.int (1 : Int32))])) (fun t k => ?_) ?_
      · show Steps p.tables e below (T626.setTop (mkF m 96 #[.val (.long q0), .second, .val (.long q1), .second, .val (.long q2), .second, .val (.long q3), .second, .val (.long q4), .second, .val (.long q5), .second, .val (.long (q1 &&& (4611686018427387903 : Int64))), .second, .val (.long (q2 &&& (4611686018427387903 : Int64))), .second, .val (.long ((q1 &&& (4611686018427387903 : Int64)) + (q2 &&& (4611686018427387903 : Int64)))), .second, .val (.long (q0 ^^^ q2)), .second, .val (.long q5), .second, .val (.long ((q5 ^^^ q3) ^^^ q4)), .second, .val (.int (0 : Int32)), .val (.ref b1), .unset, .unset, .unset, .unset, .unset, .unset] [(.long ((q5 ^^^ q3) ^^^ q4)), (.long q5), (.long ((q1 &&& (4611686018427387903 : Int64)) + (q2 &&& (4611686018427387903 : Int64)))), (.long (q0 ^^^ q2)), (.ref b1)])) _
        refine st639.trans ?_
        show Steps p.tables e below (T639.setTop (mkF m 99 #[.val (.long q0), .second, .val (.long q1), .second, .val (.long q2), .second, .val (.long q3), .second, .val (.long q4), .second, .val (.long q5), .second, .val (.long (q1 &&& (4611686018427387903 : Int64))), .second, .val (.long (q2 &&& (4611686018427387903 : Int64))), .second, .val (.long ((q1 &&& (4611686018427387903 : Int64)) + (q2 &&& (4611686018427387903 : Int64)))), .second, .val (.long (q0 ^^^ q2)), .second, .val (.long q5), .second, .val (.long ((q5 ^^^ q3) ^^^ q4)), .second, .val (.int (0 : Int32)), .val (.ref b1), .unset, .unset, .unset, .unset, .unset, .unset] [])) _
        refine XS.lload X639.here hx rfl (hb hby at_99) rfl ?_
        show Steps p.tables e below (T639.setTop (mkF m 101 #[.val (.long q0), .second, .val (.long q1), .second, .val (.long q2), .second, .val (.long q3), .second, .val (.long q4), .second, .val (.long q5), .second, .val (.long (q1 &&& (4611686018427387903 : Int64))), .second, .val (.long (q2 &&& (4611686018427387903 : Int64))), .second, .val (.long ((q1 &&& (4611686018427387903 : Int64)) + (q2 &&& (4611686018427387903 : Int64)))), .second, .val (.long (q0 ^^^ q2)), .second, .val (.long q5), .second, .val (.long ((q5 ^^^ q3) ^^^ q4)), .second, .val (.int (0 : Int32)), .val (.ref b1), .unset, .unset, .unset, .unset, .unset, .unset] [(.long (q2 &&& (4611686018427387903 : Int64)))])) _
        refine X639.ldc2Long hx hown (mvT hZ (hw _ (List.mem_of_getElem? (i := 27) rfl))) (g := (mkF m 101 #[.val (.long q0), .second, .val (.long q1), .second, .val (.long q2), .second, .val (.long q3), .second, .val (.long q4), .second, .val (.long q5), .second, .val (.long (q1 &&& (4611686018427387903 : Int64))), .second, .val (.long (q2 &&& (4611686018427387903 : Int64))), .second, .val (.long ((q1 &&& (4611686018427387903 : Int64)) + (q2 &&& (4611686018427387903 : Int64)))), .second, .val (.long (q0 ^^^ q2)), .second, .val (.long q5), .second, .val (.long ((q5 ^^^ q3) ^^^ q4)), .second, .val (.int (0 : Int32)), .val (.ref b1), .unset, .unset, .unset, .unset, .unset, .unset] [(.long (q2 &&& (4611686018427387903 : Int64)))])) rfl (hb hby at_101) _ ?_
        show Steps p.tables e below (T639.setTop (mkF m 104 #[.val (.long q0), .second, .val (.long q1), .second, .val (.long q2), .second, .val (.long q3), .second, .val (.long q4), .second, .val (.long q5), .second, .val (.long (q1 &&& (4611686018427387903 : Int64))), .second, .val (.long (q2 &&& (4611686018427387903 : Int64))), .second, .val (.long ((q1 &&& (4611686018427387903 : Int64)) + (q2 &&& (4611686018427387903 : Int64)))), .second, .val (.long (q0 ^^^ q2)), .second, .val (.long q5), .second, .val (.long ((q5 ^^^ q3) ^^^ q4)), .second, .val (.int (0 : Int32)), .val (.ref b1), .unset, .unset, .unset, .unset, .unset, .unset] [(.long (32768 : Int64)), (.long (q2 &&& (4611686018427387903 : Int64)))])) _
        refine XS.lcmp X639.here hx rfl (hb hby at_104) rfl ?_
        show Steps p.tables e below (T639.setTop (mkF m 105 #[.val (.long q0), .second, .val (.long q1), .second, .val (.long q2), .second, .val (.long q3), .second, .val (.long q4), .second, .val (.long q5), .second, .val (.long (q1 &&& (4611686018427387903 : Int64))), .second, .val (.long (q2 &&& (4611686018427387903 : Int64))), .second, .val (.long ((q1 &&& (4611686018427387903 : Int64)) + (q2 &&& (4611686018427387903 : Int64)))), .second, .val (.long (q0 ^^^ q2)), .second, .val (.long q5), .second, .val (.long ((q5 ^^^ q3) ^^^ q4)), .second, .val (.int (0 : Int32)), .val (.ref b1), .unset, .unset, .unset, .unset, .unset, .unset] [(.int (lcmpW (q2 &&& (4611686018427387903 : Int64)) (32768 : Int64)))])) _
        refine XS.ifNo X639.here hx rfl (hb hby at_105) rfl ((if0 _ _).trans (flt (mt own_lt.mp hd)).1) ?_
        show Steps p.tables e below (T639.setTop (mkF m 108 #[.val (.long q0), .second, .val (.long q1), .second, .val (.long q2), .second, .val (.long q3), .second, .val (.long q4), .second, .val (.long q5), .second, .val (.long (q1 &&& (4611686018427387903 : Int64))), .second, .val (.long (q2 &&& (4611686018427387903 : Int64))), .second, .val (.long ((q1 &&& (4611686018427387903 : Int64)) + (q2 &&& (4611686018427387903 : Int64)))), .second, .val (.long (q0 ^^^ q2)), .second, .val (.long q5), .second, .val (.long ((q5 ^^^ q3) ^^^ q4)), .second, .val (.int (0 : Int32)), .val (.ref b1), .unset, .unset, .unset, .unset, .unset, .unset] [])) _
        refine XS.iconst X639.here hx rfl (hb hby at_108) ?_
        show Steps p.tables e below (T639.setTop (mkF m 109 #[.val (.long q0), .second, .val (.long q1), .second, .val (.long q2), .second, .val (.long q3), .second, .val (.long q4), .second, .val (.long q5), .second, .val (.long (q1 &&& (4611686018427387903 : Int64))), .second, .val (.long (q2 &&& (4611686018427387903 : Int64))), .second, .val (.long ((q1 &&& (4611686018427387903 : Int64)) + (q2 &&& (4611686018427387903 : Int64)))), .second, .val (.long (q0 ^^^ q2)), .second, .val (.long q5), .second, .val (.long ((q5 ^^^ q3) ^^^ q4)), .second, .val (.int (0 : Int32)), .val (.ref b1), .unset, .unset, .unset, .unset, .unset, .unset] [(.int (1 : Int32))])) _
        refine XS.goto X639.here hx rfl (pc0 := 109) (pc' := 113) rfl (hb hby at_109) (by decide) (by decide) ?_
        show Steps p.tables e below (T639.setTop (mkF m 113 #[.val (.long q0), .second, .val (.long q1), .second, .val (.long q2), .second, .val (.long q3), .second, .val (.long q4), .second, .val (.long q5), .second, .val (.long (q1 &&& (4611686018427387903 : Int64))), .second, .val (.long (q2 &&& (4611686018427387903 : Int64))), .second, .val (.long ((q1 &&& (4611686018427387903 : Int64)) + (q2 &&& (4611686018427387903 : Int64)))), .second, .val (.long (q0 ^^^ q2)), .second, .val (.long q5), .second, .val (.long ((q5 ^^^ q3) ^^^ q4)), .second, .val (.int (0 : Int32)), .val (.ref b1), .unset, .unset, .unset, .unset, .unset, .unset] [(.int (1 : Int32))])) _
        refine XS.istore X639.here hx rfl (hb hby at_113) rfl (l' := #[.val (.long q0), .second, .val (.long q1), .second, .val (.long q2), .second, .val (.long q3), .second, .val (.long q4), .second, .val (.long q5), .second, .val (.long (q1 &&& (4611686018427387903 : Int64))), .second, .val (.long (q2 &&& (4611686018427387903 : Int64))), .second, .val (.long ((q1 &&& (4611686018427387903 : Int64)) + (q2 &&& (4611686018427387903 : Int64)))), .second, .val (.long (q0 ^^^ q2)), .second, .val (.long q5), .second, .val (.long ((q5 ^^^ q3) ^^^ q4)), .second, .val (.int (0 : Int32)), .val (.ref b1), .val (.int (1 : Int32)), .unset, .unset, .unset, .unset, .unset]) rfl ?_
        show Steps p.tables e below (T639.setTop (mkF m 115 #[.val (.long q0), .second, .val (.long q1), .second, .val (.long q2), .second, .val (.long q3), .second, .val (.long q4), .second, .val (.long q5), .second, .val (.long (q1 &&& (4611686018427387903 : Int64))), .second, .val (.long (q2 &&& (4611686018427387903 : Int64))), .second, .val (.long ((q1 &&& (4611686018427387903 : Int64)) + (q2 &&& (4611686018427387903 : Int64)))), .second, .val (.long (q0 ^^^ q2)), .second, .val (.long q5), .second, .val (.long ((q5 ^^^ q3) ^^^ q4)), .second, .val (.int (0 : Int32)), .val (.ref b1), .val (.int (1 : Int32)), .unset, .unset, .unset, .unset, .unset] [])) _
        refine XS.iload X639.here hx rfl (hb hby at_115) rfl ?_
        show Steps p.tables e below (T639.setTop (mkF m 117 #[.val (.long q0), .second, .val (.long q1), .second, .val (.long q2), .second, .val (.long q3), .second, .val (.long q4), .second, .val (.long q5), .second, .val (.long (q1 &&& (4611686018427387903 : Int64))), .second, .val (.long (q2 &&& (4611686018427387903 : Int64))), .second, .val (.long ((q1 &&& (4611686018427387903 : Int64)) + (q2 &&& (4611686018427387903 : Int64)))), .second, .val (.long (q0 ^^^ q2)), .second, .val (.long q5), .second, .val (.long ((q5 ^^^ q3) ^^^ q4)), .second, .val (.int (0 : Int32)), .val (.ref b1), .val (.int (1 : Int32)), .unset, .unset, .unset, .unset, .unset] [(.int (1 : Int32))])) _
        refine XS.ifNo X639.here hx rfl (hb hby at_117) rfl ((if0 _ _).trans (feq (by decide)).1) ?_
        show Steps p.tables e below (T639.setTop (mkF m 120 #[.val (.long q0), .second, .val (.long q1), .second, .val (.long q2), .second, .val (.long q3), .second, .val (.long q4), .second, .val (.long q5), .second, .val (.long (q1 &&& (4611686018427387903 : Int64))), .second, .val (.long (q2 &&& (4611686018427387903 : Int64))), .second, .val (.long ((q1 &&& (4611686018427387903 : Int64)) + (q2 &&& (4611686018427387903 : Int64)))), .second, .val (.long (q0 ^^^ q2)), .second, .val (.long q5), .second, .val (.long ((q5 ^^^ q3) ^^^ q4)), .second, .val (.int (0 : Int32)), .val (.ref b1), .val (.int (1 : Int32)), .unset, .unset, .unset, .unset, .unset] [])) _
        refine XS.iconst X639.here hx rfl (hb hby at_120) ?_
        show Steps p.tables e below (T639.setTop (mkF m 121 #[.val (.long q0), .second, .val (.long q1), .second, .val (.long q2), .second, .val (.long q3), .second, .val (.long q4), .second, .val (.long q5), .second, .val (.long (q1 &&& (4611686018427387903 : Int64))), .second, .val (.long (q2 &&& (4611686018427387903 : Int64))), .second, .val (.long ((q1 &&& (4611686018427387903 : Int64)) + (q2 &&& (4611686018427387903 : Int64)))), .second, .val (.long (q0 ^^^ q2)), .second, .val (.long q5), .second, .val (.long ((q5 ^^^ q3) ^^^ q4)), .second, .val (.int (0 : Int32)), .val (.ref b1), .val (.int (1 : Int32)), .unset, .unset, .unset, .unset, .unset] [(.int (2 : Int32))])) _
        refine XS.goto X639.here hx rfl (pc0 := 121) (pc' := 125) rfl (hb hby at_121) (by decide) (by decide) ?_
        show Steps p.tables e below (T639.setTop (mkF m 125 #[.val (.long q0), .second, .val (.long q1), .second, .val (.long q2), .second, .val (.long q3), .second, .val (.long q4), .second, .val (.long q5), .second, .val (.long (q1 &&& (4611686018427387903 : Int64))), .second, .val (.long (q2 &&& (4611686018427387903 : Int64))), .second, .val (.long ((q1 &&& (4611686018427387903 : Int64)) + (q2 &&& (4611686018427387903 : Int64)))), .second, .val (.long (q0 ^^^ q2)), .second, .val (.long q5), .second, .val (.long ((q5 ^^^ q3) ^^^ q4)), .second, .val (.int (0 : Int32)), .val (.ref b1), .val (.int (1 : Int32)), .unset, .unset, .unset, .unset, .unset] [(.int (2 : Int32))])) _
        refine XS.istore X639.here hx rfl (hb hby at_125) rfl (l' := #[.val (.long q0), .second, .val (.long q1), .second, .val (.long q2), .second, .val (.long q3), .second, .val (.long q4), .second, .val (.long q5), .second, .val (.long (q1 &&& (4611686018427387903 : Int64))), .second, .val (.long (q2 &&& (4611686018427387903 : Int64))), .second, .val (.long ((q1 &&& (4611686018427387903 : Int64)) + (q2 &&& (4611686018427387903 : Int64)))), .second, .val (.long (q0 ^^^ q2)), .second, .val (.long q5), .second, .val (.long ((q5 ^^^ q3) ^^^ q4)), .second, .val (.int (0 : Int32)), .val (.ref b1), .val (.int (1 : Int32)), .val (.int (2 : Int32)), .unset, .unset, .unset, .unset]) rfl ?_
        show Steps p.tables e below (T639.setTop (mkF m 127 #[.val (.long q0), .second, .val (.long q1), .second, .val (.long q2), .second, .val (.long q3), .second, .val (.long q4), .second, .val (.long q5), .second, .val (.long (q1 &&& (4611686018427387903 : Int64))), .second, .val (.long (q2 &&& (4611686018427387903 : Int64))), .second, .val (.long ((q1 &&& (4611686018427387903 : Int64)) + (q2 &&& (4611686018427387903 : Int64)))), .second, .val (.long (q0 ^^^ q2)), .second, .val (.long q5), .second, .val (.long ((q5 ^^^ q3) ^^^ q4)), .second, .val (.int (0 : Int32)), .val (.ref b1), .val (.int (1 : Int32)), .val (.int (2 : Int32)), .unset, .unset, .unset, .unset] [])) _
        refine XS.iload X639.here hx rfl (hb hby at_127) rfl ?_
        show Steps p.tables e below (T639.setTop (mkF m 129 #[.val (.long q0), .second, .val (.long q1), .second, .val (.long q2), .second, .val (.long q3), .second, .val (.long q4), .second, .val (.long q5), .second, .val (.long (q1 &&& (4611686018427387903 : Int64))), .second, .val (.long (q2 &&& (4611686018427387903 : Int64))), .second, .val (.long ((q1 &&& (4611686018427387903 : Int64)) + (q2 &&& (4611686018427387903 : Int64)))), .second, .val (.long (q0 ^^^ q2)), .second, .val (.long q5), .second, .val (.long ((q5 ^^^ q3) ^^^ q4)), .second, .val (.int (0 : Int32)), .val (.ref b1), .val (.int (1 : Int32)), .val (.int (2 : Int32)), .unset, .unset, .unset, .unset] [(.int (1 : Int32))])) _
        refine XS.ifNo X639.here hx rfl (hb hby at_129) rfl ((if0 _ _).trans (feq (by decide)).1) ?_
        show Steps p.tables e below (T639.setTop (mkF m 132 #[.val (.long q0), .second, .val (.long q1), .second, .val (.long q2), .second, .val (.long q3), .second, .val (.long q4), .second, .val (.long q5), .second, .val (.long (q1 &&& (4611686018427387903 : Int64))), .second, .val (.long (q2 &&& (4611686018427387903 : Int64))), .second, .val (.long ((q1 &&& (4611686018427387903 : Int64)) + (q2 &&& (4611686018427387903 : Int64)))), .second, .val (.long (q0 ^^^ q2)), .second, .val (.long q5), .second, .val (.long ((q5 ^^^ q3) ^^^ q4)), .second, .val (.int (0 : Int32)), .val (.ref b1), .val (.int (1 : Int32)), .val (.int (2 : Int32)), .unset, .unset, .unset, .unset] [])) _
        refine XS.lload X639.here hx rfl (hb hby at_132) rfl ?_
        show Steps p.tables e below (T639.setTop (mkF m 134 #[.val (.long q0), .second, .val (.long q1), .second, .val (.long q2), .second, .val (.long q3), .second, .val (.long q4), .second, .val (.long q5), .second, .val (.long (q1 &&& (4611686018427387903 : Int64))), .second, .val (.long (q2 &&& (4611686018427387903 : Int64))), .second, .val (.long ((q1 &&& (4611686018427387903 : Int64)) + (q2 &&& (4611686018427387903 : Int64)))), .second, .val (.long (q0 ^^^ q2)), .second, .val (.long q5), .second, .val (.long ((q5 ^^^ q3) ^^^ q4)), .second, .val (.int (0 : Int32)), .val (.ref b1), .val (.int (1 : Int32)), .val (.int (2 : Int32)), .unset, .unset, .unset, .unset] [(.long q3)])) _
        refine XS.goto X639.here hx rfl (pc0 := 134) (pc' := 144) rfl (hb hby at_134) (by decide) (by decide) ?_
        show Steps p.tables e below (T639.setTop (mkF m 144 #[.val (.long q0), .second, .val (.long q1), .second, .val (.long q2), .second, .val (.long q3), .second, .val (.long q4), .second, .val (.long q5), .second, .val (.long (q1 &&& (4611686018427387903 : Int64))), .second, .val (.long (q2 &&& (4611686018427387903 : Int64))), .second, .val (.long ((q1 &&& (4611686018427387903 : Int64)) + (q2 &&& (4611686018427387903 : Int64)))), .second, .val (.long (q0 ^^^ q2)), .second, .val (.long q5), .second, .val (.long ((q5 ^^^ q3) ^^^ q4)), .second, .val (.int (0 : Int32)), .val (.ref b1), .val (.int (1 : Int32)), .val (.int (2 : Int32)), .unset, .unset, .unset, .unset] [(.long q3)])) _
        refine XS.lstore X639.here hx rfl (hb hby at_144) rfl (l' := #[.val (.long q0), .second, .val (.long q1), .second, .val (.long q2), .second, .val (.long q3), .second, .val (.long q4), .second, .val (.long q5), .second, .val (.long (q1 &&& (4611686018427387903 : Int64))), .second, .val (.long (q2 &&& (4611686018427387903 : Int64))), .second, .val (.long ((q1 &&& (4611686018427387903 : Int64)) + (q2 &&& (4611686018427387903 : Int64)))), .second, .val (.long (q0 ^^^ q2)), .second, .val (.long q5), .second, .val (.long ((q5 ^^^ q3) ^^^ q4)), .second, .val (.int (0 : Int32)), .val (.ref b1), .val (.int (1 : Int32)), .val (.int (2 : Int32)), .val (.long q3), .second, .unset, .unset]) rfl ?_
        show Steps p.tables e below (T639.setTop (mkF m 146 #[.val (.long q0), .second, .val (.long q1), .second, .val (.long q2), .second, .val (.long q3), .second, .val (.long q4), .second, .val (.long q5), .second, .val (.long (q1 &&& (4611686018427387903 : Int64))), .second, .val (.long (q2 &&& (4611686018427387903 : Int64))), .second, .val (.long ((q1 &&& (4611686018427387903 : Int64)) + (q2 &&& (4611686018427387903 : Int64)))), .second, .val (.long (q0 ^^^ q2)), .second, .val (.long q5), .second, .val (.long ((q5 ^^^ q3) ^^^ q4)), .second, .val (.int (0 : Int32)), .val (.ref b1), .val (.int (1 : Int32)), .val (.int (2 : Int32)), .val (.long q3), .second, .unset, .unset] [])) _
        refine XS.iload X639.here hx rfl (hb hby at_146) rfl ?_
        show Steps p.tables e below (T639.setTop (mkF m 148 #[.val (.long q0), .second, .val (.long q1), .second, .val (.long q2), .second, .val (.long q3), .second, .val (.long q4), .second, .val (.long q5), .second, .val (.long (q1 &&& (4611686018427387903 : Int64))), .second, .val (.long (q2 &&& (4611686018427387903 : Int64))), .second, .val (.long ((q1 &&& (4611686018427387903 : Int64)) + (q2 &&& (4611686018427387903 : Int64)))), .second, .val (.long (q0 ^^^ q2)), .second, .val (.long q5), .second, .val (.long ((q5 ^^^ q3) ^^^ q4)), .second, .val (.int (0 : Int32)), .val (.ref b1), .val (.int (1 : Int32)), .val (.int (2 : Int32)), .val (.long q3), .second, .unset, .unset] [(.int (1 : Int32))])) _
        refine XS.ifNo X639.here hx rfl (hb hby at_148) rfl ((if0 _ _).trans (feq (by decide)).1) ?_
        show Steps p.tables e below (T639.setTop (mkF m 151 #[.val (.long q0), .second, .val (.long q1), .second, .val (.long q2), .second, .val (.long q3), .second, .val (.long q4), .second, .val (.long q5), .second, .val (.long (q1 &&& (4611686018427387903 : Int64))), .second, .val (.long (q2 &&& (4611686018427387903 : Int64))), .second, .val (.long ((q1 &&& (4611686018427387903 : Int64)) + (q2 &&& (4611686018427387903 : Int64)))), .second, .val (.long (q0 ^^^ q2)), .second, .val (.long q5), .second, .val (.long ((q5 ^^^ q3) ^^^ q4)), .second, .val (.int (0 : Int32)), .val (.ref b1), .val (.int (1 : Int32)), .val (.int (2 : Int32)), .val (.long q3), .second, .unset, .unset] [])) _
        refine XS.lload X639.here hx rfl (hb hby at_151) rfl ?_
        show Steps p.tables e below (T639.setTop (mkF m 153 #[.val (.long q0), .second, .val (.long q1), .second, .val (.long q2), .second, .val (.long q3), .second, .val (.long q4), .second, .val (.long q5), .second, .val (.long (q1 &&& (4611686018427387903 : Int64))), .second, .val (.long (q2 &&& (4611686018427387903 : Int64))), .second, .val (.long ((q1 &&& (4611686018427387903 : Int64)) + (q2 &&& (4611686018427387903 : Int64)))), .second, .val (.long (q0 ^^^ q2)), .second, .val (.long q5), .second, .val (.long ((q5 ^^^ q3) ^^^ q4)), .second, .val (.int (0 : Int32)), .val (.ref b1), .val (.int (1 : Int32)), .val (.int (2 : Int32)), .val (.long q3), .second, .unset, .unset] [(.long q4)])) _
        refine XS.goto X639.here hx rfl (pc0 := 153) (pc' := 163) rfl (hb hby at_153) (by decide) (by decide) ?_
        show Steps p.tables e below (T639.setTop (mkF m 163 #[.val (.long q0), .second, .val (.long q1), .second, .val (.long q2), .second, .val (.long q3), .second, .val (.long q4), .second, .val (.long q5), .second, .val (.long (q1 &&& (4611686018427387903 : Int64))), .second, .val (.long (q2 &&& (4611686018427387903 : Int64))), .second, .val (.long ((q1 &&& (4611686018427387903 : Int64)) + (q2 &&& (4611686018427387903 : Int64)))), .second, .val (.long (q0 ^^^ q2)), .second, .val (.long q5), .second, .val (.long ((q5 ^^^ q3) ^^^ q4)), .second, .val (.int (0 : Int32)), .val (.ref b1), .val (.int (1 : Int32)), .val (.int (2 : Int32)), .val (.long q3), .second, .unset, .unset] [(.long q4)])) _
        refine XS.lstore X639.here hx rfl (hb hby at_163) rfl (l' := #[.val (.long q0), .second, .val (.long q1), .second, .val (.long q2), .second, .val (.long q3), .second, .val (.long q4), .second, .val (.long q5), .second, .val (.long (q1 &&& (4611686018427387903 : Int64))), .second, .val (.long (q2 &&& (4611686018427387903 : Int64))), .second, .val (.long ((q1 &&& (4611686018427387903 : Int64)) + (q2 &&& (4611686018427387903 : Int64)))), .second, .val (.long (q0 ^^^ q2)), .second, .val (.long q5), .second, .val (.long ((q5 ^^^ q3) ^^^ q4)), .second, .val (.int (0 : Int32)), .val (.ref b1), .val (.int (1 : Int32)), .val (.int (2 : Int32)), .val (.long q3), .second, .val (.long q4), .second]) rfl ?_
        show Steps p.tables e below (T639.setTop (mkF m 165 #[.val (.long q0), .second, .val (.long q1), .second, .val (.long q2), .second, .val (.long q3), .second, .val (.long q4), .second, .val (.long q5), .second, .val (.long (q1 &&& (4611686018427387903 : Int64))), .second, .val (.long (q2 &&& (4611686018427387903 : Int64))), .second, .val (.long ((q1 &&& (4611686018427387903 : Int64)) + (q2 &&& (4611686018427387903 : Int64)))), .second, .val (.long (q0 ^^^ q2)), .second, .val (.long q5), .second, .val (.long ((q5 ^^^ q3) ^^^ q4)), .second, .val (.int (0 : Int32)), .val (.ref b1), .val (.int (1 : Int32)), .val (.int (2 : Int32)), .val (.long q3), .second, .val (.long q4), .second] [])) _
        refine XS.aload X639.here hx rfl (hb hby at_165) rfl rfl ?_
        show Steps p.tables e below (T639.setTop (mkF m 167 #[.val (.long q0), .second, .val (.long q1), .second, .val (.long q2), .second, .val (.long q3), .second, .val (.long q4), .second, .val (.long q5), .second, .val (.long (q1 &&& (4611686018427387903 : Int64))), .second, .val (.long (q2 &&& (4611686018427387903 : Int64))), .second, .val (.long ((q1 &&& (4611686018427387903 : Int64)) + (q2 &&& (4611686018427387903 : Int64)))), .second, .val (.long (q0 ^^^ q2)), .second, .val (.long q5), .second, .val (.long ((q5 ^^^ q3) ^^^ q4)), .second, .val (.int (0 : Int32)), .val (.ref b1), .val (.int (1 : Int32)), .val (.int (2 : Int32)), .val (.long q3), .second, .val (.long q4), .second] [(.ref b1)])) _
        refine st642.trans ?_
        show Steps p.tables e below (T642.setTop (mkF m 170 #[.val (.long q0), .second, .val (.long q1), .second, .val (.long q2), .second, .val (.long q3), .second, .val (.long q4), .second, .val (.long q5), .second, .val (.long (q1 &&& (4611686018427387903 : Int64))), .second, .val (.long (q2 &&& (4611686018427387903 : Int64))), .second, .val (.long ((q1 &&& (4611686018427387903 : Int64)) + (q2 &&& (4611686018427387903 : Int64)))), .second, .val (.long (q0 ^^^ q2)), .second, .val (.long q5), .second, .val (.long ((q5 ^^^ q3) ^^^ q4)), .second, .val (.int (0 : Int32)), .val (.ref b1), .val (.int (1 : Int32)), .val (.int (2 : Int32)), .val (.long q3), .second, .val (.long q4), .second] [(.int (2 : Int32))])) _
        refine XS.iload X642.here hx rfl (hb hby at_170) rfl ?_
        show Steps p.tables e below (T642.setTop (mkF m 172 #[.val (.long q0), .second, .val (.long q1), .second, .val (.long q2), .second, .val (.long q3), .second, .val (.long q4), .second, .val (.long q5), .second, .val (.long (q1 &&& (4611686018427387903 : Int64))), .second, .val (.long (q2 &&& (4611686018427387903 : Int64))), .second, .val (.long ((q1 &&& (4611686018427387903 : Int64)) + (q2 &&& (4611686018427387903 : Int64)))), .second, .val (.long (q0 ^^^ q2)), .second, .val (.long q5), .second, .val (.long ((q5 ^^^ q3) ^^^ q4)), .second, .val (.int (0 : Int32)), .val (.ref b1), .val (.int (1 : Int32)), .val (.int (2 : Int32)), .val (.long q3), .second, .val (.long q4), .second] [(.int (2 : Int32)), (.int (2 : Int32))])) _
        refine XS.icmpYes X642.here hx rfl (pc0 := 172) (pc' := 177) rfl (hb hby at_172) rfl (teq rfl).1 (by decide) (by decide) ?_
        show Steps p.tables e below (T642.setTop (mkF m 177 #[.val (.long q0), .second, .val (.long q1), .second, .val (.long q2), .second, .val (.long q3), .second, .val (.long q4), .second, .val (.long q5), .second, .val (.long (q1 &&& (4611686018427387903 : Int64))), .second, .val (.long (q2 &&& (4611686018427387903 : Int64))), .second, .val (.long ((q1 &&& (4611686018427387903 : Int64)) + (q2 &&& (4611686018427387903 : Int64)))), .second, .val (.long (q0 ^^^ q2)), .second, .val (.long q5), .second, .val (.long ((q5 ^^^ q3) ^^^ q4)), .second, .val (.int (0 : Int32)), .val (.ref b1), .val (.int (1 : Int32)), .val (.int (2 : Int32)), .val (.long q3), .second, .val (.long q4), .second] [])) _
        refine XS.aload X642.here hx rfl (hb hby at_177) rfl rfl ?_
        show Steps p.tables e below (T642.setTop (mkF m 179 #[.val (.long q0), .second, .val (.long q1), .second, .val (.long q2), .second, .val (.long q3), .second, .val (.long q4), .second, .val (.long q5), .second, .val (.long (q1 &&& (4611686018427387903 : Int64))), .second, .val (.long (q2 &&& (4611686018427387903 : Int64))), .second, .val (.long ((q1 &&& (4611686018427387903 : Int64)) + (q2 &&& (4611686018427387903 : Int64)))), .second, .val (.long (q0 ^^^ q2)), .second, .val (.long q5), .second, .val (.long ((q5 ^^^ q3) ^^^ q4)), .second, .val (.int (0 : Int32)), .val (.ref b1), .val (.int (1 : Int32)), .val (.int (2 : Int32)), .val (.long q3), .second, .val (.long q4), .second] [(.ref b1)])) _
        refine XS.iconst X642.here hx rfl (hb hby at_179) ?_
        show Steps p.tables e below (T642.setTop (mkF m 180 #[.val (.long q0), .second, .val (.long q1), .second, .val (.long q2), .second, .val (.long q3), .second, .val (.long q4), .second, .val (.long q5), .second, .val (.long (q1 &&& (4611686018427387903 : Int64))), .second, .val (.long (q2 &&& (4611686018427387903 : Int64))), .second, .val (.long ((q1 &&& (4611686018427387903 : Int64)) + (q2 &&& (4611686018427387903 : Int64)))), .second, .val (.long (q0 ^^^ q2)), .second, .val (.long q5), .second, .val (.long ((q5 ^^^ q3) ^^^ q4)), .second, .val (.int (0 : Int32)), .val (.ref b1), .val (.int (1 : Int32)), .val (.int (2 : Int32)), .val (.long q3), .second, .val (.long q4), .second] [(.int (0 : Int32)), (.ref b1)])) _
        refine st643.trans ?_
        show Steps p.tables e below (T643.setTop (mkF m 183 #[.val (.long q0), .second, .val (.long q1), .second, .val (.long q2), .second, .val (.long q3), .second, .val (.long q4), .second, .val (.long q5), .second, .val (.long (q1 &&& (4611686018427387903 : Int64))), .second, .val (.long (q2 &&& (4611686018427387903 : Int64))), .second, .val (.long ((q1 &&& (4611686018427387903 : Int64)) + (q2 &&& (4611686018427387903 : Int64)))), .second, .val (.long (q0 ^^^ q2)), .second, .val (.long q5), .second, .val (.long ((q5 ^^^ q3) ^^^ q4)), .second, .val (.int (0 : Int32)), .val (.ref b1), .val (.int (1 : Int32)), .val (.int (2 : Int32)), .val (.long q3), .second, .val (.long q4), .second] [(.long q0)])) _
        refine XS.lloadN X643.here hx rfl (hb hby at_183) rfl ?_
        show Steps p.tables e below (T643.setTop (mkF m 184 #[.val (.long q0), .second, .val (.long q1), .second, .val (.long q2), .second, .val (.long q3), .second, .val (.long q4), .second, .val (.long q5), .second, .val (.long (q1 &&& (4611686018427387903 : Int64))), .second, .val (.long (q2 &&& (4611686018427387903 : Int64))), .second, .val (.long ((q1 &&& (4611686018427387903 : Int64)) + (q2 &&& (4611686018427387903 : Int64)))), .second, .val (.long (q0 ^^^ q2)), .second, .val (.long q5), .second, .val (.long ((q5 ^^^ q3) ^^^ q4)), .second, .val (.int (0 : Int32)), .val (.ref b1), .val (.int (1 : Int32)), .val (.int (2 : Int32)), .val (.long q3), .second, .val (.long q4), .second] [(.long q0), (.long q0)])) _
        refine XS.lcmp X643.here hx rfl (hb hby at_184) rfl ?_
        show Steps p.tables e below (T643.setTop (mkF m 185 #[.val (.long q0), .second, .val (.long q1), .second, .val (.long q2), .second, .val (.long q3), .second, .val (.long q4), .second, .val (.long q5), .second, .val (.long (q1 &&& (4611686018427387903 : Int64))), .second, .val (.long (q2 &&& (4611686018427387903 : Int64))), .second, .val (.long ((q1 &&& (4611686018427387903 : Int64)) + (q2 &&& (4611686018427387903 : Int64)))), .second, .val (.long (q0 ^^^ q2)), .second, .val (.long q5), .second, .val (.long ((q5 ^^^ q3) ^^^ q4)), .second, .val (.int (0 : Int32)), .val (.ref b1), .val (.int (1 : Int32)), .val (.int (2 : Int32)), .val (.long q3), .second, .val (.long q4), .second] [(.int (lcmpW q0 q0))])) _
        refine XS.ifNo X643.here hx rfl (hb hby at_185) rfl ((if0 _ _).trans (teq (own_eq0.mpr rfl)).2) ?_
        show Steps p.tables e below (T643.setTop (mkF m 188 #[.val (.long q0), .second, .val (.long q1), .second, .val (.long q2), .second, .val (.long q3), .second, .val (.long q4), .second, .val (.long q5), .second, .val (.long (q1 &&& (4611686018427387903 : Int64))), .second, .val (.long (q2 &&& (4611686018427387903 : Int64))), .second, .val (.long ((q1 &&& (4611686018427387903 : Int64)) + (q2 &&& (4611686018427387903 : Int64)))), .second, .val (.long (q0 ^^^ q2)), .second, .val (.long q5), .second, .val (.long ((q5 ^^^ q3) ^^^ q4)), .second, .val (.int (0 : Int32)), .val (.ref b1), .val (.int (1 : Int32)), .val (.int (2 : Int32)), .val (.long q3), .second, .val (.long q4), .second] [])) _
        refine XS.aload X643.here hx rfl (hb hby at_188) rfl rfl ?_
        show Steps p.tables e below (T643.setTop (mkF m 190 #[.val (.long q0), .second, .val (.long q1), .second, .val (.long q2), .second, .val (.long q3), .second, .val (.long q4), .second, .val (.long q5), .second, .val (.long (q1 &&& (4611686018427387903 : Int64))), .second, .val (.long (q2 &&& (4611686018427387903 : Int64))), .second, .val (.long ((q1 &&& (4611686018427387903 : Int64)) + (q2 &&& (4611686018427387903 : Int64)))), .second, .val (.long (q0 ^^^ q2)), .second, .val (.long q5), .second, .val (.long ((q5 ^^^ q3) ^^^ q4)), .second, .val (.int (0 : Int32)), .val (.ref b1), .val (.int (1 : Int32)), .val (.int (2 : Int32)), .val (.long q3), .second, .val (.long q4), .second] [(.ref b1)])) _
        refine XS.iconst X643.here hx rfl (hb hby at_190) ?_
        show Steps p.tables e below (T643.setTop (mkF m 191 #[.val (.long q0), .second, .val (.long q1), .second, .val (.long q2), .second, .val (.long q3), .second, .val (.long q4), .second, .val (.long q5), .second, .val (.long (q1 &&& (4611686018427387903 : Int64))), .second, .val (.long (q2 &&& (4611686018427387903 : Int64))), .second, .val (.long ((q1 &&& (4611686018427387903 : Int64)) + (q2 &&& (4611686018427387903 : Int64)))), .second, .val (.long (q0 ^^^ q2)), .second, .val (.long q5), .second, .val (.long ((q5 ^^^ q3) ^^^ q4)), .second, .val (.int (0 : Int32)), .val (.ref b1), .val (.int (1 : Int32)), .val (.int (2 : Int32)), .val (.long q3), .second, .val (.long q4), .second] [(.int (0 : Int32)), (.ref b1)])) _
        refine st644.trans ?_
        show Steps p.tables e below (T644.setTop (mkF m 194 #[.val (.long q0), .second, .val (.long q1), .second, .val (.long q2), .second, .val (.long q3), .second, .val (.long q4), .second, .val (.long q5), .second, .val (.long (q1 &&& (4611686018427387903 : Int64))), .second, .val (.long (q2 &&& (4611686018427387903 : Int64))), .second, .val (.long ((q1 &&& (4611686018427387903 : Int64)) + (q2 &&& (4611686018427387903 : Int64)))), .second, .val (.long (q0 ^^^ q2)), .second, .val (.long q5), .second, .val (.long ((q5 ^^^ q3) ^^^ q4)), .second, .val (.int (0 : Int32)), .val (.ref b1), .val (.int (1 : Int32)), .val (.int (2 : Int32)), .val (.long q3), .second, .val (.long q4), .second] [(.long (q1 &&& (4611686018427387903 : Int64)))])) _
        refine XS.lload X644.here hx rfl (hb hby at_194) rfl ?_
        show Steps p.tables e below (T644.setTop (mkF m 196 #[.val (.long q0), .second, .val (.long q1), .second, .val (.long q2), .second, .val (.long q3), .second, .val (.long q4), .second, .val (.long q5), .second, .val (.long (q1 &&& (4611686018427387903 : Int64))), .second, .val (.long (q2 &&& (4611686018427387903 : Int64))), .second, .val (.long ((q1 &&& (4611686018427387903 : Int64)) + (q2 &&& (4611686018427387903 : Int64)))), .second, .val (.long (q0 ^^^ q2)), .second, .val (.long q5), .second, .val (.long ((q5 ^^^ q3) ^^^ q4)), .second, .val (.int (0 : Int32)), .val (.ref b1), .val (.int (1 : Int32)), .val (.int (2 : Int32)), .val (.long q3), .second, .val (.long q4), .second] [(.long (q1 &&& (4611686018427387903 : Int64))), (.long (q1 &&& (4611686018427387903 : Int64)))])) _
        refine XS.lcmp X644.here hx rfl (hb hby at_196) rfl ?_
        show Steps p.tables e below (T644.setTop (mkF m 197 #[.val (.long q0), .second, .val (.long q1), .second, .val (.long q2), .second, .val (.long q3), .second, .val (.long q4), .second, .val (.long q5), .second, .val (.long (q1 &&& (4611686018427387903 : Int64))), .second, .val (.long (q2 &&& (4611686018427387903 : Int64))), .second, .val (.long ((q1 &&& (4611686018427387903 : Int64)) + (q2 &&& (4611686018427387903 : Int64)))), .second, .val (.long (q0 ^^^ q2)), .second, .val (.long q5), .second, .val (.long ((q5 ^^^ q3) ^^^ q4)), .second, .val (.int (0 : Int32)), .val (.ref b1), .val (.int (1 : Int32)), .val (.int (2 : Int32)), .val (.long q3), .second, .val (.long q4), .second] [(.int (lcmpW (q1 &&& (4611686018427387903 : Int64)) (q1 &&& (4611686018427387903 : Int64))))])) _
        refine XS.ifYes X644.here hx rfl (pc0 := 197) (pc' := 202) rfl (hb hby at_197) rfl ((if0 _ _).trans (teq (own_eq0.mpr rfl)).1) (by decide) (by decide) ?_
        show Steps p.tables e below (T644.setTop (mkF m 202 #[.val (.long q0), .second, .val (.long q1), .second, .val (.long q2), .second, .val (.long q3), .second, .val (.long q4), .second, .val (.long q5), .second, .val (.long (q1 &&& (4611686018427387903 : Int64))), .second, .val (.long (q2 &&& (4611686018427387903 : Int64))), .second, .val (.long ((q1 &&& (4611686018427387903 : Int64)) + (q2 &&& (4611686018427387903 : Int64)))), .second, .val (.long (q0 ^^^ q2)), .second, .val (.long q5), .second, .val (.long ((q5 ^^^ q3) ^^^ q4)), .second, .val (.int (0 : Int32)), .val (.ref b1), .val (.int (1 : Int32)), .val (.int (2 : Int32)), .val (.long q3), .second, .val (.long q4), .second] [])) _
        refine XS.aload X644.here hx rfl (hb hby at_202) rfl rfl ?_
        show Steps p.tables e below (T644.setTop (mkF m 204 #[.val (.long q0), .second, .val (.long q1), .second, .val (.long q2), .second, .val (.long q3), .second, .val (.long q4), .second, .val (.long q5), .second, .val (.long (q1 &&& (4611686018427387903 : Int64))), .second, .val (.long (q2 &&& (4611686018427387903 : Int64))), .second, .val (.long ((q1 &&& (4611686018427387903 : Int64)) + (q2 &&& (4611686018427387903 : Int64)))), .second, .val (.long (q0 ^^^ q2)), .second, .val (.long q5), .second, .val (.long ((q5 ^^^ q3) ^^^ q4)), .second, .val (.int (0 : Int32)), .val (.ref b1), .val (.int (1 : Int32)), .val (.int (2 : Int32)), .val (.long q3), .second, .val (.long q4), .second] [(.ref b1)])) _
        refine XS.iconst X644.here hx rfl (hb hby at_204) ?_
        show Steps p.tables e below (T644.setTop (mkF m 205 #[.val (.long q0), .second, .val (.long q1), .second, .val (.long q2), .second, .val (.long q3), .second, .val (.long q4), .second, .val (.long q5), .second, .val (.long (q1 &&& (4611686018427387903 : Int64))), .second, .val (.long (q2 &&& (4611686018427387903 : Int64))), .second, .val (.long ((q1 &&& (4611686018427387903 : Int64)) + (q2 &&& (4611686018427387903 : Int64)))), .second, .val (.long (q0 ^^^ q2)), .second, .val (.long q5), .second, .val (.long ((q5 ^^^ q3) ^^^ q4)), .second, .val (.int (0 : Int32)), .val (.ref b1), .val (.int (1 : Int32)), .val (.int (2 : Int32)), .val (.long q3), .second, .val (.long q4), .second] [(.int (0 : Int32)), (.ref b1)])) _
        refine st645.trans ?_
        show Steps p.tables e below (T645.setTop (mkF m 208 #[.val (.long q0), .second, .val (.long q1), .second, .val (.long q2), .second, .val (.long q3), .second, .val (.long q4), .second, .val (.long q5), .second, .val (.long (q1 &&& (4611686018427387903 : Int64))), .second, .val (.long (q2 &&& (4611686018427387903 : Int64))), .second, .val (.long ((q1 &&& (4611686018427387903 : Int64)) + (q2 &&& (4611686018427387903 : Int64)))), .second, .val (.long (q0 ^^^ q2)), .second, .val (.long q5), .second, .val (.long ((q5 ^^^ q3) ^^^ q4)), .second, .val (.int (0 : Int32)), .val (.ref b1), .val (.int (1 : Int32)), .val (.int (2 : Int32)), .val (.long q3), .second, .val (.long q4), .second] [(.long q3)])) _
        refine XS.lload X645.here hx rfl (hb hby at_208) rfl ?_
        show Steps p.tables e below (T645.setTop (mkF m 210 #[.val (.long q0), .second, .val (.long q1), .second, .val (.long q2), .second, .val (.long q3), .second, .val (.long q4), .second, .val (.long q5), .second, .val (.long (q1 &&& (4611686018427387903 : Int64))), .second, .val (.long (q2 &&& (4611686018427387903 : Int64))), .second, .val (.long ((q1 &&& (4611686018427387903 : Int64)) + (q2 &&& (4611686018427387903 : Int64)))), .second, .val (.long (q0 ^^^ q2)), .second, .val (.long q5), .second, .val (.long ((q5 ^^^ q3) ^^^ q4)), .second, .val (.int (0 : Int32)), .val (.ref b1), .val (.int (1 : Int32)), .val (.int (2 : Int32)), .val (.long q3), .second, .val (.long q4), .second] [(.long q3), (.long q3)])) _
        refine XS.lcmp X645.here hx rfl (hb hby at_210) rfl ?_
        show Steps p.tables e below (T645.setTop (mkF m 211 #[.val (.long q0), .second, .val (.long q1), .second, .val (.long q2), .second, .val (.long q3), .second, .val (.long q4), .second, .val (.long q5), .second, .val (.long (q1 &&& (4611686018427387903 : Int64))), .second, .val (.long (q2 &&& (4611686018427387903 : Int64))), .second, .val (.long ((q1 &&& (4611686018427387903 : Int64)) + (q2 &&& (4611686018427387903 : Int64)))), .second, .val (.long (q0 ^^^ q2)), .second, .val (.long q5), .second, .val (.long ((q5 ^^^ q3) ^^^ q4)), .second, .val (.int (0 : Int32)), .val (.ref b1), .val (.int (1 : Int32)), .val (.int (2 : Int32)), .val (.long q3), .second, .val (.long q4), .second] [(.int (lcmpW q3 q3))])) _
        refine XS.ifNo X645.here hx rfl (hb hby at_211) rfl ((if0 _ _).trans (teq (own_eq0.mpr rfl)).2) ?_
        show Steps p.tables e below (T645.setTop (mkF m 214 #[.val (.long q0), .second, .val (.long q1), .second, .val (.long q2), .second, .val (.long q3), .second, .val (.long q4), .second, .val (.long q5), .second, .val (.long (q1 &&& (4611686018427387903 : Int64))), .second, .val (.long (q2 &&& (4611686018427387903 : Int64))), .second, .val (.long ((q1 &&& (4611686018427387903 : Int64)) + (q2 &&& (4611686018427387903 : Int64)))), .second, .val (.long (q0 ^^^ q2)), .second, .val (.long q5), .second, .val (.long ((q5 ^^^ q3) ^^^ q4)), .second, .val (.int (0 : Int32)), .val (.ref b1), .val (.int (1 : Int32)), .val (.int (2 : Int32)), .val (.long q3), .second, .val (.long q4), .second] [])) _
        refine XS.aload X645.here hx rfl (hb hby at_214) rfl rfl ?_
        show Steps p.tables e below (T645.setTop (mkF m 216 #[.val (.long q0), .second, .val (.long q1), .second, .val (.long q2), .second, .val (.long q3), .second, .val (.long q4), .second, .val (.long q5), .second, .val (.long (q1 &&& (4611686018427387903 : Int64))), .second, .val (.long (q2 &&& (4611686018427387903 : Int64))), .second, .val (.long ((q1 &&& (4611686018427387903 : Int64)) + (q2 &&& (4611686018427387903 : Int64)))), .second, .val (.long (q0 ^^^ q2)), .second, .val (.long q5), .second, .val (.long ((q5 ^^^ q3) ^^^ q4)), .second, .val (.int (0 : Int32)), .val (.ref b1), .val (.int (1 : Int32)), .val (.int (2 : Int32)), .val (.long q3), .second, .val (.long q4), .second] [(.ref b1)])) _
        refine XS.iconst X645.here hx rfl (hb hby at_216) ?_
        show Steps p.tables e below (T645.setTop (mkF m 217 #[.val (.long q0), .second, .val (.long q1), .second, .val (.long q2), .second, .val (.long q3), .second, .val (.long q4), .second, .val (.long q5), .second, .val (.long (q1 &&& (4611686018427387903 : Int64))), .second, .val (.long (q2 &&& (4611686018427387903 : Int64))), .second, .val (.long ((q1 &&& (4611686018427387903 : Int64)) + (q2 &&& (4611686018427387903 : Int64)))), .second, .val (.long (q0 ^^^ q2)), .second, .val (.long q5), .second, .val (.long ((q5 ^^^ q3) ^^^ q4)), .second, .val (.int (0 : Int32)), .val (.ref b1), .val (.int (1 : Int32)), .val (.int (2 : Int32)), .val (.long q3), .second, .val (.long q4), .second] [(.int (0 : Int32)), (.ref b1)])) _
        refine st646.trans ?_
        show Steps p.tables e below (T646.setTop (mkF m 220 #[.val (.long q0), .second, .val (.long q1), .second, .val (.long q2), .second, .val (.long q3), .second, .val (.long q4), .second, .val (.long q5), .second, .val (.long (q1 &&& (4611686018427387903 : Int64))), .second, .val (.long (q2 &&& (4611686018427387903 : Int64))), .second, .val (.long ((q1 &&& (4611686018427387903 : Int64)) + (q2 &&& (4611686018427387903 : Int64)))), .second, .val (.long (q0 ^^^ q2)), .second, .val (.long q5), .second, .val (.long ((q5 ^^^ q3) ^^^ q4)), .second, .val (.int (0 : Int32)), .val (.ref b1), .val (.int (1 : Int32)), .val (.int (2 : Int32)), .val (.long q3), .second, .val (.long q4), .second] [(.long q4)])) _
        refine XS.lload X646.here hx rfl (hb hby at_220) rfl ?_
        show Steps p.tables e below (T646.setTop (mkF m 222 #[.val (.long q0), .second, .val (.long q1), .second, .val (.long q2), .second, .val (.long q3), .second, .val (.long q4), .second, .val (.long q5), .second, .val (.long (q1 &&& (4611686018427387903 : Int64))), .second, .val (.long (q2 &&& (4611686018427387903 : Int64))), .second, .val (.long ((q1 &&& (4611686018427387903 : Int64)) + (q2 &&& (4611686018427387903 : Int64)))), .second, .val (.long (q0 ^^^ q2)), .second, .val (.long q5), .second, .val (.long ((q5 ^^^ q3) ^^^ q4)), .second, .val (.int (0 : Int32)), .val (.ref b1), .val (.int (1 : Int32)), .val (.int (2 : Int32)), .val (.long q3), .second, .val (.long q4), .second] [(.long q4), (.long q4)])) _
        refine XS.lcmp X646.here hx rfl (hb hby at_222) rfl ?_
        show Steps p.tables e below (T646.setTop (mkF m 223 #[.val (.long q0), .second, .val (.long q1), .second, .val (.long q2), .second, .val (.long q3), .second, .val (.long q4), .second, .val (.long q5), .second, .val (.long (q1 &&& (4611686018427387903 : Int64))), .second, .val (.long (q2 &&& (4611686018427387903 : Int64))), .second, .val (.long ((q1 &&& (4611686018427387903 : Int64)) + (q2 &&& (4611686018427387903 : Int64)))), .second, .val (.long (q0 ^^^ q2)), .second, .val (.long q5), .second, .val (.long ((q5 ^^^ q3) ^^^ q4)), .second, .val (.int (0 : Int32)), .val (.ref b1), .val (.int (1 : Int32)), .val (.int (2 : Int32)), .val (.long q3), .second, .val (.long q4), .second] [(.int (lcmpW q4 q4))])) _
        refine XS.ifYes X646.here hx rfl (pc0 := 223) (pc' := 228) rfl (hb hby at_223) rfl ((if0 _ _).trans (teq (own_eq0.mpr rfl)).1) (by decide) (by decide) ?_
        show Steps p.tables e below (T646.setTop (mkF m 228 #[.val (.long q0), .second, .val (.long q1), .second, .val (.long q2), .second, .val (.long q3), .second, .val (.long q4), .second, .val (.long q5), .second, .val (.long (q1 &&& (4611686018427387903 : Int64))), .second, .val (.long (q2 &&& (4611686018427387903 : Int64))), .second, .val (.long ((q1 &&& (4611686018427387903 : Int64)) + (q2 &&& (4611686018427387903 : Int64)))), .second, .val (.long (q0 ^^^ q2)), .second, .val (.long q5), .second, .val (.long ((q5 ^^^ q3) ^^^ q4)), .second, .val (.int (0 : Int32)), .val (.ref b1), .val (.int (1 : Int32)), .val (.int (2 : Int32)), .val (.long q3), .second, .val (.long q4), .second] [])) _
        refine XS.iload X646.here hx rfl (hb hby at_228) rfl ?_
        show Steps p.tables e below (T646.setTop (mkF m 230 #[.val (.long q0), .second, .val (.long q1), .second, .val (.long q2), .second, .val (.long q3), .second, .val (.long q4), .second, .val (.long q5), .second, .val (.long (q1 &&& (4611686018427387903 : Int64))), .second, .val (.long (q2 &&& (4611686018427387903 : Int64))), .second, .val (.long ((q1 &&& (4611686018427387903 : Int64)) + (q2 &&& (4611686018427387903 : Int64)))), .second, .val (.long (q0 ^^^ q2)), .second, .val (.long q5), .second, .val (.long ((q5 ^^^ q3) ^^^ q4)), .second, .val (.int (0 : Int32)), .val (.ref b1), .val (.int (1 : Int32)), .val (.int (2 : Int32)), .val (.long q3), .second, .val (.long q4), .second] [(.int (1 : Int32))])) _
        refine XS.ifNo X646.here hx rfl (hb hby at_230) rfl ((if0 _ _).trans (feq (by decide)).1) ?_
        show Steps p.tables e below (T646.setTop (mkF m 233 #[.val (.long q0), .second, .val (.long q1), .second, .val (.long q2), .second, .val (.long q3), .second, .val (.long q4), .second, .val (.long q5), .second, .val (.long (q1 &&& (4611686018427387903 : Int64))), .second, .val (.long (q2 &&& (4611686018427387903 : Int64))), .second, .val (.long ((q1 &&& (4611686018427387903 : Int64)) + (q2 &&& (4611686018427387903 : Int64)))), .second, .val (.long (q0 ^^^ q2)), .second, .val (.long q5), .second, .val (.long ((q5 ^^^ q3) ^^^ q4)), .second, .val (.int (0 : Int32)), .val (.ref b1), .val (.int (1 : Int32)), .val (.int (2 : Int32)), .val (.long q3), .second, .val (.long q4), .second] [])) _
        refine XS.aload X646.here hx rfl (hb hby at_233) rfl rfl ?_
        show Steps p.tables e below (T646.setTop (mkF m 235 #[.val (.long q0), .second, .val (.long q1), .second, .val (.long q2), .second, .val (.long q3), .second, .val (.long q4), .second, .val (.long q5), .second, .val (.long (q1 &&& (4611686018427387903 : Int64))), .second, .val (.long (q2 &&& (4611686018427387903 : Int64))), .second, .val (.long ((q1 &&& (4611686018427387903 : Int64)) + (q2 &&& (4611686018427387903 : Int64)))), .second, .val (.long (q0 ^^^ q2)), .second, .val (.long q5), .second, .val (.long ((q5 ^^^ q3) ^^^ q4)), .second, .val (.int (0 : Int32)), .val (.ref b1), .val (.int (1 : Int32)), .val (.int (2 : Int32)), .val (.long q3), .second, .val (.long q4), .second] [(.ref b1)])) _
        refine XS.iconst X646.here hx rfl (hb hby at_235) ?_
        show Steps p.tables e below (T646.setTop (mkF m 236 #[.val (.long q0), .second, .val (.long q1), .second, .val (.long q2), .second, .val (.long q3), .second, .val (.long q4), .second, .val (.long q5), .second, .val (.long (q1 &&& (4611686018427387903 : Int64))), .second, .val (.long (q2 &&& (4611686018427387903 : Int64))), .second, .val (.long ((q1 &&& (4611686018427387903 : Int64)) + (q2 &&& (4611686018427387903 : Int64)))), .second, .val (.long (q0 ^^^ q2)), .second, .val (.long q5), .second, .val (.long ((q5 ^^^ q3) ^^^ q4)), .second, .val (.int (0 : Int32)), .val (.ref b1), .val (.int (1 : Int32)), .val (.int (2 : Int32)), .val (.long q3), .second, .val (.long q4), .second] [(.int (1 : Int32)), (.ref b1)])) _
        refine st647.trans ?_
        show Steps p.tables e below (T647.setTop (mkF m 239 #[.val (.long q0), .second, .val (.long q1), .second, .val (.long q2), .second, .val (.long q3), .second, .val (.long q4), .second, .val (.long q5), .second, .val (.long (q1 &&& (4611686018427387903 : Int64))), .second, .val (.long (q2 &&& (4611686018427387903 : Int64))), .second, .val (.long ((q1 &&& (4611686018427387903 : Int64)) + (q2 &&& (4611686018427387903 : Int64)))), .second, .val (.long (q0 ^^^ q2)), .second, .val (.long q5), .second, .val (.long ((q5 ^^^ q3) ^^^ q4)), .second, .val (.int (0 : Int32)), .val (.ref b1), .val (.int (1 : Int32)), .val (.int (2 : Int32)), .val (.long q3), .second, .val (.long q4), .second] [(.long (q0 ^^^ q2))])) _
        refine XS.lload X647.here hx rfl (hb hby at_239) rfl ?_
        show Steps p.tables e below (T647.setTop (mkF m 241 #[.val (.long q0), .second, .val (.long q1), .second, .val (.long q2), .second, .val (.long q3), .second, .val (.long q4), .second, .val (.long q5), .second, .val (.long (q1 &&& (4611686018427387903 : Int64))), .second, .val (.long (q2 &&& (4611686018427387903 : Int64))), .second, .val (.long ((q1 &&& (4611686018427387903 : Int64)) + (q2 &&& (4611686018427387903 : Int64)))), .second, .val (.long (q0 ^^^ q2)), .second, .val (.long q5), .second, .val (.long ((q5 ^^^ q3) ^^^ q4)), .second, .val (.int (0 : Int32)), .val (.ref b1), .val (.int (1 : Int32)), .val (.int (2 : Int32)), .val (.long q3), .second, .val (.long q4), .second] [(.long (q0 ^^^ q2)), (.long (q0 ^^^ q2))])) _
        refine XS.lcmp X647.here hx rfl (hb hby at_241) rfl ?_
        show Steps p.tables e below (T647.setTop (mkF m 242 #[.val (.long q0), .second, .val (.long q1), .second, .val (.long q2), .second, .val (.long q3), .second, .val (.long q4), .second, .val (.long q5), .second, .val (.long (q1 &&& (4611686018427387903 : Int64))), .second, .val (.long (q2 &&& (4611686018427387903 : Int64))), .second, .val (.long ((q1 &&& (4611686018427387903 : Int64)) + (q2 &&& (4611686018427387903 : Int64)))), .second, .val (.long (q0 ^^^ q2)), .second, .val (.long q5), .second, .val (.long ((q5 ^^^ q3) ^^^ q4)), .second, .val (.int (0 : Int32)), .val (.ref b1), .val (.int (1 : Int32)), .val (.int (2 : Int32)), .val (.long q3), .second, .val (.long q4), .second] [(.int (lcmpW (q0 ^^^ q2) (q0 ^^^ q2)))])) _
        refine XS.ifNo X647.here hx rfl (hb hby at_242) rfl ((if0 _ _).trans (teq (own_eq0.mpr rfl)).2) ?_
        show Steps p.tables e below (T647.setTop (mkF m 245 #[.val (.long q0), .second, .val (.long q1), .second, .val (.long q2), .second, .val (.long q3), .second, .val (.long q4), .second, .val (.long q5), .second, .val (.long (q1 &&& (4611686018427387903 : Int64))), .second, .val (.long (q2 &&& (4611686018427387903 : Int64))), .second, .val (.long ((q1 &&& (4611686018427387903 : Int64)) + (q2 &&& (4611686018427387903 : Int64)))), .second, .val (.long (q0 ^^^ q2)), .second, .val (.long q5), .second, .val (.long ((q5 ^^^ q3) ^^^ q4)), .second, .val (.int (0 : Int32)), .val (.ref b1), .val (.int (1 : Int32)), .val (.int (2 : Int32)), .val (.long q3), .second, .val (.long q4), .second] [])) _
        refine XS.aload X647.here hx rfl (hb hby at_245) rfl rfl ?_
        show Steps p.tables e below (T647.setTop (mkF m 247 #[.val (.long q0), .second, .val (.long q1), .second, .val (.long q2), .second, .val (.long q3), .second, .val (.long q4), .second, .val (.long q5), .second, .val (.long (q1 &&& (4611686018427387903 : Int64))), .second, .val (.long (q2 &&& (4611686018427387903 : Int64))), .second, .val (.long ((q1 &&& (4611686018427387903 : Int64)) + (q2 &&& (4611686018427387903 : Int64)))), .second, .val (.long (q0 ^^^ q2)), .second, .val (.long q5), .second, .val (.long ((q5 ^^^ q3) ^^^ q4)), .second, .val (.int (0 : Int32)), .val (.ref b1), .val (.int (1 : Int32)), .val (.int (2 : Int32)), .val (.long q3), .second, .val (.long q4), .second] [(.ref b1)])) _
        refine XS.iconst X647.here hx rfl (hb hby at_247) ?_
        show Steps p.tables e below (T647.setTop (mkF m 248 #[.val (.long q0), .second, .val (.long q1), .second, .val (.long q2), .second, .val (.long q3), .second, .val (.long q4), .second, .val (.long q5), .second, .val (.long (q1 &&& (4611686018427387903 : Int64))), .second, .val (.long (q2 &&& (4611686018427387903 : Int64))), .second, .val (.long ((q1 &&& (4611686018427387903 : Int64)) + (q2 &&& (4611686018427387903 : Int64)))), .second, .val (.long (q0 ^^^ q2)), .second, .val (.long q5), .second, .val (.long ((q5 ^^^ q3) ^^^ q4)), .second, .val (.int (0 : Int32)), .val (.ref b1), .val (.int (1 : Int32)), .val (.int (2 : Int32)), .val (.long q3), .second, .val (.long q4), .second] [(.int (1 : Int32)), (.ref b1)])) _
        refine st648.trans ?_
        show Steps p.tables e below (T648.setTop (mkF m 251 #[.val (.long q0), .second, .val (.long q1), .second, .val (.long q2), .second, .val (.long q3), .second, .val (.long q4), .second, .val (.long q5), .second, .val (.long (q1 &&& (4611686018427387903 : Int64))), .second, .val (.long (q2 &&& (4611686018427387903 : Int64))), .second, .val (.long ((q1 &&& (4611686018427387903 : Int64)) + (q2 &&& (4611686018427387903 : Int64)))), .second, .val (.long (q0 ^^^ q2)), .second, .val (.long q5), .second, .val (.long ((q5 ^^^ q3) ^^^ q4)), .second, .val (.int (0 : Int32)), .val (.ref b1), .val (.int (1 : Int32)), .val (.int (2 : Int32)), .val (.long q3), .second, .val (.long q4), .second] [(.long ((q1 &&& (4611686018427387903 : Int64)) + (q2 &&& (4611686018427387903 : Int64))))])) _
        refine XS.lload X648.here hx rfl (hb hby at_251) rfl ?_
        show Steps p.tables e below (T648.setTop (mkF m 253 #[.val (.long q0), .second, .val (.long q1), .second, .val (.long q2), .second, .val (.long q3), .second, .val (.long q4), .second, .val (.long q5), .second, .val (.long (q1 &&& (4611686018427387903 : Int64))), .second, .val (.long (q2 &&& (4611686018427387903 : Int64))), .second, .val (.long ((q1 &&& (4611686018427387903 : Int64)) + (q2 &&& (4611686018427387903 : Int64)))), .second, .val (.long (q0 ^^^ q2)), .second, .val (.long q5), .second, .val (.long ((q5 ^^^ q3) ^^^ q4)), .second, .val (.int (0 : Int32)), .val (.ref b1), .val (.int (1 : Int32)), .val (.int (2 : Int32)), .val (.long q3), .second, .val (.long q4), .second] [(.long ((q1 &&& (4611686018427387903 : Int64)) + (q2 &&& (4611686018427387903 : Int64)))), (.long ((q1 &&& (4611686018427387903 : Int64)) + (q2 &&& (4611686018427387903 : Int64))))])) _
        refine XS.lcmp X648.here hx rfl (hb hby at_253) rfl ?_
        show Steps p.tables e below (T648.setTop (mkF m 254 #[.val (.long q0), .second, .val (.long q1), .second, .val (.long q2), .second, .val (.long q3), .second, .val (.long q4), .second, .val (.long q5), .second, .val (.long (q1 &&& (4611686018427387903 : Int64))), .second, .val (.long (q2 &&& (4611686018427387903 : Int64))), .second, .val (.long ((q1 &&& (4611686018427387903 : Int64)) + (q2 &&& (4611686018427387903 : Int64)))), .second, .val (.long (q0 ^^^ q2)), .second, .val (.long q5), .second, .val (.long ((q5 ^^^ q3) ^^^ q4)), .second, .val (.int (0 : Int32)), .val (.ref b1), .val (.int (1 : Int32)), .val (.int (2 : Int32)), .val (.long q3), .second, .val (.long q4), .second] [(.int (lcmpW ((q1 &&& (4611686018427387903 : Int64)) + (q2 &&& (4611686018427387903 : Int64))) ((q1 &&& (4611686018427387903 : Int64)) + (q2 &&& (4611686018427387903 : Int64)))))])) _
        refine XS.ifYes X648.here hx rfl (pc0 := 254) (pc' := 259) rfl (hb hby at_254) rfl ((if0 _ _).trans (teq (own_eq0.mpr rfl)).1) (by decide) (by decide) ?_
        show Steps p.tables e below (T648.setTop (mkF m 259 #[.val (.long q0), .second, .val (.long q1), .second, .val (.long q2), .second, .val (.long q3), .second, .val (.long q4), .second, .val (.long q5), .second, .val (.long (q1 &&& (4611686018427387903 : Int64))), .second, .val (.long (q2 &&& (4611686018427387903 : Int64))), .second, .val (.long ((q1 &&& (4611686018427387903 : Int64)) + (q2 &&& (4611686018427387903 : Int64)))), .second, .val (.long (q0 ^^^ q2)), .second, .val (.long q5), .second, .val (.long ((q5 ^^^ q3) ^^^ q4)), .second, .val (.int (0 : Int32)), .val (.ref b1), .val (.int (1 : Int32)), .val (.int (2 : Int32)), .val (.long q3), .second, .val (.long q4), .second] [])) _
        refine XS.aload X648.here hx rfl (hb hby at_259) rfl rfl ?_
        show Steps p.tables e below (T648.setTop (mkF m 261 #[.val (.long q0), .second, .val (.long q1), .second, .val (.long q2), .second, .val (.long q3), .second, .val (.long q4), .second, .val (.long q5), .second, .val (.long (q1 &&& (4611686018427387903 : Int64))), .second, .val (.long (q2 &&& (4611686018427387903 : Int64))), .second, .val (.long ((q1 &&& (4611686018427387903 : Int64)) + (q2 &&& (4611686018427387903 : Int64)))), .second, .val (.long (q0 ^^^ q2)), .second, .val (.long q5), .second, .val (.long ((q5 ^^^ q3) ^^^ q4)), .second, .val (.int (0 : Int32)), .val (.ref b1), .val (.int (1 : Int32)), .val (.int (2 : Int32)), .val (.long q3), .second, .val (.long q4), .second] [(.ref b1)])) _
        refine XS.iconst X648.here hx rfl (hb hby at_261) ?_
        show Steps p.tables e below (T648.setTop (mkF m 262 #[.val (.long q0), .second, .val (.long q1), .second, .val (.long q2), .second, .val (.long q3), .second, .val (.long q4), .second, .val (.long q5), .second, .val (.long (q1 &&& (4611686018427387903 : Int64))), .second, .val (.long (q2 &&& (4611686018427387903 : Int64))), .second, .val (.long ((q1 &&& (4611686018427387903 : Int64)) + (q2 &&& (4611686018427387903 : Int64)))), .second, .val (.long (q0 ^^^ q2)), .second, .val (.long q5), .second, .val (.long ((q5 ^^^ q3) ^^^ q4)), .second, .val (.int (0 : Int32)), .val (.ref b1), .val (.int (1 : Int32)), .val (.int (2 : Int32)), .val (.long q3), .second, .val (.long q4), .second] [(.int (1 : Int32)), (.ref b1)])) _
        refine st649.trans ?_
        show Steps p.tables e below (T649.setTop (mkF m 265 #[.val (.long q0), .second, .val (.long q1), .second, .val (.long q2), .second, .val (.long q3), .second, .val (.long q4), .second, .val (.long q5), .second, .val (.long (q1 &&& (4611686018427387903 : Int64))), .second, .val (.long (q2 &&& (4611686018427387903 : Int64))), .second, .val (.long ((q1 &&& (4611686018427387903 : Int64)) + (q2 &&& (4611686018427387903 : Int64)))), .second, .val (.long (q0 ^^^ q2)), .second, .val (.long q5), .second, .val (.long ((q5 ^^^ q3) ^^^ q4)), .second, .val (.int (0 : Int32)), .val (.ref b1), .val (.int (1 : Int32)), .val (.int (2 : Int32)), .val (.long q3), .second, .val (.long q4), .second] [(.long q5)])) _
        refine XS.lload X649.here hx rfl (hb hby at_265) rfl ?_
        show Steps p.tables e below (T649.setTop (mkF m 267 #[.val (.long q0), .second, .val (.long q1), .second, .val (.long q2), .second, .val (.long q3), .second, .val (.long q4), .second, .val (.long q5), .second, .val (.long (q1 &&& (4611686018427387903 : Int64))), .second, .val (.long (q2 &&& (4611686018427387903 : Int64))), .second, .val (.long ((q1 &&& (4611686018427387903 : Int64)) + (q2 &&& (4611686018427387903 : Int64)))), .second, .val (.long (q0 ^^^ q2)), .second, .val (.long q5), .second, .val (.long ((q5 ^^^ q3) ^^^ q4)), .second, .val (.int (0 : Int32)), .val (.ref b1), .val (.int (1 : Int32)), .val (.int (2 : Int32)), .val (.long q3), .second, .val (.long q4), .second] [(.long q5), (.long q5)])) _
        refine XS.lcmp X649.here hx rfl (hb hby at_267) rfl ?_
        show Steps p.tables e below (T649.setTop (mkF m 268 #[.val (.long q0), .second, .val (.long q1), .second, .val (.long q2), .second, .val (.long q3), .second, .val (.long q4), .second, .val (.long q5), .second, .val (.long (q1 &&& (4611686018427387903 : Int64))), .second, .val (.long (q2 &&& (4611686018427387903 : Int64))), .second, .val (.long ((q1 &&& (4611686018427387903 : Int64)) + (q2 &&& (4611686018427387903 : Int64)))), .second, .val (.long (q0 ^^^ q2)), .second, .val (.long q5), .second, .val (.long ((q5 ^^^ q3) ^^^ q4)), .second, .val (.int (0 : Int32)), .val (.ref b1), .val (.int (1 : Int32)), .val (.int (2 : Int32)), .val (.long q3), .second, .val (.long q4), .second] [(.int (lcmpW q5 q5))])) _
        refine XS.ifNo X649.here hx rfl (hb hby at_268) rfl ((if0 _ _).trans (teq (own_eq0.mpr rfl)).2) ?_
        show Steps p.tables e below (T649.setTop (mkF m 271 #[.val (.long q0), .second, .val (.long q1), .second, .val (.long q2), .second, .val (.long q3), .second, .val (.long q4), .second, .val (.long q5), .second, .val (.long (q1 &&& (4611686018427387903 : Int64))), .second, .val (.long (q2 &&& (4611686018427387903 : Int64))), .second, .val (.long ((q1 &&& (4611686018427387903 : Int64)) + (q2 &&& (4611686018427387903 : Int64)))), .second, .val (.long (q0 ^^^ q2)), .second, .val (.long q5), .second, .val (.long ((q5 ^^^ q3) ^^^ q4)), .second, .val (.int (0 : Int32)), .val (.ref b1), .val (.int (1 : Int32)), .val (.int (2 : Int32)), .val (.long q3), .second, .val (.long q4), .second] [])) _
        refine XS.aload X649.here hx rfl (hb hby at_271) rfl rfl ?_
        show Steps p.tables e below (T649.setTop (mkF m 273 #[.val (.long q0), .second, .val (.long q1), .second, .val (.long q2), .second, .val (.long q3), .second, .val (.long q4), .second, .val (.long q5), .second, .val (.long (q1 &&& (4611686018427387903 : Int64))), .second, .val (.long (q2 &&& (4611686018427387903 : Int64))), .second, .val (.long ((q1 &&& (4611686018427387903 : Int64)) + (q2 &&& (4611686018427387903 : Int64)))), .second, .val (.long (q0 ^^^ q2)), .second, .val (.long q5), .second, .val (.long ((q5 ^^^ q3) ^^^ q4)), .second, .val (.int (0 : Int32)), .val (.ref b1), .val (.int (1 : Int32)), .val (.int (2 : Int32)), .val (.long q3), .second, .val (.long q4), .second] [(.ref b1)])) _
        refine XS.iconst X649.here hx rfl (hb hby at_273) ?_
        show Steps p.tables e below (T649.setTop (mkF m 274 #[.val (.long q0), .second, .val (.long q1), .second, .val (.long q2), .second, .val (.long q3), .second, .val (.long q4), .second, .val (.long q5), .second, .val (.long (q1 &&& (4611686018427387903 : Int64))), .second, .val (.long (q2 &&& (4611686018427387903 : Int64))), .second, .val (.long ((q1 &&& (4611686018427387903 : Int64)) + (q2 &&& (4611686018427387903 : Int64)))), .second, .val (.long (q0 ^^^ q2)), .second, .val (.long q5), .second, .val (.long ((q5 ^^^ q3) ^^^ q4)), .second, .val (.int (0 : Int32)), .val (.ref b1), .val (.int (1 : Int32)), .val (.int (2 : Int32)), .val (.long q3), .second, .val (.long q4), .second] [(.int (1 : Int32)), (.ref b1)])) _
        refine st650.trans ?_
        show Steps p.tables e below (T650.setTop (mkF m 277 #[.val (.long q0), .second, .val (.long q1), .second, .val (.long q2), .second, .val (.long q3), .second, .val (.long q4), .second, .val (.long q5), .second, .val (.long (q1 &&& (4611686018427387903 : Int64))), .second, .val (.long (q2 &&& (4611686018427387903 : Int64))), .second, .val (.long ((q1 &&& (4611686018427387903 : Int64)) + (q2 &&& (4611686018427387903 : Int64)))), .second, .val (.long (q0 ^^^ q2)), .second, .val (.long q5), .second, .val (.long ((q5 ^^^ q3) ^^^ q4)), .second, .val (.int (0 : Int32)), .val (.ref b1), .val (.int (1 : Int32)), .val (.int (2 : Int32)), .val (.long q3), .second, .val (.long q4), .second] [(.long ((q5 ^^^ q3) ^^^ q4))])) _
        refine XS.lload X650.here hx rfl (hb hby at_277) rfl ?_
        show Steps p.tables e below (T650.setTop (mkF m 279 #[.val (.long q0), .second, .val (.long q1), .second, .val (.long q2), .second, .val (.long q3), .second, .val (.long q4), .second, .val (.long q5), .second, .val (.long (q1 &&& (4611686018427387903 : Int64))), .second, .val (.long (q2 &&& (4611686018427387903 : Int64))), .second, .val (.long ((q1 &&& (4611686018427387903 : Int64)) + (q2 &&& (4611686018427387903 : Int64)))), .second, .val (.long (q0 ^^^ q2)), .second, .val (.long q5), .second, .val (.long ((q5 ^^^ q3) ^^^ q4)), .second, .val (.int (0 : Int32)), .val (.ref b1), .val (.int (1 : Int32)), .val (.int (2 : Int32)), .val (.long q3), .second, .val (.long q4), .second] [(.long ((q5 ^^^ q3) ^^^ q4)), (.long ((q5 ^^^ q3) ^^^ q4))])) _
        refine XS.lcmp X650.here hx rfl (hb hby at_279) rfl ?_
        show Steps p.tables e below (T650.setTop (mkF m 280 #[.val (.long q0), .second, .val (.long q1), .second, .val (.long q2), .second, .val (.long q3), .second, .val (.long q4), .second, .val (.long q5), .second, .val (.long (q1 &&& (4611686018427387903 : Int64))), .second, .val (.long (q2 &&& (4611686018427387903 : Int64))), .second, .val (.long ((q1 &&& (4611686018427387903 : Int64)) + (q2 &&& (4611686018427387903 : Int64)))), .second, .val (.long (q0 ^^^ q2)), .second, .val (.long q5), .second, .val (.long ((q5 ^^^ q3) ^^^ q4)), .second, .val (.int (0 : Int32)), .val (.ref b1), .val (.int (1 : Int32)), .val (.int (2 : Int32)), .val (.long q3), .second, .val (.long q4), .second] [(.int (lcmpW ((q5 ^^^ q3) ^^^ q4) ((q5 ^^^ q3) ^^^ q4)))])) _
        refine XS.ifYes X650.here hx rfl (pc0 := 280) (pc' := 285) rfl (hb hby at_280) rfl ((if0 _ _).trans (teq (own_eq0.mpr rfl)).1) (by decide) (by decide) ?_
        show Steps p.tables e below (T650.setTop (mkF m 285 #[.val (.long q0), .second, .val (.long q1), .second, .val (.long q2), .second, .val (.long q3), .second, .val (.long q4), .second, .val (.long q5), .second, .val (.long (q1 &&& (4611686018427387903 : Int64))), .second, .val (.long (q2 &&& (4611686018427387903 : Int64))), .second, .val (.long ((q1 &&& (4611686018427387903 : Int64)) + (q2 &&& (4611686018427387903 : Int64)))), .second, .val (.long (q0 ^^^ q2)), .second, .val (.long q5), .second, .val (.long ((q5 ^^^ q3) ^^^ q4)), .second, .val (.int (0 : Int32)), .val (.ref b1), .val (.int (1 : Int32)), .val (.int (2 : Int32)), .val (.long q3), .second, .val (.long q4), .second] [])) _
        refine XS.iconst X650.here hx rfl (hb hby at_285) ?_
        show Steps p.tables e below (T650.setTop (mkF m 286 #[.val (.long q0), .second, .val (.long q1), .second, .val (.long q2), .second, .val (.long q3), .second, .val (.long q4), .second, .val (.long q5), .second, .val (.long (q1 &&& (4611686018427387903 : Int64))), .second, .val (.long (q2 &&& (4611686018427387903 : Int64))), .second, .val (.long ((q1 &&& (4611686018427387903 : Int64)) + (q2 &&& (4611686018427387903 : Int64)))), .second, .val (.long (q0 ^^^ q2)), .second, .val (.long q5), .second, .val (.long ((q5 ^^^ q3) ^^^ q4)), .second, .val (.int (0 : Int32)), .val (.ref b1), .val (.int (1 : Int32)), .val (.int (2 : Int32)), .val (.long q3), .second, .val (.long q4), .second] [(.int (1 : Int32))])) _
        exact k
      exact own_retN X650 hx (t := .boolean) hret (by simp) hlk (hb hby at_286) (⟨rfl, N650⟩) (by decide) (by decide)
set_option maxRecDepth 65536 in
set_option maxHeartbeats 40000000 in
theorem own_comes {Post : Tables → Env → Array Value → State → Outcome → State → Prop} (hpost : ∀ tb e args s v u, (limb_1_1.after args s (.returned v) u = true ∧ limb_1_2.after args s (.returned v) u = true) → FrameEnd s (.returned v) u (Jvm.fieldLocs frame_1_writes args s ++ Jvm.arrayLocs frame_1_arrays args s ++ Jvm.staticLocs frame_1_statics s) 40 256 → Post tb e args s (.returned v) u) :
    ArmFor flags0 classFile x code maxLocals ret World_1 tables_1 room_1 Calls_1 rest_1 Pre_1 Post := by
  intro l hfl _ _ p e ha hc hk s m args below hf hA hF happ hP
  obtain ⟨hcalls, hrest, hpre⟩ := hP
  obtain ⟨-, -, -, hnamed, -, -, -, hat⟩ := (Spec.applies_iff hf).mp happ
  obtain ⟨hg, hn⟩ := and_e (Cond.before_iff.mp (show (Jvm.Cond.and given_1 narrow_1).before args s = true from hpre))
  obtain ⟨g0, k0⟩ := and_e hg
  obtain ⟨g1, k1⟩ := and_e k0
  obtain ⟨g2, k2⟩ := and_e k1
  obtain ⟨g3, k3⟩ := and_e k2
  obtain ⟨g4, k4⟩ := and_e k3
  obtain ⟨g5, k5⟩ := and_e k4
  obtain ⟨w0, w1, w2, w3, w4, w5, rfl⟩ : ∃ w0 w1 w2 w3 w4 w5 : Value, args = #[w0, w1, w2, w3, w4, w5] := by
    have hs : args.size = 6 := by simpa [Cond.value, given_1] using g0
    obtain ⟨L⟩ := args
    match L, hs with
    | [w0, w1, w2, w3, w4, w5], _ => exact ⟨w0, w1, w2, w3, w4, w5, rfl⟩
  have hw := fun d (hd : d ∈ tables_1) => atoms_spec (ws := Jvm.Cond.code x code maxLocals ret :: tables_1) hat d (List.mem_cons_of_mem _ hd)
  obtain ⟨i0, ei0⟩ := isL_v g1
  obtain rfl : w0 = (.long i0) := Option.some.inj ei0
  obtain ⟨i1, ei1⟩ := isL_v g2
  obtain rfl : w1 = (.long i1) := Option.some.inj ei1
  obtain ⟨i2, ei2⟩ := isL_v g3
  obtain rfl : w2 = (.long i2) := Option.some.inj ei2
  obtain ⟨i3, ei3⟩ := isL_v g4
  obtain rfl : w3 = (.long i3) := Option.some.inj ei3
  obtain ⟨i4, ei4⟩ := isL_v g5
  obtain rfl : w4 = (.long i4) := Option.some.inj ei4
  obtain ⟨i5, ei5⟩ := isL_v k5
  obtain rfl : w5 = (.long i5) := Option.some.inj ei5
  obtain ⟨n, o, h1, h2, h3, vv, L, rfl, ⟨rfl, N⟩, hq⟩ := rm0 l s _ hw tables_1 i0 i1 i2 i3 i4 i5 s.heap s.heap.size (Nat.le_refl _)  p e ha hc hk s m _ below hf ((Spec.applies_iff_loose hf).mp happ).1 ⟨rfl, State.Warmed39.refl s, rfl⟩ trivial
  refine ⟨n, _, h1, h2, h3, hpost _ _ _ _ _ _ ⟨Cond.after_iff.mpr rfl, Cond.after_iff.mpr (eq_i res_at (Term.int_eval (1)) rfl)⟩ ⟨hq.1, hq.2.1, (hq.2.2.sift fun y hy => Or.inr (N y hy)).mono (by decide) (by decide)⟩⟩
theorem main_1_1 : Claimed_1_1 := own_comes fun _ _ _ _ _ _ h hF => ⟨h.1, hF⟩
theorem main_1_2 : Claimed_1_2 := own_comes fun _ _ _ _ _ _ h hF => ⟨h.2, hF⟩
end Jvm.Pilot.@@N@@
namespace Jvm.Pilot.@@N@@
open Jvm Jvm.ClassFile Sem Op Lib Jvm.Free Jvm.Stand Jvm.Pilot.@@N@@.Jvm.D
/-! MADE BY PROGRAM (witnessworld.py) out of the Statement's table words and the real class files: 14 classes; the members and pool entries that the words name. The judged class is class 1, her method 1. -/
namespace start1
open Jvm.ClassFile
def u (s : String) : CpInfo := .utf8 (stringToUtf16 s)
/-- a pool by its gaps: so many unusable entries, then the entry; so many at the end -/
def gap : Nat → List CpInfo → List CpInfo
  | 0, r => r
  | n + 1, r => .unusable :: gap n r
def poolList (es : List (Nat × CpInfo)) (last : Nat) : List CpInfo := es.foldr (fun e r => gap e.1 (e.2 :: r)) (gap last [])
def pool (es : List (Nat × CpInfo)) (last : Nat) : Array CpInfo := ⟨poolList es last⟩
def fileOf (pool : Array CpInfo) (this : Nat) (attrs : Array Attribute := #[]) (ms : Array MethodInfo := #[]) (fl : Nat := 33) (sup : Nat := 0) (ifs : Array Nat := #[]) (fds : Array FieldInfo := #[]) : ClassFile where
  minorVersion := 0
  majorVersion := 65
  constantPool := pool
  accessFlags := fl
  thisClass := this
  superClass := sup
  interfaces := ifs
  fields := fds
  methods := ms
  attributes := attrs
def plain (name : String) (sup : Option ClassId) : Class where
  name := name
  kind := .ordinary
  loader := none
  accessFlags := 33
  super := sup
  interfaces := #[]
  cf := none
  fields := #[]
  methods := #[]
  instanceTypes := #[]
  staticTypes := #[]
  resolved := #[]
  callSites := []
  init := .initialized
  statics := none
  mirror := none

def pool0 : Array CpInfo := pool [(5, u "<init>"), (0, u "()V"), (1, .class_ 10), (1, u "java/lang/Object")] 113

def k0c0 : Code := { maxStack := 0, maxLocals := 1, code := object_method_1_code, exceptionTable := #[], attributes := #[] }
def k0m0 : Method := { name := "<init>", desc := "()V", sig := { parameters := [], returnType := none }, accessFlags := 1, code := some k0c0 }
/-- java/lang/Object -/
def k0 : Class := { plain "java/lang/Object" none with
  accessFlags := 33
  interfaces := #[]
  cf := some (fileOf pool0 8 #[] #[{ accessFlags := 1, nameIndex := 5, descriptorIndex := 6, attributes := #[] }] 33 0 #[] #[])
  fields := #[]
  methods := #[k0m0]
  instanceTypes := #[]
  staticTypes := #[]
  resolved := Array.replicate 124 none
  statics := none }

def pool1 : Array CpInfo := pool [(2, .class_ 4), (0, .nameAndType 5 6), (0, u "java/lang/Object"), (0, u "<init>"), (0, u "()V"), (0, .long 4611686018427387903), (1, .class_ 10), (0, u "com/example/uplog/uplog/SegmentIndex"), (0, .methodref 9 3), (0, .methodref 9 13), (0, .nameAndType 14 15), (0, u "add"), (0, u "(JJJJ)V"), (0, .methodref 9 17), (0, .nameAndType 18 6), (0, u "trim"), (0, .long 32768), (1, .methodref 22 23), (0, .class_ 24), (0, .nameAndType 25 26), (0, u "java/lang/Math"), (0, u "max"), (0, u "(JJ)J"), (0, .methodref 9 28), (0, .nameAndType 29 30), (0, u "count"), (0, u "()I"), (0, .methodref 9 32), (0, .nameAndType 33 34), (0, u "offset"), (0, u "(I)J"), (0, .methodref 9 36), (0, .nameAndType 37 34), (0, u "position"), (0, .methodref 9 39), (0, .nameAndType 40 34), (0, u "maxTimestamp"), (0, .methodref 9 42), (0, .nameAndType 43 34), (0, u "writtenAt"), (0, .class_ 45), (0, u "com/example/uplog/uplog/SegmentIndexAddPinLaw"), (2, u "law"), (0, u "(JJJJJJ)Z")] 3

def k1m0 : Method := { name := "<init>", desc := "()V", sig := { parameters := [], returnType := none }, accessFlags := 1, code := none }
def k1c1 : Code := { maxStack := 9, maxLocals := 32, code := code, exceptionTable := #[], attributes := #[] }
def k1m1 : Method := { name := "law", desc := "(JJJJJJ)Z", sig := { parameters := [.long, .long, .long, .long, .long, .long], returnType := some .boolean }, accessFlags := 9, code := some k1c1 }
/-- com/example/uplog/uplog/SegmentIndexAddPinLaw -/
def k1 : Class := { plain "com/example/uplog/uplog/SegmentIndexAddPinLaw" (some 0) with
  accessFlags := 49
  interfaces := #[]
  cf := some (fileOf pool1 44 #[] #[{ accessFlags := 1, nameIndex := 5, descriptorIndex := 6, attributes := #[] }, { accessFlags := 9, nameIndex := 48, descriptorIndex := 49, attributes := #[] }] 49 2 #[] #[])
  fields := #[]
  methods := #[k1m0, k1m1]
  instanceTypes := #[]
  staticTypes := #[]
  resolved := Array.replicate 53 none
  statics := none }

def pool2 : Array CpInfo := pool [(1, .methodref 2 3), (0, .class_ 4), (0, .nameAndType 5 6), (0, u "java/lang/Object"), (0, u "<init>"), (0, u "()V"), (0, .class_ 8), (0, u "com/example/uplog/uplog/SegmentIndex"), (0, .fieldref 7 10), (0, .nameAndType 11 12), (0, u "offsets"), (0, u "[J"), (0, .fieldref 7 14), (0, .nameAndType 15 12), (0, u "positions"), (0, .fieldref 7 17), (0, .nameAndType 18 12), (0, u "maxTimestamps"), (0, .fieldref 7 20), (0, .nameAndType 21 12), (0, u "writtenAts"), (0, .fieldref 7 23), (0, .nameAndType 24 25), (0, u "count"), (0, u "I"), (0, .long 32768), (1, .methodref 29 30), (0, .class_ 31), (0, .nameAndType 32 33), (0, u "java/lang/Math"), (0, u "max"), (0, u "(II)I"), (0, .methodref 7 35), (0, .nameAndType 36 37), (0, u "resize"), (0, u "(I)V"), (0, .methodref 29 39), (0, .nameAndType 32 40), (0, u "(JJ)J"), (4, .methodref 46 47), (0, .class_ 48), (0, .nameAndType 49 50), (0, u "java/util/Arrays"), (0, u "copyOf"), (0, u "([JI)[J"), (0, u "INTERVAL"), (2, u "FIRST_ENTRIES"), (3, u "add"), (0, u "(JJJJ)V"), (1, u "()I"), (0, u "offset"), (0, u "(I)J"), (0, u "position"), (0, u "maxTimestamp"), (0, u "writtenAt"), (4, u "trim")] 2

def k2c0 : Code := { maxStack := 2, maxLocals := 1, code := prog_12_method_1_code, exceptionTable := #[], attributes := #[] }
def k2m0 : Method := { name := "<init>", desc := "()V", sig := { parameters := [], returnType := none }, accessFlags := 0, code := some k2c0 }
def k2c1 : Code := { maxStack := 6, maxLocals := 9, code := prog_12_method_2_code, exceptionTable := #[], attributes := #[] }
def k2m1 : Method := { name := "add", desc := "(JJJJ)V", sig := { parameters := [.long, .long, .long, .long], returnType := none }, accessFlags := 0, code := some k2c1 }
def k2c2 : Code := { maxStack := 1, maxLocals := 1, code := prog_12_method_3_code, exceptionTable := #[], attributes := #[] }
def k2m2 : Method := { name := "count", desc := "()I", sig := { parameters := [], returnType := some .int }, accessFlags := 0, code := some k2c2 }
def k2c3 : Code := { maxStack := 2, maxLocals := 2, code := prog_12_method_4_code, exceptionTable := #[], attributes := #[] }
def k2m3 : Method := { name := "offset", desc := "(I)J", sig := { parameters := [.int], returnType := some .long }, accessFlags := 0, code := some k2c3 }
def k2c4 : Code := { maxStack := 2, maxLocals := 2, code := prog_12_method_5_code, exceptionTable := #[], attributes := #[] }
def k2m4 : Method := { name := "position", desc := "(I)J", sig := { parameters := [.int], returnType := some .long }, accessFlags := 0, code := some k2c4 }
def k2c5 : Code := { maxStack := 2, maxLocals := 2, code := prog_12_method_6_code, exceptionTable := #[], attributes := #[] }
def k2m5 : Method := { name := "maxTimestamp", desc := "(I)J", sig := { parameters := [.int], returnType := some .long }, accessFlags := 0, code := some k2c5 }
def k2c6 : Code := { maxStack := 2, maxLocals := 2, code := prog_12_method_7_code, exceptionTable := #[], attributes := #[] }
def k2m6 : Method := { name := "writtenAt", desc := "(I)J", sig := { parameters := [.int], returnType := some .long }, accessFlags := 0, code := some k2c6 }
def k2c7 : Code := { maxStack := 2, maxLocals := 1, code := prog_12_method_11_code, exceptionTable := #[], attributes := #[] }
def k2m7 : Method := { name := "trim", desc := "()V", sig := { parameters := [], returnType := none }, accessFlags := 0, code := some k2c7 }
def k2c8 : Code := { maxStack := 3, maxLocals := 2, code := prog_12_method_12_code, exceptionTable := #[], attributes := #[] }
def k2m8 : Method := { name := "resize", desc := "(I)V", sig := { parameters := [.int], returnType := none }, accessFlags := 2, code := some k2c8 }
/-- com/example/uplog/uplog/SegmentIndex -/
def k2 : Class := { plain "com/example/uplog/uplog/SegmentIndex" (some 0) with
  accessFlags := 48
  interfaces := #[]
  cf := some (fileOf pool2 7 #[] #[{ accessFlags := 0, nameIndex := 5, descriptorIndex := 6, attributes := #[] }, { accessFlags := 0, nameIndex := 58, descriptorIndex := 59, attributes := #[] }, { accessFlags := 0, nameIndex := 24, descriptorIndex := 61, attributes := #[] }, { accessFlags := 0, nameIndex := 62, descriptorIndex := 63, attributes := #[] }, { accessFlags := 0, nameIndex := 64, descriptorIndex := 63, attributes := #[] }, { accessFlags := 0, nameIndex := 65, descriptorIndex := 63, attributes := #[] }, { accessFlags := 0, nameIndex := 66, descriptorIndex := 63, attributes := #[] }, { accessFlags := 0, nameIndex := 71, descriptorIndex := 6, attributes := #[] }, { accessFlags := 2, nameIndex := 36, descriptorIndex := 37, attributes := #[] }] 48 2 #[] #[{ accessFlags := 24, nameIndex := 51, descriptorIndex := 25, attributes := #[] }, { accessFlags := 26, nameIndex := 54, descriptorIndex := 25, attributes := #[] }, { accessFlags := 2, nameIndex := 11, descriptorIndex := 12, attributes := #[] }, { accessFlags := 2, nameIndex := 15, descriptorIndex := 12, attributes := #[] }, { accessFlags := 2, nameIndex := 18, descriptorIndex := 12, attributes := #[] }, { accessFlags := 2, nameIndex := 21, descriptorIndex := 12, attributes := #[] }, { accessFlags := 2, nameIndex := 24, descriptorIndex := 25, attributes := #[] }])
  fields := #[{ name := "INTERVAL", type := .int, accessFlags := 24, slot := 0, constantValue := 0 }, { name := "FIRST_ENTRIES", type := .int, accessFlags := 26, slot := 1, constantValue := 0 }, { name := "offsets", type := (.array .long), accessFlags := 2, slot := 0, constantValue := 0 }, { name := "positions", type := (.array .long), accessFlags := 2, slot := 1, constantValue := 0 }, { name := "maxTimestamps", type := (.array .long), accessFlags := 2, slot := 2, constantValue := 0 }, { name := "writtenAts", type := (.array .long), accessFlags := 2, slot := 3, constantValue := 0 }, { name := "count", type := .int, accessFlags := 2, slot := 4, constantValue := 0 }]
  methods := #[k2m0, k2m1, k2m2, k2m3, k2m4, k2m5, k2m6, k2m7, k2m8]
  instanceTypes := #[(.array .long), (.array .long), (.array .long), (.array .long), .int]
  staticTypes := #[.int, .int]
  resolved := Array.replicate 74 none
  statics := none }

def pool3 : Array CpInfo := pool [(1, .class_ 2), (0, u "java/lang/Math"), (1, .class_ 6), (1, u "java/lang/Object"), (0, u "<init>"), (0, u "()V"), (89, .class_ 100), (1, u "java/lang/Math$RandomNumberGeneratorHolder"), (20, u "(JJ)J"), (50, u "negativeZeroFloatBits"), (0, u "J"), (2, u "negativeZeroDoubleBits"), (21, u "max"), (2, u "min"), (43, u "$assertionsDisabled"), (0, u "Z"), (88, u "(II)I"), (2, u "twoToTheDoubleScaleDown"), (0, u "D"), (4, u "twoToTheDoubleScaleUp"), (9, u "E"), (3, u "PI"), (2, u "TAU"), (2, u "DEGREES_TO_RADIANS"), (0, u "RADIANS_TO_DEGREES")] 94

def k3m0 : Method := { name := "<init>", desc := "()V", sig := { parameters := [], returnType := none }, accessFlags := 2, code := none }
def k3c1 : Code := { maxStack := 2, maxLocals := 2, code := jdk_29_method_65_code, exceptionTable := #[], attributes := #[] }
def k3m1 : Method := { name := "max", desc := "(II)I", sig := { parameters := [.int, .int], returnType := some .int }, accessFlags := 9, code := some k3c1 }
def k3c2 : Code := { maxStack := 4, maxLocals := 4, code := jdk_29_method_66_code, exceptionTable := #[], attributes := #[] }
def k3m2 : Method := { name := "max", desc := "(JJ)J", sig := { parameters := [.long, .long], returnType := some .long }, accessFlags := 9, code := some k3c2 }
def k3c3 : Code := { maxStack := 2, maxLocals := 2, code := jdk_29_method_69_code, exceptionTable := #[], attributes := #[] }
def k3m3 : Method := { name := "min", desc := "(II)I", sig := { parameters := [.int, .int], returnType := some .int }, accessFlags := 9, code := some k3c3 }
/-- java/lang/Math -/
def k3 : Class := { plain "java/lang/Math" (some 0) with
  accessFlags := 49
  interfaces := #[]
  cf := some (fileOf pool3 1 #[.nestMembers #[98]] #[{ accessFlags := 2, nameIndex := 7, descriptorIndex := 8, attributes := #[] }, { accessFlags := 9, nameIndex := 198, descriptorIndex := 335, attributes := #[] }, { accessFlags := 9, nameIndex := 198, descriptorIndex := 121, attributes := #[] }, { accessFlags := 9, nameIndex := 201, descriptorIndex := 335, attributes := #[] }] 49 4 #[] #[{ accessFlags := 25, nameIndex := 354, descriptorIndex := 339, attributes := #[] }, { accessFlags := 25, nameIndex := 358, descriptorIndex := 339, attributes := #[] }, { accessFlags := 25, nameIndex := 361, descriptorIndex := 339, attributes := #[] }, { accessFlags := 26, nameIndex := 364, descriptorIndex := 339, attributes := #[] }, { accessFlags := 26, nameIndex := 365, descriptorIndex := 339, attributes := #[] }, { accessFlags := 26, nameIndex := 172, descriptorIndex := 173, attributes := #[] }, { accessFlags := 26, nameIndex := 176, descriptorIndex := 173, attributes := #[] }, { accessFlags := 8, nameIndex := 344, descriptorIndex := 339, attributes := #[] }, { accessFlags := 8, nameIndex := 338, descriptorIndex := 339, attributes := #[] }, { accessFlags := 4120, nameIndex := 245, descriptorIndex := 246, attributes := #[] }])
  fields := #[{ name := "E", type := .double, accessFlags := 25, slot := 0, constantValue := 0 }, { name := "PI", type := .double, accessFlags := 25, slot := 1, constantValue := 0 }, { name := "TAU", type := .double, accessFlags := 25, slot := 2, constantValue := 0 }, { name := "DEGREES_TO_RADIANS", type := .double, accessFlags := 26, slot := 3, constantValue := 0 }, { name := "RADIANS_TO_DEGREES", type := .double, accessFlags := 26, slot := 4, constantValue := 0 }, { name := "negativeZeroFloatBits", type := .long, accessFlags := 26, slot := 5, constantValue := 0 }, { name := "negativeZeroDoubleBits", type := .long, accessFlags := 26, slot := 6, constantValue := 0 }, { name := "twoToTheDoubleScaleUp", type := .double, accessFlags := 8, slot := 7, constantValue := 0 }, { name := "twoToTheDoubleScaleDown", type := .double, accessFlags := 8, slot := 8, constantValue := 0 }, { name := "$assertionsDisabled", type := .boolean, accessFlags := 4120, slot := 9, constantValue := 0 }]
  methods := #[k3m0, k3m1, k3m2, k3m3]
  instanceTypes := #[]
  staticTypes := #[.double, .double, .double, .double, .double, .long, .long, .double, .double, .boolean]
  resolved := Array.replicate 460 none
  statics := none }

def pool4 : Array CpInfo := pool [(2, .class_ 4), (1, u "java/lang/Object"), (0, u "<init>"), (0, u "()V"), (7, .class_ 16), (1, u "java/util/Arrays"), (57, .class_ 76), (1, u "java/util/Arrays$NaturalOrder"), (36, .class_ 115), (1, u "java/util/Arrays$LegacyMergeSort"), (1, u "Z"), (32, .methodref 151 152), (0, .class_ 153), (0, .nameAndType 154 155), (0, u "java/lang/System"), (0, u "arraycopy"), (0, u "(Ljava/lang/Object;ILjava/lang/Object;II)V"), (146, u "copyOf"), (1, .methodref 305 306), (0, .class_ 307), (0, .nameAndType 308 309), (0, u "java/lang/Math"), (0, u "min"), (0, u "(II)I"), (65, .class_ 376), (0, u "java/util/Arrays$ArrayList"), (68, u "$assertionsDisabled"), (269, u "MIN_ARRAY_SORT_GRAN"), (0, u "I"), (2, u "INSERTIONSORT_THRESHOLD"), (152, u "([JI)[J"), (102, .class_ 976), (0, u "java/util/Arrays$ArrayItr")] 52

def k4m0 : Method := { name := "<init>", desc := "()V", sig := { parameters := [], returnType := none }, accessFlags := 2, code := none }
def k4c1 : Code := { maxStack := 6, maxLocals := 3, code := jdk_65_method_124_code, exceptionTable := #[], attributes := #[] }
def k4m1 : Method := { name := "copyOf", desc := "([JI)[J", sig := { parameters := [(.array .long), .int], returnType := some (.array .long) }, accessFlags := 9, code := some k4c1 }
/-- java/util/Arrays -/
def k4 : Class := { plain "java/util/Arrays" (some 0) with
  accessFlags := 49
  interfaces := #[]
  cf := some (fileOf pool4 14 #[.nestMembers #[975, 375, 113, 74]] #[{ accessFlags := 2, nameIndex := 5, descriptorIndex := 6, attributes := #[] }, { accessFlags := 9, nameIndex := 302, descriptorIndex := 872, attributes := #[] }] 49 2 #[] #[{ accessFlags := 26, nameIndex := 715, descriptorIndex := 716, attributes := #[] }, { accessFlags := 26, nameIndex := 719, descriptorIndex := 716, attributes := #[] }, { accessFlags := 4120, nameIndex := 445, descriptorIndex := 117, attributes := #[] }])
  fields := #[{ name := "MIN_ARRAY_SORT_GRAN", type := .int, accessFlags := 26, slot := 0, constantValue := 0 }, { name := "INSERTIONSORT_THRESHOLD", type := .int, accessFlags := 26, slot := 1, constantValue := 0 }, { name := "$assertionsDisabled", type := .boolean, accessFlags := 4120, slot := 2, constantValue := 0 }]
  methods := #[k4m0, k4m1]
  instanceTypes := #[]
  staticTypes := #[.int, .int, .boolean]
  resolved := Array.replicate 1029 none
  statics := none }

def pool5 : Array CpInfo := pool [(2, .class_ 4), (1, u "java/lang/Object"), (0, u "<init>"), (0, u "()V"), (1, .class_ 10), (1, u "java/lang/System"), (0, u "allowSecurityManager"), (0, u "I"), (16, u "cons"), (0, u "Ljava/io/Console;"), (77, .class_ 110), (1, u "java/lang/System$CallersHolder"), (43, u "initialErrStream"), (0, u "Ljava/io/PrintStream;"), (19, u "security"), (0, u "Ljava/lang/SecurityManager;"), (31, .class_ 209), (0, u "java/lang/System$1"), (7, u "props"), (0, u "Ljava/util/Properties;"), (2, u "lineSeparator"), (0, u "Ljava/lang/String;"), (96, .class_ 321), (1, u "java/lang/System$LoggerFinder"), (5, .class_ 328), (0, u "java/lang/System$Logger"), (67, u "err"), (2, u "out"), (91, u "notSupportedJnuEncoding"), (15, u "in"), (17, u "initialIn"), (0, u "Ljava/io/InputStream;"), (35, u "bootLayer"), (0, u "Ljava/lang/ModuleLayer;"), (99, .class_ 664), (0, u "java/lang/System$2"), (9, u "NEVER"), (2, u "MAYBE"), (49, u "arraycopy"), (0, u "(Ljava/lang/Object;ILjava/lang/Object;II)V"), (72, .class_ 802), (0, u "java/lang/System$Logger$Level")] 31

def k5m0 : Method := { name := "<init>", desc := "()V", sig := { parameters := [], returnType := none }, accessFlags := 2, code := none }
def k5m1 : Method := { name := "arraycopy", desc := "(Ljava/lang/Object;ILjava/lang/Object;II)V", sig := { parameters := [(.object "java/lang/Object"), .int, (.object "java/lang/Object"), .int, .int], returnType := none }, accessFlags := 265, code := none }
/-- java/lang/System -/
def k5 : Class := { plain "java/lang/System" (some 0) with
  accessFlags := 49
  interfaces := #[]
  cf := some (fileOf pool5 8 #[.nestMembers #[319, 327, 801, 108, 663, 208]] #[{ accessFlags := 2, nameIndex := 5, descriptorIndex := 6, attributes := #[] }, { accessFlags := 265, nameIndex := 727, descriptorIndex := 728, attributes := #[] }] 49 2 #[] #[{ accessFlags := 25, nameIndex := 507, descriptorIndex := 526, attributes := #[] }, { accessFlags := 25, nameIndex := 399, descriptorIndex := 155, attributes := #[] }, { accessFlags := 25, nameIndex := 396, descriptorIndex := 155, attributes := #[] }, { accessFlags := 10, nameIndex := 525, descriptorIndex := 526, attributes := #[] }, { accessFlags := 26, nameIndex := 674, descriptorIndex := 12, attributes := #[] }, { accessFlags := 26, nameIndex := 677, descriptorIndex := 12, attributes := #[] }, { accessFlags := 10, nameIndex := 11, descriptorIndex := 12, attributes := #[] }, { accessFlags := 74, nameIndex := 175, descriptorIndex := 176, attributes := #[] }, { accessFlags := 10, nameIndex := 491, descriptorIndex := 222, attributes := #[] }, { accessFlags := 74, nameIndex := 29, descriptorIndex := 30, attributes := #[] }, { accessFlags := 74, nameIndex := 154, descriptorIndex := 155, attributes := #[] }, { accessFlags := 10, nameIndex := 217, descriptorIndex := 218, attributes := #[] }, { accessFlags := 10, nameIndex := 221, descriptorIndex := 222, attributes := #[] }, { accessFlags := 8, nameIndex := 562, descriptorIndex := 563, attributes := #[] }])
  fields := #[{ name := "in", type := (.object "java/io/InputStream"), accessFlags := 25, slot := 0, constantValue := 0 }, { name := "out", type := (.object "java/io/PrintStream"), accessFlags := 25, slot := 1, constantValue := 0 }, { name := "err", type := (.object "java/io/PrintStream"), accessFlags := 25, slot := 2, constantValue := 0 }, { name := "initialIn", type := (.object "java/io/InputStream"), accessFlags := 10, slot := 3, constantValue := 0 }, { name := "NEVER", type := .int, accessFlags := 26, slot := 4, constantValue := 0 }, { name := "MAYBE", type := .int, accessFlags := 26, slot := 5, constantValue := 0 }, { name := "allowSecurityManager", type := .int, accessFlags := 10, slot := 6, constantValue := 0 }, { name := "security", type := (.object "java/lang/SecurityManager"), accessFlags := 74, slot := 7, constantValue := 0 }, { name := "notSupportedJnuEncoding", type := (.object "java/lang/String"), accessFlags := 10, slot := 8, constantValue := 0 }, { name := "cons", type := (.object "java/io/Console"), accessFlags := 74, slot := 9, constantValue := 0 }, { name := "initialErrStream", type := (.object "java/io/PrintStream"), accessFlags := 74, slot := 10, constantValue := 0 }, { name := "props", type := (.object "java/util/Properties"), accessFlags := 10, slot := 11, constantValue := 0 }, { name := "lineSeparator", type := (.object "java/lang/String"), accessFlags := 10, slot := 12, constantValue := 0 }, { name := "bootLayer", type := (.object "java/lang/ModuleLayer"), accessFlags := 8, slot := 13, constantValue := 0 }]
  methods := #[k5m0, k5m1]
  instanceTypes := #[]
  staticTypes := #[(.object "java/io/InputStream"), (.object "java/io/PrintStream"), (.object "java/io/PrintStream"), (.object "java/io/InputStream"), .int, .int, .int, (.object "java/lang/SecurityManager"), (.object "java/lang/String"), (.object "java/io/Console"), (.object "java/io/PrintStream"), (.object "java/util/Properties"), (.object "java/lang/String"), (.object "java/lang/ModuleLayer")]
  resolved := Array.replicate 834 none
  statics := none }

def pool6 : Array CpInfo := pool [(1, u "java/lang/Cloneable"), (0, .class_ 1), (0, u "java/lang/Object"), (0, .class_ 3)] 3

/-- java/lang/Cloneable -/
def k6 : Class := { plain "java/lang/Cloneable" (some 0) with
  accessFlags := 1537
  interfaces := #[]
  cf := some (fileOf pool6 2 #[] #[] 1537 4 #[] #[])
  fields := #[]
  methods := #[]
  instanceTypes := #[]
  staticTypes := #[]
  resolved := Array.replicate 8 none
  statics := none }

def pool7 : Array CpInfo := pool [(1, u "java/io/Serializable"), (0, .class_ 1), (0, u "java/lang/Object"), (0, .class_ 3)] 3

/-- java/io/Serializable -/
def k7 : Class := { plain "java/io/Serializable" (some 0) with
  accessFlags := 1537
  interfaces := #[]
  cf := some (fileOf pool7 2 #[] #[] 1537 4 #[] #[])
  fields := #[]
  methods := #[]
  instanceTypes := #[]
  staticTypes := #[]
  resolved := Array.replicate 8 none
  statics := none }

/-- the primitive byte -/
def k8 : Class := { plain "byte" none with kind := .primitive 'B', accessFlags := 0x411 }
/-- [B -/
def k9 : Class := { plain "[B" (some 0) with kind := .array 8 .byte, interfaces := #[6, 7], accessFlags := 1041 }

/-- the primitive int -/
def k10 : Class := { plain "int" none with kind := .primitive 'I', accessFlags := 0x411 }
/-- [I -/
def k11 : Class := { plain "[I" (some 0) with kind := .array 10 .int, interfaces := #[6, 7], accessFlags := 1041 }

/-- the primitive long -/
def k12 : Class := { plain "long" none with kind := .primitive 'J', accessFlags := 0x411 }
/-- [J -/
def k13 : Class := { plain "[J" (some 0) with kind := .array 12 .long, interfaces := #[6, 7], accessFlags := 1041 }

def heap : Heap := #[]
def classes : Array Class := #[k0, k1, k2, k3, k4, k5, k6, k7, k8, k9, k10, k11, k12, k13]
def interned : List (Array UInt16 × Addr) := []
def slotsUsed : Nat := 0
def theMethod : MethodId := ⟨1, 1⟩
def args0 : Array Value := #[.long 5, .long 7, .long 40000, .long 1, .long 2, .long 3]
def aboutOver (below : List Frame) : State where
  vm := { classes := classes, interned := interned.toArray }
  heap := heap
  slotsUsed := slotsUsed
  threads := #[{ frames := .invoking theMethod args0 :: below }]
def below0 : List Frame := [.native { method := ⟨0, 0⟩, args := #[] }]
def about1 : State := aboutOver below0
def p0 : Program := .bare "" "" ""
def e0 : Env := launch0.env 0 0 0
theorem w_frames : about1.frames = Frame.invoking theMethod args0 :: below0 := rfl
set_option maxRecDepth 65536 in
theorem w_args : argsFit about1.vm theMethod args0 = true := by decide +kernel
set_option maxRecDepth 65536 in
theorem w_heap : heapFits about1 = true := by decide +kernel
set_option maxRecDepth 65536 in
theorem w_runnable : about1.curStatus? = some .runnable := by decide +kernel
set_option maxRecDepth 65536 in
theorem w_alone : about1.alone = true := by decide +kernel
set_option maxRecDepth 65536 in
theorem w_named : about1.methodNamed? x = some theMethod := by decide +kernel
set_option maxRecDepth 65536 in
theorem w_hears : about1.hears theMethod below0 = true := by decide +kernel
set_option maxRecDepth 65536 in
theorem w_ripe : about1.ripe theMethod args0 below0 = true := by decide +kernel
theorem w_running : about1.status = .running := rfl
set_option maxRecDepth 65536 in
theorem w_room : about1.hasRoom e0.platform room_1 = true :=
  launch0.hasRoom_least _ room_1 (by decide +kernel) (by decide +kernel) (by decide +kernel) (by decide +kernel) (by decide +kernel) (by decide +kernel)
theorem allAtoms_all (ts : List Jvm.Cond) (a : Array Jvm.Value) (st : Jvm.State) : (allAtoms ts).before a st = ts.all (fun c => c.before a st) := by
  induction ts with
  | nil => rfl
  | cons c t ih =>
    show (Jvm.Cond.and c (allAtoms t)).before a st = _
    rw [Jvm.Cond.before_and, ih, List.all_cons]
def words1 : List Jvm.Cond := Jvm.Cond.code x code maxLocals ret :: tables_1
/-- a 'code' word, met by the world's own term for the bytes: nothing is compared byte by byte -/
theorem code_word {y : MethodName} {bytes : ByteArray} {mx : Nat} {rt : Option FieldType} {a : Array Value} {s : State} {m : MethodId} {meth : Method} {c : Code} (h1 : s.methodNamed? y = some m) (h2 : s.vm.method? m = some meth) (h3 : meth.code = some c) (h4 : c.code = bytes)
    (h5 : (c.maxLocals == mx && c.exceptionTable.isEmpty && decide (c.maxStack ≤ mostOperands) && decide (meth.sig.returnType = rt) && !meth.locks && decide (parseMethodDescriptor y.desc = some meth.sig)) = true) : (Jvm.Cond.code y bytes mx rt).before a s = true := by
  simp only [Bool.and_eq_true, beq_iff_eq, Bool.not_eq_true', decide_eq_true_eq] at h5
  obtain ⟨⟨⟨⟨⟨g1, g2⟩, g3⟩, g4⟩, g5⟩, g6⟩ := h5
  simp [Cond.before, Cond.holds, Cond.value, h1, h2, h3, h4, g1, g2, g3, g4, g5, g6]
def isCode : Jvm.Cond → Bool
  | .code _ _ _ _ => true
  | _ => false
theorem all_split {L : List Jvm.Cond} {P : Jvm.Cond → Bool} (h1 : L.all (fun c => isCode c || P c) = true) (h2 : ∀ c ∈ L.filter isCode, P c = true) : L.all P = true := by
  refine List.all_eq_true.mpr fun c hc => ?_
  have h := List.all_eq_true.mp h1 c hc
  rcases Bool.eq_false_or_eq_true (isCode c) with hi | hi
  · exact h2 c (List.mem_filter.mpr ⟨hc, hi⟩)
  · simpa [hi] using h
set_option maxRecDepth 65536 in
theorem w_c0 : (Jvm.Cond.code x code maxLocals ret).before args0 about1 = true := code_word (m := ⟨1, 1⟩) (meth := k1m1) (c := k1c1) (by decide +kernel) rfl rfl rfl (by decide +kernel)
set_option maxRecDepth 65536 in
theorem w_c1 : (Jvm.Cond.code ({ cls := "com/example/uplog/uplog/SegmentIndex", name := "<init>", desc := "()V" } : Jvm.MethodName) prog_12_method_1_code (1 : Nat) (Option.none : Option Jvm.ClassFile.FieldType)).before args0 about1 = true := code_word (m := ⟨2, 0⟩) (meth := k2m0) (c := k2c0) (by decide +kernel) rfl rfl rfl (by decide +kernel)
set_option maxRecDepth 65536 in
theorem w_c2 : (Jvm.Cond.code ({ cls := "java/lang/Object", name := "<init>", desc := "()V" } : Jvm.MethodName) object_method_1_code (1 : Nat) (Option.none : Option Jvm.ClassFile.FieldType)).before args0 about1 = true := code_word (m := ⟨0, 0⟩) (meth := k0m0) (c := k0c0) (by decide +kernel) rfl rfl rfl (by decide +kernel)
set_option maxRecDepth 65536 in
theorem w_c3 : (Jvm.Cond.code ({ cls := "com/example/uplog/uplog/SegmentIndex", name := "add", desc := "(JJJJ)V" } : Jvm.MethodName) prog_12_method_2_code (9 : Nat) (Option.none : Option Jvm.ClassFile.FieldType)).before args0 about1 = true := code_word (m := ⟨2, 1⟩) (meth := k2m1) (c := k2c1) (by decide +kernel) rfl rfl rfl (by decide +kernel)
set_option maxRecDepth 65536 in
theorem w_c4 : (Jvm.Cond.code ({ cls := "com/example/uplog/uplog/SegmentIndex", name := "count", desc := "()I" } : Jvm.MethodName) prog_12_method_3_code (1 : Nat) (Option.some Jvm.ClassFile.FieldType.int)).before args0 about1 = true := code_word (m := ⟨2, 2⟩) (meth := k2m2) (c := k2c2) (by decide +kernel) rfl rfl rfl (by decide +kernel)
set_option maxRecDepth 65536 in
theorem w_c5 : (Jvm.Cond.code ({ cls := "com/example/uplog/uplog/SegmentIndex", name := "offset", desc := "(I)J" } : Jvm.MethodName) prog_12_method_4_code (2 : Nat) (Option.some Jvm.ClassFile.FieldType.long)).before args0 about1 = true := code_word (m := ⟨2, 3⟩) (meth := k2m3) (c := k2c3) (by decide +kernel) rfl rfl rfl (by decide +kernel)
set_option maxRecDepth 65536 in
theorem w_c6 : (Jvm.Cond.code ({ cls := "com/example/uplog/uplog/SegmentIndex", name := "position", desc := "(I)J" } : Jvm.MethodName) prog_12_method_5_code (2 : Nat) (Option.some Jvm.ClassFile.FieldType.long)).before args0 about1 = true := code_word (m := ⟨2, 4⟩) (meth := k2m4) (c := k2c4) (by decide +kernel) rfl rfl rfl (by decide +kernel)
set_option maxRecDepth 65536 in
theorem w_c7 : (Jvm.Cond.code ({ cls := "com/example/uplog/uplog/SegmentIndex", name := "maxTimestamp", desc := "(I)J" } : Jvm.MethodName) prog_12_method_6_code (2 : Nat) (Option.some Jvm.ClassFile.FieldType.long)).before args0 about1 = true := code_word (m := ⟨2, 5⟩) (meth := k2m5) (c := k2c5) (by decide +kernel) rfl rfl rfl (by decide +kernel)
set_option maxRecDepth 65536 in
theorem w_c8 : (Jvm.Cond.code ({ cls := "com/example/uplog/uplog/SegmentIndex", name := "writtenAt", desc := "(I)J" } : Jvm.MethodName) prog_12_method_7_code (2 : Nat) (Option.some Jvm.ClassFile.FieldType.long)).before args0 about1 = true := code_word (m := ⟨2, 6⟩) (meth := k2m6) (c := k2c6) (by decide +kernel) rfl rfl rfl (by decide +kernel)
set_option maxRecDepth 65536 in
theorem w_c9 : (Jvm.Cond.code ({ cls := "java/lang/Math", name := "max", desc := "(JJ)J" } : Jvm.MethodName) jdk_29_method_66_code (4 : Nat) (Option.some Jvm.ClassFile.FieldType.long)).before args0 about1 = true := code_word (m := ⟨3, 2⟩) (meth := k3m2) (c := k3c2) (by decide +kernel) rfl rfl rfl (by decide +kernel)
set_option maxRecDepth 65536 in
theorem w_c10 : (Jvm.Cond.code ({ cls := "com/example/uplog/uplog/SegmentIndex", name := "trim", desc := "()V" } : Jvm.MethodName) prog_12_method_11_code (1 : Nat) (Option.none : Option Jvm.ClassFile.FieldType)).before args0 about1 = true := code_word (m := ⟨2, 7⟩) (meth := k2m7) (c := k2c7) (by decide +kernel) rfl rfl rfl (by decide +kernel)
set_option maxRecDepth 65536 in
theorem w_c11 : (Jvm.Cond.code ({ cls := "com/example/uplog/uplog/SegmentIndex", name := "resize", desc := "(I)V" } : Jvm.MethodName) prog_12_method_12_code (2 : Nat) (Option.none : Option Jvm.ClassFile.FieldType)).before args0 about1 = true := code_word (m := ⟨2, 8⟩) (meth := k2m8) (c := k2c8) (by decide +kernel) rfl rfl rfl (by decide +kernel)
set_option maxRecDepth 65536 in
theorem w_c12 : (Jvm.Cond.code ({ cls := "java/util/Arrays", name := "copyOf", desc := "([JI)[J" } : Jvm.MethodName) jdk_65_method_124_code (3 : Nat) (Option.some (Jvm.ClassFile.FieldType.array Jvm.ClassFile.FieldType.long))).before args0 about1 = true := code_word (m := ⟨4, 1⟩) (meth := k4m1) (c := k4c1) (by decide +kernel) rfl rfl rfl (by decide +kernel)
set_option maxRecDepth 65536 in
theorem w_c13 : (Jvm.Cond.code ({ cls := "java/lang/Math", name := "min", desc := "(II)I" } : Jvm.MethodName) jdk_29_method_69_code (2 : Nat) (Option.some Jvm.ClassFile.FieldType.int)).before args0 about1 = true := code_word (m := ⟨3, 3⟩) (meth := k3m3) (c := k3c3) (by decide +kernel) rfl rfl rfl (by decide +kernel)
set_option maxRecDepth 65536 in
theorem w_c14 : (Jvm.Cond.code ({ cls := "java/lang/Math", name := "max", desc := "(II)I" } : Jvm.MethodName) jdk_29_method_65_code (2 : Nat) (Option.some Jvm.ClassFile.FieldType.int)).before args0 about1 = true := code_word (m := ⟨3, 1⟩) (meth := k3m1) (c := k3c1) (by decide +kernel) rfl rfl rfl (by decide +kernel)
def codes1 : List Jvm.Cond := [Jvm.Cond.code x code maxLocals ret, Jvm.Cond.code ({ cls := "com/example/uplog/uplog/SegmentIndex", name := "<init>", desc := "()V" } : Jvm.MethodName) prog_12_method_1_code (1 : Nat) (Option.none : Option Jvm.ClassFile.FieldType), Jvm.Cond.code ({ cls := "java/lang/Object", name := "<init>", desc := "()V" } : Jvm.MethodName) object_method_1_code (1 : Nat) (Option.none : Option Jvm.ClassFile.FieldType), Jvm.Cond.code ({ cls := "com/example/uplog/uplog/SegmentIndex", name := "add", desc := "(JJJJ)V" } : Jvm.MethodName) prog_12_method_2_code (9 : Nat) (Option.none : Option Jvm.ClassFile.FieldType), Jvm.Cond.code ({ cls := "com/example/uplog/uplog/SegmentIndex", name := "count", desc := "()I" } : Jvm.MethodName) prog_12_method_3_code (1 : Nat) (Option.some Jvm.ClassFile.FieldType.int), Jvm.Cond.code ({ cls := "com/example/uplog/uplog/SegmentIndex", name := "offset", desc := "(I)J" } : Jvm.MethodName) prog_12_method_4_code (2 : Nat) (Option.some Jvm.ClassFile.FieldType.long), Jvm.Cond.code ({ cls := "com/example/uplog/uplog/SegmentIndex", name := "position", desc := "(I)J" } : Jvm.MethodName) prog_12_method_5_code (2 : Nat) (Option.some Jvm.ClassFile.FieldType.long), Jvm.Cond.code ({ cls := "com/example/uplog/uplog/SegmentIndex", name := "maxTimestamp", desc := "(I)J" } : Jvm.MethodName) prog_12_method_6_code (2 : Nat) (Option.some Jvm.ClassFile.FieldType.long), Jvm.Cond.code ({ cls := "com/example/uplog/uplog/SegmentIndex", name := "writtenAt", desc := "(I)J" } : Jvm.MethodName) prog_12_method_7_code (2 : Nat) (Option.some Jvm.ClassFile.FieldType.long), Jvm.Cond.code ({ cls := "java/lang/Math", name := "max", desc := "(JJ)J" } : Jvm.MethodName) jdk_29_method_66_code (4 : Nat) (Option.some Jvm.ClassFile.FieldType.long), Jvm.Cond.code ({ cls := "com/example/uplog/uplog/SegmentIndex", name := "trim", desc := "()V" } : Jvm.MethodName) prog_12_method_11_code (1 : Nat) (Option.none : Option Jvm.ClassFile.FieldType), Jvm.Cond.code ({ cls := "com/example/uplog/uplog/SegmentIndex", name := "resize", desc := "(I)V" } : Jvm.MethodName) prog_12_method_12_code (2 : Nat) (Option.none : Option Jvm.ClassFile.FieldType), Jvm.Cond.code ({ cls := "java/util/Arrays", name := "copyOf", desc := "([JI)[J" } : Jvm.MethodName) jdk_65_method_124_code (3 : Nat) (Option.some (Jvm.ClassFile.FieldType.array Jvm.ClassFile.FieldType.long)), Jvm.Cond.code ({ cls := "java/lang/Math", name := "min", desc := "(II)I" } : Jvm.MethodName) jdk_29_method_69_code (2 : Nat) (Option.some Jvm.ClassFile.FieldType.int), Jvm.Cond.code ({ cls := "java/lang/Math", name := "max", desc := "(II)I" } : Jvm.MethodName) jdk_29_method_65_code (2 : Nat) (Option.some Jvm.ClassFile.FieldType.int)]
set_option maxRecDepth 65536 in
theorem codes_eq : words1.filter isCode = codes1 := rfl
theorem w_codes : ∀ c ∈ words1.filter isCode, c.before args0 about1 = true := by
  rw [codes_eq]
  intro c hc
  simp only [codes1, List.mem_cons, List.not_mem_nil, or_false] at hc
  rcases hc with rfl | rfl | rfl | rfl | rfl | rfl | rfl | rfl | rfl | rfl | rfl | rfl | rfl | rfl | rfl
  · exact w_c0
  · exact w_c1
  · exact w_c2
  · exact w_c3
  · exact w_c4
  · exact w_c5
  · exact w_c6
  · exact w_c7
  · exact w_c8
  · exact w_c9
  · exact w_c10
  · exact w_c11
  · exact w_c12
  · exact w_c13
  · exact w_c14
set_option maxRecDepth 65536 in
theorem w_t1 : (words1.take 24).all (fun c => isCode c || c.before args0 about1) = true := by decide +kernel
set_option maxRecDepth 65536 in
theorem w_t2 : ((words1.drop 24).take 24).all (fun c => isCode c || c.before args0 about1) = true := by decide +kernel
set_option maxRecDepth 65536 in
theorem w_t3 : (((words1.drop 24).drop 24).take 24).all (fun c => isCode c || c.before args0 about1) = true := by decide +kernel
set_option maxRecDepth 65536 in
theorem w_t4 : (((words1.drop 24).drop 24).drop 24).all (fun c => isCode c || c.before args0 about1) = true := by decide +kernel
theorem w_tables : (allAtoms (Jvm.Cond.code x code maxLocals ret :: tables_1)).before args0 about1 = true := by
  rw [allAtoms_all]
  show words1.all (fun c => c.before args0 about1) = true
  refine all_split ?_ w_codes
  rw [← List.take_append_drop 24 words1, List.all_append, w_t1, ← List.take_append_drop 24 (words1.drop 24), List.all_append, w_t2, ← List.take_append_drop 24 ((words1.drop 24).drop 24), List.all_append, w_t3, w_t4]
  rfl
set_option maxRecDepth 65536 in
theorem w_case : (Jvm.Cond.and given_1 narrow_1).before args0 about1 = true := by decide +kernel
theorem w_applies : (headSpec (Jvm.Cond.code x code maxLocals ret :: tables_1) room_1).applies x e0.platform about1 = true :=
  (Spec.applies_iff w_frames).mpr ⟨w_running, w_runnable, w_alone, w_named, w_hears, w_ripe, w_room, w_tables⟩
theorem atStart : AtStart classFile x code maxLocals ret World_1 tables_1 room_1 Calls_1 rest_1 Pre_1 launch0 p0 e0 about1 theMethod args0 below0 :=
  ⟨lists_1, trivial, launch0.admits_env _ _ _, launch0.least_env, fairChoices_fair.cas, fairChoices_fair.clock, w_frames, w_args, w_heap, w_applies, trivial, trivial, w_case⟩
end start1
theorem witness_1 : WitnessClaimed_1 := ⟨start1.p0, start1.e0, start1.about1, start1.theMethod, start1.args0, start1.below0, start1.atStart⟩
end Jvm.Pilot.@@N@@
