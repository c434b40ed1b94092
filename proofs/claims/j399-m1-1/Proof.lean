import JvmDerived
import JvmDerived.Pilot.@@N@@Statement
import JvmDerived.Pilot.@@N@@Code
set_option linter.unusedVariables false
set_option linter.unusedSimpArgs false
namespace Jvm.Pilot.@@N@@
open Jvm Jvm.ClassFile Sem Op Lib Jvm.Free Jvm.Stand Jvm.LawKit Jvm.RoadKit Bundle Jvm.Pilot.@@N@@.Jvm.D
/-! the goal of a walk: from this frame the run comes to an end of which K holds -/
def own_Go (p : Program) (e : Env) (below : List Frame) (T : State) (f : JFrame) (K : State → Outcome → Prop) : Prop := ∃ s₂ o, Steps p.tables e below (T.setTop f) s₂ ∧ K s₂ o
theorem own_Go.mono {p : Program} {e : Env} {below : List Frame} {T T' : State} {f f' : JFrame} {K : State → Outcome → Prop} (h : ∀ t, Steps p.tables e below (T'.setTop f') t → Steps p.tables e below (T.setTop f) t) (g : own_Go p e below T' f' K) : own_Go p e below T f K := by
  obtain ⟨a, o, h1, h2⟩ := g; exact ⟨a, o, h _ h1, h2⟩
def own_K (s : State) (below : List Frame) (Qv : Option Value → Heap → List Loc → Prop) (cc ss : Nat) : State → Outcome → Prop := fun s₂ o => s₂.status = .running ∧ Ended s₂ below o ∧ ∃ v L, o = .returned v ∧ Qv v s₂.heap L ∧ FrameEnd s o s₂ L cc ss
theorem own_body {l : Launch} {y : MethodName} {bytes : ByteArray} {maxL : Nat} {ret : Option FieldType} {ws : List Jvm.Cond} {rm : Room} {Z : State} {as' : Array Value} {h0 : Heap} {Qv : Option Value → Heap → List Loc → Prop} {cc ss : Nat} (hpn : plainFor y = true)
    (body : ∀ (p : Program) (e : Env) (s : State) (m : MethodId) (below : List Frame) (meth : Method) (c : Code) (s₁ : State), p.tables.exec = Jvm.exec → c.code = bytes → c.maxLocals = maxL → meth.sig.returnType = ret → meth.locks = false → s.vm.findClass y.cls = some m.cls → meth.name = y.name → Z.Warmed39 s.vm → Stand p l e rm s m as' below meth c s₁ [] 0 0 → s₁.heap = h0 → own_Go p e below s₁ (entryFrame m as' maxL) (own_K s below Qv cc ss)) :
    MetFree l y (head1 (Jvm.Cond.code y bytes maxL ret :: ws) rm) (fun a U => a = as' ∧ Z.Warmed39 U.vm ∧ U.heap = h0) (fun _ _ _ _ _ => True) (fun _ U o U' => ∃ v L, o = .returned v ∧ Qv v U'.heap L ∧ FrameEnd U o U' L cc ss) := by
  refine MetFree.of_bodySF hpn hisR ?_
  intro p e s m args below meth c s₁ Bd hml0 hP hK
  obtain ⟨rfl, hZ, hh⟩ := hP
  exact body p e s m below meth c s₁ Bd.exec Bd.bytes hml0 Bd.returns Bd.notSynchronized (findClass_of_methodNamed Bd.named) (name_of_methodNamed Bd.named Bd.method).1 hZ (Stand.of_body Bd) (by rw [← hh, Bd.state]; rfl)
section Ret
variable {p : Program} {l : Launch} {e : Env} {R : Room} {s : State} {m : MethodId} {args : Array Value} {below : List Frame} {meth : Method} {c : Code} {T : State} {locs : List Loc} {cells slots : Nat} {Qv : Option Value → Heap → List Loc → Prop} {cc ss pc : Nat} {Ls : Array Slot} {rest : List Value}
theorem own_ret (X : Stand p l e R s m args below meth c T locs cells slots) {f : JFrame} {v : Option Value} (hv : meth.sig.returnType = none → v = none) (hlk : meth.locks = false)
    (hst : ∀ fs, (∀ (f : JFrame) (acts : List Action), f.method = m → f.locked = none → f.entered = [] → (doReturn e (T.setTop f) acts v).1 = T.setFrames fs) → Steps p.tables e below (T.setTop f) (T.setFrames fs)) (hq : Qv v T.heap locs) (hc : cells ≤ cc) (hs : slots ≤ ss) :
    own_Go p e below T f (own_K s below Qv cc ss) := by
  obtain ⟨fs, hr, hrun, hended, hW, hsame⟩ := X.leave (v := v) hv hlk
  exact ⟨_, _, hst fs hr, hrun, hended, v, locs, rfl, hq, ⟨_, rfl⟩, hW, hsame.mono hc hs⟩
theorem own_retN (X : Stand p l e R s m args below meth c T locs cells slots) (hx : p.tables.exec = Jvm.exec) {z : Int32} {t : FieldType} (hret : meth.sig.returnType = some t) (ht : t = .boolean ∨ t = .byte ∨ t = .char ∨ t = .short) (hlk : meth.locks = false) (hd : decode c.code pc = .ok (.ireturn, 1))
    (hq : Qv (some (.int (nar t z))) T.heap locs) (hc : cells ≤ cc) (hs : slots ≤ ss) : own_Go p e below T (mkF m pc Ls (.int z :: rest)) (own_K s below Qv cc ss) :=
  own_ret X (fun h => by rw [hret] at h; cases h) hlk (fun fs hr => retN X hx hret ht hd hr) hq hc hs
theorem own_retI (X : Stand p l e R s m args below meth c T locs cells slots) (hx : p.tables.exec = Jvm.exec) {z : Int32} (hret : meth.sig.returnType = some .int) (hlk : meth.locks = false) (hd : decode c.code pc = .ok (.ireturn, 1))
    (hq : Qv (some (.int z)) T.heap locs) (hc : cells ≤ cc) (hs : slots ≤ ss) : own_Go p e below T (mkF m pc Ls (.int z :: rest)) (own_K s below Qv cc ss) :=
  own_ret X (fun h => by rw [hret] at h; cases h) hlk (fun fs hr => retOut X hx hret rfl (Or.inl ⟨rfl, Or.inl rfl, z, rfl⟩) hd hr) hq hc hs
theorem own_retJ (X : Stand p l e R s m args below meth c T locs cells slots) (hx : p.tables.exec = Jvm.exec) {z : Int64} (hret : meth.sig.returnType = some .long) (hlk : meth.locks = false) (hd : decode c.code pc = .ok (.lreturn, 1))
    (hq : Qv (some (.long z)) T.heap locs) (hc : cells ≤ cc) (hs : slots ≤ ss) : own_Go p e below T (mkF m pc Ls (.long z :: rest)) (own_K s below Qv cc ss) :=
  own_ret X (fun h => by rw [hret] at h; cases h) hlk (fun fs hr => retOut X hx hret rfl (Or.inr (Or.inl ⟨rfl, rfl, z, rfl⟩)) hd hr) hq hc hs
theorem own_retA (X : Stand p l e R s m args below meth c T locs cells slots) (hx : p.tables.exec = Jvm.exec) {w : Value} {t : FieldType} (hret : meth.sig.returnType = some t) (hn : narrow t w = w) (ht : t.isReference = true ∧ w.isRef = true) (hlk : meth.locks = false) (hd : decode c.code pc = .ok (.areturn, 1))
    (hq : Qv (some w) T.heap locs) (hc : cells ≤ cc) (hs : slots ≤ ss) : own_Go p e below T (mkF m pc Ls (w :: rest)) (own_K s below Qv cc ss) :=
  own_ret X (fun h => by rw [hret] at h; cases h) hlk (fun fs hr => retOut X hx hret hn (Or.inr (Or.inr (Or.inr (Or.inr ⟨rfl, ht.1, ht.2⟩)))) hd hr) hq hc hs
theorem own_retV (X : Stand p l e R s m args below meth c T locs cells slots) (hx : p.tables.exec = Jvm.exec) (hret : meth.sig.returnType = none) (hlk : meth.locks = false) (hd : decode c.code pc = .ok (.return_, 1))
    (hq : Qv none T.heap locs) (hc : cells ≤ cc) (hs : slots ≤ ss) : own_Go p e below T (mkF m pc Ls []) (own_K s below Qv cc ss) :=
  own_ret X (fun _ => rfl) hlk (fun fs hr => X.returnOut hx hret hd hr) hq hc hs
theorem own_lremM {g : JFrame} {target : State} (X : Stand p l e R s m args below meth c T locs cells slots) (hx : p.tables.exec = Jvm.exec) (hg : g.method = m) {x y : Int64} (hd : decode c.code g.pc = .ok (.lrem, 1)) (hs : g.stack = .long y :: .long x :: rest) (hy : y ≠ 0)
    (hr : Steps p.tables e below (T.setTop { g with pc := g.pc + 1, stack := .long (x % y) :: rest }) target) : Steps p.tables e below (T.setTop g) target := XS.lrem X.here hx hg hd hs hy (by rw [lrem_mod]; exact hr)
end Ret
theorem pd_0 : parseMethodDescriptor "()V" = some ⟨[], none⟩ := by decide +kernel
theorem pd_1 : parseMethodDescriptor "(J)V" = some ⟨[.long], none⟩ := by decide +kernel
theorem pd_2 : parseMethodDescriptor "(Lcom/example/spillway/spillway/model/Money;)Lcom/example/spillway/spillway/model/Money;" = some ⟨[(.object "com/example/spillway/spillway/model/Money")], some (.object "com/example/spillway/spillway/model/Money")⟩ := by decide +kernel
theorem pd_3 : parseMethodDescriptor "(JJ)J" = some ⟨[.long, .long], some .long⟩ := by decide +kernel
theorem pd_4 : parseMethodDescriptor "()J" = some ⟨[], some .long⟩ := by decide +kernel
theorem own_lt {x y : Int64} : lcmpW x y < 0 ↔ x < y := lw_lt x y
theorem own_gt {x y : Int64} : (0 : Int32) < lcmpW x y ↔ y < x := lw_gt x y
theorem own_eq0 {x y : Int64} : lcmpW x y = 0 ↔ x = y := lw_eq x y
theorem own_nonneg (a : Int64) : ¬ (a &&& (9223372036854775807 : Int64)) < 0 := by
  have h := c_maskL a 9223372036854775807 63 (by decide) (by decide)
  rw [Int64.lt_iff_toInt_lt, h]; exact Int.not_lt.mpr (Int.emod_nonneg _ (by decide))
theorem d2_0 : decode jdk_30_method_1_code 0 = .ok (.aload_n 0, 1) := by decide +kernel
theorem d2_1 : decode jdk_30_method_1_code 1 = .ok (.invokespecial 1, 3) := by decide +kernel
theorem d2_4 : decode jdk_30_method_1_code 4 = .ok (.return_, 1) := by decide +kernel
theorem ef_rm2 (m : MethodId) (x0 : Addr) : entryFrame m #[(.ref x0)] 1 = mkF m 0 #[.val (.ref x0)] [] := by first | (simp [entryFrame, mkF, argsToLocals, Value.category]; done) | rfl
def Q2 (Z : State) (a1 : Addr)  (h0 : Heap) (n0 : Nat) (v : Option Value) (h : Heap) (L : List Loc) : Prop := v = none ∧ Fr n0 L ∧ h = h0
set_option maxRecDepth 65536 in
set_option maxHeartbeats 40000000 in
theorem rm2 (l : Launch) (Z : State) (a0 : Array Value) (hw : ∀ d ∈ tables_1, d.before a0 Z = true) (ws : List Jvm.Cond) (a1 : Addr)  (h0 : Heap) (n0 : Nat) (Z0 : n0 ≤ h0.size)  :
    MetFree l (⟨"java/lang/Record", "<init>", "()V"⟩ : MethodName) (head1 (Jvm.Cond.code (⟨"java/lang/Record", "<init>", "()V"⟩ : MethodName) jdk_30_method_1_code 1 none :: ws) ({ frames := 1, cells := 0, slots := 0, locals := 12 } : Room)) (fun a U => a = #[(.ref a1)] ∧ Z.Warmed39 U.vm ∧ U.heap = h0) (fun _ _ _ _ _ => True) (fun _ U o U' => ∃ v L, o = .returned v ∧ Q2 Z a1  h0 n0 v U'.heap L ∧ FrameEnd U o U' L 0 0) := by
  refine own_body (Qv := Q2 Z a1  h0 n0) (plainFor_of_name (by first | (simp [plainName, overriddenIn]; done) | decide +kernel)) ?_
  intro p e s m below meth c s₁ hx hby hml hret hlk hown hnm hZ X0 e0
  replace hown : s.vm.findClass "java/lang/Record" = some m.cls := hown
  replace hnm : meth.name = "<init>" := hnm
  have N0 := Fr.nil n0
  refine own_Go.mono (T' := s₁) (f' := (mkF m 0 #[.val (.ref a1)] [])) (fun t k => castTop (ef_rm2 m a1) k) ?_
  obtain ⟨T1, X1, e1, st1⟩ := initO X0 hx hZ hown (hw _ (List.mem_of_getElem? (i := 12) rfl)) (hw _ (List.mem_of_getElem? (i := 13) rfl)) (hw _ (List.mem_of_getElem? (i := 14) rfl)) e0 (g := (mkF m 1 #[.val (.ref a1)] [(.ref a1)])) rfl (by rw [hml]; rfl) rfl (hb hby d2_1) (by decide) (W := 0) (by show 2 * 0 + _ ≤ _; exact Nat.le_of_eq rfl) (by decide)
  refine own_Go.mono (T' := T1) (f' := (mkF m 4 #[.val (.ref a1)] [])) (fun t k => ?_) ?_
  · show Steps p.tables e below (s₁.setTop (mkF m 0 #[.val (.ref a1)] [])) _
    refine XS.aloadN X0.here hx rfl (hb hby d2_0) rfl rfl ?_
    show Steps p.tables e below (s₁.setTop (mkF m 1 #[.val (.ref a1)] [(.ref a1)])) _
    refine st1 _ ?_
    show Steps p.tables e below (T1.setTop (mkF m 4 #[.val (.ref a1)] [])) _
    exact k
  exact own_retV X1 hx hret hlk (hb hby d2_4) (⟨rfl, N0, e1⟩) (by decide) (by decide)
theorem d1_0 : decode prog_26_method_1_code 0 = .ok (.aload_n 0, 1) := by decide +kernel
theorem d1_1 : decode prog_26_method_1_code 1 = .ok (.invokespecial 1, 3) := by decide +kernel
theorem d1_4 : decode prog_26_method_1_code 4 = .ok (.lload_n 1, 1) := by decide +kernel
theorem d1_5 : decode prog_26_method_1_code 5 = .ok (.lconst 0, 1) := by decide +kernel
theorem d1_6 : decode prog_26_method_1_code 6 = .ok (.lcmp, 1) := by decide +kernel
theorem d1_7 : decode prog_26_method_1_code 7 = .ok (.ifCond .ge 21, 3) := by decide +kernel
theorem d1_10 : decode prog_26_method_1_code 10 = .ok (.new 7, 3) := by decide +kernel
theorem d1_13 : decode prog_26_method_1_code 13 = .ok (.dup, 1) := by decide +kernel
theorem d1_14 : decode prog_26_method_1_code 14 = .ok (.lload_n 1, 1) := by decide +kernel
theorem d1_20 : decode prog_26_method_1_code 20 = .ok (.iconst 0, 1) := by decide +kernel
theorem d1_21 : decode prog_26_method_1_code 21 = .ok (.anewarray 13, 3) := by decide +kernel
theorem d1_24 : decode prog_26_method_1_code 24 = .ok (.invokespecial 15, 3) := by decide +kernel
theorem d1_27 : decode prog_26_method_1_code 27 = .ok (.athrow, 1) := by decide +kernel
theorem d1_28 : decode prog_26_method_1_code 28 = .ok (.aload_n 0, 1) := by decide +kernel
theorem d1_29 : decode prog_26_method_1_code 29 = .ok (.lload_n 1, 1) := by decide +kernel
theorem d1_30 : decode prog_26_method_1_code 30 = .ok (.putfield 18, 3) := by decide +kernel
theorem d1_33 : decode prog_26_method_1_code 33 = .ok (.return_, 1) := by decide +kernel
theorem ef_rm1 (m : MethodId) (x0 : Addr) (x1 : Int64) : entryFrame m #[(.ref x0), (.long x1)] 3 = mkF m 0 #[.val (.ref x0), .val (.long x1), .second] [] := by first | (simp [entryFrame, mkF, argsToLocals, Value.category]; done) | rfl
def Q1 (Z : State) (a1 : Addr) (q1 : Int64)  (h0 : Heap) (n0 : Nat) (v : Option Value) (h : Heap) (L : List Loc) : Prop := v = none ∧ Fr n0 L ∧ Keep h0 h [a1] ∧ Exa Z h a1 "com/example/spillway/spillway/model/Money" ∧ Fld Z h a1 "com/example/spillway/spillway/model/Money" "cents" "J" (.long q1)
set_option maxRecDepth 65536 in
set_option maxHeartbeats 40000000 in
theorem rm1 (l : Launch) (Z : State) (a0 : Array Value) (hw : ∀ d ∈ tables_1, d.before a0 Z = true) (ws : List Jvm.Cond) (a1 : Addr) (q1 : Int64)  (h0 : Heap) (n0 : Nat) (Z0 : n0 ≤ h0.size) (F1 : Fld Z h0 a1 "com/example/spillway/spillway/model/Money" "cents" "J" (.long (0 : Int64))) (E1 : Exa Z h0 a1 "com/example/spillway/spillway/model/Money") (g1 : n0 ≤ a1) (hq1 : ¬ q1 < 0) :
    MetFree l (⟨"com/example/spillway/spillway/model/Money", "<init>", "(J)V"⟩ : MethodName) (head1 (Jvm.Cond.code (⟨"com/example/spillway/spillway/model/Money", "<init>", "(J)V"⟩ : MethodName) prog_26_method_1_code 3 none :: ws) ({ frames := 2, cells := 0, slots := 0, locals := 24 } : Room)) (fun a U => a = #[(.ref a1), (.long q1)] ∧ Z.Warmed39 U.vm ∧ U.heap = h0) (fun _ _ _ _ _ => True) (fun _ U o U' => ∃ v L, o = .returned v ∧ Q1 Z a1 q1  h0 n0 v U'.heap L ∧ FrameEnd U o U' L 0 0) := by
  refine own_body (Qv := Q1 Z a1 q1  h0 n0) (plainFor_of_name (by first | (simp [plainName, overriddenIn]; done) | decide +kernel)) ?_
  intro p e s m below meth c s₁ hx hby hml hret hlk hown hnm hZ X0 e0
  replace hown : s.vm.findClass "com/example/spillway/spillway/model/Money" = some m.cls := hown
  replace hnm : meth.name = "<init>" := hnm
  have N0 := Fr.nil n0
  refine own_Go.mono (T' := s₁) (f' := (mkF m 0 #[.val (.ref a1), .val (.long q1), .second] [])) (fun t k => castTop (ef_rm1 m a1 q1) k) ?_
  have K0_0 : Keep h0 h0 [a1] := Keep.refl _ _
  obtain ⟨_, _, ⟨T2, L2, k2, n2⟩, -, X2, ⟨Lc2, hQ2, l2, y2, z2⟩, st2⟩ := X0.specialBack hx (y := (⟨"java/lang/Record", "<init>", "()V"⟩ : MethodName)) rfl hown (mvT hZ (hw _ (List.mem_of_getElem? (i := 7) rfl))) (mvT hZ (hw _ (List.mem_of_getElem? (i := 8) rfl))) (mvT hZ (hw _ (List.mem_of_getElem? (i := 11) rfl))) (by decide) (backOf (W := 0) (rm2 l Z a0 hw [] a1 h0 n0 Z0) hZ (hw _ (List.mem_of_getElem? (i := 11) rfl)) (hw _ (List.mem_of_getElem? (i := 10) rfl)) (by decide) (by decide)) (g := (mkF m 1 #[.val (.ref a1), .val (.long q1), .second] [(.ref a1)])) rfl (by rw [hml]; rfl) (Steps.refl _) (a := a1) (argsL := []) (rest := []) (lenOf pd_0 rfl) rfl (by show 2 * 0 + _ ≤ _; exact Nat.le_of_eq rfl) (hb hby d1_1) (fun _ _ => ⟨rfl, e0, (by decide : 0 + 0 ≤ _), (by decide : 0 + 0 ≤ _)⟩)
  dsimp only [Pt.U, Pt.locs, Pt.cells, Pt.slots] at X2 l2 y2 z2 st2 hQ2
  subst l2 y2 z2
  obtain ⟨rfl, N2q, hh2⟩ := hQ2
  have N2 := Fr.app N0 N2q
  obtain ⟨T3, h3, X3, e3, W3, st3⟩ := putF X2 hx hZ hown (host := "") (Or.inl (hw _ (List.mem_of_getElem? (i := 15) rfl))) Via.refl hh2 F1 E1 (Or.inr ⟨(hw _ (List.mem_of_getElem? (i := 16) rfl)), rfl, hnm⟩) (hw _ (List.mem_of_getElem? (i := 2) rfl)) (ty := .long) (by decide) rfl rfl (g := (mkF m 30 #[.val (.ref a1), .val (.long q1), .second] [(.long q1), (.ref a1)])) rfl rfl (hb hby d1_30)
  have F_cents_a1_3 := F1.same W3
  have E1_4 := E1.wr W3
  have zh3 : n0 ≤ h3.size := Nat.le_trans Z0 (Nat.le_of_eq W3.size.symm)
  have K0_3 : Keep h0 h3 [a1] := K0_0.wr W3 (Or.inl (List.mem_of_getElem? (i := 0) rfl))
  have N3 := Fr.snoc X3 N2 g1
  refine own_Go.mono (T' := T3) (f' := (mkF m 33 #[.val (.ref a1), .val (.long q1), .second] [])) (fun t k => ?_) ?_
  · show Steps p.tables e below (s₁.setTop (mkF m 0 #[.val (.ref a1), .val (.long q1), .second] [])) _
    refine XS.aloadN X0.here hx rfl (hb hby d1_0) rfl rfl ?_
    show Steps p.tables e below (s₁.setTop (mkF m 1 #[.val (.ref a1), .val (.long q1), .second] [(.ref a1)])) _
    refine st2.trans ?_
    show Steps p.tables e below (T2.setTop (mkF m 4 #[.val (.ref a1), .val (.long q1), .second] [])) _
    refine XS.lloadN X2.here hx rfl (hb hby d1_4) rfl ?_
    show Steps p.tables e below (T2.setTop (mkF m 5 #[.val (.ref a1), .val (.long q1), .second] [(.long q1)])) _
    refine XS.lconst X2.here hx rfl (hb hby d1_5) ?_
    show Steps p.tables e below (T2.setTop (mkF m 6 #[.val (.ref a1), .val (.long q1), .second] [(.long (0 : Int64)), (.long q1)])) _
    refine XS.lcmp X2.here hx rfl (hb hby d1_6) rfl ?_
    show Steps p.tables e below (T2.setTop (mkF m 7 #[.val (.ref a1), .val (.long q1), .second] [(.int (lcmpW q1 (0 : Int64)))])) _
    refine XS.ifYes X2.here hx rfl (pc0 := 7) (pc' := 28) rfl (hb hby d1_7) rfl ((if0 _ _).trans (flt (mt own_lt.mp hq1)).2.1) (by decide) (by decide) ?_
    show Steps p.tables e below (T2.setTop (mkF m 28 #[.val (.ref a1), .val (.long q1), .second] [])) _
    refine XS.aloadN X2.here hx rfl (hb hby d1_28) rfl rfl ?_
    show Steps p.tables e below (T2.setTop (mkF m 29 #[.val (.ref a1), .val (.long q1), .second] [(.ref a1)])) _
    refine XS.lloadN X2.here hx rfl (hb hby d1_29) rfl ?_
    show Steps p.tables e below (T2.setTop (mkF m 30 #[.val (.ref a1), .val (.long q1), .second] [(.long q1), (.ref a1)])) _
    refine st3 _ ?_
    show Steps p.tables e below (T3.setTop (mkF m 33 #[.val (.ref a1), .val (.long q1), .second] [])) _
    exact k
  exact own_retV X3 hx hret hlk (hb hby d1_33) ((by rw [e3]; exact ⟨rfl, N3, K0_3, E1_4, F_cents_a1_3⟩)) (by decide) (by decide)
theorem d4_0 : decode prog_26_method_9_code 0 = .ok (.aload_n 1, 1) := by decide +kernel
theorem d4_1 : decode prog_26_method_9_code 1 = .ok (.getfield 18, 3) := by decide +kernel
theorem d4_4 : decode prog_26_method_9_code 4 = .ok (.aload_n 0, 1) := by decide +kernel
theorem d4_5 : decode prog_26_method_9_code 5 = .ok (.getfield 18, 3) := by decide +kernel
theorem d4_8 : decode prog_26_method_9_code 8 = .ok (.lcmp, 1) := by decide +kernel
theorem d4_9 : decode prog_26_method_9_code 9 = .ok (.ifCond .ge 7, 3) := by decide +kernel
theorem d4_12 : decode prog_26_method_9_code 12 = .ok (.aload_n 1, 1) := by decide +kernel
theorem d4_13 : decode prog_26_method_9_code 13 = .ok (.goto 4, 3) := by decide +kernel
theorem d4_16 : decode prog_26_method_9_code 16 = .ok (.aload_n 0, 1) := by decide +kernel
theorem d4_17 : decode prog_26_method_9_code 17 = .ok (.areturn, 1) := by decide +kernel
theorem ef_rm4 (m : MethodId) (x0 : Addr) (x1 : Addr) : entryFrame m #[(.ref x0), (.ref x1)] 2 = mkF m 0 #[.val (.ref x0), .val (.ref x1)] [] := by first | (simp [entryFrame, mkF, argsToLocals, Value.category]; done) | rfl
def Q4 (Z : State) (a1 : Addr) (a2 : Addr) (q1 : Int64) (q2 : Int64) (r : Addr) (h0 : Heap) (n0 : Nat) (v : Option Value) (h : Heap) (L : List Loc) : Prop := v = some (.ref r) ∧ Fr n0 L ∧ h = h0
set_option maxRecDepth 65536 in
set_option maxHeartbeats 40000000 in
theorem rm4 (l : Launch) (Z : State) (a0 : Array Value) (hw : ∀ d ∈ tables_1, d.before a0 Z = true) (ws : List Jvm.Cond) (a1 : Addr) (a2 : Addr) (q1 : Int64) (q2 : Int64) (r : Addr) (h0 : Heap) (n0 : Nat) (Z0 : n0 ≤ h0.size) (F1 : Fld Z h0 a1 "com/example/spillway/spillway/model/Money" "cents" "J" (.long q1)) (F2 : Fld Z h0 a2 "com/example/spillway/spillway/model/Money" "cents" "J" (.long q2)) (hr : (q2 < q1 ∧ a2 = r) ∨ (¬ q2 < q1 ∧ a1 = r)) :
    MetFree l (⟨"com/example/spillway/spillway/model/Money", "min", "(Lcom/example/spillway/spillway/model/Money;)Lcom/example/spillway/spillway/model/Money;"⟩ : MethodName) (head1 (Jvm.Cond.code (⟨"com/example/spillway/spillway/model/Money", "min", "(Lcom/example/spillway/spillway/model/Money;)Lcom/example/spillway/spillway/model/Money;"⟩ : MethodName) prog_26_method_9_code 2 (some (.object "com/example/spillway/spillway/model/Money")) :: ws) ({ frames := 0, cells := 0, slots := 0, locals := 0 } : Room)) (fun a U => a = #[(.ref a1), (.ref a2)] ∧ Z.Warmed39 U.vm ∧ U.heap = h0) (fun _ _ _ _ _ => True) (fun _ U o U' => ∃ v L, o = .returned v ∧ Q4 Z a1 a2 q1 q2 r h0 n0 v U'.heap L ∧ FrameEnd U o U' L 0 0) := by
  refine own_body (Qv := Q4 Z a1 a2 q1 q2 r h0 n0) (plainFor_of_name (by first | (simp [plainName, overriddenIn]; done) | decide +kernel)) ?_
  intro p e s m below meth c s₁ hx hby hml hret hlk hown hnm hZ X0 e0
  replace hown : s.vm.findClass "com/example/spillway/spillway/model/Money" = some m.cls := hown
  replace hnm : meth.name = "min" := hnm
  have N0 := Fr.nil n0
  refine own_Go.mono (T' := s₁) (f' := (mkF m 0 #[.val (.ref a1), .val (.ref a2)] [])) (fun t k => castTop (ef_rm4 m a1 a2) k) ?_
  obtain ⟨T5, X5, e5, st5⟩ := getF X0 hx hZ hown (host := "") (Or.inl (hw _ (List.mem_of_getElem? (i := 15) rfl))) Via.refl e0 F2 (g := (mkF m 1 #[.val (.ref a1), .val (.ref a2)] [(.ref a2)])) rfl rfl (hb hby d4_1)
  obtain ⟨T6, X6, e6, st6⟩ := getF X5 hx hZ hown (host := "") (Or.inl (hw _ (List.mem_of_getElem? (i := 15) rfl))) Via.refl e5 F1 (g := (mkF m 5 #[.val (.ref a1), .val (.ref a2)] [(.ref a1), (.long q2)])) rfl rfl (hb hby d4_5)
  refine own_Go.mono (T' := T6) (f' := (mkF m 9 #[.val (.ref a1), .val (.ref a2)] [(.int (lcmpW q2 q1))])) (fun t k => ?_) ?_
  · show Steps p.tables e below (s₁.setTop (mkF m 0 #[.val (.ref a1), .val (.ref a2)] [])) _
    refine XS.aloadN X0.here hx rfl (hb hby d4_0) rfl rfl ?_
    show Steps p.tables e below (s₁.setTop (mkF m 1 #[.val (.ref a1), .val (.ref a2)] [(.ref a2)])) _
    refine st5 _ ?_
    show Steps p.tables e below (T5.setTop (mkF m 4 #[.val (.ref a1), .val (.ref a2)] [(.long q2)])) _
    refine XS.aloadN X5.here hx rfl (hb hby d4_4) rfl rfl ?_
    show Steps p.tables e below (T5.setTop (mkF m 5 #[.val (.ref a1), .val (.ref a2)] [(.ref a1), (.long q2)])) _
    refine st6 _ ?_
    show Steps p.tables e below (T6.setTop (mkF m 8 #[.val (.ref a1), .val (.ref a2)] [(.long q1), (.long q2)])) _
    refine XS.lcmp X6.here hx rfl (hb hby d4_8) rfl ?_
    show Steps p.tables e below (T6.setTop (mkF m 9 #[.val (.ref a1), .val (.ref a2)] [(.int (lcmpW q2 q1))])) _
    exact k
  rcases hr with ⟨hlt, hr⟩ | ⟨hlt, hr⟩
  · refine own_Go.mono (T' := T6) (f' := (mkF m 17 #[.val (.ref a1), .val (.ref a2)] [(.ref a2)])) (fun t k => ?_) ?_
    · show Steps p.tables e below (T6.setTop (mkF m 9 #[.val (.ref a1), .val (.ref a2)] [(.int (lcmpW q2 q1))])) _
      refine XS.ifNo X6.here hx rfl (hb hby d4_9) rfl ((if0 _ _).trans (tlt (own_lt.mpr hlt)).2.1) ?_
      show Steps p.tables e below (T6.setTop (mkF m 12 #[.val (.ref a1), .val (.ref a2)] [])) _
      refine XS.aloadN X6.here hx rfl (hb hby d4_12) rfl rfl ?_
      show Steps p.tables e below (T6.setTop (mkF m 13 #[.val (.ref a1), .val (.ref a2)] [(.ref a2)])) _
      refine XS.goto X6.here hx rfl (pc0 := 13) (pc' := 17) rfl (hb hby d4_13) (by decide) (by decide) ?_
      show Steps p.tables e below (T6.setTop (mkF m 17 #[.val (.ref a1), .val (.ref a2)] [(.ref a2)])) _
      exact k
    exact own_retA X6 hx hret rfl ⟨rfl, rfl⟩ hlk (hb hby d4_17) (⟨congrArg (fun z => some (Value.ref z)) hr, N0, e6⟩) (by decide) (by decide)
  · refine own_Go.mono (T' := T6) (f' := (mkF m 17 #[.val (.ref a1), .val (.ref a2)] [(.ref a1)])) (fun t k => ?_) ?_
    · show Steps p.tables e below (T6.setTop (mkF m 9 #[.val (.ref a1), .val (.ref a2)] [(.int (lcmpW q2 q1))])) _
      refine XS.ifYes X6.here hx rfl (pc0 := 9) (pc' := 16) rfl (hb hby d4_9) rfl ((if0 _ _).trans (flt (mt own_lt.mp hlt)).2.1) (by decide) (by decide) ?_
      show Steps p.tables e below (T6.setTop (mkF m 16 #[.val (.ref a1), .val (.ref a2)] [])) _
      refine XS.aloadN X6.here hx rfl (hb hby d4_16) rfl rfl ?_
      show Steps p.tables e below (T6.setTop (mkF m 17 #[.val (.ref a1), .val (.ref a2)] [(.ref a1)])) _
      exact k
    exact own_retA X6 hx hret rfl ⟨rfl, rfl⟩ hlk (hb hby d4_17) (⟨congrArg (fun z => some (Value.ref z)) hr, N0, e6⟩) (by decide) (by decide)
theorem d5_0 : decode jdk_29_method_70_code 0 = .ok (.lload_n 0, 1) := by decide +kernel
theorem d5_1 : decode jdk_29_method_70_code 1 = .ok (.lload_n 2, 1) := by decide +kernel
theorem d5_2 : decode jdk_29_method_70_code 2 = .ok (.lcmp, 1) := by decide +kernel
theorem d5_3 : decode jdk_29_method_70_code 3 = .ok (.ifCond .gt 7, 3) := by decide +kernel
theorem d5_6 : decode jdk_29_method_70_code 6 = .ok (.lload_n 0, 1) := by decide +kernel
theorem d5_7 : decode jdk_29_method_70_code 7 = .ok (.goto 4, 3) := by decide +kernel
theorem d5_10 : decode jdk_29_method_70_code 10 = .ok (.lload_n 2, 1) := by decide +kernel
theorem d5_11 : decode jdk_29_method_70_code 11 = .ok (.lreturn, 1) := by decide +kernel
def B5_0 (q1 : Int64) (q2 : Int64) : Int64 := (if (0 : Int32) < (lcmpW q1 q2) then q2 else q1)
theorem ef_rm5 (m : MethodId) (x0 : Int64) (x1 : Int64) : entryFrame m #[(.long x0), (.long x1)] 4 = mkF m 0 #[.val (.long x0), .second, .val (.long x1), .second] [] := by first | (simp [entryFrame, mkF, argsToLocals, Value.category]; done) | rfl
def Q5 (Z : State) (q1 : Int64) (q2 : Int64)  (h0 : Heap) (n0 : Nat) (v : Option Value) (h : Heap) (L : List Loc) : Prop := v = some (.long (B5_0 q1 q2)) ∧ Fr n0 L ∧ h = h0
set_option maxRecDepth 65536 in
set_option maxHeartbeats 40000000 in
theorem rm5 (l : Launch) (Z : State) (a0 : Array Value) (hw : ∀ d ∈ tables_1, d.before a0 Z = true) (ws : List Jvm.Cond) (q1 : Int64) (q2 : Int64)  (h0 : Heap) (n0 : Nat) (Z0 : n0 ≤ h0.size)  :
    MetFree l (⟨"java/lang/Math", "min", "(JJ)J"⟩ : MethodName) (head1 (Jvm.Cond.code (⟨"java/lang/Math", "min", "(JJ)J"⟩ : MethodName) jdk_29_method_70_code 4 (some .long) :: ws) ({ frames := 0, cells := 0, slots := 0, locals := 0 } : Room)) (fun a U => a = #[(.long q1), (.long q2)] ∧ Z.Warmed39 U.vm ∧ U.heap = h0) (fun _ _ _ _ _ => True) (fun _ U o U' => ∃ v L, o = .returned v ∧ Q5 Z q1 q2  h0 n0 v U'.heap L ∧ FrameEnd U o U' L 0 0) := by
  refine own_body (Qv := Q5 Z q1 q2  h0 n0) (Jvm.Free.JP.mathPlain rfl (by decide +kernel)) ?_
  intro p e s m below meth c s₁ hx hby hml hret hlk hown hnm hZ X0 e0
  replace hown : s.vm.findClass "java/lang/Math" = some m.cls := hown
  replace hnm : meth.name = "min" := hnm
  have N0 := Fr.nil n0
  refine own_Go.mono (T' := s₁) (f' := (mkF m 0 #[.val (.long q1), .second, .val (.long q2), .second] [])) (fun t k => castTop (ef_rm5 m q1 q2) k) ?_
  have hv : (B5_0 q1 q2) = (B5_0 q1 q2) := rfl
  refine own_Go.mono (T' := s₁) (f' := (mkF m 3 #[.val (.long q1), .second, .val (.long q2), .second] [(.int (lcmpW q1 q2))])) (fun t k => ?_) ?_
  · show Steps p.tables e below (s₁.setTop (mkF m 0 #[.val (.long q1), .second, .val (.long q2), .second] [])) _
    refine XS.lloadN X0.here hx rfl (hb hby d5_0) rfl ?_
    show Steps p.tables e below (s₁.setTop (mkF m 1 #[.val (.long q1), .second, .val (.long q2), .second] [(.long q1)])) _
    refine XS.lloadN X0.here hx rfl (hb hby d5_1) rfl ?_
    show Steps p.tables e below (s₁.setTop (mkF m 2 #[.val (.long q1), .second, .val (.long q2), .second] [(.long q2), (.long q1)])) _
    refine XS.lcmp X0.here hx rfl (hb hby d5_2) rfl ?_
    show Steps p.tables e below (s₁.setTop (mkF m 3 #[.val (.long q1), .second, .val (.long q2), .second] [(.int (lcmpW q1 q2))])) _
    exact k
  by_cases c3_7 : (0 : Int32) < (lcmpW q1 q2)
  · refine own_Go.mono (T' := s₁) (f' := (mkF m 11 #[.val (.long q1), .second, .val (.long q2), .second] [(.long q2)])) (fun t k => ?_) ?_
    · show Steps p.tables e below (s₁.setTop (mkF m 3 #[.val (.long q1), .second, .val (.long q2), .second] [(.int (lcmpW q1 q2))])) _
      refine XS.ifYes X0.here hx rfl (pc0 := 3) (pc' := 10) rfl (hb hby d5_3) rfl ((if0 _ _).trans (tlt c3_7).2.2.1) (by decide) (by decide) ?_
      show Steps p.tables e below (s₁.setTop (mkF m 10 #[.val (.long q1), .second, .val (.long q2), .second] [])) _
      refine XS.lloadN X0.here hx rfl (hb hby d5_10) rfl ?_
      show Steps p.tables e below (s₁.setTop (mkF m 11 #[.val (.long q1), .second, .val (.long q2), .second] [(.long q2)])) _
      exact k
    exact own_retJ X0 hx hret hlk (hb hby d5_11) (⟨congrArg some (congrArg Value.long (by rw [← hv]; unfold B5_0; rw [if_pos c3_7]; first | done | rfl)), N0, e0⟩) (by decide) (by decide)
  · refine own_Go.mono (T' := s₁) (f' := (mkF m 11 #[.val (.long q1), .second, .val (.long q2), .second] [(.long q1)])) (fun t k => ?_) ?_
    · show Steps p.tables e below (s₁.setTop (mkF m 3 #[.val (.long q1), .second, .val (.long q2), .second] [(.int (lcmpW q1 q2))])) _
      refine XS.ifNo X0.here hx rfl (hb hby d5_3) rfl ((if0 _ _).trans (flt c3_7).2.2.1) ?_
      show Steps p.tables e below (s₁.setTop (mkF m 6 #[.val (.long q1), .second, .val (.long q2), .second] [])) _
      refine XS.lloadN X0.here hx rfl (hb hby d5_6) rfl ?_
      show Steps p.tables e below (s₁.setTop (mkF m 7 #[.val (.long q1), .second, .val (.long q2), .second] [(.long q1)])) _
      refine XS.goto X0.here hx rfl (pc0 := 7) (pc' := 11) rfl (hb hby d5_7) (by decide) (by decide) ?_
      show Steps p.tables e below (s₁.setTop (mkF m 11 #[.val (.long q1), .second, .val (.long q2), .second] [(.long q1)])) _
      exact k
    exact own_retJ X0 hx hret hlk (hb hby d5_11) (⟨congrArg some (congrArg Value.long (by rw [← hv]; unfold B5_0; rw [if_neg c3_7]; first | done | rfl)), N0, e0⟩) (by decide) (by decide)
theorem own_min1 {x y : Int64} (h : y < x) : B5_0 x y = y := by unfold B5_0; rw [if_pos (own_gt.mpr h)]
theorem own_min2 {x y : Int64} (h : ¬ y < x) : B5_0 x y = x := by unfold B5_0; rw [if_neg (mt own_gt.mp h)]
theorem d6_0 : decode prog_26_method_18_code 0 = .ok (.aload_n 0, 1) := by decide +kernel
theorem d6_1 : decode prog_26_method_18_code 1 = .ok (.getfield 18, 3) := by decide +kernel
theorem d6_4 : decode prog_26_method_18_code 4 = .ok (.lreturn, 1) := by decide +kernel
theorem ef_rm6 (m : MethodId) (x0 : Addr) : entryFrame m #[(.ref x0)] 1 = mkF m 0 #[.val (.ref x0)] [] := by first | (simp [entryFrame, mkF, argsToLocals, Value.category]; done) | rfl
def Q6 (Z : State) (a1 : Addr) (q1 : Int64) (h0 : Heap) (n0 : Nat) (v : Option Value) (h : Heap) (L : List Loc) : Prop := v = some (.long q1) ∧ Fr n0 L ∧ h = h0
set_option maxRecDepth 65536 in
set_option maxHeartbeats 40000000 in
theorem rm6 (l : Launch) (Z : State) (a0 : Array Value) (hw : ∀ d ∈ tables_1, d.before a0 Z = true) (ws : List Jvm.Cond) (a1 : Addr) (q1 : Int64) (h0 : Heap) (n0 : Nat) (Z0 : n0 ≤ h0.size) (F1 : Fld Z h0 a1 "com/example/spillway/spillway/model/Money" "cents" "J" (.long q1)) :
    MetFree l (⟨"com/example/spillway/spillway/model/Money", "cents", "()J"⟩ : MethodName) (head1 (Jvm.Cond.code (⟨"com/example/spillway/spillway/model/Money", "cents", "()J"⟩ : MethodName) prog_26_method_18_code 1 (some .long) :: ws) ({ frames := 0, cells := 0, slots := 0, locals := 0 } : Room)) (fun a U => a = #[(.ref a1)] ∧ Z.Warmed39 U.vm ∧ U.heap = h0) (fun _ _ _ _ _ => True) (fun _ U o U' => ∃ v L, o = .returned v ∧ Q6 Z a1 q1 h0 n0 v U'.heap L ∧ FrameEnd U o U' L 0 0) := by
  refine own_body (Qv := Q6 Z a1 q1 h0 n0) (plainFor_of_name (by first | (simp [plainName, overriddenIn]; done) | decide +kernel)) ?_
  intro p e s m below meth c s₁ hx hby hml hret hlk hown hnm hZ X0 e0
  replace hown : s.vm.findClass "com/example/spillway/spillway/model/Money" = some m.cls := hown
  replace hnm : meth.name = "cents" := hnm
  have N0 := Fr.nil n0
  refine own_Go.mono (T' := s₁) (f' := (mkF m 0 #[.val (.ref a1)] [])) (fun t k => castTop (ef_rm6 m a1) k) ?_
  obtain ⟨T8, X8, e8, st8⟩ := getF X0 hx hZ hown (host := "") (Or.inl (hw _ (List.mem_of_getElem? (i := 15) rfl))) Via.refl e0 F1 (g := (mkF m 1 #[.val (.ref a1)] [(.ref a1)])) rfl rfl (hb hby d6_1)
  refine own_Go.mono (T' := T8) (f' := (mkF m 4 #[.val (.ref a1)] [(.long q1)])) (fun t k => ?_) ?_
  · show Steps p.tables e below (s₁.setTop (mkF m 0 #[.val (.ref a1)] [])) _
    refine XS.aloadN X0.here hx rfl (hb hby d6_0) rfl rfl ?_
    show Steps p.tables e below (s₁.setTop (mkF m 1 #[.val (.ref a1)] [(.ref a1)])) _
    refine st8 _ ?_
    show Steps p.tables e below (T8.setTop (mkF m 4 #[.val (.ref a1)] [(.long q1)])) _
    exact k
  exact own_retJ X8 hx hret hlk (hb hby d6_4) (⟨rfl, N0, e8⟩) (by decide) (by decide)
theorem ef_rm0 (m : MethodId) (x0 : Int64) (x1 : Int64) (x2 : Int32) : entryFrame m #[(.long x0), (.long x1), (.int x2)] maxLocals = mkF m 0 #[.val (.long x0), .second, .val (.long x1), .second, .val (.int x2), .unset, .unset, .unset, .unset, .unset, .unset, .unset, .unset, .unset] [] := by first | (simp [entryFrame, mkF, argsToLocals, Value.category, maxLocals]; done) | rfl
def Q0 (Z : State) (q0 : Int64) (q1 : Int64) (p2 : Int32)  (h0 : Heap) (n0 : Nat) (v : Option Value) (h : Heap) (L : List Loc) : Prop := v = some (.int 1) ∧ Fr n0 L
set_option maxRecDepth 65536 in
set_option maxHeartbeats 40000000 in
theorem rm0 (l : Launch) (Z : State) (a0 : Array Value) (hw : ∀ d ∈ tables_1, d.before a0 Z = true) (ws : List Jvm.Cond) (q0 : Int64) (q1 : Int64) (p2 : Int32)  (h0 : Heap) (n0 : Nat) (Z0 : n0 ≤ h0.size)  :
    MetFree l x (head1 (Jvm.Cond.code x code maxLocals ret :: ws) room_1) (fun a U => a = #[(.long q0), (.long q1), (.int p2)] ∧ Z.Warmed39 U.vm ∧ U.heap = h0) (fun _ _ _ _ _ => True) (fun _ U o U' => ∃ v L, o = .returned v ∧ Q0 Z q0 q1 p2  h0 n0 v U'.heap L ∧ FrameEnd U o U' L 16 128) := by
  refine own_body (Qv := Q0 Z q0 q1 p2  h0 n0) (plainFor_of_name (by first | (simp [plainName, overriddenIn]; done) | decide +kernel)) ?_
  intro p e s m below meth c s₁ hx hby hml hret hlk hown hnm hZ X0 e0
  replace hown : s.vm.findClass "com/example/spillway/spillway/model/MoneyMinPinLaw" = some m.cls := hown
  replace hnm : meth.name = "law" := hnm
  have N0 := Fr.nil n0
  replace hml : c.maxLocals = 14 := hml
  refine own_Go.mono (T' := s₁) (f' := (mkF m 0 #[.val (.long q0), .second, .val (.long q1), .second, .val (.int p2), .unset, .unset, .unset, .unset, .unset, .unset, .unset, .unset, .unset] [])) (fun t k => castTop (ef_rm0 m q0 q1 p2) k) ?_
  have main : ∀ (y : Int64) (hy : ¬ y < 0), own_Go p e below s₁ (mkF m 25 #[.val (.long q0), .second, .val (.long q1), .second, .val (.int p2), .val (.long (q0 &&& (9223372036854775807 : Int64))), .second, .val (.long y), .second, .unset, .unset, .unset, .unset, .unset] []) (own_K s below (Q0 Z q0 q1 p2 h0 n0) 16 128) := by
    intro y hy
    have hx0 : ¬ (q0 &&& (9223372036854775807 : Int64)) < 0 := own_nonneg q0
    obtain ⟨T9, h9, X9, e9, E9, A9, D9, -, st9⟩ := newO X0 hx hZ hown (hw _ (List.mem_of_getElem? (i := 1) rfl)) (hw _ (List.mem_of_getElem? (i := 2) rfl)) (hw _ (List.mem_of_getElem? (i := 3) rfl)) e0 (g := (mkF m 25 #[.val (.long q0), .second, .val (.long q1), .second, .val (.int p2), .val (.long (q0 &&& (9223372036854775807 : Int64))), .second, .val (.long y), .second, .unset, .unset, .unset, .unset, .unset] [])) rfl (hb hby at_25) (by decide) (by decide)
    obtain ⟨b1, g9⟩ : ∃ z, z = h0.size := ⟨_, rfl⟩
    rw [← g9] at A9 D9 st9
    have lo_b1 : n0 ≤ b1 := Nat.le_trans Z0 (Nat.le_of_eq g9.symm)
    have zh9 : n0 ≤ h9.size := Nat.le_trans Z0 E9.1
    have F_cents_b1_9 : Fld Z h9 b1 "com/example/spillway/spillway/model/Money" "cents" "J" (.long (0 : Int64)) := D9 (Or.inr (hw _ (List.mem_of_getElem? (i := 16) rfl))) (ty := .long) (by decide)
    obtain ⟨_, _, ⟨T10, L10, k10, n10⟩, -, X10, ⟨Lc10, hQ10, l10, y10, z10⟩, st10⟩ := X9.specialBack hx (y := (⟨"com/example/spillway/spillway/model/Money", "<init>", "(J)V"⟩ : MethodName)) rfl hown (mvT hZ (hw _ (List.mem_of_getElem? (i := 4) rfl))) (mvT hZ (hw _ (List.mem_of_getElem? (i := 5) rfl))) (mvT hZ (hw _ (List.mem_of_getElem? (i := 6) rfl))) (by decide) (backOf (W := 1) (rm1 l Z a0 hw [] b1 (q0 &&& (9223372036854775807 : Int64)) h9 n0 zh9 F_cents_b1_9 A9 lo_b1 hx0) hZ (hw _ (List.mem_of_getElem? (i := 6) rfl)) (hw _ (List.mem_of_getElem? (i := 3) rfl)) (by decide) (by decide)) (g := (mkF m 31 #[.val (.long q0), .second, .val (.long q1), .second, .val (.int p2), .val (.long (q0 &&& (9223372036854775807 : Int64))), .second, .val (.long y), .second, .unset, .unset, .unset, .unset, .unset] [(.long (q0 &&& (9223372036854775807 : Int64))), (.ref b1), (.ref b1)])) rfl (by rw [hml]; rfl) (Steps.refl _) (a := b1) (argsL := [(.long (q0 &&& (9223372036854775807 : Int64)))]) (rest := [(.ref b1)]) (lenOf pd_1 rfl) rfl (by show 2 * 0 + _ ≤ _; exact Nat.le_of_eq rfl) (hb hby at_31) (fun _ _ => ⟨rfl, e9, (by decide : 1 + 0 ≤ _), (by decide : 1 + 0 ≤ _)⟩)
    dsimp only [Pt.U, Pt.locs, Pt.cells, Pt.slots] at X10 l10 y10 z10 st10 hQ10
    subst l10 y10 z10
    obtain ⟨rfl, N10q, K10, EX10, FL10⟩ := hQ10
    have N10 := Fr.app N0 N10q
    have A9_11 := A9.keep K10
    have zh10 : n0 ≤ T10.heap.size := Nat.le_trans zh9 K10.1
    obtain ⟨T12, h12, X12, e12, E12, A12, D12, -, st12⟩ := newO X10 hx hZ hown (hw _ (List.mem_of_getElem? (i := 1) rfl)) (hw _ (List.mem_of_getElem? (i := 2) rfl)) (hw _ (List.mem_of_getElem? (i := 3) rfl)) rfl (g := (mkF m 36 #[.val (.long q0), .second, .val (.long q1), .second, .val (.int p2), .val (.long (q0 &&& (9223372036854775807 : Int64))), .second, .val (.long y), .second, .val (.ref b1), .unset, .unset, .unset, .unset] [])) rfl (hb hby at_36) (by decide) (by decide)
    obtain ⟨b2, g12⟩ : ∃ z, z = T10.heap.size := ⟨_, rfl⟩
    rw [← g12] at A12 D12 st12
    have ne_b1_b2 : b1 ≠ b2 := Nat.ne_of_lt (Nat.lt_of_lt_of_le A9_11.lt (Nat.le_of_eq g12.symm))
    have lo_b2 : n0 ≤ b2 := Nat.le_trans zh10 (Nat.le_of_eq g12.symm)
    have A9_13 := A9_11.ext E12
    have FL10_14 := FL10.ext E12
    have zh12 : n0 ≤ h12.size := Nat.le_trans zh10 E12.1
    have F_cents_b2_12 : Fld Z h12 b2 "com/example/spillway/spillway/model/Money" "cents" "J" (.long (0 : Int64)) := D12 (Or.inr (hw _ (List.mem_of_getElem? (i := 16) rfl))) (ty := .long) (by decide)
    obtain ⟨_, _, ⟨T15, L15, k15, n15⟩, -, X15, ⟨Lc15, hQ15, l15, y15, z15⟩, st15⟩ := X12.specialBack hx (y := (⟨"com/example/spillway/spillway/model/Money", "<init>", "(J)V"⟩ : MethodName)) rfl hown (mvT hZ (hw _ (List.mem_of_getElem? (i := 4) rfl))) (mvT hZ (hw _ (List.mem_of_getElem? (i := 5) rfl))) (mvT hZ (hw _ (List.mem_of_getElem? (i := 6) rfl))) (by decide) (backOf (W := 1) (rm1 l Z a0 hw [] b2 y h12 n0 zh12 F_cents_b2_12 A12 lo_b2 hy) hZ (hw _ (List.mem_of_getElem? (i := 6) rfl)) (hw _ (List.mem_of_getElem? (i := 3) rfl)) (by decide) (by decide)) (g := (mkF m 42 #[.val (.long q0), .second, .val (.long q1), .second, .val (.int p2), .val (.long (q0 &&& (9223372036854775807 : Int64))), .second, .val (.long y), .second, .val (.ref b1), .unset, .unset, .unset, .unset] [(.long y), (.ref b2), (.ref b2)])) rfl (by rw [hml]; rfl) (Steps.refl _) (a := b2) (argsL := [(.long y)]) (rest := [(.ref b2)]) (lenOf pd_1 rfl) rfl (by show 2 * 0 + _ ≤ _; exact Nat.le_of_eq rfl) (hb hby at_42) (fun _ _ => ⟨rfl, e12, (by decide : 2 + 0 ≤ _), (by decide : 2 + 0 ≤ _)⟩)
    dsimp only [Pt.U, Pt.locs, Pt.cells, Pt.slots] at X15 l15 y15 z15 st15 hQ15
    subst l15 y15 z15
    obtain ⟨rfl, N15q, K15, EX15, FL15⟩ := hQ15
    have N15 := Fr.app N10 N15q
    have A9_16 := A9_13.keep K15
    have FL10_17 := FL10_14.keep K15 (ninS ne_b1_b2 nin0)
    have A12_18 := A12.keep K15
    have zh15 : n0 ≤ T15.heap.size := Nat.le_trans zh12 K15.1
    refine own_Go.mono (T' := T15) (f' := (mkF m 51 #[.val (.long q0), .second, .val (.long q1), .second, .val (.int p2), .val (.long (q0 &&& (9223372036854775807 : Int64))), .second, .val (.long y), .second, .val (.ref b1), .val (.ref b2), .unset, .unset, .unset] [(.ref b2), (.ref b1)])) (fun t k => ?_) ?_
    · show Steps p.tables e below (s₁.setTop (mkF m 25 #[.val (.long q0), .second, .val (.long q1), .second, .val (.int p2), .val (.long (q0 &&& (9223372036854775807 : Int64))), .second, .val (.long y), .second, .unset, .unset, .unset, .unset, .unset] [])) _
      refine st9 _ ?_
      show Steps p.tables e below (T9.setTop (mkF m 28 #[.val (.long q0), .second, .val (.long q1), .second, .val (.int p2), .val (.long (q0 &&& (9223372036854775807 : Int64))), .second, .val (.long y), .second, .unset, .unset, .unset, .unset, .unset] [(.ref b1)])) _
      refine XS.dup X9.here hx rfl (hb hby at_28) rfl rfl ?_
      show Steps p.tables e below (T9.setTop (mkF m 29 #[.val (.long q0), .second, .val (.long q1), .second, .val (.int p2), .val (.long (q0 &&& (9223372036854775807 : Int64))), .second, .val (.long y), .second, .unset, .unset, .unset, .unset, .unset] [(.ref b1), (.ref b1)])) _
      refine XS.lload X9.here hx rfl (hb hby at_29) rfl ?_
      show Steps p.tables e below (T9.setTop (mkF m 31 #[.val (.long q0), .second, .val (.long q1), .second, .val (.int p2), .val (.long (q0 &&& (9223372036854775807 : Int64))), .second, .val (.long y), .second, .unset, .unset, .unset, .unset, .unset] [(.long (q0 &&& (9223372036854775807 : Int64))), (.ref b1), (.ref b1)])) _
      refine st10.trans ?_
      show Steps p.tables e below (T10.setTop (mkF m 34 #[.val (.long q0), .second, .val (.long q1), .second, .val (.int p2), .val (.long (q0 &&& (9223372036854775807 : Int64))), .second, .val (.long y), .second, .unset, .unset, .unset, .unset, .unset] [(.ref b1)])) _
      refine XS.astore X10.here hx rfl (hb hby at_34) rfl rfl (l' := #[.val (.long q0), .second, .val (.long q1), .second, .val (.int p2), .val (.long (q0 &&& (9223372036854775807 : Int64))), .second, .val (.long y), .second, .val (.ref b1), .unset, .unset, .unset, .unset]) rfl ?_
      show Steps p.tables e below (T10.setTop (mkF m 36 #[.val (.long q0), .second, .val (.long q1), .second, .val (.int p2), .val (.long (q0 &&& (9223372036854775807 : Int64))), .second, .val (.long y), .second, .val (.ref b1), .unset, .unset, .unset, .unset] [])) _
      refine st12 _ ?_
      show Steps p.tables e below (T12.setTop (mkF m 39 #[.val (.long q0), .second, .val (.long q1), .second, .val (.int p2), .val (.long (q0 &&& (9223372036854775807 : Int64))), .second, .val (.long y), .second, .val (.ref b1), .unset, .unset, .unset, .unset] [(.ref b2)])) _
      refine XS.dup X12.here hx rfl (hb hby at_39) rfl rfl ?_
      show Steps p.tables e below (T12.setTop (mkF m 40 #[.val (.long q0), .second, .val (.long q1), .second, .val (.int p2), .val (.long (q0 &&& (9223372036854775807 : Int64))), .second, .val (.long y), .second, .val (.ref b1), .unset, .unset, .unset, .unset] [(.ref b2), (.ref b2)])) _
      refine XS.lload X12.here hx rfl (hb hby at_40) rfl ?_
      show Steps p.tables e below (T12.setTop (mkF m 42 #[.val (.long q0), .second, .val (.long q1), .second, .val (.int p2), .val (.long (q0 &&& (9223372036854775807 : Int64))), .second, .val (.long y), .second, .val (.ref b1), .unset, .unset, .unset, .unset] [(.long y), (.ref b2), (.ref b2)])) _
      refine st15.trans ?_
      show Steps p.tables e below (T15.setTop (mkF m 45 #[.val (.long q0), .second, .val (.long q1), .second, .val (.int p2), .val (.long (q0 &&& (9223372036854775807 : Int64))), .second, .val (.long y), .second, .val (.ref b1), .unset, .unset, .unset, .unset] [(.ref b2)])) _
      refine XS.astore X15.here hx rfl (hb hby at_45) rfl rfl (l' := #[.val (.long q0), .second, .val (.long q1), .second, .val (.int p2), .val (.long (q0 &&& (9223372036854775807 : Int64))), .second, .val (.long y), .second, .val (.ref b1), .val (.ref b2), .unset, .unset, .unset]) rfl ?_
      show Steps p.tables e below (T15.setTop (mkF m 47 #[.val (.long q0), .second, .val (.long q1), .second, .val (.int p2), .val (.long (q0 &&& (9223372036854775807 : Int64))), .second, .val (.long y), .second, .val (.ref b1), .val (.ref b2), .unset, .unset, .unset] [])) _
      refine XS.aload X15.here hx rfl (hb hby at_47) rfl rfl ?_
      show Steps p.tables e below (T15.setTop (mkF m 49 #[.val (.long q0), .second, .val (.long q1), .second, .val (.int p2), .val (.long (q0 &&& (9223372036854775807 : Int64))), .second, .val (.long y), .second, .val (.ref b1), .val (.ref b2), .unset, .unset, .unset] [(.ref b1)])) _
      refine XS.aload X15.here hx rfl (hb hby at_49) rfl rfl ?_
      show Steps p.tables e below (T15.setTop (mkF m 51 #[.val (.long q0), .second, .val (.long q1), .second, .val (.int p2), .val (.long (q0 &&& (9223372036854775807 : Int64))), .second, .val (.long y), .second, .val (.ref b1), .val (.ref b2), .unset, .unset, .unset] [(.ref b2), (.ref b1)])) _
      exact k
    by_cases hyx : y < (q0 &&& (9223372036854775807 : Int64))
    · obtain ⟨cq19, kq19, q19a, q19b, q19c⟩ := isOf hZ rfl A9_16
      obtain ⟨_, _, ⟨T19, L19, k19, n19⟩, -, X19, ⟨Lc19, hQ19, l19, y19, z19⟩, st19⟩ := X15.virtualBack hx (y := (⟨"com/example/spillway/spillway/model/Money", "min", "(Lcom/example/spillway/spillway/model/Money;)Lcom/example/spillway/spillway/model/Money;"⟩ : MethodName)) (z := (⟨"com/example/spillway/spillway/model/Money", "min", "(Lcom/example/spillway/spillway/model/Money;)Lcom/example/spillway/spillway/model/Money;"⟩ : MethodName)) hown (mvT hZ (hw _ (List.mem_of_getElem? (i := 17) rfl))) (mvT hZ (hw _ (List.mem_of_getElem? (i := 18) rfl))) (notFace_of_selects (args := #[]) (mvT hZ (hw _ (List.mem_of_getElem? (i := 20) rfl)))) (mvT hZ (hw _ (List.mem_of_getElem? (i := 20) rfl))) (mvT hZ (hw _ (List.mem_of_getElem? (i := 19) rfl))) (by decide) (backOf (W := 0) (rm4 l Z a0 hw [] b1 b2 (q0 &&& (9223372036854775807 : Int64)) y b2 T15.heap n0 zh15 FL10_17 FL15 (Or.inl ⟨hyx, rfl⟩)) hZ (hw _ (List.mem_of_getElem? (i := 21) rfl)) (hw _ (List.mem_of_getElem? (i := 3) rfl)) (by decide) (by decide)) q19a q19c (g := (mkF m 51 #[.val (.long q0), .second, .val (.long q1), .second, .val (.int p2), .val (.long (q0 &&& (9223372036854775807 : Int64))), .second, .val (.long y), .second, .val (.ref b1), .val (.ref b2), .unset, .unset, .unset] [(.ref b2), (.ref b1)])) rfl (by rw [hml]; rfl) (Steps.refl _) (argsL := [(.ref b2)]) (rest := []) (lenOf pd_2 rfl) rfl (by show 2 * 0 + _ ≤ _; exact Nat.le_of_eq rfl) (hb hby at_51) (fun _ _ => ⟨rfl, rfl, (by decide : 2 + 0 ≤ _), (by decide : 2 + 0 ≤ _)⟩)
      dsimp only [Pt.U, Pt.locs, Pt.cells, Pt.slots] at X19 l19 y19 z19 st19 hQ19
      subst l19 y19 z19
      obtain ⟨rfl, N19q, hh19⟩ := hQ19
      have N19 := Fr.app N15 N19q
      obtain ⟨_, _, ⟨T20, L20, k20, n20⟩, -, X20, ⟨Lc20, hQ20, l20, y20, z20⟩, st20⟩ := Jvm.LawKit.callS X19 hx (y := (⟨"java/lang/Math", "min", "(JJ)J"⟩ : MethodName)) hown (mvT hZ (hw _ (List.mem_of_getElem? (i := 22) rfl))) (mvT hZ (hw _ (List.mem_of_getElem? (i := 23) rfl))) (mvT hZ (hw _ (List.mem_of_getElem? (i := 24) rfl))) (mvT hZ (hw _ (List.mem_of_getElem? (i := 25) rfl))) (by decide) (backOf (W := 0) (rm5 l Z a0 hw [] (q0 &&& (9223372036854775807 : Int64)) y T15.heap n0 zh15) hZ (hw _ (List.mem_of_getElem? (i := 25) rfl)) (hw _ (List.mem_of_getElem? (i := 24) rfl)) (by decide) (by decide)) (g := (mkF m 60 #[.val (.long q0), .second, .val (.long q1), .second, .val (.int p2), .val (.long (q0 &&& (9223372036854775807 : Int64))), .second, .val (.long y), .second, .val (.ref b1), .val (.ref b2), .val (.ref b2), .unset, .unset] [(.long y), (.long (q0 &&& (9223372036854775807 : Int64)))])) rfl (by rw [hml]; rfl) (argsL := [(.long (q0 &&& (9223372036854775807 : Int64))), (.long y)]) (rest := []) (lenOf pd_3 rfl) rfl (by show 2 * 0 + _ ≤ _; exact Nat.le_of_eq rfl) (hb hby at_60) (fun _ _ => ⟨rfl, hh19, (by decide : 2 + 0 ≤ _), (by decide : 2 + 0 ≤ _)⟩)
      dsimp only [Pt.U, Pt.locs, Pt.cells, Pt.slots] at X20 l20 y20 z20 st20 hQ20
      subst l20 y20 z20
      obtain ⟨rfl, N20q, hh20⟩ := hQ20
      have N20 := Fr.app N19 N20q
      obtain ⟨cq21, kq21, q21a, q21b, q21c⟩ := isOf hZ hh20 A12_18
      obtain ⟨_, _, ⟨T21, L21, k21, n21⟩, -, X21, ⟨Lc21, hQ21, l21, y21, z21⟩, st21⟩ := X20.virtualBack hx (y := (⟨"com/example/spillway/spillway/model/Money", "cents", "()J"⟩ : MethodName)) (z := (⟨"com/example/spillway/spillway/model/Money", "cents", "()J"⟩ : MethodName)) hown (mvT hZ (hw _ (List.mem_of_getElem? (i := 26) rfl))) (mvT hZ (hw _ (List.mem_of_getElem? (i := 27) rfl))) (notFace_of_selects (args := #[]) (mvT hZ (hw _ (List.mem_of_getElem? (i := 29) rfl)))) (mvT hZ (hw _ (List.mem_of_getElem? (i := 29) rfl))) (mvT hZ (hw _ (List.mem_of_getElem? (i := 28) rfl))) (by decide) (backOf (W := 0) (rm6 l Z a0 hw [] b2 y T15.heap n0 zh15 FL15) hZ (hw _ (List.mem_of_getElem? (i := 30) rfl)) (hw _ (List.mem_of_getElem? (i := 3) rfl)) (by decide) (by decide)) q21a q21c (g := (mkF m 67 #[.val (.long q0), .second, .val (.long q1), .second, .val (.int p2), .val (.long (q0 &&& (9223372036854775807 : Int64))), .second, .val (.long y), .second, .val (.ref b1), .val (.ref b2), .val (.ref b2), .val (.long (B5_0 (q0 &&& (9223372036854775807 : Int64)) y)), .second] [(.ref b2)])) rfl (by rw [hml]; rfl) (Steps.refl _) (argsL := []) (rest := []) (lenOf pd_4 rfl) rfl (by show 2 * 0 + _ ≤ _; exact Nat.le_of_eq rfl) (hb hby at_67) (fun _ _ => ⟨rfl, hh20, (by decide : 2 + 0 ≤ _), (by decide : 2 + 0 ≤ _)⟩)
      dsimp only [Pt.U, Pt.locs, Pt.cells, Pt.slots] at X21 l21 y21 z21 st21 hQ21
      subst l21 y21 z21
      obtain ⟨rfl, N21q, hh21⟩ := hQ21
      have N21 := Fr.app N20 N21q
      refine own_Go.mono (T' := T21) (f' := (mkF m 98 #[.val (.long q0), .second, .val (.long q1), .second, .val (.int p2), .val (.long (q0 &&& (9223372036854775807 : Int64))), .second, .val (.long y), .second, .val (.ref b1), .val (.ref b2), .val (.ref b2), .val (.long (B5_0 (q0 &&& (9223372036854775807 : Int64)) y)), .second] [(.int (1 : Int32))])) (fun t k => ?_) ?_
      · show Steps p.tables e below (T15.setTop (mkF m 51 #[.val (.long q0), .second, .val (.long q1), .second, .val (.int p2), .val (.long (q0 &&& (9223372036854775807 : Int64))), .second, .val (.long y), .second, .val (.ref b1), .val (.ref b2), .unset, .unset, .unset] [(.ref b2), (.ref b1)])) _
        refine st19.trans ?_
        show Steps p.tables e below (T19.setTop (mkF m 54 #[.val (.long q0), .second, .val (.long q1), .second, .val (.int p2), .val (.long (q0 &&& (9223372036854775807 : Int64))), .second, .val (.long y), .second, .val (.ref b1), .val (.ref b2), .unset, .unset, .unset] [(.ref b2)])) _
        refine XS.astore X19.here hx rfl (hb hby at_54) rfl rfl (l' := #[.val (.long q0), .second, .val (.long q1), .second, .val (.int p2), .val (.long (q0 &&& (9223372036854775807 : Int64))), .second, .val (.long y), .second, .val (.ref b1), .val (.ref b2), .val (.ref b2), .unset, .unset]) rfl ?_
        show Steps p.tables e below (T19.setTop (mkF m 56 #[.val (.long q0), .second, .val (.long q1), .second, .val (.int p2), .val (.long (q0 &&& (9223372036854775807 : Int64))), .second, .val (.long y), .second, .val (.ref b1), .val (.ref b2), .val (.ref b2), .unset, .unset] [])) _
        refine XS.lload X19.here hx rfl (hb hby at_56) rfl ?_
        show Steps p.tables e below (T19.setTop (mkF m 58 #[.val (.long q0), .second, .val (.long q1), .second, .val (.int p2), .val (.long (q0 &&& (9223372036854775807 : Int64))), .second, .val (.long y), .second, .val (.ref b1), .val (.ref b2), .val (.ref b2), .unset, .unset] [(.long (q0 &&& (9223372036854775807 : Int64)))])) _
        refine XS.lload X19.here hx rfl (hb hby at_58) rfl ?_
        show Steps p.tables e below (T19.setTop (mkF m 60 #[.val (.long q0), .second, .val (.long q1), .second, .val (.int p2), .val (.long (q0 &&& (9223372036854775807 : Int64))), .second, .val (.long y), .second, .val (.ref b1), .val (.ref b2), .val (.ref b2), .unset, .unset] [(.long y), (.long (q0 &&& (9223372036854775807 : Int64)))])) _
        refine st20 _ ?_
        show Steps p.tables e below (T20.setTop (mkF m 63 #[.val (.long q0), .second, .val (.long q1), .second, .val (.int p2), .val (.long (q0 &&& (9223372036854775807 : Int64))), .second, .val (.long y), .second, .val (.ref b1), .val (.ref b2), .val (.ref b2), .unset, .unset] [(.long (B5_0 (q0 &&& (9223372036854775807 : Int64)) y))])) _
        refine XS.lstore X20.here hx rfl (hb hby at_63) rfl (l' := #[.val (.long q0), .second, .val (.long q1), .second, .val (.int p2), .val (.long (q0 &&& (9223372036854775807 : Int64))), .second, .val (.long y), .second, .val (.ref b1), .val (.ref b2), .val (.ref b2), .val (.long (B5_0 (q0 &&& (9223372036854775807 : Int64)) y)), .second]) rfl ?_
        show Steps p.tables e below (T20.setTop (mkF m 65 #[.val (.long q0), .second, .val (.long q1), .second, .val (.int p2), .val (.long (q0 &&& (9223372036854775807 : Int64))), .second, .val (.long y), .second, .val (.ref b1), .val (.ref b2), .val (.ref b2), .val (.long (B5_0 (q0 &&& (9223372036854775807 : Int64)) y)), .second] [])) _
        refine XS.aload X20.here hx rfl (hb hby at_65) rfl rfl ?_
        show Steps p.tables e below (T20.setTop (mkF m 67 #[.val (.long q0), .second, .val (.long q1), .second, .val (.int p2), .val (.long (q0 &&& (9223372036854775807 : Int64))), .second, .val (.long y), .second, .val (.ref b1), .val (.ref b2), .val (.ref b2), .val (.long (B5_0 (q0 &&& (9223372036854775807 : Int64)) y)), .second] [(.ref b2)])) _
        refine st21.trans ?_
        show Steps p.tables e below (T21.setTop (mkF m 70 #[.val (.long q0), .second, .val (.long q1), .second, .val (.int p2), .val (.long (q0 &&& (9223372036854775807 : Int64))), .second, .val (.long y), .second, .val (.ref b1), .val (.ref b2), .val (.ref b2), .val (.long (B5_0 (q0 &&& (9223372036854775807 : Int64)) y)), .second] [(.long y)])) _
        refine XS.lload X21.here hx rfl (hb hby at_70) rfl ?_
        show Steps p.tables e below (T21.setTop (mkF m 72 #[.val (.long q0), .second, .val (.long q1), .second, .val (.int p2), .val (.long (q0 &&& (9223372036854775807 : Int64))), .second, .val (.long y), .second, .val (.ref b1), .val (.ref b2), .val (.ref b2), .val (.long (B5_0 (q0 &&& (9223372036854775807 : Int64)) y)), .second] [(.long (B5_0 (q0 &&& (9223372036854775807 : Int64)) y)), (.long y)])) _
        refine XS.lcmp X21.here hx rfl (hb hby at_72) rfl ?_
        show Steps p.tables e below (T21.setTop (mkF m 73 #[.val (.long q0), .second, .val (.long q1), .second, .val (.int p2), .val (.long (q0 &&& (9223372036854775807 : Int64))), .second, .val (.long y), .second, .val (.ref b1), .val (.ref b2), .val (.ref b2), .val (.long (B5_0 (q0 &&& (9223372036854775807 : Int64)) y)), .second] [(.int (lcmpW y (B5_0 (q0 &&& (9223372036854775807 : Int64)) y)))])) _
        refine XS.ifYes X21.here hx rfl (pc0 := 73) (pc' := 78) rfl (hb hby at_73) rfl ((if0 _ _).trans (teq (own_eq0.mpr (own_min1 hyx).symm)).1) (by decide) (by decide) ?_
        show Steps p.tables e below (T21.setTop (mkF m 78 #[.val (.long q0), .second, .val (.long q1), .second, .val (.int p2), .val (.long (q0 &&& (9223372036854775807 : Int64))), .second, .val (.long y), .second, .val (.ref b1), .val (.ref b2), .val (.ref b2), .val (.long (B5_0 (q0 &&& (9223372036854775807 : Int64)) y)), .second] [])) _
        refine XS.lload X21.here hx rfl (hb hby at_78) rfl ?_
        show Steps p.tables e below (T21.setTop (mkF m 80 #[.val (.long q0), .second, .val (.long q1), .second, .val (.int p2), .val (.long (q0 &&& (9223372036854775807 : Int64))), .second, .val (.long y), .second, .val (.ref b1), .val (.ref b2), .val (.ref b2), .val (.long (B5_0 (q0 &&& (9223372036854775807 : Int64)) y)), .second] [(.long y)])) _
        refine XS.lload X21.here hx rfl (hb hby at_80) rfl ?_
        show Steps p.tables e below (T21.setTop (mkF m 82 #[.val (.long q0), .second, .val (.long q1), .second, .val (.int p2), .val (.long (q0 &&& (9223372036854775807 : Int64))), .second, .val (.long y), .second, .val (.ref b1), .val (.ref b2), .val (.ref b2), .val (.long (B5_0 (q0 &&& (9223372036854775807 : Int64)) y)), .second] [(.long (q0 &&& (9223372036854775807 : Int64))), (.long y)])) _
        refine XS.lcmp X21.here hx rfl (hb hby at_82) rfl ?_
        show Steps p.tables e below (T21.setTop (mkF m 83 #[.val (.long q0), .second, .val (.long q1), .second, .val (.int p2), .val (.long (q0 &&& (9223372036854775807 : Int64))), .second, .val (.long y), .second, .val (.ref b1), .val (.ref b2), .val (.ref b2), .val (.long (B5_0 (q0 &&& (9223372036854775807 : Int64)) y)), .second] [(.int (lcmpW y (q0 &&& (9223372036854775807 : Int64))))])) _
        refine XS.ifNo X21.here hx rfl (hb hby at_83) rfl ((if0 _ _).trans (tlt (own_lt.mpr hyx)).2.1) ?_
        show Steps p.tables e below (T21.setTop (mkF m 86 #[.val (.long q0), .second, .val (.long q1), .second, .val (.int p2), .val (.long (q0 &&& (9223372036854775807 : Int64))), .second, .val (.long y), .second, .val (.ref b1), .val (.ref b2), .val (.ref b2), .val (.long (B5_0 (q0 &&& (9223372036854775807 : Int64)) y)), .second] [])) _
        refine XS.aload X21.here hx rfl (hb hby at_86) rfl rfl ?_
        show Steps p.tables e below (T21.setTop (mkF m 88 #[.val (.long q0), .second, .val (.long q1), .second, .val (.int p2), .val (.long (q0 &&& (9223372036854775807 : Int64))), .second, .val (.long y), .second, .val (.ref b1), .val (.ref b2), .val (.ref b2), .val (.long (B5_0 (q0 &&& (9223372036854775807 : Int64)) y)), .second] [(.ref b2)])) _
        refine XS.aload X21.here hx rfl (hb hby at_88) rfl rfl ?_
        show Steps p.tables e below (T21.setTop (mkF m 90 #[.val (.long q0), .second, .val (.long q1), .second, .val (.int p2), .val (.long (q0 &&& (9223372036854775807 : Int64))), .second, .val (.long y), .second, .val (.ref b1), .val (.ref b2), .val (.ref b2), .val (.long (B5_0 (q0 &&& (9223372036854775807 : Int64)) y)), .second] [(.ref b2), (.ref b2)])) _
        refine Jvm.RoadKit.acmp (g := (mkF m 90 #[.val (.long q0), .second, .val (.long q1), .second, .val (.int p2), .val (.long (q0 &&& (9223372036854775807 : Int64))), .second, .val (.long y), .second, .val (.ref b1), .val (.ref b2), .val (.ref b2), .val (.long (B5_0 (q0 &&& (9223372036854775807 : Int64)) y)), .second] [(.ref b2), (.ref b2)])) X21 hx rfl rfl rfl (pc0 := 90) (pc' := 93) (same := true) rfl (hb hby at_90) rfl (decide_eq_true rfl) (by decide) (by decide) ?_
        show Steps p.tables e below (T21.setTop (mkF m 93 #[.val (.long q0), .second, .val (.long q1), .second, .val (.int p2), .val (.long (q0 &&& (9223372036854775807 : Int64))), .second, .val (.long y), .second, .val (.ref b1), .val (.ref b2), .val (.ref b2), .val (.long (B5_0 (q0 &&& (9223372036854775807 : Int64)) y)), .second] [])) _
        refine XS.iconst X21.here hx rfl (hb hby at_93) ?_
        show Steps p.tables e below (T21.setTop (mkF m 94 #[.val (.long q0), .second, .val (.long q1), .second, .val (.int p2), .val (.long (q0 &&& (9223372036854775807 : Int64))), .second, .val (.long y), .second, .val (.ref b1), .val (.ref b2), .val (.ref b2), .val (.long (B5_0 (q0 &&& (9223372036854775807 : Int64)) y)), .second] [(.int (1 : Int32))])) _
        refine XS.goto X21.here hx rfl (pc0 := 94) (pc' := 98) rfl (hb hby at_94) (by decide) (by decide) ?_
        show Steps p.tables e below (T21.setTop (mkF m 98 #[.val (.long q0), .second, .val (.long q1), .second, .val (.int p2), .val (.long (q0 &&& (9223372036854775807 : Int64))), .second, .val (.long y), .second, .val (.ref b1), .val (.ref b2), .val (.ref b2), .val (.long (B5_0 (q0 &&& (9223372036854775807 : Int64)) y)), .second] [(.int (1 : Int32))])) _
        exact k
      exact own_retN X21 hx (t := .boolean) hret (by simp) hlk (hb hby at_98) (⟨rfl, N21⟩) (by decide) (by decide)
    · obtain ⟨cq22, kq22, q22a, q22b, q22c⟩ := isOf hZ rfl A9_16
      obtain ⟨_, _, ⟨T22, L22, k22, n22⟩, -, X22, ⟨Lc22, hQ22, l22, y22, z22⟩, st22⟩ := X15.virtualBack hx (y := (⟨"com/example/spillway/spillway/model/Money", "min", "(Lcom/example/spillway/spillway/model/Money;)Lcom/example/spillway/spillway/model/Money;"⟩ : MethodName)) (z := (⟨"com/example/spillway/spillway/model/Money", "min", "(Lcom/example/spillway/spillway/model/Money;)Lcom/example/spillway/spillway/model/Money;"⟩ : MethodName)) hown (mvT hZ (hw _ (List.mem_of_getElem? (i := 17) rfl))) (mvT hZ (hw _ (List.mem_of_getElem? (i := 18) rfl))) (notFace_of_selects (args := #[]) (mvT hZ (hw _ (List.mem_of_getElem? (i := 20) rfl)))) (mvT hZ (hw _ (List.mem_of_getElem? (i := 20) rfl))) (mvT hZ (hw _ (List.mem_of_getElem? (i := 19) rfl))) (by decide) (backOf (W := 0) (rm4 l Z a0 hw [] b1 b2 (q0 &&& (9223372036854775807 : Int64)) y b1 T15.heap n0 zh15 FL10_17 FL15 (Or.inr ⟨hyx, rfl⟩)) hZ (hw _ (List.mem_of_getElem? (i := 21) rfl)) (hw _ (List.mem_of_getElem? (i := 3) rfl)) (by decide) (by decide)) q22a q22c (g := (mkF m 51 #[.val (.long q0), .second, .val (.long q1), .second, .val (.int p2), .val (.long (q0 &&& (9223372036854775807 : Int64))), .second, .val (.long y), .second, .val (.ref b1), .val (.ref b2), .unset, .unset, .unset] [(.ref b2), (.ref b1)])) rfl (by rw [hml]; rfl) (Steps.refl _) (argsL := [(.ref b2)]) (rest := []) (lenOf pd_2 rfl) rfl (by show 2 * 0 + _ ≤ _; exact Nat.le_of_eq rfl) (hb hby at_51) (fun _ _ => ⟨rfl, rfl, (by decide : 2 + 0 ≤ _), (by decide : 2 + 0 ≤ _)⟩)
      dsimp only [Pt.U, Pt.locs, Pt.cells, Pt.slots] at X22 l22 y22 z22 st22 hQ22
      subst l22 y22 z22
      obtain ⟨rfl, N22q, hh22⟩ := hQ22
      have N22 := Fr.app N15 N22q
      obtain ⟨_, _, ⟨T23, L23, k23, n23⟩, -, X23, ⟨Lc23, hQ23, l23, y23, z23⟩, st23⟩ := Jvm.LawKit.callS X22 hx (y := (⟨"java/lang/Math", "min", "(JJ)J"⟩ : MethodName)) hown (mvT hZ (hw _ (List.mem_of_getElem? (i := 22) rfl))) (mvT hZ (hw _ (List.mem_of_getElem? (i := 23) rfl))) (mvT hZ (hw _ (List.mem_of_getElem? (i := 24) rfl))) (mvT hZ (hw _ (List.mem_of_getElem? (i := 25) rfl))) (by decide) (backOf (W := 0) (rm5 l Z a0 hw [] (q0 &&& (9223372036854775807 : Int64)) y T15.heap n0 zh15) hZ (hw _ (List.mem_of_getElem? (i := 25) rfl)) (hw _ (List.mem_of_getElem? (i := 24) rfl)) (by decide) (by decide)) (g := (mkF m 60 #[.val (.long q0), .second, .val (.long q1), .second, .val (.int p2), .val (.long (q0 &&& (9223372036854775807 : Int64))), .second, .val (.long y), .second, .val (.ref b1), .val (.ref b2), .val (.ref b1), .unset, .unset] [(.long y), (.long (q0 &&& (9223372036854775807 : Int64)))])) rfl (by rw [hml]; rfl) (argsL := [(.long (q0 &&& (9223372036854775807 : Int64))), (.long y)]) (rest := []) (lenOf pd_3 rfl) rfl (by show 2 * 0 + _ ≤ _; exact Nat.le_of_eq rfl) (hb hby at_60) (fun _ _ => ⟨rfl, hh22, (by decide : 2 + 0 ≤ _), (by decide : 2 + 0 ≤ _)⟩)
      dsimp only [Pt.U, Pt.locs, Pt.cells, Pt.slots] at X23 l23 y23 z23 st23 hQ23
      subst l23 y23 z23
      obtain ⟨rfl, N23q, hh23⟩ := hQ23
      have N23 := Fr.app N22 N23q
      obtain ⟨cq24, kq24, q24a, q24b, q24c⟩ := isOf hZ hh23 A9_16
      obtain ⟨_, _, ⟨T24, L24, k24, n24⟩, -, X24, ⟨Lc24, hQ24, l24, y24, z24⟩, st24⟩ := X23.virtualBack hx (y := (⟨"com/example/spillway/spillway/model/Money", "cents", "()J"⟩ : MethodName)) (z := (⟨"com/example/spillway/spillway/model/Money", "cents", "()J"⟩ : MethodName)) hown (mvT hZ (hw _ (List.mem_of_getElem? (i := 26) rfl))) (mvT hZ (hw _ (List.mem_of_getElem? (i := 27) rfl))) (notFace_of_selects (args := #[]) (mvT hZ (hw _ (List.mem_of_getElem? (i := 29) rfl)))) (mvT hZ (hw _ (List.mem_of_getElem? (i := 29) rfl))) (mvT hZ (hw _ (List.mem_of_getElem? (i := 28) rfl))) (by decide) (backOf (W := 0) (rm6 l Z a0 hw [] b1 (q0 &&& (9223372036854775807 : Int64)) T15.heap n0 zh15 FL10_17) hZ (hw _ (List.mem_of_getElem? (i := 30) rfl)) (hw _ (List.mem_of_getElem? (i := 3) rfl)) (by decide) (by decide)) q24a q24c (g := (mkF m 67 #[.val (.long q0), .second, .val (.long q1), .second, .val (.int p2), .val (.long (q0 &&& (9223372036854775807 : Int64))), .second, .val (.long y), .second, .val (.ref b1), .val (.ref b2), .val (.ref b1), .val (.long (B5_0 (q0 &&& (9223372036854775807 : Int64)) y)), .second] [(.ref b1)])) rfl (by rw [hml]; rfl) (Steps.refl _) (argsL := []) (rest := []) (lenOf pd_4 rfl) rfl (by show 2 * 0 + _ ≤ _; exact Nat.le_of_eq rfl) (hb hby at_67) (fun _ _ => ⟨rfl, hh23, (by decide : 2 + 0 ≤ _), (by decide : 2 + 0 ≤ _)⟩)
      dsimp only [Pt.U, Pt.locs, Pt.cells, Pt.slots] at X24 l24 y24 z24 st24 hQ24
      subst l24 y24 z24
      obtain ⟨rfl, N24q, hh24⟩ := hQ24
      have N24 := Fr.app N23 N24q
      refine own_Go.mono (T' := T24) (f' := (mkF m 111 #[.val (.long q0), .second, .val (.long q1), .second, .val (.int p2), .val (.long (q0 &&& (9223372036854775807 : Int64))), .second, .val (.long y), .second, .val (.ref b1), .val (.ref b2), .val (.ref b1), .val (.long (B5_0 (q0 &&& (9223372036854775807 : Int64)) y)), .second] [(.int (1 : Int32))])) (fun t k => ?_) ?_
      · show Steps p.tables e below (T15.setTop (mkF m 51 #[.val (.long q0), .second, .val (.long q1), .second, .val (.int p2), .val (.long (q0 &&& (9223372036854775807 : Int64))), .second, .val (.long y), .second, .val (.ref b1), .val (.ref b2), .unset, .unset, .unset] [(.ref b2), (.ref b1)])) _
        refine st22.trans ?_
        show Steps p.tables e below (T22.setTop (mkF m 54 #[.val (.long q0), .second, .val (.long q1), .second, .val (.int p2), .val (.long (q0 &&& (9223372036854775807 : Int64))), .second, .val (.long y), .second, .val (.ref b1), .val (.ref b2), .unset, .unset, .unset] [(.ref b1)])) _
        refine XS.astore X22.here hx rfl (hb hby at_54) rfl rfl (l' := #[.val (.long q0), .second, .val (.long q1), .second, .val (.int p2), .val (.long (q0 &&& (9223372036854775807 : Int64))), .second, .val (.long y), .second, .val (.ref b1), .val (.ref b2), .val (.ref b1), .unset, .unset]) rfl ?_
        show Steps p.tables e below (T22.setTop (mkF m 56 #[.val (.long q0), .second, .val (.long q1), .second, .val (.int p2), .val (.long (q0 &&& (9223372036854775807 : Int64))), .second, .val (.long y), .second, .val (.ref b1), .val (.ref b2), .val (.ref b1), .unset, .unset] [])) _
        refine XS.lload X22.here hx rfl (hb hby at_56) rfl ?_
        show Steps p.tables e below (T22.setTop (mkF m 58 #[.val (.long q0), .second, .val (.long q1), .second, .val (.int p2), .val (.long (q0 &&& (9223372036854775807 : Int64))), .second, .val (.long y), .second, .val (.ref b1), .val (.ref b2), .val (.ref b1), .unset, .unset] [(.long (q0 &&& (9223372036854775807 : Int64)))])) _
        refine XS.lload X22.here hx rfl (hb hby at_58) rfl ?_
        show Steps p.tables e below (T22.setTop (mkF m 60 #[.val (.long q0), .second, .val (.long q1), .second, .val (.int p2), .val (.long (q0 &&& (9223372036854775807 : Int64))), .second, .val (.long y), .second, .val (.ref b1), .val (.ref b2), .val (.ref b1), .unset, .unset] [(.long y), (.long (q0 &&& (9223372036854775807 : Int64)))])) _
        refine st23 _ ?_
        show Steps p.tables e below (T23.setTop (mkF m 63 #[.val (.long q0), .second, .val (.long q1), .second, .val (.int p2), .val (.long (q0 &&& (9223372036854775807 : Int64))), .second, .val (.long y), .second, .val (.ref b1), .val (.ref b2), .val (.ref b1), .unset, .unset] [(.long (B5_0 (q0 &&& (9223372036854775807 : Int64)) y))])) _
        refine XS.lstore X23.here hx rfl (hb hby at_63) rfl (l' := #[.val (.long q0), .second, .val (.long q1), .second, .val (.int p2), .val (.long (q0 &&& (9223372036854775807 : Int64))), .second, .val (.long y), .second, .val (.ref b1), .val (.ref b2), .val (.ref b1), .val (.long (B5_0 (q0 &&& (9223372036854775807 : Int64)) y)), .second]) rfl ?_
        show Steps p.tables e below (T23.setTop (mkF m 65 #[.val (.long q0), .second, .val (.long q1), .second, .val (.int p2), .val (.long (q0 &&& (9223372036854775807 : Int64))), .second, .val (.long y), .second, .val (.ref b1), .val (.ref b2), .val (.ref b1), .val (.long (B5_0 (q0 &&& (9223372036854775807 : Int64)) y)), .second] [])) _
        refine XS.aload X23.here hx rfl (hb hby at_65) rfl rfl ?_
        show Steps p.tables e below (T23.setTop (mkF m 67 #[.val (.long q0), .second, .val (.long q1), .second, .val (.int p2), .val (.long (q0 &&& (9223372036854775807 : Int64))), .second, .val (.long y), .second, .val (.ref b1), .val (.ref b2), .val (.ref b1), .val (.long (B5_0 (q0 &&& (9223372036854775807 : Int64)) y)), .second] [(.ref b1)])) _
        refine st24.trans ?_
        show Steps p.tables e below (T24.setTop (mkF m 70 #[.val (.long q0), .second, .val (.long q1), .second, .val (.int p2), .val (.long (q0 &&& (9223372036854775807 : Int64))), .second, .val (.long y), .second, .val (.ref b1), .val (.ref b2), .val (.ref b1), .val (.long (B5_0 (q0 &&& (9223372036854775807 : Int64)) y)), .second] [(.long (q0 &&& (9223372036854775807 : Int64)))])) _
        refine XS.lload X24.here hx rfl (hb hby at_70) rfl ?_
        show Steps p.tables e below (T24.setTop (mkF m 72 #[.val (.long q0), .second, .val (.long q1), .second, .val (.int p2), .val (.long (q0 &&& (9223372036854775807 : Int64))), .second, .val (.long y), .second, .val (.ref b1), .val (.ref b2), .val (.ref b1), .val (.long (B5_0 (q0 &&& (9223372036854775807 : Int64)) y)), .second] [(.long (B5_0 (q0 &&& (9223372036854775807 : Int64)) y)), (.long (q0 &&& (9223372036854775807 : Int64)))])) _
        refine XS.lcmp X24.here hx rfl (hb hby at_72) rfl ?_
        show Steps p.tables e below (T24.setTop (mkF m 73 #[.val (.long q0), .second, .val (.long q1), .second, .val (.int p2), .val (.long (q0 &&& (9223372036854775807 : Int64))), .second, .val (.long y), .second, .val (.ref b1), .val (.ref b2), .val (.ref b1), .val (.long (B5_0 (q0 &&& (9223372036854775807 : Int64)) y)), .second] [(.int (lcmpW (q0 &&& (9223372036854775807 : Int64)) (B5_0 (q0 &&& (9223372036854775807 : Int64)) y)))])) _
        refine XS.ifYes X24.here hx rfl (pc0 := 73) (pc' := 78) rfl (hb hby at_73) rfl ((if0 _ _).trans (teq (own_eq0.mpr (own_min2 hyx).symm)).1) (by decide) (by decide) ?_
        show Steps p.tables e below (T24.setTop (mkF m 78 #[.val (.long q0), .second, .val (.long q1), .second, .val (.int p2), .val (.long (q0 &&& (9223372036854775807 : Int64))), .second, .val (.long y), .second, .val (.ref b1), .val (.ref b2), .val (.ref b1), .val (.long (B5_0 (q0 &&& (9223372036854775807 : Int64)) y)), .second] [])) _
        refine XS.lload X24.here hx rfl (hb hby at_78) rfl ?_
        show Steps p.tables e below (T24.setTop (mkF m 80 #[.val (.long q0), .second, .val (.long q1), .second, .val (.int p2), .val (.long (q0 &&& (9223372036854775807 : Int64))), .second, .val (.long y), .second, .val (.ref b1), .val (.ref b2), .val (.ref b1), .val (.long (B5_0 (q0 &&& (9223372036854775807 : Int64)) y)), .second] [(.long y)])) _
        refine XS.lload X24.here hx rfl (hb hby at_80) rfl ?_
        show Steps p.tables e below (T24.setTop (mkF m 82 #[.val (.long q0), .second, .val (.long q1), .second, .val (.int p2), .val (.long (q0 &&& (9223372036854775807 : Int64))), .second, .val (.long y), .second, .val (.ref b1), .val (.ref b2), .val (.ref b1), .val (.long (B5_0 (q0 &&& (9223372036854775807 : Int64)) y)), .second] [(.long (q0 &&& (9223372036854775807 : Int64))), (.long y)])) _
        refine XS.lcmp X24.here hx rfl (hb hby at_82) rfl ?_
        show Steps p.tables e below (T24.setTop (mkF m 83 #[.val (.long q0), .second, .val (.long q1), .second, .val (.int p2), .val (.long (q0 &&& (9223372036854775807 : Int64))), .second, .val (.long y), .second, .val (.ref b1), .val (.ref b2), .val (.ref b1), .val (.long (B5_0 (q0 &&& (9223372036854775807 : Int64)) y)), .second] [(.int (lcmpW y (q0 &&& (9223372036854775807 : Int64))))])) _
        refine XS.ifYes X24.here hx rfl (pc0 := 83) (pc' := 99) rfl (hb hby at_83) rfl ((if0 _ _).trans (flt (mt own_lt.mp hyx)).2.1) (by decide) (by decide) ?_
        show Steps p.tables e below (T24.setTop (mkF m 99 #[.val (.long q0), .second, .val (.long q1), .second, .val (.int p2), .val (.long (q0 &&& (9223372036854775807 : Int64))), .second, .val (.long y), .second, .val (.ref b1), .val (.ref b2), .val (.ref b1), .val (.long (B5_0 (q0 &&& (9223372036854775807 : Int64)) y)), .second] [])) _
        refine XS.aload X24.here hx rfl (hb hby at_99) rfl rfl ?_
        show Steps p.tables e below (T24.setTop (mkF m 101 #[.val (.long q0), .second, .val (.long q1), .second, .val (.int p2), .val (.long (q0 &&& (9223372036854775807 : Int64))), .second, .val (.long y), .second, .val (.ref b1), .val (.ref b2), .val (.ref b1), .val (.long (B5_0 (q0 &&& (9223372036854775807 : Int64)) y)), .second] [(.ref b1)])) _
        refine XS.aload X24.here hx rfl (hb hby at_101) rfl rfl ?_
        show Steps p.tables e below (T24.setTop (mkF m 103 #[.val (.long q0), .second, .val (.long q1), .second, .val (.int p2), .val (.long (q0 &&& (9223372036854775807 : Int64))), .second, .val (.long y), .second, .val (.ref b1), .val (.ref b2), .val (.ref b1), .val (.long (B5_0 (q0 &&& (9223372036854775807 : Int64)) y)), .second] [(.ref b1), (.ref b1)])) _
        refine Jvm.RoadKit.acmp (g := (mkF m 103 #[.val (.long q0), .second, .val (.long q1), .second, .val (.int p2), .val (.long (q0 &&& (9223372036854775807 : Int64))), .second, .val (.long y), .second, .val (.ref b1), .val (.ref b2), .val (.ref b1), .val (.long (B5_0 (q0 &&& (9223372036854775807 : Int64)) y)), .second] [(.ref b1), (.ref b1)])) X24 hx rfl rfl rfl (pc0 := 103) (pc' := 106) (same := true) rfl (hb hby at_103) rfl (decide_eq_true rfl) (by decide) (by decide) ?_
        show Steps p.tables e below (T24.setTop (mkF m 106 #[.val (.long q0), .second, .val (.long q1), .second, .val (.int p2), .val (.long (q0 &&& (9223372036854775807 : Int64))), .second, .val (.long y), .second, .val (.ref b1), .val (.ref b2), .val (.ref b1), .val (.long (B5_0 (q0 &&& (9223372036854775807 : Int64)) y)), .second] [])) _
        refine XS.iconst X24.here hx rfl (hb hby at_106) ?_
        show Steps p.tables e below (T24.setTop (mkF m 107 #[.val (.long q0), .second, .val (.long q1), .second, .val (.int p2), .val (.long (q0 &&& (9223372036854775807 : Int64))), .second, .val (.long y), .second, .val (.ref b1), .val (.ref b2), .val (.ref b1), .val (.long (B5_0 (q0 &&& (9223372036854775807 : Int64)) y)), .second] [(.int (1 : Int32))])) _
        refine XS.goto X24.here hx rfl (pc0 := 107) (pc' := 111) rfl (hb hby at_107) (by decide) (by decide) ?_
        show Steps p.tables e below (T24.setTop (mkF m 111 #[.val (.long q0), .second, .val (.long q1), .second, .val (.int p2), .val (.long (q0 &&& (9223372036854775807 : Int64))), .second, .val (.long y), .second, .val (.ref b1), .val (.ref b2), .val (.ref b1), .val (.long (B5_0 (q0 &&& (9223372036854775807 : Int64)) y)), .second] [(.int (1 : Int32))])) _
        exact k
      exact own_retN X24 hx (t := .boolean) hret (by simp) hlk (hb hby at_111) (⟨rfl, N24⟩) (by decide) (by decide)
  refine own_Go.mono (T' := s₁) (f' := (mkF m 18 #[.val (.long q0), .second, .val (.long q1), .second, .val (.int p2), .val (.long (q0 &&& (9223372036854775807 : Int64))), .second, .val (.long (q1 &&& (9223372036854775807 : Int64))), .second, .unset, .unset, .unset, .unset, .unset] [(.int (p2 &&& (1 : Int32)))])) (fun t k => ?_) ?_
  · show Steps p.tables e below (s₁.setTop (mkF m 0 #[.val (.long q0), .second, .val (.long q1), .second, .val (.int p2), .unset, .unset, .unset, .unset, .unset, .unset, .unset, .unset, .unset] [])) _
    refine XS.lloadN X0.here hx rfl (hb hby at_0) rfl ?_
    show Steps p.tables e below (s₁.setTop (mkF m 1 #[.val (.long q0), .second, .val (.long q1), .second, .val (.int p2), .unset, .unset, .unset, .unset, .unset, .unset, .unset, .unset, .unset] [(.long q0)])) _
    refine X0.ldc2Long hx hown (mvT hZ (hw _ (List.mem_of_getElem? (i := 0) rfl))) (g := (mkF m 1 #[.val (.long q0), .second, .val (.long q1), .second, .val (.int p2), .unset, .unset, .unset, .unset, .unset, .unset, .unset, .unset, .unset] [(.long q0)])) rfl (hb hby at_1) _ ?_
    show Steps p.tables e below (s₁.setTop (mkF m 4 #[.val (.long q0), .second, .val (.long q1), .second, .val (.int p2), .unset, .unset, .unset, .unset, .unset, .unset, .unset, .unset, .unset] [(.long (9223372036854775807 : Int64)), (.long q0)])) _
    refine XS.land X0.here hx rfl (hb hby at_4) rfl ?_
    show Steps p.tables e below (s₁.setTop (mkF m 5 #[.val (.long q0), .second, .val (.long q1), .second, .val (.int p2), .unset, .unset, .unset, .unset, .unset, .unset, .unset, .unset, .unset] [(.long (q0 &&& (9223372036854775807 : Int64)))])) _
    refine XS.lstore X0.here hx rfl (hb hby at_5) rfl (l' := #[.val (.long q0), .second, .val (.long q1), .second, .val (.int p2), .val (.long (q0 &&& (9223372036854775807 : Int64))), .second, .unset, .unset, .unset, .unset, .unset, .unset, .unset]) rfl ?_
    show Steps p.tables e below (s₁.setTop (mkF m 7 #[.val (.long q0), .second, .val (.long q1), .second, .val (.int p2), .val (.long (q0 &&& (9223372036854775807 : Int64))), .second, .unset, .unset, .unset, .unset, .unset, .unset, .unset] [])) _
    refine XS.lloadN X0.here hx rfl (hb hby at_7) rfl ?_
    show Steps p.tables e below (s₁.setTop (mkF m 8 #[.val (.long q0), .second, .val (.long q1), .second, .val (.int p2), .val (.long (q0 &&& (9223372036854775807 : Int64))), .second, .unset, .unset, .unset, .unset, .unset, .unset, .unset] [(.long q1)])) _
    refine X0.ldc2Long hx hown (mvT hZ (hw _ (List.mem_of_getElem? (i := 0) rfl))) (g := (mkF m 8 #[.val (.long q0), .second, .val (.long q1), .second, .val (.int p2), .val (.long (q0 &&& (9223372036854775807 : Int64))), .second, .unset, .unset, .unset, .unset, .unset, .unset, .unset] [(.long q1)])) rfl (hb hby at_8) _ ?_
    show Steps p.tables e below (s₁.setTop (mkF m 11 #[.val (.long q0), .second, .val (.long q1), .second, .val (.int p2), .val (.long (q0 &&& (9223372036854775807 : Int64))), .second, .unset, .unset, .unset, .unset, .unset, .unset, .unset] [(.long (9223372036854775807 : Int64)), (.long q1)])) _
    refine XS.land X0.here hx rfl (hb hby at_11) rfl ?_
    show Steps p.tables e below (s₁.setTop (mkF m 12 #[.val (.long q0), .second, .val (.long q1), .second, .val (.int p2), .val (.long (q0 &&& (9223372036854775807 : Int64))), .second, .unset, .unset, .unset, .unset, .unset, .unset, .unset] [(.long (q1 &&& (9223372036854775807 : Int64)))])) _
    refine XS.lstore X0.here hx rfl (hb hby at_12) rfl (l' := #[.val (.long q0), .second, .val (.long q1), .second, .val (.int p2), .val (.long (q0 &&& (9223372036854775807 : Int64))), .second, .val (.long (q1 &&& (9223372036854775807 : Int64))), .second, .unset, .unset, .unset, .unset, .unset]) rfl ?_
    show Steps p.tables e below (s₁.setTop (mkF m 14 #[.val (.long q0), .second, .val (.long q1), .second, .val (.int p2), .val (.long (q0 &&& (9223372036854775807 : Int64))), .second, .val (.long (q1 &&& (9223372036854775807 : Int64))), .second, .unset, .unset, .unset, .unset, .unset] [])) _
    refine XS.iload X0.here hx rfl (hb hby at_14) rfl ?_
    show Steps p.tables e below (s₁.setTop (mkF m 16 #[.val (.long q0), .second, .val (.long q1), .second, .val (.int p2), .val (.long (q0 &&& (9223372036854775807 : Int64))), .second, .val (.long (q1 &&& (9223372036854775807 : Int64))), .second, .unset, .unset, .unset, .unset, .unset] [(.int p2)])) _
    refine XS.iconst X0.here hx rfl (hb hby at_16) ?_
    show Steps p.tables e below (s₁.setTop (mkF m 17 #[.val (.long q0), .second, .val (.long q1), .second, .val (.int p2), .val (.long (q0 &&& (9223372036854775807 : Int64))), .second, .val (.long (q1 &&& (9223372036854775807 : Int64))), .second, .unset, .unset, .unset, .unset, .unset] [(.int (1 : Int32)), (.int p2)])) _
    refine XS.iand X0.here hx rfl (hb hby at_17) rfl ?_
    show Steps p.tables e below (s₁.setTop (mkF m 18 #[.val (.long q0), .second, .val (.long q1), .second, .val (.int p2), .val (.long (q0 &&& (9223372036854775807 : Int64))), .second, .val (.long (q1 &&& (9223372036854775807 : Int64))), .second, .unset, .unset, .unset, .unset, .unset] [(.int (p2 &&& (1 : Int32)))])) _
    exact k
  by_cases c18_25 : (p2 &&& (1 : Int32)) = (0 : Int32)
  · refine own_Go.mono (T' := s₁) (f' := (mkF m 25 #[.val (.long q0), .second, .val (.long q1), .second, .val (.int p2), .val (.long (q0 &&& (9223372036854775807 : Int64))), .second, .val (.long (q1 &&& (9223372036854775807 : Int64))), .second, .unset, .unset, .unset, .unset, .unset] [])) (fun t k => ?_) ?_
    · show Steps p.tables e below (s₁.setTop (mkF m 18 #[.val (.long q0), .second, .val (.long q1), .second, .val (.int p2), .val (.long (q0 &&& (9223372036854775807 : Int64))), .second, .val (.long (q1 &&& (9223372036854775807 : Int64))), .second, .unset, .unset, .unset, .unset, .unset] [(.int (p2 &&& (1 : Int32)))])) _
      refine XS.ifYes X0.here hx rfl (pc0 := 18) (pc' := 25) rfl (hb hby at_18) rfl ((if0 _ _).trans (teq c18_25).1) (by decide) (by decide) ?_
      show Steps p.tables e below (s₁.setTop (mkF m 25 #[.val (.long q0), .second, .val (.long q1), .second, .val (.int p2), .val (.long (q0 &&& (9223372036854775807 : Int64))), .second, .val (.long (q1 &&& (9223372036854775807 : Int64))), .second, .unset, .unset, .unset, .unset, .unset] [])) _
      exact k
    exact main _ (own_nonneg q1)
  · refine own_Go.mono (T' := s₁) (f' := (mkF m 25 #[.val (.long q0), .second, .val (.long q1), .second, .val (.int p2), .val (.long (q0 &&& (9223372036854775807 : Int64))), .second, .val (.long (q0 &&& (9223372036854775807 : Int64))), .second, .unset, .unset, .unset, .unset, .unset] [])) (fun t k => ?_) ?_
    · show Steps p.tables e below (s₁.setTop (mkF m 18 #[.val (.long q0), .second, .val (.long q1), .second, .val (.int p2), .val (.long (q0 &&& (9223372036854775807 : Int64))), .second, .val (.long (q1 &&& (9223372036854775807 : Int64))), .second, .unset, .unset, .unset, .unset, .unset] [(.int (p2 &&& (1 : Int32)))])) _
      refine XS.ifNo X0.here hx rfl (hb hby at_18) rfl ((if0 _ _).trans (feq c18_25).1) ?_
      show Steps p.tables e below (s₁.setTop (mkF m 21 #[.val (.long q0), .second, .val (.long q1), .second, .val (.int p2), .val (.long (q0 &&& (9223372036854775807 : Int64))), .second, .val (.long (q1 &&& (9223372036854775807 : Int64))), .second, .unset, .unset, .unset, .unset, .unset] [])) _
      refine XS.lload X0.here hx rfl (hb hby at_21) rfl ?_
      show Steps p.tables e below (s₁.setTop (mkF m 23 #[.val (.long q0), .second, .val (.long q1), .second, .val (.int p2), .val (.long (q0 &&& (9223372036854775807 : Int64))), .second, .val (.long (q1 &&& (9223372036854775807 : Int64))), .second, .unset, .unset, .unset, .unset, .unset] [(.long (q0 &&& (9223372036854775807 : Int64)))])) _
      refine XS.lstore X0.here hx rfl (hb hby at_23) rfl (l' := #[.val (.long q0), .second, .val (.long q1), .second, .val (.int p2), .val (.long (q0 &&& (9223372036854775807 : Int64))), .second, .val (.long (q0 &&& (9223372036854775807 : Int64))), .second, .unset, .unset, .unset, .unset, .unset]) rfl ?_
      show Steps p.tables e below (s₁.setTop (mkF m 25 #[.val (.long q0), .second, .val (.long q1), .second, .val (.int p2), .val (.long (q0 &&& (9223372036854775807 : Int64))), .second, .val (.long (q0 &&& (9223372036854775807 : Int64))), .second, .unset, .unset, .unset, .unset, .unset] [])) _
      exact k
    exact main _ (own_nonneg q0)
set_option maxRecDepth 65536 in
set_option maxHeartbeats 40000000 in
theorem own_comes {Post : Tables → Env → Array Value → State → Outcome → State → Prop} (hpost : ∀ tb e args s v u, (limb_1_1.after args s (.returned v) u = true ∧ limb_1_2.after args s (.returned v) u = true) → FrameEnd s (.returned v) u (Jvm.fieldLocs frame_1_writes args s ++ Jvm.arrayLocs frame_1_arrays args s ++ Jvm.staticLocs frame_1_statics s) 16 128 → Post tb e args s (.returned v) u) :
    ArmFor flags0 classFile x code maxLocals ret World_1 tables_1 room_1 Calls_1 rest_1 Pre_1 Post := by
  intro l hfl _ _ p e ha hc hk s m args below hf hA hF happ hP
  obtain ⟨hcalls, hrest, hpre⟩ := hP
  obtain ⟨-, -, -, hnamed, -, -, -, hat⟩ := (Spec.applies_iff hf).mp happ
  obtain ⟨hg, hn⟩ := and_e (Cond.before_iff.mp (show (Jvm.Cond.and given_1 narrow_1).before args s = true from hpre))
  obtain ⟨g0, k0⟩ := and_e hg
  obtain ⟨g1, k1⟩ := and_e k0
  obtain ⟨g2, k2⟩ := and_e k1
  obtain ⟨w0, w1, w2, rfl⟩ : ∃ w0 w1 w2 : Value, args = #[w0, w1, w2] := by
    have hs : args.size = 3 := by simpa [Cond.value, given_1] using g0
    obtain ⟨L⟩ := args
    match L, hs with
    | [w0, w1, w2], _ => exact ⟨w0, w1, w2, rfl⟩
  have hw := fun d (hd : d ∈ tables_1) => atoms_spec (ws := Jvm.Cond.code x code maxLocals ret :: tables_1) hat d (List.mem_cons_of_mem _ hd)
  obtain ⟨i0, ei0⟩ := isL_v g1
  obtain rfl : w0 = (.long i0) := Option.some.inj ei0
  obtain ⟨i1, ei1⟩ := isL_v g2
  obtain rfl : w1 = (.long i1) := Option.some.inj ei1
  obtain ⟨i2, ei2⟩ := is_v k2
  obtain rfl : w2 = (.int i2) := Option.some.inj ei2
  obtain ⟨n, o, h1, h2, h3, vv, L, rfl, ⟨rfl, N⟩, hq⟩ := rm0 l s _ hw tables_1 i0 i1 i2 s.heap s.heap.size (Nat.le_refl _)  p e ha hc hk s m _ below hf ((Spec.applies_iff_loose hf).mp happ).1 ⟨rfl, State.Warmed39.refl s, rfl⟩ trivial
  refine ⟨n, _, h1, h2, h3, hpost _ _ _ _ _ _ ⟨Cond.after_iff.mpr rfl, Cond.after_iff.mpr (eq_i res_at (Term.int_eval (1)) rfl)⟩ ⟨hq.1, hq.2.1, (hq.2.2.sift fun y hy => Or.inr (N y hy)).mono (by decide) (by decide)⟩⟩
theorem main_1_1 : Claimed_1_1 := own_comes fun _ _ _ _ _ _ h hF => ⟨h.1, hF⟩
theorem main_1_2 : Claimed_1_2 := own_comes fun _ _ _ _ _ _ h hF => ⟨h.2, hF⟩
end Jvm.Pilot.@@N@@
namespace Jvm.Pilot.@@N@@
open Jvm Jvm.ClassFile Sem Op Lib Jvm.Free Jvm.Stand Jvm.Pilot.@@N@@.Jvm.D
/-! MADE BY PROGRAM (witnessworld.py) out of the Statement's table words and the real class files: 12 classes; the members and pool entries that the words name. The judged class is class 1, her method 1. -/
namespace start1
open Jvm.ClassFile
def u (s : String) : CpInfo := .utf8 (stringToUtf16 s)
/-- a pool by its gaps: so many unusable entries, then the entry; so many at the end -/
def gap : Nat → List CpInfo → List CpInfo
  | 0, r => r
  | n + 1, r => .unusable :: gap n r
def poolList (es : List (Nat × CpInfo)) (last : Nat) : List CpInfo := es.foldr (fun e r => gap e.1 (e.2 :: r)) (gap last [])
def pool (es : List (Nat × CpInfo)) (last : Nat) : Array CpInfo := ⟨poolList es last⟩
def fileOf (pool : Array CpInfo) (this : Nat) (attrs : Array Attribute := #[]) (ms : Array MethodInfo := #[]) (fl : Nat := 33) (sup : Nat := 0) (ifs : Array Nat := #[]) (fds : Array FieldInfo := #[]) : ClassFile where
  minorVersion := 0
  majorVersion := 65
  constantPool := pool
  accessFlags := fl
  thisClass := this
  superClass := sup
  interfaces := ifs
  fields := fds
  methods := ms
  attributes := attrs
def plain (name : String) (sup : Option ClassId) : Class where
  name := name
  kind := .ordinary
  loader := none
  accessFlags := 33
  super := sup
  interfaces := #[]
  cf := none
  fields := #[]
  methods := #[]
  instanceTypes := #[]
  staticTypes := #[]
  resolved := #[]
  callSites := []
  init := .initialized
  statics := none
  mirror := none

def pool0 : Array CpInfo := pool [(5, u "<init>"), (0, u "()V"), (1, .class_ 10), (1, u "java/lang/Object")] 113

def k0c0 : Code := { maxStack := 0, maxLocals := 1, code := object_method_1_code, exceptionTable := #[], attributes := #[] }
def k0m0 : Method := { name := "<init>", desc := "()V", sig := { parameters := [], returnType := none }, accessFlags := 1, code := some k0c0 }
/-- java/lang/Object -/
def k0 : Class := { plain "java/lang/Object" none with
  accessFlags := 33
  interfaces := #[]
  cf := some (fileOf pool0 8 #[] #[{ accessFlags := 1, nameIndex := 5, descriptorIndex := 6, attributes := #[] }] 33 0 #[] #[])
  fields := #[]
  methods := #[k0m0]
  instanceTypes := #[]
  staticTypes := #[]
  resolved := Array.replicate 124 none
  statics := none }

def pool1 : Array CpInfo := pool [(2, .class_ 4), (1, u "java/lang/Object"), (0, u "<init>"), (0, u "()V"), (2, .long 9223372036854775807), (1, .class_ 12), (0, u "com/example/spillway/spillway/model/Money"), (0, .methodref 11 14), (0, .nameAndType 5 15), (0, u "(J)V"), (0, .methodref 11 17), (0, .nameAndType 18 19), (0, u "min"), (0, u "(Lcom/example/spillway/spillway/model/Money;)Lcom/example/spillway/spillway/model/Money;"), (0, .methodref 21 22), (0, .class_ 23), (0, .nameAndType 18 24), (0, u "java/lang/Math"), (0, u "(JJ)J"), (0, .methodref 11 26), (0, .nameAndType 27 28), (0, u "cents"), (0, u "()J"), (0, .class_ 30), (0, u "com/example/spillway/spillway/model/MoneyMinPinLaw"), (2, u "law"), (0, u "(JJI)Z")] 3

def k1m0 : Method := { name := "<init>", desc := "()V", sig := { parameters := [], returnType := none }, accessFlags := 1, code := none }
def k1c1 : Code := { maxStack := 4, maxLocals := 14, code := code, exceptionTable := #[], attributes := #[] }
def k1m1 : Method := { name := "law", desc := "(JJI)Z", sig := { parameters := [.long, .long, .int], returnType := some .boolean }, accessFlags := 9, code := some k1c1 }
/-- com/example/spillway/spillway/model/MoneyMinPinLaw -/
def k1 : Class := { plain "com/example/spillway/spillway/model/MoneyMinPinLaw" (some 0) with
  accessFlags := 49
  interfaces := #[]
  cf := some (fileOf pool1 29 #[] #[{ accessFlags := 1, nameIndex := 5, descriptorIndex := 6, attributes := #[] }, { accessFlags := 9, nameIndex := 33, descriptorIndex := 34, attributes := #[] }] 49 2 #[] #[])
  fields := #[]
  methods := #[k1m0, k1m1]
  instanceTypes := #[]
  staticTypes := #[]
  resolved := Array.replicate 38 none
  statics := none }

def pool2 : Array CpInfo := pool [(1, .methodref 2 3), (0, .class_ 4), (0, .nameAndType 5 6), (0, u "java/lang/Object"), (0, u "<init>"), (0, u "()V"), (0, .class_ 8), (0, u "java/lang/Record")] 13

def k2c0 : Code := { maxStack := 1, maxLocals := 1, code := jdk_30_method_1_code, exceptionTable := #[], attributes := #[] }
def k2m0 : Method := { name := "<init>", desc := "()V", sig := { parameters := [], returnType := none }, accessFlags := 4, code := some k2c0 }
/-- java/lang/Record -/
def k2 : Class := { plain "java/lang/Record" (some 0) with
  accessFlags := 1057
  interfaces := #[]
  cf := some (fileOf pool2 7 #[] #[{ accessFlags := 4, nameIndex := 5, descriptorIndex := 6, attributes := #[] }] 1057 2 #[] #[])
  fields := #[]
  methods := #[k2m0]
  instanceTypes := #[]
  staticTypes := #[]
  resolved := Array.replicate 22 none
  statics := none }

def pool3 : Array CpInfo := pool [(1, .class_ 2), (0, u "java/lang/Comparable"), (0, .class_ 4), (0, u "java/lang/Object")] 7

/-- java/lang/Comparable -/
def k3 : Class := { plain "java/lang/Comparable" (some 0) with
  accessFlags := 1537
  interfaces := #[]
  cf := some (fileOf pool3 1 #[] #[] 1537 3 #[] #[])
  fields := #[]
  methods := #[]
  instanceTypes := #[]
  staticTypes := #[]
  resolved := Array.replicate 12 none
  statics := none }

def pool4 : Array CpInfo := pool [(1, .methodref 2 3), (0, .class_ 4), (0, .nameAndType 5 6), (0, u "java/lang/Record"), (0, u "<init>"), (0, u "()V"), (11, .fieldref 19 20), (0, .class_ 21), (0, .nameAndType 22 23), (0, u "com/example/spillway/spillway/model/Money"), (0, u "cents"), (0, u "J"), (49, u "(J)V"), (8, u "ZERO"), (0, u "Lcom/example/spillway/spillway/model/Money;"), (19, u "(Lcom/example/spillway/spillway/model/Money;)Lcom/example/spillway/spillway/model/Money;"), (51, .class_ 156), (0, u "java/lang/Comparable"), (0, u "MAX_INTEGER_DIGITS"), (0, u "I"), (2, u "MAX_FRACTION_DIGITS"), (1, u "CENTS_PER_UNIT"), (1, u "WRITTEN_FORM"), (0, u "Ljava/lang/String;"), (0, u "UNSIGNED"), (0, u "TOO_MANY_INTEGER_DIGITS"), (0, u "TOO_MANY_FRACTION_DIGITS"), (14, u "min"), (3, u "()J"), (6, .class_ 196), (0, u "com/example/spillway/spillway/model/Money$Total")] 30

def k4c0 : Code := { maxStack := 4, maxLocals := 3, code := prog_26_method_1_code, exceptionTable := #[], attributes := #[] }
def k4m0 : Method := { name := "<init>", desc := "(J)V", sig := { parameters := [.long], returnType := none }, accessFlags := 1, code := some k4c0 }
def k4c1 : Code := { maxStack := 4, maxLocals := 2, code := prog_26_method_9_code, exceptionTable := #[], attributes := #[] }
def k4m1 : Method := { name := "min", desc := "(Lcom/example/spillway/spillway/model/Money;)Lcom/example/spillway/spillway/model/Money;", sig := { parameters := [(.object "com/example/spillway/spillway/model/Money")], returnType := some (.object "com/example/spillway/spillway/model/Money") }, accessFlags := 1, code := some k4c1 }
def k4c2 : Code := { maxStack := 2, maxLocals := 1, code := prog_26_method_18_code, exceptionTable := #[], attributes := #[] }
def k4m2 : Method := { name := "cents", desc := "()J", sig := { parameters := [], returnType := some .long }, accessFlags := 1, code := some k4c2 }
/-- com/example/spillway/spillway/model/Money -/
def k4 : Class := { plain "com/example/spillway/spillway/model/Money" (some 2) with
  accessFlags := 49
  interfaces := #[3]
  cf := some (fileOf pool4 19 #[.nestMembers #[195]] #[{ accessFlags := 1, nameIndex := 5, descriptorIndex := 73, attributes := #[] }, { accessFlags := 1, nameIndex := 184, descriptorIndex := 103, attributes := #[] }, { accessFlags := 1, nameIndex := 22, descriptorIndex := 188, attributes := #[] }] 49 2 #[155] #[{ accessFlags := 18, nameIndex := 22, descriptorIndex := 23, attributes := #[] }, { accessFlags := 25, nameIndex := 82, descriptorIndex := 83, attributes := #[] }, { accessFlags := 26, nameIndex := 157, descriptorIndex := 158, attributes := #[] }, { accessFlags := 26, nameIndex := 161, descriptorIndex := 158, attributes := #[] }, { accessFlags := 26, nameIndex := 163, descriptorIndex := 158, attributes := #[] }, { accessFlags := 26, nameIndex := 165, descriptorIndex := 166, attributes := #[] }, { accessFlags := 26, nameIndex := 167, descriptorIndex := 166, attributes := #[] }, { accessFlags := 26, nameIndex := 168, descriptorIndex := 166, attributes := #[] }, { accessFlags := 26, nameIndex := 169, descriptorIndex := 166, attributes := #[] }])
  fields := #[{ name := "cents", type := .long, accessFlags := 18, slot := 0, constantValue := 0 }, { name := "ZERO", type := (.object "com/example/spillway/spillway/model/Money"), accessFlags := 25, slot := 0, constantValue := 0 }, { name := "MAX_INTEGER_DIGITS", type := .int, accessFlags := 26, slot := 1, constantValue := 0 }, { name := "MAX_FRACTION_DIGITS", type := .int, accessFlags := 26, slot := 2, constantValue := 0 }, { name := "CENTS_PER_UNIT", type := .int, accessFlags := 26, slot := 3, constantValue := 0 }, { name := "WRITTEN_FORM", type := (.object "java/lang/String"), accessFlags := 26, slot := 4, constantValue := 0 }, { name := "UNSIGNED", type := (.object "java/lang/String"), accessFlags := 26, slot := 5, constantValue := 0 }, { name := "TOO_MANY_INTEGER_DIGITS", type := (.object "java/lang/String"), accessFlags := 26, slot := 6, constantValue := 0 }, { name := "TOO_MANY_FRACTION_DIGITS", type := (.object "java/lang/String"), accessFlags := 26, slot := 7, constantValue := 0 }]
  methods := #[k4m0, k4m1, k4m2]
  instanceTypes := #[.long]
  staticTypes := #[(.object "com/example/spillway/spillway/model/Money"), .int, .int, .int, (.object "java/lang/String"), (.object "java/lang/String"), (.object "java/lang/String"), (.object "java/lang/String")]
  resolved := Array.replicate 227 none
  statics := none }

def pool5 : Array CpInfo := pool [(1, .class_ 2), (0, u "java/lang/Math"), (1, .class_ 6), (1, u "java/lang/Object"), (0, u "<init>"), (0, u "()V"), (89, .class_ 100), (1, u "java/lang/Math$RandomNumberGeneratorHolder"), (20, u "(JJ)J"), (50, u "negativeZeroFloatBits"), (0, u "J"), (2, u "negativeZeroDoubleBits"), (24, u "min"), (43, u "$assertionsDisabled"), (0, u "Z"), (91, u "twoToTheDoubleScaleDown"), (0, u "D"), (4, u "twoToTheDoubleScaleUp"), (9, u "E"), (3, u "PI"), (2, u "TAU"), (2, u "DEGREES_TO_RADIANS"), (0, u "RADIANS_TO_DEGREES")] 94

def k5m0 : Method := { name := "<init>", desc := "()V", sig := { parameters := [], returnType := none }, accessFlags := 2, code := none }
def k5c1 : Code := { maxStack := 4, maxLocals := 4, code := jdk_29_method_70_code, exceptionTable := #[], attributes := #[] }
def k5m1 : Method := { name := "min", desc := "(JJ)J", sig := { parameters := [.long, .long], returnType := some .long }, accessFlags := 9, code := some k5c1 }
/-- java/lang/Math -/
def k5 : Class := { plain "java/lang/Math" (some 0) with
  accessFlags := 49
  interfaces := #[]
  cf := some (fileOf pool5 1 #[.nestMembers #[98]] #[{ accessFlags := 2, nameIndex := 7, descriptorIndex := 8, attributes := #[] }, { accessFlags := 9, nameIndex := 201, descriptorIndex := 121, attributes := #[] }] 49 4 #[] #[{ accessFlags := 25, nameIndex := 354, descriptorIndex := 339, attributes := #[] }, { accessFlags := 25, nameIndex := 358, descriptorIndex := 339, attributes := #[] }, { accessFlags := 25, nameIndex := 361, descriptorIndex := 339, attributes := #[] }, { accessFlags := 26, nameIndex := 364, descriptorIndex := 339, attributes := #[] }, { accessFlags := 26, nameIndex := 365, descriptorIndex := 339, attributes := #[] }, { accessFlags := 26, nameIndex := 172, descriptorIndex := 173, attributes := #[] }, { accessFlags := 26, nameIndex := 176, descriptorIndex := 173, attributes := #[] }, { accessFlags := 8, nameIndex := 344, descriptorIndex := 339, attributes := #[] }, { accessFlags := 8, nameIndex := 338, descriptorIndex := 339, attributes := #[] }, { accessFlags := 4120, nameIndex := 245, descriptorIndex := 246, attributes := #[] }])
  fields := #[{ name := "E", type := .double, accessFlags := 25, slot := 0, constantValue := 0 }, { name := "PI", type := .double, accessFlags := 25, slot := 1, constantValue := 0 }, { name := "TAU", type := .double, accessFlags := 25, slot := 2, constantValue := 0 }, { name := "DEGREES_TO_RADIANS", type := .double, accessFlags := 26, slot := 3, constantValue := 0 }, { name := "RADIANS_TO_DEGREES", type := .double, accessFlags := 26, slot := 4, constantValue := 0 }, { name := "negativeZeroFloatBits", type := .long, accessFlags := 26, slot := 5, constantValue := 0 }, { name := "negativeZeroDoubleBits", type := .long, accessFlags := 26, slot := 6, constantValue := 0 }, { name := "twoToTheDoubleScaleUp", type := .double, accessFlags := 8, slot := 7, constantValue := 0 }, { name := "twoToTheDoubleScaleDown", type := .double, accessFlags := 8, slot := 8, constantValue := 0 }, { name := "$assertionsDisabled", type := .boolean, accessFlags := 4120, slot := 9, constantValue := 0 }]
  methods := #[k5m0, k5m1]
  instanceTypes := #[]
  staticTypes := #[.double, .double, .double, .double, .double, .long, .long, .double, .double, .boolean]
  resolved := Array.replicate 460 none
  statics := none }

def pool6 : Array CpInfo := pool [(1, u "java/lang/Cloneable"), (0, .class_ 1), (0, u "java/lang/Object"), (0, .class_ 3)] 3

/-- java/lang/Cloneable -/
def k6 : Class := { plain "java/lang/Cloneable" (some 0) with
  accessFlags := 1537
  interfaces := #[]
  cf := some (fileOf pool6 2 #[] #[] 1537 4 #[] #[])
  fields := #[]
  methods := #[]
  instanceTypes := #[]
  staticTypes := #[]
  resolved := Array.replicate 8 none
  statics := none }

def pool7 : Array CpInfo := pool [(1, u "java/io/Serializable"), (0, .class_ 1), (0, u "java/lang/Object"), (0, .class_ 3)] 3

/-- java/io/Serializable -/
def k7 : Class := { plain "java/io/Serializable" (some 0) with
  accessFlags := 1537
  interfaces := #[]
  cf := some (fileOf pool7 2 #[] #[] 1537 4 #[] #[])
  fields := #[]
  methods := #[]
  instanceTypes := #[]
  staticTypes := #[]
  resolved := Array.replicate 8 none
  statics := none }

/-- the primitive byte -/
def k8 : Class := { plain "byte" none with kind := .primitive 'B', accessFlags := 0x411 }
/-- [B -/
def k9 : Class := { plain "[B" (some 0) with kind := .array 8 .byte, interfaces := #[6, 7], accessFlags := 1041 }

/-- the primitive int -/
def k10 : Class := { plain "int" none with kind := .primitive 'I', accessFlags := 0x411 }
/-- [I -/
def k11 : Class := { plain "[I" (some 0) with kind := .array 10 .int, interfaces := #[6, 7], accessFlags := 1041 }

def heap : Heap := #[]
def classes : Array Class := #[k0, k1, k2, k3, k4, k5, k6, k7, k8, k9, k10, k11]
def interned : List (Array UInt16 × Addr) := []
def slotsUsed : Nat := 0
def theMethod : MethodId := ⟨1, 1⟩
def args0 : Array Value := #[.long 5, .long 3, .int 0]
def aboutOver (below : List Frame) : State where
  vm := { classes := classes, interned := interned.toArray }
  heap := heap
  slotsUsed := slotsUsed
  threads := #[{ frames := .invoking theMethod args0 :: below }]
def below0 : List Frame := [.native { method := ⟨0, 0⟩, args := #[] }]
def about1 : State := aboutOver below0
def p0 : Program := .bare "" "" ""
def e0 : Env := launch0.env 0 0 0
theorem w_frames : about1.frames = Frame.invoking theMethod args0 :: below0 := rfl
set_option maxRecDepth 65536 in
theorem w_args : argsFit about1.vm theMethod args0 = true := by decide +kernel
set_option maxRecDepth 65536 in
theorem w_heap : heapFits about1 = true := by decide +kernel
set_option maxRecDepth 65536 in
theorem w_runnable : about1.curStatus? = some .runnable := by decide +kernel
set_option maxRecDepth 65536 in
theorem w_alone : about1.alone = true := by decide +kernel
set_option maxRecDepth 65536 in
theorem w_named : about1.methodNamed? x = some theMethod := by decide +kernel
set_option maxRecDepth 65536 in
theorem w_hears : about1.hears theMethod below0 = true := by decide +kernel
set_option maxRecDepth 65536 in
theorem w_ripe : about1.ripe theMethod args0 below0 = true := by decide +kernel
theorem w_running : about1.status = .running := rfl
set_option maxRecDepth 65536 in
theorem w_room : about1.hasRoom e0.platform room_1 = true :=
  launch0.hasRoom_least _ room_1 (by decide +kernel) (by decide +kernel) (by decide +kernel) (by decide +kernel) (by decide +kernel) (by decide +kernel)
theorem allAtoms_all (ts : List Jvm.Cond) (a : Array Jvm.Value) (st : Jvm.State) : (allAtoms ts).before a st = ts.all (fun c => c.before a st) := by
  induction ts with
  | nil => rfl
  | cons c t ih =>
    show (Jvm.Cond.and c (allAtoms t)).before a st = _
    rw [Jvm.Cond.before_and, ih, List.all_cons]
def words1 : List Jvm.Cond := Jvm.Cond.code x code maxLocals ret :: tables_1
/-- a 'code' word, met by the world's own term for the bytes: nothing is compared byte by byte -/
theorem code_word {y : MethodName} {bytes : ByteArray} {mx : Nat} {rt : Option FieldType} {a : Array Value} {s : State} {m : MethodId} {meth : Method} {c : Code} (h1 : s.methodNamed? y = some m) (h2 : s.vm.method? m = some meth) (h3 : meth.code = some c) (h4 : c.code = bytes)
    (h5 : (c.maxLocals == mx && c.exceptionTable.isEmpty && decide (c.maxStack ≤ mostOperands) && decide (meth.sig.returnType = rt) && !meth.locks && decide (parseMethodDescriptor y.desc = some meth.sig)) = true) : (Jvm.Cond.code y bytes mx rt).before a s = true := by
  simp only [Bool.and_eq_true, beq_iff_eq, Bool.not_eq_true', decide_eq_true_eq] at h5
  obtain ⟨⟨⟨⟨⟨g1, g2⟩, g3⟩, g4⟩, g5⟩, g6⟩ := h5
  simp [Cond.before, Cond.holds, Cond.value, h1, h2, h3, h4, g1, g2, g3, g4, g5, g6]
def isCode : Jvm.Cond → Bool
  | .code _ _ _ _ => true
  | _ => false
theorem all_split {L : List Jvm.Cond} {P : Jvm.Cond → Bool} (h1 : L.all (fun c => isCode c || P c) = true) (h2 : ∀ c ∈ L.filter isCode, P c = true) : L.all P = true := by
  refine List.all_eq_true.mpr fun c hc => ?_
  have h := List.all_eq_true.mp h1 c hc
  rcases Bool.eq_false_or_eq_true (isCode c) with hi | hi
  · exact h2 c (List.mem_filter.mpr ⟨hc, hi⟩)
  · simpa [hi] using h
set_option maxRecDepth 65536 in
theorem w_c0 : (Jvm.Cond.code x code maxLocals ret).before args0 about1 = true := code_word (m := ⟨1, 1⟩) (meth := k1m1) (c := k1c1) (by decide +kernel) rfl rfl rfl (by decide +kernel)
set_option maxRecDepth 65536 in
theorem w_c1 : (Jvm.Cond.code ({ cls := "com/example/spillway/spillway/model/Money", name := "<init>", desc := "(J)V" } : Jvm.MethodName) prog_26_method_1_code (3 : Nat) (Option.none : Option Jvm.ClassFile.FieldType)).before args0 about1 = true := code_word (m := ⟨4, 0⟩) (meth := k4m0) (c := k4c0) (by decide +kernel) rfl rfl rfl (by decide +kernel)
set_option maxRecDepth 65536 in
theorem w_c2 : (Jvm.Cond.code ({ cls := "java/lang/Record", name := "<init>", desc := "()V" } : Jvm.MethodName) jdk_30_method_1_code (1 : Nat) (Option.none : Option Jvm.ClassFile.FieldType)).before args0 about1 = true := code_word (m := ⟨2, 0⟩) (meth := k2m0) (c := k2c0) (by decide +kernel) rfl rfl rfl (by decide +kernel)
set_option maxRecDepth 65536 in
theorem w_c3 : (Jvm.Cond.code ({ cls := "java/lang/Object", name := "<init>", desc := "()V" } : Jvm.MethodName) object_method_1_code (1 : Nat) (Option.none : Option Jvm.ClassFile.FieldType)).before args0 about1 = true := code_word (m := ⟨0, 0⟩) (meth := k0m0) (c := k0c0) (by decide +kernel) rfl rfl rfl (by decide +kernel)
set_option maxRecDepth 65536 in
theorem w_c4 : (Jvm.Cond.code ({ cls := "com/example/spillway/spillway/model/Money", name := "min", desc := "(Lcom/example/spillway/spillway/model/Money;)Lcom/example/spillway/spillway/model/Money;" } : Jvm.MethodName) prog_26_method_9_code (2 : Nat) (Option.some (Jvm.ClassFile.FieldType.object "com/example/spillway/spillway/model/Money"))).before args0 about1 = true := code_word (m := ⟨4, 1⟩) (meth := k4m1) (c := k4c1) (by decide +kernel) rfl rfl rfl (by decide +kernel)
set_option maxRecDepth 65536 in
theorem w_c5 : (Jvm.Cond.code ({ cls := "java/lang/Math", name := "min", desc := "(JJ)J" } : Jvm.MethodName) jdk_29_method_70_code (4 : Nat) (Option.some Jvm.ClassFile.FieldType.long)).before args0 about1 = true := code_word (m := ⟨5, 1⟩) (meth := k5m1) (c := k5c1) (by decide +kernel) rfl rfl rfl (by decide +kernel)
set_option maxRecDepth 65536 in
theorem w_c6 : (Jvm.Cond.code ({ cls := "com/example/spillway/spillway/model/Money", name := "cents", desc := "()J" } : Jvm.MethodName) prog_26_method_18_code (1 : Nat) (Option.some Jvm.ClassFile.FieldType.long)).before args0 about1 = true := code_word (m := ⟨4, 2⟩) (meth := k4m2) (c := k4c2) (by decide +kernel) rfl rfl rfl (by decide +kernel)
def codes1 : List Jvm.Cond := [Jvm.Cond.code x code maxLocals ret, Jvm.Cond.code ({ cls := "com/example/spillway/spillway/model/Money", name := "<init>", desc := "(J)V" } : Jvm.MethodName) prog_26_method_1_code (3 : Nat) (Option.none : Option Jvm.ClassFile.FieldType), Jvm.Cond.code ({ cls := "java/lang/Record", name := "<init>", desc := "()V" } : Jvm.MethodName) jdk_30_method_1_code (1 : Nat) (Option.none : Option Jvm.ClassFile.FieldType), Jvm.Cond.code ({ cls := "java/lang/Object", name := "<init>", desc := "()V" } : Jvm.MethodName) object_method_1_code (1 : Nat) (Option.none : Option Jvm.ClassFile.FieldType), Jvm.Cond.code ({ cls := "com/example/spillway/spillway/model/Money", name := "min", desc := "(Lcom/example/spillway/spillway/model/Money;)Lcom/example/spillway/spillway/model/Money;" } : Jvm.MethodName) prog_26_method_9_code (2 : Nat) (Option.some (Jvm.ClassFile.FieldType.object "com/example/spillway/spillway/model/Money")), Jvm.Cond.code ({ cls := "java/lang/Math", name := "min", desc := "(JJ)J" } : Jvm.MethodName) jdk_29_method_70_code (4 : Nat) (Option.some Jvm.ClassFile.FieldType.long), Jvm.Cond.code ({ cls := "com/example/spillway/spillway/model/Money", name := "cents", desc := "()J" } : Jvm.MethodName) prog_26_method_18_code (1 : Nat) (Option.some Jvm.ClassFile.FieldType.long)]
set_option maxRecDepth 65536 in
theorem codes_eq : words1.filter isCode = codes1 := rfl
theorem w_codes : ∀ c ∈ words1.filter isCode, c.before args0 about1 = true := by
  rw [codes_eq]
  intro c hc
  simp only [codes1, List.mem_cons, List.not_mem_nil, or_false] at hc
  rcases hc with rfl | rfl | rfl | rfl | rfl | rfl | rfl
  · exact w_c0
  · exact w_c1
  · exact w_c2
  · exact w_c3
  · exact w_c4
  · exact w_c5
  · exact w_c6
set_option maxRecDepth 65536 in
theorem w_t1 : (words1.take 24).all (fun c => isCode c || c.before args0 about1) = true := by decide +kernel
set_option maxRecDepth 65536 in
theorem w_t2 : (words1.drop 24).all (fun c => isCode c || c.before args0 about1) = true := by decide +kernel
theorem w_tables : (allAtoms (Jvm.Cond.code x code maxLocals ret :: tables_1)).before args0 about1 = true := by
  rw [allAtoms_all]
  show words1.all (fun c => c.before args0 about1) = true
  refine all_split ?_ w_codes
  rw [← List.take_append_drop 24 words1, List.all_append, w_t1, w_t2]
  rfl
set_option maxRecDepth 65536 in
theorem w_case : (Jvm.Cond.and given_1 narrow_1).before args0 about1 = true := by decide +kernel
theorem w_applies : (headSpec (Jvm.Cond.code x code maxLocals ret :: tables_1) room_1).applies x e0.platform about1 = true :=
  (Spec.applies_iff w_frames).mpr ⟨w_running, w_runnable, w_alone, w_named, w_hears, w_ripe, w_room, w_tables⟩
theorem atStart : AtStart classFile x code maxLocals ret World_1 tables_1 room_1 Calls_1 rest_1 Pre_1 launch0 p0 e0 about1 theMethod args0 below0 :=
  ⟨lists_1, trivial, launch0.admits_env _ _ _, launch0.least_env, fairChoices_fair.cas, fairChoices_fair.clock, w_frames, w_args, w_heap, w_applies, trivial, trivial, w_case⟩
end start1
theorem witness_1 : WitnessClaimed_1 := ⟨start1.p0, start1.e0, start1.about1, start1.theMethod, start1.args0, start1.below0, start1.atStart⟩
end Jvm.Pilot.@@N@@
