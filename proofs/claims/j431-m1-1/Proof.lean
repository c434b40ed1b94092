import JvmDerived
import JvmDerived.Pilot.@@N@@Statement
import JvmDerived.Pilot.@@N@@Code
set_option linter.unusedVariables false
set_option linter.unusedSimpArgs false
namespace Jvm.Pilot.@@N@@
open Jvm Jvm.ClassFile Sem Op Lib Jvm.Free Jvm.Stand Jvm.LawKit Jvm.RoadKit Bundle Jvm.Pilot.@@N@@.Jvm.D
/-! the goal of a walk: from this frame the run comes to an end of which K holds -/
def own_Go (p : Program) (e : Env) (below : List Frame) (T : State) (f : JFrame) (K : State → Outcome → Prop) : Prop := ∃ s₂ o, Steps p.tables e below (T.setTop f) s₂ ∧ K s₂ o
theorem own_Go.mono {p : Program} {e : Env} {below : List Frame} {T T' : State} {f f' : JFrame} {K : State → Outcome → Prop} (h : ∀ t, Steps p.tables e below (T'.setTop f') t → Steps p.tables e below (T.setTop f) t) (g : own_Go p e below T' f' K) : own_Go p e below T f K := by
  obtain ⟨a, o, h1, h2⟩ := g; exact ⟨a, o, h _ h1, h2⟩
def own_K (s : State) (below : List Frame) (Qv : Option Value → Heap → List Loc → Prop) (cc ss : Nat) : State → Outcome → Prop := fun s₂ o => s₂.status = .running ∧ Ended s₂ below o ∧ ∃ v L, o = .returned v ∧ Qv v s₂.heap L ∧ FrameEnd s o s₂ L cc ss
theorem own_body {l : Launch} {y : MethodName} {bytes : ByteArray} {maxL : Nat} {ret : Option FieldType} {ws : List Jvm.Cond} {rm : Room} {Z : State} {as' : Array Value} {h0 : Heap} {Qv : Option Value → Heap → List Loc → Prop} {cc ss : Nat} (hpn : plainFor y = true)
    (body : ∀ (p : Program) (e : Env) (s : State) (m : MethodId) (below : List Frame) (meth : Method) (c : Code) (s₁ : State), p.tables.exec = Jvm.exec → c.code = bytes → c.maxLocals = maxL → meth.sig.returnType = ret → meth.locks = false → s.vm.findClass y.cls = some m.cls → meth.name = y.name → Z.Warmed39 s.vm → Stand p l e rm s m as' below meth c s₁ [] 0 0 → s₁.heap = h0 → own_Go p e below s₁ (entryFrame m as' maxL) (own_K s below Qv cc ss)) :
    MetFree l y (head1 (Jvm.Cond.code y bytes maxL ret :: ws) rm) (fun a U => a = as' ∧ Z.Warmed39 U.vm ∧ U.heap = h0) (fun _ _ _ _ _ => True) (fun _ U o U' => ∃ v L, o = .returned v ∧ Qv v U'.heap L ∧ FrameEnd U o U' L cc ss) := by
  refine MetFree.of_bodySF hpn hisR ?_
  intro p e s m args below meth c s₁ Bd hml0 hP hK
  obtain ⟨rfl, hZ, hh⟩ := hP
  exact body p e s m below meth c s₁ Bd.exec Bd.bytes hml0 Bd.returns Bd.notSynchronized (findClass_of_methodNamed Bd.named) (name_of_methodNamed Bd.named Bd.method).1 hZ (Stand.of_body Bd) (by rw [← hh, Bd.state]; rfl)
section Ret
variable {p : Program} {l : Launch} {e : Env} {R : Room} {s : State} {m : MethodId} {args : Array Value} {below : List Frame} {meth : Method} {c : Code} {T : State} {locs : List Loc} {cells slots : Nat} {Qv : Option Value → Heap → List Loc → Prop} {cc ss pc : Nat} {Ls : Array Slot} {rest : List Value}
theorem own_ret (X : Stand p l e R s m args below meth c T locs cells slots) {f : JFrame} {v : Option Value} (hv : meth.sig.returnType = none → v = none) (hlk : meth.locks = false)
    (hst : ∀ fs, (∀ (f : JFrame) (acts : List Action), f.method = m → f.locked = none → f.entered = [] → (doReturn e (T.setTop f) acts v).1 = T.setFrames fs) → Steps p.tables e below (T.setTop f) (T.setFrames fs)) (hq : Qv v T.heap locs) (hc : cells ≤ cc) (hs : slots ≤ ss) :
    own_Go p e below T f (own_K s below Qv cc ss) := by
  obtain ⟨fs, hr, hrun, hended, hW, hsame⟩ := X.leave (v := v) hv hlk
  exact ⟨_, _, hst fs hr, hrun, hended, v, locs, rfl, hq, ⟨_, rfl⟩, hW, hsame.mono hc hs⟩
theorem own_retN (X : Stand p l e R s m args below meth c T locs cells slots) (hx : p.tables.exec = Jvm.exec) {z : Int32} {t : FieldType} (hret : meth.sig.returnType = some t) (ht : t = .boolean ∨ t = .byte ∨ t = .char ∨ t = .short) (hlk : meth.locks = false) (hd : decode c.code pc = .ok (.ireturn, 1))
    (hq : Qv (some (.int (nar t z))) T.heap locs) (hc : cells ≤ cc) (hs : slots ≤ ss) : own_Go p e below T (mkF m pc Ls (.int z :: rest)) (own_K s below Qv cc ss) :=
  own_ret X (fun h => by rw [hret] at h; cases h) hlk (fun fs hr => retN X hx hret ht hd hr) hq hc hs
theorem own_retI (X : Stand p l e R s m args below meth c T locs cells slots) (hx : p.tables.exec = Jvm.exec) {z : Int32} (hret : meth.sig.returnType = some .int) (hlk : meth.locks = false) (hd : decode c.code pc = .ok (.ireturn, 1))
    (hq : Qv (some (.int z)) T.heap locs) (hc : cells ≤ cc) (hs : slots ≤ ss) : own_Go p e below T (mkF m pc Ls (.int z :: rest)) (own_K s below Qv cc ss) :=
  own_ret X (fun h => by rw [hret] at h; cases h) hlk (fun fs hr => retOut X hx hret rfl (Or.inl ⟨rfl, Or.inl rfl, z, rfl⟩) hd hr) hq hc hs
theorem own_retJ (X : Stand p l e R s m args below meth c T locs cells slots) (hx : p.tables.exec = Jvm.exec) {z : Int64} (hret : meth.sig.returnType = some .long) (hlk : meth.locks = false) (hd : decode c.code pc = .ok (.lreturn, 1))
    (hq : Qv (some (.long z)) T.heap locs) (hc : cells ≤ cc) (hs : slots ≤ ss) : own_Go p e below T (mkF m pc Ls (.long z :: rest)) (own_K s below Qv cc ss) :=
  own_ret X (fun h => by rw [hret] at h; cases h) hlk (fun fs hr => retOut X hx hret rfl (Or.inr (Or.inl ⟨rfl, rfl, z, rfl⟩)) hd hr) hq hc hs
theorem own_retA (X : Stand p l e R s m args below meth c T locs cells slots) (hx : p.tables.exec = Jvm.exec) {w : Value} {t : FieldType} (hret : meth.sig.returnType = some t) (hn : narrow t w = w) (ht : t.isReference = true ∧ w.isRef = true) (hlk : meth.locks = false) (hd : decode c.code pc = .ok (.areturn, 1))
    (hq : Qv (some w) T.heap locs) (hc : cells ≤ cc) (hs : slots ≤ ss) : own_Go p e below T (mkF m pc Ls (w :: rest)) (own_K s below Qv cc ss) :=
  own_ret X (fun h => by rw [hret] at h; cases h) hlk (fun fs hr => retOut X hx hret hn (Or.inr (Or.inr (Or.inr (Or.inr ⟨rfl, ht.1, ht.2⟩)))) hd hr) hq hc hs
theorem own_retV (X : Stand p l e R s m args below meth c T locs cells slots) (hx : p.tables.exec = Jvm.exec) (hret : meth.sig.returnType = none) (hlk : meth.locks = false) (hd : decode c.code pc = .ok (.return_, 1))
    (hq : Qv none T.heap locs) (hc : cells ≤ cc) (hs : slots ≤ ss) : own_Go p e below T (mkF m pc Ls []) (own_K s below Qv cc ss) :=
  own_ret X (fun _ => rfl) hlk (fun fs hr => X.returnOut hx hret hd hr) hq hc hs
theorem own_lremM {g : JFrame} {target : State} (X : Stand p l e R s m args below meth c T locs cells slots) (hx : p.tables.exec = Jvm.exec) (hg : g.method = m) {x y : Int64} (hd : decode c.code g.pc = .ok (.lrem, 1)) (hs : g.stack = .long y :: .long x :: rest) (hy : y ≠ 0)
    (hr : Steps p.tables e below (T.setTop { g with pc := g.pc + 1, stack := .long (x % y) :: rest }) target) : Steps p.tables e below (T.setTop g) target := XS.lrem X.here hx hg hd hs hy (by rw [lrem_mod]; exact hr)
end Ret
theorem pd_0 : parseMethodDescriptor "(III)Z" = some ⟨[.int, .int, .int], some .boolean⟩ := by decide +kernel
theorem pd_1 : parseMethodDescriptor "(B)I" = some ⟨[.byte], some .int⟩ := by decide +kernel
theorem pd_2 : parseMethodDescriptor "(I)I" = some ⟨[.int], some .int⟩ := by decide +kernel
theorem pd_3 : parseMethodDescriptor "([BIII)Z" = some ⟨[(.array .byte), .int, .int, .int], some .boolean⟩ := by decide +kernel
theorem pd_4 : parseMethodDescriptor "([BIII)I" = some ⟨[(.array .byte), .int, .int, .int], some .int⟩ := by decide +kernel
theorem pd_5 : parseMethodDescriptor "(JIJI)B" = some ⟨[.long, .int, .long, .int], some .byte⟩ := by decide +kernel
theorem pd_6 : parseMethodDescriptor "([BII)I" = some ⟨[(.array .byte), .int, .int], some .int⟩ := by decide +kernel
theorem d1_0 : decode method_3_code 0 = .ok (.iload_n 2, 1) := by decide +kernel
theorem d1_1 : decode method_3_code 1 = .ok (.iload 5, 2) := by decide +kernel
theorem d1_3 : decode method_3_code 3 = .ok (.iushr, 1) := by decide +kernel
theorem d1_4 : decode method_3_code 4 = .ok (.iconst 1, 1) := by decide +kernel
theorem d1_5 : decode method_3_code 5 = .ok (.iand, 1) := by decide +kernel
theorem d1_6 : decode method_3_code 6 = .ok (.ifCond .eq 28, 3) := by decide +kernel
theorem d1_9 : decode method_3_code 9 = .ok (.lload_n 3, 1) := by decide +kernel
theorem d1_10 : decode method_3_code 10 = .ok (.bipush 8, 2) := by decide +kernel
theorem d1_12 : decode method_3_code 12 = .ok (.iload 5, 2) := by decide +kernel
theorem d1_14 : decode method_3_code 14 = .ok (.imul, 1) := by decide +kernel
theorem d1_15 : decode method_3_code 15 = .ok (.lushr, 1) := by decide +kernel
theorem d1_16 : decode method_3_code 16 = .ok (.ldc2_w 22, 3) := by decide +kernel
theorem d1_19 : decode method_3_code 19 = .ok (.land, 1) := by decide +kernel
theorem d1_20 : decode method_3_code 20 = .ok (.ldc2_w 24, 3) := by decide +kernel
theorem d1_23 : decode method_3_code 23 = .ok (.lrem, 1) := by decide +kernel
theorem d1_24 : decode method_3_code 24 = .ok (.l2i, 1) := by decide +kernel
theorem d1_25 : decode method_3_code 25 = .ok (.istore 6, 2) := by decide +kernel
theorem d1_27 : decode method_3_code 27 = .ok (.bipush 48, 2) := by decide +kernel
theorem d1_29 : decode method_3_code 29 = .ok (.iload 6, 2) := by decide +kernel
theorem d1_31 : decode method_3_code 31 = .ok (.iadd, 1) := by decide +kernel
theorem d1_32 : decode method_3_code 32 = .ok (.i2b, 1) := by decide +kernel
theorem d1_33 : decode method_3_code 33 = .ok (.ireturn, 1) := by decide +kernel
theorem d1_34 : decode method_3_code 34 = .ok (.lload_n 0, 1) := by decide +kernel
theorem d1_35 : decode method_3_code 35 = .ok (.bipush 8, 2) := by decide +kernel
theorem d1_37 : decode method_3_code 37 = .ok (.iload 5, 2) := by decide +kernel
theorem d1_39 : decode method_3_code 39 = .ok (.imul, 1) := by decide +kernel
theorem d1_40 : decode method_3_code 40 = .ok (.lushr, 1) := by decide +kernel
theorem d1_41 : decode method_3_code 41 = .ok (.l2i, 1) := by decide +kernel
theorem d1_42 : decode method_3_code 42 = .ok (.i2b, 1) := by decide +kernel
theorem d1_43 : decode method_3_code 43 = .ok (.ireturn, 1) := by decide +kernel
def B1_0 (q0 : Int64) (p1 : Int32) (q2 : Int64) (p3 : Int32) : Int32 := (if (((p1.toUInt32 >>> (p3 &&& 31).toUInt32).toInt32) &&& (1 : Int32)) = (0 : Int32) then (nar .byte ((((q0.toUInt64 >>> (((8 : Int32) * p3) &&& 0x3f).toInt64.toUInt64).toInt64).toInt32).toInt8.toInt32)) else (nar .byte (((48 : Int32) + (((((q2.toUInt64 >>> (((8 : Int32) * p3) &&& 0x3f).toInt64.toUInt64).toInt64) &&& (255 : Int64)) % (10 : Int64)).toInt32)).toInt8.toInt32)))
theorem ef_rm1 (m : MethodId) (x0 : Int64) (x1 : Int32) (x2 : Int64) (x3 : Int32) : entryFrame m #[(.long x0), (.int x1), (.long x2), (.int x3)] 7 = mkF m 0 #[.val (.long x0), .second, .val (.int x1), .val (.long x2), .second, .val (.int x3), .unset] [] := by first | (simp [entryFrame, mkF, argsToLocals, Value.category]; done) | rfl
def Q1 (Z : State) (q0 : Int64) (p1 : Int32) (q2 : Int64) (p3 : Int32)  (h0 : Heap) (n0 : Nat) (v : Option Value) (h : Heap) (L : List Loc) : Prop := v = some (.int (B1_0 q0 p1 q2 p3)) ∧ Fr n0 L ∧ h = h0
set_option maxRecDepth 65536 in
set_option maxHeartbeats 40000000 in
theorem rm1 (l : Launch) (Z : State) (a0 : Array Value) (hw : ∀ d ∈ tables_1, d.before a0 Z = true) (ws : List Jvm.Cond) (q0 : Int64) (p1 : Int32) (q2 : Int64) (p3 : Int32)  (h0 : Heap) (n0 : Nat) (Z0 : n0 ≤ h0.size)  :
    MetFree l (⟨"com/example/linkshelf/linkshelf/marc/Iso2709NumberPinLaw", "pick", "(JIJI)B"⟩ : MethodName) (head1 (Jvm.Cond.code (⟨"com/example/linkshelf/linkshelf/marc/Iso2709NumberPinLaw", "pick", "(JIJI)B"⟩ : MethodName) method_3_code 7 (some .byte) :: ws) ({ frames := 0, cells := 0, slots := 0, locals := 0 } : Room)) (fun a U => a = #[(.long q0), (.int p1), (.long q2), (.int p3)] ∧ Z.Warmed39 U.vm ∧ U.heap = h0) (fun _ _ _ _ _ => True) (fun _ U o U' => ∃ v L, o = .returned v ∧ Q1 Z q0 p1 q2 p3  h0 n0 v U'.heap L ∧ FrameEnd U o U' L 0 0) := by
  refine own_body (Qv := Q1 Z q0 p1 q2 p3  h0 n0) (plainFor_of_name (by first | (simp [plainName, overriddenIn]; done) | decide +kernel)) ?_
  intro p e s m below meth c s₁ hx hby hml hret hlk hown hnm hZ X0 e0
  replace hown : s.vm.findClass "com/example/linkshelf/linkshelf/marc/Iso2709NumberPinLaw" = some m.cls := hown
  replace hnm : meth.name = "pick" := hnm
  have N0 := Fr.nil n0
  refine own_Go.mono (T' := s₁) (f' := (mkF m 0 #[.val (.long q0), .second, .val (.int p1), .val (.long q2), .second, .val (.int p3), .unset] [])) (fun t k => castTop (ef_rm1 m q0 p1 q2 p3) k) ?_
  have hv : (B1_0 q0 p1 q2 p3) = (B1_0 q0 p1 q2 p3) := rfl
  refine own_Go.mono (T' := s₁) (f' := (mkF m 6 #[.val (.long q0), .second, .val (.int p1), .val (.long q2), .second, .val (.int p3), .unset] [(.int (((p1.toUInt32 >>> (p3 &&& 31).toUInt32).toInt32) &&& (1 : Int32)))])) (fun t k => ?_) ?_
  · show Steps p.tables e below (s₁.setTop (mkF m 0 #[.val (.long q0), .second, .val (.int p1), .val (.long q2), .second, .val (.int p3), .unset] [])) _
    refine XS.iloadN X0.here hx rfl (hb hby d1_0) rfl ?_
    show Steps p.tables e below (s₁.setTop (mkF m 1 #[.val (.long q0), .second, .val (.int p1), .val (.long q2), .second, .val (.int p3), .unset] [(.int p1)])) _
    refine XS.iload X0.here hx rfl (hb hby d1_1) rfl ?_
    show Steps p.tables e below (s₁.setTop (mkF m 3 #[.val (.long q0), .second, .val (.int p1), .val (.long q2), .second, .val (.int p3), .unset] [(.int p3), (.int p1)])) _
    refine XS.iushr X0.here hx rfl (hb hby d1_3) rfl ?_
    show Steps p.tables e below (s₁.setTop (mkF m 4 #[.val (.long q0), .second, .val (.int p1), .val (.long q2), .second, .val (.int p3), .unset] [(.int ((p1.toUInt32 >>> (p3 &&& 31).toUInt32).toInt32))])) _
    refine XS.iconst X0.here hx rfl (hb hby d1_4) ?_
    show Steps p.tables e below (s₁.setTop (mkF m 5 #[.val (.long q0), .second, .val (.int p1), .val (.long q2), .second, .val (.int p3), .unset] [(.int (1 : Int32)), (.int ((p1.toUInt32 >>> (p3 &&& 31).toUInt32).toInt32))])) _
    refine XS.iand X0.here hx rfl (hb hby d1_5) rfl ?_
    show Steps p.tables e below (s₁.setTop (mkF m 6 #[.val (.long q0), .second, .val (.int p1), .val (.long q2), .second, .val (.int p3), .unset] [(.int (((p1.toUInt32 >>> (p3 &&& 31).toUInt32).toInt32) &&& (1 : Int32)))])) _
    exact k
  by_cases c6_1 : (((p1.toUInt32 >>> (p3 &&& 31).toUInt32).toInt32) &&& (1 : Int32)) = (0 : Int32)
  · refine own_Go.mono (T' := s₁) (f' := (mkF m 43 #[.val (.long q0), .second, .val (.int p1), .val (.long q2), .second, .val (.int p3), .unset] [(.int ((((q0.toUInt64 >>> (((8 : Int32) * p3) &&& 0x3f).toInt64.toUInt64).toInt64).toInt32).toInt8.toInt32))])) (fun t k => ?_) ?_
    · show Steps p.tables e below (s₁.setTop (mkF m 6 #[.val (.long q0), .second, .val (.int p1), .val (.long q2), .second, .val (.int p3), .unset] [(.int (((p1.toUInt32 >>> (p3 &&& 31).toUInt32).toInt32) &&& (1 : Int32)))])) _
      refine XS.ifYes X0.here hx rfl (pc0 := 6) (pc' := 34) rfl (hb hby d1_6) rfl ((if0 _ _).trans (teq c6_1).1) (by decide) (by decide) ?_
      show Steps p.tables e below (s₁.setTop (mkF m 34 #[.val (.long q0), .second, .val (.int p1), .val (.long q2), .second, .val (.int p3), .unset] [])) _
      refine XS.lloadN X0.here hx rfl (hb hby d1_34) rfl ?_
      show Steps p.tables e below (s₁.setTop (mkF m 35 #[.val (.long q0), .second, .val (.int p1), .val (.long q2), .second, .val (.int p3), .unset] [(.long q0)])) _
      refine XS.bipush X0.here hx rfl (hb hby d1_35) ?_
      show Steps p.tables e below (s₁.setTop (mkF m 37 #[.val (.long q0), .second, .val (.int p1), .val (.long q2), .second, .val (.int p3), .unset] [(.int (8 : Int32)), (.long q0)])) _
      refine XS.iload X0.here hx rfl (hb hby d1_37) rfl ?_
      show Steps p.tables e below (s₁.setTop (mkF m 39 #[.val (.long q0), .second, .val (.int p1), .val (.long q2), .second, .val (.int p3), .unset] [(.int p3), (.int (8 : Int32)), (.long q0)])) _
      refine XS.imul X0.here hx rfl (hb hby d1_39) rfl ?_
      show Steps p.tables e below (s₁.setTop (mkF m 40 #[.val (.long q0), .second, .val (.int p1), .val (.long q2), .second, .val (.int p3), .unset] [(.int ((8 : Int32) * p3)), (.long q0)])) _
      refine XS.lushr X0.here hx rfl (hb hby d1_40) rfl ?_
      show Steps p.tables e below (s₁.setTop (mkF m 41 #[.val (.long q0), .second, .val (.int p1), .val (.long q2), .second, .val (.int p3), .unset] [(.long ((q0.toUInt64 >>> (((8 : Int32) * p3) &&& 0x3f).toInt64.toUInt64).toInt64))])) _
      refine XS.l2i X0.here hx rfl (hb hby d1_41) rfl ?_
      show Steps p.tables e below (s₁.setTop (mkF m 42 #[.val (.long q0), .second, .val (.int p1), .val (.long q2), .second, .val (.int p3), .unset] [(.int (((q0.toUInt64 >>> (((8 : Int32) * p3) &&& 0x3f).toInt64.toUInt64).toInt64).toInt32))])) _
      refine XS.i2b X0.here hx rfl (hb hby d1_42) rfl ?_
      show Steps p.tables e below (s₁.setTop (mkF m 43 #[.val (.long q0), .second, .val (.int p1), .val (.long q2), .second, .val (.int p3), .unset] [(.int ((((q0.toUInt64 >>> (((8 : Int32) * p3) &&& 0x3f).toInt64.toUInt64).toInt64).toInt32).toInt8.toInt32))])) _
      exact k
    exact own_retN X0 hx (t := .byte) hret (by simp) hlk (hb hby d1_43) (⟨congrArg some (congrArg Value.int (by rw [← hv]; unfold B1_0; rw [if_pos c6_1]; first | done | rfl)), N0, e0⟩) (by decide) (by decide)
  · refine own_Go.mono (T' := s₁) (f' := (mkF m 33 #[.val (.long q0), .second, .val (.int p1), .val (.long q2), .second, .val (.int p3), .val (.int (((((q2.toUInt64 >>> (((8 : Int32) * p3) &&& 0x3f).toInt64.toUInt64).toInt64) &&& (255 : Int64)) % (10 : Int64)).toInt32))] [(.int (((48 : Int32) + (((((q2.toUInt64 >>> (((8 : Int32) * p3) &&& 0x3f).toInt64.toUInt64).toInt64) &&& (255 : Int64)) % (10 : Int64)).toInt32)).toInt8.toInt32))])) (fun t k => ?_) ?_
    · show Steps p.tables e below (s₁.setTop (mkF m 6 #[.val (.long q0), .second, .val (.int p1), .val (.long q2), .second, .val (.int p3), .unset] [(.int (((p1.toUInt32 >>> (p3 &&& 31).toUInt32).toInt32) &&& (1 : Int32)))])) _
      refine XS.ifNo X0.here hx rfl (hb hby d1_6) rfl ((if0 _ _).trans (feq c6_1).1) ?_
      show Steps p.tables e below (s₁.setTop (mkF m 9 #[.val (.long q0), .second, .val (.int p1), .val (.long q2), .second, .val (.int p3), .unset] [])) _
      refine XS.lloadN X0.here hx rfl (hb hby d1_9) rfl ?_
      show Steps p.tables e below (s₁.setTop (mkF m 10 #[.val (.long q0), .second, .val (.int p1), .val (.long q2), .second, .val (.int p3), .unset] [(.long q2)])) _
      refine XS.bipush X0.here hx rfl (hb hby d1_10) ?_
      show Steps p.tables e below (s₁.setTop (mkF m 12 #[.val (.long q0), .second, .val (.int p1), .val (.long q2), .second, .val (.int p3), .unset] [(.int (8 : Int32)), (.long q2)])) _
      refine XS.iload X0.here hx rfl (hb hby d1_12) rfl ?_
      show Steps p.tables e below (s₁.setTop (mkF m 14 #[.val (.long q0), .second, .val (.int p1), .val (.long q2), .second, .val (.int p3), .unset] [(.int p3), (.int (8 : Int32)), (.long q2)])) _
      refine XS.imul X0.here hx rfl (hb hby d1_14) rfl ?_
      show Steps p.tables e below (s₁.setTop (mkF m 15 #[.val (.long q0), .second, .val (.int p1), .val (.long q2), .second, .val (.int p3), .unset] [(.int ((8 : Int32) * p3)), (.long q2)])) _
      refine XS.lushr X0.here hx rfl (hb hby d1_15) rfl ?_
      show Steps p.tables e below (s₁.setTop (mkF m 16 #[.val (.long q0), .second, .val (.int p1), .val (.long q2), .second, .val (.int p3), .unset] [(.long ((q2.toUInt64 >>> (((8 : Int32) * p3) &&& 0x3f).toInt64.toUInt64).toInt64))])) _
      refine X0.ldc2Long hx hown (mvT hZ (hw _ (List.mem_of_getElem? (i := 5) rfl))) (g := (mkF m 16 #[.val (.long q0), .second, .val (.int p1), .val (.long q2), .second, .val (.int p3), .unset] [(.long ((q2.toUInt64 >>> (((8 : Int32) * p3) &&& 0x3f).toInt64.toUInt64).toInt64))])) rfl (hb hby d1_16) _ ?_
      show Steps p.tables e below (s₁.setTop (mkF m 19 #[.val (.long q0), .second, .val (.int p1), .val (.long q2), .second, .val (.int p3), .unset] [(.long (255 : Int64)), (.long ((q2.toUInt64 >>> (((8 : Int32) * p3) &&& 0x3f).toInt64.toUInt64).toInt64))])) _
      refine XS.land X0.here hx rfl (hb hby d1_19) rfl ?_
      show Steps p.tables e below (s₁.setTop (mkF m 20 #[.val (.long q0), .second, .val (.int p1), .val (.long q2), .second, .val (.int p3), .unset] [(.long (((q2.toUInt64 >>> (((8 : Int32) * p3) &&& 0x3f).toInt64.toUInt64).toInt64) &&& (255 : Int64)))])) _
      refine X0.ldc2Long hx hown (mvT hZ (hw _ (List.mem_of_getElem? (i := 6) rfl))) (g := (mkF m 20 #[.val (.long q0), .second, .val (.int p1), .val (.long q2), .second, .val (.int p3), .unset] [(.long (((q2.toUInt64 >>> (((8 : Int32) * p3) &&& 0x3f).toInt64.toUInt64).toInt64) &&& (255 : Int64)))])) rfl (hb hby d1_20) _ ?_
      show Steps p.tables e below (s₁.setTop (mkF m 23 #[.val (.long q0), .second, .val (.int p1), .val (.long q2), .second, .val (.int p3), .unset] [(.long (10 : Int64)), (.long (((q2.toUInt64 >>> (((8 : Int32) * p3) &&& 0x3f).toInt64.toUInt64).toInt64) &&& (255 : Int64)))])) _
      refine own_lremM X0 hx rfl (hb hby d1_23) rfl (by decide) ?_
      show Steps p.tables e below (s₁.setTop (mkF m 24 #[.val (.long q0), .second, .val (.int p1), .val (.long q2), .second, .val (.int p3), .unset] [(.long ((((q2.toUInt64 >>> (((8 : Int32) * p3) &&& 0x3f).toInt64.toUInt64).toInt64) &&& (255 : Int64)) % (10 : Int64)))])) _
      refine XS.l2i X0.here hx rfl (hb hby d1_24) rfl ?_
      show Steps p.tables e below (s₁.setTop (mkF m 25 #[.val (.long q0), .second, .val (.int p1), .val (.long q2), .second, .val (.int p3), .unset] [(.int (((((q2.toUInt64 >>> (((8 : Int32) * p3) &&& 0x3f).toInt64.toUInt64).toInt64) &&& (255 : Int64)) % (10 : Int64)).toInt32))])) _
      refine XS.istore X0.here hx rfl (hb hby d1_25) rfl (l' := #[.val (.long q0), .second, .val (.int p1), .val (.long q2), .second, .val (.int p3), .val (.int (((((q2.toUInt64 >>> (((8 : Int32) * p3) &&& 0x3f).toInt64.toUInt64).toInt64) &&& (255 : Int64)) % (10 : Int64)).toInt32))]) rfl ?_
      show Steps p.tables e below (s₁.setTop (mkF m 27 #[.val (.long q0), .second, .val (.int p1), .val (.long q2), .second, .val (.int p3), .val (.int (((((q2.toUInt64 >>> (((8 : Int32) * p3) &&& 0x3f).toInt64.toUInt64).toInt64) &&& (255 : Int64)) % (10 : Int64)).toInt32))] [])) _
      refine XS.bipush X0.here hx rfl (hb hby d1_27) ?_
      show Steps p.tables e below (s₁.setTop (mkF m 29 #[.val (.long q0), .second, .val (.int p1), .val (.long q2), .second, .val (.int p3), .val (.int (((((q2.toUInt64 >>> (((8 : Int32) * p3) &&& 0x3f).toInt64.toUInt64).toInt64) &&& (255 : Int64)) % (10 : Int64)).toInt32))] [(.int (48 : Int32))])) _
      refine XS.iload X0.here hx rfl (hb hby d1_29) rfl ?_
      show Steps p.tables e below (s₁.setTop (mkF m 31 #[.val (.long q0), .second, .val (.int p1), .val (.long q2), .second, .val (.int p3), .val (.int (((((q2.toUInt64 >>> (((8 : Int32) * p3) &&& 0x3f).toInt64.toUInt64).toInt64) &&& (255 : Int64)) % (10 : Int64)).toInt32))] [(.int (((((q2.toUInt64 >>> (((8 : Int32) * p3) &&& 0x3f).toInt64.toUInt64).toInt64) &&& (255 : Int64)) % (10 : Int64)).toInt32)), (.int (48 : Int32))])) _
      refine XS.iadd X0.here hx rfl (hb hby d1_31) rfl ?_
      show Steps p.tables e below (s₁.setTop (mkF m 32 #[.val (.long q0), .second, .val (.int p1), .val (.long q2), .second, .val (.int p3), .val (.int (((((q2.toUInt64 >>> (((8 : Int32) * p3) &&& 0x3f).toInt64.toUInt64).toInt64) &&& (255 : Int64)) % (10 : Int64)).toInt32))] [(.int ((48 : Int32) + (((((q2.toUInt64 >>> (((8 : Int32) * p3) &&& 0x3f).toInt64.toUInt64).toInt64) &&& (255 : Int64)) % (10 : Int64)).toInt32)))])) _
      refine XS.i2b X0.here hx rfl (hb hby d1_32) rfl ?_
      show Steps p.tables e below (s₁.setTop (mkF m 33 #[.val (.long q0), .second, .val (.int p1), .val (.long q2), .second, .val (.int p3), .val (.int (((((q2.toUInt64 >>> (((8 : Int32) * p3) &&& 0x3f).toInt64.toUInt64).toInt64) &&& (255 : Int64)) % (10 : Int64)).toInt32))] [(.int (((48 : Int32) + (((((q2.toUInt64 >>> (((8 : Int32) * p3) &&& 0x3f).toInt64.toUInt64).toInt64) &&& (255 : Int64)) % (10 : Int64)).toInt32)).toInt8.toInt32))])) _
      exact k
    exact own_retN X0 hx (t := .byte) hret (by simp) hlk (hb hby d1_33) (⟨congrArg some (congrArg Value.int (by rw [← hv]; unfold B1_0; rw [if_neg c6_1]; first | done | rfl)), N0, e0⟩) (by decide) (by decide)
theorem d7_0 : decode method_4_code 0 = .ok (.iload_n 0, 1) := by decide +kernel
theorem d7_1 : decode method_4_code 1 = .ok (.bipush 48, 2) := by decide +kernel
theorem d7_3 : decode method_4_code 3 = .ok (.if_icmp .lt 14, 3) := by decide +kernel
theorem d7_6 : decode method_4_code 6 = .ok (.iload_n 0, 1) := by decide +kernel
theorem d7_7 : decode method_4_code 7 = .ok (.bipush 57, 2) := by decide +kernel
theorem d7_9 : decode method_4_code 9 = .ok (.if_icmp .gt 8, 3) := by decide +kernel
theorem d7_12 : decode method_4_code 12 = .ok (.iload_n 0, 1) := by decide +kernel
theorem d7_13 : decode method_4_code 13 = .ok (.bipush 48, 2) := by decide +kernel
theorem d7_15 : decode method_4_code 15 = .ok (.isub, 1) := by decide +kernel
theorem d7_16 : decode method_4_code 16 = .ok (.ireturn, 1) := by decide +kernel
theorem d7_17 : decode method_4_code 17 = .ok (.iconst (-1), 1) := by decide +kernel
theorem d7_18 : decode method_4_code 18 = .ok (.ireturn, 1) := by decide +kernel
def B7_0 (p0 : Int32) : Int32 := (if p0 < (48 : Int32) then (-1 : Int32) else (if (57 : Int32) < p0 then (-1 : Int32) else (p0 - (48 : Int32))))
theorem ef_rm7 (m : MethodId) (x0 : Int32) : entryFrame m #[(.int x0)] 1 = mkF m 0 #[.val (.int x0)] [] := by first | (simp [entryFrame, mkF, argsToLocals, Value.category]; done) | rfl
def Q7 (Z : State) (p0 : Int32)  (h0 : Heap) (n0 : Nat) (v : Option Value) (h : Heap) (L : List Loc) : Prop := v = some (.int (B7_0 p0)) ∧ Fr n0 L ∧ h = h0
set_option maxRecDepth 65536 in
set_option maxHeartbeats 40000000 in
theorem rm7 (l : Launch) (Z : State) (a0 : Array Value) (hw : ∀ d ∈ tables_1, d.before a0 Z = true) (ws : List Jvm.Cond) (p0 : Int32)  (h0 : Heap) (n0 : Nat) (Z0 : n0 ≤ h0.size)  :
    MetFree l (⟨"com/example/linkshelf/linkshelf/marc/Iso2709NumberPinLaw", "digit", "(B)I"⟩ : MethodName) (head1 (Jvm.Cond.code (⟨"com/example/linkshelf/linkshelf/marc/Iso2709NumberPinLaw", "digit", "(B)I"⟩ : MethodName) method_4_code 1 (some .int) :: ws) ({ frames := 0, cells := 0, slots := 0, locals := 0 } : Room)) (fun a U => a = #[(.int p0)] ∧ Z.Warmed39 U.vm ∧ U.heap = h0) (fun _ _ _ _ _ => True) (fun _ U o U' => ∃ v L, o = .returned v ∧ Q7 Z p0  h0 n0 v U'.heap L ∧ FrameEnd U o U' L 0 0) := by
  refine own_body (Qv := Q7 Z p0  h0 n0) (plainFor_of_name (by first | (simp [plainName, overriddenIn]; done) | decide +kernel)) ?_
  intro p e s m below meth c s₁ hx hby hml hret hlk hown hnm hZ X0 e0
  replace hown : s.vm.findClass "com/example/linkshelf/linkshelf/marc/Iso2709NumberPinLaw" = some m.cls := hown
  replace hnm : meth.name = "digit" := hnm
  have N0 := Fr.nil n0
  refine own_Go.mono (T' := s₁) (f' := (mkF m 0 #[.val (.int p0)] [])) (fun t k => castTop (ef_rm7 m p0) k) ?_
  have hv : (B7_0 p0) = (B7_0 p0) := rfl
  refine own_Go.mono (T' := s₁) (f' := (mkF m 3 #[.val (.int p0)] [(.int (48 : Int32)), (.int p0)])) (fun t k => ?_) ?_
  · show Steps p.tables e below (s₁.setTop (mkF m 0 #[.val (.int p0)] [])) _
    refine XS.iloadN X0.here hx rfl (hb hby d7_0) rfl ?_
    show Steps p.tables e below (s₁.setTop (mkF m 1 #[.val (.int p0)] [(.int p0)])) _
    refine XS.bipush X0.here hx rfl (hb hby d7_1) ?_
    show Steps p.tables e below (s₁.setTop (mkF m 3 #[.val (.int p0)] [(.int (48 : Int32)), (.int p0)])) _
    exact k
  by_cases c3_2 : p0 < (48 : Int32)
  · refine own_Go.mono (T' := s₁) (f' := (mkF m 18 #[.val (.int p0)] [(.int (-1 : Int32))])) (fun t k => ?_) ?_
    · show Steps p.tables e below (s₁.setTop (mkF m 3 #[.val (.int p0)] [(.int (48 : Int32)), (.int p0)])) _
      refine XS.icmpYes X0.here hx rfl (pc0 := 3) (pc' := 17) rfl (hb hby d7_3) rfl (tlt c3_2).1 (by decide) (by decide) ?_
      show Steps p.tables e below (s₁.setTop (mkF m 17 #[.val (.int p0)] [])) _
      refine XS.iconst X0.here hx rfl (hb hby d7_17) ?_
      show Steps p.tables e below (s₁.setTop (mkF m 18 #[.val (.int p0)] [(.int (-1 : Int32))])) _
      exact k
    exact own_retI X0 hx hret hlk (hb hby d7_18) (⟨congrArg some (congrArg Value.int (by rw [← hv]; unfold B7_0; rw [if_pos c3_2]; first | done | rfl)), N0, e0⟩) (by decide) (by decide)
  · refine own_Go.mono (T' := s₁) (f' := (mkF m 9 #[.val (.int p0)] [(.int (57 : Int32)), (.int p0)])) (fun t k => ?_) ?_
    · show Steps p.tables e below (s₁.setTop (mkF m 3 #[.val (.int p0)] [(.int (48 : Int32)), (.int p0)])) _
      refine XS.icmpNo X0.here hx rfl (hb hby d7_3) rfl (flt c3_2).1 ?_
      show Steps p.tables e below (s₁.setTop (mkF m 6 #[.val (.int p0)] [])) _
      refine XS.iloadN X0.here hx rfl (hb hby d7_6) rfl ?_
      show Steps p.tables e below (s₁.setTop (mkF m 7 #[.val (.int p0)] [(.int p0)])) _
      refine XS.bipush X0.here hx rfl (hb hby d7_7) ?_
      show Steps p.tables e below (s₁.setTop (mkF m 9 #[.val (.int p0)] [(.int (57 : Int32)), (.int p0)])) _
      exact k
    by_cases c9_3 : (57 : Int32) < p0
    · refine own_Go.mono (T' := s₁) (f' := (mkF m 18 #[.val (.int p0)] [(.int (-1 : Int32))])) (fun t k => ?_) ?_
      · show Steps p.tables e below (s₁.setTop (mkF m 9 #[.val (.int p0)] [(.int (57 : Int32)), (.int p0)])) _
        refine XS.icmpYes X0.here hx rfl (pc0 := 9) (pc' := 17) rfl (hb hby d7_9) rfl (tlt c9_3).2.2.1 (by decide) (by decide) ?_
        show Steps p.tables e below (s₁.setTop (mkF m 17 #[.val (.int p0)] [])) _
        refine XS.iconst X0.here hx rfl (hb hby d7_17) ?_
        show Steps p.tables e below (s₁.setTop (mkF m 18 #[.val (.int p0)] [(.int (-1 : Int32))])) _
        exact k
      exact own_retI X0 hx hret hlk (hb hby d7_18) (⟨congrArg some (congrArg Value.int (by rw [← hv]; unfold B7_0; rw [if_neg c3_2]; rw [if_pos c9_3]; first | done | rfl)), N0, e0⟩) (by decide) (by decide)
    · refine own_Go.mono (T' := s₁) (f' := (mkF m 16 #[.val (.int p0)] [(.int (p0 - (48 : Int32)))])) (fun t k => ?_) ?_
      · show Steps p.tables e below (s₁.setTop (mkF m 9 #[.val (.int p0)] [(.int (57 : Int32)), (.int p0)])) _
        refine XS.icmpNo X0.here hx rfl (hb hby d7_9) rfl (flt c9_3).2.2.1 ?_
        show Steps p.tables e below (s₁.setTop (mkF m 12 #[.val (.int p0)] [])) _
        refine XS.iloadN X0.here hx rfl (hb hby d7_12) rfl ?_
        show Steps p.tables e below (s₁.setTop (mkF m 13 #[.val (.int p0)] [(.int p0)])) _
        refine XS.bipush X0.here hx rfl (hb hby d7_13) ?_
        show Steps p.tables e below (s₁.setTop (mkF m 15 #[.val (.int p0)] [(.int (48 : Int32)), (.int p0)])) _
        refine XS.isub X0.here hx rfl (hb hby d7_15) rfl ?_
        show Steps p.tables e below (s₁.setTop (mkF m 16 #[.val (.int p0)] [(.int (p0 - (48 : Int32)))])) _
        exact k
      exact own_retI X0 hx hret hlk (hb hby d7_16) (⟨congrArg some (congrArg Value.int (by rw [← hv]; unfold B7_0; rw [if_neg c3_2]; rw [if_neg c9_3]; first | done | rfl)), N0, e0⟩) (by decide) (by decide)
theorem d8_0 : decode method_5_code 0 = .ok (.iload_n 0, 1) := by decide +kernel
theorem d8_1 : decode method_5_code 1 = .ok (.ifCond .ne 5, 3) := by decide +kernel
theorem d8_4 : decode method_5_code 4 = .ok (.iconst 1, 1) := by decide +kernel
theorem d8_5 : decode method_5_code 5 = .ok (.ireturn, 1) := by decide +kernel
theorem d8_6 : decode method_5_code 6 = .ok (.iload_n 0, 1) := by decide +kernel
theorem d8_7 : decode method_5_code 7 = .ok (.iconst 1, 1) := by decide +kernel
theorem d8_8 : decode method_5_code 8 = .ok (.if_icmp .ne 6, 3) := by decide +kernel
theorem d8_11 : decode method_5_code 11 = .ok (.bipush 10, 2) := by decide +kernel
theorem d8_13 : decode method_5_code 13 = .ok (.ireturn, 1) := by decide +kernel
theorem d8_14 : decode method_5_code 14 = .ok (.iload_n 0, 1) := by decide +kernel
theorem d8_15 : decode method_5_code 15 = .ok (.iconst 2, 1) := by decide +kernel
theorem d8_16 : decode method_5_code 16 = .ok (.if_icmp .ne 6, 3) := by decide +kernel
theorem d8_19 : decode method_5_code 19 = .ok (.bipush 100, 2) := by decide +kernel
theorem d8_21 : decode method_5_code 21 = .ok (.ireturn, 1) := by decide +kernel
theorem d8_22 : decode method_5_code 22 = .ok (.iload_n 0, 1) := by decide +kernel
theorem d8_23 : decode method_5_code 23 = .ok (.iconst 3, 1) := by decide +kernel
theorem d8_24 : decode method_5_code 24 = .ok (.if_icmp .ne 7, 3) := by decide +kernel
theorem d8_27 : decode method_5_code 27 = .ok (.sipush 1000, 3) := by decide +kernel
theorem d8_30 : decode method_5_code 30 = .ok (.ireturn, 1) := by decide +kernel
theorem d8_31 : decode method_5_code 31 = .ok (.iload_n 0, 1) := by decide +kernel
theorem d8_32 : decode method_5_code 32 = .ok (.iconst 4, 1) := by decide +kernel
theorem d8_33 : decode method_5_code 33 = .ok (.if_icmp .ne 7, 3) := by decide +kernel
theorem d8_36 : decode method_5_code 36 = .ok (.sipush 10000, 3) := by decide +kernel
theorem d8_39 : decode method_5_code 39 = .ok (.ireturn, 1) := by decide +kernel
theorem d8_40 : decode method_5_code 40 = .ok (.ldc 26, 2) := by decide +kernel
theorem d8_42 : decode method_5_code 42 = .ok (.ireturn, 1) := by decide +kernel
def B8_0 (p0 : Int32) : Int32 := (if p0 = (0 : Int32) then (1 : Int32) else (if p0 = (1 : Int32) then (10 : Int32) else (if p0 = (2 : Int32) then (100 : Int32) else (if p0 = (3 : Int32) then (1000 : Int32) else (if p0 = (4 : Int32) then (10000 : Int32) else (100000 : Int32))))))
theorem ef_rm8 (m : MethodId) (x0 : Int32) : entryFrame m #[(.int x0)] 1 = mkF m 0 #[.val (.int x0)] [] := by first | (simp [entryFrame, mkF, argsToLocals, Value.category]; done) | rfl
def Q8 (Z : State) (p0 : Int32)  (h0 : Heap) (n0 : Nat) (v : Option Value) (h : Heap) (L : List Loc) : Prop := v = some (.int (B8_0 p0)) ∧ Fr n0 L ∧ h = h0
set_option maxRecDepth 65536 in
set_option maxHeartbeats 40000000 in
theorem rm8 (l : Launch) (Z : State) (a0 : Array Value) (hw : ∀ d ∈ tables_1, d.before a0 Z = true) (ws : List Jvm.Cond) (p0 : Int32)  (h0 : Heap) (n0 : Nat) (Z0 : n0 ≤ h0.size)  :
    MetFree l (⟨"com/example/linkshelf/linkshelf/marc/Iso2709NumberPinLaw", "pow10", "(I)I"⟩ : MethodName) (head1 (Jvm.Cond.code (⟨"com/example/linkshelf/linkshelf/marc/Iso2709NumberPinLaw", "pow10", "(I)I"⟩ : MethodName) method_5_code 1 (some .int) :: ws) ({ frames := 0, cells := 0, slots := 0, locals := 0 } : Room)) (fun a U => a = #[(.int p0)] ∧ Z.Warmed39 U.vm ∧ U.heap = h0) (fun _ _ _ _ _ => True) (fun _ U o U' => ∃ v L, o = .returned v ∧ Q8 Z p0  h0 n0 v U'.heap L ∧ FrameEnd U o U' L 0 0) := by
  refine own_body (Qv := Q8 Z p0  h0 n0) (plainFor_of_name (by first | (simp [plainName, overriddenIn]; done) | decide +kernel)) ?_
  intro p e s m below meth c s₁ hx hby hml hret hlk hown hnm hZ X0 e0
  replace hown : s.vm.findClass "com/example/linkshelf/linkshelf/marc/Iso2709NumberPinLaw" = some m.cls := hown
  replace hnm : meth.name = "pow10" := hnm
  have N0 := Fr.nil n0
  refine own_Go.mono (T' := s₁) (f' := (mkF m 0 #[.val (.int p0)] [])) (fun t k => castTop (ef_rm8 m p0) k) ?_
  have hv : (B8_0 p0) = (B8_0 p0) := rfl
  refine own_Go.mono (T' := s₁) (f' := (mkF m 1 #[.val (.int p0)] [(.int p0)])) (fun t k => ?_) ?_
  · show Steps p.tables e below (s₁.setTop (mkF m 0 #[.val (.int p0)] [])) _
    refine XS.iloadN X0.here hx rfl (hb hby d8_0) rfl ?_
    show Steps p.tables e below (s₁.setTop (mkF m 1 #[.val (.int p0)] [(.int p0)])) _
    exact k
  by_cases c1_4 : p0 = (0 : Int32)
  · refine own_Go.mono (T' := s₁) (f' := (mkF m 5 #[.val (.int p0)] [(.int (1 : Int32))])) (fun t k => ?_) ?_
    · show Steps p.tables e below (s₁.setTop (mkF m 1 #[.val (.int p0)] [(.int p0)])) _
      refine XS.ifNo X0.here hx rfl (hb hby d8_1) rfl ((if0 _ _).trans (teq c1_4).2) ?_
      show Steps p.tables e below (s₁.setTop (mkF m 4 #[.val (.int p0)] [])) _
      refine XS.iconst X0.here hx rfl (hb hby d8_4) ?_
      show Steps p.tables e below (s₁.setTop (mkF m 5 #[.val (.int p0)] [(.int (1 : Int32))])) _
      exact k
    exact own_retI X0 hx hret hlk (hb hby d8_5) (⟨congrArg some (congrArg Value.int (by rw [← hv]; unfold B8_0; rw [if_pos c1_4]; first | done | rfl)), N0, e0⟩) (by decide) (by decide)
  · refine own_Go.mono (T' := s₁) (f' := (mkF m 8 #[.val (.int p0)] [(.int (1 : Int32)), (.int p0)])) (fun t k => ?_) ?_
    · show Steps p.tables e below (s₁.setTop (mkF m 1 #[.val (.int p0)] [(.int p0)])) _
      refine XS.ifYes X0.here hx rfl (pc0 := 1) (pc' := 6) rfl (hb hby d8_1) rfl ((if0 _ _).trans (feq c1_4).2) (by decide) (by decide) ?_
      show Steps p.tables e below (s₁.setTop (mkF m 6 #[.val (.int p0)] [])) _
      refine XS.iloadN X0.here hx rfl (hb hby d8_6) rfl ?_
      show Steps p.tables e below (s₁.setTop (mkF m 7 #[.val (.int p0)] [(.int p0)])) _
      refine XS.iconst X0.here hx rfl (hb hby d8_7) ?_
      show Steps p.tables e below (s₁.setTop (mkF m 8 #[.val (.int p0)] [(.int (1 : Int32)), (.int p0)])) _
      exact k
    by_cases c8_5 : p0 = (1 : Int32)
    · refine own_Go.mono (T' := s₁) (f' := (mkF m 13 #[.val (.int p0)] [(.int (10 : Int32))])) (fun t k => ?_) ?_
      · show Steps p.tables e below (s₁.setTop (mkF m 8 #[.val (.int p0)] [(.int (1 : Int32)), (.int p0)])) _
        refine XS.icmpNo X0.here hx rfl (hb hby d8_8) rfl (teq c8_5).2 ?_
        show Steps p.tables e below (s₁.setTop (mkF m 11 #[.val (.int p0)] [])) _
        refine XS.bipush X0.here hx rfl (hb hby d8_11) ?_
        show Steps p.tables e below (s₁.setTop (mkF m 13 #[.val (.int p0)] [(.int (10 : Int32))])) _
        exact k
      exact own_retI X0 hx hret hlk (hb hby d8_13) (⟨congrArg some (congrArg Value.int (by rw [← hv]; unfold B8_0; rw [if_neg c1_4]; rw [if_pos c8_5]; first | done | rfl)), N0, e0⟩) (by decide) (by decide)
    · refine own_Go.mono (T' := s₁) (f' := (mkF m 16 #[.val (.int p0)] [(.int (2 : Int32)), (.int p0)])) (fun t k => ?_) ?_
      · show Steps p.tables e below (s₁.setTop (mkF m 8 #[.val (.int p0)] [(.int (1 : Int32)), (.int p0)])) _
        refine XS.icmpYes X0.here hx rfl (pc0 := 8) (pc' := 14) rfl (hb hby d8_8) rfl (feq c8_5).2 (by decide) (by decide) ?_
        show Steps p.tables e below (s₁.setTop (mkF m 14 #[.val (.int p0)] [])) _
        refine XS.iloadN X0.here hx rfl (hb hby d8_14) rfl ?_
        show Steps p.tables e below (s₁.setTop (mkF m 15 #[.val (.int p0)] [(.int p0)])) _
        refine XS.iconst X0.here hx rfl (hb hby d8_15) ?_
        show Steps p.tables e below (s₁.setTop (mkF m 16 #[.val (.int p0)] [(.int (2 : Int32)), (.int p0)])) _
        exact k
      by_cases c16_6 : p0 = (2 : Int32)
      · refine own_Go.mono (T' := s₁) (f' := (mkF m 21 #[.val (.int p0)] [(.int (100 : Int32))])) (fun t k => ?_) ?_
        · show Steps p.tables e below (s₁.setTop (mkF m 16 #[.val (.int p0)] [(.int (2 : Int32)), (.int p0)])) _
          refine XS.icmpNo X0.here hx rfl (hb hby d8_16) rfl (teq c16_6).2 ?_
          show Steps p.tables e below (s₁.setTop (mkF m 19 #[.val (.int p0)] [])) _
          refine XS.bipush X0.here hx rfl (hb hby d8_19) ?_
          show Steps p.tables e below (s₁.setTop (mkF m 21 #[.val (.int p0)] [(.int (100 : Int32))])) _
          exact k
        exact own_retI X0 hx hret hlk (hb hby d8_21) (⟨congrArg some (congrArg Value.int (by rw [← hv]; unfold B8_0; rw [if_neg c1_4]; rw [if_neg c8_5]; rw [if_pos c16_6]; first | done | rfl)), N0, e0⟩) (by decide) (by decide)
      · refine own_Go.mono (T' := s₁) (f' := (mkF m 24 #[.val (.int p0)] [(.int (3 : Int32)), (.int p0)])) (fun t k => ?_) ?_
        · show Steps p.tables e below (s₁.setTop (mkF m 16 #[.val (.int p0)] [(.int (2 : Int32)), (.int p0)])) _
          refine XS.icmpYes X0.here hx rfl (pc0 := 16) (pc' := 22) rfl (hb hby d8_16) rfl (feq c16_6).2 (by decide) (by decide) ?_
          show Steps p.tables e below (s₁.setTop (mkF m 22 #[.val (.int p0)] [])) _
          refine XS.iloadN X0.here hx rfl (hb hby d8_22) rfl ?_
          show Steps p.tables e below (s₁.setTop (mkF m 23 #[.val (.int p0)] [(.int p0)])) _
          refine XS.iconst X0.here hx rfl (hb hby d8_23) ?_
          show Steps p.tables e below (s₁.setTop (mkF m 24 #[.val (.int p0)] [(.int (3 : Int32)), (.int p0)])) _
          exact k
        by_cases c24_7 : p0 = (3 : Int32)
        · refine own_Go.mono (T' := s₁) (f' := (mkF m 30 #[.val (.int p0)] [(.int (1000 : Int32))])) (fun t k => ?_) ?_
          · show Steps p.tables e below (s₁.setTop (mkF m 24 #[.val (.int p0)] [(.int (3 : Int32)), (.int p0)])) _
            refine XS.icmpNo X0.here hx rfl (hb hby d8_24) rfl (teq c24_7).2 ?_
            show Steps p.tables e below (s₁.setTop (mkF m 27 #[.val (.int p0)] [])) _
            refine XS.sipush X0.here hx rfl (hb hby d8_27) ?_
            show Steps p.tables e below (s₁.setTop (mkF m 30 #[.val (.int p0)] [(.int (1000 : Int32))])) _
            exact k
          exact own_retI X0 hx hret hlk (hb hby d8_30) (⟨congrArg some (congrArg Value.int (by rw [← hv]; unfold B8_0; rw [if_neg c1_4]; rw [if_neg c8_5]; rw [if_neg c16_6]; rw [if_pos c24_7]; first | done | rfl)), N0, e0⟩) (by decide) (by decide)
        · refine own_Go.mono (T' := s₁) (f' := (mkF m 33 #[.val (.int p0)] [(.int (4 : Int32)), (.int p0)])) (fun t k => ?_) ?_
          · show Steps p.tables e below (s₁.setTop (mkF m 24 #[.val (.int p0)] [(.int (3 : Int32)), (.int p0)])) _
            refine XS.icmpYes X0.here hx rfl (pc0 := 24) (pc' := 31) rfl (hb hby d8_24) rfl (feq c24_7).2 (by decide) (by decide) ?_
            show Steps p.tables e below (s₁.setTop (mkF m 31 #[.val (.int p0)] [])) _
            refine XS.iloadN X0.here hx rfl (hb hby d8_31) rfl ?_
            show Steps p.tables e below (s₁.setTop (mkF m 32 #[.val (.int p0)] [(.int p0)])) _
            refine XS.iconst X0.here hx rfl (hb hby d8_32) ?_
            show Steps p.tables e below (s₁.setTop (mkF m 33 #[.val (.int p0)] [(.int (4 : Int32)), (.int p0)])) _
            exact k
          by_cases c33_8 : p0 = (4 : Int32)
          · refine own_Go.mono (T' := s₁) (f' := (mkF m 39 #[.val (.int p0)] [(.int (10000 : Int32))])) (fun t k => ?_) ?_
            · show Steps p.tables e below (s₁.setTop (mkF m 33 #[.val (.int p0)] [(.int (4 : Int32)), (.int p0)])) _
              refine XS.icmpNo X0.here hx rfl (hb hby d8_33) rfl (teq c33_8).2 ?_
              show Steps p.tables e below (s₁.setTop (mkF m 36 #[.val (.int p0)] [])) _
              refine XS.sipush X0.here hx rfl (hb hby d8_36) ?_
              show Steps p.tables e below (s₁.setTop (mkF m 39 #[.val (.int p0)] [(.int (10000 : Int32))])) _
              exact k
            exact own_retI X0 hx hret hlk (hb hby d8_39) (⟨congrArg some (congrArg Value.int (by rw [← hv]; unfold B8_0; rw [if_neg c1_4]; rw [if_neg c8_5]; rw [if_neg c16_6]; rw [if_neg c24_7]; rw [if_pos c33_8]; first | done | rfl)), N0, e0⟩) (by decide) (by decide)
          · refine own_Go.mono (T' := s₁) (f' := (mkF m 42 #[.val (.int p0)] [(.int (100000 : Int32))])) (fun t k => ?_) ?_
            · show Steps p.tables e below (s₁.setTop (mkF m 33 #[.val (.int p0)] [(.int (4 : Int32)), (.int p0)])) _
              refine XS.icmpYes X0.here hx rfl (pc0 := 33) (pc' := 40) rfl (hb hby d8_33) rfl (feq c33_8).2 (by decide) (by decide) ?_
              show Steps p.tables e below (s₁.setTop (mkF m 40 #[.val (.int p0)] [])) _
              refine X0.ldcInt hx hown (mvT hZ (hw _ (List.mem_of_getElem? (i := 29) rfl))) (g := (mkF m 40 #[.val (.int p0)] [])) rfl (hb hby d8_40) _ ?_
              show Steps p.tables e below (s₁.setTop (mkF m 42 #[.val (.int p0)] [(.int (100000 : Int32))])) _
              exact k
            exact own_retI X0 hx hret hlk (hb hby d8_42) (⟨congrArg some (congrArg Value.int (by rw [← hv]; unfold B8_0; rw [if_neg c1_4]; rw [if_neg c8_5]; rw [if_neg c16_6]; rw [if_neg c24_7]; rw [if_neg c33_8]; first | done | rfl)), N0, e0⟩) (by decide) (by decide)
theorem d4_0 : decode method_6_code 0 = .ok (.iload_n 0, 1) := by decide +kernel
theorem d4_1 : decode method_6_code 1 = .ok (.iload_n 1, 1) := by decide +kernel
theorem d4_2 : decode method_6_code 2 = .ok (.if_icmp .lt 14, 3) := by decide +kernel
theorem d4_5 : decode method_6_code 5 = .ok (.iload_n 0, 1) := by decide +kernel
theorem d4_6 : decode method_6_code 6 = .ok (.iload_n 1, 1) := by decide +kernel
theorem d4_7 : decode method_6_code 7 = .ok (.iload_n 2, 1) := by decide +kernel
theorem d4_8 : decode method_6_code 8 = .ok (.iadd, 1) := by decide +kernel
theorem d4_9 : decode method_6_code 9 = .ok (.if_icmp .ge 7, 3) := by decide +kernel
theorem d4_12 : decode method_6_code 12 = .ok (.iconst 1, 1) := by decide +kernel
theorem d4_13 : decode method_6_code 13 = .ok (.goto 4, 3) := by decide +kernel
theorem d4_16 : decode method_6_code 16 = .ok (.iconst 0, 1) := by decide +kernel
theorem d4_17 : decode method_6_code 17 = .ok (.ireturn, 1) := by decide +kernel
def B4_0 (p0 : Int32) (p1 : Int32) (p2 : Int32) : Int32 := (if p0 < p1 then (0 : Int32) else (if p0 < (p1 + p2) then (1 : Int32) else (0 : Int32)))
theorem ef_rm4 (m : MethodId) (x0 : Int32) (x1 : Int32) (x2 : Int32) : entryFrame m #[(.int x0), (.int x1), (.int x2)] 3 = mkF m 0 #[.val (.int x0), .val (.int x1), .val (.int x2)] [] := by first | (simp [entryFrame, mkF, argsToLocals, Value.category]; done) | rfl
def Q4 (Z : State) (p0 : Int32) (p1 : Int32) (p2 : Int32)  (h0 : Heap) (n0 : Nat) (v : Option Value) (h : Heap) (L : List Loc) : Prop := v = some (.int (B4_0 p0 p1 p2)) ∧ Fr n0 L ∧ h = h0
set_option maxRecDepth 65536 in
set_option maxHeartbeats 40000000 in
theorem rm4 (l : Launch) (Z : State) (a0 : Array Value) (hw : ∀ d ∈ tables_1, d.before a0 Z = true) (ws : List Jvm.Cond) (p0 : Int32) (p1 : Int32) (p2 : Int32)  (h0 : Heap) (n0 : Nat) (Z0 : n0 ≤ h0.size)  :
    MetFree l (⟨"com/example/linkshelf/linkshelf/marc/Iso2709NumberPinLaw", "inRange", "(III)Z"⟩ : MethodName) (head1 (Jvm.Cond.code (⟨"com/example/linkshelf/linkshelf/marc/Iso2709NumberPinLaw", "inRange", "(III)Z"⟩ : MethodName) method_6_code 3 (some .boolean) :: ws) ({ frames := 0, cells := 0, slots := 0, locals := 0 } : Room)) (fun a U => a = #[(.int p0), (.int p1), (.int p2)] ∧ Z.Warmed39 U.vm ∧ U.heap = h0) (fun _ _ _ _ _ => True) (fun _ U o U' => ∃ v L, o = .returned v ∧ Q4 Z p0 p1 p2  h0 n0 v U'.heap L ∧ FrameEnd U o U' L 0 0) := by
  refine own_body (Qv := Q4 Z p0 p1 p2  h0 n0) (plainFor_of_name (by first | (simp [plainName, overriddenIn]; done) | decide +kernel)) ?_
  intro p e s m below meth c s₁ hx hby hml hret hlk hown hnm hZ X0 e0
  replace hown : s.vm.findClass "com/example/linkshelf/linkshelf/marc/Iso2709NumberPinLaw" = some m.cls := hown
  replace hnm : meth.name = "inRange" := hnm
  have N0 := Fr.nil n0
  refine own_Go.mono (T' := s₁) (f' := (mkF m 0 #[.val (.int p0), .val (.int p1), .val (.int p2)] [])) (fun t k => castTop (ef_rm4 m p0 p1 p2) k) ?_
  have hv : (B4_0 p0 p1 p2) = (B4_0 p0 p1 p2) := rfl
  refine own_Go.mono (T' := s₁) (f' := (mkF m 2 #[.val (.int p0), .val (.int p1), .val (.int p2)] [(.int p1), (.int p0)])) (fun t k => ?_) ?_
  · show Steps p.tables e below (s₁.setTop (mkF m 0 #[.val (.int p0), .val (.int p1), .val (.int p2)] [])) _
    refine XS.iloadN X0.here hx rfl (hb hby d4_0) rfl ?_
    show Steps p.tables e below (s₁.setTop (mkF m 1 #[.val (.int p0), .val (.int p1), .val (.int p2)] [(.int p0)])) _
    refine XS.iloadN X0.here hx rfl (hb hby d4_1) rfl ?_
    show Steps p.tables e below (s₁.setTop (mkF m 2 #[.val (.int p0), .val (.int p1), .val (.int p2)] [(.int p1), (.int p0)])) _
    exact k
  by_cases c2_9 : p0 < p1
  · refine own_Go.mono (T' := s₁) (f' := (mkF m 17 #[.val (.int p0), .val (.int p1), .val (.int p2)] [(.int (0 : Int32))])) (fun t k => ?_) ?_
    · show Steps p.tables e below (s₁.setTop (mkF m 2 #[.val (.int p0), .val (.int p1), .val (.int p2)] [(.int p1), (.int p0)])) _
      refine XS.icmpYes X0.here hx rfl (pc0 := 2) (pc' := 16) rfl (hb hby d4_2) rfl (tlt c2_9).1 (by decide) (by decide) ?_
      show Steps p.tables e below (s₁.setTop (mkF m 16 #[.val (.int p0), .val (.int p1), .val (.int p2)] [])) _
      refine XS.iconst X0.here hx rfl (hb hby d4_16) ?_
      show Steps p.tables e below (s₁.setTop (mkF m 17 #[.val (.int p0), .val (.int p1), .val (.int p2)] [(.int (0 : Int32))])) _
      exact k
    exact own_retN X0 hx (t := .boolean) hret (by simp) hlk (hb hby d4_17) (⟨congrArg some (congrArg Value.int (by rw [← hv]; unfold B4_0; rw [if_pos c2_9]; first | done | rfl)), N0, e0⟩) (by decide) (by decide)
  · refine own_Go.mono (T' := s₁) (f' := (mkF m 9 #[.val (.int p0), .val (.int p1), .val (.int p2)] [(.int (p1 + p2)), (.int p0)])) (fun t k => ?_) ?_
    · show Steps p.tables e below (s₁.setTop (mkF m 2 #[.val (.int p0), .val (.int p1), .val (.int p2)] [(.int p1), (.int p0)])) _
      refine XS.icmpNo X0.here hx rfl (hb hby d4_2) rfl (flt c2_9).1 ?_
      show Steps p.tables e below (s₁.setTop (mkF m 5 #[.val (.int p0), .val (.int p1), .val (.int p2)] [])) _
      refine XS.iloadN X0.here hx rfl (hb hby d4_5) rfl ?_
      show Steps p.tables e below (s₁.setTop (mkF m 6 #[.val (.int p0), .val (.int p1), .val (.int p2)] [(.int p0)])) _
      refine XS.iloadN X0.here hx rfl (hb hby d4_6) rfl ?_
      show Steps p.tables e below (s₁.setTop (mkF m 7 #[.val (.int p0), .val (.int p1), .val (.int p2)] [(.int p1), (.int p0)])) _
      refine XS.iloadN X0.here hx rfl (hb hby d4_7) rfl ?_
      show Steps p.tables e below (s₁.setTop (mkF m 8 #[.val (.int p0), .val (.int p1), .val (.int p2)] [(.int p2), (.int p1), (.int p0)])) _
      refine XS.iadd X0.here hx rfl (hb hby d4_8) rfl ?_
      show Steps p.tables e below (s₁.setTop (mkF m 9 #[.val (.int p0), .val (.int p1), .val (.int p2)] [(.int (p1 + p2)), (.int p0)])) _
      exact k
    by_cases c9_10 : p0 < (p1 + p2)
    · refine own_Go.mono (T' := s₁) (f' := (mkF m 17 #[.val (.int p0), .val (.int p1), .val (.int p2)] [(.int (1 : Int32))])) (fun t k => ?_) ?_
      · show Steps p.tables e below (s₁.setTop (mkF m 9 #[.val (.int p0), .val (.int p1), .val (.int p2)] [(.int (p1 + p2)), (.int p0)])) _
        refine XS.icmpNo X0.here hx rfl (hb hby d4_9) rfl (tlt c9_10).2.1 ?_
        show Steps p.tables e below (s₁.setTop (mkF m 12 #[.val (.int p0), .val (.int p1), .val (.int p2)] [])) _
        refine XS.iconst X0.here hx rfl (hb hby d4_12) ?_
        show Steps p.tables e below (s₁.setTop (mkF m 13 #[.val (.int p0), .val (.int p1), .val (.int p2)] [(.int (1 : Int32))])) _
        refine XS.goto X0.here hx rfl (pc0 := 13) (pc' := 17) rfl (hb hby d4_13) (by decide) (by decide) ?_
        show Steps p.tables e below (s₁.setTop (mkF m 17 #[.val (.int p0), .val (.int p1), .val (.int p2)] [(.int (1 : Int32))])) _
        exact k
      exact own_retN X0 hx (t := .boolean) hret (by simp) hlk (hb hby d4_17) (⟨congrArg some (congrArg Value.int (by rw [← hv]; unfold B4_0; rw [if_neg c2_9]; rw [if_pos c9_10]; first | done | rfl)), N0, e0⟩) (by decide) (by decide)
    · refine own_Go.mono (T' := s₁) (f' := (mkF m 17 #[.val (.int p0), .val (.int p1), .val (.int p2)] [(.int (0 : Int32))])) (fun t k => ?_) ?_
      · show Steps p.tables e below (s₁.setTop (mkF m 9 #[.val (.int p0), .val (.int p1), .val (.int p2)] [(.int (p1 + p2)), (.int p0)])) _
        refine XS.icmpYes X0.here hx rfl (pc0 := 9) (pc' := 16) rfl (hb hby d4_9) rfl (flt c9_10).2.1 (by decide) (by decide) ?_
        show Steps p.tables e below (s₁.setTop (mkF m 16 #[.val (.int p0), .val (.int p1), .val (.int p2)] [])) _
        refine XS.iconst X0.here hx rfl (hb hby d4_16) ?_
        show Steps p.tables e below (s₁.setTop (mkF m 17 #[.val (.int p0), .val (.int p1), .val (.int p2)] [(.int (0 : Int32))])) _
        exact k
      exact own_retN X0 hx (t := .boolean) hret (by simp) hlk (hb hby d4_17) (⟨congrArg some (congrArg Value.int (by rw [← hv]; unfold B4_0; rw [if_neg c2_9]; rw [if_neg c9_10]; first | done | rfl)), N0, e0⟩) (by decide) (by decide)
theorem d3_0 : decode method_7_code 0 = .ok (.iload_n 1, 1) := by decide +kernel
theorem d3_1 : decode method_7_code 1 = .ok (.iload_n 2, 1) := by decide +kernel
theorem d3_2 : decode method_7_code 2 = .ok (.iload_n 3, 1) := by decide +kernel
theorem d3_3 : decode method_7_code 3 = .ok (.invokestatic 27, 3) := by decide +kernel
theorem d3_6 : decode method_7_code 6 = .ok (.ifCond .eq 16, 3) := by decide +kernel
theorem d3_9 : decode method_7_code 9 = .ok (.aload_n 0, 1) := by decide +kernel
theorem d3_10 : decode method_7_code 10 = .ok (.iload_n 1, 1) := by decide +kernel
theorem d3_11 : decode method_7_code 11 = .ok (.baload, 1) := by decide +kernel
theorem d3_12 : decode method_7_code 12 = .ok (.invokestatic 31, 3) := by decide +kernel
theorem d3_15 : decode method_7_code 15 = .ok (.ifCond .ge 7, 3) := by decide +kernel
theorem d3_18 : decode method_7_code 18 = .ok (.iconst 1, 1) := by decide +kernel
theorem d3_19 : decode method_7_code 19 = .ok (.goto 4, 3) := by decide +kernel
theorem d3_22 : decode method_7_code 22 = .ok (.iconst 0, 1) := by decide +kernel
theorem d3_23 : decode method_7_code 23 = .ok (.ireturn, 1) := by decide +kernel
def own_bad (x i f c : Int32) : Int32 := if B4_0 i f c = 0 then 0 else if B7_0 x < 0 then 1 else 0
theorem ef_rm3 (m : MethodId) (x0 : Addr) (x1 : Int32) (x2 : Int32) (x3 : Int32) : entryFrame m #[(.ref x0), (.int x1), (.int x2), (.int x3)] 4 = mkF m 0 #[.val (.ref x0), .val (.int x1), .val (.int x2), .val (.int x3)] [] := by first | (simp [entryFrame, mkF, argsToLocals, Value.category]; done) | rfl
def Q3 (Z : State) (a1 : Addr) (p1 : Int32) (p2 : Int32) (p3 : Int32) (k : ClassId) (vs : List Value) (dv : Value) (x : Int32) (h0 : Heap) (n0 : Nat) (v : Option Value) (h : Heap) (L : List Loc) : Prop := v = some (.int (own_bad x p1 p2 p3)) ∧ Fr n0 L ∧ h = h0
set_option maxRecDepth 65536 in
set_option maxHeartbeats 40000000 in
theorem rm3 (l : Launch) (Z : State) (a0 : Array Value) (hw : ∀ d ∈ tables_1, d.before a0 Z = true) (ws : List Jvm.Cond) (a1 : Addr) (p1 : Int32) (p2 : Int32) (p3 : Int32) (k : ClassId) (vs : List Value) (dv : Value) (x : Int32) (h0 : Heap) (n0 : Nat) (Z0 : n0 ≤ h0.size) (V : Arv Z h0 a1 k .byte (6 : Int32) vs dv) (hi : ¬ p1 < 0 ∧ p1 < (6 : Int32)) (hxv : vs.getD p1.toNatClampNeg dv = .int x) :
    MetFree l (⟨"com/example/linkshelf/linkshelf/marc/Iso2709NumberPinLaw", "bad", "([BIII)Z"⟩ : MethodName) (head1 (Jvm.Cond.code (⟨"com/example/linkshelf/linkshelf/marc/Iso2709NumberPinLaw", "bad", "([BIII)Z"⟩ : MethodName) method_7_code 4 (some .boolean) :: ws) ({ frames := 1, cells := 0, slots := 0, locals := 14 } : Room)) (fun a U => a = #[(.ref a1), (.int p1), (.int p2), (.int p3)] ∧ Z.Warmed39 U.vm ∧ U.heap = h0) (fun _ _ _ _ _ => True) (fun _ U o U' => ∃ v L, o = .returned v ∧ Q3 Z a1 p1 p2 p3 k vs dv x h0 n0 v U'.heap L ∧ FrameEnd U o U' L 0 0) := by
  refine own_body (Qv := Q3 Z a1 p1 p2 p3 k vs dv x h0 n0) (plainFor_of_name (by first | (simp [plainName, overriddenIn]; done) | decide +kernel)) ?_
  intro p e s m below meth c s₁ hx hby hml hret hlk hown hnm hZ X0 e0
  replace hown : s.vm.findClass "com/example/linkshelf/linkshelf/marc/Iso2709NumberPinLaw" = some m.cls := hown
  replace hnm : meth.name = "bad" := hnm
  have N0 := Fr.nil n0
  refine own_Go.mono (T' := s₁) (f' := (mkF m 0 #[.val (.ref a1), .val (.int p1), .val (.int p2), .val (.int p3)] [])) (fun t k => castTop (ef_rm3 m a1 p1 p2 p3) k) ?_
  obtain ⟨_, _, ⟨T11, L11, k11, n11⟩, -, X11, ⟨Lc11, hQ11, l11, y11, z11⟩, st11⟩ := Jvm.LawKit.callS X0 hx (y := (⟨"com/example/linkshelf/linkshelf/marc/Iso2709NumberPinLaw", "inRange", "(III)Z"⟩ : MethodName)) hown (mvT hZ (hw _ (List.mem_of_getElem? (i := 13) rfl))) (mvT hZ (hw _ (List.mem_of_getElem? (i := 14) rfl))) (mvT hZ (hw _ (List.mem_of_getElem? (i := 3) rfl))) (mvT hZ (hw _ (List.mem_of_getElem? (i := 15) rfl))) (by decide) (backOf (W := 0) (rm4 l Z a0 hw [] p1 p2 p3 h0 n0 Z0) hZ (hw _ (List.mem_of_getElem? (i := 15) rfl)) (hw _ (List.mem_of_getElem? (i := 3) rfl)) (by decide) (by decide)) (g := (mkF m 3 #[.val (.ref a1), .val (.int p1), .val (.int p2), .val (.int p3)] [(.int p3), (.int p2), (.int p1)])) rfl (by rw [hml]; rfl) (argsL := [(.int p1), (.int p2), (.int p3)]) (rest := []) (lenOf pd_0 rfl) rfl (by show 2 * 0 + _ ≤ _; exact Nat.le_of_eq rfl) (hb hby d3_3) (fun _ _ => ⟨rfl, e0, (by decide : 0 + 0 ≤ _), (by decide : 0 + 0 ≤ _)⟩)
  dsimp only [Pt.U, Pt.locs, Pt.cells, Pt.slots] at X11 l11 y11 z11 st11 hQ11
  subst l11 y11 z11
  obtain ⟨rfl, N11q, hh11⟩ := hQ11
  have N11 := Fr.app N0 N11q
  refine own_Go.mono (T' := T11) (f' := (mkF m 6 #[.val (.ref a1), .val (.int p1), .val (.int p2), .val (.int p3)] [(.int (B4_0 p1 p2 p3))])) (fun t k => ?_) ?_
  · show Steps p.tables e below (s₁.setTop (mkF m 0 #[.val (.ref a1), .val (.int p1), .val (.int p2), .val (.int p3)] [])) _
    refine XS.iloadN X0.here hx rfl (hb hby d3_0) rfl ?_
    show Steps p.tables e below (s₁.setTop (mkF m 1 #[.val (.ref a1), .val (.int p1), .val (.int p2), .val (.int p3)] [(.int p1)])) _
    refine XS.iloadN X0.here hx rfl (hb hby d3_1) rfl ?_
    show Steps p.tables e below (s₁.setTop (mkF m 2 #[.val (.ref a1), .val (.int p1), .val (.int p2), .val (.int p3)] [(.int p2), (.int p1)])) _
    refine XS.iloadN X0.here hx rfl (hb hby d3_2) rfl ?_
    show Steps p.tables e below (s₁.setTop (mkF m 3 #[.val (.ref a1), .val (.int p1), .val (.int p2), .val (.int p3)] [(.int p3), (.int p2), (.int p1)])) _
    refine st11 _ ?_
    show Steps p.tables e below (T11.setTop (mkF m 6 #[.val (.ref a1), .val (.int p1), .val (.int p2), .val (.int p3)] [(.int (B4_0 p1 p2 p3))])) _
    exact k
  by_cases c6_12 : (B4_0 p1 p2 p3) = (0 : Int32)
  · refine own_Go.mono (T' := T11) (f' := (mkF m 23 #[.val (.ref a1), .val (.int p1), .val (.int p2), .val (.int p3)] [(.int (0 : Int32))])) (fun t k => ?_) ?_
    · show Steps p.tables e below (T11.setTop (mkF m 6 #[.val (.ref a1), .val (.int p1), .val (.int p2), .val (.int p3)] [(.int (B4_0 p1 p2 p3))])) _
      refine XS.ifYes X11.here hx rfl (pc0 := 6) (pc' := 22) rfl (hb hby d3_6) rfl ((if0 _ _).trans (teq c6_12).1) (by decide) (by decide) ?_
      show Steps p.tables e below (T11.setTop (mkF m 22 #[.val (.ref a1), .val (.int p1), .val (.int p2), .val (.int p3)] [])) _
      refine XS.iconst X11.here hx rfl (hb hby d3_22) ?_
      show Steps p.tables e below (T11.setTop (mkF m 23 #[.val (.ref a1), .val (.int p1), .val (.int p2), .val (.int p3)] [(.int (0 : Int32))])) _
      exact k
    exact own_retN X11 hx (t := .boolean) hret (by simp) hlk (hb hby d3_23) (⟨congrArg some (congrArg Value.int (by unfold own_bad; rw [if_pos c6_12]; first | done | rfl)), N11, hh11⟩) (by decide) (by decide)
  · obtain ⟨cl13, Ar13, q13, S13, P13, H13, G13⟩ := V
    have hin14 : ¬ (p1 < 0 ∨ cl13.slots.size ≤ (p1).toNatClampNeg) := inb_of S13 hi
    have hat14 : cl13.slots[(p1).toNatClampNeg]? = some (.int x) := H13.at hin14 hxv
    have V_a1_14 : Arv Z h0 a1 k .byte (6 : Int32) vs dv := ⟨cl13, Ar13, q13, S13, P13, H13, G13⟩
    obtain ⟨_, _, ⟨T15, L15, k15, n15⟩, -, X15, ⟨Lc15, hQ15, l15, y15, z15⟩, st15⟩ := Jvm.LawKit.callS X11 hx (y := (⟨"com/example/linkshelf/linkshelf/marc/Iso2709NumberPinLaw", "digit", "(B)I"⟩ : MethodName)) hown (mvT hZ (hw _ (List.mem_of_getElem? (i := 23) rfl))) (mvT hZ (hw _ (List.mem_of_getElem? (i := 24) rfl))) (mvT hZ (hw _ (List.mem_of_getElem? (i := 3) rfl))) (mvT hZ (hw _ (List.mem_of_getElem? (i := 25) rfl))) (by decide) (backOf (W := 0) (rm7 l Z a0 hw [] x h0 n0 Z0) hZ (hw _ (List.mem_of_getElem? (i := 25) rfl)) (hw _ (List.mem_of_getElem? (i := 3) rfl)) (by decide) (by decide)) (g := (mkF m 12 #[.val (.ref a1), .val (.int p1), .val (.int p2), .val (.int p3)] [(.int x)])) rfl (by rw [hml]; rfl) (argsL := [(.int x)]) (rest := []) (lenOf pd_1 rfl) rfl (by show 2 * 0 + _ ≤ _; exact Nat.le_of_eq rfl) (hb hby d3_12) (fun _ _ => ⟨rfl, hh11, (by decide : 0 + 0 ≤ _), (by decide : 0 + 0 ≤ _)⟩)
    dsimp only [Pt.U, Pt.locs, Pt.cells, Pt.slots] at X15 l15 y15 z15 st15 hQ15
    subst l15 y15 z15
    obtain ⟨rfl, N15q, hh15⟩ := hQ15
    have N15 := Fr.app N11 N15q
    refine own_Go.mono (T' := T15) (f' := (mkF m 15 #[.val (.ref a1), .val (.int p1), .val (.int p2), .val (.int p3)] [(.int (B7_0 x))])) (fun t k => ?_) ?_
    · show Steps p.tables e below (T11.setTop (mkF m 6 #[.val (.ref a1), .val (.int p1), .val (.int p2), .val (.int p3)] [(.int (B4_0 p1 p2 p3))])) _
      refine XS.ifNo X11.here hx rfl (hb hby d3_6) rfl ((if0 _ _).trans (feq c6_12).1) ?_
      show Steps p.tables e below (T11.setTop (mkF m 9 #[.val (.ref a1), .val (.int p1), .val (.int p2), .val (.int p3)] [])) _
      refine XS.aloadN X11.here hx rfl (hb hby d3_9) rfl rfl ?_
      show Steps p.tables e below (T11.setTop (mkF m 10 #[.val (.ref a1), .val (.int p1), .val (.int p2), .val (.int p3)] [(.ref a1)])) _
      refine XS.iloadN X11.here hx rfl (hb hby d3_10) rfl ?_
      show Steps p.tables e below (T11.setTop (mkF m 11 #[.val (.ref a1), .val (.int p1), .val (.int p2), .val (.int p3)] [(.int p1), (.ref a1)])) _
      refine X11.baloadBytes hx (j := p1) (v := (.int x)) (by rw [hh11]; exact Ar13.1) (State.isArrayOf_alike hZ.alike Ar13.2.1) Ar13.2.2 hin14 hat14 (g := (mkF m 11 #[.val (.ref a1), .val (.int p1), .val (.int p2), .val (.int p3)] [(.int p1), (.ref a1)])) rfl rfl (hb hby d3_11) _ ?_
      show Steps p.tables e below (T11.setTop (mkF m 12 #[.val (.ref a1), .val (.int p1), .val (.int p2), .val (.int p3)] [(.int x)])) _
      refine st15 _ ?_
      show Steps p.tables e below (T15.setTop (mkF m 15 #[.val (.ref a1), .val (.int p1), .val (.int p2), .val (.int p3)] [(.int (B7_0 x))])) _
      exact k
    by_cases c15_16 : (B7_0 x) < (0 : Int32)
    · refine own_Go.mono (T' := T15) (f' := (mkF m 23 #[.val (.ref a1), .val (.int p1), .val (.int p2), .val (.int p3)] [(.int (1 : Int32))])) (fun t k => ?_) ?_
      · show Steps p.tables e below (T15.setTop (mkF m 15 #[.val (.ref a1), .val (.int p1), .val (.int p2), .val (.int p3)] [(.int (B7_0 x))])) _
        refine XS.ifNo X15.here hx rfl (hb hby d3_15) rfl ((if0 _ _).trans (tlt c15_16).2.1) ?_
        show Steps p.tables e below (T15.setTop (mkF m 18 #[.val (.ref a1), .val (.int p1), .val (.int p2), .val (.int p3)] [])) _
        refine XS.iconst X15.here hx rfl (hb hby d3_18) ?_
        show Steps p.tables e below (T15.setTop (mkF m 19 #[.val (.ref a1), .val (.int p1), .val (.int p2), .val (.int p3)] [(.int (1 : Int32))])) _
        refine XS.goto X15.here hx rfl (pc0 := 19) (pc' := 23) rfl (hb hby d3_19) (by decide) (by decide) ?_
        show Steps p.tables e below (T15.setTop (mkF m 23 #[.val (.ref a1), .val (.int p1), .val (.int p2), .val (.int p3)] [(.int (1 : Int32))])) _
        exact k
      exact own_retN X15 hx (t := .boolean) hret (by simp) hlk (hb hby d3_23) (⟨congrArg some (congrArg Value.int (by unfold own_bad; rw [if_neg c6_12]; rw [if_pos c15_16]; first | done | rfl)), N15, hh15⟩) (by decide) (by decide)
    · refine own_Go.mono (T' := T15) (f' := (mkF m 23 #[.val (.ref a1), .val (.int p1), .val (.int p2), .val (.int p3)] [(.int (0 : Int32))])) (fun t k => ?_) ?_
      · show Steps p.tables e below (T15.setTop (mkF m 15 #[.val (.ref a1), .val (.int p1), .val (.int p2), .val (.int p3)] [(.int (B7_0 x))])) _
        refine XS.ifYes X15.here hx rfl (pc0 := 15) (pc' := 22) rfl (hb hby d3_15) rfl ((if0 _ _).trans (flt c15_16).2.1) (by decide) (by decide) ?_
        show Steps p.tables e below (T15.setTop (mkF m 22 #[.val (.ref a1), .val (.int p1), .val (.int p2), .val (.int p3)] [])) _
        refine XS.iconst X15.here hx rfl (hb hby d3_22) ?_
        show Steps p.tables e below (T15.setTop (mkF m 23 #[.val (.ref a1), .val (.int p1), .val (.int p2), .val (.int p3)] [(.int (0 : Int32))])) _
        exact k
      exact own_retN X15 hx (t := .boolean) hret (by simp) hlk (hb hby d3_23) (⟨congrArg some (congrArg Value.int (by unfold own_bad; rw [if_neg c6_12]; rw [if_neg c15_16]; first | done | rfl)), N15, hh15⟩) (by decide) (by decide)
theorem d5_0 : decode method_8_code 0 = .ok (.iload_n 1, 1) := by decide +kernel
theorem d5_1 : decode method_8_code 1 = .ok (.iload_n 2, 1) := by decide +kernel
theorem d5_2 : decode method_8_code 2 = .ok (.iload_n 3, 1) := by decide +kernel
theorem d5_3 : decode method_8_code 3 = .ok (.invokestatic 27, 3) := by decide +kernel
theorem d5_6 : decode method_8_code 6 = .ok (.ifCond .ne 5, 3) := by decide +kernel
theorem d5_9 : decode method_8_code 9 = .ok (.iconst 0, 1) := by decide +kernel
theorem d5_10 : decode method_8_code 10 = .ok (.ireturn, 1) := by decide +kernel
theorem d5_11 : decode method_8_code 11 = .ok (.aload_n 0, 1) := by decide +kernel
theorem d5_12 : decode method_8_code 12 = .ok (.iload_n 1, 1) := by decide +kernel
theorem d5_13 : decode method_8_code 13 = .ok (.baload, 1) := by decide +kernel
theorem d5_14 : decode method_8_code 14 = .ok (.invokestatic 31, 3) := by decide +kernel
theorem d5_17 : decode method_8_code 17 = .ok (.iload_n 2, 1) := by decide +kernel
theorem d5_18 : decode method_8_code 18 = .ok (.iload_n 3, 1) := by decide +kernel
theorem d5_19 : decode method_8_code 19 = .ok (.iadd, 1) := by decide +kernel
theorem d5_20 : decode method_8_code 20 = .ok (.iconst 1, 1) := by decide +kernel
theorem d5_21 : decode method_8_code 21 = .ok (.isub, 1) := by decide +kernel
theorem d5_22 : decode method_8_code 22 = .ok (.iload_n 1, 1) := by decide +kernel
theorem d5_23 : decode method_8_code 23 = .ok (.isub, 1) := by decide +kernel
theorem d5_24 : decode method_8_code 24 = .ok (.invokestatic 35, 3) := by decide +kernel
theorem d5_27 : decode method_8_code 27 = .ok (.imul, 1) := by decide +kernel
theorem d5_28 : decode method_8_code 28 = .ok (.ireturn, 1) := by decide +kernel
def own_term (x i f c : Int32) : Int32 := if B4_0 i f c = 0 then 0 else B7_0 x * B8_0 (((f + c) - (1 : Int32)) - i)
theorem ef_rm5 (m : MethodId) (x0 : Addr) (x1 : Int32) (x2 : Int32) (x3 : Int32) : entryFrame m #[(.ref x0), (.int x1), (.int x2), (.int x3)] 4 = mkF m 0 #[.val (.ref x0), .val (.int x1), .val (.int x2), .val (.int x3)] [] := by first | (simp [entryFrame, mkF, argsToLocals, Value.category]; done) | rfl
def Q5 (Z : State) (a1 : Addr) (p1 : Int32) (p2 : Int32) (p3 : Int32) (k : ClassId) (vs : List Value) (dv : Value) (x : Int32) (h0 : Heap) (n0 : Nat) (v : Option Value) (h : Heap) (L : List Loc) : Prop := v = some (.int (own_term x p1 p2 p3)) ∧ Fr n0 L ∧ h = h0
set_option maxRecDepth 65536 in
set_option maxHeartbeats 40000000 in
theorem rm5 (l : Launch) (Z : State) (a0 : Array Value) (hw : ∀ d ∈ tables_1, d.before a0 Z = true) (ws : List Jvm.Cond) (a1 : Addr) (p1 : Int32) (p2 : Int32) (p3 : Int32) (k : ClassId) (vs : List Value) (dv : Value) (x : Int32) (h0 : Heap) (n0 : Nat) (Z0 : n0 ≤ h0.size) (V : Arv Z h0 a1 k .byte (6 : Int32) vs dv) (hi : ¬ p1 < 0 ∧ p1 < (6 : Int32)) (hxv : vs.getD p1.toNatClampNeg dv = .int x) :
    MetFree l (⟨"com/example/linkshelf/linkshelf/marc/Iso2709NumberPinLaw", "term", "([BIII)I"⟩ : MethodName) (head1 (Jvm.Cond.code (⟨"com/example/linkshelf/linkshelf/marc/Iso2709NumberPinLaw", "term", "([BIII)I"⟩ : MethodName) method_8_code 4 (some .int) :: ws) ({ frames := 1, cells := 0, slots := 0, locals := 16 } : Room)) (fun a U => a = #[(.ref a1), (.int p1), (.int p2), (.int p3)] ∧ Z.Warmed39 U.vm ∧ U.heap = h0) (fun _ _ _ _ _ => True) (fun _ U o U' => ∃ v L, o = .returned v ∧ Q5 Z a1 p1 p2 p3 k vs dv x h0 n0 v U'.heap L ∧ FrameEnd U o U' L 0 0) := by
  refine own_body (Qv := Q5 Z a1 p1 p2 p3 k vs dv x h0 n0) (plainFor_of_name (by first | (simp [plainName, overriddenIn]; done) | decide +kernel)) ?_
  intro p e s m below meth c s₁ hx hby hml hret hlk hown hnm hZ X0 e0
  replace hown : s.vm.findClass "com/example/linkshelf/linkshelf/marc/Iso2709NumberPinLaw" = some m.cls := hown
  replace hnm : meth.name = "term" := hnm
  have N0 := Fr.nil n0
  refine own_Go.mono (T' := s₁) (f' := (mkF m 0 #[.val (.ref a1), .val (.int p1), .val (.int p2), .val (.int p3)] [])) (fun t k => castTop (ef_rm5 m a1 p1 p2 p3) k) ?_
  obtain ⟨_, _, ⟨T17, L17, k17, n17⟩, -, X17, ⟨Lc17, hQ17, l17, y17, z17⟩, st17⟩ := Jvm.LawKit.callS X0 hx (y := (⟨"com/example/linkshelf/linkshelf/marc/Iso2709NumberPinLaw", "inRange", "(III)Z"⟩ : MethodName)) hown (mvT hZ (hw _ (List.mem_of_getElem? (i := 13) rfl))) (mvT hZ (hw _ (List.mem_of_getElem? (i := 14) rfl))) (mvT hZ (hw _ (List.mem_of_getElem? (i := 3) rfl))) (mvT hZ (hw _ (List.mem_of_getElem? (i := 15) rfl))) (by decide) (backOf (W := 0) (rm4 l Z a0 hw [] p1 p2 p3 h0 n0 Z0) hZ (hw _ (List.mem_of_getElem? (i := 15) rfl)) (hw _ (List.mem_of_getElem? (i := 3) rfl)) (by decide) (by decide)) (g := (mkF m 3 #[.val (.ref a1), .val (.int p1), .val (.int p2), .val (.int p3)] [(.int p3), (.int p2), (.int p1)])) rfl (by rw [hml]; rfl) (argsL := [(.int p1), (.int p2), (.int p3)]) (rest := []) (lenOf pd_0 rfl) rfl (by show 2 * 0 + _ ≤ _; exact Nat.le_of_eq rfl) (hb hby d5_3) (fun _ _ => ⟨rfl, e0, (by decide : 0 + 0 ≤ _), (by decide : 0 + 0 ≤ _)⟩)
  dsimp only [Pt.U, Pt.locs, Pt.cells, Pt.slots] at X17 l17 y17 z17 st17 hQ17
  subst l17 y17 z17
  obtain ⟨rfl, N17q, hh17⟩ := hQ17
  have N17 := Fr.app N0 N17q
  refine own_Go.mono (T' := T17) (f' := (mkF m 6 #[.val (.ref a1), .val (.int p1), .val (.int p2), .val (.int p3)] [(.int (B4_0 p1 p2 p3))])) (fun t k => ?_) ?_
  · show Steps p.tables e below (s₁.setTop (mkF m 0 #[.val (.ref a1), .val (.int p1), .val (.int p2), .val (.int p3)] [])) _
    refine XS.iloadN X0.here hx rfl (hb hby d5_0) rfl ?_
    show Steps p.tables e below (s₁.setTop (mkF m 1 #[.val (.ref a1), .val (.int p1), .val (.int p2), .val (.int p3)] [(.int p1)])) _
    refine XS.iloadN X0.here hx rfl (hb hby d5_1) rfl ?_
    show Steps p.tables e below (s₁.setTop (mkF m 2 #[.val (.ref a1), .val (.int p1), .val (.int p2), .val (.int p3)] [(.int p2), (.int p1)])) _
    refine XS.iloadN X0.here hx rfl (hb hby d5_2) rfl ?_
    show Steps p.tables e below (s₁.setTop (mkF m 3 #[.val (.ref a1), .val (.int p1), .val (.int p2), .val (.int p3)] [(.int p3), (.int p2), (.int p1)])) _
    refine st17 _ ?_
    show Steps p.tables e below (T17.setTop (mkF m 6 #[.val (.ref a1), .val (.int p1), .val (.int p2), .val (.int p3)] [(.int (B4_0 p1 p2 p3))])) _
    exact k
  by_cases c6_18 : (B4_0 p1 p2 p3) = (0 : Int32)
  · refine own_Go.mono (T' := T17) (f' := (mkF m 10 #[.val (.ref a1), .val (.int p1), .val (.int p2), .val (.int p3)] [(.int (0 : Int32))])) (fun t k => ?_) ?_
    · show Steps p.tables e below (T17.setTop (mkF m 6 #[.val (.ref a1), .val (.int p1), .val (.int p2), .val (.int p3)] [(.int (B4_0 p1 p2 p3))])) _
      refine XS.ifNo X17.here hx rfl (hb hby d5_6) rfl ((if0 _ _).trans (teq c6_18).2) ?_
      show Steps p.tables e below (T17.setTop (mkF m 9 #[.val (.ref a1), .val (.int p1), .val (.int p2), .val (.int p3)] [])) _
      refine XS.iconst X17.here hx rfl (hb hby d5_9) ?_
      show Steps p.tables e below (T17.setTop (mkF m 10 #[.val (.ref a1), .val (.int p1), .val (.int p2), .val (.int p3)] [(.int (0 : Int32))])) _
      exact k
    exact own_retI X17 hx hret hlk (hb hby d5_10) (⟨congrArg some (congrArg Value.int (by unfold own_term; rw [if_pos c6_18]; first | done | rfl)), N17, hh17⟩) (by decide) (by decide)
  · obtain ⟨cl19, Ar19, q19, S19, P19, H19, G19⟩ := V
    have hin20 : ¬ (p1 < 0 ∨ cl19.slots.size ≤ (p1).toNatClampNeg) := inb_of S19 hi
    have hat20 : cl19.slots[(p1).toNatClampNeg]? = some (.int x) := H19.at hin20 hxv
    have V_a1_20 : Arv Z h0 a1 k .byte (6 : Int32) vs dv := ⟨cl19, Ar19, q19, S19, P19, H19, G19⟩
    obtain ⟨_, _, ⟨T21, L21, k21, n21⟩, -, X21, ⟨Lc21, hQ21, l21, y21, z21⟩, st21⟩ := Jvm.LawKit.callS X17 hx (y := (⟨"com/example/linkshelf/linkshelf/marc/Iso2709NumberPinLaw", "digit", "(B)I"⟩ : MethodName)) hown (mvT hZ (hw _ (List.mem_of_getElem? (i := 23) rfl))) (mvT hZ (hw _ (List.mem_of_getElem? (i := 24) rfl))) (mvT hZ (hw _ (List.mem_of_getElem? (i := 3) rfl))) (mvT hZ (hw _ (List.mem_of_getElem? (i := 25) rfl))) (by decide) (backOf (W := 0) (rm7 l Z a0 hw [] x h0 n0 Z0) hZ (hw _ (List.mem_of_getElem? (i := 25) rfl)) (hw _ (List.mem_of_getElem? (i := 3) rfl)) (by decide) (by decide)) (g := (mkF m 14 #[.val (.ref a1), .val (.int p1), .val (.int p2), .val (.int p3)] [(.int x)])) rfl (by rw [hml]; rfl) (argsL := [(.int x)]) (rest := []) (lenOf pd_1 rfl) rfl (by show 2 * 0 + _ ≤ _; exact Nat.le_of_eq rfl) (hb hby d5_14) (fun _ _ => ⟨rfl, hh17, (by decide : 0 + 0 ≤ _), (by decide : 0 + 0 ≤ _)⟩)
    dsimp only [Pt.U, Pt.locs, Pt.cells, Pt.slots] at X21 l21 y21 z21 st21 hQ21
    subst l21 y21 z21
    obtain ⟨rfl, N21q, hh21⟩ := hQ21
    have N21 := Fr.app N17 N21q
    obtain ⟨_, _, ⟨T22, L22, k22, n22⟩, -, X22, ⟨Lc22, hQ22, l22, y22, z22⟩, st22⟩ := Jvm.LawKit.callS X21 hx (y := (⟨"com/example/linkshelf/linkshelf/marc/Iso2709NumberPinLaw", "pow10", "(I)I"⟩ : MethodName)) hown (mvT hZ (hw _ (List.mem_of_getElem? (i := 26) rfl))) (mvT hZ (hw _ (List.mem_of_getElem? (i := 27) rfl))) (mvT hZ (hw _ (List.mem_of_getElem? (i := 3) rfl))) (mvT hZ (hw _ (List.mem_of_getElem? (i := 28) rfl))) (by decide) (backOf (W := 1) (rm8 l Z a0 hw [] (((p2 + p3) - (1 : Int32)) - p1) h0 n0 Z0) hZ (hw _ (List.mem_of_getElem? (i := 28) rfl)) (hw _ (List.mem_of_getElem? (i := 3) rfl)) (by decide) (by decide)) (g := (mkF m 24 #[.val (.ref a1), .val (.int p1), .val (.int p2), .val (.int p3)] [(.int (((p2 + p3) - (1 : Int32)) - p1)), (.int (B7_0 x))])) rfl (by rw [hml]; rfl) (argsL := [(.int (((p2 + p3) - (1 : Int32)) - p1))]) (rest := [(.int (B7_0 x))]) (lenOf pd_2 rfl) rfl (by show 2 * 0 + _ ≤ _; exact Nat.le_of_eq rfl) (hb hby d5_24) (fun _ _ => ⟨rfl, hh21, (by decide : 0 + 0 ≤ _), (by decide : 0 + 0 ≤ _)⟩)
    dsimp only [Pt.U, Pt.locs, Pt.cells, Pt.slots] at X22 l22 y22 z22 st22 hQ22
    subst l22 y22 z22
    obtain ⟨rfl, N22q, hh22⟩ := hQ22
    have N22 := Fr.app N21 N22q
    refine own_Go.mono (T' := T22) (f' := (mkF m 28 #[.val (.ref a1), .val (.int p1), .val (.int p2), .val (.int p3)] [(.int ((B7_0 x) * (B8_0 (((p2 + p3) - (1 : Int32)) - p1))))])) (fun t k => ?_) ?_
    · show Steps p.tables e below (T17.setTop (mkF m 6 #[.val (.ref a1), .val (.int p1), .val (.int p2), .val (.int p3)] [(.int (B4_0 p1 p2 p3))])) _
      refine XS.ifYes X17.here hx rfl (pc0 := 6) (pc' := 11) rfl (hb hby d5_6) rfl ((if0 _ _).trans (feq c6_18).2) (by decide) (by decide) ?_
      show Steps p.tables e below (T17.setTop (mkF m 11 #[.val (.ref a1), .val (.int p1), .val (.int p2), .val (.int p3)] [])) _
      refine XS.aloadN X17.here hx rfl (hb hby d5_11) rfl rfl ?_
      show Steps p.tables e below (T17.setTop (mkF m 12 #[.val (.ref a1), .val (.int p1), .val (.int p2), .val (.int p3)] [(.ref a1)])) _
      refine XS.iloadN X17.here hx rfl (hb hby d5_12) rfl ?_
      show Steps p.tables e below (T17.setTop (mkF m 13 #[.val (.ref a1), .val (.int p1), .val (.int p2), .val (.int p3)] [(.int p1), (.ref a1)])) _
      refine X17.baloadBytes hx (j := p1) (v := (.int x)) (by rw [hh17]; exact Ar19.1) (State.isArrayOf_alike hZ.alike Ar19.2.1) Ar19.2.2 hin20 hat20 (g := (mkF m 13 #[.val (.ref a1), .val (.int p1), .val (.int p2), .val (.int p3)] [(.int p1), (.ref a1)])) rfl rfl (hb hby d5_13) _ ?_
      show Steps p.tables e below (T17.setTop (mkF m 14 #[.val (.ref a1), .val (.int p1), .val (.int p2), .val (.int p3)] [(.int x)])) _
      refine st21 _ ?_
      show Steps p.tables e below (T21.setTop (mkF m 17 #[.val (.ref a1), .val (.int p1), .val (.int p2), .val (.int p3)] [(.int (B7_0 x))])) _
      refine XS.iloadN X21.here hx rfl (hb hby d5_17) rfl ?_
      show Steps p.tables e below (T21.setTop (mkF m 18 #[.val (.ref a1), .val (.int p1), .val (.int p2), .val (.int p3)] [(.int p2), (.int (B7_0 x))])) _
      refine XS.iloadN X21.here hx rfl (hb hby d5_18) rfl ?_
      show Steps p.tables e below (T21.setTop (mkF m 19 #[.val (.ref a1), .val (.int p1), .val (.int p2), .val (.int p3)] [(.int p3), (.int p2), (.int (B7_0 x))])) _
      refine XS.iadd X21.here hx rfl (hb hby d5_19) rfl ?_
      show Steps p.tables e below (T21.setTop (mkF m 20 #[.val (.ref a1), .val (.int p1), .val (.int p2), .val (.int p3)] [(.int (p2 + p3)), (.int (B7_0 x))])) _
      refine XS.iconst X21.here hx rfl (hb hby d5_20) ?_
      show Steps p.tables e below (T21.setTop (mkF m 21 #[.val (.ref a1), .val (.int p1), .val (.int p2), .val (.int p3)] [(.int (1 : Int32)), (.int (p2 + p3)), (.int (B7_0 x))])) _
      refine XS.isub X21.here hx rfl (hb hby d5_21) rfl ?_
      show Steps p.tables e below (T21.setTop (mkF m 22 #[.val (.ref a1), .val (.int p1), .val (.int p2), .val (.int p3)] [(.int ((p2 + p3) - (1 : Int32))), (.int (B7_0 x))])) _
      refine XS.iloadN X21.here hx rfl (hb hby d5_22) rfl ?_
      show Steps p.tables e below (T21.setTop (mkF m 23 #[.val (.ref a1), .val (.int p1), .val (.int p2), .val (.int p3)] [(.int p1), (.int ((p2 + p3) - (1 : Int32))), (.int (B7_0 x))])) _
      refine XS.isub X21.here hx rfl (hb hby d5_23) rfl ?_
      show Steps p.tables e below (T21.setTop (mkF m 24 #[.val (.ref a1), .val (.int p1), .val (.int p2), .val (.int p3)] [(.int (((p2 + p3) - (1 : Int32)) - p1)), (.int (B7_0 x))])) _
      refine st22 _ ?_
      show Steps p.tables e below (T22.setTop (mkF m 27 #[.val (.ref a1), .val (.int p1), .val (.int p2), .val (.int p3)] [(.int (B8_0 (((p2 + p3) - (1 : Int32)) - p1))), (.int (B7_0 x))])) _
      refine XS.imul X22.here hx rfl (hb hby d5_27) rfl ?_
      show Steps p.tables e below (T22.setTop (mkF m 28 #[.val (.ref a1), .val (.int p1), .val (.int p2), .val (.int p3)] [(.int ((B7_0 x) * (B8_0 (((p2 + p3) - (1 : Int32)) - p1))))])) _
      exact k
    exact own_retI X22 hx hret hlk (hb hby d5_28) (⟨congrArg some (congrArg Value.int (by unfold own_term; rw [if_neg c6_18]; first | done | rfl)), N22, hh22⟩) (by decide) (by decide)
theorem d2_0 : decode method_9_code 0 = .ok (.aload_n 0, 1) := by decide +kernel
theorem d2_1 : decode method_9_code 1 = .ok (.iconst 0, 1) := by decide +kernel
theorem d2_2 : decode method_9_code 2 = .ok (.iload_n 1, 1) := by decide +kernel
theorem d2_3 : decode method_9_code 3 = .ok (.iload_n 2, 1) := by decide +kernel
theorem d2_4 : decode method_9_code 4 = .ok (.invokestatic 39, 3) := by decide +kernel
theorem d2_7 : decode method_9_code 7 = .ok (.ifCond .ne 53, 3) := by decide +kernel
theorem d2_10 : decode method_9_code 10 = .ok (.aload_n 0, 1) := by decide +kernel
theorem d2_11 : decode method_9_code 11 = .ok (.iconst 1, 1) := by decide +kernel
theorem d2_12 : decode method_9_code 12 = .ok (.iload_n 1, 1) := by decide +kernel
theorem d2_13 : decode method_9_code 13 = .ok (.iload_n 2, 1) := by decide +kernel
theorem d2_14 : decode method_9_code 14 = .ok (.invokestatic 39, 3) := by decide +kernel
theorem d2_17 : decode method_9_code 17 = .ok (.ifCond .ne 43, 3) := by decide +kernel
theorem d2_20 : decode method_9_code 20 = .ok (.aload_n 0, 1) := by decide +kernel
theorem d2_21 : decode method_9_code 21 = .ok (.iconst 2, 1) := by decide +kernel
theorem d2_22 : decode method_9_code 22 = .ok (.iload_n 1, 1) := by decide +kernel
theorem d2_23 : decode method_9_code 23 = .ok (.iload_n 2, 1) := by decide +kernel
theorem d2_24 : decode method_9_code 24 = .ok (.invokestatic 39, 3) := by decide +kernel
theorem d2_27 : decode method_9_code 27 = .ok (.ifCond .ne 33, 3) := by decide +kernel
theorem d2_30 : decode method_9_code 30 = .ok (.aload_n 0, 1) := by decide +kernel
theorem d2_31 : decode method_9_code 31 = .ok (.iconst 3, 1) := by decide +kernel
theorem d2_32 : decode method_9_code 32 = .ok (.iload_n 1, 1) := by decide +kernel
theorem d2_33 : decode method_9_code 33 = .ok (.iload_n 2, 1) := by decide +kernel
theorem d2_34 : decode method_9_code 34 = .ok (.invokestatic 39, 3) := by decide +kernel
theorem d2_37 : decode method_9_code 37 = .ok (.ifCond .ne 23, 3) := by decide +kernel
theorem d2_40 : decode method_9_code 40 = .ok (.aload_n 0, 1) := by decide +kernel
theorem d2_41 : decode method_9_code 41 = .ok (.iconst 4, 1) := by decide +kernel
theorem d2_42 : decode method_9_code 42 = .ok (.iload_n 1, 1) := by decide +kernel
theorem d2_43 : decode method_9_code 43 = .ok (.iload_n 2, 1) := by decide +kernel
theorem d2_44 : decode method_9_code 44 = .ok (.invokestatic 39, 3) := by decide +kernel
theorem d2_47 : decode method_9_code 47 = .ok (.ifCond .ne 13, 3) := by decide +kernel
theorem d2_50 : decode method_9_code 50 = .ok (.aload_n 0, 1) := by decide +kernel
theorem d2_51 : decode method_9_code 51 = .ok (.iconst 5, 1) := by decide +kernel
theorem d2_52 : decode method_9_code 52 = .ok (.iload_n 1, 1) := by decide +kernel
theorem d2_53 : decode method_9_code 53 = .ok (.iload_n 2, 1) := by decide +kernel
theorem d2_54 : decode method_9_code 54 = .ok (.invokestatic 39, 3) := by decide +kernel
theorem d2_57 : decode method_9_code 57 = .ok (.ifCond .eq 5, 3) := by decide +kernel
theorem d2_60 : decode method_9_code 60 = .ok (.iconst (-1), 1) := by decide +kernel
theorem d2_61 : decode method_9_code 61 = .ok (.ireturn, 1) := by decide +kernel
theorem d2_62 : decode method_9_code 62 = .ok (.aload_n 0, 1) := by decide +kernel
theorem d2_63 : decode method_9_code 63 = .ok (.iconst 0, 1) := by decide +kernel
theorem d2_64 : decode method_9_code 64 = .ok (.iload_n 1, 1) := by decide +kernel
theorem d2_65 : decode method_9_code 65 = .ok (.iload_n 2, 1) := by decide +kernel
theorem d2_66 : decode method_9_code 66 = .ok (.invokestatic 43, 3) := by decide +kernel
theorem d2_69 : decode method_9_code 69 = .ok (.aload_n 0, 1) := by decide +kernel
theorem d2_70 : decode method_9_code 70 = .ok (.iconst 1, 1) := by decide +kernel
theorem d2_71 : decode method_9_code 71 = .ok (.iload_n 1, 1) := by decide +kernel
theorem d2_72 : decode method_9_code 72 = .ok (.iload_n 2, 1) := by decide +kernel
theorem d2_73 : decode method_9_code 73 = .ok (.invokestatic 43, 3) := by decide +kernel
theorem d2_76 : decode method_9_code 76 = .ok (.iadd, 1) := by decide +kernel
theorem d2_77 : decode method_9_code 77 = .ok (.aload_n 0, 1) := by decide +kernel
theorem d2_78 : decode method_9_code 78 = .ok (.iconst 2, 1) := by decide +kernel
theorem d2_79 : decode method_9_code 79 = .ok (.iload_n 1, 1) := by decide +kernel
theorem d2_80 : decode method_9_code 80 = .ok (.iload_n 2, 1) := by decide +kernel
theorem d2_81 : decode method_9_code 81 = .ok (.invokestatic 43, 3) := by decide +kernel
theorem d2_84 : decode method_9_code 84 = .ok (.iadd, 1) := by decide +kernel
theorem d2_85 : decode method_9_code 85 = .ok (.aload_n 0, 1) := by decide +kernel
theorem d2_86 : decode method_9_code 86 = .ok (.iconst 3, 1) := by decide +kernel
theorem d2_87 : decode method_9_code 87 = .ok (.iload_n 1, 1) := by decide +kernel
theorem d2_88 : decode method_9_code 88 = .ok (.iload_n 2, 1) := by decide +kernel
theorem d2_89 : decode method_9_code 89 = .ok (.invokestatic 43, 3) := by decide +kernel
theorem d2_92 : decode method_9_code 92 = .ok (.iadd, 1) := by decide +kernel
theorem d2_93 : decode method_9_code 93 = .ok (.aload_n 0, 1) := by decide +kernel
theorem d2_94 : decode method_9_code 94 = .ok (.iconst 4, 1) := by decide +kernel
theorem d2_95 : decode method_9_code 95 = .ok (.iload_n 1, 1) := by decide +kernel
theorem d2_96 : decode method_9_code 96 = .ok (.iload_n 2, 1) := by decide +kernel
theorem d2_97 : decode method_9_code 97 = .ok (.invokestatic 43, 3) := by decide +kernel
theorem d2_100 : decode method_9_code 100 = .ok (.iadd, 1) := by decide +kernel
theorem d2_101 : decode method_9_code 101 = .ok (.aload_n 0, 1) := by decide +kernel
theorem d2_102 : decode method_9_code 102 = .ok (.iconst 5, 1) := by decide +kernel
theorem d2_103 : decode method_9_code 103 = .ok (.iload_n 1, 1) := by decide +kernel
theorem d2_104 : decode method_9_code 104 = .ok (.iload_n 2, 1) := by decide +kernel
theorem d2_105 : decode method_9_code 105 = .ok (.invokestatic 43, 3) := by decide +kernel
theorem d2_108 : decode method_9_code 108 = .ok (.iadd, 1) := by decide +kernel
theorem d2_109 : decode method_9_code 109 = .ok (.ireturn, 1) := by decide +kernel
def own_ref (x0 : Int32) (x1 : Int32) (x2 : Int32) (x3 : Int32) (x4 : Int32) (x5 : Int32) (f c : Int32) : Int32 := (if own_bad x0 0 f c = 0 then (if own_bad x1 1 f c = 0 then (if own_bad x2 2 f c = 0 then (if own_bad x3 3 f c = 0 then (if own_bad x4 4 f c = 0 then (if own_bad x5 5 f c = 0 then (((((own_term x0 0 f c + own_term x1 1 f c) + own_term x2 2 f c) + own_term x3 3 f c) + own_term x4 4 f c) + own_term x5 5 f c) else (-1 : Int32)) else (-1 : Int32)) else (-1 : Int32)) else (-1 : Int32)) else (-1 : Int32)) else (-1 : Int32))
theorem ef_rm2 (m : MethodId) (x0 : Addr) (x1 : Int32) (x2 : Int32) : entryFrame m #[(.ref x0), (.int x1), (.int x2)] 3 = mkF m 0 #[.val (.ref x0), .val (.int x1), .val (.int x2)] [] := by first | (simp [entryFrame, mkF, argsToLocals, Value.category]; done) | rfl
def Q2 (Z : State) (a1 : Addr) (p1 : Int32) (p2 : Int32) (k : ClassId) (x0 : Int32) (x1 : Int32) (x2 : Int32) (x3 : Int32) (x4 : Int32) (x5 : Int32) (h0 : Heap) (n0 : Nat) (v : Option Value) (h : Heap) (L : List Loc) : Prop := v = some (.int (own_ref x0 x1 x2 x3 x4 x5 p1 p2)) ∧ Fr n0 L ∧ h = h0
set_option maxRecDepth 65536 in
set_option maxHeartbeats 40000000 in
theorem rm2 (l : Launch) (Z : State) (a0 : Array Value) (hw : ∀ d ∈ tables_1, d.before a0 Z = true) (ws : List Jvm.Cond) (a1 : Addr) (p1 : Int32) (p2 : Int32) (k : ClassId) (x0 : Int32) (x1 : Int32) (x2 : Int32) (x3 : Int32) (x4 : Int32) (x5 : Int32) (h0 : Heap) (n0 : Nat) (Z0 : n0 ≤ h0.size) (V : Arv Z h0 a1 k .byte (6 : Int32) [(.int x0), (.int x1), (.int x2), (.int x3), (.int x4), (.int x5)] (.int (0 : Int32))) :
    MetFree l (⟨"com/example/linkshelf/linkshelf/marc/Iso2709NumberPinLaw", "reference", "([BII)I"⟩ : MethodName) (head1 (Jvm.Cond.code (⟨"com/example/linkshelf/linkshelf/marc/Iso2709NumberPinLaw", "reference", "([BII)I"⟩ : MethodName) method_9_code 3 (some .int) :: ws) ({ frames := 2, cells := 0, slots := 0, locals := 32 } : Room)) (fun a U => a = #[(.ref a1), (.int p1), (.int p2)] ∧ Z.Warmed39 U.vm ∧ U.heap = h0) (fun _ _ _ _ _ => True) (fun _ U o U' => ∃ v L, o = .returned v ∧ Q2 Z a1 p1 p2 k x0 x1 x2 x3 x4 x5 h0 n0 v U'.heap L ∧ FrameEnd U o U' L 0 0) := by
  refine own_body (Qv := Q2 Z a1 p1 p2 k x0 x1 x2 x3 x4 x5 h0 n0) (plainFor_of_name (by first | (simp [plainName, overriddenIn]; done) | decide +kernel)) ?_
  intro p e s m below meth c s₁ hx hby hml hret hlk hown hnm hZ X0 e0
  replace hown : s.vm.findClass "com/example/linkshelf/linkshelf/marc/Iso2709NumberPinLaw" = some m.cls := hown
  replace hnm : meth.name = "reference" := hnm
  have N0 := Fr.nil n0
  refine own_Go.mono (T' := s₁) (f' := (mkF m 0 #[.val (.ref a1), .val (.int p1), .val (.int p2)] [])) (fun t k => castTop (ef_rm2 m a1 p1 p2) k) ?_
  obtain ⟨_, _, ⟨T23, L23, k23, n23⟩, -, X23, ⟨Lc23, hQ23, l23, y23, z23⟩, st23⟩ := Jvm.LawKit.callS X0 hx (y := (⟨"com/example/linkshelf/linkshelf/marc/Iso2709NumberPinLaw", "bad", "([BIII)Z"⟩ : MethodName)) hown (mvT hZ (hw _ (List.mem_of_getElem? (i := 10) rfl))) (mvT hZ (hw _ (List.mem_of_getElem? (i := 11) rfl))) (mvT hZ (hw _ (List.mem_of_getElem? (i := 3) rfl))) (mvT hZ (hw _ (List.mem_of_getElem? (i := 12) rfl))) (by decide) (backOf (W := 0) (rm3 l Z a0 hw [] a1 (0 : Int32) p1 p2 k [(.int x0), (.int x1), (.int x2), (.int x3), (.int x4), (.int x5)] (.int (0 : Int32)) x0 h0 n0 Z0 V ⟨by decide, by decide⟩ rfl) hZ (hw _ (List.mem_of_getElem? (i := 12) rfl)) (hw _ (List.mem_of_getElem? (i := 3) rfl)) (by decide) (by decide)) (g := (mkF m 4 #[.val (.ref a1), .val (.int p1), .val (.int p2)] [(.int p2), (.int p1), (.int (0 : Int32)), (.ref a1)])) rfl (by rw [hml]; rfl) (argsL := [(.ref a1), (.int (0 : Int32)), (.int p1), (.int p2)]) (rest := []) (lenOf pd_3 rfl) rfl (by show 2 * 0 + _ ≤ _; exact Nat.le_of_eq rfl) (hb hby d2_4) (fun _ _ => ⟨rfl, e0, (by decide : 0 + 0 ≤ _), (by decide : 0 + 0 ≤ _)⟩)
  dsimp only [Pt.U, Pt.locs, Pt.cells, Pt.slots] at X23 l23 y23 z23 st23 hQ23
  subst l23 y23 z23
  obtain ⟨rfl, N23q, hh23⟩ := hQ23
  have N23 := Fr.app N0 N23q
  refine own_Go.mono (T' := T23) (f' := (mkF m 7 #[.val (.ref a1), .val (.int p1), .val (.int p2)] [(.int (own_bad x0 (0 : Int32) p1 p2))])) (fun t k => ?_) ?_
  · show Steps p.tables e below (s₁.setTop (mkF m 0 #[.val (.ref a1), .val (.int p1), .val (.int p2)] [])) _
    refine XS.aloadN X0.here hx rfl (hb hby d2_0) rfl rfl ?_
    show Steps p.tables e below (s₁.setTop (mkF m 1 #[.val (.ref a1), .val (.int p1), .val (.int p2)] [(.ref a1)])) _
    refine XS.iconst X0.here hx rfl (hb hby d2_1) ?_
    show Steps p.tables e below (s₁.setTop (mkF m 2 #[.val (.ref a1), .val (.int p1), .val (.int p2)] [(.int (0 : Int32)), (.ref a1)])) _
    refine XS.iloadN X0.here hx rfl (hb hby d2_2) rfl ?_
    show Steps p.tables e below (s₁.setTop (mkF m 3 #[.val (.ref a1), .val (.int p1), .val (.int p2)] [(.int p1), (.int (0 : Int32)), (.ref a1)])) _
    refine XS.iloadN X0.here hx rfl (hb hby d2_3) rfl ?_
    show Steps p.tables e below (s₁.setTop (mkF m 4 #[.val (.ref a1), .val (.int p1), .val (.int p2)] [(.int p2), (.int p1), (.int (0 : Int32)), (.ref a1)])) _
    refine st23 _ ?_
    show Steps p.tables e below (T23.setTop (mkF m 7 #[.val (.ref a1), .val (.int p1), .val (.int p2)] [(.int (own_bad x0 (0 : Int32) p1 p2))])) _
    exact k
  by_cases c7_24 : (own_bad x0 (0 : Int32) p1 p2) = (0 : Int32)
  · obtain ⟨_, _, ⟨T25, L25, k25, n25⟩, -, X25, ⟨Lc25, hQ25, l25, y25, z25⟩, st25⟩ := Jvm.LawKit.callS X23 hx (y := (⟨"com/example/linkshelf/linkshelf/marc/Iso2709NumberPinLaw", "bad", "([BIII)Z"⟩ : MethodName)) hown (mvT hZ (hw _ (List.mem_of_getElem? (i := 10) rfl))) (mvT hZ (hw _ (List.mem_of_getElem? (i := 11) rfl))) (mvT hZ (hw _ (List.mem_of_getElem? (i := 3) rfl))) (mvT hZ (hw _ (List.mem_of_getElem? (i := 12) rfl))) (by decide) (backOf (W := 0) (rm3 l Z a0 hw [] a1 (1 : Int32) p1 p2 k [(.int x0), (.int x1), (.int x2), (.int x3), (.int x4), (.int x5)] (.int (0 : Int32)) x1 h0 n0 Z0 V ⟨by decide, by decide⟩ rfl) hZ (hw _ (List.mem_of_getElem? (i := 12) rfl)) (hw _ (List.mem_of_getElem? (i := 3) rfl)) (by decide) (by decide)) (g := (mkF m 14 #[.val (.ref a1), .val (.int p1), .val (.int p2)] [(.int p2), (.int p1), (.int (1 : Int32)), (.ref a1)])) rfl (by rw [hml]; rfl) (argsL := [(.ref a1), (.int (1 : Int32)), (.int p1), (.int p2)]) (rest := []) (lenOf pd_3 rfl) rfl (by show 2 * 0 + _ ≤ _; exact Nat.le_of_eq rfl) (hb hby d2_14) (fun _ _ => ⟨rfl, hh23, (by decide : 0 + 0 ≤ _), (by decide : 0 + 0 ≤ _)⟩)
    dsimp only [Pt.U, Pt.locs, Pt.cells, Pt.slots] at X25 l25 y25 z25 st25 hQ25
    subst l25 y25 z25
    obtain ⟨rfl, N25q, hh25⟩ := hQ25
    have N25 := Fr.app N23 N25q
    refine own_Go.mono (T' := T25) (f' := (mkF m 17 #[.val (.ref a1), .val (.int p1), .val (.int p2)] [(.int (own_bad x1 (1 : Int32) p1 p2))])) (fun t k => ?_) ?_
    · show Steps p.tables e below (T23.setTop (mkF m 7 #[.val (.ref a1), .val (.int p1), .val (.int p2)] [(.int (own_bad x0 (0 : Int32) p1 p2))])) _
      refine XS.ifNo X23.here hx rfl (hb hby d2_7) rfl ((if0 _ _).trans (teq c7_24).2) ?_
      show Steps p.tables e below (T23.setTop (mkF m 10 #[.val (.ref a1), .val (.int p1), .val (.int p2)] [])) _
      refine XS.aloadN X23.here hx rfl (hb hby d2_10) rfl rfl ?_
      show Steps p.tables e below (T23.setTop (mkF m 11 #[.val (.ref a1), .val (.int p1), .val (.int p2)] [(.ref a1)])) _
      refine XS.iconst X23.here hx rfl (hb hby d2_11) ?_
      show Steps p.tables e below (T23.setTop (mkF m 12 #[.val (.ref a1), .val (.int p1), .val (.int p2)] [(.int (1 : Int32)), (.ref a1)])) _
      refine XS.iloadN X23.here hx rfl (hb hby d2_12) rfl ?_
      show Steps p.tables e below (T23.setTop (mkF m 13 #[.val (.ref a1), .val (.int p1), .val (.int p2)] [(.int p1), (.int (1 : Int32)), (.ref a1)])) _
      refine XS.iloadN X23.here hx rfl (hb hby d2_13) rfl ?_
      show Steps p.tables e below (T23.setTop (mkF m 14 #[.val (.ref a1), .val (.int p1), .val (.int p2)] [(.int p2), (.int p1), (.int (1 : Int32)), (.ref a1)])) _
      refine st25 _ ?_
      show Steps p.tables e below (T25.setTop (mkF m 17 #[.val (.ref a1), .val (.int p1), .val (.int p2)] [(.int (own_bad x1 (1 : Int32) p1 p2))])) _
      exact k
    by_cases c17_26 : (own_bad x1 (1 : Int32) p1 p2) = (0 : Int32)
    · obtain ⟨_, _, ⟨T27, L27, k27, n27⟩, -, X27, ⟨Lc27, hQ27, l27, y27, z27⟩, st27⟩ := Jvm.LawKit.callS X25 hx (y := (⟨"com/example/linkshelf/linkshelf/marc/Iso2709NumberPinLaw", "bad", "([BIII)Z"⟩ : MethodName)) hown (mvT hZ (hw _ (List.mem_of_getElem? (i := 10) rfl))) (mvT hZ (hw _ (List.mem_of_getElem? (i := 11) rfl))) (mvT hZ (hw _ (List.mem_of_getElem? (i := 3) rfl))) (mvT hZ (hw _ (List.mem_of_getElem? (i := 12) rfl))) (by decide) (backOf (W := 0) (rm3 l Z a0 hw [] a1 (2 : Int32) p1 p2 k [(.int x0), (.int x1), (.int x2), (.int x3), (.int x4), (.int x5)] (.int (0 : Int32)) x2 h0 n0 Z0 V ⟨by decide, by decide⟩ rfl) hZ (hw _ (List.mem_of_getElem? (i := 12) rfl)) (hw _ (List.mem_of_getElem? (i := 3) rfl)) (by decide) (by decide)) (g := (mkF m 24 #[.val (.ref a1), .val (.int p1), .val (.int p2)] [(.int p2), (.int p1), (.int (2 : Int32)), (.ref a1)])) rfl (by rw [hml]; rfl) (argsL := [(.ref a1), (.int (2 : Int32)), (.int p1), (.int p2)]) (rest := []) (lenOf pd_3 rfl) rfl (by show 2 * 0 + _ ≤ _; exact Nat.le_of_eq rfl) (hb hby d2_24) (fun _ _ => ⟨rfl, hh25, (by decide : 0 + 0 ≤ _), (by decide : 0 + 0 ≤ _)⟩)
      dsimp only [Pt.U, Pt.locs, Pt.cells, Pt.slots] at X27 l27 y27 z27 st27 hQ27
      subst l27 y27 z27
      obtain ⟨rfl, N27q, hh27⟩ := hQ27
      have N27 := Fr.app N25 N27q
      refine own_Go.mono (T' := T27) (f' := (mkF m 27 #[.val (.ref a1), .val (.int p1), .val (.int p2)] [(.int (own_bad x2 (2 : Int32) p1 p2))])) (fun t k => ?_) ?_
      · show Steps p.tables e below (T25.setTop (mkF m 17 #[.val (.ref a1), .val (.int p1), .val (.int p2)] [(.int (own_bad x1 (1 : Int32) p1 p2))])) _
        refine XS.ifNo X25.here hx rfl (hb hby d2_17) rfl ((if0 _ _).trans (teq c17_26).2) ?_
        show Steps p.tables e below (T25.setTop (mkF m 20 #[.val (.ref a1), .val (.int p1), .val (.int p2)] [])) _
        refine XS.aloadN X25.here hx rfl (hb hby d2_20) rfl rfl ?_
        show Steps p.tables e below (T25.setTop (mkF m 21 #[.val (.ref a1), .val (.int p1), .val (.int p2)] [(.ref a1)])) _
        refine XS.iconst X25.here hx rfl (hb hby d2_21) ?_
        show Steps p.tables e below (T25.setTop (mkF m 22 #[.val (.ref a1), .val (.int p1), .val (.int p2)] [(.int (2 : Int32)), (.ref a1)])) _
        refine XS.iloadN X25.here hx rfl (hb hby d2_22) rfl ?_
        show Steps p.tables e below (T25.setTop (mkF m 23 #[.val (.ref a1), .val (.int p1), .val (.int p2)] [(.int p1), (.int (2 : Int32)), (.ref a1)])) _
        refine XS.iloadN X25.here hx rfl (hb hby d2_23) rfl ?_
        show Steps p.tables e below (T25.setTop (mkF m 24 #[.val (.ref a1), .val (.int p1), .val (.int p2)] [(.int p2), (.int p1), (.int (2 : Int32)), (.ref a1)])) _
        refine st27 _ ?_
        show Steps p.tables e below (T27.setTop (mkF m 27 #[.val (.ref a1), .val (.int p1), .val (.int p2)] [(.int (own_bad x2 (2 : Int32) p1 p2))])) _
        exact k
      by_cases c27_28 : (own_bad x2 (2 : Int32) p1 p2) = (0 : Int32)
      · obtain ⟨_, _, ⟨T29, L29, k29, n29⟩, -, X29, ⟨Lc29, hQ29, l29, y29, z29⟩, st29⟩ := Jvm.LawKit.callS X27 hx (y := (⟨"com/example/linkshelf/linkshelf/marc/Iso2709NumberPinLaw", "bad", "([BIII)Z"⟩ : MethodName)) hown (mvT hZ (hw _ (List.mem_of_getElem? (i := 10) rfl))) (mvT hZ (hw _ (List.mem_of_getElem? (i := 11) rfl))) (mvT hZ (hw _ (List.mem_of_getElem? (i := 3) rfl))) (mvT hZ (hw _ (List.mem_of_getElem? (i := 12) rfl))) (by decide) (backOf (W := 0) (rm3 l Z a0 hw [] a1 (3 : Int32) p1 p2 k [(.int x0), (.int x1), (.int x2), (.int x3), (.int x4), (.int x5)] (.int (0 : Int32)) x3 h0 n0 Z0 V ⟨by decide, by decide⟩ rfl) hZ (hw _ (List.mem_of_getElem? (i := 12) rfl)) (hw _ (List.mem_of_getElem? (i := 3) rfl)) (by decide) (by decide)) (g := (mkF m 34 #[.val (.ref a1), .val (.int p1), .val (.int p2)] [(.int p2), (.int p1), (.int (3 : Int32)), (.ref a1)])) rfl (by rw [hml]; rfl) (argsL := [(.ref a1), (.int (3 : Int32)), (.int p1), (.int p2)]) (rest := []) (lenOf pd_3 rfl) rfl (by show 2 * 0 + _ ≤ _; exact Nat.le_of_eq rfl) (hb hby d2_34) (fun _ _ => ⟨rfl, hh27, (by decide : 0 + 0 ≤ _), (by decide : 0 + 0 ≤ _)⟩)
        dsimp only [Pt.U, Pt.locs, Pt.cells, Pt.slots] at X29 l29 y29 z29 st29 hQ29
        subst l29 y29 z29
        obtain ⟨rfl, N29q, hh29⟩ := hQ29
        have N29 := Fr.app N27 N29q
        refine own_Go.mono (T' := T29) (f' := (mkF m 37 #[.val (.ref a1), .val (.int p1), .val (.int p2)] [(.int (own_bad x3 (3 : Int32) p1 p2))])) (fun t k => ?_) ?_
        · show Steps p.tables e below (T27.setTop (mkF m 27 #[.val (.ref a1), .val (.int p1), .val (.int p2)] [(.int (own_bad x2 (2 : Int32) p1 p2))])) _
          refine XS.ifNo X27.here hx rfl (hb hby d2_27) rfl ((if0 _ _).trans (teq c27_28).2) ?_
          show Steps p.tables e below (T27.setTop (mkF m 30 #[.val (.ref a1), .val (.int p1), .val (.int p2)] [])) _
          refine XS.aloadN X27.here hx rfl (hb hby d2_30) rfl rfl ?_
          show Steps p.tables e below (T27.setTop (mkF m 31 #[.val (.ref a1), .val (.int p1), .val (.int p2)] [(.ref a1)])) _
          refine XS.iconst X27.here hx rfl (hb hby d2_31) ?_
          show Steps p.tables e below (T27.setTop (mkF m 32 #[.val (.ref a1), .val (.int p1), .val (.int p2)] [(.int (3 : Int32)), (.ref a1)])) _
          refine XS.iloadN X27.here hx rfl (hb hby d2_32) rfl ?_
          show Steps p.tables e below (T27.setTop (mkF m 33 #[.val (.ref a1), .val (.int p1), .val (.int p2)] [(.int p1), (.int (3 : Int32)), (.ref a1)])) _
          refine XS.iloadN X27.here hx rfl (hb hby d2_33) rfl ?_
          show Steps p.tables e below (T27.setTop (mkF m 34 #[.val (.ref a1), .val (.int p1), .val (.int p2)] [(.int p2), (.int p1), (.int (3 : Int32)), (.ref a1)])) _
          refine st29 _ ?_
          show Steps p.tables e below (T29.setTop (mkF m 37 #[.val (.ref a1), .val (.int p1), .val (.int p2)] [(.int (own_bad x3 (3 : Int32) p1 p2))])) _
          exact k
        by_cases c37_30 : (own_bad x3 (3 : Int32) p1 p2) = (0 : Int32)
        · obtain ⟨_, _, ⟨T31, L31, k31, n31⟩, -, X31, ⟨Lc31, hQ31, l31, y31, z31⟩, st31⟩ := Jvm.LawKit.callS X29 hx (y := (⟨"com/example/linkshelf/linkshelf/marc/Iso2709NumberPinLaw", "bad", "([BIII)Z"⟩ : MethodName)) hown (mvT hZ (hw _ (List.mem_of_getElem? (i := 10) rfl))) (mvT hZ (hw _ (List.mem_of_getElem? (i := 11) rfl))) (mvT hZ (hw _ (List.mem_of_getElem? (i := 3) rfl))) (mvT hZ (hw _ (List.mem_of_getElem? (i := 12) rfl))) (by decide) (backOf (W := 0) (rm3 l Z a0 hw [] a1 (4 : Int32) p1 p2 k [(.int x0), (.int x1), (.int x2), (.int x3), (.int x4), (.int x5)] (.int (0 : Int32)) x4 h0 n0 Z0 V ⟨by decide, by decide⟩ rfl) hZ (hw _ (List.mem_of_getElem? (i := 12) rfl)) (hw _ (List.mem_of_getElem? (i := 3) rfl)) (by decide) (by decide)) (g := (mkF m 44 #[.val (.ref a1), .val (.int p1), .val (.int p2)] [(.int p2), (.int p1), (.int (4 : Int32)), (.ref a1)])) rfl (by rw [hml]; rfl) (argsL := [(.ref a1), (.int (4 : Int32)), (.int p1), (.int p2)]) (rest := []) (lenOf pd_3 rfl) rfl (by show 2 * 0 + _ ≤ _; exact Nat.le_of_eq rfl) (hb hby d2_44) (fun _ _ => ⟨rfl, hh29, (by decide : 0 + 0 ≤ _), (by decide : 0 + 0 ≤ _)⟩)
          dsimp only [Pt.U, Pt.locs, Pt.cells, Pt.slots] at X31 l31 y31 z31 st31 hQ31
          subst l31 y31 z31
          obtain ⟨rfl, N31q, hh31⟩ := hQ31
          have N31 := Fr.app N29 N31q
          refine own_Go.mono (T' := T31) (f' := (mkF m 47 #[.val (.ref a1), .val (.int p1), .val (.int p2)] [(.int (own_bad x4 (4 : Int32) p1 p2))])) (fun t k => ?_) ?_
          · show Steps p.tables e below (T29.setTop (mkF m 37 #[.val (.ref a1), .val (.int p1), .val (.int p2)] [(.int (own_bad x3 (3 : Int32) p1 p2))])) _
            refine XS.ifNo X29.here hx rfl (hb hby d2_37) rfl ((if0 _ _).trans (teq c37_30).2) ?_
            show Steps p.tables e below (T29.setTop (mkF m 40 #[.val (.ref a1), .val (.int p1), .val (.int p2)] [])) _
            refine XS.aloadN X29.here hx rfl (hb hby d2_40) rfl rfl ?_
            show Steps p.tables e below (T29.setTop (mkF m 41 #[.val (.ref a1), .val (.int p1), .val (.int p2)] [(.ref a1)])) _
            refine XS.iconst X29.here hx rfl (hb hby d2_41) ?_
            show Steps p.tables e below (T29.setTop (mkF m 42 #[.val (.ref a1), .val (.int p1), .val (.int p2)] [(.int (4 : Int32)), (.ref a1)])) _
            refine XS.iloadN X29.here hx rfl (hb hby d2_42) rfl ?_
            show Steps p.tables e below (T29.setTop (mkF m 43 #[.val (.ref a1), .val (.int p1), .val (.int p2)] [(.int p1), (.int (4 : Int32)), (.ref a1)])) _
            refine XS.iloadN X29.here hx rfl (hb hby d2_43) rfl ?_
            show Steps p.tables e below (T29.setTop (mkF m 44 #[.val (.ref a1), .val (.int p1), .val (.int p2)] [(.int p2), (.int p1), (.int (4 : Int32)), (.ref a1)])) _
            refine st31 _ ?_
            show Steps p.tables e below (T31.setTop (mkF m 47 #[.val (.ref a1), .val (.int p1), .val (.int p2)] [(.int (own_bad x4 (4 : Int32) p1 p2))])) _
            exact k
          by_cases c47_32 : (own_bad x4 (4 : Int32) p1 p2) = (0 : Int32)
          · obtain ⟨_, _, ⟨T33, L33, k33, n33⟩, -, X33, ⟨Lc33, hQ33, l33, y33, z33⟩, st33⟩ := Jvm.LawKit.callS X31 hx (y := (⟨"com/example/linkshelf/linkshelf/marc/Iso2709NumberPinLaw", "bad", "([BIII)Z"⟩ : MethodName)) hown (mvT hZ (hw _ (List.mem_of_getElem? (i := 10) rfl))) (mvT hZ (hw _ (List.mem_of_getElem? (i := 11) rfl))) (mvT hZ (hw _ (List.mem_of_getElem? (i := 3) rfl))) (mvT hZ (hw _ (List.mem_of_getElem? (i := 12) rfl))) (by decide) (backOf (W := 0) (rm3 l Z a0 hw [] a1 (5 : Int32) p1 p2 k [(.int x0), (.int x1), (.int x2), (.int x3), (.int x4), (.int x5)] (.int (0 : Int32)) x5 h0 n0 Z0 V ⟨by decide, by decide⟩ rfl) hZ (hw _ (List.mem_of_getElem? (i := 12) rfl)) (hw _ (List.mem_of_getElem? (i := 3) rfl)) (by decide) (by decide)) (g := (mkF m 54 #[.val (.ref a1), .val (.int p1), .val (.int p2)] [(.int p2), (.int p1), (.int (5 : Int32)), (.ref a1)])) rfl (by rw [hml]; rfl) (argsL := [(.ref a1), (.int (5 : Int32)), (.int p1), (.int p2)]) (rest := []) (lenOf pd_3 rfl) rfl (by show 2 * 0 + _ ≤ _; exact Nat.le_of_eq rfl) (hb hby d2_54) (fun _ _ => ⟨rfl, hh31, (by decide : 0 + 0 ≤ _), (by decide : 0 + 0 ≤ _)⟩)
            dsimp only [Pt.U, Pt.locs, Pt.cells, Pt.slots] at X33 l33 y33 z33 st33 hQ33
            subst l33 y33 z33
            obtain ⟨rfl, N33q, hh33⟩ := hQ33
            have N33 := Fr.app N31 N33q
            refine own_Go.mono (T' := T33) (f' := (mkF m 57 #[.val (.ref a1), .val (.int p1), .val (.int p2)] [(.int (own_bad x5 (5 : Int32) p1 p2))])) (fun t k => ?_) ?_
            · show Steps p.tables e below (T31.setTop (mkF m 47 #[.val (.ref a1), .val (.int p1), .val (.int p2)] [(.int (own_bad x4 (4 : Int32) p1 p2))])) _
              refine XS.ifNo X31.here hx rfl (hb hby d2_47) rfl ((if0 _ _).trans (teq c47_32).2) ?_
              show Steps p.tables e below (T31.setTop (mkF m 50 #[.val (.ref a1), .val (.int p1), .val (.int p2)] [])) _
              refine XS.aloadN X31.here hx rfl (hb hby d2_50) rfl rfl ?_
              show Steps p.tables e below (T31.setTop (mkF m 51 #[.val (.ref a1), .val (.int p1), .val (.int p2)] [(.ref a1)])) _
              refine XS.iconst X31.here hx rfl (hb hby d2_51) ?_
              show Steps p.tables e below (T31.setTop (mkF m 52 #[.val (.ref a1), .val (.int p1), .val (.int p2)] [(.int (5 : Int32)), (.ref a1)])) _
              refine XS.iloadN X31.here hx rfl (hb hby d2_52) rfl ?_
              show Steps p.tables e below (T31.setTop (mkF m 53 #[.val (.ref a1), .val (.int p1), .val (.int p2)] [(.int p1), (.int (5 : Int32)), (.ref a1)])) _
              refine XS.iloadN X31.here hx rfl (hb hby d2_53) rfl ?_
              show Steps p.tables e below (T31.setTop (mkF m 54 #[.val (.ref a1), .val (.int p1), .val (.int p2)] [(.int p2), (.int p1), (.int (5 : Int32)), (.ref a1)])) _
              refine st33 _ ?_
              show Steps p.tables e below (T33.setTop (mkF m 57 #[.val (.ref a1), .val (.int p1), .val (.int p2)] [(.int (own_bad x5 (5 : Int32) p1 p2))])) _
              exact k
            by_cases c57_34 : (own_bad x5 (5 : Int32) p1 p2) = (0 : Int32)
            · obtain ⟨_, _, ⟨T35, L35, k35, n35⟩, -, X35, ⟨Lc35, hQ35, l35, y35, z35⟩, st35⟩ := Jvm.LawKit.callS X33 hx (y := (⟨"com/example/linkshelf/linkshelf/marc/Iso2709NumberPinLaw", "term", "([BIII)I"⟩ : MethodName)) hown (mvT hZ (hw _ (List.mem_of_getElem? (i := 16) rfl))) (mvT hZ (hw _ (List.mem_of_getElem? (i := 17) rfl))) (mvT hZ (hw _ (List.mem_of_getElem? (i := 3) rfl))) (mvT hZ (hw _ (List.mem_of_getElem? (i := 18) rfl))) (by decide) (backOf (W := 0) (rm5 l Z a0 hw [] a1 (0 : Int32) p1 p2 k [(.int x0), (.int x1), (.int x2), (.int x3), (.int x4), (.int x5)] (.int (0 : Int32)) x0 h0 n0 Z0 V ⟨by decide, by decide⟩ rfl) hZ (hw _ (List.mem_of_getElem? (i := 18) rfl)) (hw _ (List.mem_of_getElem? (i := 3) rfl)) (by decide) (by decide)) (g := (mkF m 66 #[.val (.ref a1), .val (.int p1), .val (.int p2)] [(.int p2), (.int p1), (.int (0 : Int32)), (.ref a1)])) rfl (by rw [hml]; rfl) (argsL := [(.ref a1), (.int (0 : Int32)), (.int p1), (.int p2)]) (rest := []) (lenOf pd_4 rfl) rfl (by show 2 * 0 + _ ≤ _; exact Nat.le_of_eq rfl) (hb hby d2_66) (fun _ _ => ⟨rfl, hh33, (by decide : 0 + 0 ≤ _), (by decide : 0 + 0 ≤ _)⟩)
              dsimp only [Pt.U, Pt.locs, Pt.cells, Pt.slots] at X35 l35 y35 z35 st35 hQ35
              subst l35 y35 z35
              obtain ⟨rfl, N35q, hh35⟩ := hQ35
              have N35 := Fr.app N33 N35q
              obtain ⟨_, _, ⟨T36, L36, k36, n36⟩, -, X36, ⟨Lc36, hQ36, l36, y36, z36⟩, st36⟩ := Jvm.LawKit.callS X35 hx (y := (⟨"com/example/linkshelf/linkshelf/marc/Iso2709NumberPinLaw", "term", "([BIII)I"⟩ : MethodName)) hown (mvT hZ (hw _ (List.mem_of_getElem? (i := 16) rfl))) (mvT hZ (hw _ (List.mem_of_getElem? (i := 17) rfl))) (mvT hZ (hw _ (List.mem_of_getElem? (i := 3) rfl))) (mvT hZ (hw _ (List.mem_of_getElem? (i := 18) rfl))) (by decide) (backOf (W := 1) (rm5 l Z a0 hw [] a1 (1 : Int32) p1 p2 k [(.int x0), (.int x1), (.int x2), (.int x3), (.int x4), (.int x5)] (.int (0 : Int32)) x1 h0 n0 Z0 V ⟨by decide, by decide⟩ rfl) hZ (hw _ (List.mem_of_getElem? (i := 18) rfl)) (hw _ (List.mem_of_getElem? (i := 3) rfl)) (by decide) (by decide)) (g := (mkF m 73 #[.val (.ref a1), .val (.int p1), .val (.int p2)] [(.int p2), (.int p1), (.int (1 : Int32)), (.ref a1), (.int (own_term x0 (0 : Int32) p1 p2))])) rfl (by rw [hml]; rfl) (argsL := [(.ref a1), (.int (1 : Int32)), (.int p1), (.int p2)]) (rest := [(.int (own_term x0 (0 : Int32) p1 p2))]) (lenOf pd_4 rfl) rfl (by show 2 * 0 + _ ≤ _; exact Nat.le_of_eq rfl) (hb hby d2_73) (fun _ _ => ⟨rfl, hh35, (by decide : 0 + 0 ≤ _), (by decide : 0 + 0 ≤ _)⟩)
              dsimp only [Pt.U, Pt.locs, Pt.cells, Pt.slots] at X36 l36 y36 z36 st36 hQ36
              subst l36 y36 z36
              obtain ⟨rfl, N36q, hh36⟩ := hQ36
              have N36 := Fr.app N35 N36q
              obtain ⟨_, _, ⟨T37, L37, k37, n37⟩, -, X37, ⟨Lc37, hQ37, l37, y37, z37⟩, st37⟩ := Jvm.LawKit.callS X36 hx (y := (⟨"com/example/linkshelf/linkshelf/marc/Iso2709NumberPinLaw", "term", "([BIII)I"⟩ : MethodName)) hown (mvT hZ (hw _ (List.mem_of_getElem? (i := 16) rfl))) (mvT hZ (hw _ (List.mem_of_getElem? (i := 17) rfl))) (mvT hZ (hw _ (List.mem_of_getElem? (i := 3) rfl))) (mvT hZ (hw _ (List.mem_of_getElem? (i := 18) rfl))) (by decide) (backOf (W := 1) (rm5 l Z a0 hw [] a1 (2 : Int32) p1 p2 k [(.int x0), (.int x1), (.int x2), (.int x3), (.int x4), (.int x5)] (.int (0 : Int32)) x2 h0 n0 Z0 V ⟨by decide, by decide⟩ rfl) hZ (hw _ (List.mem_of_getElem? (i := 18) rfl)) (hw _ (List.mem_of_getElem? (i := 3) rfl)) (by decide) (by decide)) (g := (mkF m 81 #[.val (.ref a1), .val (.int p1), .val (.int p2)] [(.int p2), (.int p1), (.int (2 : Int32)), (.ref a1), (.int ((own_term x0 (0 : Int32) p1 p2) + (own_term x1 (1 : Int32) p1 p2)))])) rfl (by rw [hml]; rfl) (argsL := [(.ref a1), (.int (2 : Int32)), (.int p1), (.int p2)]) (rest := [(.int ((own_term x0 (0 : Int32) p1 p2) + (own_term x1 (1 : Int32) p1 p2)))]) (lenOf pd_4 rfl) rfl (by show 2 * 0 + _ ≤ _; exact Nat.le_of_eq rfl) (hb hby d2_81) (fun _ _ => ⟨rfl, hh36, (by decide : 0 + 0 ≤ _), (by decide : 0 + 0 ≤ _)⟩)
              dsimp only [Pt.U, Pt.locs, Pt.cells, Pt.slots] at X37 l37 y37 z37 st37 hQ37
              subst l37 y37 z37
              obtain ⟨rfl, N37q, hh37⟩ := hQ37
              have N37 := Fr.app N36 N37q
              obtain ⟨_, _, ⟨T38, L38, k38, n38⟩, -, X38, ⟨Lc38, hQ38, l38, y38, z38⟩, st38⟩ := Jvm.LawKit.callS X37 hx (y := (⟨"com/example/linkshelf/linkshelf/marc/Iso2709NumberPinLaw", "term", "([BIII)I"⟩ : MethodName)) hown (mvT hZ (hw _ (List.mem_of_getElem? (i := 16) rfl))) (mvT hZ (hw _ (List.mem_of_getElem? (i := 17) rfl))) (mvT hZ (hw _ (List.mem_of_getElem? (i := 3) rfl))) (mvT hZ (hw _ (List.mem_of_getElem? (i := 18) rfl))) (by decide) (backOf (W := 1) (rm5 l Z a0 hw [] a1 (3 : Int32) p1 p2 k [(.int x0), (.int x1), (.int x2), (.int x3), (.int x4), (.int x5)] (.int (0 : Int32)) x3 h0 n0 Z0 V ⟨by decide, by decide⟩ rfl) hZ (hw _ (List.mem_of_getElem? (i := 18) rfl)) (hw _ (List.mem_of_getElem? (i := 3) rfl)) (by decide) (by decide)) (g := (mkF m 89 #[.val (.ref a1), .val (.int p1), .val (.int p2)] [(.int p2), (.int p1), (.int (3 : Int32)), (.ref a1), (.int (((own_term x0 (0 : Int32) p1 p2) + (own_term x1 (1 : Int32) p1 p2)) + (own_term x2 (2 : Int32) p1 p2)))])) rfl (by rw [hml]; rfl) (argsL := [(.ref a1), (.int (3 : Int32)), (.int p1), (.int p2)]) (rest := [(.int (((own_term x0 (0 : Int32) p1 p2) + (own_term x1 (1 : Int32) p1 p2)) + (own_term x2 (2 : Int32) p1 p2)))]) (lenOf pd_4 rfl) rfl (by show 2 * 0 + _ ≤ _; exact Nat.le_of_eq rfl) (hb hby d2_89) (fun _ _ => ⟨rfl, hh37, (by decide : 0 + 0 ≤ _), (by decide : 0 + 0 ≤ _)⟩)
              dsimp only [Pt.U, Pt.locs, Pt.cells, Pt.slots] at X38 l38 y38 z38 st38 hQ38
              subst l38 y38 z38
              obtain ⟨rfl, N38q, hh38⟩ := hQ38
              have N38 := Fr.app N37 N38q
              obtain ⟨_, _, ⟨T39, L39, k39, n39⟩, -, X39, ⟨Lc39, hQ39, l39, y39, z39⟩, st39⟩ := Jvm.LawKit.callS X38 hx (y := (⟨"com/example/linkshelf/linkshelf/marc/Iso2709NumberPinLaw", "term", "([BIII)I"⟩ : MethodName)) hown (mvT hZ (hw _ (List.mem_of_getElem? (i := 16) rfl))) (mvT hZ (hw _ (List.mem_of_getElem? (i := 17) rfl))) (mvT hZ (hw _ (List.mem_of_getElem? (i := 3) rfl))) (mvT hZ (hw _ (List.mem_of_getElem? (i := 18) rfl))) (by decide) (backOf (W := 1) (rm5 l Z a0 hw [] a1 (4 : Int32) p1 p2 k [(.int x0), (.int x1), (.int x2), (.int x3), (.int x4), (.int x5)] (.int (0 : Int32)) x4 h0 n0 Z0 V ⟨by decide, by decide⟩ rfl) hZ (hw _ (List.mem_of_getElem? (i := 18) rfl)) (hw _ (List.mem_of_getElem? (i := 3) rfl)) (by decide) (by decide)) (g := (mkF m 97 #[.val (.ref a1), .val (.int p1), .val (.int p2)] [(.int p2), (.int p1), (.int (4 : Int32)), (.ref a1), (.int ((((own_term x0 (0 : Int32) p1 p2) + (own_term x1 (1 : Int32) p1 p2)) + (own_term x2 (2 : Int32) p1 p2)) + (own_term x3 (3 : Int32) p1 p2)))])) rfl (by rw [hml]; rfl) (argsL := [(.ref a1), (.int (4 : Int32)), (.int p1), (.int p2)]) (rest := [(.int ((((own_term x0 (0 : Int32) p1 p2) + (own_term x1 (1 : Int32) p1 p2)) + (own_term x2 (2 : Int32) p1 p2)) + (own_term x3 (3 : Int32) p1 p2)))]) (lenOf pd_4 rfl) rfl (by show 2 * 0 + _ ≤ _; exact Nat.le_of_eq rfl) (hb hby d2_97) (fun _ _ => ⟨rfl, hh38, (by decide : 0 + 0 ≤ _), (by decide : 0 + 0 ≤ _)⟩)
              dsimp only [Pt.U, Pt.locs, Pt.cells, Pt.slots] at X39 l39 y39 z39 st39 hQ39
              subst l39 y39 z39
              obtain ⟨rfl, N39q, hh39⟩ := hQ39
              have N39 := Fr.app N38 N39q
              obtain ⟨_, _, ⟨T40, L40, k40, n40⟩, -, X40, ⟨Lc40, hQ40, l40, y40, z40⟩, st40⟩ := Jvm.LawKit.callS X39 hx (y := (⟨"com/example/linkshelf/linkshelf/marc/Iso2709NumberPinLaw", "term", "([BIII)I"⟩ : MethodName)) hown (mvT hZ (hw _ (List.mem_of_getElem? (i := 16) rfl))) (mvT hZ (hw _ (List.mem_of_getElem? (i := 17) rfl))) (mvT hZ (hw _ (List.mem_of_getElem? (i := 3) rfl))) (mvT hZ (hw _ (List.mem_of_getElem? (i := 18) rfl))) (by decide) (backOf (W := 1) (rm5 l Z a0 hw [] a1 (5 : Int32) p1 p2 k [(.int x0), (.int x1), (.int x2), (.int x3), (.int x4), (.int x5)] (.int (0 : Int32)) x5 h0 n0 Z0 V ⟨by decide, by decide⟩ rfl) hZ (hw _ (List.mem_of_getElem? (i := 18) rfl)) (hw _ (List.mem_of_getElem? (i := 3) rfl)) (by decide) (by decide)) (g := (mkF m 105 #[.val (.ref a1), .val (.int p1), .val (.int p2)] [(.int p2), (.int p1), (.int (5 : Int32)), (.ref a1), (.int (((((own_term x0 (0 : Int32) p1 p2) + (own_term x1 (1 : Int32) p1 p2)) + (own_term x2 (2 : Int32) p1 p2)) + (own_term x3 (3 : Int32) p1 p2)) + (own_term x4 (4 : Int32) p1 p2)))])) rfl (by rw [hml]; rfl) (argsL := [(.ref a1), (.int (5 : Int32)), (.int p1), (.int p2)]) (rest := [(.int (((((own_term x0 (0 : Int32) p1 p2) + (own_term x1 (1 : Int32) p1 p2)) + (own_term x2 (2 : Int32) p1 p2)) + (own_term x3 (3 : Int32) p1 p2)) + (own_term x4 (4 : Int32) p1 p2)))]) (lenOf pd_4 rfl) rfl (by show 2 * 0 + _ ≤ _; exact Nat.le_of_eq rfl) (hb hby d2_105) (fun _ _ => ⟨rfl, hh39, (by decide : 0 + 0 ≤ _), (by decide : 0 + 0 ≤ _)⟩)
              dsimp only [Pt.U, Pt.locs, Pt.cells, Pt.slots] at X40 l40 y40 z40 st40 hQ40
              subst l40 y40 z40
              obtain ⟨rfl, N40q, hh40⟩ := hQ40
              have N40 := Fr.app N39 N40q
              refine own_Go.mono (T' := T40) (f' := (mkF m 109 #[.val (.ref a1), .val (.int p1), .val (.int p2)] [(.int ((((((own_term x0 (0 : Int32) p1 p2) + (own_term x1 (1 : Int32) p1 p2)) + (own_term x2 (2 : Int32) p1 p2)) + (own_term x3 (3 : Int32) p1 p2)) + (own_term x4 (4 : Int32) p1 p2)) + (own_term x5 (5 : Int32) p1 p2)))])) (fun t k => ?_) ?_
              · show Steps p.tables e below (T33.setTop (mkF m 57 #[.val (.ref a1), .val (.int p1), .val (.int p2)] [(.int (own_bad x5 (5 : Int32) p1 p2))])) _
                refine XS.ifYes X33.here hx rfl (pc0 := 57) (pc' := 62) rfl (hb hby d2_57) rfl ((if0 _ _).trans (teq c57_34).1) (by decide) (by decide) ?_
                show Steps p.tables e below (T33.setTop (mkF m 62 #[.val (.ref a1), .val (.int p1), .val (.int p2)] [])) _
                refine XS.aloadN X33.here hx rfl (hb hby d2_62) rfl rfl ?_
                show Steps p.tables e below (T33.setTop (mkF m 63 #[.val (.ref a1), .val (.int p1), .val (.int p2)] [(.ref a1)])) _
                refine XS.iconst X33.here hx rfl (hb hby d2_63) ?_
                show Steps p.tables e below (T33.setTop (mkF m 64 #[.val (.ref a1), .val (.int p1), .val (.int p2)] [(.int (0 : Int32)), (.ref a1)])) _
                refine XS.iloadN X33.here hx rfl (hb hby d2_64) rfl ?_
                show Steps p.tables e below (T33.setTop (mkF m 65 #[.val (.ref a1), .val (.int p1), .val (.int p2)] [(.int p1), (.int (0 : Int32)), (.ref a1)])) _
                refine XS.iloadN X33.here hx rfl (hb hby d2_65) rfl ?_
                show Steps p.tables e below (T33.setTop (mkF m 66 #[.val (.ref a1), .val (.int p1), .val (.int p2)] [(.int p2), (.int p1), (.int (0 : Int32)), (.ref a1)])) _
                refine st35 _ ?_
                show Steps p.tables e below (T35.setTop (mkF m 69 #[.val (.ref a1), .val (.int p1), .val (.int p2)] [(.int (own_term x0 (0 : Int32) p1 p2))])) _
                refine XS.aloadN X35.here hx rfl (hb hby d2_69) rfl rfl ?_
                show Steps p.tables e below (T35.setTop (mkF m 70 #[.val (.ref a1), .val (.int p1), .val (.int p2)] [(.ref a1), (.int (own_term x0 (0 : Int32) p1 p2))])) _
                refine XS.iconst X35.here hx rfl (hb hby d2_70) ?_
                show Steps p.tables e below (T35.setTop (mkF m 71 #[.val (.ref a1), .val (.int p1), .val (.int p2)] [(.int (1 : Int32)), (.ref a1), (.int (own_term x0 (0 : Int32) p1 p2))])) _
                refine XS.iloadN X35.here hx rfl (hb hby d2_71) rfl ?_
                show Steps p.tables e below (T35.setTop (mkF m 72 #[.val (.ref a1), .val (.int p1), .val (.int p2)] [(.int p1), (.int (1 : Int32)), (.ref a1), (.int (own_term x0 (0 : Int32) p1 p2))])) _
                refine XS.iloadN X35.here hx rfl (hb hby d2_72) rfl ?_
                show Steps p.tables e below (T35.setTop (mkF m 73 #[.val (.ref a1), .val (.int p1), .val (.int p2)] [(.int p2), (.int p1), (.int (1 : Int32)), (.ref a1), (.int (own_term x0 (0 : Int32) p1 p2))])) _
                refine st36 _ ?_
                show Steps p.tables e below (T36.setTop (mkF m 76 #[.val (.ref a1), .val (.int p1), .val (.int p2)] [(.int (own_term x1 (1 : Int32) p1 p2)), (.int (own_term x0 (0 : Int32) p1 p2))])) _
                refine XS.iadd X36.here hx rfl (hb hby d2_76) rfl ?_
                show Steps p.tables e below (T36.setTop (mkF m 77 #[.val (.ref a1), .val (.int p1), .val (.int p2)] [(.int ((own_term x0 (0 : Int32) p1 p2) + (own_term x1 (1 : Int32) p1 p2)))])) _
                refine XS.aloadN X36.here hx rfl (hb hby d2_77) rfl rfl ?_
                show Steps p.tables e below (T36.setTop (mkF m 78 #[.val (.ref a1), .val (.int p1), .val (.int p2)] [(.ref a1), (.int ((own_term x0 (0 : Int32) p1 p2) + (own_term x1 (1 : Int32) p1 p2)))])) _
                refine XS.iconst X36.here hx rfl (hb hby d2_78) ?_
                show Steps p.tables e below (T36.setTop (mkF m 79 #[.val (.ref a1), .val (.int p1), .val (.int p2)] [(.int (2 : Int32)), (.ref a1), (.int ((own_term x0 (0 : Int32) p1 p2) + (own_term x1 (1 : Int32) p1 p2)))])) _
                refine XS.iloadN X36.here hx rfl (hb hby d2_79) rfl ?_
                show Steps p.tables e below (T36.setTop (mkF m 80 #[.val (.ref a1), .val (.int p1), .val (.int p2)] [(.int p1), (.int (2 : Int32)), (.ref a1), (.int ((own_term x0 (0 : Int32) p1 p2) + (own_term x1 (1 : Int32) p1 p2)))])) _
                refine XS.iloadN X36.here hx rfl (hb hby d2_80) rfl ?_
                show Steps p.tables e below (T36.setTop (mkF m 81 #[.val (.ref a1), .val (.int p1), .val (.int p2)] [(.int p2), (.int p1), (.int (2 : Int32)), (.ref a1), (.int ((own_term x0 (0 : Int32) p1 p2) + (own_term x1 (1 : Int32) p1 p2)))])) _
                refine st37 _ ?_
                show Steps p.tables e below (T37.setTop (mkF m 84 #[.val (.ref a1), .val (.int p1), .val (.int p2)] [(.int (own_term x2 (2 : Int32) p1 p2)), (.int ((own_term x0 (0 : Int32) p1 p2) + (own_term x1 (1 : Int32) p1 p2)))])) _
                refine XS.iadd X37.here hx rfl (hb hby d2_84) rfl ?_
                show Steps p.tables e below (T37.setTop (mkF m 85 #[.val (.ref a1), .val (.int p1), .val (.int p2)] [(.int (((own_term x0 (0 : Int32) p1 p2) + (own_term x1 (1 : Int32) p1 p2)) + (own_term x2 (2 : Int32) p1 p2)))])) _
                refine XS.aloadN X37.here hx rfl (hb hby d2_85) rfl rfl ?_
                show Steps p.tables e below (T37.setTop (mkF m 86 #[.val (.ref a1), .val (.int p1), .val (.int p2)] [(.ref a1), (.int (((own_term x0 (0 : Int32) p1 p2) + (own_term x1 (1 : Int32) p1 p2)) + (own_term x2 (2 : Int32) p1 p2)))])) _
                refine XS.iconst X37.here hx rfl (hb hby d2_86) ?_
                show Steps p.tables e below (T37.setTop (mkF m 87 #[.val (.ref a1), .val (.int p1), .val (.int p2)] [(.int (3 : Int32)), (.ref a1), (.int (((own_term x0 (0 : Int32) p1 p2) + (own_term x1 (1 : Int32) p1 p2)) + (own_term x2 (2 : Int32) p1 p2)))])) _
                refine XS.iloadN X37.here hx rfl (hb hby d2_87) rfl ?_
                show Steps p.tables e below (T37.setTop (mkF m 88 #[.val (.ref a1), .val (.int p1), .val (.int p2)] [(.int p1), (.int (3 : Int32)), (.ref a1), (.int (((own_term x0 (0 : Int32) p1 p2) + (own_term x1 (1 : Int32) p1 p2)) + (own_term x2 (2 : Int32) p1 p2)))])) _
                refine XS.iloadN X37.here hx rfl (hb hby d2_88) rfl ?_
                show Steps p.tables e below (T37.setTop (mkF m 89 #[.val (.ref a1), .val (.int p1), .val (.int p2)] [(.int p2), (.int p1), (.int (3 : Int32)), (.ref a1), (.int (((own_term x0 (0 : Int32) p1 p2) + (own_term x1 (1 : Int32) p1 p2)) + (own_term x2 (2 : Int32) p1 p2)))])) _
                refine st38 _ ?_
                show Steps p.tables e below (T38.setTop (mkF m 92 #[.val (.ref a1), .val (.int p1), .val (.int p2)] [(.int (own_term x3 (3 : Int32) p1 p2)), (.int (((own_term x0 (0 : Int32) p1 p2) + (own_term x1 (1 : Int32) p1 p2)) + (own_term x2 (2 : Int32) p1 p2)))])) _
                refine XS.iadd X38.here hx rfl (hb hby d2_92) rfl ?_
                show Steps p.tables e below (T38.setTop (mkF m 93 #[.val (.ref a1), .val (.int p1), .val (.int p2)] [(.int ((((own_term x0 (0 : Int32) p1 p2) + (own_term x1 (1 : Int32) p1 p2)) + (own_term x2 (2 : Int32) p1 p2)) + (own_term x3 (3 : Int32) p1 p2)))])) _
                refine XS.aloadN X38.here hx rfl (hb hby d2_93) rfl rfl ?_
                show Steps p.tables e below (T38.setTop (mkF m 94 #[.val (.ref a1), .val (.int p1), .val (.int p2)] [(.ref a1), (.int ((((own_term x0 (0 : Int32) p1 p2) + (own_term x1 (1 : Int32) p1 p2)) + (own_term x2 (2 : Int32) p1 p2)) + (own_term x3 (3 : Int32) p1 p2)))])) _
                refine XS.iconst X38.here hx rfl (hb hby d2_94) ?_
                show Steps p.tables e below (T38.setTop (mkF m 95 #[.val (.ref a1), .val (.int p1), .val (.int p2)] [(.int (4 : Int32)), (.ref a1), (.int ((((own_term x0 (0 : Int32) p1 p2) + (own_term x1 (1 : Int32) p1 p2)) + (own_term x2 (2 : Int32) p1 p2)) + (own_term x3 (3 : Int32) p1 p2)))])) _
                refine XS.iloadN X38.here hx rfl (hb hby d2_95) rfl ?_
                show Steps p.tables e below (T38.setTop (mkF m 96 #[.val (.ref a1), .val (.int p1), .val (.int p2)] [(.int p1), (.int (4 : Int32)), (.ref a1), (.int ((((own_term x0 (0 : Int32) p1 p2) + (own_term x1 (1 : Int32) p1 p2)) + (own_term x2 (2 : Int32) p1 p2)) + (own_term x3 (3 : Int32) p1 p2)))])) _
                refine XS.iloadN X38.here hx rfl (hb hby d2_96) rfl ?_
                show Steps p.tables e below (T38.setTop (mkF m 97 #[.val (.ref a1), .val (.int p1), .val (.int p2)] [(.int p2), (.int p1), (.int (4 : Int32)), (.ref a1), (.int ((((own_term x0 (0 : Int32) p1 p2) + (own_term x1 (1 : Int32) p1 p2)) + (own_term x2 (2 : Int32) p1 p2)) + (own_term x3 (3 : Int32) p1 p2)))])) _
                refine st39 _ ?_
                show Steps p.tables e below (T39.setTop (mkF m 100 #[.val (.ref a1), .val (.int p1), .val (.int p2)] [(.int (own_term x4 (4 : Int32) p1 p2)), (.int ((((own_term x0 (0 : Int32) p1 p2) + (own_term x1 (1 : Int32) p1 p2)) + (own_term x2 (2 : Int32) p1 p2)) + (own_term x3 (3 : Int32) p1 p2)))])) _
                refine XS.iadd X39.here hx rfl (hb hby d2_100) rfl ?_
                show Steps p.tables e below (T39.setTop (mkF m 101 #[.val (.ref a1), .val (.int p1), .val (.int p2)] [(.int (((((own_term x0 (0 : Int32) p1 p2) + (own_term x1 (1 : Int32) p1 p2)) + (own_term x2 (2 : Int32) p1 p2)) + (own_term x3 (3 : Int32) p1 p2)) + (own_term x4 (4 : Int32) p1 p2)))])) _
                refine XS.aloadN X39.here hx rfl (hb hby d2_101) rfl rfl ?_
                show Steps p.tables e below (T39.setTop (mkF m 102 #[.val (.ref a1), .val (.int p1), .val (.int p2)] [(.ref a1), (.int (((((own_term x0 (0 : Int32) p1 p2) + (own_term x1 (1 : Int32) p1 p2)) + (own_term x2 (2 : Int32) p1 p2)) + (own_term x3 (3 : Int32) p1 p2)) + (own_term x4 (4 : Int32) p1 p2)))])) _
                refine XS.iconst X39.here hx rfl (hb hby d2_102) ?_
                show Steps p.tables e below (T39.setTop (mkF m 103 #[.val (.ref a1), .val (.int p1), .val (.int p2)] [(.int (5 : Int32)), (.ref a1), (.int (((((own_term x0 (0 : Int32) p1 p2) + (own_term x1 (1 : Int32) p1 p2)) + (own_term x2 (2 : Int32) p1 p2)) + (own_term x3 (3 : Int32) p1 p2)) + (own_term x4 (4 : Int32) p1 p2)))])) _
                refine XS.iloadN X39.here hx rfl (hb hby d2_103) rfl ?_
                show Steps p.tables e below (T39.setTop (mkF m 104 #[.val (.ref a1), .val (.int p1), .val (.int p2)] [(.int p1), (.int (5 : Int32)), (.ref a1), (.int (((((own_term x0 (0 : Int32) p1 p2) + (own_term x1 (1 : Int32) p1 p2)) + (own_term x2 (2 : Int32) p1 p2)) + (own_term x3 (3 : Int32) p1 p2)) + (own_term x4 (4 : Int32) p1 p2)))])) _
                refine XS.iloadN X39.here hx rfl (hb hby d2_104) rfl ?_
                show Steps p.tables e below (T39.setTop (mkF m 105 #[.val (.ref a1), .val (.int p1), .val (.int p2)] [(.int p2), (.int p1), (.int (5 : Int32)), (.ref a1), (.int (((((own_term x0 (0 : Int32) p1 p2) + (own_term x1 (1 : Int32) p1 p2)) + (own_term x2 (2 : Int32) p1 p2)) + (own_term x3 (3 : Int32) p1 p2)) + (own_term x4 (4 : Int32) p1 p2)))])) _
                refine st40 _ ?_
                show Steps p.tables e below (T40.setTop (mkF m 108 #[.val (.ref a1), .val (.int p1), .val (.int p2)] [(.int (own_term x5 (5 : Int32) p1 p2)), (.int (((((own_term x0 (0 : Int32) p1 p2) + (own_term x1 (1 : Int32) p1 p2)) + (own_term x2 (2 : Int32) p1 p2)) + (own_term x3 (3 : Int32) p1 p2)) + (own_term x4 (4 : Int32) p1 p2)))])) _
                refine XS.iadd X40.here hx rfl (hb hby d2_108) rfl ?_
                show Steps p.tables e below (T40.setTop (mkF m 109 #[.val (.ref a1), .val (.int p1), .val (.int p2)] [(.int ((((((own_term x0 (0 : Int32) p1 p2) + (own_term x1 (1 : Int32) p1 p2)) + (own_term x2 (2 : Int32) p1 p2)) + (own_term x3 (3 : Int32) p1 p2)) + (own_term x4 (4 : Int32) p1 p2)) + (own_term x5 (5 : Int32) p1 p2)))])) _
                exact k
              exact own_retI X40 hx hret hlk (hb hby d2_109) (⟨congrArg some (congrArg Value.int (by unfold own_ref; rw [if_pos c7_24]; rw [if_pos c17_26]; rw [if_pos c27_28]; rw [if_pos c37_30]; rw [if_pos c47_32]; rw [if_pos c57_34]; first | done | rfl)), N40, hh40⟩) (by decide) (by decide)
            · refine own_Go.mono (T' := T33) (f' := (mkF m 61 #[.val (.ref a1), .val (.int p1), .val (.int p2)] [(.int (-1 : Int32))])) (fun t k => ?_) ?_
              · show Steps p.tables e below (T33.setTop (mkF m 57 #[.val (.ref a1), .val (.int p1), .val (.int p2)] [(.int (own_bad x5 (5 : Int32) p1 p2))])) _
                refine XS.ifNo X33.here hx rfl (hb hby d2_57) rfl ((if0 _ _).trans (feq c57_34).1) ?_
                show Steps p.tables e below (T33.setTop (mkF m 60 #[.val (.ref a1), .val (.int p1), .val (.int p2)] [])) _
                refine XS.iconst X33.here hx rfl (hb hby d2_60) ?_
                show Steps p.tables e below (T33.setTop (mkF m 61 #[.val (.ref a1), .val (.int p1), .val (.int p2)] [(.int (-1 : Int32))])) _
                exact k
              exact own_retI X33 hx hret hlk (hb hby d2_61) (⟨congrArg some (congrArg Value.int (by unfold own_ref; rw [if_pos c7_24]; rw [if_pos c17_26]; rw [if_pos c27_28]; rw [if_pos c37_30]; rw [if_pos c47_32]; rw [if_neg c57_34]; first | done | rfl)), N33, hh33⟩) (by decide) (by decide)
          · refine own_Go.mono (T' := T31) (f' := (mkF m 61 #[.val (.ref a1), .val (.int p1), .val (.int p2)] [(.int (-1 : Int32))])) (fun t k => ?_) ?_
            · show Steps p.tables e below (T31.setTop (mkF m 47 #[.val (.ref a1), .val (.int p1), .val (.int p2)] [(.int (own_bad x4 (4 : Int32) p1 p2))])) _
              refine XS.ifYes X31.here hx rfl (pc0 := 47) (pc' := 60) rfl (hb hby d2_47) rfl ((if0 _ _).trans (feq c47_32).2) (by decide) (by decide) ?_
              show Steps p.tables e below (T31.setTop (mkF m 60 #[.val (.ref a1), .val (.int p1), .val (.int p2)] [])) _
              refine XS.iconst X31.here hx rfl (hb hby d2_60) ?_
              show Steps p.tables e below (T31.setTop (mkF m 61 #[.val (.ref a1), .val (.int p1), .val (.int p2)] [(.int (-1 : Int32))])) _
              exact k
            exact own_retI X31 hx hret hlk (hb hby d2_61) (⟨congrArg some (congrArg Value.int (by unfold own_ref; rw [if_pos c7_24]; rw [if_pos c17_26]; rw [if_pos c27_28]; rw [if_pos c37_30]; rw [if_neg c47_32]; first | done | rfl)), N31, hh31⟩) (by decide) (by decide)
        · refine own_Go.mono (T' := T29) (f' := (mkF m 61 #[.val (.ref a1), .val (.int p1), .val (.int p2)] [(.int (-1 : Int32))])) (fun t k => ?_) ?_
          · show Steps p.tables e below (T29.setTop (mkF m 37 #[.val (.ref a1), .val (.int p1), .val (.int p2)] [(.int (own_bad x3 (3 : Int32) p1 p2))])) _
            refine XS.ifYes X29.here hx rfl (pc0 := 37) (pc' := 60) rfl (hb hby d2_37) rfl ((if0 _ _).trans (feq c37_30).2) (by decide) (by decide) ?_
            show Steps p.tables e below (T29.setTop (mkF m 60 #[.val (.ref a1), .val (.int p1), .val (.int p2)] [])) _
            refine XS.iconst X29.here hx rfl (hb hby d2_60) ?_
            show Steps p.tables e below (T29.setTop (mkF m 61 #[.val (.ref a1), .val (.int p1), .val (.int p2)] [(.int (-1 : Int32))])) _
            exact k
          exact own_retI X29 hx hret hlk (hb hby d2_61) (⟨congrArg some (congrArg Value.int (by unfold own_ref; rw [if_pos c7_24]; rw [if_pos c17_26]; rw [if_pos c27_28]; rw [if_neg c37_30]; first | done | rfl)), N29, hh29⟩) (by decide) (by decide)
      · refine own_Go.mono (T' := T27) (f' := (mkF m 61 #[.val (.ref a1), .val (.int p1), .val (.int p2)] [(.int (-1 : Int32))])) (fun t k => ?_) ?_
        · show Steps p.tables e below (T27.setTop (mkF m 27 #[.val (.ref a1), .val (.int p1), .val (.int p2)] [(.int (own_bad x2 (2 : Int32) p1 p2))])) _
          refine XS.ifYes X27.here hx rfl (pc0 := 27) (pc' := 60) rfl (hb hby d2_27) rfl ((if0 _ _).trans (feq c27_28).2) (by decide) (by decide) ?_
          show Steps p.tables e below (T27.setTop (mkF m 60 #[.val (.ref a1), .val (.int p1), .val (.int p2)] [])) _
          refine XS.iconst X27.here hx rfl (hb hby d2_60) ?_
          show Steps p.tables e below (T27.setTop (mkF m 61 #[.val (.ref a1), .val (.int p1), .val (.int p2)] [(.int (-1 : Int32))])) _
          exact k
        exact own_retI X27 hx hret hlk (hb hby d2_61) (⟨congrArg some (congrArg Value.int (by unfold own_ref; rw [if_pos c7_24]; rw [if_pos c17_26]; rw [if_neg c27_28]; first | done | rfl)), N27, hh27⟩) (by decide) (by decide)
    · refine own_Go.mono (T' := T25) (f' := (mkF m 61 #[.val (.ref a1), .val (.int p1), .val (.int p2)] [(.int (-1 : Int32))])) (fun t k => ?_) ?_
      · show Steps p.tables e below (T25.setTop (mkF m 17 #[.val (.ref a1), .val (.int p1), .val (.int p2)] [(.int (own_bad x1 (1 : Int32) p1 p2))])) _
        refine XS.ifYes X25.here hx rfl (pc0 := 17) (pc' := 60) rfl (hb hby d2_17) rfl ((if0 _ _).trans (feq c17_26).2) (by decide) (by decide) ?_
        show Steps p.tables e below (T25.setTop (mkF m 60 #[.val (.ref a1), .val (.int p1), .val (.int p2)] [])) _
        refine XS.iconst X25.here hx rfl (hb hby d2_60) ?_
        show Steps p.tables e below (T25.setTop (mkF m 61 #[.val (.ref a1), .val (.int p1), .val (.int p2)] [(.int (-1 : Int32))])) _
        exact k
      exact own_retI X25 hx hret hlk (hb hby d2_61) (⟨congrArg some (congrArg Value.int (by unfold own_ref; rw [if_pos c7_24]; rw [if_neg c17_26]; first | done | rfl)), N25, hh25⟩) (by decide) (by decide)
  · refine own_Go.mono (T' := T23) (f' := (mkF m 61 #[.val (.ref a1), .val (.int p1), .val (.int p2)] [(.int (-1 : Int32))])) (fun t k => ?_) ?_
    · show Steps p.tables e below (T23.setTop (mkF m 7 #[.val (.ref a1), .val (.int p1), .val (.int p2)] [(.int (own_bad x0 (0 : Int32) p1 p2))])) _
      refine XS.ifYes X23.here hx rfl (pc0 := 7) (pc' := 60) rfl (hb hby d2_7) rfl ((if0 _ _).trans (feq c7_24).2) (by decide) (by decide) ?_
      show Steps p.tables e below (T23.setTop (mkF m 60 #[.val (.ref a1), .val (.int p1), .val (.int p2)] [])) _
      refine XS.iconst X23.here hx rfl (hb hby d2_60) ?_
      show Steps p.tables e below (T23.setTop (mkF m 61 #[.val (.ref a1), .val (.int p1), .val (.int p2)] [(.int (-1 : Int32))])) _
      exact k
    exact own_retI X23 hx hret hlk (hb hby d2_61) (⟨congrArg some (congrArg Value.int (by unfold own_ref; rw [if_neg c7_24]; first | done | rfl)), N23, hh23⟩) (by decide) (by decide)
theorem d6_0 : decode prog_45_method_11_code 0 = .ok (.iconst 0, 1) := by decide +kernel
theorem d6_1 : decode prog_45_method_11_code 1 = .ok (.istore_n 3, 1) := by decide +kernel
theorem d6_2 : decode prog_45_method_11_code 2 = .ok (.iload_n 1, 1) := by decide +kernel
theorem d6_3 : decode prog_45_method_11_code 3 = .ok (.istore 4, 2) := by decide +kernel
theorem d6_5 : decode prog_45_method_11_code 5 = .ok (.iload 4, 2) := by decide +kernel
theorem d6_7 : decode prog_45_method_11_code 7 = .ok (.iload_n 1, 1) := by decide +kernel
theorem d6_8 : decode prog_45_method_11_code 8 = .ok (.iload_n 2, 1) := by decide +kernel
theorem d6_9 : decode prog_45_method_11_code 9 = .ok (.iadd, 1) := by decide +kernel
theorem d6_10 : decode prog_45_method_11_code 10 = .ok (.if_icmp .ge 42, 3) := by decide +kernel
theorem d6_13 : decode prog_45_method_11_code 13 = .ok (.aload_n 0, 1) := by decide +kernel
theorem d6_14 : decode prog_45_method_11_code 14 = .ok (.iload 4, 2) := by decide +kernel
theorem d6_16 : decode prog_45_method_11_code 16 = .ok (.baload, 1) := by decide +kernel
theorem d6_17 : decode prog_45_method_11_code 17 = .ok (.bipush 48, 2) := by decide +kernel
theorem d6_19 : decode prog_45_method_11_code 19 = .ok (.if_icmp .lt 12, 3) := by decide +kernel
theorem d6_22 : decode prog_45_method_11_code 22 = .ok (.aload_n 0, 1) := by decide +kernel
theorem d6_23 : decode prog_45_method_11_code 23 = .ok (.iload 4, 2) := by decide +kernel
theorem d6_25 : decode prog_45_method_11_code 25 = .ok (.baload, 1) := by decide +kernel
theorem d6_26 : decode prog_45_method_11_code 26 = .ok (.bipush 57, 2) := by decide +kernel
theorem d6_28 : decode prog_45_method_11_code 28 = .ok (.if_icmp .le 5, 3) := by decide +kernel
theorem d6_31 : decode prog_45_method_11_code 31 = .ok (.iconst (-1), 1) := by decide +kernel
theorem d6_32 : decode prog_45_method_11_code 32 = .ok (.ireturn, 1) := by decide +kernel
theorem d6_33 : decode prog_45_method_11_code 33 = .ok (.iload_n 3, 1) := by decide +kernel
theorem d6_34 : decode prog_45_method_11_code 34 = .ok (.bipush 10, 2) := by decide +kernel
theorem d6_36 : decode prog_45_method_11_code 36 = .ok (.imul, 1) := by decide +kernel
theorem d6_37 : decode prog_45_method_11_code 37 = .ok (.aload_n 0, 1) := by decide +kernel
theorem d6_38 : decode prog_45_method_11_code 38 = .ok (.iload 4, 2) := by decide +kernel
theorem d6_40 : decode prog_45_method_11_code 40 = .ok (.baload, 1) := by decide +kernel
theorem d6_41 : decode prog_45_method_11_code 41 = .ok (.iadd, 1) := by decide +kernel
theorem d6_42 : decode prog_45_method_11_code 42 = .ok (.bipush 48, 2) := by decide +kernel
theorem d6_44 : decode prog_45_method_11_code 44 = .ok (.isub, 1) := by decide +kernel
theorem d6_45 : decode prog_45_method_11_code 45 = .ok (.istore_n 3, 1) := by decide +kernel
theorem d6_46 : decode prog_45_method_11_code 46 = .ok (.iinc 4 1, 3) := by decide +kernel
theorem d6_49 : decode prog_45_method_11_code 49 = .ok (.goto (-44), 3) := by decide +kernel
theorem d6_52 : decode prog_45_method_11_code 52 = .ok (.iload_n 3, 1) := by decide +kernel
theorem d6_53 : decode prog_45_method_11_code 53 = .ok (.ireturn, 1) := by decide +kernel
def own_num (at_ : Int32 → Int32) : Nat → Int32 → Int32 → Int32
  | 0, _, acc => acc
  | n + 1, i, acc => if at_ i < (48 : Int32) then (-1 : Int32) else if (57 : Int32) < at_ i then (-1 : Int32) else own_num at_ n (i + 1) (((acc * (10 : Int32)) + at_ i) - (48 : Int32))
theorem ef_rm6 (m : MethodId) (x0 : Addr) (x1 : Int32) (x2 : Int32) : entryFrame m #[(.ref x0), (.int x1), (.int x2)] 5 = mkF m 0 #[.val (.ref x0), .val (.int x1), .val (.int x2), .unset, .unset] [] := by first | (simp [entryFrame, mkF, argsToLocals, Value.category]; done) | rfl
def Q6 (Z : State) (a1 : Addr) (p1 : Int32) (p2 : Int32) (k : ClassId) (vs : List Value) (dv : Value) (at_ : Int32 → Int32) (h0 : Heap) (n0 : Nat) (v : Option Value) (h : Heap) (L : List Loc) : Prop := v = some (.int (own_num at_ p2.toInt.toNat p1 0)) ∧ Fr n0 L ∧ h = h0
set_option maxRecDepth 65536 in
set_option maxHeartbeats 40000000 in
theorem rm6 (l : Launch) (Z : State) (a0 : Array Value) (hw : ∀ d ∈ tables_1, d.before a0 Z = true) (ws : List Jvm.Cond) (a1 : Addr) (p1 : Int32) (p2 : Int32) (k : ClassId) (vs : List Value) (dv : Value) (at_ : Int32 → Int32) (h0 : Heap) (n0 : Nat) (Z0 : n0 ≤ h0.size) (V : Arv Z h0 a1 k .byte (6 : Int32) vs dv) (hat : ∀ i : Int32, ¬ i < 0 → i < (6 : Int32) → vs.getD i.toNatClampNeg dv = .int (at_ i)) (h1 : 0 ≤ p1.toInt) (h2 : 0 ≤ p2.toInt) (h3 : p1.toInt + p2.toInt ≤ 6) :
    MetFree l (⟨"com/example/linkshelf/linkshelf/marc/Iso2709", "number", "([BII)I"⟩ : MethodName) (head1 (Jvm.Cond.code (⟨"com/example/linkshelf/linkshelf/marc/Iso2709", "number", "([BII)I"⟩ : MethodName) prog_45_method_11_code 5 (some .int) :: ws) ({ frames := 0, cells := 0, slots := 0, locals := 0 } : Room)) (fun a U => a = #[(.ref a1), (.int p1), (.int p2)] ∧ Z.Warmed39 U.vm ∧ U.heap = h0) (fun _ _ _ _ _ => True) (fun _ U o U' => ∃ v L, o = .returned v ∧ Q6 Z a1 p1 p2 k vs dv at_ h0 n0 v U'.heap L ∧ FrameEnd U o U' L 0 0) := by
  refine own_body (Qv := Q6 Z a1 p1 p2 k vs dv at_ h0 n0) (plainFor_of_name (by first | (simp [plainName, overriddenIn]; done) | decide +kernel)) ?_
  intro p e s m below meth c s₁ hx hby hml hret hlk hown hnm hZ X0 e0
  replace hown : s.vm.findClass "com/example/linkshelf/linkshelf/marc/Iso2709" = some m.cls := hown
  replace hnm : meth.name = "number" := hnm
  have N0 := Fr.nil n0
  refine own_Go.mono (T' := s₁) (f' := (mkF m 0 #[.val (.ref a1), .val (.int p1), .val (.int p2), .unset, .unset] [])) (fun t k => castTop (ef_rm6 m a1 p1 p2) k) ?_
  have hs : (p1 + p2).toInt = p1.toInt + p2.toInt := by have q := c_iadd p1 p2; have r := rng32 (p1 + p2); omega
  have k0 : (0 : Int32).toInt = 0 := rfl
  have k1 : (1 : Int32).toInt = 1 := rfl
  have k6 : (6 : Int32).toInt = 6 := rfl
  have loop : ∀ (n : Nat) (acc i : Int32), 0 ≤ i.toInt → i.toInt + n = (p1 + p2).toInt → own_num at_ n i acc = own_num at_ p2.toInt.toNat p1 0 → own_Go p e below s₁ (mkF m 5 #[.val (.ref a1), .val (.int p1), .val (.int p2), .val (.int acc), .val (.int i)] []) (own_K s below (Q6 Z a1 p1 p2 k vs dv at_ h0 n0) 0 0) := by
    intro n
    induction n with
    | zero =>
      intro acc i hi hn hv
      have hc : ¬ i < (p1 + p2) := by rw [Int32.lt_iff_toInt_lt]; omega
      refine own_Go.mono (T' := s₁) (f' := (mkF m 53 #[.val (.ref a1), .val (.int p1), .val (.int p2), .val (.int acc), .val (.int i)] [(.int acc)])) (fun t k => ?_) ?_
      · show Steps p.tables e below (s₁.setTop (mkF m 5 #[.val (.ref a1), .val (.int p1), .val (.int p2), .val (.int acc), .val (.int i)] [])) _
        refine XS.iload X0.here hx rfl (hb hby d6_5) rfl ?_
        show Steps p.tables e below (s₁.setTop (mkF m 7 #[.val (.ref a1), .val (.int p1), .val (.int p2), .val (.int acc), .val (.int i)] [(.int i)])) _
        refine XS.iloadN X0.here hx rfl (hb hby d6_7) rfl ?_
        show Steps p.tables e below (s₁.setTop (mkF m 8 #[.val (.ref a1), .val (.int p1), .val (.int p2), .val (.int acc), .val (.int i)] [(.int p1), (.int i)])) _
        refine XS.iloadN X0.here hx rfl (hb hby d6_8) rfl ?_
        show Steps p.tables e below (s₁.setTop (mkF m 9 #[.val (.ref a1), .val (.int p1), .val (.int p2), .val (.int acc), .val (.int i)] [(.int p2), (.int p1), (.int i)])) _
        refine XS.iadd X0.here hx rfl (hb hby d6_9) rfl ?_
        show Steps p.tables e below (s₁.setTop (mkF m 10 #[.val (.ref a1), .val (.int p1), .val (.int p2), .val (.int acc), .val (.int i)] [(.int (p1 + p2)), (.int i)])) _
        refine XS.icmpYes X0.here hx rfl (pc0 := 10) (pc' := 52) rfl (hb hby d6_10) rfl (flt hc).2.1 (by decide) (by decide) ?_
        show Steps p.tables e below (s₁.setTop (mkF m 52 #[.val (.ref a1), .val (.int p1), .val (.int p2), .val (.int acc), .val (.int i)] [])) _
        refine XS.iloadN X0.here hx rfl (hb hby d6_52) rfl ?_
        show Steps p.tables e below (s₁.setTop (mkF m 53 #[.val (.ref a1), .val (.int p1), .val (.int p2), .val (.int acc), .val (.int i)] [(.int acc)])) _
        exact k
      exact own_retI X0 hx hret hlk (hb hby d6_53) (⟨congrArg some (congrArg Value.int hv), N0, e0⟩) (by decide) (by decide)
    | succ n ih =>
      intro acc i hi hn hv
      have hc : i < (p1 + p2) := by rw [Int32.lt_iff_toInt_lt]; omega
      have hj : ¬ i < 0 ∧ i < (6 : Int32) := by rw [Int32.lt_iff_toInt_lt, Int32.lt_iff_toInt_lt]; omega
      have hin' : (i + 1).toInt = i.toInt + 1 := by have q := c_iadd i 1; have r := rng32 (i + 1); omega
      obtain ⟨cl41, Ar41, q41, S41, P41, H41, G41⟩ := V
      have hin42 : ¬ (i < 0 ∨ cl41.slots.size ≤ (i).toNatClampNeg) := inb_of S41 hj
      have hat42 : cl41.slots[(i).toNatClampNeg]? = some (.int (at_ i)) := H41.at hin42 (hat i hj.1 hj.2)
      have V_a1_42 : Arv Z h0 a1 k .byte (6 : Int32) vs dv := ⟨cl41, Ar41, q41, S41, P41, H41, G41⟩
      refine own_Go.mono (T' := s₁) (f' := (mkF m 19 #[.val (.ref a1), .val (.int p1), .val (.int p2), .val (.int acc), .val (.int i)] [(.int (48 : Int32)), (.int (at_ i))])) (fun t k => ?_) ?_
      · show Steps p.tables e below (s₁.setTop (mkF m 5 #[.val (.ref a1), .val (.int p1), .val (.int p2), .val (.int acc), .val (.int i)] [])) _
        refine XS.iload X0.here hx rfl (hb hby d6_5) rfl ?_
        show Steps p.tables e below (s₁.setTop (mkF m 7 #[.val (.ref a1), .val (.int p1), .val (.int p2), .val (.int acc), .val (.int i)] [(.int i)])) _
        refine XS.iloadN X0.here hx rfl (hb hby d6_7) rfl ?_
        show Steps p.tables e below (s₁.setTop (mkF m 8 #[.val (.ref a1), .val (.int p1), .val (.int p2), .val (.int acc), .val (.int i)] [(.int p1), (.int i)])) _
        refine XS.iloadN X0.here hx rfl (hb hby d6_8) rfl ?_
        show Steps p.tables e below (s₁.setTop (mkF m 9 #[.val (.ref a1), .val (.int p1), .val (.int p2), .val (.int acc), .val (.int i)] [(.int p2), (.int p1), (.int i)])) _
        refine XS.iadd X0.here hx rfl (hb hby d6_9) rfl ?_
        show Steps p.tables e below (s₁.setTop (mkF m 10 #[.val (.ref a1), .val (.int p1), .val (.int p2), .val (.int acc), .val (.int i)] [(.int (p1 + p2)), (.int i)])) _
        refine XS.icmpNo X0.here hx rfl (hb hby d6_10) rfl (tlt hc).2.1 ?_
        show Steps p.tables e below (s₁.setTop (mkF m 13 #[.val (.ref a1), .val (.int p1), .val (.int p2), .val (.int acc), .val (.int i)] [])) _
        refine XS.aloadN X0.here hx rfl (hb hby d6_13) rfl rfl ?_
        show Steps p.tables e below (s₁.setTop (mkF m 14 #[.val (.ref a1), .val (.int p1), .val (.int p2), .val (.int acc), .val (.int i)] [(.ref a1)])) _
        refine XS.iload X0.here hx rfl (hb hby d6_14) rfl ?_
        show Steps p.tables e below (s₁.setTop (mkF m 16 #[.val (.ref a1), .val (.int p1), .val (.int p2), .val (.int acc), .val (.int i)] [(.int i), (.ref a1)])) _
        refine X0.baloadBytes hx (j := i) (v := (.int (at_ i))) (by rw [e0]; exact Ar41.1) (State.isArrayOf_alike hZ.alike Ar41.2.1) Ar41.2.2 hin42 hat42 (g := (mkF m 16 #[.val (.ref a1), .val (.int p1), .val (.int p2), .val (.int acc), .val (.int i)] [(.int i), (.ref a1)])) rfl rfl (hb hby d6_16) _ ?_
        show Steps p.tables e below (s₁.setTop (mkF m 17 #[.val (.ref a1), .val (.int p1), .val (.int p2), .val (.int acc), .val (.int i)] [(.int (at_ i))])) _
        refine XS.bipush X0.here hx rfl (hb hby d6_17) ?_
        show Steps p.tables e below (s₁.setTop (mkF m 19 #[.val (.ref a1), .val (.int p1), .val (.int p2), .val (.int acc), .val (.int i)] [(.int (48 : Int32)), (.int (at_ i))])) _
        exact k
      by_cases c19_43 : (at_ i) < (48 : Int32)
      · refine own_Go.mono (T' := s₁) (f' := (mkF m 32 #[.val (.ref a1), .val (.int p1), .val (.int p2), .val (.int acc), .val (.int i)] [(.int (-1 : Int32))])) (fun t k => ?_) ?_
        · show Steps p.tables e below (s₁.setTop (mkF m 19 #[.val (.ref a1), .val (.int p1), .val (.int p2), .val (.int acc), .val (.int i)] [(.int (48 : Int32)), (.int (at_ i))])) _
          refine XS.icmpYes X0.here hx rfl (pc0 := 19) (pc' := 31) rfl (hb hby d6_19) rfl (tlt c19_43).1 (by decide) (by decide) ?_
          show Steps p.tables e below (s₁.setTop (mkF m 31 #[.val (.ref a1), .val (.int p1), .val (.int p2), .val (.int acc), .val (.int i)] [])) _
          refine XS.iconst X0.here hx rfl (hb hby d6_31) ?_
          show Steps p.tables e below (s₁.setTop (mkF m 32 #[.val (.ref a1), .val (.int p1), .val (.int p2), .val (.int acc), .val (.int i)] [(.int (-1 : Int32))])) _
          exact k
        exact own_retI X0 hx hret hlk (hb hby d6_32) (⟨congrArg some (congrArg Value.int (by rw [← hv]; unfold own_num; rw [if_pos c19_43])), N0, e0⟩) (by decide) (by decide)
      · obtain ⟨cl44, Ar44, q44, S44, P44, H44, G44⟩ := V_a1_42
        have hin45 : ¬ (i < 0 ∨ cl44.slots.size ≤ (i).toNatClampNeg) := inb_of S44 hj
        have hat45 : cl44.slots[(i).toNatClampNeg]? = some (.int (at_ i)) := H44.at hin45 (hat i hj.1 hj.2)
        have V_a1_45 : Arv Z h0 a1 k .byte (6 : Int32) vs dv := ⟨cl44, Ar44, q44, S44, P44, H44, G44⟩
        refine own_Go.mono (T' := s₁) (f' := (mkF m 28 #[.val (.ref a1), .val (.int p1), .val (.int p2), .val (.int acc), .val (.int i)] [(.int (57 : Int32)), (.int (at_ i))])) (fun t k => ?_) ?_
        · show Steps p.tables e below (s₁.setTop (mkF m 19 #[.val (.ref a1), .val (.int p1), .val (.int p2), .val (.int acc), .val (.int i)] [(.int (48 : Int32)), (.int (at_ i))])) _
          refine XS.icmpNo X0.here hx rfl (hb hby d6_19) rfl (flt c19_43).1 ?_
          show Steps p.tables e below (s₁.setTop (mkF m 22 #[.val (.ref a1), .val (.int p1), .val (.int p2), .val (.int acc), .val (.int i)] [])) _
          refine XS.aloadN X0.here hx rfl (hb hby d6_22) rfl rfl ?_
          show Steps p.tables e below (s₁.setTop (mkF m 23 #[.val (.ref a1), .val (.int p1), .val (.int p2), .val (.int acc), .val (.int i)] [(.ref a1)])) _
          refine XS.iload X0.here hx rfl (hb hby d6_23) rfl ?_
          show Steps p.tables e below (s₁.setTop (mkF m 25 #[.val (.ref a1), .val (.int p1), .val (.int p2), .val (.int acc), .val (.int i)] [(.int i), (.ref a1)])) _
          refine X0.baloadBytes hx (j := i) (v := (.int (at_ i))) (by rw [e0]; exact Ar44.1) (State.isArrayOf_alike hZ.alike Ar44.2.1) Ar44.2.2 hin45 hat45 (g := (mkF m 25 #[.val (.ref a1), .val (.int p1), .val (.int p2), .val (.int acc), .val (.int i)] [(.int i), (.ref a1)])) rfl rfl (hb hby d6_25) _ ?_
          show Steps p.tables e below (s₁.setTop (mkF m 26 #[.val (.ref a1), .val (.int p1), .val (.int p2), .val (.int acc), .val (.int i)] [(.int (at_ i))])) _
          refine XS.bipush X0.here hx rfl (hb hby d6_26) ?_
          show Steps p.tables e below (s₁.setTop (mkF m 28 #[.val (.ref a1), .val (.int p1), .val (.int p2), .val (.int acc), .val (.int i)] [(.int (57 : Int32)), (.int (at_ i))])) _
          exact k
        by_cases c28_46 : (57 : Int32) < (at_ i)
        · refine own_Go.mono (T' := s₁) (f' := (mkF m 32 #[.val (.ref a1), .val (.int p1), .val (.int p2), .val (.int acc), .val (.int i)] [(.int (-1 : Int32))])) (fun t k => ?_) ?_
          · show Steps p.tables e below (s₁.setTop (mkF m 28 #[.val (.ref a1), .val (.int p1), .val (.int p2), .val (.int acc), .val (.int i)] [(.int (57 : Int32)), (.int (at_ i))])) _
            refine XS.icmpNo X0.here hx rfl (hb hby d6_28) rfl (tlt c28_46).2.2.2 ?_
            show Steps p.tables e below (s₁.setTop (mkF m 31 #[.val (.ref a1), .val (.int p1), .val (.int p2), .val (.int acc), .val (.int i)] [])) _
            refine XS.iconst X0.here hx rfl (hb hby d6_31) ?_
            show Steps p.tables e below (s₁.setTop (mkF m 32 #[.val (.ref a1), .val (.int p1), .val (.int p2), .val (.int acc), .val (.int i)] [(.int (-1 : Int32))])) _
            exact k
          exact own_retI X0 hx hret hlk (hb hby d6_32) (⟨congrArg some (congrArg Value.int (by rw [← hv]; unfold own_num; rw [if_neg c19_43]; rw [if_pos c28_46])), N0, e0⟩) (by decide) (by decide)
        · obtain ⟨cl47, Ar47, q47, S47, P47, H47, G47⟩ := V_a1_45
          have hin48 : ¬ (i < 0 ∨ cl47.slots.size ≤ (i).toNatClampNeg) := inb_of S47 hj
          have hat48 : cl47.slots[(i).toNatClampNeg]? = some (.int (at_ i)) := H47.at hin48 (hat i hj.1 hj.2)
          have V_a1_48 : Arv Z h0 a1 k .byte (6 : Int32) vs dv := ⟨cl47, Ar47, q47, S47, P47, H47, G47⟩
          refine own_Go.mono (T' := s₁) (f' := (mkF m 5 #[.val (.ref a1), .val (.int p1), .val (.int p2), .val (.int (((acc * (10 : Int32)) + (at_ i)) - (48 : Int32))), .val (.int (i + (1 : Int32)))] [])) (fun t k => ?_) ?_
          · show Steps p.tables e below (s₁.setTop (mkF m 28 #[.val (.ref a1), .val (.int p1), .val (.int p2), .val (.int acc), .val (.int i)] [(.int (57 : Int32)), (.int (at_ i))])) _
            refine XS.icmpYes X0.here hx rfl (pc0 := 28) (pc' := 33) rfl (hb hby d6_28) rfl (flt c28_46).2.2.2 (by decide) (by decide) ?_
            show Steps p.tables e below (s₁.setTop (mkF m 33 #[.val (.ref a1), .val (.int p1), .val (.int p2), .val (.int acc), .val (.int i)] [])) _
            refine XS.iloadN X0.here hx rfl (hb hby d6_33) rfl ?_
            show Steps p.tables e below (s₁.setTop (mkF m 34 #[.val (.ref a1), .val (.int p1), .val (.int p2), .val (.int acc), .val (.int i)] [(.int acc)])) _
            refine XS.bipush X0.here hx rfl (hb hby d6_34) ?_
            show Steps p.tables e below (s₁.setTop (mkF m 36 #[.val (.ref a1), .val (.int p1), .val (.int p2), .val (.int acc), .val (.int i)] [(.int (10 : Int32)), (.int acc)])) _
            refine XS.imul X0.here hx rfl (hb hby d6_36) rfl ?_
            show Steps p.tables e below (s₁.setTop (mkF m 37 #[.val (.ref a1), .val (.int p1), .val (.int p2), .val (.int acc), .val (.int i)] [(.int (acc * (10 : Int32)))])) _
            refine XS.aloadN X0.here hx rfl (hb hby d6_37) rfl rfl ?_
            show Steps p.tables e below (s₁.setTop (mkF m 38 #[.val (.ref a1), .val (.int p1), .val (.int p2), .val (.int acc), .val (.int i)] [(.ref a1), (.int (acc * (10 : Int32)))])) _
            refine XS.iload X0.here hx rfl (hb hby d6_38) rfl ?_
            show Steps p.tables e below (s₁.setTop (mkF m 40 #[.val (.ref a1), .val (.int p1), .val (.int p2), .val (.int acc), .val (.int i)] [(.int i), (.ref a1), (.int (acc * (10 : Int32)))])) _
            refine X0.baloadBytes hx (j := i) (v := (.int (at_ i))) (by rw [e0]; exact Ar47.1) (State.isArrayOf_alike hZ.alike Ar47.2.1) Ar47.2.2 hin48 hat48 (g := (mkF m 40 #[.val (.ref a1), .val (.int p1), .val (.int p2), .val (.int acc), .val (.int i)] [(.int i), (.ref a1), (.int (acc * (10 : Int32)))])) rfl rfl (hb hby d6_40) _ ?_
            show Steps p.tables e below (s₁.setTop (mkF m 41 #[.val (.ref a1), .val (.int p1), .val (.int p2), .val (.int acc), .val (.int i)] [(.int (at_ i)), (.int (acc * (10 : Int32)))])) _
            refine XS.iadd X0.here hx rfl (hb hby d6_41) rfl ?_
            show Steps p.tables e below (s₁.setTop (mkF m 42 #[.val (.ref a1), .val (.int p1), .val (.int p2), .val (.int acc), .val (.int i)] [(.int ((acc * (10 : Int32)) + (at_ i)))])) _
            refine XS.bipush X0.here hx rfl (hb hby d6_42) ?_
            show Steps p.tables e below (s₁.setTop (mkF m 44 #[.val (.ref a1), .val (.int p1), .val (.int p2), .val (.int acc), .val (.int i)] [(.int (48 : Int32)), (.int ((acc * (10 : Int32)) + (at_ i)))])) _
            refine XS.isub X0.here hx rfl (hb hby d6_44) rfl ?_
            show Steps p.tables e below (s₁.setTop (mkF m 45 #[.val (.ref a1), .val (.int p1), .val (.int p2), .val (.int acc), .val (.int i)] [(.int (((acc * (10 : Int32)) + (at_ i)) - (48 : Int32)))])) _
            refine XS.istoreN X0.here hx rfl (hb hby d6_45) rfl (l' := #[.val (.ref a1), .val (.int p1), .val (.int p2), .val (.int (((acc * (10 : Int32)) + (at_ i)) - (48 : Int32))), .val (.int i)]) rfl ?_
            show Steps p.tables e below (s₁.setTop (mkF m 46 #[.val (.ref a1), .val (.int p1), .val (.int p2), .val (.int (((acc * (10 : Int32)) + (at_ i)) - (48 : Int32))), .val (.int i)] [])) _
            refine XS.iinc X0.here hx rfl (hb hby d6_46) rfl (l' := #[.val (.ref a1), .val (.int p1), .val (.int p2), .val (.int (((acc * (10 : Int32)) + (at_ i)) - (48 : Int32))), .val (.int (i + (1 : Int32)))]) rfl ?_
            show Steps p.tables e below (s₁.setTop (mkF m 49 #[.val (.ref a1), .val (.int p1), .val (.int p2), .val (.int (((acc * (10 : Int32)) + (at_ i)) - (48 : Int32))), .val (.int (i + (1 : Int32)))] [])) _
            refine XS.goto X0.here hx rfl (pc0 := 49) (pc' := 5) rfl (hb hby d6_49) (by decide) (by decide) ?_
            show Steps p.tables e below (s₁.setTop (mkF m 5 #[.val (.ref a1), .val (.int p1), .val (.int p2), .val (.int (((acc * (10 : Int32)) + (at_ i)) - (48 : Int32))), .val (.int (i + (1 : Int32)))] [])) _
            exact k
          refine ih _ _ (by omega) (by rw [hin']; omega) ?_
          rw [← hv]; conv => rhs; unfold own_num
          rw [if_neg c19_43, if_neg c28_46]
  refine own_Go.mono (T' := s₁) (f' := (mkF m 5 #[.val (.ref a1), .val (.int p1), .val (.int p2), .val (.int (0 : Int32)), .val (.int p1)] [])) (fun t k => ?_) ?_
  · show Steps p.tables e below (s₁.setTop (mkF m 0 #[.val (.ref a1), .val (.int p1), .val (.int p2), .unset, .unset] [])) _
    refine XS.iconst X0.here hx rfl (hb hby d6_0) ?_
    show Steps p.tables e below (s₁.setTop (mkF m 1 #[.val (.ref a1), .val (.int p1), .val (.int p2), .unset, .unset] [(.int (0 : Int32))])) _
    refine XS.istoreN X0.here hx rfl (hb hby d6_1) rfl (l' := #[.val (.ref a1), .val (.int p1), .val (.int p2), .val (.int (0 : Int32)), .unset]) rfl ?_
    show Steps p.tables e below (s₁.setTop (mkF m 2 #[.val (.ref a1), .val (.int p1), .val (.int p2), .val (.int (0 : Int32)), .unset] [])) _
    refine XS.iloadN X0.here hx rfl (hb hby d6_2) rfl ?_
    show Steps p.tables e below (s₁.setTop (mkF m 3 #[.val (.ref a1), .val (.int p1), .val (.int p2), .val (.int (0 : Int32)), .unset] [(.int p1)])) _
    refine XS.istore X0.here hx rfl (hb hby d6_3) rfl (l' := #[.val (.ref a1), .val (.int p1), .val (.int p2), .val (.int (0 : Int32)), .val (.int p1)]) rfl ?_
    show Steps p.tables e below (s₁.setTop (mkF m 5 #[.val (.ref a1), .val (.int p1), .val (.int p2), .val (.int (0 : Int32)), .val (.int p1)] [])) _
    exact k
  exact loop _ _ _ h1 (by rw [hs]; omega) rfl
theorem own_range (p : Int32) : ∃ f, ((p &&& (255 : Int32)) % (7 : Int32)) = f ∧ ∃ c, ((((p.toUInt32 >>> ((8 : Int32) &&& 31).toUInt32).toInt32) &&& (255 : Int32)) % ((7 : Int32) - f)) = c ∧ 0 ≤ f.toInt ∧ 0 ≤ c.toInt ∧ f.toInt + c.toInt ≤ 6 := by
  refine ⟨_, rfl, _, rfl, ?_⟩
  have k7 : (7 : Int32).toInt = 7 := rfl
  have k255 : (255 : Int32).toInt = 255 := rfl
  have a1 := c_and p 255 (by decide)
  have a2 := (c_irem (p &&& 255) 7 7 rfl).1 a1.1
  have hf : 0 ≤ ((p &&& (255 : Int32)) % (7 : Int32)).toInt ∧ ((p &&& (255 : Int32)) % (7 : Int32)).toInt < 7 := by rw [a2]; omega
  generalize ((p &&& (255 : Int32)) % (7 : Int32)) = f at hf
  have b1 := c_and ((p.toUInt32 >>> ((8 : Int32) &&& 31).toUInt32).toInt32) 255 (by decide)
  generalize (((p.toUInt32 >>> ((8 : Int32) &&& 31).toUInt32).toInt32) &&& (255 : Int32)) = g at b1
  have d1 : ((7 : Int32) - f).toInt = 7 - f.toInt := by have q := c_isub 7 f; have r := rng32 ((7 : Int32) - f); omega
  have e1 := (c_irem g (7 - f) (7 - f.toInt) d1).1 b1.1
  have e2 := Int.emod_nonneg g.toInt (show 7 - f.toInt ≠ 0 by omega)
  have e3 := Int.emod_lt_of_pos g.toInt (show 0 < 7 - f.toInt by omega)
  rw [e1]; omega
theorem own_nz {f c : Int32} (h1 : 0 ≤ f.toInt) (h2 : 0 ≤ c.toInt) (h3 : f.toInt + c.toInt ≤ 6) : ((7 : Int32) - f) ≠ 0 := fun h => by
  have k7 : (7 : Int32).toInt = 7 := rfl
  have k0 : (0 : Int32).toInt = 0 := rfl
  have d1 : ((7 : Int32) - f).toInt = 7 - f.toInt := by have q := c_isub 7 f; have r := rng32 ((7 : Int32) - f); omega
  rw [h] at d1; omega
def own_at (x0 x1 x2 x3 x4 x5 i : Int32) : Int32 := if i = 0 then x0 else if i = 1 then x1 else if i = 2 then x2 else if i = 3 then x3 else if i = 4 then x4 else x5
theorem own_hat (x0 x1 x2 x3 x4 x5 : Int32) : ∀ i : Int32, ¬ i < 0 → i < (6 : Int32) → ([(.int x0), (.int x1), (.int x2), (.int x3), (.int x4), (.int x5)] : List Value).getD i.toNatClampNeg (.int (0 : Int32)) = .int (own_at x0 x1 x2 x3 x4 x5 i) := fun i h1 h2 => by
  have k0 : (0 : Int32).toInt = 0 := rfl
  have k6 : (6 : Int32).toInt = 6 := rfl
  rw [Int32.lt_iff_toInt_lt] at h1 h2
  have li : ∀ n : Int, i.toInt = n → i = Int32.ofInt n := fun n h => by rw [← h]; exact (Int32.ofInt_toInt i).symm
  obtain hi | hi | hi | hi | hi | hi : i.toInt = 0 ∨ i.toInt = 1 ∨ i.toInt = 2 ∨ i.toInt = 3 ∨ i.toInt = 4 ∨ i.toInt = 5 := by omega
  all_goals (obtain rfl := li _ hi; rfl)
def own_good (x : Int32) : Prop := ¬ x < (48 : Int32) ∧ ¬ (57 : Int32) < x
theorem own_dig {x : Int32} (g : own_good x) : B7_0 x = x - 48 ∧ ¬ x - 48 < 0 := by
  refine ⟨by unfold B7_0; rw [if_neg g.1, if_neg g.2], ?_⟩
  have k0 : (0 : Int32).toInt = 0 := rfl
  have k1 : (48 : Int32).toInt = 48 := rfl
  have k2 : (57 : Int32).toInt = 57 := rfl
  have g1 := g.1; have g2 := g.2
  rw [Int32.lt_iff_toInt_lt] at g1 g2 ⊢
  have q := c_isub x 48; have r := rng32 (x - 48); omega
theorem own_digN {x : Int32} (g : ¬ own_good x) : B7_0 x = -1 := by
  unfold B7_0
  by_cases h1 : x < (48 : Int32)
  · rw [if_pos h1]
  · rw [if_neg h1]
    by_cases h2 : (57 : Int32) < x
    · rw [if_pos h2]
    · exact absurd ⟨h1, h2⟩ g
theorem own_bad_out {x i f c : Int32} (h : B4_0 i f c = 0) : own_bad x i f c = 0 := by unfold own_bad; rw [if_pos h]
theorem own_term_out {x i f c : Int32} (h : B4_0 i f c = 0) : own_term x i f c = 0 := by unfold own_term; rw [if_pos h]
theorem own_bad_ok {x i f c : Int32} (h : B4_0 i f c = 1) (g : own_good x) : own_bad x i f c = 0 := by
  unfold own_bad; rw [h, if_neg (by decide), (own_dig g).1, if_neg (own_dig g).2]
theorem own_bad_no {x i f c : Int32} (h : B4_0 i f c = 1) (g : ¬ own_good x) : ¬ own_bad x i f c = 0 := by
  unfold own_bad; rw [h, if_neg (by decide), own_digN g, if_pos (by decide)]; decide
theorem own_term_ok {x i f c w : Int32} (h : B4_0 i f c = 1) (g : own_good x) (hw : B8_0 (((f + c) - (1 : Int32)) - i) = w) : own_term x i f c = (x - 48) * w := by
  unfold own_term; rw [h, if_neg (by decide), (own_dig g).1, hw]
theorem own_num_ok {at_ : Int32 → Int32} {n : Nat} {i acc : Int32} (g : own_good (at_ i)) : own_num at_ (n + 1) i acc = own_num at_ n (i + 1) (acc * 10 + (at_ i - 48)) := by
  conv => lhs; unfold own_num
  rw [if_neg g.1, if_neg g.2, Int32.sub_eq_add_neg, Int32.add_assoc, ← Int32.sub_eq_add_neg]
theorem own_num_no {at_ : Int32 → Int32} {n : Nat} {i acc : Int32} (g : ¬ own_good (at_ i)) : own_num at_ (n + 1) i acc = -1 := by
  unfold own_num
  by_cases h1 : at_ i < (48 : Int32)
  · rw [if_pos h1]
  · rw [if_neg h1]
    by_cases h2 : (57 : Int32) < at_ i
    · rw [if_pos h2]
    · exact absurd ⟨h1, h2⟩ g
theorem own_sum0_0 (x0 x1 x2 x3 x4 x5 : Int32) : (0 : Int32) = ((((((0 : Int32) + (0 : Int32)) + (0 : Int32)) + (0 : Int32)) + (0 : Int32)) + (0 : Int32)) := by
  rfl
theorem own_law_0_0 (x0 x1 x2 x3 x4 x5 : Int32) : own_num (own_at x0 x1 x2 x3 x4 x5) 0 (0 : Int32) 0 = own_ref x0 x1 x2 x3 x4 x5 (0 : Int32) (0 : Int32) := by
  have o0 : own_bad x0 (0 : Int32) (0 : Int32) (0 : Int32) = 0 := own_bad_out rfl
  have t0 : own_term x0 (0 : Int32) (0 : Int32) (0 : Int32) = 0 := own_term_out rfl
  have o1 : own_bad x1 (1 : Int32) (0 : Int32) (0 : Int32) = 0 := own_bad_out rfl
  have t1 : own_term x1 (1 : Int32) (0 : Int32) (0 : Int32) = 0 := own_term_out rfl
  have o2 : own_bad x2 (2 : Int32) (0 : Int32) (0 : Int32) = 0 := own_bad_out rfl
  have t2 : own_term x2 (2 : Int32) (0 : Int32) (0 : Int32) = 0 := own_term_out rfl
  have o3 : own_bad x3 (3 : Int32) (0 : Int32) (0 : Int32) = 0 := own_bad_out rfl
  have t3 : own_term x3 (3 : Int32) (0 : Int32) (0 : Int32) = 0 := own_term_out rfl
  have o4 : own_bad x4 (4 : Int32) (0 : Int32) (0 : Int32) = 0 := own_bad_out rfl
  have t4 : own_term x4 (4 : Int32) (0 : Int32) (0 : Int32) = 0 := own_term_out rfl
  have o5 : own_bad x5 (5 : Int32) (0 : Int32) (0 : Int32) = 0 := own_bad_out rfl
  have t5 : own_term x5 (5 : Int32) (0 : Int32) (0 : Int32) = 0 := own_term_out rfl
  unfold own_ref
  rw [if_pos o0, if_pos o1, if_pos o2, if_pos o3, if_pos o4, if_pos o5]
  rw [own_num]
  rw [t0, t1, t2, t3, t4, t5]
  exact own_sum0_0 x0 x1 x2 x3 x4 x5
theorem own_sum1_0 (x0 x1 x2 x3 x4 x5 : Int32) : ((0 : Int32) * 10 + (own_at x0 x1 x2 x3 x4 x5 (0 : Int32) - 48)) = (((((((x0 - 48) * (1 : Int32)) + (0 : Int32)) + (0 : Int32)) + (0 : Int32)) + (0 : Int32)) + (0 : Int32)) := by
  rw [show own_at x0 x1 x2 x3 x4 x5 (0 : Int32) = x0 from rfl]
  simp only [Int32.zero_mul, Int32.zero_add, Int32.add_zero, Int32.add_mul, Int32.mul_assoc, Int32.mul_one, Int32.reduceMul]
theorem own_law_0_1 (x0 x1 x2 x3 x4 x5 : Int32) : own_num (own_at x0 x1 x2 x3 x4 x5) 1 (0 : Int32) 0 = own_ref x0 x1 x2 x3 x4 x5 (0 : Int32) (1 : Int32) := by
  have o1 : own_bad x1 (1 : Int32) (0 : Int32) (1 : Int32) = 0 := own_bad_out rfl
  have t1 : own_term x1 (1 : Int32) (0 : Int32) (1 : Int32) = 0 := own_term_out rfl
  have o2 : own_bad x2 (2 : Int32) (0 : Int32) (1 : Int32) = 0 := own_bad_out rfl
  have t2 : own_term x2 (2 : Int32) (0 : Int32) (1 : Int32) = 0 := own_term_out rfl
  have o3 : own_bad x3 (3 : Int32) (0 : Int32) (1 : Int32) = 0 := own_bad_out rfl
  have t3 : own_term x3 (3 : Int32) (0 : Int32) (1 : Int32) = 0 := own_term_out rfl
  have o4 : own_bad x4 (4 : Int32) (0 : Int32) (1 : Int32) = 0 := own_bad_out rfl
  have t4 : own_term x4 (4 : Int32) (0 : Int32) (1 : Int32) = 0 := own_term_out rfl
  have o5 : own_bad x5 (5 : Int32) (0 : Int32) (1 : Int32) = 0 := own_bad_out rfl
  have t5 : own_term x5 (5 : Int32) (0 : Int32) (1 : Int32) = 0 := own_term_out rfl
  by_cases g0 : own_good x0
  · have o0 : own_bad x0 (0 : Int32) (0 : Int32) (1 : Int32) = 0 := own_bad_ok rfl g0
    have t0 : own_term x0 (0 : Int32) (0 : Int32) (1 : Int32) = (x0 - 48) * (1 : Int32) := own_term_ok rfl g0 rfl
    unfold own_ref
    rw [if_pos o0, if_pos o1, if_pos o2, if_pos o3, if_pos o4, if_pos o5]
    rw [own_num_ok (at_ := own_at x0 x1 x2 x3 x4 x5) (i := (0 : Int32)) g0, show (0 : Int32) + 1 = (1 : Int32) from rfl, own_num]
    rw [t0, t1, t2, t3, t4, t5]
    exact own_sum1_0 x0 x1 x2 x3 x4 x5
  · have o0 : ¬ own_bad x0 (0 : Int32) (0 : Int32) (1 : Int32) = 0 := own_bad_no rfl g0
    unfold own_ref
    rw [if_neg o0]
    rw [own_num_no (at_ := own_at x0 x1 x2 x3 x4 x5) (i := (0 : Int32)) g0]
theorem own_sum2_0 (x0 x1 x2 x3 x4 x5 : Int32) : (((0 : Int32) * 10 + (own_at x0 x1 x2 x3 x4 x5 (0 : Int32) - 48)) * 10 + (own_at x0 x1 x2 x3 x4 x5 (1 : Int32) - 48)) = (((((((x0 - 48) * (10 : Int32)) + ((x1 - 48) * (1 : Int32))) + (0 : Int32)) + (0 : Int32)) + (0 : Int32)) + (0 : Int32)) := by
  rw [show own_at x0 x1 x2 x3 x4 x5 (0 : Int32) = x0 from rfl, show own_at x0 x1 x2 x3 x4 x5 (1 : Int32) = x1 from rfl]
  simp only [Int32.zero_mul, Int32.zero_add, Int32.add_zero, Int32.add_mul, Int32.mul_assoc, Int32.mul_one, Int32.reduceMul]
theorem own_law_0_2 (x0 x1 x2 x3 x4 x5 : Int32) : own_num (own_at x0 x1 x2 x3 x4 x5) 2 (0 : Int32) 0 = own_ref x0 x1 x2 x3 x4 x5 (0 : Int32) (2 : Int32) := by
  have o2 : own_bad x2 (2 : Int32) (0 : Int32) (2 : Int32) = 0 := own_bad_out rfl
  have t2 : own_term x2 (2 : Int32) (0 : Int32) (2 : Int32) = 0 := own_term_out rfl
  have o3 : own_bad x3 (3 : Int32) (0 : Int32) (2 : Int32) = 0 := own_bad_out rfl
  have t3 : own_term x3 (3 : Int32) (0 : Int32) (2 : Int32) = 0 := own_term_out rfl
  have o4 : own_bad x4 (4 : Int32) (0 : Int32) (2 : Int32) = 0 := own_bad_out rfl
  have t4 : own_term x4 (4 : Int32) (0 : Int32) (2 : Int32) = 0 := own_term_out rfl
  have o5 : own_bad x5 (5 : Int32) (0 : Int32) (2 : Int32) = 0 := own_bad_out rfl
  have t5 : own_term x5 (5 : Int32) (0 : Int32) (2 : Int32) = 0 := own_term_out rfl
  by_cases g0 : own_good x0
  · have o0 : own_bad x0 (0 : Int32) (0 : Int32) (2 : Int32) = 0 := own_bad_ok rfl g0
    have t0 : own_term x0 (0 : Int32) (0 : Int32) (2 : Int32) = (x0 - 48) * (10 : Int32) := own_term_ok rfl g0 rfl
    by_cases g1 : own_good x1
    · have o1 : own_bad x1 (1 : Int32) (0 : Int32) (2 : Int32) = 0 := own_bad_ok rfl g1
      have t1 : own_term x1 (1 : Int32) (0 : Int32) (2 : Int32) = (x1 - 48) * (1 : Int32) := own_term_ok rfl g1 rfl
      unfold own_ref
      rw [if_pos o0, if_pos o1, if_pos o2, if_pos o3, if_pos o4, if_pos o5]
      rw [own_num_ok (at_ := own_at x0 x1 x2 x3 x4 x5) (i := (0 : Int32)) g0, show (0 : Int32) + 1 = (1 : Int32) from rfl, own_num_ok (at_ := own_at x0 x1 x2 x3 x4 x5) (i := (1 : Int32)) g1, show (1 : Int32) + 1 = (2 : Int32) from rfl, own_num]
      rw [t0, t1, t2, t3, t4, t5]
      exact own_sum2_0 x0 x1 x2 x3 x4 x5
    · have o1 : ¬ own_bad x1 (1 : Int32) (0 : Int32) (2 : Int32) = 0 := own_bad_no rfl g1
      unfold own_ref
      rw [if_pos o0, if_neg o1]
      rw [own_num_ok (at_ := own_at x0 x1 x2 x3 x4 x5) (i := (0 : Int32)) g0, show (0 : Int32) + 1 = (1 : Int32) from rfl, own_num_no (at_ := own_at x0 x1 x2 x3 x4 x5) (i := (1 : Int32)) g1]
  · have o0 : ¬ own_bad x0 (0 : Int32) (0 : Int32) (2 : Int32) = 0 := own_bad_no rfl g0
    unfold own_ref
    rw [if_neg o0]
    rw [own_num_no (at_ := own_at x0 x1 x2 x3 x4 x5) (i := (0 : Int32)) g0]
theorem own_sum3_0 (x0 x1 x2 x3 x4 x5 : Int32) : ((((0 : Int32) * 10 + (own_at x0 x1 x2 x3 x4 x5 (0 : Int32) - 48)) * 10 + (own_at x0 x1 x2 x3 x4 x5 (1 : Int32) - 48)) * 10 + (own_at x0 x1 x2 x3 x4 x5 (2 : Int32) - 48)) = (((((((x0 - 48) * (100 : Int32)) + ((x1 - 48) * (10 : Int32))) + ((x2 - 48) * (1 : Int32))) + (0 : Int32)) + (0 : Int32)) + (0 : Int32)) := by
  rw [show own_at x0 x1 x2 x3 x4 x5 (0 : Int32) = x0 from rfl, show own_at x0 x1 x2 x3 x4 x5 (1 : Int32) = x1 from rfl, show own_at x0 x1 x2 x3 x4 x5 (2 : Int32) = x2 from rfl]
  simp only [Int32.zero_mul, Int32.zero_add, Int32.add_zero, Int32.add_mul, Int32.mul_assoc, Int32.mul_one, Int32.reduceMul]
theorem own_law_0_3 (x0 x1 x2 x3 x4 x5 : Int32) : own_num (own_at x0 x1 x2 x3 x4 x5) 3 (0 : Int32) 0 = own_ref x0 x1 x2 x3 x4 x5 (0 : Int32) (3 : Int32) := by
  have o3 : own_bad x3 (3 : Int32) (0 : Int32) (3 : Int32) = 0 := own_bad_out rfl
  have t3 : own_term x3 (3 : Int32) (0 : Int32) (3 : Int32) = 0 := own_term_out rfl
  have o4 : own_bad x4 (4 : Int32) (0 : Int32) (3 : Int32) = 0 := own_bad_out rfl
  have t4 : own_term x4 (4 : Int32) (0 : Int32) (3 : Int32) = 0 := own_term_out rfl
  have o5 : own_bad x5 (5 : Int32) (0 : Int32) (3 : Int32) = 0 := own_bad_out rfl
  have t5 : own_term x5 (5 : Int32) (0 : Int32) (3 : Int32) = 0 := own_term_out rfl
  by_cases g0 : own_good x0
  · have o0 : own_bad x0 (0 : Int32) (0 : Int32) (3 : Int32) = 0 := own_bad_ok rfl g0
    have t0 : own_term x0 (0 : Int32) (0 : Int32) (3 : Int32) = (x0 - 48) * (100 : Int32) := own_term_ok rfl g0 rfl
    by_cases g1 : own_good x1
    · have o1 : own_bad x1 (1 : Int32) (0 : Int32) (3 : Int32) = 0 := own_bad_ok rfl g1
      have t1 : own_term x1 (1 : Int32) (0 : Int32) (3 : Int32) = (x1 - 48) * (10 : Int32) := own_term_ok rfl g1 rfl
      by_cases g2 : own_good x2
      · have o2 : own_bad x2 (2 : Int32) (0 : Int32) (3 : Int32) = 0 := own_bad_ok rfl g2
        have t2 : own_term x2 (2 : Int32) (0 : Int32) (3 : Int32) = (x2 - 48) * (1 : Int32) := own_term_ok rfl g2 rfl
        unfold own_ref
        rw [if_pos o0, if_pos o1, if_pos o2, if_pos o3, if_pos o4, if_pos o5]
        rw [own_num_ok (at_ := own_at x0 x1 x2 x3 x4 x5) (i := (0 : Int32)) g0, show (0 : Int32) + 1 = (1 : Int32) from rfl, own_num_ok (at_ := own_at x0 x1 x2 x3 x4 x5) (i := (1 : Int32)) g1, show (1 : Int32) + 1 = (2 : Int32) from rfl, own_num_ok (at_ := own_at x0 x1 x2 x3 x4 x5) (i := (2 : Int32)) g2, show (2 : Int32) + 1 = (3 : Int32) from rfl, own_num]
        rw [t0, t1, t2, t3, t4, t5]
        exact own_sum3_0 x0 x1 x2 x3 x4 x5
      · have o2 : ¬ own_bad x2 (2 : Int32) (0 : Int32) (3 : Int32) = 0 := own_bad_no rfl g2
        unfold own_ref
        rw [if_pos o0, if_pos o1, if_neg o2]
        rw [own_num_ok (at_ := own_at x0 x1 x2 x3 x4 x5) (i := (0 : Int32)) g0, show (0 : Int32) + 1 = (1 : Int32) from rfl, own_num_ok (at_ := own_at x0 x1 x2 x3 x4 x5) (i := (1 : Int32)) g1, show (1 : Int32) + 1 = (2 : Int32) from rfl, own_num_no (at_ := own_at x0 x1 x2 x3 x4 x5) (i := (2 : Int32)) g2]
    · have o1 : ¬ own_bad x1 (1 : Int32) (0 : Int32) (3 : Int32) = 0 := own_bad_no rfl g1
      unfold own_ref
      rw [if_pos o0, if_neg o1]
      rw [own_num_ok (at_ := own_at x0 x1 x2 x3 x4 x5) (i := (0 : Int32)) g0, show (0 : Int32) + 1 = (1 : Int32) from rfl, own_num_no (at_ := own_at x0 x1 x2 x3 x4 x5) (i := (1 : Int32)) g1]
  · have o0 : ¬ own_bad x0 (0 : Int32) (0 : Int32) (3 : Int32) = 0 := own_bad_no rfl g0
    unfold own_ref
    rw [if_neg o0]
    rw [own_num_no (at_ := own_at x0 x1 x2 x3 x4 x5) (i := (0 : Int32)) g0]
theorem own_sum4_0 (x0 x1 x2 x3 x4 x5 : Int32) : (((((0 : Int32) * 10 + (own_at x0 x1 x2 x3 x4 x5 (0 : Int32) - 48)) * 10 + (own_at x0 x1 x2 x3 x4 x5 (1 : Int32) - 48)) * 10 + (own_at x0 x1 x2 x3 x4 x5 (2 : Int32) - 48)) * 10 + (own_at x0 x1 x2 x3 x4 x5 (3 : Int32) - 48)) = (((((((x0 - 48) * (1000 : Int32)) + ((x1 - 48) * (100 : Int32))) + ((x2 - 48) * (10 : Int32))) + ((x3 - 48) * (1 : Int32))) + (0 : Int32)) + (0 : Int32)) := by
  rw [show own_at x0 x1 x2 x3 x4 x5 (0 : Int32) = x0 from rfl, show own_at x0 x1 x2 x3 x4 x5 (1 : Int32) = x1 from rfl, show own_at x0 x1 x2 x3 x4 x5 (2 : Int32) = x2 from rfl, show own_at x0 x1 x2 x3 x4 x5 (3 : Int32) = x3 from rfl]
  simp only [Int32.zero_mul, Int32.zero_add, Int32.add_zero, Int32.add_mul, Int32.mul_assoc, Int32.mul_one, Int32.reduceMul]
theorem own_law_0_4 (x0 x1 x2 x3 x4 x5 : Int32) : own_num (own_at x0 x1 x2 x3 x4 x5) 4 (0 : Int32) 0 = own_ref x0 x1 x2 x3 x4 x5 (0 : Int32) (4 : Int32) := by
  have o4 : own_bad x4 (4 : Int32) (0 : Int32) (4 : Int32) = 0 := own_bad_out rfl
  have t4 : own_term x4 (4 : Int32) (0 : Int32) (4 : Int32) = 0 := own_term_out rfl
  have o5 : own_bad x5 (5 : Int32) (0 : Int32) (4 : Int32) = 0 := own_bad_out rfl
  have t5 : own_term x5 (5 : Int32) (0 : Int32) (4 : Int32) = 0 := own_term_out rfl
  by_cases g0 : own_good x0
  · have o0 : own_bad x0 (0 : Int32) (0 : Int32) (4 : Int32) = 0 := own_bad_ok rfl g0
    have t0 : own_term x0 (0 : Int32) (0 : Int32) (4 : Int32) = (x0 - 48) * (1000 : Int32) := own_term_ok rfl g0 rfl
    by_cases g1 : own_good x1
    · have o1 : own_bad x1 (1 : Int32) (0 : Int32) (4 : Int32) = 0 := own_bad_ok rfl g1
      have t1 : own_term x1 (1 : Int32) (0 : Int32) (4 : Int32) = (x1 - 48) * (100 : Int32) := own_term_ok rfl g1 rfl
      by_cases g2 : own_good x2
      · have o2 : own_bad x2 (2 : Int32) (0 : Int32) (4 : Int32) = 0 := own_bad_ok rfl g2
        have t2 : own_term x2 (2 : Int32) (0 : Int32) (4 : Int32) = (x2 - 48) * (10 : Int32) := own_term_ok rfl g2 rfl
        by_cases g3 : own_good x3
        · have o3 : own_bad x3 (3 : Int32) (0 : Int32) (4 : Int32) = 0 := own_bad_ok rfl g3
          have t3 : own_term x3 (3 : Int32) (0 : Int32) (4 : Int32) = (x3 - 48) * (1 : Int32) := own_term_ok rfl g3 rfl
          unfold own_ref
          rw [if_pos o0, if_pos o1, if_pos o2, if_pos o3, if_pos o4, if_pos o5]
          rw [own_num_ok (at_ := own_at x0 x1 x2 x3 x4 x5) (i := (0 : Int32)) g0, show (0 : Int32) + 1 = (1 : Int32) from rfl, own_num_ok (at_ := own_at x0 x1 x2 x3 x4 x5) (i := (1 : Int32)) g1, show (1 : Int32) + 1 = (2 : Int32) from rfl, own_num_ok (at_ := own_at x0 x1 x2 x3 x4 x5) (i := (2 : Int32)) g2, show (2 : Int32) + 1 = (3 : Int32) from rfl, own_num_ok (at_ := own_at x0 x1 x2 x3 x4 x5) (i := (3 : Int32)) g3, show (3 : Int32) + 1 = (4 : Int32) from rfl, own_num]
          rw [t0, t1, t2, t3, t4, t5]
          exact own_sum4_0 x0 x1 x2 x3 x4 x5
        · have o3 : ¬ own_bad x3 (3 : Int32) (0 : Int32) (4 : Int32) = 0 := own_bad_no rfl g3
          unfold own_ref
          rw [if_pos o0, if_pos o1, if_pos o2, if_neg o3]
          rw [own_num_ok (at_ := own_at x0 x1 x2 x3 x4 x5) (i := (0 : Int32)) g0, show (0 : Int32) + 1 = (1 : Int32) from rfl, own_num_ok (at_ := own_at x0 x1 x2 x3 x4 x5) (i := (1 : Int32)) g1, show (1 : Int32) + 1 = (2 : Int32) from rfl, own_num_ok (at_ := own_at x0 x1 x2 x3 x4 x5) (i := (2 : Int32)) g2, show (2 : Int32) + 1 = (3 : Int32) from rfl, own_num_no (at_ := own_at x0 x1 x2 x3 x4 x5) (i := (3 : Int32)) g3]
      · have o2 : ¬ own_bad x2 (2 : Int32) (0 : Int32) (4 : Int32) = 0 := own_bad_no rfl g2
        unfold own_ref
        rw [if_pos o0, if_pos o1, if_neg o2]
        rw [own_num_ok (at_ := own_at x0 x1 x2 x3 x4 x5) (i := (0 : Int32)) g0, show (0 : Int32) + 1 = (1 : Int32) from rfl, own_num_ok (at_ := own_at x0 x1 x2 x3 x4 x5) (i := (1 : Int32)) g1, show (1 : Int32) + 1 = (2 : Int32) from rfl, own_num_no (at_ := own_at x0 x1 x2 x3 x4 x5) (i := (2 : Int32)) g2]
    · have o1 : ¬ own_bad x1 (1 : Int32) (0 : Int32) (4 : Int32) = 0 := own_bad_no rfl g1
      unfold own_ref
      rw [if_pos o0, if_neg o1]
      rw [own_num_ok (at_ := own_at x0 x1 x2 x3 x4 x5) (i := (0 : Int32)) g0, show (0 : Int32) + 1 = (1 : Int32) from rfl, own_num_no (at_ := own_at x0 x1 x2 x3 x4 x5) (i := (1 : Int32)) g1]
  · have o0 : ¬ own_bad x0 (0 : Int32) (0 : Int32) (4 : Int32) = 0 := own_bad_no rfl g0
    unfold own_ref
    rw [if_neg o0]
    rw [own_num_no (at_ := own_at x0 x1 x2 x3 x4 x5) (i := (0 : Int32)) g0]
theorem own_sum5_0 (x0 x1 x2 x3 x4 x5 : Int32) : ((((((0 : Int32) * 10 + (own_at x0 x1 x2 x3 x4 x5 (0 : Int32) - 48)) * 10 + (own_at x0 x1 x2 x3 x4 x5 (1 : Int32) - 48)) * 10 + (own_at x0 x1 x2 x3 x4 x5 (2 : Int32) - 48)) * 10 + (own_at x0 x1 x2 x3 x4 x5 (3 : Int32) - 48)) * 10 + (own_at x0 x1 x2 x3 x4 x5 (4 : Int32) - 48)) = (((((((x0 - 48) * (10000 : Int32)) + ((x1 - 48) * (1000 : Int32))) + ((x2 - 48) * (100 : Int32))) + ((x3 - 48) * (10 : Int32))) + ((x4 - 48) * (1 : Int32))) + (0 : Int32)) := by
  rw [show own_at x0 x1 x2 x3 x4 x5 (0 : Int32) = x0 from rfl, show own_at x0 x1 x2 x3 x4 x5 (1 : Int32) = x1 from rfl, show own_at x0 x1 x2 x3 x4 x5 (2 : Int32) = x2 from rfl, show own_at x0 x1 x2 x3 x4 x5 (3 : Int32) = x3 from rfl, show own_at x0 x1 x2 x3 x4 x5 (4 : Int32) = x4 from rfl]
  simp only [Int32.zero_mul, Int32.zero_add, Int32.add_zero, Int32.add_mul, Int32.mul_assoc, Int32.mul_one, Int32.reduceMul]
theorem own_law_0_5 (x0 x1 x2 x3 x4 x5 : Int32) : own_num (own_at x0 x1 x2 x3 x4 x5) 5 (0 : Int32) 0 = own_ref x0 x1 x2 x3 x4 x5 (0 : Int32) (5 : Int32) := by
  have o5 : own_bad x5 (5 : Int32) (0 : Int32) (5 : Int32) = 0 := own_bad_out rfl
  have t5 : own_term x5 (5 : Int32) (0 : Int32) (5 : Int32) = 0 := own_term_out rfl
  by_cases g0 : own_good x0
  · have o0 : own_bad x0 (0 : Int32) (0 : Int32) (5 : Int32) = 0 := own_bad_ok rfl g0
    have t0 : own_term x0 (0 : Int32) (0 : Int32) (5 : Int32) = (x0 - 48) * (10000 : Int32) := own_term_ok rfl g0 rfl
    by_cases g1 : own_good x1
    · have o1 : own_bad x1 (1 : Int32) (0 : Int32) (5 : Int32) = 0 := own_bad_ok rfl g1
      have t1 : own_term x1 (1 : Int32) (0 : Int32) (5 : Int32) = (x1 - 48) * (1000 : Int32) := own_term_ok rfl g1 rfl
      by_cases g2 : own_good x2
      · have o2 : own_bad x2 (2 : Int32) (0 : Int32) (5 : Int32) = 0 := own_bad_ok rfl g2
        have t2 : own_term x2 (2 : Int32) (0 : Int32) (5 : Int32) = (x2 - 48) * (100 : Int32) := own_term_ok rfl g2 rfl
        by_cases g3 : own_good x3
        · have o3 : own_bad x3 (3 : Int32) (0 : Int32) (5 : Int32) = 0 := own_bad_ok rfl g3
          have t3 : own_term x3 (3 : Int32) (0 : Int32) (5 : Int32) = (x3 - 48) * (10 : Int32) := own_term_ok rfl g3 rfl
          by_cases g4 : own_good x4
          · have o4 : own_bad x4 (4 : Int32) (0 : Int32) (5 : Int32) = 0 := own_bad_ok rfl g4
            have t4 : own_term x4 (4 : Int32) (0 : Int32) (5 : Int32) = (x4 - 48) * (1 : Int32) := own_term_ok rfl g4 rfl
            unfold own_ref
            rw [if_pos o0, if_pos o1, if_pos o2, if_pos o3, if_pos o4, if_pos o5]
            rw [own_num_ok (at_ := own_at x0 x1 x2 x3 x4 x5) (i := (0 : Int32)) g0, show (0 : Int32) + 1 = (1 : Int32) from rfl, own_num_ok (at_ := own_at x0 x1 x2 x3 x4 x5) (i := (1 : Int32)) g1, show (1 : Int32) + 1 = (2 : Int32) from rfl, own_num_ok (at_ := own_at x0 x1 x2 x3 x4 x5) (i := (2 : Int32)) g2, show (2 : Int32) + 1 = (3 : Int32) from rfl, own_num_ok (at_ := own_at x0 x1 x2 x3 x4 x5) (i := (3 : Int32)) g3, show (3 : Int32) + 1 = (4 : Int32) from rfl, own_num_ok (at_ := own_at x0 x1 x2 x3 x4 x5) (i := (4 : Int32)) g4, show (4 : Int32) + 1 = (5 : Int32) from rfl, own_num]
            rw [t0, t1, t2, t3, t4, t5]
            exact own_sum5_0 x0 x1 x2 x3 x4 x5
          · have o4 : ¬ own_bad x4 (4 : Int32) (0 : Int32) (5 : Int32) = 0 := own_bad_no rfl g4
            unfold own_ref
            rw [if_pos o0, if_pos o1, if_pos o2, if_pos o3, if_neg o4]
            rw [own_num_ok (at_ := own_at x0 x1 x2 x3 x4 x5) (i := (0 : Int32)) g0, show (0 : Int32) + 1 = (1 : Int32) from rfl, own_num_ok (at_ := own_at x0 x1 x2 x3 x4 x5) (i := (1 : Int32)) g1, show (1 : Int32) + 1 = (2 : Int32) from rfl, own_num_ok (at_ := own_at x0 x1 x2 x3 x4 x5) (i := (2 : Int32)) g2, show (2 : Int32) + 1 = (3 : Int32) from rfl, own_num_ok (at_ := own_at x0 x1 x2 x3 x4 x5) (i := (3 : Int32)) g3, show (3 : Int32) + 1 = (4 : Int32) from rfl, own_num_no (at_ := own_at x0 x1 x2 x3 x4 x5) (i := (4 : Int32)) g4]
        · have o3 : ¬ own_bad x3 (3 : Int32) (0 : Int32) (5 : Int32) = 0 := own_bad_no rfl g3
          unfold own_ref
          rw [if_pos o0, if_pos o1, if_pos o2, if_neg o3]
          rw [own_num_ok (at_ := own_at x0 x1 x2 x3 x4 x5) (i := (0 : Int32)) g0, show (0 : Int32) + 1 = (1 : Int32) from rfl, own_num_ok (at_ := own_at x0 x1 x2 x3 x4 x5) (i := (1 : Int32)) g1, show (1 : Int32) + 1 = (2 : Int32) from rfl, own_num_ok (at_ := own_at x0 x1 x2 x3 x4 x5) (i := (2 : Int32)) g2, show (2 : Int32) + 1 = (3 : Int32) from rfl, own_num_no (at_ := own_at x0 x1 x2 x3 x4 x5) (i := (3 : Int32)) g3]
      · have o2 : ¬ own_bad x2 (2 : Int32) (0 : Int32) (5 : Int32) = 0 := own_bad_no rfl g2
        unfold own_ref
        rw [if_pos o0, if_pos o1, if_neg o2]
        rw [own_num_ok (at_ := own_at x0 x1 x2 x3 x4 x5) (i := (0 : Int32)) g0, show (0 : Int32) + 1 = (1 : Int32) from rfl, own_num_ok (at_ := own_at x0 x1 x2 x3 x4 x5) (i := (1 : Int32)) g1, show (1 : Int32) + 1 = (2 : Int32) from rfl, own_num_no (at_ := own_at x0 x1 x2 x3 x4 x5) (i := (2 : Int32)) g2]
    · have o1 : ¬ own_bad x1 (1 : Int32) (0 : Int32) (5 : Int32) = 0 := own_bad_no rfl g1
      unfold own_ref
      rw [if_pos o0, if_neg o1]
      rw [own_num_ok (at_ := own_at x0 x1 x2 x3 x4 x5) (i := (0 : Int32)) g0, show (0 : Int32) + 1 = (1 : Int32) from rfl, own_num_no (at_ := own_at x0 x1 x2 x3 x4 x5) (i := (1 : Int32)) g1]
  · have o0 : ¬ own_bad x0 (0 : Int32) (0 : Int32) (5 : Int32) = 0 := own_bad_no rfl g0
    unfold own_ref
    rw [if_neg o0]
    rw [own_num_no (at_ := own_at x0 x1 x2 x3 x4 x5) (i := (0 : Int32)) g0]
theorem own_sum6_0 (x0 x1 x2 x3 x4 x5 : Int32) : (((((((0 : Int32) * 10 + (own_at x0 x1 x2 x3 x4 x5 (0 : Int32) - 48)) * 10 + (own_at x0 x1 x2 x3 x4 x5 (1 : Int32) - 48)) * 10 + (own_at x0 x1 x2 x3 x4 x5 (2 : Int32) - 48)) * 10 + (own_at x0 x1 x2 x3 x4 x5 (3 : Int32) - 48)) * 10 + (own_at x0 x1 x2 x3 x4 x5 (4 : Int32) - 48)) * 10 + (own_at x0 x1 x2 x3 x4 x5 (5 : Int32) - 48)) = (((((((x0 - 48) * (100000 : Int32)) + ((x1 - 48) * (10000 : Int32))) + ((x2 - 48) * (1000 : Int32))) + ((x3 - 48) * (100 : Int32))) + ((x4 - 48) * (10 : Int32))) + ((x5 - 48) * (1 : Int32))) := by
  rw [show own_at x0 x1 x2 x3 x4 x5 (0 : Int32) = x0 from rfl, show own_at x0 x1 x2 x3 x4 x5 (1 : Int32) = x1 from rfl, show own_at x0 x1 x2 x3 x4 x5 (2 : Int32) = x2 from rfl, show own_at x0 x1 x2 x3 x4 x5 (3 : Int32) = x3 from rfl, show own_at x0 x1 x2 x3 x4 x5 (4 : Int32) = x4 from rfl, show own_at x0 x1 x2 x3 x4 x5 (5 : Int32) = x5 from rfl]
  simp only [Int32.zero_mul, Int32.zero_add, Int32.add_zero, Int32.add_mul, Int32.mul_assoc, Int32.mul_one, Int32.reduceMul]
theorem own_law_0_6 (x0 x1 x2 x3 x4 x5 : Int32) : own_num (own_at x0 x1 x2 x3 x4 x5) 6 (0 : Int32) 0 = own_ref x0 x1 x2 x3 x4 x5 (0 : Int32) (6 : Int32) := by
  by_cases g0 : own_good x0
  · have o0 : own_bad x0 (0 : Int32) (0 : Int32) (6 : Int32) = 0 := own_bad_ok rfl g0
    have t0 : own_term x0 (0 : Int32) (0 : Int32) (6 : Int32) = (x0 - 48) * (100000 : Int32) := own_term_ok rfl g0 rfl
    by_cases g1 : own_good x1
    · have o1 : own_bad x1 (1 : Int32) (0 : Int32) (6 : Int32) = 0 := own_bad_ok rfl g1
      have t1 : own_term x1 (1 : Int32) (0 : Int32) (6 : Int32) = (x1 - 48) * (10000 : Int32) := own_term_ok rfl g1 rfl
      by_cases g2 : own_good x2
      · have o2 : own_bad x2 (2 : Int32) (0 : Int32) (6 : Int32) = 0 := own_bad_ok rfl g2
        have t2 : own_term x2 (2 : Int32) (0 : Int32) (6 : Int32) = (x2 - 48) * (1000 : Int32) := own_term_ok rfl g2 rfl
        by_cases g3 : own_good x3
        · have o3 : own_bad x3 (3 : Int32) (0 : Int32) (6 : Int32) = 0 := own_bad_ok rfl g3
          have t3 : own_term x3 (3 : Int32) (0 : Int32) (6 : Int32) = (x3 - 48) * (100 : Int32) := own_term_ok rfl g3 rfl
          by_cases g4 : own_good x4
          · have o4 : own_bad x4 (4 : Int32) (0 : Int32) (6 : Int32) = 0 := own_bad_ok rfl g4
            have t4 : own_term x4 (4 : Int32) (0 : Int32) (6 : Int32) = (x4 - 48) * (10 : Int32) := own_term_ok rfl g4 rfl
            by_cases g5 : own_good x5
            · have o5 : own_bad x5 (5 : Int32) (0 : Int32) (6 : Int32) = 0 := own_bad_ok rfl g5
              have t5 : own_term x5 (5 : Int32) (0 : Int32) (6 : Int32) = (x5 - 48) * (1 : Int32) := own_term_ok rfl g5 rfl
              unfold own_ref
              rw [if_pos o0, if_pos o1, if_pos o2, if_pos o3, if_pos o4, if_pos o5]
              rw [own_num_ok (at_ := own_at x0 x1 x2 x3 x4 x5) (i := (0 : Int32)) g0, show (0 : Int32) + 1 = (1 : Int32) from rfl, own_num_ok (at_ := own_at x0 x1 x2 x3 x4 x5) (i := (1 : Int32)) g1, show (1 : Int32) + 1 = (2 : Int32) from rfl, own_num_ok (at_ := own_at x0 x1 x2 x3 x4 x5) (i := (2 : Int32)) g2, show (2 : Int32) + 1 = (3 : Int32) from rfl, own_num_ok (at_ := own_at x0 x1 x2 x3 x4 x5) (i := (3 : Int32)) g3, show (3 : Int32) + 1 = (4 : Int32) from rfl, own_num_ok (at_ := own_at x0 x1 x2 x3 x4 x5) (i := (4 : Int32)) g4, show (4 : Int32) + 1 = (5 : Int32) from rfl, own_num_ok (at_ := own_at x0 x1 x2 x3 x4 x5) (i := (5 : Int32)) g5, show (5 : Int32) + 1 = (6 : Int32) from rfl, own_num]
              rw [t0, t1, t2, t3, t4, t5]
              exact own_sum6_0 x0 x1 x2 x3 x4 x5
            · have o5 : ¬ own_bad x5 (5 : Int32) (0 : Int32) (6 : Int32) = 0 := own_bad_no rfl g5
              unfold own_ref
              rw [if_pos o0, if_pos o1, if_pos o2, if_pos o3, if_pos o4, if_neg o5]
              rw [own_num_ok (at_ := own_at x0 x1 x2 x3 x4 x5) (i := (0 : Int32)) g0, show (0 : Int32) + 1 = (1 : Int32) from rfl, own_num_ok (at_ := own_at x0 x1 x2 x3 x4 x5) (i := (1 : Int32)) g1, show (1 : Int32) + 1 = (2 : Int32) from rfl, own_num_ok (at_ := own_at x0 x1 x2 x3 x4 x5) (i := (2 : Int32)) g2, show (2 : Int32) + 1 = (3 : Int32) from rfl, own_num_ok (at_ := own_at x0 x1 x2 x3 x4 x5) (i := (3 : Int32)) g3, show (3 : Int32) + 1 = (4 : Int32) from rfl, own_num_ok (at_ := own_at x0 x1 x2 x3 x4 x5) (i := (4 : Int32)) g4, show (4 : Int32) + 1 = (5 : Int32) from rfl, own_num_no (at_ := own_at x0 x1 x2 x3 x4 x5) (i := (5 : Int32)) g5]
          · have o4 : ¬ own_bad x4 (4 : Int32) (0 : Int32) (6 : Int32) = 0 := own_bad_no rfl g4
            unfold own_ref
            rw [if_pos o0, if_pos o1, if_pos o2, if_pos o3, if_neg o4]
            rw [own_num_ok (at_ := own_at x0 x1 x2 x3 x4 x5) (i := (0 : Int32)) g0, show (0 : Int32) + 1 = (1 : Int32) from rfl, own_num_ok (at_ := own_at x0 x1 x2 x3 x4 x5) (i := (1 : Int32)) g1, show (1 : Int32) + 1 = (2 : Int32) from rfl, own_num_ok (at_ := own_at x0 x1 x2 x3 x4 x5) (i := (2 : Int32)) g2, show (2 : Int32) + 1 = (3 : Int32) from rfl, own_num_ok (at_ := own_at x0 x1 x2 x3 x4 x5) (i := (3 : Int32)) g3, show (3 : Int32) + 1 = (4 : Int32) from rfl, own_num_no (at_ := own_at x0 x1 x2 x3 x4 x5) (i := (4 : Int32)) g4]
        · have o3 : ¬ own_bad x3 (3 : Int32) (0 : Int32) (6 : Int32) = 0 := own_bad_no rfl g3
          unfold own_ref
          rw [if_pos o0, if_pos o1, if_pos o2, if_neg o3]
          rw [own_num_ok (at_ := own_at x0 x1 x2 x3 x4 x5) (i := (0 : Int32)) g0, show (0 : Int32) + 1 = (1 : Int32) from rfl, own_num_ok (at_ := own_at x0 x1 x2 x3 x4 x5) (i := (1 : Int32)) g1, show (1 : Int32) + 1 = (2 : Int32) from rfl, own_num_ok (at_ := own_at x0 x1 x2 x3 x4 x5) (i := (2 : Int32)) g2, show (2 : Int32) + 1 = (3 : Int32) from rfl, own_num_no (at_ := own_at x0 x1 x2 x3 x4 x5) (i := (3 : Int32)) g3]
      · have o2 : ¬ own_bad x2 (2 : Int32) (0 : Int32) (6 : Int32) = 0 := own_bad_no rfl g2
        unfold own_ref
        rw [if_pos o0, if_pos o1, if_neg o2]
        rw [own_num_ok (at_ := own_at x0 x1 x2 x3 x4 x5) (i := (0 : Int32)) g0, show (0 : Int32) + 1 = (1 : Int32) from rfl, own_num_ok (at_ := own_at x0 x1 x2 x3 x4 x5) (i := (1 : Int32)) g1, show (1 : Int32) + 1 = (2 : Int32) from rfl, own_num_no (at_ := own_at x0 x1 x2 x3 x4 x5) (i := (2 : Int32)) g2]
    · have o1 : ¬ own_bad x1 (1 : Int32) (0 : Int32) (6 : Int32) = 0 := own_bad_no rfl g1
      unfold own_ref
      rw [if_pos o0, if_neg o1]
      rw [own_num_ok (at_ := own_at x0 x1 x2 x3 x4 x5) (i := (0 : Int32)) g0, show (0 : Int32) + 1 = (1 : Int32) from rfl, own_num_no (at_ := own_at x0 x1 x2 x3 x4 x5) (i := (1 : Int32)) g1]
  · have o0 : ¬ own_bad x0 (0 : Int32) (0 : Int32) (6 : Int32) = 0 := own_bad_no rfl g0
    unfold own_ref
    rw [if_neg o0]
    rw [own_num_no (at_ := own_at x0 x1 x2 x3 x4 x5) (i := (0 : Int32)) g0]
theorem own_sum0_1 (x0 x1 x2 x3 x4 x5 : Int32) : (0 : Int32) = ((((((0 : Int32) + (0 : Int32)) + (0 : Int32)) + (0 : Int32)) + (0 : Int32)) + (0 : Int32)) := by
  rfl
theorem own_law_1_0 (x0 x1 x2 x3 x4 x5 : Int32) : own_num (own_at x0 x1 x2 x3 x4 x5) 0 (1 : Int32) 0 = own_ref x0 x1 x2 x3 x4 x5 (1 : Int32) (0 : Int32) := by
  have o0 : own_bad x0 (0 : Int32) (1 : Int32) (0 : Int32) = 0 := own_bad_out rfl
  have t0 : own_term x0 (0 : Int32) (1 : Int32) (0 : Int32) = 0 := own_term_out rfl
  have o1 : own_bad x1 (1 : Int32) (1 : Int32) (0 : Int32) = 0 := own_bad_out rfl
  have t1 : own_term x1 (1 : Int32) (1 : Int32) (0 : Int32) = 0 := own_term_out rfl
  have o2 : own_bad x2 (2 : Int32) (1 : Int32) (0 : Int32) = 0 := own_bad_out rfl
  have t2 : own_term x2 (2 : Int32) (1 : Int32) (0 : Int32) = 0 := own_term_out rfl
  have o3 : own_bad x3 (3 : Int32) (1 : Int32) (0 : Int32) = 0 := own_bad_out rfl
  have t3 : own_term x3 (3 : Int32) (1 : Int32) (0 : Int32) = 0 := own_term_out rfl
  have o4 : own_bad x4 (4 : Int32) (1 : Int32) (0 : Int32) = 0 := own_bad_out rfl
  have t4 : own_term x4 (4 : Int32) (1 : Int32) (0 : Int32) = 0 := own_term_out rfl
  have o5 : own_bad x5 (5 : Int32) (1 : Int32) (0 : Int32) = 0 := own_bad_out rfl
  have t5 : own_term x5 (5 : Int32) (1 : Int32) (0 : Int32) = 0 := own_term_out rfl
  unfold own_ref
  rw [if_pos o0, if_pos o1, if_pos o2, if_pos o3, if_pos o4, if_pos o5]
  rw [own_num]
  rw [t0, t1, t2, t3, t4, t5]
  exact own_sum0_1 x0 x1 x2 x3 x4 x5
theorem own_sum1_1 (x0 x1 x2 x3 x4 x5 : Int32) : ((0 : Int32) * 10 + (own_at x0 x1 x2 x3 x4 x5 (1 : Int32) - 48)) = ((((((0 : Int32) + ((x1 - 48) * (1 : Int32))) + (0 : Int32)) + (0 : Int32)) + (0 : Int32)) + (0 : Int32)) := by
  rw [show own_at x0 x1 x2 x3 x4 x5 (1 : Int32) = x1 from rfl]
  simp only [Int32.zero_mul, Int32.zero_add, Int32.add_zero, Int32.add_mul, Int32.mul_assoc, Int32.mul_one, Int32.reduceMul]
theorem own_law_1_1 (x0 x1 x2 x3 x4 x5 : Int32) : own_num (own_at x0 x1 x2 x3 x4 x5) 1 (1 : Int32) 0 = own_ref x0 x1 x2 x3 x4 x5 (1 : Int32) (1 : Int32) := by
  have o0 : own_bad x0 (0 : Int32) (1 : Int32) (1 : Int32) = 0 := own_bad_out rfl
  have t0 : own_term x0 (0 : Int32) (1 : Int32) (1 : Int32) = 0 := own_term_out rfl
  have o2 : own_bad x2 (2 : Int32) (1 : Int32) (1 : Int32) = 0 := own_bad_out rfl
  have t2 : own_term x2 (2 : Int32) (1 : Int32) (1 : Int32) = 0 := own_term_out rfl
  have o3 : own_bad x3 (3 : Int32) (1 : Int32) (1 : Int32) = 0 := own_bad_out rfl
  have t3 : own_term x3 (3 : Int32) (1 : Int32) (1 : Int32) = 0 := own_term_out rfl
  have o4 : own_bad x4 (4 : Int32) (1 : Int32) (1 : Int32) = 0 := own_bad_out rfl
  have t4 : own_term x4 (4 : Int32) (1 : Int32) (1 : Int32) = 0 := own_term_out rfl
  have o5 : own_bad x5 (5 : Int32) (1 : Int32) (1 : Int32) = 0 := own_bad_out rfl
  have t5 : own_term x5 (5 : Int32) (1 : Int32) (1 : Int32) = 0 := own_term_out rfl
  by_cases g1 : own_good x1
  · have o1 : own_bad x1 (1 : Int32) (1 : Int32) (1 : Int32) = 0 := own_bad_ok rfl g1
    have t1 : own_term x1 (1 : Int32) (1 : Int32) (1 : Int32) = (x1 - 48) * (1 : Int32) := own_term_ok rfl g1 rfl
    unfold own_ref
    rw [if_pos o0, if_pos o1, if_pos o2, if_pos o3, if_pos o4, if_pos o5]
    rw [own_num_ok (at_ := own_at x0 x1 x2 x3 x4 x5) (i := (1 : Int32)) g1, show (1 : Int32) + 1 = (2 : Int32) from rfl, own_num]
    rw [t0, t1, t2, t3, t4, t5]
    exact own_sum1_1 x0 x1 x2 x3 x4 x5
  · have o1 : ¬ own_bad x1 (1 : Int32) (1 : Int32) (1 : Int32) = 0 := own_bad_no rfl g1
    unfold own_ref
    rw [if_pos o0, if_neg o1]
    rw [own_num_no (at_ := own_at x0 x1 x2 x3 x4 x5) (i := (1 : Int32)) g1]
theorem own_sum2_1 (x0 x1 x2 x3 x4 x5 : Int32) : (((0 : Int32) * 10 + (own_at x0 x1 x2 x3 x4 x5 (1 : Int32) - 48)) * 10 + (own_at x0 x1 x2 x3 x4 x5 (2 : Int32) - 48)) = ((((((0 : Int32) + ((x1 - 48) * (10 : Int32))) + ((x2 - 48) * (1 : Int32))) + (0 : Int32)) + (0 : Int32)) + (0 : Int32)) := by
  rw [show own_at x0 x1 x2 x3 x4 x5 (1 : Int32) = x1 from rfl, show own_at x0 x1 x2 x3 x4 x5 (2 : Int32) = x2 from rfl]
  simp only [Int32.zero_mul, Int32.zero_add, Int32.add_zero, Int32.add_mul, Int32.mul_assoc, Int32.mul_one, Int32.reduceMul]
theorem own_law_1_2 (x0 x1 x2 x3 x4 x5 : Int32) : own_num (own_at x0 x1 x2 x3 x4 x5) 2 (1 : Int32) 0 = own_ref x0 x1 x2 x3 x4 x5 (1 : Int32) (2 : Int32) := by
  have o0 : own_bad x0 (0 : Int32) (1 : Int32) (2 : Int32) = 0 := own_bad_out rfl
  have t0 : own_term x0 (0 : Int32) (1 : Int32) (2 : Int32) = 0 := own_term_out rfl
  have o3 : own_bad x3 (3 : Int32) (1 : Int32) (2 : Int32) = 0 := own_bad_out rfl
  have t3 : own_term x3 (3 : Int32) (1 : Int32) (2 : Int32) = 0 := own_term_out rfl
  have o4 : own_bad x4 (4 : Int32) (1 : Int32) (2 : Int32) = 0 := own_bad_out rfl
  have t4 : own_term x4 (4 : Int32) (1 : Int32) (2 : Int32) = 0 := own_term_out rfl
  have o5 : own_bad x5 (5 : Int32) (1 : Int32) (2 : Int32) = 0 := own_bad_out rfl
  have t5 : own_term x5 (5 : Int32) (1 : Int32) (2 : Int32) = 0 := own_term_out rfl
  by_cases g1 : own_good x1
  · have o1 : own_bad x1 (1 : Int32) (1 : Int32) (2 : Int32) = 0 := own_bad_ok rfl g1
    have t1 : own_term x1 (1 : Int32) (1 : Int32) (2 : Int32) = (x1 - 48) * (10 : Int32) := own_term_ok rfl g1 rfl
    by_cases g2 : own_good x2
    · have o2 : own_bad x2 (2 : Int32) (1 : Int32) (2 : Int32) = 0 := own_bad_ok rfl g2
      have t2 : own_term x2 (2 : Int32) (1 : Int32) (2 : Int32) = (x2 - 48) * (1 : Int32) := own_term_ok rfl g2 rfl
      unfold own_ref
      rw [if_pos o0, if_pos o1, if_pos o2, if_pos o3, if_pos o4, if_pos o5]
      rw [own_num_ok (at_ := own_at x0 x1 x2 x3 x4 x5) (i := (1 : Int32)) g1, show (1 : Int32) + 1 = (2 : Int32) from rfl, own_num_ok (at_ := own_at x0 x1 x2 x3 x4 x5) (i := (2 : Int32)) g2, show (2 : Int32) + 1 = (3 : Int32) from rfl, own_num]
      rw [t0, t1, t2, t3, t4, t5]
      exact own_sum2_1 x0 x1 x2 x3 x4 x5
    · have o2 : ¬ own_bad x2 (2 : Int32) (1 : Int32) (2 : Int32) = 0 := own_bad_no rfl g2
      unfold own_ref
      rw [if_pos o0, if_pos o1, if_neg o2]
      rw [own_num_ok (at_ := own_at x0 x1 x2 x3 x4 x5) (i := (1 : Int32)) g1, show (1 : Int32) + 1 = (2 : Int32) from rfl, own_num_no (at_ := own_at x0 x1 x2 x3 x4 x5) (i := (2 : Int32)) g2]
  · have o1 : ¬ own_bad x1 (1 : Int32) (1 : Int32) (2 : Int32) = 0 := own_bad_no rfl g1
    unfold own_ref
    rw [if_pos o0, if_neg o1]
    rw [own_num_no (at_ := own_at x0 x1 x2 x3 x4 x5) (i := (1 : Int32)) g1]
theorem own_sum3_1 (x0 x1 x2 x3 x4 x5 : Int32) : ((((0 : Int32) * 10 + (own_at x0 x1 x2 x3 x4 x5 (1 : Int32) - 48)) * 10 + (own_at x0 x1 x2 x3 x4 x5 (2 : Int32) - 48)) * 10 + (own_at x0 x1 x2 x3 x4 x5 (3 : Int32) - 48)) = ((((((0 : Int32) + ((x1 - 48) * (100 : Int32))) + ((x2 - 48) * (10 : Int32))) + ((x3 - 48) * (1 : Int32))) + (0 : Int32)) + (0 : Int32)) := by
  rw [show own_at x0 x1 x2 x3 x4 x5 (1 : Int32) = x1 from rfl, show own_at x0 x1 x2 x3 x4 x5 (2 : Int32) = x2 from rfl, show own_at x0 x1 x2 x3 x4 x5 (3 : Int32) = x3 from rfl]
  simp only [Int32.zero_mul, Int32.zero_add, Int32.add_zero, Int32.add_mul, Int32.mul_assoc, Int32.mul_one, Int32.reduceMul]
theorem own_law_1_3 (x0 x1 x2 x3 x4 x5 : Int32) : own_num (own_at x0 x1 x2 x3 x4 x5) 3 (1 : Int32) 0 = own_ref x0 x1 x2 x3 x4 x5 (1 : Int32) (3 : Int32) := by
  have o0 : own_bad x0 (0 : Int32) (1 : Int32) (3 : Int32) = 0 := own_bad_out rfl
  have t0 : own_term x0 (0 : Int32) (1 : Int32) (3 : Int32) = 0 := own_term_out rfl
  have o4 : own_bad x4 (4 : Int32) (1 : Int32) (3 : Int32) = 0 := own_bad_out rfl
  have t4 : own_term x4 (4 : Int32) (1 : Int32) (3 : Int32) = 0 := own_term_out rfl
  have o5 : own_bad x5 (5 : Int32) (1 : Int32) (3 : Int32) = 0 := own_bad_out rfl
  have t5 : own_term x5 (5 : Int32) (1 : Int32) (3 : Int32) = 0 := own_term_out rfl
  by_cases g1 : own_good x1
  · have o1 : own_bad x1 (1 : Int32) (1 : Int32) (3 : Int32) = 0 := own_bad_ok rfl g1
    have t1 : own_term x1 (1 : Int32) (1 : Int32) (3 : Int32) = (x1 - 48) * (100 : Int32) := own_term_ok rfl g1 rfl
    by_cases g2 : own_good x2
    · have o2 : own_bad x2 (2 : Int32) (1 : Int32) (3 : Int32) = 0 := own_bad_ok rfl g2
      have t2 : own_term x2 (2 : Int32) (1 : Int32) (3 : Int32) = (x2 - 48) * (10 : Int32) := own_term_ok rfl g2 rfl
      by_cases g3 : own_good x3
      · have o3 : own_bad x3 (3 : Int32) (1 : Int32) (3 : Int32) = 0 := own_bad_ok rfl g3
        have t3 : own_term x3 (3 : Int32) (1 : Int32) (3 : Int32) = (x3 - 48) * (1 : Int32) := own_term_ok rfl g3 rfl
        unfold own_ref
        rw [if_pos o0, if_pos o1, if_pos o2, if_pos o3, if_pos o4, if_pos o5]
        rw [own_num_ok (at_ := own_at x0 x1 x2 x3 x4 x5) (i := (1 : Int32)) g1, show (1 : Int32) + 1 = (2 : Int32) from rfl, own_num_ok (at_ := own_at x0 x1 x2 x3 x4 x5) (i := (2 : Int32)) g2, show (2 : Int32) + 1 = (3 : Int32) from rfl, own_num_ok (at_ := own_at x0 x1 x2 x3 x4 x5) (i := (3 : Int32)) g3, show (3 : Int32) + 1 = (4 : Int32) from rfl, own_num]
        rw [t0, t1, t2, t3, t4, t5]
        exact own_sum3_1 x0 x1 x2 x3 x4 x5
      · have o3 : ¬ own_bad x3 (3 : Int32) (1 : Int32) (3 : Int32) = 0 := own_bad_no rfl g3
        unfold own_ref
        rw [if_pos o0, if_pos o1, if_pos o2, if_neg o3]
        rw [own_num_ok (at_ := own_at x0 x1 x2 x3 x4 x5) (i := (1 : Int32)) g1, show (1 : Int32) + 1 = (2 : Int32) from rfl, own_num_ok (at_ := own_at x0 x1 x2 x3 x4 x5) (i := (2 : Int32)) g2, show (2 : Int32) + 1 = (3 : Int32) from rfl, own_num_no (at_ := own_at x0 x1 x2 x3 x4 x5) (i := (3 : Int32)) g3]
    · have o2 : ¬ own_bad x2 (2 : Int32) (1 : Int32) (3 : Int32) = 0 := own_bad_no rfl g2
      unfold own_ref
      rw [if_pos o0, if_pos o1, if_neg o2]
      rw [own_num_ok (at_ := own_at x0 x1 x2 x3 x4 x5) (i := (1 : Int32)) g1, show (1 : Int32) + 1 = (2 : Int32) from rfl, own_num_no (at_ := own_at x0 x1 x2 x3 x4 x5) (i := (2 : Int32)) g2]
  · have o1 : ¬ own_bad x1 (1 : Int32) (1 : Int32) (3 : Int32) = 0 := own_bad_no rfl g1
    unfold own_ref
    rw [if_pos o0, if_neg o1]
    rw [own_num_no (at_ := own_at x0 x1 x2 x3 x4 x5) (i := (1 : Int32)) g1]
theorem own_sum4_1 (x0 x1 x2 x3 x4 x5 : Int32) : (((((0 : Int32) * 10 + (own_at x0 x1 x2 x3 x4 x5 (1 : Int32) - 48)) * 10 + (own_at x0 x1 x2 x3 x4 x5 (2 : Int32) - 48)) * 10 + (own_at x0 x1 x2 x3 x4 x5 (3 : Int32) - 48)) * 10 + (own_at x0 x1 x2 x3 x4 x5 (4 : Int32) - 48)) = ((((((0 : Int32) + ((x1 - 48) * (1000 : Int32))) + ((x2 - 48) * (100 : Int32))) + ((x3 - 48) * (10 : Int32))) + ((x4 - 48) * (1 : Int32))) + (0 : Int32)) := by
  rw [show own_at x0 x1 x2 x3 x4 x5 (1 : Int32) = x1 from rfl, show own_at x0 x1 x2 x3 x4 x5 (2 : Int32) = x2 from rfl, show own_at x0 x1 x2 x3 x4 x5 (3 : Int32) = x3 from rfl, show own_at x0 x1 x2 x3 x4 x5 (4 : Int32) = x4 from rfl]
  simp only [Int32.zero_mul, Int32.zero_add, Int32.add_zero, Int32.add_mul, Int32.mul_assoc, Int32.mul_one, Int32.reduceMul]
theorem own_law_1_4 (x0 x1 x2 x3 x4 x5 : Int32) : own_num (own_at x0 x1 x2 x3 x4 x5) 4 (1 : Int32) 0 = own_ref x0 x1 x2 x3 x4 x5 (1 : Int32) (4 : Int32) := by
  have o0 : own_bad x0 (0 : Int32) (1 : Int32) (4 : Int32) = 0 := own_bad_out rfl
  have t0 : own_term x0 (0 : Int32) (1 : Int32) (4 : Int32) = 0 := own_term_out rfl
  have o5 : own_bad x5 (5 : Int32) (1 : Int32) (4 : Int32) = 0 := own_bad_out rfl
  have t5 : own_term x5 (5 : Int32) (1 : Int32) (4 : Int32) = 0 := own_term_out rfl
  by_cases g1 : own_good x1
  · have o1 : own_bad x1 (1 : Int32) (1 : Int32) (4 : Int32) = 0 := own_bad_ok rfl g1
    have t1 : own_term x1 (1 : Int32) (1 : Int32) (4 : Int32) = (x1 - 48) * (1000 : Int32) := own_term_ok rfl g1 rfl
    by_cases g2 : own_good x2
    · have o2 : own_bad x2 (2 : Int32) (1 : Int32) (4 : Int32) = 0 := own_bad_ok rfl g2
      have t2 : own_term x2 (2 : Int32) (1 : Int32) (4 : Int32) = (x2 - 48) * (100 : Int32) := own_term_ok rfl g2 rfl
      by_cases g3 : own_good x3
      · have o3 : own_bad x3 (3 : Int32) (1 : Int32) (4 : Int32) = 0 := own_bad_ok rfl g3
        have t3 : own_term x3 (3 : Int32) (1 : Int32) (4 : Int32) = (x3 - 48) * (10 : Int32) := own_term_ok rfl g3 rfl
        by_cases g4 : own_good x4
        · have o4 : own_bad x4 (4 : Int32) (1 : Int32) (4 : Int32) = 0 := own_bad_ok rfl g4
          have t4 : own_term x4 (4 : Int32) (1 : Int32) (4 : Int32) = (x4 - 48) * (1 : Int32) := own_term_ok rfl g4 rfl
          unfold own_ref
          rw [if_pos o0, if_pos o1, if_pos o2, if_pos o3, if_pos o4, if_pos o5]
          rw [own_num_ok (at_ := own_at x0 x1 x2 x3 x4 x5) (i := (1 : Int32)) g1, show (1 : Int32) + 1 = (2 : Int32) from rfl, own_num_ok (at_ := own_at x0 x1 x2 x3 x4 x5) (i := (2 : Int32)) g2, show (2 : Int32) + 1 = (3 : Int32) from rfl, own_num_ok (at_ := own_at x0 x1 x2 x3 x4 x5) (i := (3 : Int32)) g3, show (3 : Int32) + 1 = (4 : Int32) from rfl, own_num_ok (at_ := own_at x0 x1 x2 x3 x4 x5) (i := (4 : Int32)) g4, show (4 : Int32) + 1 = (5 : Int32) from rfl, own_num]
          rw [t0, t1, t2, t3, t4, t5]
          exact own_sum4_1 x0 x1 x2 x3 x4 x5
        · have o4 : ¬ own_bad x4 (4 : Int32) (1 : Int32) (4 : Int32) = 0 := own_bad_no rfl g4
          unfold own_ref
          rw [if_pos o0, if_pos o1, if_pos o2, if_pos o3, if_neg o4]
          rw [own_num_ok (at_ := own_at x0 x1 x2 x3 x4 x5) (i := (1 : Int32)) g1, show (1 : Int32) + 1 = (2 : Int32) from rfl, own_num_ok (at_ := own_at x0 x1 x2 x3 x4 x5) (i := (2 : Int32)) g2, show (2 : Int32) + 1 = (3 : Int32) from rfl, own_num_ok (at_ := own_at x0 x1 x2 x3 x4 x5) (i := (3 : Int32)) g3, show (3 : Int32) + 1 = (4 : Int32) from rfl, own_num_no (at_ := own_at x0 x1 x2 x3 x4 x5) (i := (4 : Int32)) g4]
      · have o3 : ¬ own_bad x3 (3 : Int32) (1 : Int32) (4 : Int32) = 0 := own_bad_no rfl g3
        unfold own_ref
        rw [if_pos o0, if_pos o1, if_pos o2, if_neg o3]
        rw [own_num_ok (at_ := own_at x0 x1 x2 x3 x4 x5) (i := (1 : Int32)) g1, show (1 : Int32) + 1 = (2 : Int32) from rfl, own_num_ok (at_ := own_at x0 x1 x2 x3 x4 x5) (i := (2 : Int32)) g2, show (2 : Int32) + 1 = (3 : Int32) from rfl, own_num_no (at_ := own_at x0 x1 x2 x3 x4 x5) (i := (3 : Int32)) g3]
    · have o2 : ¬ own_bad x2 (2 : Int32) (1 : Int32) (4 : Int32) = 0 := own_bad_no rfl g2
      unfold own_ref
      rw [if_pos o0, if_pos o1, if_neg o2]
      rw [own_num_ok (at_ := own_at x0 x1 x2 x3 x4 x5) (i := (1 : Int32)) g1, show (1 : Int32) + 1 = (2 : Int32) from rfl, own_num_no (at_ := own_at x0 x1 x2 x3 x4 x5) (i := (2 : Int32)) g2]
  · have o1 : ¬ own_bad x1 (1 : Int32) (1 : Int32) (4 : Int32) = 0 := own_bad_no rfl g1
    unfold own_ref
    rw [if_pos o0, if_neg o1]
    rw [own_num_no (at_ := own_at x0 x1 x2 x3 x4 x5) (i := (1 : Int32)) g1]
theorem own_sum5_1 (x0 x1 x2 x3 x4 x5 : Int32) : ((((((0 : Int32) * 10 + (own_at x0 x1 x2 x3 x4 x5 (1 : Int32) - 48)) * 10 + (own_at x0 x1 x2 x3 x4 x5 (2 : Int32) - 48)) * 10 + (own_at x0 x1 x2 x3 x4 x5 (3 : Int32) - 48)) * 10 + (own_at x0 x1 x2 x3 x4 x5 (4 : Int32) - 48)) * 10 + (own_at x0 x1 x2 x3 x4 x5 (5 : Int32) - 48)) = ((((((0 : Int32) + ((x1 - 48) * (10000 : Int32))) + ((x2 - 48) * (1000 : Int32))) + ((x3 - 48) * (100 : Int32))) + ((x4 - 48) * (10 : Int32))) + ((x5 - 48) * (1 : Int32))) := by
  rw [show own_at x0 x1 x2 x3 x4 x5 (1 : Int32) = x1 from rfl, show own_at x0 x1 x2 x3 x4 x5 (2 : Int32) = x2 from rfl, show own_at x0 x1 x2 x3 x4 x5 (3 : Int32) = x3 from rfl, show own_at x0 x1 x2 x3 x4 x5 (4 : Int32) = x4 from rfl, show own_at x0 x1 x2 x3 x4 x5 (5 : Int32) = x5 from rfl]
  simp only [Int32.zero_mul, Int32.zero_add, Int32.add_zero, Int32.add_mul, Int32.mul_assoc, Int32.mul_one, Int32.reduceMul]
theorem own_law_1_5 (x0 x1 x2 x3 x4 x5 : Int32) : own_num (own_at x0 x1 x2 x3 x4 x5) 5 (1 : Int32) 0 = own_ref x0 x1 x2 x3 x4 x5 (1 : Int32) (5 : Int32) := by
  have o0 : own_bad x0 (0 : Int32) (1 : Int32) (5 : Int32) = 0 := own_bad_out rfl
  have t0 : own_term x0 (0 : Int32) (1 : Int32) (5 : Int32) = 0 := own_term_out rfl
  by_cases g1 : own_good x1
  · have o1 : own_bad x1 (1 : Int32) (1 : Int32) (5 : Int32) = 0 := own_bad_ok rfl g1
    have t1 : own_term x1 (1 : Int32) (1 : Int32) (5 : Int32) = (x1 - 48) * (10000 : Int32) := own_term_ok rfl g1 rfl
    by_cases g2 : own_good x2
    · have o2 : own_bad x2 (2 : Int32) (1 : Int32) (5 : Int32) = 0 := own_bad_ok rfl g2
      have t2 : own_term x2 (2 : Int32) (1 : Int32) (5 : Int32) = (x2 - 48) * (1000 : Int32) := own_term_ok rfl g2 rfl
      by_cases g3 : own_good x3
      · have o3 : own_bad x3 (3 : Int32) (1 : Int32) (5 : Int32) = 0 := own_bad_ok rfl g3
        have t3 : own_term x3 (3 : Int32) (1 : Int32) (5 : Int32) = (x3 - 48) * (100 : Int32) := own_term_ok rfl g3 rfl
        by_cases g4 : own_good x4
        · have o4 : own_bad x4 (4 : Int32) (1 : Int32) (5 : Int32) = 0 := own_bad_ok rfl g4
          have t4 : own_term x4 (4 : Int32) (1 : Int32) (5 : Int32) = (x4 - 48) * (10 : Int32) := own_term_ok rfl g4 rfl
          by_cases g5 : own_good x5
          · have o5 : own_bad x5 (5 : Int32) (1 : Int32) (5 : Int32) = 0 := own_bad_ok rfl g5
            have t5 : own_term x5 (5 : Int32) (1 : Int32) (5 : Int32) = (x5 - 48) * (1 : Int32) := own_term_ok rfl g5 rfl
            unfold own_ref
            rw [if_pos o0, if_pos o1, if_pos o2, if_pos o3, if_pos o4, if_pos o5]
            rw [own_num_ok (at_ := own_at x0 x1 x2 x3 x4 x5) (i := (1 : Int32)) g1, show (1 : Int32) + 1 = (2 : Int32) from rfl, own_num_ok (at_ := own_at x0 x1 x2 x3 x4 x5) (i := (2 : Int32)) g2, show (2 : Int32) + 1 = (3 : Int32) from rfl, own_num_ok (at_ := own_at x0 x1 x2 x3 x4 x5) (i := (3 : Int32)) g3, show (3 : Int32) + 1 = (4 : Int32) from rfl, own_num_ok (at_ := own_at x0 x1 x2 x3 x4 x5) (i := (4 : Int32)) g4, show (4 : Int32) + 1 = (5 : Int32) from rfl, own_num_ok (at_ := own_at x0 x1 x2 x3 x4 x5) (i := (5 : Int32)) g5, show (5 : Int32) + 1 = (6 : Int32) from rfl, own_num]
            rw [t0, t1, t2, t3, t4, t5]
            exact own_sum5_1 x0 x1 x2 x3 x4 x5
          · have o5 : ¬ own_bad x5 (5 : Int32) (1 : Int32) (5 : Int32) = 0 := own_bad_no rfl g5
            unfold own_ref
            rw [if_pos o0, if_pos o1, if_pos o2, if_pos o3, if_pos o4, if_neg o5]
            rw [own_num_ok (at_ := own_at x0 x1 x2 x3 x4 x5) (i := (1 : Int32)) g1, show (1 : Int32) + 1 = (2 : Int32) from rfl, own_num_ok (at_ := own_at x0 x1 x2 x3 x4 x5) (i := (2 : Int32)) g2, show (2 : Int32) + 1 = (3 : Int32) from rfl, own_num_ok (at_ := own_at x0 x1 x2 x3 x4 x5) (i := (3 : Int32)) g3, show (3 : Int32) + 1 = (4 : Int32) from rfl, own_num_ok (at_ := own_at x0 x1 x2 x3 x4 x5) (i := (4 : Int32)) g4, show (4 : Int32) + 1 = (5 : Int32) from rfl, own_num_no (at_ := own_at x0 x1 x2 x3 x4 x5) (i := (5 : Int32)) g5]
        · have o4 : ¬ own_bad x4 (4 : Int32) (1 : Int32) (5 : Int32) = 0 := own_bad_no rfl g4
          unfold own_ref
          rw [if_pos o0, if_pos o1, if_pos o2, if_pos o3, if_neg o4]
          rw [own_num_ok (at_ := own_at x0 x1 x2 x3 x4 x5) (i := (1 : Int32)) g1, show (1 : Int32) + 1 = (2 : Int32) from rfl, own_num_ok (at_ := own_at x0 x1 x2 x3 x4 x5) (i := (2 : Int32)) g2, show (2 : Int32) + 1 = (3 : Int32) from rfl, own_num_ok (at_ := own_at x0 x1 x2 x3 x4 x5) (i := (3 : Int32)) g3, show (3 : Int32) + 1 = (4 : Int32) from rfl, own_num_no (at_ := own_at x0 x1 x2 x3 x4 x5) (i := (4 : Int32)) g4]
      · have o3 : ¬ own_bad x3 (3 : Int32) (1 : Int32) (5 : Int32) = 0 := own_bad_no rfl g3
        unfold own_ref
        rw [if_pos o0, if_pos o1, if_pos o2, if_neg o3]
        rw [own_num_ok (at_ := own_at x0 x1 x2 x3 x4 x5) (i := (1 : Int32)) g1, show (1 : Int32) + 1 = (2 : Int32) from rfl, own_num_ok (at_ := own_at x0 x1 x2 x3 x4 x5) (i := (2 : Int32)) g2, show (2 : Int32) + 1 = (3 : Int32) from rfl, own_num_no (at_ := own_at x0 x1 x2 x3 x4 x5) (i := (3 : Int32)) g3]
    · have o2 : ¬ own_bad x2 (2 : Int32) (1 : Int32) (5 : Int32) = 0 := own_bad_no rfl g2
      unfold own_ref
      rw [if_pos o0, if_pos o1, if_neg o2]
      rw [own_num_ok (at_ := own_at x0 x1 x2 x3 x4 x5) (i := (1 : Int32)) g1, show (1 : Int32) + 1 = (2 : Int32) from rfl, own_num_no (at_ := own_at x0 x1 x2 x3 x4 x5) (i := (2 : Int32)) g2]
  · have o1 : ¬ own_bad x1 (1 : Int32) (1 : Int32) (5 : Int32) = 0 := own_bad_no rfl g1
    unfold own_ref
    rw [if_pos o0, if_neg o1]
    rw [own_num_no (at_ := own_at x0 x1 x2 x3 x4 x5) (i := (1 : Int32)) g1]
theorem own_sum0_2 (x0 x1 x2 x3 x4 x5 : Int32) : (0 : Int32) = ((((((0 : Int32) + (0 : Int32)) + (0 : Int32)) + (0 : Int32)) + (0 : Int32)) + (0 : Int32)) := by
  rfl
theorem own_law_2_0 (x0 x1 x2 x3 x4 x5 : Int32) : own_num (own_at x0 x1 x2 x3 x4 x5) 0 (2 : Int32) 0 = own_ref x0 x1 x2 x3 x4 x5 (2 : Int32) (0 : Int32) := by
  have o0 : own_bad x0 (0 : Int32) (2 : Int32) (0 : Int32) = 0 := own_bad_out rfl
  have t0 : own_term x0 (0 : Int32) (2 : Int32) (0 : Int32) = 0 := own_term_out rfl
  have o1 : own_bad x1 (1 : Int32) (2 : Int32) (0 : Int32) = 0 := own_bad_out rfl
  have t1 : own_term x1 (1 : Int32) (2 : Int32) (0 : Int32) = 0 := own_term_out rfl
  have o2 : own_bad x2 (2 : Int32) (2 : Int32) (0 : Int32) = 0 := own_bad_out rfl
  have t2 : own_term x2 (2 : Int32) (2 : Int32) (0 : Int32) = 0 := own_term_out rfl
  have o3 : own_bad x3 (3 : Int32) (2 : Int32) (0 : Int32) = 0 := own_bad_out rfl
  have t3 : own_term x3 (3 : Int32) (2 : Int32) (0 : Int32) = 0 := own_term_out rfl
  have o4 : own_bad x4 (4 : Int32) (2 : Int32) (0 : Int32) = 0 := own_bad_out rfl
  have t4 : own_term x4 (4 : Int32) (2 : Int32) (0 : Int32) = 0 := own_term_out rfl
  have o5 : own_bad x5 (5 : Int32) (2 : Int32) (0 : Int32) = 0 := own_bad_out rfl
  have t5 : own_term x5 (5 : Int32) (2 : Int32) (0 : Int32) = 0 := own_term_out rfl
  unfold own_ref
  rw [if_pos o0, if_pos o1, if_pos o2, if_pos o3, if_pos o4, if_pos o5]
  rw [own_num]
  rw [t0, t1, t2, t3, t4, t5]
  exact own_sum0_2 x0 x1 x2 x3 x4 x5
theorem own_sum1_2 (x0 x1 x2 x3 x4 x5 : Int32) : ((0 : Int32) * 10 + (own_at x0 x1 x2 x3 x4 x5 (2 : Int32) - 48)) = ((((((0 : Int32) + (0 : Int32)) + ((x2 - 48) * (1 : Int32))) + (0 : Int32)) + (0 : Int32)) + (0 : Int32)) := by
  rw [show own_at x0 x1 x2 x3 x4 x5 (2 : Int32) = x2 from rfl]
  simp only [Int32.zero_mul, Int32.zero_add, Int32.add_zero, Int32.add_mul, Int32.mul_assoc, Int32.mul_one, Int32.reduceMul]
theorem own_law_2_1 (x0 x1 x2 x3 x4 x5 : Int32) : own_num (own_at x0 x1 x2 x3 x4 x5) 1 (2 : Int32) 0 = own_ref x0 x1 x2 x3 x4 x5 (2 : Int32) (1 : Int32) := by
  have o0 : own_bad x0 (0 : Int32) (2 : Int32) (1 : Int32) = 0 := own_bad_out rfl
  have t0 : own_term x0 (0 : Int32) (2 : Int32) (1 : Int32) = 0 := own_term_out rfl
  have o1 : own_bad x1 (1 : Int32) (2 : Int32) (1 : Int32) = 0 := own_bad_out rfl
  have t1 : own_term x1 (1 : Int32) (2 : Int32) (1 : Int32) = 0 := own_term_out rfl
  have o3 : own_bad x3 (3 : Int32) (2 : Int32) (1 : Int32) = 0 := own_bad_out rfl
  have t3 : own_term x3 (3 : Int32) (2 : Int32) (1 : Int32) = 0 := own_term_out rfl
  have o4 : own_bad x4 (4 : Int32) (2 : Int32) (1 : Int32) = 0 := own_bad_out rfl
  have t4 : own_term x4 (4 : Int32) (2 : Int32) (1 : Int32) = 0 := own_term_out rfl
  have o5 : own_bad x5 (5 : Int32) (2 : Int32) (1 : Int32) = 0 := own_bad_out rfl
  have t5 : own_term x5 (5 : Int32) (2 : Int32) (1 : Int32) = 0 := own_term_out rfl
  by_cases g2 : own_good x2
  · have o2 : own_bad x2 (2 : Int32) (2 : Int32) (1 : Int32) = 0 := own_bad_ok rfl g2
    have t2 : own_term x2 (2 : Int32) (2 : Int32) (1 : Int32) = (x2 - 48) * (1 : Int32) := own_term_ok rfl g2 rfl
    unfold own_ref
    rw [if_pos o0, if_pos o1, if_pos o2, if_pos o3, if_pos o4, if_pos o5]
    rw [own_num_ok (at_ := own_at x0 x1 x2 x3 x4 x5) (i := (2 : Int32)) g2, show (2 : Int32) + 1 = (3 : Int32) from rfl, own_num]
    rw [t0, t1, t2, t3, t4, t5]
    exact own_sum1_2 x0 x1 x2 x3 x4 x5
  · have o2 : ¬ own_bad x2 (2 : Int32) (2 : Int32) (1 : Int32) = 0 := own_bad_no rfl g2
    unfold own_ref
    rw [if_pos o0, if_pos o1, if_neg o2]
    rw [own_num_no (at_ := own_at x0 x1 x2 x3 x4 x5) (i := (2 : Int32)) g2]
theorem own_sum2_2 (x0 x1 x2 x3 x4 x5 : Int32) : (((0 : Int32) * 10 + (own_at x0 x1 x2 x3 x4 x5 (2 : Int32) - 48)) * 10 + (own_at x0 x1 x2 x3 x4 x5 (3 : Int32) - 48)) = ((((((0 : Int32) + (0 : Int32)) + ((x2 - 48) * (10 : Int32))) + ((x3 - 48) * (1 : Int32))) + (0 : Int32)) + (0 : Int32)) := by
  rw [show own_at x0 x1 x2 x3 x4 x5 (2 : Int32) = x2 from rfl, show own_at x0 x1 x2 x3 x4 x5 (3 : Int32) = x3 from rfl]
  simp only [Int32.zero_mul, Int32.zero_add, Int32.add_zero, Int32.add_mul, Int32.mul_assoc, Int32.mul_one, Int32.reduceMul]
theorem own_law_2_2 (x0 x1 x2 x3 x4 x5 : Int32) : own_num (own_at x0 x1 x2 x3 x4 x5) 2 (2 : Int32) 0 = own_ref x0 x1 x2 x3 x4 x5 (2 : Int32) (2 : Int32) := by
  have o0 : own_bad x0 (0 : Int32) (2 : Int32) (2 : Int32) = 0 := own_bad_out rfl
  have t0 : own_term x0 (0 : Int32) (2 : Int32) (2 : Int32) = 0 := own_term_out rfl
  have o1 : own_bad x1 (1 : Int32) (2 : Int32) (2 : Int32) = 0 := own_bad_out rfl
  have t1 : own_term x1 (1 : Int32) (2 : Int32) (2 : Int32) = 0 := own_term_out rfl
  have o4 : own_bad x4 (4 : Int32) (2 : Int32) (2 : Int32) = 0 := own_bad_out rfl
  have t4 : own_term x4 (4 : Int32) (2 : Int32) (2 : Int32) = 0 := own_term_out rfl
  have o5 : own_bad x5 (5 : Int32) (2 : Int32) (2 : Int32) = 0 := own_bad_out rfl
  have t5 : own_term x5 (5 : Int32) (2 : Int32) (2 : Int32) = 0 := own_term_out rfl
  by_cases g2 : own_good x2
  · have o2 : own_bad x2 (2 : Int32) (2 : Int32) (2 : Int32) = 0 := own_bad_ok rfl g2
    have t2 : own_term x2 (2 : Int32) (2 : Int32) (2 : Int32) = (x2 - 48) * (10 : Int32) := own_term_ok rfl g2 rfl
    by_cases g3 : own_good x3
    · have o3 : own_bad x3 (3 : Int32) (2 : Int32) (2 : Int32) = 0 := own_bad_ok rfl g3
      have t3 : own_term x3 (3 : Int32) (2 : Int32) (2 : Int32) = (x3 - 48) * (1 : Int32) := own_term_ok rfl g3 rfl
      unfold own_ref
      rw [if_pos o0, if_pos o1, if_pos o2, if_pos o3, if_pos o4, if_pos o5]
      rw [own_num_ok (at_ := own_at x0 x1 x2 x3 x4 x5) (i := (2 : Int32)) g2, show (2 : Int32) + 1 = (3 : Int32) from rfl, own_num_ok (at_ := own_at x0 x1 x2 x3 x4 x5) (i := (3 : Int32)) g3, show (3 : Int32) + 1 = (4 : Int32) from rfl, own_num]
      rw [t0, t1, t2, t3, t4, t5]
      exact own_sum2_2 x0 x1 x2 x3 x4 x5
    · have o3 : ¬ own_bad x3 (3 : Int32) (2 : Int32) (2 : Int32) = 0 := own_bad_no rfl g3
      unfold own_ref
      rw [if_pos o0, if_pos o1, if_pos o2, if_neg o3]
      rw [own_num_ok (at_ := own_at x0 x1 x2 x3 x4 x5) (i := (2 : Int32)) g2, show (2 : Int32) + 1 = (3 : Int32) from rfl, own_num_no (at_ := own_at x0 x1 x2 x3 x4 x5) (i := (3 : Int32)) g3]
  · have o2 : ¬ own_bad x2 (2 : Int32) (2 : Int32) (2 : Int32) = 0 := own_bad_no rfl g2
    unfold own_ref
    rw [if_pos o0, if_pos o1, if_neg o2]
    rw [own_num_no (at_ := own_at x0 x1 x2 x3 x4 x5) (i := (2 : Int32)) g2]
theorem own_sum3_2 (x0 x1 x2 x3 x4 x5 : Int32) : ((((0 : Int32) * 10 + (own_at x0 x1 x2 x3 x4 x5 (2 : Int32) - 48)) * 10 + (own_at x0 x1 x2 x3 x4 x5 (3 : Int32) - 48)) * 10 + (own_at x0 x1 x2 x3 x4 x5 (4 : Int32) - 48)) = ((((((0 : Int32) + (0 : Int32)) + ((x2 - 48) * (100 : Int32))) + ((x3 - 48) * (10 : Int32))) + ((x4 - 48) * (1 : Int32))) + (0 : Int32)) := by
  rw [show own_at x0 x1 x2 x3 x4 x5 (2 : Int32) = x2 from rfl, show own_at x0 x1 x2 x3 x4 x5 (3 : Int32) = x3 from rfl, show own_at x0 x1 x2 x3 x4 x5 (4 : Int32) = x4 from rfl]
  simp only [Int32.zero_mul, Int32.zero_add, Int32.add_zero, Int32.add_mul, Int32.mul_assoc, Int32.mul_one, Int32.reduceMul]
theorem own_law_2_3 (x0 x1 x2 x3 x4 x5 : Int32) : own_num (own_at x0 x1 x2 x3 x4 x5) 3 (2 : Int32) 0 = own_ref x0 x1 x2 x3 x4 x5 (2 : Int32) (3 : Int32) := by
  have o0 : own_bad x0 (0 : Int32) (2 : Int32) (3 : Int32) = 0 := own_bad_out rfl
  have t0 : own_term x0 (0 : Int32) (2 : Int32) (3 : Int32) = 0 := own_term_out rfl
  have o1 : own_bad x1 (1 : Int32) (2 : Int32) (3 : Int32) = 0 := own_bad_out rfl
  have t1 : own_term x1 (1 : Int32) (2 : Int32) (3 : Int32) = 0 := own_term_out rfl
  have o5 : own_bad x5 (5 : Int32) (2 : Int32) (3 : Int32) = 0 := own_bad_out rfl
  have t5 : own_term x5 (5 : Int32) (2 : Int32) (3 : Int32) = 0 := own_term_out rfl
  by_cases g2 : own_good x2
  · have o2 : own_bad x2 (2 : Int32) (2 : Int32) (3 : Int32) = 0 := own_bad_ok rfl g2
    have t2 : own_term x2 (2 : Int32) (2 : Int32) (3 : Int32) = (x2 - 48) * (100 : Int32) := own_term_ok rfl g2 rfl
    by_cases g3 : own_good x3
    · have o3 : own_bad x3 (3 : Int32) (2 : Int32) (3 : Int32) = 0 := own_bad_ok rfl g3
      have t3 : own_term x3 (3 : Int32) (2 : Int32) (3 : Int32) = (x3 - 48) * (10 : Int32) := own_term_ok rfl g3 rfl
      by_cases g4 : own_good x4
      · have o4 : own_bad x4 (4 : Int32) (2 : Int32) (3 : Int32) = 0 := own_bad_ok rfl g4
        have t4 : own_term x4 (4 : Int32) (2 : Int32) (3 : Int32) = (x4 - 48) * (1 : Int32) := own_term_ok rfl g4 rfl
        unfold own_ref
        rw [if_pos o0, if_pos o1, if_pos o2, if_pos o3, if_pos o4, if_pos o5]
        rw [own_num_ok (at_ := own_at x0 x1 x2 x3 x4 x5) (i := (2 : Int32)) g2, show (2 : Int32) + 1 = (3 : Int32) from rfl, own_num_ok (at_ := own_at x0 x1 x2 x3 x4 x5) (i := (3 : Int32)) g3, show (3 : Int32) + 1 = (4 : Int32) from rfl, own_num_ok (at_ := own_at x0 x1 x2 x3 x4 x5) (i := (4 : Int32)) g4, show (4 : Int32) + 1 = (5 : Int32) from rfl, own_num]
        rw [t0, t1, t2, t3, t4, t5]
        exact own_sum3_2 x0 x1 x2 x3 x4 x5
      · have o4 : ¬ own_bad x4 (4 : Int32) (2 : Int32) (3 : Int32) = 0 := own_bad_no rfl g4
        unfold own_ref
        rw [if_pos o0, if_pos o1, if_pos o2, if_pos o3, if_neg o4]
        rw [own_num_ok (at_ := own_at x0 x1 x2 x3 x4 x5) (i := (2 : Int32)) g2, show (2 : Int32) + 1 = (3 : Int32) from rfl, own_num_ok (at_ := own_at x0 x1 x2 x3 x4 x5) (i := (3 : Int32)) g3, show (3 : Int32) + 1 = (4 : Int32) from rfl, own_num_no (at_ := own_at x0 x1 x2 x3 x4 x5) (i := (4 : Int32)) g4]
    · have o3 : ¬ own_bad x3 (3 : Int32) (2 : Int32) (3 : Int32) = 0 := own_bad_no rfl g3
      unfold own_ref
      rw [if_pos o0, if_pos o1, if_pos o2, if_neg o3]
      rw [own_num_ok (at_ := own_at x0 x1 x2 x3 x4 x5) (i := (2 : Int32)) g2, show (2 : Int32) + 1 = (3 : Int32) from rfl, own_num_no (at_ := own_at x0 x1 x2 x3 x4 x5) (i := (3 : Int32)) g3]
  · have o2 : ¬ own_bad x2 (2 : Int32) (2 : Int32) (3 : Int32) = 0 := own_bad_no rfl g2
    unfold own_ref
    rw [if_pos o0, if_pos o1, if_neg o2]
    rw [own_num_no (at_ := own_at x0 x1 x2 x3 x4 x5) (i := (2 : Int32)) g2]
theorem own_sum4_2 (x0 x1 x2 x3 x4 x5 : Int32) : (((((0 : Int32) * 10 + (own_at x0 x1 x2 x3 x4 x5 (2 : Int32) - 48)) * 10 + (own_at x0 x1 x2 x3 x4 x5 (3 : Int32) - 48)) * 10 + (own_at x0 x1 x2 x3 x4 x5 (4 : Int32) - 48)) * 10 + (own_at x0 x1 x2 x3 x4 x5 (5 : Int32) - 48)) = ((((((0 : Int32) + (0 : Int32)) + ((x2 - 48) * (1000 : Int32))) + ((x3 - 48) * (100 : Int32))) + ((x4 - 48) * (10 : Int32))) + ((x5 - 48) * (1 : Int32))) := by
  rw [show own_at x0 x1 x2 x3 x4 x5 (2 : Int32) = x2 from rfl, show own_at x0 x1 x2 x3 x4 x5 (3 : Int32) = x3 from rfl, show own_at x0 x1 x2 x3 x4 x5 (4 : Int32) = x4 from rfl, show own_at x0 x1 x2 x3 x4 x5 (5 : Int32) = x5 from rfl]
  simp only [Int32.zero_mul, Int32.zero_add, Int32.add_zero, Int32.add_mul, Int32.mul_assoc, Int32.mul_one, Int32.reduceMul]
theorem own_law_2_4 (x0 x1 x2 x3 x4 x5 : Int32) : own_num (own_at x0 x1 x2 x3 x4 x5) 4 (2 : Int32) 0 = own_ref x0 x1 x2 x3 x4 x5 (2 : Int32) (4 : Int32) := by
  have o0 : own_bad x0 (0 : Int32) (2 : Int32) (4 : Int32) = 0 := own_bad_out rfl
  have t0 : own_term x0 (0 : Int32) (2 : Int32) (4 : Int32) = 0 := own_term_out rfl
  have o1 : own_bad x1 (1 : Int32) (2 : Int32) (4 : Int32) = 0 := own_bad_out rfl
  have t1 : own_term x1 (1 : Int32) (2 : Int32) (4 : Int32) = 0 := own_term_out rfl
  by_cases g2 : own_good x2
  · have o2 : own_bad x2 (2 : Int32) (2 : Int32) (4 : Int32) = 0 := own_bad_ok rfl g2
    have t2 : own_term x2 (2 : Int32) (2 : Int32) (4 : Int32) = (x2 - 48) * (1000 : Int32) := own_term_ok rfl g2 rfl
    by_cases g3 : own_good x3
    · have o3 : own_bad x3 (3 : Int32) (2 : Int32) (4 : Int32) = 0 := own_bad_ok rfl g3
      have t3 : own_term x3 (3 : Int32) (2 : Int32) (4 : Int32) = (x3 - 48) * (100 : Int32) := own_term_ok rfl g3 rfl
      by_cases g4 : own_good x4
      · have o4 : own_bad x4 (4 : Int32) (2 : Int32) (4 : Int32) = 0 := own_bad_ok rfl g4
        have t4 : own_term x4 (4 : Int32) (2 : Int32) (4 : Int32) = (x4 - 48) * (10 : Int32) := own_term_ok rfl g4 rfl
        by_cases g5 : own_good x5
        · have o5 : own_bad x5 (5 : Int32) (2 : Int32) (4 : Int32) = 0 := own_bad_ok rfl g5
          have t5 : own_term x5 (5 : Int32) (2 : Int32) (4 : Int32) = (x5 - 48) * (1 : Int32) := own_term_ok rfl g5 rfl
          unfold own_ref
          rw [if_pos o0, if_pos o1, if_pos o2, if_pos o3, if_pos o4, if_pos o5]
          rw [own_num_ok (at_ := own_at x0 x1 x2 x3 x4 x5) (i := (2 : Int32)) g2, show (2 : Int32) + 1 = (3 : Int32) from rfl, own_num_ok (at_ := own_at x0 x1 x2 x3 x4 x5) (i := (3 : Int32)) g3, show (3 : Int32) + 1 = (4 : Int32) from rfl, own_num_ok (at_ := own_at x0 x1 x2 x3 x4 x5) (i := (4 : Int32)) g4, show (4 : Int32) + 1 = (5 : Int32) from rfl, own_num_ok (at_ := own_at x0 x1 x2 x3 x4 x5) (i := (5 : Int32)) g5, show (5 : Int32) + 1 = (6 : Int32) from rfl, own_num]
          rw [t0, t1, t2, t3, t4, t5]
          exact own_sum4_2 x0 x1 x2 x3 x4 x5
        · have o5 : ¬ own_bad x5 (5 : Int32) (2 : Int32) (4 : Int32) = 0 := own_bad_no rfl g5
          unfold own_ref
          rw [if_pos o0, if_pos o1, if_pos o2, if_pos o3, if_pos o4, if_neg o5]
          rw [own_num_ok (at_ := own_at x0 x1 x2 x3 x4 x5) (i := (2 : Int32)) g2, show (2 : Int32) + 1 = (3 : Int32) from rfl, own_num_ok (at_ := own_at x0 x1 x2 x3 x4 x5) (i := (3 : Int32)) g3, show (3 : Int32) + 1 = (4 : Int32) from rfl, own_num_ok (at_ := own_at x0 x1 x2 x3 x4 x5) (i := (4 : Int32)) g4, show (4 : Int32) + 1 = (5 : Int32) from rfl, own_num_no (at_ := own_at x0 x1 x2 x3 x4 x5) (i := (5 : Int32)) g5]
      · have o4 : ¬ own_bad x4 (4 : Int32) (2 : Int32) (4 : Int32) = 0 := own_bad_no rfl g4
        unfold own_ref
        rw [if_pos o0, if_pos o1, if_pos o2, if_pos o3, if_neg o4]
        rw [own_num_ok (at_ := own_at x0 x1 x2 x3 x4 x5) (i := (2 : Int32)) g2, show (2 : Int32) + 1 = (3 : Int32) from rfl, own_num_ok (at_ := own_at x0 x1 x2 x3 x4 x5) (i := (3 : Int32)) g3, show (3 : Int32) + 1 = (4 : Int32) from rfl, own_num_no (at_ := own_at x0 x1 x2 x3 x4 x5) (i := (4 : Int32)) g4]
    · have o3 : ¬ own_bad x3 (3 : Int32) (2 : Int32) (4 : Int32) = 0 := own_bad_no rfl g3
      unfold own_ref
      rw [if_pos o0, if_pos o1, if_pos o2, if_neg o3]
      rw [own_num_ok (at_ := own_at x0 x1 x2 x3 x4 x5) (i := (2 : Int32)) g2, show (2 : Int32) + 1 = (3 : Int32) from rfl, own_num_no (at_ := own_at x0 x1 x2 x3 x4 x5) (i := (3 : Int32)) g3]
  · have o2 : ¬ own_bad x2 (2 : Int32) (2 : Int32) (4 : Int32) = 0 := own_bad_no rfl g2
    unfold own_ref
    rw [if_pos o0, if_pos o1, if_neg o2]
    rw [own_num_no (at_ := own_at x0 x1 x2 x3 x4 x5) (i := (2 : Int32)) g2]
theorem own_sum0_3 (x0 x1 x2 x3 x4 x5 : Int32) : (0 : Int32) = ((((((0 : Int32) + (0 : Int32)) + (0 : Int32)) + (0 : Int32)) + (0 : Int32)) + (0 : Int32)) := by
  rfl
theorem own_law_3_0 (x0 x1 x2 x3 x4 x5 : Int32) : own_num (own_at x0 x1 x2 x3 x4 x5) 0 (3 : Int32) 0 = own_ref x0 x1 x2 x3 x4 x5 (3 : Int32) (0 : Int32) := by
  have o0 : own_bad x0 (0 : Int32) (3 : Int32) (0 : Int32) = 0 := own_bad_out rfl
  have t0 : own_term x0 (0 : Int32) (3 : Int32) (0 : Int32) = 0 := own_term_out rfl
  have o1 : own_bad x1 (1 : Int32) (3 : Int32) (0 : Int32) = 0 := own_bad_out rfl
  have t1 : own_term x1 (1 : Int32) (3 : Int32) (0 : Int32) = 0 := own_term_out rfl
  have o2 : own_bad x2 (2 : Int32) (3 : Int32) (0 : Int32) = 0 := own_bad_out rfl
  have t2 : own_term x2 (2 : Int32) (3 : Int32) (0 : Int32) = 0 := own_term_out rfl
  have o3 : own_bad x3 (3 : Int32) (3 : Int32) (0 : Int32) = 0 := own_bad_out rfl
  have t3 : own_term x3 (3 : Int32) (3 : Int32) (0 : Int32) = 0 := own_term_out rfl
  have o4 : own_bad x4 (4 : Int32) (3 : Int32) (0 : Int32) = 0 := own_bad_out rfl
  have t4 : own_term x4 (4 : Int32) (3 : Int32) (0 : Int32) = 0 := own_term_out rfl
  have o5 : own_bad x5 (5 : Int32) (3 : Int32) (0 : Int32) = 0 := own_bad_out rfl
  have t5 : own_term x5 (5 : Int32) (3 : Int32) (0 : Int32) = 0 := own_term_out rfl
  unfold own_ref
  rw [if_pos o0, if_pos o1, if_pos o2, if_pos o3, if_pos o4, if_pos o5]
  rw [own_num]
  rw [t0, t1, t2, t3, t4, t5]
  exact own_sum0_3 x0 x1 x2 x3 x4 x5
theorem own_sum1_3 (x0 x1 x2 x3 x4 x5 : Int32) : ((0 : Int32) * 10 + (own_at x0 x1 x2 x3 x4 x5 (3 : Int32) - 48)) = ((((((0 : Int32) + (0 : Int32)) + (0 : Int32)) + ((x3 - 48) * (1 : Int32))) + (0 : Int32)) + (0 : Int32)) := by
  rw [show own_at x0 x1 x2 x3 x4 x5 (3 : Int32) = x3 from rfl]
  simp only [Int32.zero_mul, Int32.zero_add, Int32.add_zero, Int32.add_mul, Int32.mul_assoc, Int32.mul_one, Int32.reduceMul]
theorem own_law_3_1 (x0 x1 x2 x3 x4 x5 : Int32) : own_num (own_at x0 x1 x2 x3 x4 x5) 1 (3 : Int32) 0 = own_ref x0 x1 x2 x3 x4 x5 (3 : Int32) (1 : Int32) := by
  have o0 : own_bad x0 (0 : Int32) (3 : Int32) (1 : Int32) = 0 := own_bad_out rfl
  have t0 : own_term x0 (0 : Int32) (3 : Int32) (1 : Int32) = 0 := own_term_out rfl
  have o1 : own_bad x1 (1 : Int32) (3 : Int32) (1 : Int32) = 0 := own_bad_out rfl
  have t1 : own_term x1 (1 : Int32) (3 : Int32) (1 : Int32) = 0 := own_term_out rfl
  have o2 : own_bad x2 (2 : Int32) (3 : Int32) (1 : Int32) = 0 := own_bad_out rfl
  have t2 : own_term x2 (2 : Int32) (3 : Int32) (1 : Int32) = 0 := own_term_out rfl
  have o4 : own_bad x4 (4 : Int32) (3 : Int32) (1 : Int32) = 0 := own_bad_out rfl
  have t4 : own_term x4 (4 : Int32) (3 : Int32) (1 : Int32) = 0 := own_term_out rfl
  have o5 : own_bad x5 (5 : Int32) (3 : Int32) (1 : Int32) = 0 := own_bad_out rfl
  have t5 : own_term x5 (5 : Int32) (3 : Int32) (1 : Int32) = 0 := own_term_out rfl
  by_cases g3 : own_good x3
  · have o3 : own_bad x3 (3 : Int32) (3 : Int32) (1 : Int32) = 0 := own_bad_ok rfl g3
    have t3 : own_term x3 (3 : Int32) (3 : Int32) (1 : Int32) = (x3 - 48) * (1 : Int32) := own_term_ok rfl g3 rfl
    unfold own_ref
    rw [if_pos o0, if_pos o1, if_pos o2, if_pos o3, if_pos o4, if_pos o5]
    rw [own_num_ok (at_ := own_at x0 x1 x2 x3 x4 x5) (i := (3 : Int32)) g3, show (3 : Int32) + 1 = (4 : Int32) from rfl, own_num]
    rw [t0, t1, t2, t3, t4, t5]
    exact own_sum1_3 x0 x1 x2 x3 x4 x5
  · have o3 : ¬ own_bad x3 (3 : Int32) (3 : Int32) (1 : Int32) = 0 := own_bad_no rfl g3
    unfold own_ref
    rw [if_pos o0, if_pos o1, if_pos o2, if_neg o3]
    rw [own_num_no (at_ := own_at x0 x1 x2 x3 x4 x5) (i := (3 : Int32)) g3]
theorem own_sum2_3 (x0 x1 x2 x3 x4 x5 : Int32) : (((0 : Int32) * 10 + (own_at x0 x1 x2 x3 x4 x5 (3 : Int32) - 48)) * 10 + (own_at x0 x1 x2 x3 x4 x5 (4 : Int32) - 48)) = ((((((0 : Int32) + (0 : Int32)) + (0 : Int32)) + ((x3 - 48) * (10 : Int32))) + ((x4 - 48) * (1 : Int32))) + (0 : Int32)) := by
  rw [show own_at x0 x1 x2 x3 x4 x5 (3 : Int32) = x3 from rfl, show own_at x0 x1 x2 x3 x4 x5 (4 : Int32) = x4 from rfl]
  simp only [Int32.zero_mul, Int32.zero_add, Int32.add_zero, Int32.add_mul, Int32.mul_assoc, Int32.mul_one, Int32.reduceMul]
theorem own_law_3_2 (x0 x1 x2 x3 x4 x5 : Int32) : own_num (own_at x0 x1 x2 x3 x4 x5) 2 (3 : Int32) 0 = own_ref x0 x1 x2 x3 x4 x5 (3 : Int32) (2 : Int32) := by
  have o0 : own_bad x0 (0 : Int32) (3 : Int32) (2 : Int32) = 0 := own_bad_out rfl
  have t0 : own_term x0 (0 : Int32) (3 : Int32) (2 : Int32) = 0 := own_term_out rfl
  have o1 : own_bad x1 (1 : Int32) (3 : Int32) (2 : Int32) = 0 := own_bad_out rfl
  have t1 : own_term x1 (1 : Int32) (3 : Int32) (2 : Int32) = 0 := own_term_out rfl
  have o2 : own_bad x2 (2 : Int32) (3 : Int32) (2 : Int32) = 0 := own_bad_out rfl
  have t2 : own_term x2 (2 : Int32) (3 : Int32) (2 : Int32) = 0 := own_term_out rfl
  have o5 : own_bad x5 (5 : Int32) (3 : Int32) (2 : Int32) = 0 := own_bad_out rfl
  have t5 : own_term x5 (5 : Int32) (3 : Int32) (2 : Int32) = 0 := own_term_out rfl
  by_cases g3 : own_good x3
  · have o3 : own_bad x3 (3 : Int32) (3 : Int32) (2 : Int32) = 0 := own_bad_ok rfl g3
    have t3 : own_term x3 (3 : Int32) (3 : Int32) (2 : Int32) = (x3 - 48) * (10 : Int32) := own_term_ok rfl g3 rfl
    by_cases g4 : own_good x4
    · have o4 : own_bad x4 (4 : Int32) (3 : Int32) (2 : Int32) = 0 := own_bad_ok rfl g4
      have t4 : own_term x4 (4 : Int32) (3 : Int32) (2 : Int32) = (x4 - 48) * (1 : Int32) := own_term_ok rfl g4 rfl
      unfold own_ref
      rw [if_pos o0, if_pos o1, if_pos o2, if_pos o3, if_pos o4, if_pos o5]
      rw [own_num_ok (at_ := own_at x0 x1 x2 x3 x4 x5) (i := (3 : Int32)) g3, show (3 : Int32) + 1 = (4 : Int32) from rfl, own_num_ok (at_ := own_at x0 x1 x2 x3 x4 x5) (i := (4 : Int32)) g4, show (4 : Int32) + 1 = (5 : Int32) from rfl, own_num]
      rw [t0, t1, t2, t3, t4, t5]
      exact own_sum2_3 x0 x1 x2 x3 x4 x5
    · have o4 : ¬ own_bad x4 (4 : Int32) (3 : Int32) (2 : Int32) = 0 := own_bad_no rfl g4
      unfold own_ref
      rw [if_pos o0, if_pos o1, if_pos o2, if_pos o3, if_neg o4]
      rw [own_num_ok (at_ := own_at x0 x1 x2 x3 x4 x5) (i := (3 : Int32)) g3, show (3 : Int32) + 1 = (4 : Int32) from rfl, own_num_no (at_ := own_at x0 x1 x2 x3 x4 x5) (i := (4 : Int32)) g4]
  · have o3 : ¬ own_bad x3 (3 : Int32) (3 : Int32) (2 : Int32) = 0 := own_bad_no rfl g3
    unfold own_ref
    rw [if_pos o0, if_pos o1, if_pos o2, if_neg o3]
    rw [own_num_no (at_ := own_at x0 x1 x2 x3 x4 x5) (i := (3 : Int32)) g3]
theorem own_sum3_3 (x0 x1 x2 x3 x4 x5 : Int32) : ((((0 : Int32) * 10 + (own_at x0 x1 x2 x3 x4 x5 (3 : Int32) - 48)) * 10 + (own_at x0 x1 x2 x3 x4 x5 (4 : Int32) - 48)) * 10 + (own_at x0 x1 x2 x3 x4 x5 (5 : Int32) - 48)) = ((((((0 : Int32) + (0 : Int32)) + (0 : Int32)) + ((x3 - 48) * (100 : Int32))) + ((x4 - 48) * (10 : Int32))) + ((x5 - 48) * (1 : Int32))) := by
  rw [show own_at x0 x1 x2 x3 x4 x5 (3 : Int32) = x3 from rfl, show own_at x0 x1 x2 x3 x4 x5 (4 : Int32) = x4 from rfl, show own_at x0 x1 x2 x3 x4 x5 (5 : Int32) = x5 from rfl]
  simp only [Int32.zero_mul, Int32.zero_add, Int32.add_zero, Int32.add_mul, Int32.mul_assoc, Int32.mul_one, Int32.reduceMul]
theorem own_law_3_3 (x0 x1 x2 x3 x4 x5 : Int32) : own_num (own_at x0 x1 x2 x3 x4 x5) 3 (3 : Int32) 0 = own_ref x0 x1 x2 x3 x4 x5 (3 : Int32) (3 : Int32) := by
  have o0 : own_bad x0 (0 : Int32) (3 : Int32) (3 : Int32) = 0 := own_bad_out rfl
  have t0 : own_term x0 (0 : Int32) (3 : Int32) (3 : Int32) = 0 := own_term_out rfl
  have o1 : own_bad x1 (1 : Int32) (3 : Int32) (3 : Int32) = 0 := own_bad_out rfl
  have t1 : own_term x1 (1 : Int32) (3 : Int32) (3 : Int32) = 0 := own_term_out rfl
  have o2 : own_bad x2 (2 : Int32) (3 : Int32) (3 : Int32) = 0 := own_bad_out rfl
  have t2 : own_term x2 (2 : Int32) (3 : Int32) (3 : Int32) = 0 := own_term_out rfl
  by_cases g3 : own_good x3
  · have o3 : own_bad x3 (3 : Int32) (3 : Int32) (3 : Int32) = 0 := own_bad_ok rfl g3
    have t3 : own_term x3 (3 : Int32) (3 : Int32) (3 : Int32) = (x3 - 48) * (100 : Int32) := own_term_ok rfl g3 rfl
    by_cases g4 : own_good x4
    · have o4 : own_bad x4 (4 : Int32) (3 : Int32) (3 : Int32) = 0 := own_bad_ok rfl g4
      have t4 : own_term x4 (4 : Int32) (3 : Int32) (3 : Int32) = (x4 - 48) * (10 : Int32) := own_term_ok rfl g4 rfl
      by_cases g5 : own_good x5
      · have o5 : own_bad x5 (5 : Int32) (3 : Int32) (3 : Int32) = 0 := own_bad_ok rfl g5
        have t5 : own_term x5 (5 : Int32) (3 : Int32) (3 : Int32) = (x5 - 48) * (1 : Int32) := own_term_ok rfl g5 rfl
        unfold own_ref
        rw [if_pos o0, if_pos o1, if_pos o2, if_pos o3, if_pos o4, if_pos o5]
        rw [own_num_ok (at_ := own_at x0 x1 x2 x3 x4 x5) (i := (3 : Int32)) g3, show (3 : Int32) + 1 = (4 : Int32) from rfl, own_num_ok (at_ := own_at x0 x1 x2 x3 x4 x5) (i := (4 : Int32)) g4, show (4 : Int32) + 1 = (5 : Int32) from rfl, own_num_ok (at_ := own_at x0 x1 x2 x3 x4 x5) (i := (5 : Int32)) g5, show (5 : Int32) + 1 = (6 : Int32) from rfl, own_num]
        rw [t0, t1, t2, t3, t4, t5]
        exact own_sum3_3 x0 x1 x2 x3 x4 x5
      · have o5 : ¬ own_bad x5 (5 : Int32) (3 : Int32) (3 : Int32) = 0 := own_bad_no rfl g5
        unfold own_ref
        rw [if_pos o0, if_pos o1, if_pos o2, if_pos o3, if_pos o4, if_neg o5]
        rw [own_num_ok (at_ := own_at x0 x1 x2 x3 x4 x5) (i := (3 : Int32)) g3, show (3 : Int32) + 1 = (4 : Int32) from rfl, own_num_ok (at_ := own_at x0 x1 x2 x3 x4 x5) (i := (4 : Int32)) g4, show (4 : Int32) + 1 = (5 : Int32) from rfl, own_num_no (at_ := own_at x0 x1 x2 x3 x4 x5) (i := (5 : Int32)) g5]
    · have o4 : ¬ own_bad x4 (4 : Int32) (3 : Int32) (3 : Int32) = 0 := own_bad_no rfl g4
      unfold own_ref
      rw [if_pos o0, if_pos o1, if_pos o2, if_pos o3, if_neg o4]
      rw [own_num_ok (at_ := own_at x0 x1 x2 x3 x4 x5) (i := (3 : Int32)) g3, show (3 : Int32) + 1 = (4 : Int32) from rfl, own_num_no (at_ := own_at x0 x1 x2 x3 x4 x5) (i := (4 : Int32)) g4]
  · have o3 : ¬ own_bad x3 (3 : Int32) (3 : Int32) (3 : Int32) = 0 := own_bad_no rfl g3
    unfold own_ref
    rw [if_pos o0, if_pos o1, if_pos o2, if_neg o3]
    rw [own_num_no (at_ := own_at x0 x1 x2 x3 x4 x5) (i := (3 : Int32)) g3]
theorem own_sum0_4 (x0 x1 x2 x3 x4 x5 : Int32) : (0 : Int32) = ((((((0 : Int32) + (0 : Int32)) + (0 : Int32)) + (0 : Int32)) + (0 : Int32)) + (0 : Int32)) := by
  rfl
theorem own_law_4_0 (x0 x1 x2 x3 x4 x5 : Int32) : own_num (own_at x0 x1 x2 x3 x4 x5) 0 (4 : Int32) 0 = own_ref x0 x1 x2 x3 x4 x5 (4 : Int32) (0 : Int32) := by
  have o0 : own_bad x0 (0 : Int32) (4 : Int32) (0 : Int32) = 0 := own_bad_out rfl
  have t0 : own_term x0 (0 : Int32) (4 : Int32) (0 : Int32) = 0 := own_term_out rfl
  have o1 : own_bad x1 (1 : Int32) (4 : Int32) (0 : Int32) = 0 := own_bad_out rfl
  have t1 : own_term x1 (1 : Int32) (4 : Int32) (0 : Int32) = 0 := own_term_out rfl
  have o2 : own_bad x2 (2 : Int32) (4 : Int32) (0 : Int32) = 0 := own_bad_out rfl
  have t2 : own_term x2 (2 : Int32) (4 : Int32) (0 : Int32) = 0 := own_term_out rfl
  have o3 : own_bad x3 (3 : Int32) (4 : Int32) (0 : Int32) = 0 := own_bad_out rfl
  have t3 : own_term x3 (3 : Int32) (4 : Int32) (0 : Int32) = 0 := own_term_out rfl
  have o4 : own_bad x4 (4 : Int32) (4 : Int32) (0 : Int32) = 0 := own_bad_out rfl
  have t4 : own_term x4 (4 : Int32) (4 : Int32) (0 : Int32) = 0 := own_term_out rfl
  have o5 : own_bad x5 (5 : Int32) (4 : Int32) (0 : Int32) = 0 := own_bad_out rfl
  have t5 : own_term x5 (5 : Int32) (4 : Int32) (0 : Int32) = 0 := own_term_out rfl
  unfold own_ref
  rw [if_pos o0, if_pos o1, if_pos o2, if_pos o3, if_pos o4, if_pos o5]
  rw [own_num]
  rw [t0, t1, t2, t3, t4, t5]
  exact own_sum0_4 x0 x1 x2 x3 x4 x5
theorem own_sum1_4 (x0 x1 x2 x3 x4 x5 : Int32) : ((0 : Int32) * 10 + (own_at x0 x1 x2 x3 x4 x5 (4 : Int32) - 48)) = ((((((0 : Int32) + (0 : Int32)) + (0 : Int32)) + (0 : Int32)) + ((x4 - 48) * (1 : Int32))) + (0 : Int32)) := by
  rw [show own_at x0 x1 x2 x3 x4 x5 (4 : Int32) = x4 from rfl]
  simp only [Int32.zero_mul, Int32.zero_add, Int32.add_zero, Int32.add_mul, Int32.mul_assoc, Int32.mul_one, Int32.reduceMul]
theorem own_law_4_1 (x0 x1 x2 x3 x4 x5 : Int32) : own_num (own_at x0 x1 x2 x3 x4 x5) 1 (4 : Int32) 0 = own_ref x0 x1 x2 x3 x4 x5 (4 : Int32) (1 : Int32) := by
  have o0 : own_bad x0 (0 : Int32) (4 : Int32) (1 : Int32) = 0 := own_bad_out rfl
  have t0 : own_term x0 (0 : Int32) (4 : Int32) (1 : Int32) = 0 := own_term_out rfl
  have o1 : own_bad x1 (1 : Int32) (4 : Int32) (1 : Int32) = 0 := own_bad_out rfl
  have t1 : own_term x1 (1 : Int32) (4 : Int32) (1 : Int32) = 0 := own_term_out rfl
  have o2 : own_bad x2 (2 : Int32) (4 : Int32) (1 : Int32) = 0 := own_bad_out rfl
  have t2 : own_term x2 (2 : Int32) (4 : Int32) (1 : Int32) = 0 := own_term_out rfl
  have o3 : own_bad x3 (3 : Int32) (4 : Int32) (1 : Int32) = 0 := own_bad_out rfl
  have t3 : own_term x3 (3 : Int32) (4 : Int32) (1 : Int32) = 0 := own_term_out rfl
  have o5 : own_bad x5 (5 : Int32) (4 : Int32) (1 : Int32) = 0 := own_bad_out rfl
  have t5 : own_term x5 (5 : Int32) (4 : Int32) (1 : Int32) = 0 := own_term_out rfl
  by_cases g4 : own_good x4
  · have o4 : own_bad x4 (4 : Int32) (4 : Int32) (1 : Int32) = 0 := own_bad_ok rfl g4
    have t4 : own_term x4 (4 : Int32) (4 : Int32) (1 : Int32) = (x4 - 48) * (1 : Int32) := own_term_ok rfl g4 rfl
    unfold own_ref
    rw [if_pos o0, if_pos o1, if_pos o2, if_pos o3, if_pos o4, if_pos o5]
    rw [own_num_ok (at_ := own_at x0 x1 x2 x3 x4 x5) (i := (4 : Int32)) g4, show (4 : Int32) + 1 = (5 : Int32) from rfl, own_num]
    rw [t0, t1, t2, t3, t4, t5]
    exact own_sum1_4 x0 x1 x2 x3 x4 x5
  · have o4 : ¬ own_bad x4 (4 : Int32) (4 : Int32) (1 : Int32) = 0 := own_bad_no rfl g4
    unfold own_ref
    rw [if_pos o0, if_pos o1, if_pos o2, if_pos o3, if_neg o4]
    rw [own_num_no (at_ := own_at x0 x1 x2 x3 x4 x5) (i := (4 : Int32)) g4]
theorem own_sum2_4 (x0 x1 x2 x3 x4 x5 : Int32) : (((0 : Int32) * 10 + (own_at x0 x1 x2 x3 x4 x5 (4 : Int32) - 48)) * 10 + (own_at x0 x1 x2 x3 x4 x5 (5 : Int32) - 48)) = ((((((0 : Int32) + (0 : Int32)) + (0 : Int32)) + (0 : Int32)) + ((x4 - 48) * (10 : Int32))) + ((x5 - 48) * (1 : Int32))) := by
  rw [show own_at x0 x1 x2 x3 x4 x5 (4 : Int32) = x4 from rfl, show own_at x0 x1 x2 x3 x4 x5 (5 : Int32) = x5 from rfl]
  simp only [Int32.zero_mul, Int32.zero_add, Int32.add_zero, Int32.add_mul, Int32.mul_assoc, Int32.mul_one, Int32.reduceMul]
theorem own_law_4_2 (x0 x1 x2 x3 x4 x5 : Int32) : own_num (own_at x0 x1 x2 x3 x4 x5) 2 (4 : Int32) 0 = own_ref x0 x1 x2 x3 x4 x5 (4 : Int32) (2 : Int32) := by
  have o0 : own_bad x0 (0 : Int32) (4 : Int32) (2 : Int32) = 0 := own_bad_out rfl
  have t0 : own_term x0 (0 : Int32) (4 : Int32) (2 : Int32) = 0 := own_term_out rfl
  have o1 : own_bad x1 (1 : Int32) (4 : Int32) (2 : Int32) = 0 := own_bad_out rfl
  have t1 : own_term x1 (1 : Int32) (4 : Int32) (2 : Int32) = 0 := own_term_out rfl
  have o2 : own_bad x2 (2 : Int32) (4 : Int32) (2 : Int32) = 0 := own_bad_out rfl
  have t2 : own_term x2 (2 : Int32) (4 : Int32) (2 : Int32) = 0 := own_term_out rfl
  have o3 : own_bad x3 (3 : Int32) (4 : Int32) (2 : Int32) = 0 := own_bad_out rfl
  have t3 : own_term x3 (3 : Int32) (4 : Int32) (2 : Int32) = 0 := own_term_out rfl
  by_cases g4 : own_good x4
  · have o4 : own_bad x4 (4 : Int32) (4 : Int32) (2 : Int32) = 0 := own_bad_ok rfl g4
    have t4 : own_term x4 (4 : Int32) (4 : Int32) (2 : Int32) = (x4 - 48) * (10 : Int32) := own_term_ok rfl g4 rfl
    by_cases g5 : own_good x5
    · have o5 : own_bad x5 (5 : Int32) (4 : Int32) (2 : Int32) = 0 := own_bad_ok rfl g5
      have t5 : own_term x5 (5 : Int32) (4 : Int32) (2 : Int32) = (x5 - 48) * (1 : Int32) := own_term_ok rfl g5 rfl
      unfold own_ref
      rw [if_pos o0, if_pos o1, if_pos o2, if_pos o3, if_pos o4, if_pos o5]
      rw [own_num_ok (at_ := own_at x0 x1 x2 x3 x4 x5) (i := (4 : Int32)) g4, show (4 : Int32) + 1 = (5 : Int32) from rfl, own_num_ok (at_ := own_at x0 x1 x2 x3 x4 x5) (i := (5 : Int32)) g5, show (5 : Int32) + 1 = (6 : Int32) from rfl, own_num]
      rw [t0, t1, t2, t3, t4, t5]
      exact own_sum2_4 x0 x1 x2 x3 x4 x5
    · have o5 : ¬ own_bad x5 (5 : Int32) (4 : Int32) (2 : Int32) = 0 := own_bad_no rfl g5
      unfold own_ref
      rw [if_pos o0, if_pos o1, if_pos o2, if_pos o3, if_pos o4, if_neg o5]
      rw [own_num_ok (at_ := own_at x0 x1 x2 x3 x4 x5) (i := (4 : Int32)) g4, show (4 : Int32) + 1 = (5 : Int32) from rfl, own_num_no (at_ := own_at x0 x1 x2 x3 x4 x5) (i := (5 : Int32)) g5]
  · have o4 : ¬ own_bad x4 (4 : Int32) (4 : Int32) (2 : Int32) = 0 := own_bad_no rfl g4
    unfold own_ref
    rw [if_pos o0, if_pos o1, if_pos o2, if_pos o3, if_neg o4]
    rw [own_num_no (at_ := own_at x0 x1 x2 x3 x4 x5) (i := (4 : Int32)) g4]
theorem own_sum0_5 (x0 x1 x2 x3 x4 x5 : Int32) : (0 : Int32) = ((((((0 : Int32) + (0 : Int32)) + (0 : Int32)) + (0 : Int32)) + (0 : Int32)) + (0 : Int32)) := by
  rfl
theorem own_law_5_0 (x0 x1 x2 x3 x4 x5 : Int32) : own_num (own_at x0 x1 x2 x3 x4 x5) 0 (5 : Int32) 0 = own_ref x0 x1 x2 x3 x4 x5 (5 : Int32) (0 : Int32) := by
  have o0 : own_bad x0 (0 : Int32) (5 : Int32) (0 : Int32) = 0 := own_bad_out rfl
  have t0 : own_term x0 (0 : Int32) (5 : Int32) (0 : Int32) = 0 := own_term_out rfl
  have o1 : own_bad x1 (1 : Int32) (5 : Int32) (0 : Int32) = 0 := own_bad_out rfl
  have t1 : own_term x1 (1 : Int32) (5 : Int32) (0 : Int32) = 0 := own_term_out rfl
  have o2 : own_bad x2 (2 : Int32) (5 : Int32) (0 : Int32) = 0 := own_bad_out rfl
  have t2 : own_term x2 (2 : Int32) (5 : Int32) (0 : Int32) = 0 := own_term_out rfl
  have o3 : own_bad x3 (3 : Int32) (5 : Int32) (0 : Int32) = 0 := own_bad_out rfl
  have t3 : own_term x3 (3 : Int32) (5 : Int32) (0 : Int32) = 0 := own_term_out rfl
  have o4 : own_bad x4 (4 : Int32) (5 : Int32) (0 : Int32) = 0 := own_bad_out rfl
  have t4 : own_term x4 (4 : Int32) (5 : Int32) (0 : Int32) = 0 := own_term_out rfl
  have o5 : own_bad x5 (5 : Int32) (5 : Int32) (0 : Int32) = 0 := own_bad_out rfl
  have t5 : own_term x5 (5 : Int32) (5 : Int32) (0 : Int32) = 0 := own_term_out rfl
  unfold own_ref
  rw [if_pos o0, if_pos o1, if_pos o2, if_pos o3, if_pos o4, if_pos o5]
  rw [own_num]
  rw [t0, t1, t2, t3, t4, t5]
  exact own_sum0_5 x0 x1 x2 x3 x4 x5
theorem own_sum1_5 (x0 x1 x2 x3 x4 x5 : Int32) : ((0 : Int32) * 10 + (own_at x0 x1 x2 x3 x4 x5 (5 : Int32) - 48)) = ((((((0 : Int32) + (0 : Int32)) + (0 : Int32)) + (0 : Int32)) + (0 : Int32)) + ((x5 - 48) * (1 : Int32))) := by
  rw [show own_at x0 x1 x2 x3 x4 x5 (5 : Int32) = x5 from rfl]
  simp only [Int32.zero_mul, Int32.zero_add, Int32.add_zero, Int32.add_mul, Int32.mul_assoc, Int32.mul_one, Int32.reduceMul]
theorem own_law_5_1 (x0 x1 x2 x3 x4 x5 : Int32) : own_num (own_at x0 x1 x2 x3 x4 x5) 1 (5 : Int32) 0 = own_ref x0 x1 x2 x3 x4 x5 (5 : Int32) (1 : Int32) := by
  have o0 : own_bad x0 (0 : Int32) (5 : Int32) (1 : Int32) = 0 := own_bad_out rfl
  have t0 : own_term x0 (0 : Int32) (5 : Int32) (1 : Int32) = 0 := own_term_out rfl
  have o1 : own_bad x1 (1 : Int32) (5 : Int32) (1 : Int32) = 0 := own_bad_out rfl
  have t1 : own_term x1 (1 : Int32) (5 : Int32) (1 : Int32) = 0 := own_term_out rfl
  have o2 : own_bad x2 (2 : Int32) (5 : Int32) (1 : Int32) = 0 := own_bad_out rfl
  have t2 : own_term x2 (2 : Int32) (5 : Int32) (1 : Int32) = 0 := own_term_out rfl
  have o3 : own_bad x3 (3 : Int32) (5 : Int32) (1 : Int32) = 0 := own_bad_out rfl
  have t3 : own_term x3 (3 : Int32) (5 : Int32) (1 : Int32) = 0 := own_term_out rfl
  have o4 : own_bad x4 (4 : Int32) (5 : Int32) (1 : Int32) = 0 := own_bad_out rfl
  have t4 : own_term x4 (4 : Int32) (5 : Int32) (1 : Int32) = 0 := own_term_out rfl
  by_cases g5 : own_good x5
  · have o5 : own_bad x5 (5 : Int32) (5 : Int32) (1 : Int32) = 0 := own_bad_ok rfl g5
    have t5 : own_term x5 (5 : Int32) (5 : Int32) (1 : Int32) = (x5 - 48) * (1 : Int32) := own_term_ok rfl g5 rfl
    unfold own_ref
    rw [if_pos o0, if_pos o1, if_pos o2, if_pos o3, if_pos o4, if_pos o5]
    rw [own_num_ok (at_ := own_at x0 x1 x2 x3 x4 x5) (i := (5 : Int32)) g5, show (5 : Int32) + 1 = (6 : Int32) from rfl, own_num]
    rw [t0, t1, t2, t3, t4, t5]
    exact own_sum1_5 x0 x1 x2 x3 x4 x5
  · have o5 : ¬ own_bad x5 (5 : Int32) (5 : Int32) (1 : Int32) = 0 := own_bad_no rfl g5
    unfold own_ref
    rw [if_pos o0, if_pos o1, if_pos o2, if_pos o3, if_pos o4, if_neg o5]
    rw [own_num_no (at_ := own_at x0 x1 x2 x3 x4 x5) (i := (5 : Int32)) g5]
theorem own_sum0_6 (x0 x1 x2 x3 x4 x5 : Int32) : (0 : Int32) = ((((((0 : Int32) + (0 : Int32)) + (0 : Int32)) + (0 : Int32)) + (0 : Int32)) + (0 : Int32)) := by
  rfl
theorem own_law_6_0 (x0 x1 x2 x3 x4 x5 : Int32) : own_num (own_at x0 x1 x2 x3 x4 x5) 0 (6 : Int32) 0 = own_ref x0 x1 x2 x3 x4 x5 (6 : Int32) (0 : Int32) := by
  have o0 : own_bad x0 (0 : Int32) (6 : Int32) (0 : Int32) = 0 := own_bad_out rfl
  have t0 : own_term x0 (0 : Int32) (6 : Int32) (0 : Int32) = 0 := own_term_out rfl
  have o1 : own_bad x1 (1 : Int32) (6 : Int32) (0 : Int32) = 0 := own_bad_out rfl
  have t1 : own_term x1 (1 : Int32) (6 : Int32) (0 : Int32) = 0 := own_term_out rfl
  have o2 : own_bad x2 (2 : Int32) (6 : Int32) (0 : Int32) = 0 := own_bad_out rfl
  have t2 : own_term x2 (2 : Int32) (6 : Int32) (0 : Int32) = 0 := own_term_out rfl
  have o3 : own_bad x3 (3 : Int32) (6 : Int32) (0 : Int32) = 0 := own_bad_out rfl
  have t3 : own_term x3 (3 : Int32) (6 : Int32) (0 : Int32) = 0 := own_term_out rfl
  have o4 : own_bad x4 (4 : Int32) (6 : Int32) (0 : Int32) = 0 := own_bad_out rfl
  have t4 : own_term x4 (4 : Int32) (6 : Int32) (0 : Int32) = 0 := own_term_out rfl
  have o5 : own_bad x5 (5 : Int32) (6 : Int32) (0 : Int32) = 0 := own_bad_out rfl
  have t5 : own_term x5 (5 : Int32) (6 : Int32) (0 : Int32) = 0 := own_term_out rfl
  unfold own_ref
  rw [if_pos o0, if_pos o1, if_pos o2, if_pos o3, if_pos o4, if_pos o5]
  rw [own_num]
  rw [t0, t1, t2, t3, t4, t5]
  exact own_sum0_6 x0 x1 x2 x3 x4 x5
theorem own_law (x0 x1 x2 x3 x4 x5 f c : Int32) (h1 : 0 ≤ f.toInt) (h2 : 0 ≤ c.toInt) (h3 : f.toInt + c.toInt ≤ 6) : own_num (own_at x0 x1 x2 x3 x4 x5) c.toInt.toNat f 0 = own_ref x0 x1 x2 x3 x4 x5 f c := by
  have lf : ∀ n : Int, f.toInt = n → f = Int32.ofInt n := fun n h => by rw [← h]; exact (Int32.ofInt_toInt f).symm
  have lc : ∀ n : Int, c.toInt = n → c = Int32.ofInt n := fun n h => by rw [← h]; exact (Int32.ofInt_toInt c).symm
  obtain hf | hf | hf | hf | hf | hf | hf : f.toInt = 0 ∨ f.toInt = 1 ∨ f.toInt = 2 ∨ f.toInt = 3 ∨ f.toInt = 4 ∨ f.toInt = 5 ∨ f.toInt = 6 := by omega
  · obtain rfl := lf _ hf
    obtain hc | hc | hc | hc | hc | hc | hc : c.toInt = 0 ∨ c.toInt = 1 ∨ c.toInt = 2 ∨ c.toInt = 3 ∨ c.toInt = 4 ∨ c.toInt = 5 ∨ c.toInt = 6 := by omega
    · obtain rfl := lc _ hc
      exact own_law_0_0 x0 x1 x2 x3 x4 x5
    · obtain rfl := lc _ hc
      exact own_law_0_1 x0 x1 x2 x3 x4 x5
    · obtain rfl := lc _ hc
      exact own_law_0_2 x0 x1 x2 x3 x4 x5
    · obtain rfl := lc _ hc
      exact own_law_0_3 x0 x1 x2 x3 x4 x5
    · obtain rfl := lc _ hc
      exact own_law_0_4 x0 x1 x2 x3 x4 x5
    · obtain rfl := lc _ hc
      exact own_law_0_5 x0 x1 x2 x3 x4 x5
    · obtain rfl := lc _ hc
      exact own_law_0_6 x0 x1 x2 x3 x4 x5
  · obtain rfl := lf _ hf
    obtain hc | hc | hc | hc | hc | hc : c.toInt = 0 ∨ c.toInt = 1 ∨ c.toInt = 2 ∨ c.toInt = 3 ∨ c.toInt = 4 ∨ c.toInt = 5 := by omega
    · obtain rfl := lc _ hc
      exact own_law_1_0 x0 x1 x2 x3 x4 x5
    · obtain rfl := lc _ hc
      exact own_law_1_1 x0 x1 x2 x3 x4 x5
    · obtain rfl := lc _ hc
      exact own_law_1_2 x0 x1 x2 x3 x4 x5
    · obtain rfl := lc _ hc
      exact own_law_1_3 x0 x1 x2 x3 x4 x5
    · obtain rfl := lc _ hc
      exact own_law_1_4 x0 x1 x2 x3 x4 x5
    · obtain rfl := lc _ hc
      exact own_law_1_5 x0 x1 x2 x3 x4 x5
  · obtain rfl := lf _ hf
    obtain hc | hc | hc | hc | hc : c.toInt = 0 ∨ c.toInt = 1 ∨ c.toInt = 2 ∨ c.toInt = 3 ∨ c.toInt = 4 := by omega
    · obtain rfl := lc _ hc
      exact own_law_2_0 x0 x1 x2 x3 x4 x5
    · obtain rfl := lc _ hc
      exact own_law_2_1 x0 x1 x2 x3 x4 x5
    · obtain rfl := lc _ hc
      exact own_law_2_2 x0 x1 x2 x3 x4 x5
    · obtain rfl := lc _ hc
      exact own_law_2_3 x0 x1 x2 x3 x4 x5
    · obtain rfl := lc _ hc
      exact own_law_2_4 x0 x1 x2 x3 x4 x5
  · obtain rfl := lf _ hf
    obtain hc | hc | hc | hc : c.toInt = 0 ∨ c.toInt = 1 ∨ c.toInt = 2 ∨ c.toInt = 3 := by omega
    · obtain rfl := lc _ hc
      exact own_law_3_0 x0 x1 x2 x3 x4 x5
    · obtain rfl := lc _ hc
      exact own_law_3_1 x0 x1 x2 x3 x4 x5
    · obtain rfl := lc _ hc
      exact own_law_3_2 x0 x1 x2 x3 x4 x5
    · obtain rfl := lc _ hc
      exact own_law_3_3 x0 x1 x2 x3 x4 x5
  · obtain rfl := lf _ hf
    obtain hc | hc | hc : c.toInt = 0 ∨ c.toInt = 1 ∨ c.toInt = 2 := by omega
    · obtain rfl := lc _ hc
      exact own_law_4_0 x0 x1 x2 x3 x4 x5
    · obtain rfl := lc _ hc
      exact own_law_4_1 x0 x1 x2 x3 x4 x5
    · obtain rfl := lc _ hc
      exact own_law_4_2 x0 x1 x2 x3 x4 x5
  · obtain rfl := lf _ hf
    obtain hc | hc : c.toInt = 0 ∨ c.toInt = 1 := by omega
    · obtain rfl := lc _ hc
      exact own_law_5_0 x0 x1 x2 x3 x4 x5
    · obtain rfl := lc _ hc
      exact own_law_5_1 x0 x1 x2 x3 x4 x5
  · obtain rfl := lf _ hf
    have hc : c.toInt = 0 := by omega
    obtain rfl := lc _ hc
    exact own_law_6_0 x0 x1 x2 x3 x4 x5
theorem ef_rm0 (m : MethodId) (x0 : Int32) (x1 : Int64) (x2 : Int32) (x3 : Int64) : entryFrame m #[(.int x0), (.long x1), (.int x2), (.long x3)] maxLocals = mkF m 0 #[.val (.int x0), .val (.long x1), .second, .val (.int x2), .val (.long x3), .second, .unset, .unset, .unset, .unset, .unset] [] := by first | (simp [entryFrame, mkF, argsToLocals, Value.category, maxLocals]; done) | rfl
def Q0 (Z : State) (p0 : Int32) (q1 : Int64) (p2 : Int32) (q3 : Int64)  (h0 : Heap) (n0 : Nat) (v : Option Value) (h : Heap) (L : List Loc) : Prop := v = some (.int 1) ∧ Fr n0 L
set_option maxRecDepth 65536 in
set_option maxHeartbeats 40000000 in
theorem rm0 (l : Launch) (Z : State) (a0 : Array Value) (hw : ∀ d ∈ tables_1, d.before a0 Z = true) (ws : List Jvm.Cond) (p0 : Int32) (q1 : Int64) (p2 : Int32) (q3 : Int64)  (h0 : Heap) (n0 : Nat) (Z0 : n0 ≤ h0.size)  :
    MetFree l x (head1 (Jvm.Cond.code x code maxLocals ret :: ws) room_1) (fun a U => a = #[(.int p0), (.long q1), (.int p2), (.long q3)] ∧ Z.Warmed39 U.vm ∧ U.heap = h0) (fun _ _ _ _ _ => True) (fun _ U o U' => ∃ v L, o = .returned v ∧ Q0 Z p0 q1 p2 q3  h0 n0 v U'.heap L ∧ FrameEnd U o U' L 16 128) := by
  refine own_body (Qv := Q0 Z p0 q1 p2 q3  h0 n0) (plainFor_of_name (by first | (simp [plainName, overriddenIn]; done) | decide +kernel)) ?_
  intro p e s m below meth c s₁ hx hby hml hret hlk hown hnm hZ X0 e0
  replace hown : s.vm.findClass "com/example/linkshelf/linkshelf/marc/Iso2709NumberPinLaw" = some m.cls := hown
  replace hnm : meth.name = "law" := hnm
  have N0 := Fr.nil n0
  replace hml : c.maxLocals = 11 := hml
  refine own_Go.mono (T' := s₁) (f' := (mkF m 0 #[.val (.int p0), .val (.long q1), .second, .val (.int p2), .val (.long q3), .second, .unset, .unset, .unset, .unset, .unset] [])) (fun t k => castTop (ef_rm0 m p0 q1 p2 q3) k) ?_
  obtain ⟨f, hf, c', hc', h1, h2, h3⟩ := own_range p0
  refine own_Go.mono (T' := s₁) (f' := (mkF m 8 #[.val (.int p0), .val (.long q1), .second, .val (.int p2), .val (.long q3), .second, .unset, .unset, .unset, .unset, .unset] [(.int ((p0 &&& (255 : Int32)) % (7 : Int32)))])) (fun t k => ?_) ?_
  · show Steps p.tables e below (s₁.setTop (mkF m 0 #[.val (.int p0), .val (.long q1), .second, .val (.int p2), .val (.long q3), .second, .unset, .unset, .unset, .unset, .unset] [])) _
    refine XS.iloadN X0.here hx rfl (hb hby at_0) rfl ?_
    show Steps p.tables e below (s₁.setTop (mkF m 1 #[.val (.int p0), .val (.long q1), .second, .val (.int p2), .val (.long q3), .second, .unset, .unset, .unset, .unset, .unset] [(.int p0)])) _
    refine XS.sipush X0.here hx rfl (hb hby at_1) ?_
    show Steps p.tables e below (s₁.setTop (mkF m 4 #[.val (.int p0), .val (.long q1), .second, .val (.int p2), .val (.long q3), .second, .unset, .unset, .unset, .unset, .unset] [(.int (255 : Int32)), (.int p0)])) _
    refine XS.iand X0.here hx rfl (hb hby at_4) rfl ?_
    show Steps p.tables e below (s₁.setTop (mkF m 5 #[.val (.int p0), .val (.long q1), .second, .val (.int p2), .val (.long q3), .second, .unset, .unset, .unset, .unset, .unset] [(.int (p0 &&& (255 : Int32)))])) _
    refine XS.bipush X0.here hx rfl (hb hby at_5) ?_
    show Steps p.tables e below (s₁.setTop (mkF m 7 #[.val (.int p0), .val (.long q1), .second, .val (.int p2), .val (.long q3), .second, .unset, .unset, .unset, .unset, .unset] [(.int (7 : Int32)), (.int (p0 &&& (255 : Int32)))])) _
    refine iremM X0 hx rfl (hb hby at_7) rfl (by decide) ?_
    show Steps p.tables e below (s₁.setTop (mkF m 8 #[.val (.int p0), .val (.long q1), .second, .val (.int p2), .val (.long q3), .second, .unset, .unset, .unset, .unset, .unset] [(.int ((p0 &&& (255 : Int32)) % (7 : Int32)))])) _
    exact k
  rw [show ((p0 &&& (255 : Int32)) % (7 : Int32)) = f from hf]
  refine own_Go.mono (T' := s₁) (f' := (mkF m 24 #[.val (.int p0), .val (.long q1), .second, .val (.int p2), .val (.long q3), .second, .val (.int f), .unset, .unset, .unset, .unset] [(.int ((((p0.toUInt32 >>> ((8 : Int32) &&& 31).toUInt32).toInt32) &&& (255 : Int32)) % ((7 : Int32) - f)))])) (fun t k => ?_) ?_
  · show Steps p.tables e below (s₁.setTop (mkF m 8 #[.val (.int p0), .val (.long q1), .second, .val (.int p2), .val (.long q3), .second, .unset, .unset, .unset, .unset, .unset] [(.int f)])) _
    refine XS.istore X0.here hx rfl (hb hby at_8) rfl (l' := #[.val (.int p0), .val (.long q1), .second, .val (.int p2), .val (.long q3), .second, .val (.int f), .unset, .unset, .unset, .unset]) rfl ?_
    show Steps p.tables e below (s₁.setTop (mkF m 10 #[.val (.int p0), .val (.long q1), .second, .val (.int p2), .val (.long q3), .second, .val (.int f), .unset, .unset, .unset, .unset] [])) _
    refine XS.iloadN X0.here hx rfl (hb hby at_10) rfl ?_
    show Steps p.tables e below (s₁.setTop (mkF m 11 #[.val (.int p0), .val (.long q1), .second, .val (.int p2), .val (.long q3), .second, .val (.int f), .unset, .unset, .unset, .unset] [(.int p0)])) _
    refine XS.bipush X0.here hx rfl (hb hby at_11) ?_
    show Steps p.tables e below (s₁.setTop (mkF m 13 #[.val (.int p0), .val (.long q1), .second, .val (.int p2), .val (.long q3), .second, .val (.int f), .unset, .unset, .unset, .unset] [(.int (8 : Int32)), (.int p0)])) _
    refine XS.iushr X0.here hx rfl (hb hby at_13) rfl ?_
    show Steps p.tables e below (s₁.setTop (mkF m 14 #[.val (.int p0), .val (.long q1), .second, .val (.int p2), .val (.long q3), .second, .val (.int f), .unset, .unset, .unset, .unset] [(.int ((p0.toUInt32 >>> ((8 : Int32) &&& 31).toUInt32).toInt32))])) _
    refine XS.sipush X0.here hx rfl (hb hby at_14) ?_
    show Steps p.tables e below (s₁.setTop (mkF m 17 #[.val (.int p0), .val (.long q1), .second, .val (.int p2), .val (.long q3), .second, .val (.int f), .unset, .unset, .unset, .unset] [(.int (255 : Int32)), (.int ((p0.toUInt32 >>> ((8 : Int32) &&& 31).toUInt32).toInt32))])) _
    refine XS.iand X0.here hx rfl (hb hby at_17) rfl ?_
    show Steps p.tables e below (s₁.setTop (mkF m 18 #[.val (.int p0), .val (.long q1), .second, .val (.int p2), .val (.long q3), .second, .val (.int f), .unset, .unset, .unset, .unset] [(.int (((p0.toUInt32 >>> ((8 : Int32) &&& 31).toUInt32).toInt32) &&& (255 : Int32)))])) _
    refine XS.bipush X0.here hx rfl (hb hby at_18) ?_
    show Steps p.tables e below (s₁.setTop (mkF m 20 #[.val (.int p0), .val (.long q1), .second, .val (.int p2), .val (.long q3), .second, .val (.int f), .unset, .unset, .unset, .unset] [(.int (7 : Int32)), (.int (((p0.toUInt32 >>> ((8 : Int32) &&& 31).toUInt32).toInt32) &&& (255 : Int32)))])) _
    refine XS.iload X0.here hx rfl (hb hby at_20) rfl ?_
    show Steps p.tables e below (s₁.setTop (mkF m 22 #[.val (.int p0), .val (.long q1), .second, .val (.int p2), .val (.long q3), .second, .val (.int f), .unset, .unset, .unset, .unset] [(.int f), (.int (7 : Int32)), (.int (((p0.toUInt32 >>> ((8 : Int32) &&& 31).toUInt32).toInt32) &&& (255 : Int32)))])) _
    refine XS.isub X0.here hx rfl (hb hby at_22) rfl ?_
    show Steps p.tables e below (s₁.setTop (mkF m 23 #[.val (.int p0), .val (.long q1), .second, .val (.int p2), .val (.long q3), .second, .val (.int f), .unset, .unset, .unset, .unset] [(.int ((7 : Int32) - f)), (.int (((p0.toUInt32 >>> ((8 : Int32) &&& 31).toUInt32).toInt32) &&& (255 : Int32)))])) _
    refine iremM X0 hx rfl (hb hby at_23) rfl (own_nz h1 h2 h3) ?_
    show Steps p.tables e below (s₁.setTop (mkF m 24 #[.val (.int p0), .val (.long q1), .second, .val (.int p2), .val (.long q3), .second, .val (.int f), .unset, .unset, .unset, .unset] [(.int ((((p0.toUInt32 >>> ((8 : Int32) &&& 31).toUInt32).toInt32) &&& (255 : Int32)) % ((7 : Int32) - f)))])) _
    exact k
  rw [show ((((p0.toUInt32 >>> ((8 : Int32) &&& 31).toUInt32).toInt32) &&& (255 : Int32)) % ((7 : Int32) - f)) = c' from hc']
  obtain ⟨T49, h49, k49, X49, e49, E49, A49, st49⟩ := newP X0 hx hZ (hw _ (List.mem_of_getElem? (i := 0) rfl)) e0 (g := (mkF m 28 #[.val (.int p0), .val (.long q1), .second, .val (.int p2), .val (.long q3), .second, .val (.int f), .val (.int c'), .unset, .unset, .unset] [(.int (6 : Int32))])) rfl (hb hby at_28) rfl (by decide) (cap := 6) (by decide) (by decide) (by decide) (by decide)
  obtain ⟨b, g49⟩ : ∃ z, z = h0.size := ⟨_, rfl⟩
  rw [← g49] at A49 st49
  have lo_b : n0 ≤ b := Nat.le_trans Z0 (Nat.le_of_eq g49.symm)
  have zh49 : n0 ≤ h49.size := Nat.le_trans Z0 E49.1
  have V_b_49 : Arv Z h49 b k49 .byte (6 : Int32) [(.int (0 : Int32)), (.int (0 : Int32)), (.int (0 : Int32)), (.int (0 : Int32)), (.int (0 : Int32)), (.int (0 : Int32))] (.int (0 : Int32)) := (Arv.new A49 (by decide)).pad (pad_rep [] (.int (0 : Int32)) 6)
  obtain ⟨_, _, ⟨T50, L50, k50, n50⟩, -, X50, ⟨Lc50, hQ50, l50, y50, z50⟩, st50⟩ := Jvm.LawKit.callS X49 hx (y := (⟨"com/example/linkshelf/linkshelf/marc/Iso2709NumberPinLaw", "pick", "(JIJI)B"⟩ : MethodName)) hown (mvT hZ (hw _ (List.mem_of_getElem? (i := 1) rfl))) (mvT hZ (hw _ (List.mem_of_getElem? (i := 2) rfl))) (mvT hZ (hw _ (List.mem_of_getElem? (i := 3) rfl))) (mvT hZ (hw _ (List.mem_of_getElem? (i := 4) rfl))) (by decide) (backOf (W := 2) (rm1 l Z a0 hw [] q1 p2 q3 (0 : Int32) h49 n0 zh49) hZ (hw _ (List.mem_of_getElem? (i := 4) rfl)) (hw _ (List.mem_of_getElem? (i := 3) rfl)) (by decide) (by decide)) (g := (mkF m 40 #[.val (.int p0), .val (.long q1), .second, .val (.int p2), .val (.long q3), .second, .val (.int f), .val (.int c'), .val (.ref b), .unset, .unset] [(.int (0 : Int32)), (.long q3), (.int p2), (.long q1), (.int (0 : Int32)), (.ref b)])) rfl (by rw [hml]; rfl) (argsL := [(.long q1), (.int p2), (.long q3), (.int (0 : Int32))]) (rest := [(.int (0 : Int32)), (.ref b)]) (lenOf pd_5 rfl) rfl (by show 2 * 0 + _ ≤ _; exact Nat.le_of_eq rfl) (hb hby at_40) (fun _ _ => ⟨rfl, e49, (by decide : 1 + 0 ≤ _), (by decide : 6 + 0 ≤ _)⟩)
  dsimp only [Pt.U, Pt.locs, Pt.cells, Pt.slots] at X50 l50 y50 z50 st50 hQ50
  subst l50 y50 z50
  obtain ⟨rfl, N50q, hh50⟩ := hQ50
  have N50 := Fr.app N0 N50q
  obtain ⟨cl51, Ar51, q51, S51, P51, H51, G51⟩ := V_b_49
  have hin52 : ¬ ((0 : Int32) < 0 ∨ cl51.slots.size ≤ ((0 : Int32)).toNatClampNeg) := inb_of S51 ⟨by decide, by decide⟩
  obtain ⟨T52, h52, X52, e52, W52, st52⟩ := stB X50 hx hZ hh50 Ar51 (j := (0 : Int32)) hin52 (g := (mkF m 43 #[.val (.int p0), .val (.long q1), .second, .val (.int p2), .val (.long q3), .second, .val (.int f), .val (.int c'), .val (.ref b), .unset, .unset] [(.int (B1_0 q1 p2 q3 (0 : Int32))), (.int (0 : Int32)), (.ref b)])) rfl rfl (hb hby at_43)
  have V_b_52 : Arv Z h52 b k49 .byte (6 : Int32) [(.int (nar .byte (B1_0 q1 p2 q3 (0 : Int32)))), (.int (0 : Int32)), (.int (0 : Int32)), (.int (0 : Int32)), (.int (0 : Int32)), (.int (0 : Int32))] (.int (0 : Int32)) := Arv.set Ar51 q51 S51 P51 H51 G51 (fits_nar_byte _) W52 0 rfl (Nat.le_of_ble_eq_true rfl)
  have zh52 : n0 ≤ h52.size := Nat.le_trans zh49 (Nat.le_of_eq W52.size.symm)
  have N52 := Fr.snoc X52 N50 lo_b
  obtain ⟨_, _, ⟨T53, L53, k53, n53⟩, -, X53, ⟨Lc53, hQ53, l53, y53, z53⟩, st53⟩ := Jvm.LawKit.callS X52 hx (y := (⟨"com/example/linkshelf/linkshelf/marc/Iso2709NumberPinLaw", "pick", "(JIJI)B"⟩ : MethodName)) hown (mvT hZ (hw _ (List.mem_of_getElem? (i := 1) rfl))) (mvT hZ (hw _ (List.mem_of_getElem? (i := 2) rfl))) (mvT hZ (hw _ (List.mem_of_getElem? (i := 3) rfl))) (mvT hZ (hw _ (List.mem_of_getElem? (i := 4) rfl))) (by decide) (backOf (W := 2) (rm1 l Z a0 hw [] q1 p2 q3 (1 : Int32) h52 n0 zh52) hZ (hw _ (List.mem_of_getElem? (i := 4) rfl)) (hw _ (List.mem_of_getElem? (i := 3) rfl)) (by decide) (by decide)) (g := (mkF m 52 #[.val (.int p0), .val (.long q1), .second, .val (.int p2), .val (.long q3), .second, .val (.int f), .val (.int c'), .val (.ref b), .unset, .unset] [(.int (1 : Int32)), (.long q3), (.int p2), (.long q1), (.int (1 : Int32)), (.ref b)])) rfl (by rw [hml]; rfl) (argsL := [(.long q1), (.int p2), (.long q3), (.int (1 : Int32))]) (rest := [(.int (1 : Int32)), (.ref b)]) (lenOf pd_5 rfl) rfl (by show 2 * 0 + _ ≤ _; exact Nat.le_of_eq rfl) (hb hby at_52) (fun _ _ => ⟨rfl, e52, (by decide : 1 + 0 ≤ _), (by decide : 6 + 0 ≤ _)⟩)
  dsimp only [Pt.U, Pt.locs, Pt.cells, Pt.slots] at X53 l53 y53 z53 st53 hQ53
  subst l53 y53 z53
  obtain ⟨rfl, N53q, hh53⟩ := hQ53
  have N53 := Fr.app N52 N53q
  obtain ⟨cl54, Ar54, q54, S54, P54, H54, G54⟩ := V_b_52
  have hin55 : ¬ ((1 : Int32) < 0 ∨ cl54.slots.size ≤ ((1 : Int32)).toNatClampNeg) := inb_of S54 ⟨by decide, by decide⟩
  obtain ⟨T55, h55, X55, e55, W55, st55⟩ := stB X53 hx hZ hh53 Ar54 (j := (1 : Int32)) hin55 (g := (mkF m 55 #[.val (.int p0), .val (.long q1), .second, .val (.int p2), .val (.long q3), .second, .val (.int f), .val (.int c'), .val (.ref b), .unset, .unset] [(.int (B1_0 q1 p2 q3 (1 : Int32))), (.int (1 : Int32)), (.ref b)])) rfl rfl (hb hby at_55)
  have V_b_55 : Arv Z h55 b k49 .byte (6 : Int32) [(.int (nar .byte (B1_0 q1 p2 q3 (0 : Int32)))), (.int (nar .byte (B1_0 q1 p2 q3 (1 : Int32)))), (.int (0 : Int32)), (.int (0 : Int32)), (.int (0 : Int32)), (.int (0 : Int32))] (.int (0 : Int32)) := Arv.set Ar54 q54 S54 P54 H54 G54 (fits_nar_byte _) W55 1 rfl (Nat.le_of_ble_eq_true rfl)
  have zh55 : n0 ≤ h55.size := Nat.le_trans zh52 (Nat.le_of_eq W55.size.symm)
  have N55 := Fr.snoc X55 N53 lo_b
  obtain ⟨_, _, ⟨T56, L56, k56, n56⟩, -, X56, ⟨Lc56, hQ56, l56, y56, z56⟩, st56⟩ := Jvm.LawKit.callS X55 hx (y := (⟨"com/example/linkshelf/linkshelf/marc/Iso2709NumberPinLaw", "pick", "(JIJI)B"⟩ : MethodName)) hown (mvT hZ (hw _ (List.mem_of_getElem? (i := 1) rfl))) (mvT hZ (hw _ (List.mem_of_getElem? (i := 2) rfl))) (mvT hZ (hw _ (List.mem_of_getElem? (i := 3) rfl))) (mvT hZ (hw _ (List.mem_of_getElem? (i := 4) rfl))) (by decide) (backOf (W := 2) (rm1 l Z a0 hw [] q1 p2 q3 (2 : Int32) h55 n0 zh55) hZ (hw _ (List.mem_of_getElem? (i := 4) rfl)) (hw _ (List.mem_of_getElem? (i := 3) rfl)) (by decide) (by decide)) (g := (mkF m 64 #[.val (.int p0), .val (.long q1), .second, .val (.int p2), .val (.long q3), .second, .val (.int f), .val (.int c'), .val (.ref b), .unset, .unset] [(.int (2 : Int32)), (.long q3), (.int p2), (.long q1), (.int (2 : Int32)), (.ref b)])) rfl (by rw [hml]; rfl) (argsL := [(.long q1), (.int p2), (.long q3), (.int (2 : Int32))]) (rest := [(.int (2 : Int32)), (.ref b)]) (lenOf pd_5 rfl) rfl (by show 2 * 0 + _ ≤ _; exact Nat.le_of_eq rfl) (hb hby at_64) (fun _ _ => ⟨rfl, e55, (by decide : 1 + 0 ≤ _), (by decide : 6 + 0 ≤ _)⟩)
  dsimp only [Pt.U, Pt.locs, Pt.cells, Pt.slots] at X56 l56 y56 z56 st56 hQ56
  subst l56 y56 z56
  obtain ⟨rfl, N56q, hh56⟩ := hQ56
  have N56 := Fr.app N55 N56q
  obtain ⟨cl57, Ar57, q57, S57, P57, H57, G57⟩ := V_b_55
  have hin58 : ¬ ((2 : Int32) < 0 ∨ cl57.slots.size ≤ ((2 : Int32)).toNatClampNeg) := inb_of S57 ⟨by decide, by decide⟩
  obtain ⟨T58, h58, X58, e58, W58, st58⟩ := stB X56 hx hZ hh56 Ar57 (j := (2 : Int32)) hin58 (g := (mkF m 67 #[.val (.int p0), .val (.long q1), .second, .val (.int p2), .val (.long q3), .second, .val (.int f), .val (.int c'), .val (.ref b), .unset, .unset] [(.int (B1_0 q1 p2 q3 (2 : Int32))), (.int (2 : Int32)), (.ref b)])) rfl rfl (hb hby at_67)
  have V_b_58 : Arv Z h58 b k49 .byte (6 : Int32) [(.int (nar .byte (B1_0 q1 p2 q3 (0 : Int32)))), (.int (nar .byte (B1_0 q1 p2 q3 (1 : Int32)))), (.int (nar .byte (B1_0 q1 p2 q3 (2 : Int32)))), (.int (0 : Int32)), (.int (0 : Int32)), (.int (0 : Int32))] (.int (0 : Int32)) := Arv.set Ar57 q57 S57 P57 H57 G57 (fits_nar_byte _) W58 2 rfl (Nat.le_of_ble_eq_true rfl)
  have zh58 : n0 ≤ h58.size := Nat.le_trans zh55 (Nat.le_of_eq W58.size.symm)
  have N58 := Fr.snoc X58 N56 lo_b
  obtain ⟨_, _, ⟨T59, L59, k59, n59⟩, -, X59, ⟨Lc59, hQ59, l59, y59, z59⟩, st59⟩ := Jvm.LawKit.callS X58 hx (y := (⟨"com/example/linkshelf/linkshelf/marc/Iso2709NumberPinLaw", "pick", "(JIJI)B"⟩ : MethodName)) hown (mvT hZ (hw _ (List.mem_of_getElem? (i := 1) rfl))) (mvT hZ (hw _ (List.mem_of_getElem? (i := 2) rfl))) (mvT hZ (hw _ (List.mem_of_getElem? (i := 3) rfl))) (mvT hZ (hw _ (List.mem_of_getElem? (i := 4) rfl))) (by decide) (backOf (W := 2) (rm1 l Z a0 hw [] q1 p2 q3 (3 : Int32) h58 n0 zh58) hZ (hw _ (List.mem_of_getElem? (i := 4) rfl)) (hw _ (List.mem_of_getElem? (i := 3) rfl)) (by decide) (by decide)) (g := (mkF m 76 #[.val (.int p0), .val (.long q1), .second, .val (.int p2), .val (.long q3), .second, .val (.int f), .val (.int c'), .val (.ref b), .unset, .unset] [(.int (3 : Int32)), (.long q3), (.int p2), (.long q1), (.int (3 : Int32)), (.ref b)])) rfl (by rw [hml]; rfl) (argsL := [(.long q1), (.int p2), (.long q3), (.int (3 : Int32))]) (rest := [(.int (3 : Int32)), (.ref b)]) (lenOf pd_5 rfl) rfl (by show 2 * 0 + _ ≤ _; exact Nat.le_of_eq rfl) (hb hby at_76) (fun _ _ => ⟨rfl, e58, (by decide : 1 + 0 ≤ _), (by decide : 6 + 0 ≤ _)⟩)
  dsimp only [Pt.U, Pt.locs, Pt.cells, Pt.slots] at X59 l59 y59 z59 st59 hQ59
  subst l59 y59 z59
  obtain ⟨rfl, N59q, hh59⟩ := hQ59
  have N59 := Fr.app N58 N59q
  obtain ⟨cl60, Ar60, q60, S60, P60, H60, G60⟩ := V_b_58
  have hin61 : ¬ ((3 : Int32) < 0 ∨ cl60.slots.size ≤ ((3 : Int32)).toNatClampNeg) := inb_of S60 ⟨by decide, by decide⟩
  obtain ⟨T61, h61, X61, e61, W61, st61⟩ := stB X59 hx hZ hh59 Ar60 (j := (3 : Int32)) hin61 (g := (mkF m 79 #[.val (.int p0), .val (.long q1), .second, .val (.int p2), .val (.long q3), .second, .val (.int f), .val (.int c'), .val (.ref b), .unset, .unset] [(.int (B1_0 q1 p2 q3 (3 : Int32))), (.int (3 : Int32)), (.ref b)])) rfl rfl (hb hby at_79)
  have V_b_61 : Arv Z h61 b k49 .byte (6 : Int32) [(.int (nar .byte (B1_0 q1 p2 q3 (0 : Int32)))), (.int (nar .byte (B1_0 q1 p2 q3 (1 : Int32)))), (.int (nar .byte (B1_0 q1 p2 q3 (2 : Int32)))), (.int (nar .byte (B1_0 q1 p2 q3 (3 : Int32)))), (.int (0 : Int32)), (.int (0 : Int32))] (.int (0 : Int32)) := Arv.set Ar60 q60 S60 P60 H60 G60 (fits_nar_byte _) W61 3 rfl (Nat.le_of_ble_eq_true rfl)
  have zh61 : n0 ≤ h61.size := Nat.le_trans zh58 (Nat.le_of_eq W61.size.symm)
  have N61 := Fr.snoc X61 N59 lo_b
  obtain ⟨_, _, ⟨T62, L62, k62, n62⟩, -, X62, ⟨Lc62, hQ62, l62, y62, z62⟩, st62⟩ := Jvm.LawKit.callS X61 hx (y := (⟨"com/example/linkshelf/linkshelf/marc/Iso2709NumberPinLaw", "pick", "(JIJI)B"⟩ : MethodName)) hown (mvT hZ (hw _ (List.mem_of_getElem? (i := 1) rfl))) (mvT hZ (hw _ (List.mem_of_getElem? (i := 2) rfl))) (mvT hZ (hw _ (List.mem_of_getElem? (i := 3) rfl))) (mvT hZ (hw _ (List.mem_of_getElem? (i := 4) rfl))) (by decide) (backOf (W := 2) (rm1 l Z a0 hw [] q1 p2 q3 (4 : Int32) h61 n0 zh61) hZ (hw _ (List.mem_of_getElem? (i := 4) rfl)) (hw _ (List.mem_of_getElem? (i := 3) rfl)) (by decide) (by decide)) (g := (mkF m 88 #[.val (.int p0), .val (.long q1), .second, .val (.int p2), .val (.long q3), .second, .val (.int f), .val (.int c'), .val (.ref b), .unset, .unset] [(.int (4 : Int32)), (.long q3), (.int p2), (.long q1), (.int (4 : Int32)), (.ref b)])) rfl (by rw [hml]; rfl) (argsL := [(.long q1), (.int p2), (.long q3), (.int (4 : Int32))]) (rest := [(.int (4 : Int32)), (.ref b)]) (lenOf pd_5 rfl) rfl (by show 2 * 0 + _ ≤ _; exact Nat.le_of_eq rfl) (hb hby at_88) (fun _ _ => ⟨rfl, e61, (by decide : 1 + 0 ≤ _), (by decide : 6 + 0 ≤ _)⟩)
  dsimp only [Pt.U, Pt.locs, Pt.cells, Pt.slots] at X62 l62 y62 z62 st62 hQ62
  subst l62 y62 z62
  obtain ⟨rfl, N62q, hh62⟩ := hQ62
  have N62 := Fr.app N61 N62q
  obtain ⟨cl63, Ar63, q63, S63, P63, H63, G63⟩ := V_b_61
  have hin64 : ¬ ((4 : Int32) < 0 ∨ cl63.slots.size ≤ ((4 : Int32)).toNatClampNeg) := inb_of S63 ⟨by decide, by decide⟩
  obtain ⟨T64, h64, X64, e64, W64, st64⟩ := stB X62 hx hZ hh62 Ar63 (j := (4 : Int32)) hin64 (g := (mkF m 91 #[.val (.int p0), .val (.long q1), .second, .val (.int p2), .val (.long q3), .second, .val (.int f), .val (.int c'), .val (.ref b), .unset, .unset] [(.int (B1_0 q1 p2 q3 (4 : Int32))), (.int (4 : Int32)), (.ref b)])) rfl rfl (hb hby at_91)
  have V_b_64 : Arv Z h64 b k49 .byte (6 : Int32) [(.int (nar .byte (B1_0 q1 p2 q3 (0 : Int32)))), (.int (nar .byte (B1_0 q1 p2 q3 (1 : Int32)))), (.int (nar .byte (B1_0 q1 p2 q3 (2 : Int32)))), (.int (nar .byte (B1_0 q1 p2 q3 (3 : Int32)))), (.int (nar .byte (B1_0 q1 p2 q3 (4 : Int32)))), (.int (0 : Int32))] (.int (0 : Int32)) := Arv.set Ar63 q63 S63 P63 H63 G63 (fits_nar_byte _) W64 4 rfl (Nat.le_of_ble_eq_true rfl)
  have zh64 : n0 ≤ h64.size := Nat.le_trans zh61 (Nat.le_of_eq W64.size.symm)
  have N64 := Fr.snoc X64 N62 lo_b
  obtain ⟨_, _, ⟨T65, L65, k65, n65⟩, -, X65, ⟨Lc65, hQ65, l65, y65, z65⟩, st65⟩ := Jvm.LawKit.callS X64 hx (y := (⟨"com/example/linkshelf/linkshelf/marc/Iso2709NumberPinLaw", "pick", "(JIJI)B"⟩ : MethodName)) hown (mvT hZ (hw _ (List.mem_of_getElem? (i := 1) rfl))) (mvT hZ (hw _ (List.mem_of_getElem? (i := 2) rfl))) (mvT hZ (hw _ (List.mem_of_getElem? (i := 3) rfl))) (mvT hZ (hw _ (List.mem_of_getElem? (i := 4) rfl))) (by decide) (backOf (W := 2) (rm1 l Z a0 hw [] q1 p2 q3 (5 : Int32) h64 n0 zh64) hZ (hw _ (List.mem_of_getElem? (i := 4) rfl)) (hw _ (List.mem_of_getElem? (i := 3) rfl)) (by decide) (by decide)) (g := (mkF m 100 #[.val (.int p0), .val (.long q1), .second, .val (.int p2), .val (.long q3), .second, .val (.int f), .val (.int c'), .val (.ref b), .unset, .unset] [(.int (5 : Int32)), (.long q3), (.int p2), (.long q1), (.int (5 : Int32)), (.ref b)])) rfl (by rw [hml]; rfl) (argsL := [(.long q1), (.int p2), (.long q3), (.int (5 : Int32))]) (rest := [(.int (5 : Int32)), (.ref b)]) (lenOf pd_5 rfl) rfl (by show 2 * 0 + _ ≤ _; exact Nat.le_of_eq rfl) (hb hby at_100) (fun _ _ => ⟨rfl, e64, (by decide : 1 + 0 ≤ _), (by decide : 6 + 0 ≤ _)⟩)
  dsimp only [Pt.U, Pt.locs, Pt.cells, Pt.slots] at X65 l65 y65 z65 st65 hQ65
  subst l65 y65 z65
  obtain ⟨rfl, N65q, hh65⟩ := hQ65
  have N65 := Fr.app N64 N65q
  obtain ⟨cl66, Ar66, q66, S66, P66, H66, G66⟩ := V_b_64
  have hin67 : ¬ ((5 : Int32) < 0 ∨ cl66.slots.size ≤ ((5 : Int32)).toNatClampNeg) := inb_of S66 ⟨by decide, by decide⟩
  obtain ⟨T67, h67, X67, e67, W67, st67⟩ := stB X65 hx hZ hh65 Ar66 (j := (5 : Int32)) hin67 (g := (mkF m 103 #[.val (.int p0), .val (.long q1), .second, .val (.int p2), .val (.long q3), .second, .val (.int f), .val (.int c'), .val (.ref b), .unset, .unset] [(.int (B1_0 q1 p2 q3 (5 : Int32))), (.int (5 : Int32)), (.ref b)])) rfl rfl (hb hby at_103)
  have V_b_67 : Arv Z h67 b k49 .byte (6 : Int32) [(.int (nar .byte (B1_0 q1 p2 q3 (0 : Int32)))), (.int (nar .byte (B1_0 q1 p2 q3 (1 : Int32)))), (.int (nar .byte (B1_0 q1 p2 q3 (2 : Int32)))), (.int (nar .byte (B1_0 q1 p2 q3 (3 : Int32)))), (.int (nar .byte (B1_0 q1 p2 q3 (4 : Int32)))), (.int (nar .byte (B1_0 q1 p2 q3 (5 : Int32))))] (.int (0 : Int32)) := Arv.set Ar66 q66 S66 P66 H66 G66 (fits_nar_byte _) W67 5 rfl (Nat.le_of_ble_eq_true rfl)
  have zh67 : n0 ≤ h67.size := Nat.le_trans zh64 (Nat.le_of_eq W67.size.symm)
  have N67 := Fr.snoc X67 N65 lo_b
  obtain ⟨x0, x1, x2, x3, x4, x5, hx0_, hx1_, hx2_, hx3_, hx4_, hx5_⟩ : ∃ x0 x1 x2 x3 x4 x5, (nar .byte (B1_0 q1 p2 q3 (0 : Int32))) = x0 ∧ (nar .byte (B1_0 q1 p2 q3 (1 : Int32))) = x1 ∧ (nar .byte (B1_0 q1 p2 q3 (2 : Int32))) = x2 ∧ (nar .byte (B1_0 q1 p2 q3 (3 : Int32))) = x3 ∧ (nar .byte (B1_0 q1 p2 q3 (4 : Int32))) = x4 ∧ (nar .byte (B1_0 q1 p2 q3 (5 : Int32))) = x5 := ⟨(nar .byte (B1_0 q1 p2 q3 (0 : Int32))), (nar .byte (B1_0 q1 p2 q3 (1 : Int32))), (nar .byte (B1_0 q1 p2 q3 (2 : Int32))), (nar .byte (B1_0 q1 p2 q3 (3 : Int32))), (nar .byte (B1_0 q1 p2 q3 (4 : Int32))), (nar .byte (B1_0 q1 p2 q3 (5 : Int32))), rfl, rfl, rfl, rfl, rfl, rfl⟩
  rw [hx0_, hx1_, hx2_, hx3_, hx4_, hx5_] at V_b_67
  obtain ⟨_, _, ⟨T68, L68, k68, n68⟩, -, X68, ⟨Lc68, hQ68, l68, y68, z68⟩, st68⟩ := Jvm.LawKit.callS X67 hx (y := (⟨"com/example/linkshelf/linkshelf/marc/Iso2709NumberPinLaw", "reference", "([BII)I"⟩ : MethodName)) hown (mvT hZ (hw _ (List.mem_of_getElem? (i := 7) rfl))) (mvT hZ (hw _ (List.mem_of_getElem? (i := 8) rfl))) (mvT hZ (hw _ (List.mem_of_getElem? (i := 3) rfl))) (mvT hZ (hw _ (List.mem_of_getElem? (i := 9) rfl))) (by decide) (backOf (W := 0) (rm2 l Z a0 hw [] b f c' k49 x0 x1 x2 x3 x4 x5 h67 n0 zh67 V_b_67) hZ (hw _ (List.mem_of_getElem? (i := 9) rfl)) (hw _ (List.mem_of_getElem? (i := 3) rfl)) (by decide) (by decide)) (g := (mkF m 110 #[.val (.int p0), .val (.long q1), .second, .val (.int p2), .val (.long q3), .second, .val (.int f), .val (.int c'), .val (.ref b), .unset, .unset] [(.int c'), (.int f), (.ref b)])) rfl (by rw [hml]; rfl) (argsL := [(.ref b), (.int f), (.int c')]) (rest := []) (lenOf pd_6 rfl) rfl (by show 2 * 0 + _ ≤ _; exact Nat.le_of_eq rfl) (hb hby at_110) (fun _ _ => ⟨rfl, e67, (by decide : 1 + 0 ≤ _), (by decide : 6 + 0 ≤ _)⟩)
  dsimp only [Pt.U, Pt.locs, Pt.cells, Pt.slots] at X68 l68 y68 z68 st68 hQ68
  subst l68 y68 z68
  obtain ⟨rfl, N68q, hh68⟩ := hQ68
  have N68 := Fr.app N67 N68q
  obtain ⟨_, _, ⟨T69, L69, k69, n69⟩, -, X69, ⟨Lc69, hQ69, l69, y69, z69⟩, st69⟩ := Jvm.LawKit.callS X68 hx (y := (⟨"com/example/linkshelf/linkshelf/marc/Iso2709", "number", "([BII)I"⟩ : MethodName)) hown (mvT hZ (hw _ (List.mem_of_getElem? (i := 19) rfl))) (mvT hZ (hw _ (List.mem_of_getElem? (i := 20) rfl))) (mvT hZ (hw _ (List.mem_of_getElem? (i := 21) rfl))) (mvT hZ (hw _ (List.mem_of_getElem? (i := 22) rfl))) (by decide) (backOf (W := 0) (rm6 l Z a0 hw [] b f c' k49 [(.int x0), (.int x1), (.int x2), (.int x3), (.int x4), (.int x5)] (.int (0 : Int32)) (own_at x0 x1 x2 x3 x4 x5) h67 n0 zh67 V_b_67 (own_hat x0 x1 x2 x3 x4 x5) h1 h2 h3) hZ (hw _ (List.mem_of_getElem? (i := 22) rfl)) (hw _ (List.mem_of_getElem? (i := 21) rfl)) (by decide) (by decide)) (g := (mkF m 121 #[.val (.int p0), .val (.long q1), .second, .val (.int p2), .val (.long q3), .second, .val (.int f), .val (.int c'), .val (.ref b), .val (.int (own_ref x0 x1 x2 x3 x4 x5 f c')), .unset] [(.int c'), (.int f), (.ref b)])) rfl (by rw [hml]; rfl) (argsL := [(.ref b), (.int f), (.int c')]) (rest := []) (lenOf pd_6 rfl) rfl (by show 2 * 0 + _ ≤ _; exact Nat.le_of_eq rfl) (hb hby at_121) (fun _ _ => ⟨rfl, hh68, (by decide : 1 + 0 ≤ _), (by decide : 6 + 0 ≤ _)⟩)
  dsimp only [Pt.U, Pt.locs, Pt.cells, Pt.slots] at X69 l69 y69 z69 st69 hQ69
  subst l69 y69 z69
  obtain ⟨rfl, N69q, hh69⟩ := hQ69
  have N69 := Fr.app N68 N69q
  refine own_Go.mono (T' := T69) (f' := (mkF m 138 #[.val (.int p0), .val (.long q1), .second, .val (.int p2), .val (.long q3), .second, .val (.int f), .val (.int c'), .val (.ref b), .val (.int (own_ref x0 x1 x2 x3 x4 x5 f c')), .val (.int (own_num (own_at x0 x1 x2 x3 x4 x5) c'.toInt.toNat f 0))] [(.int (1 : Int32))])) (fun t k => ?_) ?_
  · show Steps p.tables e below (s₁.setTop (mkF m 24 #[.val (.int p0), .val (.long q1), .second, .val (.int p2), .val (.long q3), .second, .val (.int f), .unset, .unset, .unset, .unset] [(.int c')])) _
    refine XS.istore X0.here hx rfl (hb hby at_24) rfl (l' := #[.val (.int p0), .val (.long q1), .second, .val (.int p2), .val (.long q3), .second, .val (.int f), .val (.int c'), .unset, .unset, .unset]) rfl ?_
    show Steps p.tables e below (s₁.setTop (mkF m 26 #[.val (.int p0), .val (.long q1), .second, .val (.int p2), .val (.long q3), .second, .val (.int f), .val (.int c'), .unset, .unset, .unset] [])) _
    refine XS.bipush X0.here hx rfl (hb hby at_26) ?_
    show Steps p.tables e below (s₁.setTop (mkF m 28 #[.val (.int p0), .val (.long q1), .second, .val (.int p2), .val (.long q3), .second, .val (.int f), .val (.int c'), .unset, .unset, .unset] [(.int (6 : Int32))])) _
    refine st49 _ ?_
    show Steps p.tables e below (T49.setTop (mkF m 30 #[.val (.int p0), .val (.long q1), .second, .val (.int p2), .val (.long q3), .second, .val (.int f), .val (.int c'), .unset, .unset, .unset] [(.ref b)])) _
    refine XS.astore X49.here hx rfl (hb hby at_30) rfl rfl (l' := #[.val (.int p0), .val (.long q1), .second, .val (.int p2), .val (.long q3), .second, .val (.int f), .val (.int c'), .val (.ref b), .unset, .unset]) rfl ?_
    show Steps p.tables e below (T49.setTop (mkF m 32 #[.val (.int p0), .val (.long q1), .second, .val (.int p2), .val (.long q3), .second, .val (.int f), .val (.int c'), .val (.ref b), .unset, .unset] [])) _
    refine XS.aload X49.here hx rfl (hb hby at_32) rfl rfl ?_
    show Steps p.tables e below (T49.setTop (mkF m 34 #[.val (.int p0), .val (.long q1), .second, .val (.int p2), .val (.long q3), .second, .val (.int f), .val (.int c'), .val (.ref b), .unset, .unset] [(.ref b)])) _
    refine XS.iconst X49.here hx rfl (hb hby at_34) ?_
    show Steps p.tables e below (T49.setTop (mkF m 35 #[.val (.int p0), .val (.long q1), .second, .val (.int p2), .val (.long q3), .second, .val (.int f), .val (.int c'), .val (.ref b), .unset, .unset] [(.int (0 : Int32)), (.ref b)])) _
    refine XS.lloadN X49.here hx rfl (hb hby at_35) rfl ?_
    show Steps p.tables e below (T49.setTop (mkF m 36 #[.val (.int p0), .val (.long q1), .second, .val (.int p2), .val (.long q3), .second, .val (.int f), .val (.int c'), .val (.ref b), .unset, .unset] [(.long q1), (.int (0 : Int32)), (.ref b)])) _
    refine XS.iloadN X49.here hx rfl (hb hby at_36) rfl ?_
    show Steps p.tables e below (T49.setTop (mkF m 37 #[.val (.int p0), .val (.long q1), .second, .val (.int p2), .val (.long q3), .second, .val (.int f), .val (.int c'), .val (.ref b), .unset, .unset] [(.int p2), (.long q1), (.int (0 : Int32)), (.ref b)])) _
    refine XS.lload X49.here hx rfl (hb hby at_37) rfl ?_
    show Steps p.tables e below (T49.setTop (mkF m 39 #[.val (.int p0), .val (.long q1), .second, .val (.int p2), .val (.long q3), .second, .val (.int f), .val (.int c'), .val (.ref b), .unset, .unset] [(.long q3), (.int p2), (.long q1), (.int (0 : Int32)), (.ref b)])) _
    refine XS.iconst X49.here hx rfl (hb hby at_39) ?_
    show Steps p.tables e below (T49.setTop (mkF m 40 #[.val (.int p0), .val (.long q1), .second, .val (.int p2), .val (.long q3), .second, .val (.int f), .val (.int c'), .val (.ref b), .unset, .unset] [(.int (0 : Int32)), (.long q3), (.int p2), (.long q1), (.int (0 : Int32)), (.ref b)])) _
    refine st50 _ ?_
    show Steps p.tables e below (T50.setTop (mkF m 43 #[.val (.int p0), .val (.long q1), .second, .val (.int p2), .val (.long q3), .second, .val (.int f), .val (.int c'), .val (.ref b), .unset, .unset] [(.int (B1_0 q1 p2 q3 (0 : Int32))), (.int (0 : Int32)), (.ref b)])) _
    refine st52 _ ?_
    show Steps p.tables e below (T52.setTop (mkF m 44 #[.val (.int p0), .val (.long q1), .second, .val (.int p2), .val (.long q3), .second, .val (.int f), .val (.int c'), .val (.ref b), .unset, .unset] [])) _
    refine XS.aload X52.here hx rfl (hb hby at_44) rfl rfl ?_
    show Steps p.tables e below (T52.setTop (mkF m 46 #[.val (.int p0), .val (.long q1), .second, .val (.int p2), .val (.long q3), .second, .val (.int f), .val (.int c'), .val (.ref b), .unset, .unset] [(.ref b)])) _
    refine XS.iconst X52.here hx rfl (hb hby at_46) ?_
    show Steps p.tables e below (T52.setTop (mkF m 47 #[.val (.int p0), .val (.long q1), .second, .val (.int p2), .val (.long q3), .second, .val (.int f), .val (.int c'), .val (.ref b), .unset, .unset] [(.int (1 : Int32)), (.ref b)])) _
    refine XS.lloadN X52.here hx rfl (hb hby at_47) rfl ?_
    show Steps p.tables e below (T52.setTop (mkF m 48 #[.val (.int p0), .val (.long q1), .second, .val (.int p2), .val (.long q3), .second, .val (.int f), .val (.int c'), .val (.ref b), .unset, .unset] [(.long q1), (.int (1 : Int32)), (.ref b)])) _
    refine XS.iloadN X52.here hx rfl (hb hby at_48) rfl ?_
    show Steps p.tables e below (T52.setTop (mkF m 49 #[.val (.int p0), .val (.long q1), .second, .val (.int p2), .val (.long q3), .second, .val (.int f), .val (.int c'), .val (.ref b), .unset, .unset] [(.int p2), (.long q1), (.int (1 : Int32)), (.ref b)])) _
    refine XS.lload X52.here hx rfl (hb hby at_49) rfl ?_
    show Steps p.tables e below (T52.setTop (mkF m 51 #[.val (.int p0), .val (.long q1), .second, .val (.int p2), .val (.long q3), .second, .val (.int f), .val (.int c'), .val (.ref b), .unset, .unset] [(.long q3), (.int p2), (.long q1), (.int (1 : Int32)), (.ref b)])) _
    refine XS.iconst X52.here hx rfl (hb hby at_51) ?_
    show Steps p.tables e below (T52.setTop (mkF m 52 #[.val (.int p0), .val (.long q1), .second, .val (.int p2), .val (.long q3), .second, .val (.int f), .val (.int c'), .val (.ref b), .unset, .unset] [(.int (1 : Int32)), (.long q3), (.int p2), (.long q1), (.int (1 : Int32)), (.ref b)])) _
    refine st53 _ ?_
    show Steps p.tables e below (T53.setTop (mkF m 55 #[.val (.int p0), .val (.long q1), .second, .val (.int p2), .val (.long q3), .second, .val (.int f), .val (.int c'), .val (.ref b), .unset, .unset] [(.int (B1_0 q1 p2 q3 (1 : Int32))), (.int (1 : Int32)), (.ref b)])) _
    refine st55 _ ?_
    show Steps p.tables e below (T55.setTop (mkF m 56 #[.val (.int p0), .val (.long q1), .second, .val (.int p2), .val (.long q3), .second, .val (.int f), .val (.int c'), .val (.ref b), .unset, .unset] [])) _
    refine XS.aload X55.here hx rfl (hb hby at_56) rfl rfl ?_
    show Steps p.tables e below (T55.setTop (mkF m 58 #[.val (.int p0), .val (.long q1), .second, .val (.int p2), .val (.long q3), .second, .val (.int f), .val (.int c'), .val (.ref b), .unset, .unset] [(.ref b)])) _
    refine XS.iconst X55.here hx rfl (hb hby at_58) ?_
    show Steps p.tables e below (T55.setTop (mkF m 59 #[.val (.int p0), .val (.long q1), .second, .val (.int p2), .val (.long q3), .second, .val (.int f), .val (.int c'), .val (.ref b), .unset, .unset] [(.int (2 : Int32)), (.ref b)])) _
    refine XS.lloadN X55.here hx rfl (hb hby at_59) rfl ?_
    show Steps p.tables e below (T55.setTop (mkF m 60 #[.val (.int p0), .val (.long q1), .second, .val (.int p2), .val (.long q3), .second, .val (.int f), .val (.int c'), .val (.ref b), .unset, .unset] [(.long q1), (.int (2 : Int32)), (.ref b)])) _
    refine XS.iloadN X55.here hx rfl (hb hby at_60) rfl ?_
    show Steps p.tables e below (T55.setTop (mkF m 61 #[.val (.int p0), .val (.long q1), .second, .val (.int p2), .val (.long q3), .second, .val (.int f), .val (.int c'), .val (.ref b), .unset, .unset] [(.int p2), (.long q1), (.int (2 : Int32)), (.ref b)])) _
    refine XS.lload X55.here hx rfl (hb hby at_61) rfl ?_
    show Steps p.tables e below (T55.setTop (mkF m 63 #[.val (.int p0), .val (.long q1), .second, .val (.int p2), .val (.long q3), .second, .val (.int f), .val (.int c'), .val (.ref b), .unset, .unset] [(.long q3), (.int p2), (.long q1), (.int (2 : Int32)), (.ref b)])) _
    refine XS.iconst X55.here hx rfl (hb hby at_63) ?_
    show Steps p.tables e below (T55.setTop (mkF m 64 #[.val (.int p0), .val (.long q1), .second, .val (.int p2), .val (.long q3), .second, .val (.int f), .val (.int c'), .val (.ref b), .unset, .unset] [(.int (2 : Int32)), (.long q3), (.int p2), (.long q1), (.int (2 : Int32)), (.ref b)])) _
    refine st56 _ ?_
    show Steps p.tables e below (T56.setTop (mkF m 67 #[.val (.int p0), .val (.long q1), .second, .val (.int p2), .val (.long q3), .second, .val (.int f), .val (.int c'), .val (.ref b), .unset, .unset] [(.int (B1_0 q1 p2 q3 (2 : Int32))), (.int (2 : Int32)), (.ref b)])) _
    refine st58 _ ?_
    show Steps p.tables e below (T58.setTop (mkF m 68 #[.val (.int p0), .val (.long q1), .second, .val (.int p2), .val (.long q3), .second, .val (.int f), .val (.int c'), .val (.ref b), .unset, .unset] [])) _
    refine XS.aload X58.here hx rfl (hb hby at_68) rfl rfl ?_
    show Steps p.tables e below (T58.setTop (mkF m 70 #[.val (.int p0), .val (.long q1), .second, .val (.int p2), .val (.long q3), .second, .val (.int f), .val (.int c'), .val (.ref b), .unset, .unset] [(.ref b)])) _
    refine XS.iconst X58.here hx rfl (hb hby at_70) ?_
    show Steps p.tables e below (T58.setTop (mkF m 71 #[.val (.int p0), .val (.long q1), .second, .val (.int p2), .val (.long q3), .second, .val (.int f), .val (.int c'), .val (.ref b), .unset, .unset] [(.int (3 : Int32)), (.ref b)])) _
    refine XS.lloadN X58.here hx rfl (hb hby at_71) rfl ?_
    show Steps p.tables e below (T58.setTop (mkF m 72 #[.val (.int p0), .val (.long q1), .second, .val (.int p2), .val (.long q3), .second, .val (.int f), .val (.int c'), .val (.ref b), .unset, .unset] [(.long q1), (.int (3 : Int32)), (.ref b)])) _
    refine XS.iloadN X58.here hx rfl (hb hby at_72) rfl ?_
    show Steps p.tables e below (T58.setTop (mkF m 73 #[.val (.int p0), .val (.long q1), .second, .val (.int p2), .val (.long q3), .second, .val (.int f), .val (.int c'), .val (.ref b), .unset, .unset] [(.int p2), (.long q1), (.int (3 : Int32)), (.ref b)])) _
    refine XS.lload X58.here hx rfl (hb hby at_73) rfl ?_
    show Steps p.tables e below (T58.setTop (mkF m 75 #[.val (.int p0), .val (.long q1), .second, .val (.int p2), .val (.long q3), .second, .val (.int f), .val (.int c'), .val (.ref b), .unset, .unset] [(.long q3), (.int p2), (.long q1), (.int (3 : Int32)), (.ref b)])) _
    refine XS.iconst X58.here hx rfl (hb hby at_75) ?_
    show Steps p.tables e below (T58.setTop (mkF m 76 #[.val (.int p0), .val (.long q1), .second, .val (.int p2), .val (.long q3), .second, .val (.int f), .val (.int c'), .val (.ref b), .unset, .unset] [(.int (3 : Int32)), (.long q3), (.int p2), (.long q1), (.int (3 : Int32)), (.ref b)])) _
    refine st59 _ ?_
    show Steps p.tables e below (T59.setTop (mkF m 79 #[.val (.int p0), .val (.long q1), .second, .val (.int p2), .val (.long q3), .second, .val (.int f), .val (.int c'), .val (.ref b), .unset, .unset] [(.int (B1_0 q1 p2 q3 (3 : Int32))), (.int (3 : Int32)), (.ref b)])) _
    refine st61 _ ?_
    show Steps p.tables e below (T61.setTop (mkF m 80 #[.val (.int p0), .val (.long q1), .second, .val (.int p2), .val (.long q3), .second, .val (.int f), .val (.int c'), .val (.ref b), .unset, .unset] [])) _
    refine XS.aload X61.here hx rfl (hb hby at_80) rfl rfl ?_
    show Steps p.tables e below (T61.setTop (mkF m 82 #[.val (.int p0), .val (.long q1), .second, .val (.int p2), .val (.long q3), .second, .val (.int f), .val (.int c'), .val (.ref b), .unset, .unset] [(.ref b)])) _
    refine XS.iconst X61.here hx rfl (hb hby at_82) ?_
    show Steps p.tables e below (T61.setTop (mkF m 83 #[.val (.int p0), .val (.long q1), .second, .val (.int p2), .val (.long q3), .second, .val (.int f), .val (.int c'), .val (.ref b), .unset, .unset] [(.int (4 : Int32)), (.ref b)])) _
    refine XS.lloadN X61.here hx rfl (hb hby at_83) rfl ?_
    show Steps p.tables e below (T61.setTop (mkF m 84 #[.val (.int p0), .val (.long q1), .second, .val (.int p2), .val (.long q3), .second, .val (.int f), .val (.int c'), .val (.ref b), .unset, .unset] [(.long q1), (.int (4 : Int32)), (.ref b)])) _
    refine XS.iloadN X61.here hx rfl (hb hby at_84) rfl ?_
    show Steps p.tables e below (T61.setTop (mkF m 85 #[.val (.int p0), .val (.long q1), .second, .val (.int p2), .val (.long q3), .second, .val (.int f), .val (.int c'), .val (.ref b), .unset, .unset] [(.int p2), (.long q1), (.int (4 : Int32)), (.ref b)])) _
    refine XS.lload X61.here hx rfl (hb hby at_85) rfl ?_
    show Steps p.tables e below (T61.setTop (mkF m 87 #[.val (.int p0), .val (.long q1), .second, .val (.int p2), .val (.long q3), .second, .val (.int f), .val (.int c'), .val (.ref b), .unset, .unset] [(.long q3), (.int p2), (.long q1), (.int (4 : Int32)), (.ref b)])) _
    refine XS.iconst X61.here hx rfl (hb hby at_87) ?_
    show Steps p.tables e below (T61.setTop (mkF m 88 #[.val (.int p0), .val (.long q1), .second, .val (.int p2), .val (.long q3), .second, .val (.int f), .val (.int c'), .val (.ref b), .unset, .unset] [(.int (4 : Int32)), (.long q3), (.int p2), (.long q1), (.int (4 : Int32)), (.ref b)])) _
    refine st62 _ ?_
    show Steps p.tables e below (T62.setTop (mkF m 91 #[.val (.int p0), .val (.long q1), .second, .val (.int p2), .val (.long q3), .second, .val (.int f), .val (.int c'), .val (.ref b), .unset, .unset] [(.int (B1_0 q1 p2 q3 (4 : Int32))), (.int (4 : Int32)), (.ref b)])) _
    refine st64 _ ?_
    show Steps p.tables e below (T64.setTop (mkF m 92 #[.val (.int p0), .val (.long q1), .second, .val (.int p2), .val (.long q3), .second, .val (.int f), .val (.int c'), .val (.ref b), .unset, .unset] [])) _
    refine XS.aload X64.here hx rfl (hb hby at_92) rfl rfl ?_
    show Steps p.tables e below (T64.setTop (mkF m 94 #[.val (.int p0), .val (.long q1), .second, .val (.int p2), .val (.long q3), .second, .val (.int f), .val (.int c'), .val (.ref b), .unset, .unset] [(.ref b)])) _
    refine XS.iconst X64.here hx rfl (hb hby at_94) ?_
    show Steps p.tables e below (T64.setTop (mkF m 95 #[.val (.int p0), .val (.long q1), .second, .val (.int p2), .val (.long q3), .second, .val (.int f), .val (.int c'), .val (.ref b), .unset, .unset] [(.int (5 : Int32)), (.ref b)])) _
    refine XS.lloadN X64.here hx rfl (hb hby at_95) rfl ?_
    show Steps p.tables e below (T64.setTop (mkF m 96 #[.val (.int p0), .val (.long q1), .second, .val (.int p2), .val (.long q3), .second, .val (.int f), .val (.int c'), .val (.ref b), .unset, .unset] [(.long q1), (.int (5 : Int32)), (.ref b)])) _
    refine XS.iloadN X64.here hx rfl (hb hby at_96) rfl ?_
    show Steps p.tables e below (T64.setTop (mkF m 97 #[.val (.int p0), .val (.long q1), .second, .val (.int p2), .val (.long q3), .second, .val (.int f), .val (.int c'), .val (.ref b), .unset, .unset] [(.int p2), (.long q1), (.int (5 : Int32)), (.ref b)])) _
    refine XS.lload X64.here hx rfl (hb hby at_97) rfl ?_
    show Steps p.tables e below (T64.setTop (mkF m 99 #[.val (.int p0), .val (.long q1), .second, .val (.int p2), .val (.long q3), .second, .val (.int f), .val (.int c'), .val (.ref b), .unset, .unset] [(.long q3), (.int p2), (.long q1), (.int (5 : Int32)), (.ref b)])) _
    refine XS.iconst X64.here hx rfl (hb hby at_99) ?_
    show Steps p.tables e below (T64.setTop (mkF m 100 #[.val (.int p0), .val (.long q1), .second, .val (.int p2), .val (.long q3), .second, .val (.int f), .val (.int c'), .val (.ref b), .unset, .unset] [(.int (5 : Int32)), (.long q3), (.int p2), (.long q1), (.int (5 : Int32)), (.ref b)])) _
    refine st65 _ ?_
    show Steps p.tables e below (T65.setTop (mkF m 103 #[.val (.int p0), .val (.long q1), .second, .val (.int p2), .val (.long q3), .second, .val (.int f), .val (.int c'), .val (.ref b), .unset, .unset] [(.int (B1_0 q1 p2 q3 (5 : Int32))), (.int (5 : Int32)), (.ref b)])) _
    refine st67 _ ?_
    show Steps p.tables e below (T67.setTop (mkF m 104 #[.val (.int p0), .val (.long q1), .second, .val (.int p2), .val (.long q3), .second, .val (.int f), .val (.int c'), .val (.ref b), .unset, .unset] [])) _
    refine XS.aload X67.here hx rfl (hb hby at_104) rfl rfl ?_
    show Steps p.tables e below (T67.setTop (mkF m 106 #[.val (.int p0), .val (.long q1), .second, .val (.int p2), .val (.long q3), .second, .val (.int f), .val (.int c'), .val (.ref b), .unset, .unset] [(.ref b)])) _
    refine XS.iload X67.here hx rfl (hb hby at_106) rfl ?_
    show Steps p.tables e below (T67.setTop (mkF m 108 #[.val (.int p0), .val (.long q1), .second, .val (.int p2), .val (.long q3), .second, .val (.int f), .val (.int c'), .val (.ref b), .unset, .unset] [(.int f), (.ref b)])) _
    refine XS.iload X67.here hx rfl (hb hby at_108) rfl ?_
    show Steps p.tables e below (T67.setTop (mkF m 110 #[.val (.int p0), .val (.long q1), .second, .val (.int p2), .val (.long q3), .second, .val (.int f), .val (.int c'), .val (.ref b), .unset, .unset] [(.int c'), (.int f), (.ref b)])) _
    refine st68 _ ?_
    show Steps p.tables e below (T68.setTop (mkF m 113 #[.val (.int p0), .val (.long q1), .second, .val (.int p2), .val (.long q3), .second, .val (.int f), .val (.int c'), .val (.ref b), .unset, .unset] [(.int (own_ref x0 x1 x2 x3 x4 x5 f c'))])) _
    refine XS.istore X68.here hx rfl (hb hby at_113) rfl (l' := #[.val (.int p0), .val (.long q1), .second, .val (.int p2), .val (.long q3), .second, .val (.int f), .val (.int c'), .val (.ref b), .val (.int (own_ref x0 x1 x2 x3 x4 x5 f c')), .unset]) rfl ?_
    show Steps p.tables e below (T68.setTop (mkF m 115 #[.val (.int p0), .val (.long q1), .second, .val (.int p2), .val (.long q3), .second, .val (.int f), .val (.int c'), .val (.ref b), .val (.int (own_ref x0 x1 x2 x3 x4 x5 f c')), .unset] [])) _
    refine XS.aload X68.here hx rfl (hb hby at_115) rfl rfl ?_
    show Steps p.tables e below (T68.setTop (mkF m 117 #[.val (.int p0), .val (.long q1), .second, .val (.int p2), .val (.long q3), .second, .val (.int f), .val (.int c'), .val (.ref b), .val (.int (own_ref x0 x1 x2 x3 x4 x5 f c')), .unset] [(.ref b)])) _
    refine XS.iload X68.here hx rfl (hb hby at_117) rfl ?_
    show Steps p.tables e below (T68.setTop (mkF m 119 #[.val (.int p0), .val (.long q1), .second, .val (.int p2), .val (.long q3), .second, .val (.int f), .val (.int c'), .val (.ref b), .val (.int (own_ref x0 x1 x2 x3 x4 x5 f c')), .unset] [(.int f), (.ref b)])) _
    refine XS.iload X68.here hx rfl (hb hby at_119) rfl ?_
    show Steps p.tables e below (T68.setTop (mkF m 121 #[.val (.int p0), .val (.long q1), .second, .val (.int p2), .val (.long q3), .second, .val (.int f), .val (.int c'), .val (.ref b), .val (.int (own_ref x0 x1 x2 x3 x4 x5 f c')), .unset] [(.int c'), (.int f), (.ref b)])) _
    refine st69 _ ?_
    show Steps p.tables e below (T69.setTop (mkF m 124 #[.val (.int p0), .val (.long q1), .second, .val (.int p2), .val (.long q3), .second, .val (.int f), .val (.int c'), .val (.ref b), .val (.int (own_ref x0 x1 x2 x3 x4 x5 f c')), .unset] [(.int (own_num (own_at x0 x1 x2 x3 x4 x5) c'.toInt.toNat f 0))])) _
    refine XS.istore X69.here hx rfl (hb hby at_124) rfl (l' := #[.val (.int p0), .val (.long q1), .second, .val (.int p2), .val (.long q3), .second, .val (.int f), .val (.int c'), .val (.ref b), .val (.int (own_ref x0 x1 x2 x3 x4 x5 f c')), .val (.int (own_num (own_at x0 x1 x2 x3 x4 x5) c'.toInt.toNat f 0))]) rfl ?_
    show Steps p.tables e below (T69.setTop (mkF m 126 #[.val (.int p0), .val (.long q1), .second, .val (.int p2), .val (.long q3), .second, .val (.int f), .val (.int c'), .val (.ref b), .val (.int (own_ref x0 x1 x2 x3 x4 x5 f c')), .val (.int (own_num (own_at x0 x1 x2 x3 x4 x5) c'.toInt.toNat f 0))] [])) _
    refine XS.iload X69.here hx rfl (hb hby at_126) rfl ?_
    show Steps p.tables e below (T69.setTop (mkF m 128 #[.val (.int p0), .val (.long q1), .second, .val (.int p2), .val (.long q3), .second, .val (.int f), .val (.int c'), .val (.ref b), .val (.int (own_ref x0 x1 x2 x3 x4 x5 f c')), .val (.int (own_num (own_at x0 x1 x2 x3 x4 x5) c'.toInt.toNat f 0))] [(.int (own_num (own_at x0 x1 x2 x3 x4 x5) c'.toInt.toNat f 0))])) _
    refine XS.iload X69.here hx rfl (hb hby at_128) rfl ?_
    show Steps p.tables e below (T69.setTop (mkF m 130 #[.val (.int p0), .val (.long q1), .second, .val (.int p2), .val (.long q3), .second, .val (.int f), .val (.int c'), .val (.ref b), .val (.int (own_ref x0 x1 x2 x3 x4 x5 f c')), .val (.int (own_num (own_at x0 x1 x2 x3 x4 x5) c'.toInt.toNat f 0))] [(.int (own_ref x0 x1 x2 x3 x4 x5 f c')), (.int (own_num (own_at x0 x1 x2 x3 x4 x5) c'.toInt.toNat f 0))])) _
    refine XS.icmpNo X69.here hx rfl (hb hby at_130) rfl (teq (own_law x0 x1 x2 x3 x4 x5 f c' h1 h2 h3)).2 ?_
    show Steps p.tables e below (T69.setTop (mkF m 133 #[.val (.int p0), .val (.long q1), .second, .val (.int p2), .val (.long q3), .second, .val (.int f), .val (.int c'), .val (.ref b), .val (.int (own_ref x0 x1 x2 x3 x4 x5 f c')), .val (.int (own_num (own_at x0 x1 x2 x3 x4 x5) c'.toInt.toNat f 0))] [])) _
    refine XS.iconst X69.here hx rfl (hb hby at_133) ?_
    show Steps p.tables e below (T69.setTop (mkF m 134 #[.val (.int p0), .val (.long q1), .second, .val (.int p2), .val (.long q3), .second, .val (.int f), .val (.int c'), .val (.ref b), .val (.int (own_ref x0 x1 x2 x3 x4 x5 f c')), .val (.int (own_num (own_at x0 x1 x2 x3 x4 x5) c'.toInt.toNat f 0))] [(.int (1 : Int32))])) _
    refine XS.goto X69.here hx rfl (pc0 := 134) (pc' := 138) rfl (hb hby at_134) (by decide) (by decide) ?_
    show Steps p.tables e below (T69.setTop (mkF m 138 #[.val (.int p0), .val (.long q1), .second, .val (.int p2), .val (.long q3), .second, .val (.int f), .val (.int c'), .val (.ref b), .val (.int (own_ref x0 x1 x2 x3 x4 x5 f c')), .val (.int (own_num (own_at x0 x1 x2 x3 x4 x5) c'.toInt.toNat f 0))] [(.int (1 : Int32))])) _
    exact k
  exact own_retN X69 hx (t := .boolean) hret (by simp) hlk (hb hby at_138) (⟨rfl, N69⟩) (by decide) (by decide)
set_option maxRecDepth 65536 in
set_option maxHeartbeats 40000000 in
theorem own_comes {Post : Tables → Env → Array Value → State → Outcome → State → Prop} (hpost : ∀ tb e args s v u, (limb_1_1.after args s (.returned v) u = true ∧ limb_1_2.after args s (.returned v) u = true) → FrameEnd s (.returned v) u (Jvm.fieldLocs frame_1_writes args s ++ Jvm.arrayLocs frame_1_arrays args s ++ Jvm.staticLocs frame_1_statics s) 16 128 → Post tb e args s (.returned v) u) :
    ArmFor flags0 classFile x code maxLocals ret World_1 tables_1 room_1 Calls_1 rest_1 Pre_1 Post := by
  intro l hfl _ _ p e ha hc hk s m args below hf hA hF happ hP
  obtain ⟨hcalls, hrest, hpre⟩ := hP
  obtain ⟨-, -, -, hnamed, -, -, -, hat⟩ := (Spec.applies_iff hf).mp happ
  obtain ⟨hg, hn⟩ := and_e (Cond.before_iff.mp (show (Jvm.Cond.and given_1 narrow_1).before args s = true from hpre))
  obtain ⟨g0, k0⟩ := and_e hg
  obtain ⟨g1, k1⟩ := and_e k0
  obtain ⟨g2, k2⟩ := and_e k1
  obtain ⟨g3, k3⟩ := and_e k2
  obtain ⟨w0, w1, w2, w3, rfl⟩ : ∃ w0 w1 w2 w3 : Value, args = #[w0, w1, w2, w3] := by
    have hs : args.size = 4 := by simpa [Cond.value, given_1] using g0
    obtain ⟨L⟩ := args
    match L, hs with
    | [w0, w1, w2, w3], _ => exact ⟨w0, w1, w2, w3, rfl⟩
  have hw := fun d (hd : d ∈ tables_1) => atoms_spec (ws := Jvm.Cond.code x code maxLocals ret :: tables_1) hat d (List.mem_cons_of_mem _ hd)
  obtain ⟨i0, ei0⟩ := is_v g1
  obtain rfl : w0 = (.int i0) := Option.some.inj ei0
  obtain ⟨i1, ei1⟩ := isL_v g2
  obtain rfl : w1 = (.long i1) := Option.some.inj ei1
  obtain ⟨i2, ei2⟩ := is_v g3
  obtain rfl : w2 = (.int i2) := Option.some.inj ei2
  obtain ⟨i3, ei3⟩ := isL_v k3
  obtain rfl : w3 = (.long i3) := Option.some.inj ei3
  obtain ⟨n, o, h1, h2, h3, vv, L, rfl, ⟨rfl, N⟩, hq⟩ := rm0 l s _ hw tables_1 i0 i1 i2 i3 s.heap s.heap.size (Nat.le_refl _)  p e ha hc hk s m _ below hf ((Spec.applies_iff_loose hf).mp happ).1 ⟨rfl, State.Warmed39.refl s, rfl⟩ trivial
  refine ⟨n, _, h1, h2, h3, hpost _ _ _ _ _ _ ⟨Cond.after_iff.mpr rfl, Cond.after_iff.mpr (eq_i res_at (Term.int_eval (1)) rfl)⟩ ⟨hq.1, hq.2.1, (hq.2.2.sift fun y hy => Or.inr (N y hy)).mono (by decide) (by decide)⟩⟩
theorem main_1_1 : Claimed_1_1 := own_comes fun _ _ _ _ _ _ h hF => ⟨h.1, hF⟩
theorem main_1_2 : Claimed_1_2 := own_comes fun _ _ _ _ _ _ h hF => ⟨h.2, hF⟩
end Jvm.Pilot.@@N@@
namespace Jvm.Pilot.@@N@@
open Jvm Jvm.ClassFile Sem Op Lib Jvm.Free Jvm.Stand Jvm.Pilot.@@N@@.Jvm.D
/-! MADE BY PROGRAM (witnessworld.py) out of the Statement's table words and the real class files: 9 classes; the members and pool entries that the words name. The judged class is class 1, her method 1. -/
namespace start1
open Jvm.ClassFile
def u (s : String) : CpInfo := .utf8 (stringToUtf16 s)
/-- a pool by its gaps: so many unusable entries, then the entry; so many at the end -/
def gap : Nat → List CpInfo → List CpInfo
  | 0, r => r
  | n + 1, r => .unusable :: gap n r
def poolList (es : List (Nat × CpInfo)) (last : Nat) : List CpInfo := es.foldr (fun e r => gap e.1 (e.2 :: r)) (gap last [])
def pool (es : List (Nat × CpInfo)) (last : Nat) : Array CpInfo := ⟨poolList es last⟩
def fileOf (pool : Array CpInfo) (this : Nat) (attrs : Array Attribute := #[]) (ms : Array MethodInfo := #[]) (fl : Nat := 33) (sup : Nat := 0) (ifs : Array Nat := #[]) (fds : Array FieldInfo := #[]) : ClassFile where
  minorVersion := 0
  majorVersion := 65
  constantPool := pool
  accessFlags := fl
  thisClass := this
  superClass := sup
  interfaces := ifs
  fields := fds
  methods := ms
  attributes := attrs
def plain (name : String) (sup : Option ClassId) : Class where
  name := name
  kind := .ordinary
  loader := none
  accessFlags := 33
  super := sup
  interfaces := #[]
  cf := none
  fields := #[]
  methods := #[]
  instanceTypes := #[]
  staticTypes := #[]
  resolved := #[]
  callSites := []
  init := .initialized
  statics := none
  mirror := none

def pool0 : Array CpInfo := pool [(5, u "<init>"), (0, u "()V"), (1, .class_ 10), (1, u "java/lang/Object")] 113

def k0m0 : Method := { name := "<init>", desc := "()V", sig := { parameters := [], returnType := none }, accessFlags := 1, code := none }
/-- java/lang/Object -/
def k0 : Class := { plain "java/lang/Object" none with
  accessFlags := 33
  interfaces := #[]
  cf := some (fileOf pool0 8 #[] #[{ accessFlags := 1, nameIndex := 5, descriptorIndex := 6, attributes := #[] }] 33 0 #[] #[])
  fields := #[]
  methods := #[k0m0]
  instanceTypes := #[]
  staticTypes := #[]
  resolved := Array.replicate 124 none
  statics := none }

def pool1 : Array CpInfo := pool [(2, .class_ 4), (1, u "java/lang/Object"), (0, u "<init>"), (0, u "()V"), (0, .methodref 8 9), (0, .class_ 10), (0, .nameAndType 11 12), (0, u "com/example/linkshelf/linkshelf/marc/Iso2709NumberPinLaw"), (0, u "pick"), (0, u "(JIJI)B"), (0, .methodref 8 14), (0, .nameAndType 15 16), (0, u "reference"), (0, u "([BII)I"), (0, .methodref 18 19), (0, .class_ 20), (0, .nameAndType 21 16), (0, u "com/example/linkshelf/linkshelf/marc/Iso2709"), (0, u "number"), (0, .long 255), (1, .long 10), (1, .integer 100000), (0, .methodref 8 28), (0, .nameAndType 29 30), (0, u "inRange"), (0, u "(III)Z"), (0, .methodref 8 32), (0, .nameAndType 33 34), (0, u "digit"), (0, u "(B)I"), (0, .methodref 8 36), (0, .nameAndType 37 38), (0, u "pow10"), (0, u "(I)I"), (0, .methodref 8 40), (0, .nameAndType 41 42), (0, u "bad"), (0, u "([BIII)Z"), (0, .methodref 8 44), (0, .nameAndType 45 46), (0, u "term"), (0, u "([BIII)I"), (2, u "law"), (0, u "(IJIJ)Z")] 5

def k1m0 : Method := { name := "<init>", desc := "()V", sig := { parameters := [], returnType := none }, accessFlags := 1, code := none }
def k1c1 : Code := { maxStack := 8, maxLocals := 11, code := code, exceptionTable := #[], attributes := #[] }
def k1m1 : Method := { name := "law", desc := "(IJIJ)Z", sig := { parameters := [.int, .long, .int, .long], returnType := some .boolean }, accessFlags := 9, code := some k1c1 }
def k1c2 : Code := { maxStack := 4, maxLocals := 7, code := method_3_code, exceptionTable := #[], attributes := #[] }
def k1m2 : Method := { name := "pick", desc := "(JIJI)B", sig := { parameters := [.long, .int, .long, .int], returnType := some .byte }, accessFlags := 10, code := some k1c2 }
def k1c3 : Code := { maxStack := 2, maxLocals := 1, code := method_4_code, exceptionTable := #[], attributes := #[] }
def k1m3 : Method := { name := "digit", desc := "(B)I", sig := { parameters := [.byte], returnType := some .int }, accessFlags := 10, code := some k1c3 }
def k1c4 : Code := { maxStack := 2, maxLocals := 1, code := method_5_code, exceptionTable := #[], attributes := #[] }
def k1m4 : Method := { name := "pow10", desc := "(I)I", sig := { parameters := [.int], returnType := some .int }, accessFlags := 10, code := some k1c4 }
def k1c5 : Code := { maxStack := 3, maxLocals := 3, code := method_6_code, exceptionTable := #[], attributes := #[] }
def k1m5 : Method := { name := "inRange", desc := "(III)Z", sig := { parameters := [.int, .int, .int], returnType := some .boolean }, accessFlags := 10, code := some k1c5 }
def k1c6 : Code := { maxStack := 3, maxLocals := 4, code := method_7_code, exceptionTable := #[], attributes := #[] }
def k1m6 : Method := { name := "bad", desc := "([BIII)Z", sig := { parameters := [(.array .byte), .int, .int, .int], returnType := some .boolean }, accessFlags := 10, code := some k1c6 }
def k1c7 : Code := { maxStack := 3, maxLocals := 4, code := method_8_code, exceptionTable := #[], attributes := #[] }
def k1m7 : Method := { name := "term", desc := "([BIII)I", sig := { parameters := [(.array .byte), .int, .int, .int], returnType := some .int }, accessFlags := 10, code := some k1c7 }
def k1c8 : Code := { maxStack := 5, maxLocals := 3, code := method_9_code, exceptionTable := #[], attributes := #[] }
def k1m8 : Method := { name := "reference", desc := "([BII)I", sig := { parameters := [(.array .byte), .int, .int], returnType := some .int }, accessFlags := 10, code := some k1c8 }
/-- com/example/linkshelf/linkshelf/marc/Iso2709NumberPinLaw -/
def k1 : Class := { plain "com/example/linkshelf/linkshelf/marc/Iso2709NumberPinLaw" (some 0) with
  accessFlags := 49
  interfaces := #[]
  cf := some (fileOf pool1 8 #[] #[{ accessFlags := 1, nameIndex := 5, descriptorIndex := 6, attributes := #[] }, { accessFlags := 9, nameIndex := 49, descriptorIndex := 50, attributes := #[] }, { accessFlags := 10, nameIndex := 11, descriptorIndex := 12, attributes := #[] }, { accessFlags := 10, nameIndex := 33, descriptorIndex := 34, attributes := #[] }, { accessFlags := 10, nameIndex := 37, descriptorIndex := 38, attributes := #[] }, { accessFlags := 10, nameIndex := 29, descriptorIndex := 30, attributes := #[] }, { accessFlags := 10, nameIndex := 41, descriptorIndex := 42, attributes := #[] }, { accessFlags := 10, nameIndex := 45, descriptorIndex := 46, attributes := #[] }, { accessFlags := 10, nameIndex := 15, descriptorIndex := 16, attributes := #[] }] 49 2 #[] #[])
  fields := #[]
  methods := #[k1m0, k1m1, k1m2, k1m3, k1m4, k1m5, k1m6, k1m7, k1m8]
  instanceTypes := #[]
  staticTypes := #[]
  resolved := Array.replicate 56 none
  statics := none }

def pool2 : Array CpInfo := pool [(1, .class_ 2), (0, u "com/example/linkshelf/linkshelf/marc/Iso2709"), (1, .class_ 6), (1, u "java/lang/Object"), (0, u "<init>"), (0, u "()V"), (2, u "number"), (0, u "([BII)I"), (7, u "LENGTH_DIGITS"), (0, u "I"), (2, u "LEADER_LENGTH"), (1, u "BASE_ADDRESS_AT"), (1, u "ENTRY_LENGTH"), (0, u "TAG_LENGTH"), (1, u "FIELD_LENGTH_DIGITS"), (1, u "FIELD_START_DIGITS"), (0, u "INDICATORS"), (1, u "SHORTEST_RECORD"), (1, u "LONGEST_RECORD"), (1, u "RECORD_TERMINATOR"), (0, u "B"), (1, u "FIELD_TERMINATOR"), (1, u "SUBFIELD_DELIMITER")] 15

def k2m0 : Method := { name := "<init>", desc := "()V", sig := { parameters := [], returnType := none }, accessFlags := 2, code := none }
def k2c1 : Code := { maxStack := 3, maxLocals := 5, code := prog_45_method_11_code, exceptionTable := #[], attributes := #[] }
def k2m1 : Method := { name := "number", desc := "([BII)I", sig := { parameters := [(.array .byte), .int, .int], returnType := some .int }, accessFlags := 8, code := some k2c1 }
/-- com/example/linkshelf/linkshelf/marc/Iso2709 -/
def k2 : Class := { plain "com/example/linkshelf/linkshelf/marc/Iso2709" (some 0) with
  accessFlags := 48
  interfaces := #[]
  cf := some (fileOf pool2 1 #[] #[{ accessFlags := 2, nameIndex := 7, descriptorIndex := 8, attributes := #[] }, { accessFlags := 8, nameIndex := 11, descriptorIndex := 12, attributes := #[] }] 48 4 #[] #[{ accessFlags := 24, nameIndex := 20, descriptorIndex := 21, attributes := #[] }, { accessFlags := 24, nameIndex := 24, descriptorIndex := 21, attributes := #[] }, { accessFlags := 24, nameIndex := 26, descriptorIndex := 21, attributes := #[] }, { accessFlags := 24, nameIndex := 28, descriptorIndex := 21, attributes := #[] }, { accessFlags := 24, nameIndex := 29, descriptorIndex := 21, attributes := #[] }, { accessFlags := 24, nameIndex := 31, descriptorIndex := 21, attributes := #[] }, { accessFlags := 24, nameIndex := 33, descriptorIndex := 21, attributes := #[] }, { accessFlags := 24, nameIndex := 34, descriptorIndex := 21, attributes := #[] }, { accessFlags := 24, nameIndex := 36, descriptorIndex := 21, attributes := #[] }, { accessFlags := 24, nameIndex := 38, descriptorIndex := 21, attributes := #[] }, { accessFlags := 24, nameIndex := 40, descriptorIndex := 41, attributes := #[] }, { accessFlags := 24, nameIndex := 43, descriptorIndex := 41, attributes := #[] }, { accessFlags := 24, nameIndex := 45, descriptorIndex := 41, attributes := #[] }])
  fields := #[{ name := "LENGTH_DIGITS", type := .int, accessFlags := 24, slot := 0, constantValue := 0 }, { name := "LEADER_LENGTH", type := .int, accessFlags := 24, slot := 1, constantValue := 0 }, { name := "BASE_ADDRESS_AT", type := .int, accessFlags := 24, slot := 2, constantValue := 0 }, { name := "ENTRY_LENGTH", type := .int, accessFlags := 24, slot := 3, constantValue := 0 }, { name := "TAG_LENGTH", type := .int, accessFlags := 24, slot := 4, constantValue := 0 }, { name := "FIELD_LENGTH_DIGITS", type := .int, accessFlags := 24, slot := 5, constantValue := 0 }, { name := "FIELD_START_DIGITS", type := .int, accessFlags := 24, slot := 6, constantValue := 0 }, { name := "INDICATORS", type := .int, accessFlags := 24, slot := 7, constantValue := 0 }, { name := "SHORTEST_RECORD", type := .int, accessFlags := 24, slot := 8, constantValue := 0 }, { name := "LONGEST_RECORD", type := .int, accessFlags := 24, slot := 9, constantValue := 0 }, { name := "RECORD_TERMINATOR", type := .byte, accessFlags := 24, slot := 10, constantValue := 0 }, { name := "FIELD_TERMINATOR", type := .byte, accessFlags := 24, slot := 11, constantValue := 0 }, { name := "SUBFIELD_DELIMITER", type := .byte, accessFlags := 24, slot := 12, constantValue := 0 }]
  methods := #[k2m0, k2m1]
  instanceTypes := #[]
  staticTypes := #[.int, .int, .int, .int, .int, .int, .int, .int, .int, .int, .byte, .byte, .byte]
  resolved := Array.replicate 61 none
  statics := none }

def pool3 : Array CpInfo := pool [(1, u "java/lang/Cloneable"), (0, .class_ 1), (0, u "java/lang/Object"), (0, .class_ 3)] 3

/-- java/lang/Cloneable -/
def k3 : Class := { plain "java/lang/Cloneable" (some 0) with
  accessFlags := 1537
  interfaces := #[]
  cf := some (fileOf pool3 2 #[] #[] 1537 4 #[] #[])
  fields := #[]
  methods := #[]
  instanceTypes := #[]
  staticTypes := #[]
  resolved := Array.replicate 8 none
  statics := none }

def pool4 : Array CpInfo := pool [(1, u "java/io/Serializable"), (0, .class_ 1), (0, u "java/lang/Object"), (0, .class_ 3)] 3

/-- java/io/Serializable -/
def k4 : Class := { plain "java/io/Serializable" (some 0) with
  accessFlags := 1537
  interfaces := #[]
  cf := some (fileOf pool4 2 #[] #[] 1537 4 #[] #[])
  fields := #[]
  methods := #[]
  instanceTypes := #[]
  staticTypes := #[]
  resolved := Array.replicate 8 none
  statics := none }

/-- the primitive byte -/
def k5 : Class := { plain "byte" none with kind := .primitive 'B', accessFlags := 0x411 }
/-- [B -/
def k6 : Class := { plain "[B" (some 0) with kind := .array 5 .byte, interfaces := #[3, 4], accessFlags := 1041 }

/-- the primitive int -/
def k7 : Class := { plain "int" none with kind := .primitive 'I', accessFlags := 0x411 }
/-- [I -/
def k8 : Class := { plain "[I" (some 0) with kind := .array 7 .int, interfaces := #[3, 4], accessFlags := 1041 }

def heap : Heap := #[]
def classes : Array Class := #[k0, k1, k2, k3, k4, k5, k6, k7, k8]
def interned : List (Array UInt16 × Addr) := []
def slotsUsed : Nat := 0
def theMethod : MethodId := ⟨1, 1⟩
def args0 : Array Value := #[.int 0, .long 5, .int 3, .long 7]
def aboutOver (below : List Frame) : State where
  vm := { classes := classes, interned := interned.toArray }
  heap := heap
  slotsUsed := slotsUsed
  threads := #[{ frames := .invoking theMethod args0 :: below }]
def below0 : List Frame := [.native { method := ⟨0, 0⟩, args := #[] }]
def about1 : State := aboutOver below0
def p0 : Program := .bare "" "" ""
def e0 : Env := launch0.env 0 0 0
theorem w_frames : about1.frames = Frame.invoking theMethod args0 :: below0 := rfl
set_option maxRecDepth 65536 in
theorem w_args : argsFit about1.vm theMethod args0 = true := by decide +kernel
set_option maxRecDepth 65536 in
theorem w_heap : heapFits about1 = true := by decide +kernel
set_option maxRecDepth 65536 in
theorem w_runnable : about1.curStatus? = some .runnable := by decide +kernel
set_option maxRecDepth 65536 in
theorem w_alone : about1.alone = true := by decide +kernel
set_option maxRecDepth 65536 in
theorem w_named : about1.methodNamed? x = some theMethod := by decide +kernel
set_option maxRecDepth 65536 in
theorem w_hears : about1.hears theMethod below0 = true := by decide +kernel
set_option maxRecDepth 65536 in
theorem w_ripe : about1.ripe theMethod args0 below0 = true := by decide +kernel
theorem w_running : about1.status = .running := rfl
set_option maxRecDepth 65536 in
theorem w_room : about1.hasRoom e0.platform room_1 = true :=
  launch0.hasRoom_least _ room_1 (by decide +kernel) (by decide +kernel) (by decide +kernel) (by decide +kernel) (by decide +kernel) (by decide +kernel)
theorem allAtoms_all (ts : List Jvm.Cond) (a : Array Jvm.Value) (st : Jvm.State) : (allAtoms ts).before a st = ts.all (fun c => c.before a st) := by
  induction ts with
  | nil => rfl
  | cons c t ih =>
    show (Jvm.Cond.and c (allAtoms t)).before a st = _
    rw [Jvm.Cond.before_and, ih, List.all_cons]
def words1 : List Jvm.Cond := Jvm.Cond.code x code maxLocals ret :: tables_1
/-- a 'code' word, met by the world's own term for the bytes: nothing is compared byte by byte -/
theorem code_word {y : MethodName} {bytes : ByteArray} {mx : Nat} {rt : Option FieldType} {a : Array Value} {s : State} {m : MethodId} {meth : Method} {c : Code} (h1 : s.methodNamed? y = some m) (h2 : s.vm.method? m = some meth) (h3 : meth.code = some c) (h4 : c.code = bytes)
    (h5 : (c.maxLocals == mx && c.exceptionTable.isEmpty && decide (c.maxStack ≤ mostOperands) && decide (meth.sig.returnType = rt) && !meth.locks && decide (parseMethodDescriptor y.desc = some meth.sig)) = true) : (Jvm.Cond.code y bytes mx rt).before a s = true := by
  simp only [Bool.and_eq_true, beq_iff_eq, Bool.not_eq_true', decide_eq_true_eq] at h5
  obtain ⟨⟨⟨⟨⟨g1, g2⟩, g3⟩, g4⟩, g5⟩, g6⟩ := h5
  simp [Cond.before, Cond.holds, Cond.value, h1, h2, h3, h4, g1, g2, g3, g4, g5, g6]
def isCode : Jvm.Cond → Bool
  | .code _ _ _ _ => true
  | _ => false
theorem all_split {L : List Jvm.Cond} {P : Jvm.Cond → Bool} (h1 : L.all (fun c => isCode c || P c) = true) (h2 : ∀ c ∈ L.filter isCode, P c = true) : L.all P = true := by
  refine List.all_eq_true.mpr fun c hc => ?_
  have h := List.all_eq_true.mp h1 c hc
  rcases Bool.eq_false_or_eq_true (isCode c) with hi | hi
  · exact h2 c (List.mem_filter.mpr ⟨hc, hi⟩)
  · simpa [hi] using h
set_option maxRecDepth 65536 in
theorem w_c0 : (Jvm.Cond.code x code maxLocals ret).before args0 about1 = true := code_word (m := ⟨1, 1⟩) (meth := k1m1) (c := k1c1) (by decide +kernel) rfl rfl rfl (by decide +kernel)
set_option maxRecDepth 65536 in
theorem w_c1 : (Jvm.Cond.code ({ cls := "com/example/linkshelf/linkshelf/marc/Iso2709NumberPinLaw", name := "pick", desc := "(JIJI)B" } : Jvm.MethodName) method_3_code (7 : Nat) (Option.some Jvm.ClassFile.FieldType.byte)).before args0 about1 = true := code_word (m := ⟨1, 2⟩) (meth := k1m2) (c := k1c2) (by decide +kernel) rfl rfl rfl (by decide +kernel)
set_option maxRecDepth 65536 in
theorem w_c2 : (Jvm.Cond.code ({ cls := "com/example/linkshelf/linkshelf/marc/Iso2709NumberPinLaw", name := "reference", desc := "([BII)I" } : Jvm.MethodName) method_9_code (3 : Nat) (Option.some Jvm.ClassFile.FieldType.int)).before args0 about1 = true := code_word (m := ⟨1, 8⟩) (meth := k1m8) (c := k1c8) (by decide +kernel) rfl rfl rfl (by decide +kernel)
set_option maxRecDepth 65536 in
theorem w_c3 : (Jvm.Cond.code ({ cls := "com/example/linkshelf/linkshelf/marc/Iso2709NumberPinLaw", name := "bad", desc := "([BIII)Z" } : Jvm.MethodName) method_7_code (4 : Nat) (Option.some Jvm.ClassFile.FieldType.boolean)).before args0 about1 = true := code_word (m := ⟨1, 6⟩) (meth := k1m6) (c := k1c6) (by decide +kernel) rfl rfl rfl (by decide +kernel)
set_option maxRecDepth 65536 in
theorem w_c4 : (Jvm.Cond.code ({ cls := "com/example/linkshelf/linkshelf/marc/Iso2709NumberPinLaw", name := "inRange", desc := "(III)Z" } : Jvm.MethodName) method_6_code (3 : Nat) (Option.some Jvm.ClassFile.FieldType.boolean)).before args0 about1 = true := code_word (m := ⟨1, 5⟩) (meth := k1m5) (c := k1c5) (by decide +kernel) rfl rfl rfl (by decide +kernel)
set_option maxRecDepth 65536 in
theorem w_c5 : (Jvm.Cond.code ({ cls := "com/example/linkshelf/linkshelf/marc/Iso2709NumberPinLaw", name := "term", desc := "([BIII)I" } : Jvm.MethodName) method_8_code (4 : Nat) (Option.some Jvm.ClassFile.FieldType.int)).before args0 about1 = true := code_word (m := ⟨1, 7⟩) (meth := k1m7) (c := k1c7) (by decide +kernel) rfl rfl rfl (by decide +kernel)
set_option maxRecDepth 65536 in
theorem w_c6 : (Jvm.Cond.code ({ cls := "com/example/linkshelf/linkshelf/marc/Iso2709", name := "number", desc := "([BII)I" } : Jvm.MethodName) prog_45_method_11_code (5 : Nat) (Option.some Jvm.ClassFile.FieldType.int)).before args0 about1 = true := code_word (m := ⟨2, 1⟩) (meth := k2m1) (c := k2c1) (by decide +kernel) rfl rfl rfl (by decide +kernel)
set_option maxRecDepth 65536 in
theorem w_c7 : (Jvm.Cond.code ({ cls := "com/example/linkshelf/linkshelf/marc/Iso2709NumberPinLaw", name := "digit", desc := "(B)I" } : Jvm.MethodName) method_4_code (1 : Nat) (Option.some Jvm.ClassFile.FieldType.int)).before args0 about1 = true := code_word (m := ⟨1, 3⟩) (meth := k1m3) (c := k1c3) (by decide +kernel) rfl rfl rfl (by decide +kernel)
set_option maxRecDepth 65536 in
theorem w_c8 : (Jvm.Cond.code ({ cls := "com/example/linkshelf/linkshelf/marc/Iso2709NumberPinLaw", name := "pow10", desc := "(I)I" } : Jvm.MethodName) method_5_code (1 : Nat) (Option.some Jvm.ClassFile.FieldType.int)).before args0 about1 = true := code_word (m := ⟨1, 4⟩) (meth := k1m4) (c := k1c4) (by decide +kernel) rfl rfl rfl (by decide +kernel)
def codes1 : List Jvm.Cond := [Jvm.Cond.code x code maxLocals ret, Jvm.Cond.code ({ cls := "com/example/linkshelf/linkshelf/marc/Iso2709NumberPinLaw", name := "pick", desc := "(JIJI)B" } : Jvm.MethodName) method_3_code (7 : Nat) (Option.some Jvm.ClassFile.FieldType.byte), Jvm.Cond.code ({ cls := "com/example/linkshelf/linkshelf/marc/Iso2709NumberPinLaw", name := "reference", desc := "([BII)I" } : Jvm.MethodName) method_9_code (3 : Nat) (Option.some Jvm.ClassFile.FieldType.int), Jvm.Cond.code ({ cls := "com/example/linkshelf/linkshelf/marc/Iso2709NumberPinLaw", name := "bad", desc := "([BIII)Z" } : Jvm.MethodName) method_7_code (4 : Nat) (Option.some Jvm.ClassFile.FieldType.boolean), Jvm.Cond.code ({ cls := "com/example/linkshelf/linkshelf/marc/Iso2709NumberPinLaw", name := "inRange", desc := "(III)Z" } : Jvm.MethodName) method_6_code (3 : Nat) (Option.some Jvm.ClassFile.FieldType.boolean), Jvm.Cond.code ({ cls := "com/example/linkshelf/linkshelf/marc/Iso2709NumberPinLaw", name := "term", desc := "([BIII)I" } : Jvm.MethodName) method_8_code (4 : Nat) (Option.some Jvm.ClassFile.FieldType.int), Jvm.Cond.code ({ cls := "com/example/linkshelf/linkshelf/marc/Iso2709", name := "number", desc := "([BII)I" } : Jvm.MethodName) prog_45_method_11_code (5 : Nat) (Option.some Jvm.ClassFile.FieldType.int), Jvm.Cond.code ({ cls := "com/example/linkshelf/linkshelf/marc/Iso2709NumberPinLaw", name := "digit", desc := "(B)I" } : Jvm.MethodName) method_4_code (1 : Nat) (Option.some Jvm.ClassFile.FieldType.int), Jvm.Cond.code ({ cls := "com/example/linkshelf/linkshelf/marc/Iso2709NumberPinLaw", name := "pow10", desc := "(I)I" } : Jvm.MethodName) method_5_code (1 : Nat) (Option.some Jvm.ClassFile.FieldType.int)]
set_option maxRecDepth 65536 in
theorem codes_eq : words1.filter isCode = codes1 := rfl
theorem w_codes : ∀ c ∈ words1.filter isCode, c.before args0 about1 = true := by
  rw [codes_eq]
  intro c hc
  simp only [codes1, List.mem_cons, List.not_mem_nil, or_false] at hc
  rcases hc with rfl | rfl | rfl | rfl | rfl | rfl | rfl | rfl | rfl
  · exact w_c0
  · exact w_c1
  · exact w_c2
  · exact w_c3
  · exact w_c4
  · exact w_c5
  · exact w_c6
  · exact w_c7
  · exact w_c8
set_option maxRecDepth 65536 in
theorem w_t1 : (words1.take 24).all (fun c => isCode c || c.before args0 about1) = true := by decide +kernel
set_option maxRecDepth 65536 in
theorem w_t2 : (words1.drop 24).all (fun c => isCode c || c.before args0 about1) = true := by decide +kernel
theorem w_tables : (allAtoms (Jvm.Cond.code x code maxLocals ret :: tables_1)).before args0 about1 = true := by
  rw [allAtoms_all]
  show words1.all (fun c => c.before args0 about1) = true
  refine all_split ?_ w_codes
  rw [← List.take_append_drop 24 words1, List.all_append, w_t1, w_t2]
  rfl
set_option maxRecDepth 65536 in
theorem w_case : (Jvm.Cond.and given_1 narrow_1).before args0 about1 = true := by decide +kernel
theorem w_applies : (headSpec (Jvm.Cond.code x code maxLocals ret :: tables_1) room_1).applies x e0.platform about1 = true :=
  (Spec.applies_iff w_frames).mpr ⟨w_running, w_runnable, w_alone, w_named, w_hears, w_ripe, w_room, w_tables⟩
theorem atStart : AtStart classFile x code maxLocals ret World_1 tables_1 room_1 Calls_1 rest_1 Pre_1 launch0 p0 e0 about1 theMethod args0 below0 :=
  ⟨lists_1, trivial, launch0.admits_env _ _ _, launch0.least_env, fairChoices_fair.cas, fairChoices_fair.clock, w_frames, w_args, w_heap, w_applies, trivial, trivial, w_case⟩
end start1
theorem witness_1 : WitnessClaimed_1 := ⟨start1.p0, start1.e0, start1.about1, start1.theMethod, start1.args0, start1.below0, start1.atStart⟩
end Jvm.Pilot.@@N@@
