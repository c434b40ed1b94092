import JvmDerived
import JvmDerived.Pilot.@@N@@Statement
import JvmDerived.Pilot.@@N@@Code
set_option linter.unusedVariables false
set_option linter.unusedSimpArgs false
namespace Jvm.Pilot.@@N@@
open Jvm Jvm.ClassFile Sem Op Lib Jvm.Free Jvm.Stand Jvm.LawKit Jvm.RoadKit Bundle Jvm.Pilot.@@N@@.Jvm.D
/-! the goal of a walk: from this frame the run comes to an end of which K holds -/
def own_Go (p : Program) (e : Env) (below : List Frame) (T : State) (f : JFrame) (K : State → Outcome → Prop) : Prop := ∃ s₂ o, Steps p.tables e below (T.setTop f) s₂ ∧ K s₂ o
theorem own_Go.mono {p : Program} {e : Env} {below : List Frame} {T T' : State} {f f' : JFrame} {K : State → Outcome → Prop} (h : ∀ t, Steps p.tables e below (T'.setTop f') t → Steps p.tables e below (T.setTop f) t) (g : own_Go p e below T' f' K) : own_Go p e below T f K := by
  obtain ⟨a, o, h1, h2⟩ := g; exact ⟨a, o, h _ h1, h2⟩
def own_K (s : State) (below : List Frame) (Qv : Option Value → Heap → List Loc → Prop) (cc ss : Nat) : State → Outcome → Prop := fun s₂ o => s₂.status = .running ∧ Ended s₂ below o ∧ ∃ v L, o = .returned v ∧ Qv v s₂.heap L ∧ FrameEnd s o s₂ L cc ss
theorem own_body {l : Launch} {y : MethodName} {bytes : ByteArray} {maxL : Nat} {ret : Option FieldType} {ws : List Jvm.Cond} {rm : Room} {Z : State} {as' : Array Value} {h0 : Heap} {Qv : Option Value → Heap → List Loc → Prop} {cc ss : Nat} (hpn : plainFor y = true)
    (body : ∀ (p : Program) (e : Env) (s : State) (m : MethodId) (below : List Frame) (meth : Method) (c : Code) (s₁ : State), p.tables.exec = Jvm.exec → c.code = bytes → c.maxLocals = maxL → meth.sig.returnType = ret → meth.locks = false → s.vm.findClass y.cls = some m.cls → meth.name = y.name → Z.Warmed39 s.vm → Stand p l e rm s m as' below meth c s₁ [] 0 0 → s₁.heap = h0 → own_Go p e below s₁ (entryFrame m as' maxL) (own_K s below Qv cc ss)) :
    MetFree l y (head1 (Jvm.Cond.code y bytes maxL ret :: ws) rm) (fun a U => a = as' ∧ Z.Warmed39 U.vm ∧ U.heap = h0) (fun _ _ _ _ _ => True) (fun _ U o U' => ∃ v L, o = .returned v ∧ Qv v U'.heap L ∧ FrameEnd U o U' L cc ss) := by
  refine MetFree.of_bodySF hpn hisR ?_
  intro p e s m args below meth c s₁ Bd hml0 hP hK
  obtain ⟨rfl, hZ, hh⟩ := hP
  exact body p e s m below meth c s₁ Bd.exec Bd.bytes hml0 Bd.returns Bd.notSynchronized (findClass_of_methodNamed Bd.named) (name_of_methodNamed Bd.named Bd.method).1 hZ (Stand.of_body Bd) (by rw [← hh, Bd.state]; rfl)
section Ret
variable {p : Program} {l : Launch} {e : Env} {R : Room} {s : State} {m : MethodId} {args : Array Value} {below : List Frame} {meth : Method} {c : Code} {T : State} {locs : List Loc} {cells slots : Nat} {Qv : Option Value → Heap → List Loc → Prop} {cc ss pc : Nat} {Ls : Array Slot} {rest : List Value}
theorem own_ret (X : Stand p l e R s m args below meth c T locs cells slots) {f : JFrame} {v : Option Value} (hv : meth.sig.returnType = none → v = none) (hlk : meth.locks = false)
    (hst : ∀ fs, (∀ (f : JFrame) (acts : List Action), f.method = m → f.locked = none → f.entered = [] → (doReturn e (T.setTop f) acts v).1 = T.setFrames fs) → Steps p.tables e below (T.setTop f) (T.setFrames fs)) (hq : Qv v T.heap locs) (hc : cells ≤ cc) (hs : slots ≤ ss) :
    own_Go p e below T f (own_K s below Qv cc ss) := by
  obtain ⟨fs, hr, hrun, hended, hW, hsame⟩ := X.leave (v := v) hv hlk
  exact ⟨_, _, hst fs hr, hrun, hended, v, locs, rfl, hq, ⟨_, rfl⟩, hW, hsame.mono hc hs⟩
theorem own_retN (X : Stand p l e R s m args below meth c T locs cells slots) (hx : p.tables.exec = Jvm.exec) {z : Int32} {t : FieldType} (hret : meth.sig.returnType = some t) (ht : t = .boolean ∨ t = .byte ∨ t = .char ∨ t = .short) (hlk : meth.locks = false) (hd : decode c.code pc = .ok (.ireturn, 1))
    (hq : Qv (some (.int (nar t z))) T.heap locs) (hc : cells ≤ cc) (hs : slots ≤ ss) : own_Go p e below T (mkF m pc Ls (.int z :: rest)) (own_K s below Qv cc ss) :=
  own_ret X (fun h => by rw [hret] at h; cases h) hlk (fun fs hr => retN X hx hret ht hd hr) hq hc hs
theorem own_retI (X : Stand p l e R s m args below meth c T locs cells slots) (hx : p.tables.exec = Jvm.exec) {z : Int32} (hret : meth.sig.returnType = some .int) (hlk : meth.locks = false) (hd : decode c.code pc = .ok (.ireturn, 1))
    (hq : Qv (some (.int z)) T.heap locs) (hc : cells ≤ cc) (hs : slots ≤ ss) : own_Go p e below T (mkF m pc Ls (.int z :: rest)) (own_K s below Qv cc ss) :=
  own_ret X (fun h => by rw [hret] at h; cases h) hlk (fun fs hr => retOut X hx hret rfl (Or.inl ⟨rfl, Or.inl rfl, z, rfl⟩) hd hr) hq hc hs
theorem own_retJ (X : Stand p l e R s m args below meth c T locs cells slots) (hx : p.tables.exec = Jvm.exec) {z : Int64} (hret : meth.sig.returnType = some .long) (hlk : meth.locks = false) (hd : decode c.code pc = .ok (.lreturn, 1))
    (hq : Qv (some (.long z)) T.heap locs) (hc : cells ≤ cc) (hs : slots ≤ ss) : own_Go p e below T (mkF m pc Ls (.long z :: rest)) (own_K s below Qv cc ss) :=
  own_ret X (fun h => by rw [hret] at h; cases h) hlk (fun fs hr => retOut X hx hret rfl (Or.inr (Or.inl ⟨rfl, rfl, z, rfl⟩)) hd hr) hq hc hs
theorem own_retA (X : Stand p l e R s m args below meth c T locs cells slots) (hx : p.tables.exec = Jvm.exec) {w : Value} {t : FieldType} (hret : meth.sig.returnType = some t) (hn : narrow t w = w) (ht : t.isReference = true ∧ w.isRef = true) (hlk : meth.locks = false) (hd : decode c.code pc = .ok (.areturn, 1))
    (hq : Qv (some w) T.heap locs) (hc : cells ≤ cc) (hs : slots ≤ ss) : own_Go p e below T (mkF m pc Ls (w :: rest)) (own_K s below Qv cc ss) :=
  own_ret X (fun h => by rw [hret] at h; cases h) hlk (fun fs hr => retOut X hx hret hn (Or.inr (Or.inr (Or.inr (Or.inr ⟨rfl, ht.1, ht.2⟩)))) hd hr) hq hc hs
theorem own_retV (X : Stand p l e R s m args below meth c T locs cells slots) (hx : p.tables.exec = Jvm.exec) (hret : meth.sig.returnType = none) (hlk : meth.locks = false) (hd : decode c.code pc = .ok (.return_, 1))
    (hq : Qv none T.heap locs) (hc : cells ≤ cc) (hs : slots ≤ ss) : own_Go p e below T (mkF m pc Ls []) (own_K s below Qv cc ss) :=
  own_ret X (fun _ => rfl) hlk (fun fs hr => X.returnOut hx hret hd hr) hq hc hs
theorem own_lremM {g : JFrame} {target : State} (X : Stand p l e R s m args below meth c T locs cells slots) (hx : p.tables.exec = Jvm.exec) (hg : g.method = m) {x y : Int64} (hd : decode c.code g.pc = .ok (.lrem, 1)) (hs : g.stack = .long y :: .long x :: rest) (hy : y ≠ 0)
    (hr : Steps p.tables e below (T.setTop { g with pc := g.pc + 1, stack := .long (x % y) :: rest }) target) : Steps p.tables e below (T.setTop g) target := XS.lrem X.here hx hg hd hs hy (by rw [lrem_mod]; exact hr)
end Ret
theorem pd_0 : parseMethodDescriptor "()[Lcom/example/humble_log/humblelog/protocol/ConfigSource;" = some ⟨[], some (.array (.object "com/example/humble_log/humblelog/protocol/ConfigSource"))⟩ := by decide +kernel
theorem pd_1 : parseMethodDescriptor "(B)Lcom/example/humble_log/humblelog/protocol/ConfigSource;" = some ⟨[.byte], some (.object "com/example/humble_log/humblelog/protocol/ConfigSource")⟩ := by decide +kernel
theorem own_ext {h0 h : Heap} (K : Keep h0 h []) : Ext h0 h := ⟨K.1, fun a c q => K.2.1 a c q nin0⟩
def own_src (w0 w1 w2 w3 w4 w5 : Addr) (b : Int32) : Addr := if b = (1 : Int32) then w1 else if b = (2 : Int32) then w2 else if b = (3 : Int32) then w3 else if b = (4 : Int32) then w4 else if b = (5 : Int32) then w5 else w0
theorem own_keyI {Z : State} {args : Array Value} {C n d : String} (h : (Jvm.Cond.exactly (.static C n d) C).value args Z none Z [] = some true) (wi : (Jvm.Cond.initialized C).before args Z = true) (wl : (Jvm.Cond.laysStatic C n d).before args Z = true) :
    ∃ w : Addr, (Term.static C n d).eval args Z none [] Z = some (.ref w) ∧ Sta Z Z.heap C n d (.ref w) ∧ Exa Z Z.heap w C := by
  obtain ⟨w, ev⟩ := exa_v h
  exact ⟨w, ev, Sta.start ev (Or.inr ⟨wi, wl⟩), Exa.start ev h⟩
theorem own_pin {Z : State} {args : Array Value} {t : Term} {a : Addr} {O f d : String} {c : Int32} (ev : t.eval args Z none [] Z = some (.ref a)) (h : (Jvm.Cond.eq (.field t O f d) (.int c)).value args Z none Z [] = some true) : Fld Z Z.heap a O f d (.int c) := by
  have e := fld_at (C := O) (n := f) (dd := d) ev
  refine Fld.start ?_
  cases hv : Z.fieldOf? a O f d with
  | none => rw [hv] at e; simp only [Cond.value, e, Term.int_eval] at h; simp at h
  | some v =>
    rw [hv] at e
    simp only [Cond.value, e, Term.int_eval] at h
    cases v <;> simp at h
    subst h; rfl
theorem own_len {Z : State} {args : Array Value} {t : Term} {a : Addr} {cl : Cell} {ty : FieldType} {n : Int32} (ev : t.eval args Z none [] Z = some (.ref a)) (A : Arr Z Z.heap a cl ty) (h : (Jvm.Cond.eq (.length t) (.int n)).value args Z none Z [] = some true) : cl.slots.size < 2 ^ 31 ∧ cl.slots.size.toInt32 = n := by
  have ha : Z.arrayAt? a = some cl := A.fin (Vm.Alike.refl _)
  by_cases q : cl.slots.size < 2 ^ 31
  · have e := len_f ev ha q
    refine ⟨q, ?_⟩
    simp only [Cond.value, e, Term.int_eval] at h
    simpa using h
  · exfalso
    simp [Cond.value, Term.eval, ev, ha, q] at h
theorem own_elem {Z : State} {args : Array Value} {t u : Term} {a w : Addr} {cl : Cell} {ty : FieldType} {j : Int32} (ev : t.eval args Z none [] Z = some (.ref a)) (A : Arr Z Z.heap a cl ty) (evw : u.eval args Z none [] Z = some (.ref w)) (hn : ¬ j < 0) (h : (Jvm.Cond.eq (.elem t (.int j)) u).value args Z none Z [] = some true) : cl.slots[j.toNatClampNeg]? = some (.ref w) := by
  have ha : Z.arrayAt? a = some cl := A.fin (Vm.Alike.refl _)
  have e := elem_f (a := .int j) ev (Term.int_eval j) ha hn
  cases hv : cl.slots[j.toNatClampNeg]? with
  | none => rw [hv] at e; simp [Cond.value, e] at h
  | some v =>
    rw [hv] at e
    simp only [Cond.value, e, evw] at h
    cases v <;> simp at h
    subst h; rfl
theorem d2_0 : decode prog_23_method_1_code 0 = .ok (.getstatic 22, 3) := by decide +kernel
theorem d2_3 : decode prog_23_method_1_code 3 = .ok (.invokevirtual 26, 3) := by decide +kernel
theorem d2_6 : decode prog_23_method_1_code 6 = .ok (.checkcast 27, 3) := by decide +kernel
theorem d2_9 : decode prog_23_method_1_code 9 = .ok (.areturn, 1) := by decide +kernel
theorem ef_rm2 (m : MethodId)  : entryFrame m #[] 0 = mkF m 0 #[] [] := by first | (simp [entryFrame, mkF, argsToLocals, Value.category]; done) | rfl
def Q2 (Z : State)  (a : Addr) (k : ClassId) (w0 : Addr) (w1 : Addr) (w2 : Addr) (w3 : Addr) (w4 : Addr) (w5 : Addr) (h0 : Heap) (n0 : Nat) (v : Option Value) (h : Heap) (L : List Loc) : Prop := v = some (.ref h0.size) ∧ Fr n0 L ∧ Keep h0 h [] ∧ Arv Z h h0.size k (.object "com/example/humble_log/humblelog/protocol/ConfigSource") (6 : Int32) [(.ref w0), (.ref w1), (.ref w2), (.ref w3), (.ref w4), (.ref w5)] .null
set_option maxRecDepth 65536 in
set_option maxHeartbeats 40000000 in
theorem rm2 (l : Launch) (Z : State) (a0 : Array Value) (hw : ∀ d ∈ tables_1, d.before a0 Z = true) (ws : List Jvm.Cond)  (a : Addr) (k : ClassId) (w0 : Addr) (w1 : Addr) (w2 : Addr) (w3 : Addr) (w4 : Addr) (w5 : Addr) (h0 : Heap) (n0 : Nat) (Z0 : n0 ≤ h0.size) (S : Sta Z h0 "com/example/humble_log/humblelog/protocol/ConfigSource" "$VALUES" "[Lcom/example/humble_log/humblelog/protocol/ConfigSource;" (.ref a)) (V : Arv Z h0 a k (.object "com/example/humble_log/humblelog/protocol/ConfigSource") (6 : Int32) [(.ref w0), (.ref w1), (.ref w2), (.ref w3), (.ref w4), (.ref w5)] .null) (E : Exa Z h0 a "[Lcom/example/humble_log/humblelog/protocol/ConfigSource;") :
    MetFree l (⟨"com/example/humble_log/humblelog/protocol/ConfigSource", "values", "()[Lcom/example/humble_log/humblelog/protocol/ConfigSource;"⟩ : MethodName) (head1 (Jvm.Cond.code (⟨"com/example/humble_log/humblelog/protocol/ConfigSource", "values", "()[Lcom/example/humble_log/humblelog/protocol/ConfigSource;"⟩ : MethodName) prog_23_method_1_code 0 (some (.array (.object "com/example/humble_log/humblelog/protocol/ConfigSource"))) :: ws) ({ frames := 1, cells := 1, slots := 6, locals := 14 } : Room)) (fun a U => a = #[] ∧ Z.Warmed39 U.vm ∧ U.heap = h0) (fun _ _ _ _ _ => True) (fun _ U o U' => ∃ v L, o = .returned v ∧ Q2 Z  a k w0 w1 w2 w3 w4 w5 h0 n0 v U'.heap L ∧ FrameEnd U o U' L 1 6) := by
  refine own_body (Qv := Q2 Z  a k w0 w1 w2 w3 w4 w5 h0 n0) (plainFor_of_name (by first | (simp [plainName, overriddenIn]; done) | decide +kernel)) ?_
  intro p e s m below meth c s₁ hx hby hml hret hlk hown hnm hZ X0 e0
  replace hown : s.vm.findClass "com/example/humble_log/humblelog/protocol/ConfigSource" = some m.cls := hown
  replace hnm : meth.name = "values" := hnm
  have N0 := Fr.nil n0
  refine own_Go.mono (T' := s₁) (f' := (mkF m 0 #[] [])) (fun t k => castTop (ef_rm2 m ) k) ?_
  obtain ⟨T1, X1, e1, st1⟩ := getS2 X0 hx hZ hown (host := "") (Or.inl (hw _ (List.mem_of_getElem? (i := 7) rfl))) Via.refl e0 S (g := (mkF m 0 #[] [])) rfl (hb hby d2_0)
  obtain ⟨T2, h2, X2, e2, E2, V2, Ex2, st2⟩ := cloneH X1 hx hZ hown (hw _ (List.mem_of_getElem? (i := 9) rfl)) (hw _ (List.mem_of_getElem? (i := 10) rfl)) (hw _ (List.mem_of_getElem? (i := 14) rfl)) (hw _ (List.mem_of_getElem? (i := 12) rfl)) (hw _ (List.mem_of_getElem? (i := 13) rfl)) (hw _ (List.mem_of_getElem? (i := 15) rfl)) e1 V.arh E (g := (mkF m 3 #[] [(.ref a)])) rfl (by rw [hml]; rfl) rfl (hb hby d2_3) (by decide) (W := 0) (cap := 6) (by show 2 * 0 + _ ≤ _; exact Nat.le_of_eq rfl) (by decide) (by decide) (by decide) (by decide)
  obtain ⟨T3, X3, e3, st3⟩ := castY X2 hx hZ hown (hw _ (List.mem_of_getElem? (i := 23) rfl)) e2 (Ins.self Ex2) (g := (mkF m 6 #[] [(.ref h0.size)])) rfl rfl (hb hby d2_6)
  refine own_Go.mono (T' := T3) (f' := (mkF m 9 #[] [(.ref h0.size)])) (fun t k => ?_) ?_
  · show Steps p.tables e below (s₁.setTop (mkF m 0 #[] [])) _
    refine st1 _ ?_
    show Steps p.tables e below (T1.setTop (mkF m 3 #[] [(.ref a)])) _
    refine st2 _ ?_
    show Steps p.tables e below (T2.setTop (mkF m 6 #[] [(.ref h0.size)])) _
    refine st3 _ ?_
    show Steps p.tables e below (T3.setTop (mkF m 9 #[] [(.ref h0.size)])) _
    exact k
  exact own_retA X3 hx hret rfl ⟨rfl, rfl⟩ hlk (hb hby d2_9) ((by rw [e3]; exact ⟨rfl, N0, (Keep.refl _ _).ext E2, V2⟩)) (by decide) (by decide)
theorem d1_0 : decode prog_23_method_4_code 0 = .ok (.invokestatic 45, 3) := by decide +kernel
theorem d1_3 : decode prog_23_method_4_code 3 = .ok (.astore_n 1, 1) := by decide +kernel
theorem d1_4 : decode prog_23_method_4_code 4 = .ok (.aload_n 1, 1) := by decide +kernel
theorem d1_5 : decode prog_23_method_4_code 5 = .ok (.arraylength, 1) := by decide +kernel
theorem d1_6 : decode prog_23_method_4_code 6 = .ok (.istore_n 2, 1) := by decide +kernel
theorem d1_7 : decode prog_23_method_4_code 7 = .ok (.iconst 0, 1) := by decide +kernel
theorem d1_8 : decode prog_23_method_4_code 8 = .ok (.istore_n 3, 1) := by decide +kernel
theorem d1_9 : decode prog_23_method_4_code 9 = .ok (.iload_n 3, 1) := by decide +kernel
theorem d1_10 : decode prog_23_method_4_code 10 = .ok (.iload_n 2, 1) := by decide +kernel
theorem d1_11 : decode prog_23_method_4_code 11 = .ok (.if_icmp .ge 26, 3) := by decide +kernel
theorem d1_14 : decode prog_23_method_4_code 14 = .ok (.aload_n 1, 1) := by decide +kernel
theorem d1_15 : decode prog_23_method_4_code 15 = .ok (.iload_n 3, 1) := by decide +kernel
theorem d1_16 : decode prog_23_method_4_code 16 = .ok (.aaload, 1) := by decide +kernel
theorem d1_17 : decode prog_23_method_4_code 17 = .ok (.astore 4, 2) := by decide +kernel
theorem d1_19 : decode prog_23_method_4_code 19 = .ok (.aload 4, 2) := by decide +kernel
theorem d1_21 : decode prog_23_method_4_code 21 = .ok (.getfield 41, 3) := by decide +kernel
theorem d1_24 : decode prog_23_method_4_code 24 = .ok (.iload_n 0, 1) := by decide +kernel
theorem d1_25 : decode prog_23_method_4_code 25 = .ok (.if_icmp .ne 6, 3) := by decide +kernel
theorem d1_28 : decode prog_23_method_4_code 28 = .ok (.aload 4, 2) := by decide +kernel
theorem d1_30 : decode prog_23_method_4_code 30 = .ok (.areturn, 1) := by decide +kernel
theorem d1_31 : decode prog_23_method_4_code 31 = .ok (.iinc 3 1, 3) := by decide +kernel
theorem d1_34 : decode prog_23_method_4_code 34 = .ok (.goto (-25), 3) := by decide +kernel
theorem d1_37 : decode prog_23_method_4_code 37 = .ok (.getstatic 3, 3) := by decide +kernel
theorem d1_40 : decode prog_23_method_4_code 40 = .ok (.areturn, 1) := by decide +kernel
theorem ef_rm1 (m : MethodId) (x0 : Int32) : entryFrame m #[(.int x0)] 5 = mkF m 0 #[.val (.int x0), .unset, .unset, .unset, .unset] [] := by first | (simp [entryFrame, mkF, argsToLocals, Value.category]; done) | rfl
def Q1 (Z : State) (p0 : Int32) (a : Addr) (k : ClassId) (w0 : Addr) (w1 : Addr) (w2 : Addr) (w3 : Addr) (w4 : Addr) (w5 : Addr) (h0 : Heap) (n0 : Nat) (v : Option Value) (h : Heap) (L : List Loc) : Prop := v = some (.ref (own_src w0 w1 w2 w3 w4 w5 p0)) ∧ Fr n0 L ∧ Keep h0 h []
set_option maxRecDepth 65536 in
set_option maxHeartbeats 40000000 in
theorem rm1 (l : Launch) (Z : State) (a0 : Array Value) (hw : ∀ d ∈ tables_1, d.before a0 Z = true) (ws : List Jvm.Cond) (p0 : Int32) (a : Addr) (k : ClassId) (w0 : Addr) (w1 : Addr) (w2 : Addr) (w3 : Addr) (w4 : Addr) (w5 : Addr) (h0 : Heap) (n0 : Nat) (Z0 : n0 ≤ h0.size) (S : Sta Z h0 "com/example/humble_log/humblelog/protocol/ConfigSource" "$VALUES" "[Lcom/example/humble_log/humblelog/protocol/ConfigSource;" (.ref a)) (V : Arv Z h0 a k (.object "com/example/humble_log/humblelog/protocol/ConfigSource") (6 : Int32) [(.ref w0), (.ref w1), (.ref w2), (.ref w3), (.ref w4), (.ref w5)] .null) (E : Exa Z h0 a "[Lcom/example/humble_log/humblelog/protocol/ConfigSource;") (S0_ : Sta Z h0 "com/example/humble_log/humblelog/protocol/ConfigSource" "UNKNOWN" "Lcom/example/humble_log/humblelog/protocol/ConfigSource;" (.ref w0)) (F0_ : Fld Z h0 w0 "com/example/humble_log/humblelog/protocol/ConfigSource" "code" "B" (.int (0 : Int32))) (F1_ : Fld Z h0 w1 "com/example/humble_log/humblelog/protocol/ConfigSource" "code" "B" (.int (1 : Int32))) (F2_ : Fld Z h0 w2 "com/example/humble_log/humblelog/protocol/ConfigSource" "code" "B" (.int (2 : Int32))) (F3_ : Fld Z h0 w3 "com/example/humble_log/humblelog/protocol/ConfigSource" "code" "B" (.int (3 : Int32))) (F4_ : Fld Z h0 w4 "com/example/humble_log/humblelog/protocol/ConfigSource" "code" "B" (.int (4 : Int32))) (F5_ : Fld Z h0 w5 "com/example/humble_log/humblelog/protocol/ConfigSource" "code" "B" (.int (5 : Int32))) :
    MetFree l (⟨"com/example/humble_log/humblelog/protocol/ConfigSource", "forCode", "(B)Lcom/example/humble_log/humblelog/protocol/ConfigSource;"⟩ : MethodName) (head1 (Jvm.Cond.code (⟨"com/example/humble_log/humblelog/protocol/ConfigSource", "forCode", "(B)Lcom/example/humble_log/humblelog/protocol/ConfigSource;"⟩ : MethodName) prog_23_method_4_code 5 (some (.object "com/example/humble_log/humblelog/protocol/ConfigSource")) :: ws) ({ frames := 2, cells := 1, slots := 6, locals := 25 } : Room)) (fun a U => a = #[(.int p0)] ∧ Z.Warmed39 U.vm ∧ U.heap = h0) (fun _ _ _ _ _ => True) (fun _ U o U' => ∃ v L, o = .returned v ∧ Q1 Z p0 a k w0 w1 w2 w3 w4 w5 h0 n0 v U'.heap L ∧ FrameEnd U o U' L 1 6) := by
  refine own_body (Qv := Q1 Z p0 a k w0 w1 w2 w3 w4 w5 h0 n0) (plainFor_of_name (by first | (simp [plainName, overriddenIn]; done) | decide +kernel)) ?_
  intro p e s m below meth c s₁ hx hby hml hret hlk hown hnm hZ X0 e0
  replace hown : s.vm.findClass "com/example/humble_log/humblelog/protocol/ConfigSource" = some m.cls := hown
  replace hnm : meth.name = "forCode" := hnm
  have N0 := Fr.nil n0
  refine own_Go.mono (T' := s₁) (f' := (mkF m 0 #[.val (.int p0), .unset, .unset, .unset, .unset] [])) (fun t k => castTop (ef_rm1 m p0) k) ?_
  obtain ⟨_, _, ⟨T4, L4, k4, n4⟩, -, X4, ⟨Lc4, hQ4, l4, y4, z4⟩, st4⟩ := Jvm.LawKit.callS X0 hx (y := (⟨"com/example/humble_log/humblelog/protocol/ConfigSource", "values", "()[Lcom/example/humble_log/humblelog/protocol/ConfigSource;"⟩ : MethodName)) hown (mvT hZ (hw _ (List.mem_of_getElem? (i := 4) rfl))) (mvT hZ (hw _ (List.mem_of_getElem? (i := 5) rfl))) (mvT hZ (hw _ (List.mem_of_getElem? (i := 2) rfl))) (mvT hZ (hw _ (List.mem_of_getElem? (i := 6) rfl))) (by decide) (backOf (W := 0) (rm2 l Z a0 hw [] a k w0 w1 w2 w3 w4 w5 h0 n0 Z0 S V E) hZ (hw _ (List.mem_of_getElem? (i := 6) rfl)) (hw _ (List.mem_of_getElem? (i := 2) rfl)) (by decide) (by decide)) (g := (mkF m 0 #[.val (.int p0), .unset, .unset, .unset, .unset] [])) rfl (by rw [hml]; rfl) (argsL := []) (rest := []) (lenOf pd_0 rfl) rfl (by show 2 * 0 + _ ≤ _; exact Nat.le_of_eq rfl) (hb hby d1_0) (fun _ _ => ⟨rfl, e0, (by decide : 0 + 1 ≤ _), (by decide : 0 + 6 ≤ _)⟩)
  dsimp only [Pt.U, Pt.locs, Pt.cells, Pt.slots] at X4 l4 y4 z4 st4 hQ4
  subst l4 y4 z4
  obtain ⟨rfl, N4q, K4, V4⟩ := hQ4
  have N4 := Fr.app N0 N4q
  obtain ⟨b, hb_⟩ : ∃ b, b = h0.size := ⟨_, rfl⟩
  refine own_Go.mono (T' := T4) (f' := (mkF m 3 #[.val (.int p0), .unset, .unset, .unset, .unset] [(.ref h0.size)])) (fun t k => ?_) ?_
  · show Steps p.tables e below (s₁.setTop (mkF m 0 #[.val (.int p0), .unset, .unset, .unset, .unset] [])) _
    refine st4 _ ?_
    show Steps p.tables e below (T4.setTop (mkF m 3 #[.val (.int p0), .unset, .unset, .unset, .unset] [(.ref h0.size)])) _
    exact k
  rw [← hb_] at V4 ⊢
  obtain ⟨cl5, Ar5, q5, S5, P5, H5, G5⟩ := V4
  have V_b_6 : Arv Z T4.heap b k (.object "com/example/humble_log/humblelog/protocol/ConfigSource") (6 : Int32) [(.ref w0), (.ref w1), (.ref w2), (.ref w3), (.ref w4), (.ref w5)] .null := ⟨cl5, Ar5, q5, S5, P5, H5, G5⟩
  obtain ⟨cl7, Ar7, q7, S7, P7, H7, G7⟩ := V_b_6
  have hin8 : ¬ ((0 : Int32) < 0 ∨ cl7.slots.size ≤ ((0 : Int32)).toNatClampNeg) := inb_of S7 ⟨by decide, by decide⟩
  have hat8 : cl7.slots[((0 : Int32)).toNatClampNeg]? = some (.ref w0) := H7.at hin8 rfl
  have V_b_8 : Arv Z T4.heap b k (.object "com/example/humble_log/humblelog/protocol/ConfigSource") (6 : Int32) [(.ref w0), (.ref w1), (.ref w2), (.ref w3), (.ref w4), (.ref w5)] .null := ⟨cl7, Ar7, q7, S7, P7, H7, G7⟩
  obtain ⟨T9, X9, e9, st9⟩ := getF X4 hx hZ hown (host := "") (Or.inl (hw _ (List.mem_of_getElem? (i := 25) rfl))) Via.refl rfl (F0_.keep K4 nin0) (g := (mkF m 21 #[.val (.int p0), .val (.ref b), .val (.int (6 : Int32)), .val (.int (0 : Int32)), .val (.ref w0)] [(.ref w0)])) rfl rfl (hb hby d1_21)
  refine own_Go.mono (T' := T9) (f' := (mkF m 25 #[.val (.int p0), .val (.ref b), .val (.int (6 : Int32)), .val (.int (0 : Int32)), .val (.ref w0)] [(.int p0), (.int (0 : Int32))])) (fun t k => ?_) ?_
  · show Steps p.tables e below (T4.setTop (mkF m 3 #[.val (.int p0), .unset, .unset, .unset, .unset] [(.ref b)])) _
    refine XS.astoreN X4.here hx rfl (hb hby d1_3) rfl rfl (l' := #[.val (.int p0), .val (.ref b), .unset, .unset, .unset]) rfl ?_
    show Steps p.tables e below (T4.setTop (mkF m 4 #[.val (.int p0), .val (.ref b), .unset, .unset, .unset] [])) _
    refine XS.aloadN X4.here hx rfl (hb hby d1_4) rfl rfl ?_
    show Steps p.tables e below (T4.setTop (mkF m 5 #[.val (.int p0), .val (.ref b), .unset, .unset, .unset] [(.ref b)])) _
    refine X4.arraylength hx Ar5.1 (State.isArrayOf_alike hZ.alike Ar5.2.1) (g := (mkF m 5 #[.val (.int p0), .val (.ref b), .unset, .unset, .unset] [(.ref b)])) rfl rfl (hb hby d1_5) _ ?_
    rw [len_of S5 P5]
    show Steps p.tables e below (T4.setTop (mkF m 6 #[.val (.int p0), .val (.ref b), .unset, .unset, .unset] [(.int (6 : Int32))])) _
    refine XS.istoreN X4.here hx rfl (hb hby d1_6) rfl (l' := #[.val (.int p0), .val (.ref b), .val (.int (6 : Int32)), .unset, .unset]) rfl ?_
    show Steps p.tables e below (T4.setTop (mkF m 7 #[.val (.int p0), .val (.ref b), .val (.int (6 : Int32)), .unset, .unset] [])) _
    refine XS.iconst X4.here hx rfl (hb hby d1_7) ?_
    show Steps p.tables e below (T4.setTop (mkF m 8 #[.val (.int p0), .val (.ref b), .val (.int (6 : Int32)), .unset, .unset] [(.int (0 : Int32))])) _
    refine XS.istoreN X4.here hx rfl (hb hby d1_8) rfl (l' := #[.val (.int p0), .val (.ref b), .val (.int (6 : Int32)), .val (.int (0 : Int32)), .unset]) rfl ?_
    show Steps p.tables e below (T4.setTop (mkF m 9 #[.val (.int p0), .val (.ref b), .val (.int (6 : Int32)), .val (.int (0 : Int32)), .unset] [])) _
    refine XS.iloadN X4.here hx rfl (hb hby d1_9) rfl ?_
    show Steps p.tables e below (T4.setTop (mkF m 10 #[.val (.int p0), .val (.ref b), .val (.int (6 : Int32)), .val (.int (0 : Int32)), .unset] [(.int (0 : Int32))])) _
    refine XS.iloadN X4.here hx rfl (hb hby d1_10) rfl ?_
    show Steps p.tables e below (T4.setTop (mkF m 11 #[.val (.int p0), .val (.ref b), .val (.int (6 : Int32)), .val (.int (0 : Int32)), .unset] [(.int (6 : Int32)), (.int (0 : Int32))])) _
    refine XS.icmpNo X4.here hx rfl (hb hby d1_11) rfl (tlt (by decide)).2.1 ?_
    show Steps p.tables e below (T4.setTop (mkF m 14 #[.val (.int p0), .val (.ref b), .val (.int (6 : Int32)), .val (.int (0 : Int32)), .unset] [])) _
    refine XS.aloadN X4.here hx rfl (hb hby d1_14) rfl rfl ?_
    show Steps p.tables e below (T4.setTop (mkF m 15 #[.val (.int p0), .val (.ref b), .val (.int (6 : Int32)), .val (.int (0 : Int32)), .unset] [(.ref b)])) _
    refine XS.iloadN X4.here hx rfl (hb hby d1_15) rfl ?_
    show Steps p.tables e below (T4.setTop (mkF m 16 #[.val (.int p0), .val (.ref b), .val (.int (6 : Int32)), .val (.int (0 : Int32)), .unset] [(.int (0 : Int32)), (.ref b)])) _
    refine X4.aaload hx (j := (0 : Int32)) (v := (.ref w0)) Ar7.1 (State.isArrayOf_alike hZ.alike Ar7.2.1) rfl Ar7.2.2 hin8 hat8 (g := (mkF m 16 #[.val (.int p0), .val (.ref b), .val (.int (6 : Int32)), .val (.int (0 : Int32)), .unset] [(.int (0 : Int32)), (.ref b)])) rfl rfl (hb hby d1_16) _ ?_
    show Steps p.tables e below (T4.setTop (mkF m 17 #[.val (.int p0), .val (.ref b), .val (.int (6 : Int32)), .val (.int (0 : Int32)), .unset] [(.ref w0)])) _
    refine XS.astore X4.here hx rfl (hb hby d1_17) rfl rfl (l' := #[.val (.int p0), .val (.ref b), .val (.int (6 : Int32)), .val (.int (0 : Int32)), .val (.ref w0)]) rfl ?_
    show Steps p.tables e below (T4.setTop (mkF m 19 #[.val (.int p0), .val (.ref b), .val (.int (6 : Int32)), .val (.int (0 : Int32)), .val (.ref w0)] [])) _
    refine XS.aload X4.here hx rfl (hb hby d1_19) rfl rfl ?_
    show Steps p.tables e below (T4.setTop (mkF m 21 #[.val (.int p0), .val (.ref b), .val (.int (6 : Int32)), .val (.int (0 : Int32)), .val (.ref w0)] [(.ref w0)])) _
    refine st9 _ ?_
    show Steps p.tables e below (T9.setTop (mkF m 24 #[.val (.int p0), .val (.ref b), .val (.int (6 : Int32)), .val (.int (0 : Int32)), .val (.ref w0)] [(.int (0 : Int32))])) _
    refine XS.iloadN X9.here hx rfl (hb hby d1_24) rfl ?_
    show Steps p.tables e below (T9.setTop (mkF m 25 #[.val (.int p0), .val (.ref b), .val (.int (6 : Int32)), .val (.int (0 : Int32)), .val (.ref w0)] [(.int p0), (.int (0 : Int32))])) _
    exact k
  by_cases c25_10 : (0 : Int32) = p0
  · refine own_Go.mono (T' := T9) (f' := (mkF m 30 #[.val (.int p0), .val (.ref b), .val (.int (6 : Int32)), .val (.int (0 : Int32)), .val (.ref w0)] [(.ref w0)])) (fun t k => ?_) ?_
    · show Steps p.tables e below (T9.setTop (mkF m 25 #[.val (.int p0), .val (.ref b), .val (.int (6 : Int32)), .val (.int (0 : Int32)), .val (.ref w0)] [(.int p0), (.int (0 : Int32))])) _
      refine XS.icmpNo X9.here hx rfl (hb hby d1_25) rfl (teq c25_10).2 ?_
      show Steps p.tables e below (T9.setTop (mkF m 28 #[.val (.int p0), .val (.ref b), .val (.int (6 : Int32)), .val (.int (0 : Int32)), .val (.ref w0)] [])) _
      refine XS.aload X9.here hx rfl (hb hby d1_28) rfl rfl ?_
      show Steps p.tables e below (T9.setTop (mkF m 30 #[.val (.int p0), .val (.ref b), .val (.int (6 : Int32)), .val (.int (0 : Int32)), .val (.ref w0)] [(.ref w0)])) _
      exact k
    exact own_retA X9 hx hret rfl ⟨rfl, rfl⟩ hlk (hb hby d1_30) (⟨congrArg (fun z => some (Value.ref z)) (by rw [← c25_10]; rfl), N4, (by rw [e9]; exact K4)⟩) (by decide) (by decide)
  · obtain ⟨cl11, Ar11, q11, S11, P11, H11, G11⟩ := V_b_8
    have hin12 : ¬ ((1 : Int32) < 0 ∨ cl11.slots.size ≤ ((1 : Int32)).toNatClampNeg) := inb_of S11 ⟨by decide, by decide⟩
    have hat12 : cl11.slots[((1 : Int32)).toNatClampNeg]? = some (.ref w1) := H11.at hin12 rfl
    have V_b_12 : Arv Z T4.heap b k (.object "com/example/humble_log/humblelog/protocol/ConfigSource") (6 : Int32) [(.ref w0), (.ref w1), (.ref w2), (.ref w3), (.ref w4), (.ref w5)] .null := ⟨cl11, Ar11, q11, S11, P11, H11, G11⟩
    obtain ⟨T13, X13, e13, st13⟩ := getF X9 hx hZ hown (host := "") (Or.inl (hw _ (List.mem_of_getElem? (i := 25) rfl))) Via.refl e9 (F1_.keep K4 nin0) (g := (mkF m 21 #[.val (.int p0), .val (.ref b), .val (.int (6 : Int32)), .val (.int (1 : Int32)), .val (.ref w1)] [(.ref w1)])) rfl rfl (hb hby d1_21)
    refine own_Go.mono (T' := T13) (f' := (mkF m 25 #[.val (.int p0), .val (.ref b), .val (.int (6 : Int32)), .val (.int (1 : Int32)), .val (.ref w1)] [(.int p0), (.int (1 : Int32))])) (fun t k => ?_) ?_
    · show Steps p.tables e below (T9.setTop (mkF m 25 #[.val (.int p0), .val (.ref b), .val (.int (6 : Int32)), .val (.int (0 : Int32)), .val (.ref w0)] [(.int p0), (.int (0 : Int32))])) _
      refine XS.icmpYes X9.here hx rfl (pc0 := 25) (pc' := 31) rfl (hb hby d1_25) rfl (feq c25_10).2 (by decide) (by decide) ?_
      show Steps p.tables e below (T9.setTop (mkF m 31 #[.val (.int p0), .val (.ref b), .val (.int (6 : Int32)), .val (.int (0 : Int32)), .val (.ref w0)] [])) _
      refine XS.iinc X9.here hx rfl (hb hby d1_31) rfl (l' := #[.val (.int p0), .val (.ref b), .val (.int (6 : Int32)), .val (.int (1 : Int32)), .val (.ref w0)]) rfl ?_
      show Steps p.tables e below (T9.setTop (mkF m 34 #[.val (.int p0), .val (.ref b), .val (.int (6 : Int32)), .val (.int (1 : Int32)), .val (.ref w0)] [])) _
      refine XS.goto X9.here hx rfl (pc0 := 34) (pc' := 9) rfl (hb hby d1_34) (by decide) (by decide) ?_
      show Steps p.tables e below (T9.setTop (mkF m 9 #[.val (.int p0), .val (.ref b), .val (.int (6 : Int32)), .val (.int (1 : Int32)), .val (.ref w0)] [])) _
      refine XS.iloadN X9.here hx rfl (hb hby d1_9) rfl ?_
      show Steps p.tables e below (T9.setTop (mkF m 10 #[.val (.int p0), .val (.ref b), .val (.int (6 : Int32)), .val (.int (1 : Int32)), .val (.ref w0)] [(.int (1 : Int32))])) _
      refine XS.iloadN X9.here hx rfl (hb hby d1_10) rfl ?_
      show Steps p.tables e below (T9.setTop (mkF m 11 #[.val (.int p0), .val (.ref b), .val (.int (6 : Int32)), .val (.int (1 : Int32)), .val (.ref w0)] [(.int (6 : Int32)), (.int (1 : Int32))])) _
      refine XS.icmpNo X9.here hx rfl (hb hby d1_11) rfl (tlt (by decide)).2.1 ?_
      show Steps p.tables e below (T9.setTop (mkF m 14 #[.val (.int p0), .val (.ref b), .val (.int (6 : Int32)), .val (.int (1 : Int32)), .val (.ref w0)] [])) _
      refine XS.aloadN X9.here hx rfl (hb hby d1_14) rfl rfl ?_
      show Steps p.tables e below (T9.setTop (mkF m 15 #[.val (.int p0), .val (.ref b), .val (.int (6 : Int32)), .val (.int (1 : Int32)), .val (.ref w0)] [(.ref b)])) _
      refine XS.iloadN X9.here hx rfl (hb hby d1_15) rfl ?_
      show Steps p.tables e below (T9.setTop (mkF m 16 #[.val (.int p0), .val (.ref b), .val (.int (6 : Int32)), .val (.int (1 : Int32)), .val (.ref w0)] [(.int (1 : Int32)), (.ref b)])) _
      refine X9.aaload hx (j := (1 : Int32)) (v := (.ref w1)) (by rw [e9]; exact Ar11.1) (State.isArrayOf_alike hZ.alike Ar11.2.1) rfl Ar11.2.2 hin12 hat12 (g := (mkF m 16 #[.val (.int p0), .val (.ref b), .val (.int (6 : Int32)), .val (.int (1 : Int32)), .val (.ref w0)] [(.int (1 : Int32)), (.ref b)])) rfl rfl (hb hby d1_16) _ ?_
      show Steps p.tables e below (T9.setTop (mkF m 17 #[.val (.int p0), .val (.ref b), .val (.int (6 : Int32)), .val (.int (1 : Int32)), .val (.ref w0)] [(.ref w1)])) _
      refine XS.astore X9.here hx rfl (hb hby d1_17) rfl rfl (l' := #[.val (.int p0), .val (.ref b), .val (.int (6 : Int32)), .val (.int (1 : Int32)), .val (.ref w1)]) rfl ?_
      show Steps p.tables e below (T9.setTop (mkF m 19 #[.val (.int p0), .val (.ref b), .val (.int (6 : Int32)), .val (.int (1 : Int32)), .val (.ref w1)] [])) _
      refine XS.aload X9.here hx rfl (hb hby d1_19) rfl rfl ?_
      show Steps p.tables e below (T9.setTop (mkF m 21 #[.val (.int p0), .val (.ref b), .val (.int (6 : Int32)), .val (.int (1 : Int32)), .val (.ref w1)] [(.ref w1)])) _
      refine st13 _ ?_
      show Steps p.tables e below (T13.setTop (mkF m 24 #[.val (.int p0), .val (.ref b), .val (.int (6 : Int32)), .val (.int (1 : Int32)), .val (.ref w1)] [(.int (1 : Int32))])) _
      refine XS.iloadN X13.here hx rfl (hb hby d1_24) rfl ?_
      show Steps p.tables e below (T13.setTop (mkF m 25 #[.val (.int p0), .val (.ref b), .val (.int (6 : Int32)), .val (.int (1 : Int32)), .val (.ref w1)] [(.int p0), (.int (1 : Int32))])) _
      exact k
    by_cases c25_14 : (1 : Int32) = p0
    · refine own_Go.mono (T' := T13) (f' := (mkF m 30 #[.val (.int p0), .val (.ref b), .val (.int (6 : Int32)), .val (.int (1 : Int32)), .val (.ref w1)] [(.ref w1)])) (fun t k => ?_) ?_
      · show Steps p.tables e below (T13.setTop (mkF m 25 #[.val (.int p0), .val (.ref b), .val (.int (6 : Int32)), .val (.int (1 : Int32)), .val (.ref w1)] [(.int p0), (.int (1 : Int32))])) _
        refine XS.icmpNo X13.here hx rfl (hb hby d1_25) rfl (teq c25_14).2 ?_
        show Steps p.tables e below (T13.setTop (mkF m 28 #[.val (.int p0), .val (.ref b), .val (.int (6 : Int32)), .val (.int (1 : Int32)), .val (.ref w1)] [])) _
        refine XS.aload X13.here hx rfl (hb hby d1_28) rfl rfl ?_
        show Steps p.tables e below (T13.setTop (mkF m 30 #[.val (.int p0), .val (.ref b), .val (.int (6 : Int32)), .val (.int (1 : Int32)), .val (.ref w1)] [(.ref w1)])) _
        exact k
      exact own_retA X13 hx hret rfl ⟨rfl, rfl⟩ hlk (hb hby d1_30) (⟨congrArg (fun z => some (Value.ref z)) (by rw [← c25_14]; rfl), N4, (by rw [e13]; exact K4)⟩) (by decide) (by decide)
    · obtain ⟨cl15, Ar15, q15, S15, P15, H15, G15⟩ := V_b_12
      have hin16 : ¬ ((2 : Int32) < 0 ∨ cl15.slots.size ≤ ((2 : Int32)).toNatClampNeg) := inb_of S15 ⟨by decide, by decide⟩
      have hat16 : cl15.slots[((2 : Int32)).toNatClampNeg]? = some (.ref w2) := H15.at hin16 rfl
      have V_b_16 : Arv Z T4.heap b k (.object "com/example/humble_log/humblelog/protocol/ConfigSource") (6 : Int32) [(.ref w0), (.ref w1), (.ref w2), (.ref w3), (.ref w4), (.ref w5)] .null := ⟨cl15, Ar15, q15, S15, P15, H15, G15⟩
      obtain ⟨T17, X17, e17, st17⟩ := getF X13 hx hZ hown (host := "") (Or.inl (hw _ (List.mem_of_getElem? (i := 25) rfl))) Via.refl e13 (F2_.keep K4 nin0) (g := (mkF m 21 #[.val (.int p0), .val (.ref b), .val (.int (6 : Int32)), .val (.int (2 : Int32)), .val (.ref w2)] [(.ref w2)])) rfl rfl (hb hby d1_21)
      refine own_Go.mono (T' := T17) (f' := (mkF m 25 #[.val (.int p0), .val (.ref b), .val (.int (6 : Int32)), .val (.int (2 : Int32)), .val (.ref w2)] [(.int p0), (.int (2 : Int32))])) (fun t k => ?_) ?_
      · show Steps p.tables e below (T13.setTop (mkF m 25 #[.val (.int p0), .val (.ref b), .val (.int (6 : Int32)), .val (.int (1 : Int32)), .val (.ref w1)] [(.int p0), (.int (1 : Int32))])) _
        refine XS.icmpYes X13.here hx rfl (pc0 := 25) (pc' := 31) rfl (hb hby d1_25) rfl (feq c25_14).2 (by decide) (by decide) ?_
        show Steps p.tables e below (T13.setTop (mkF m 31 #[.val (.int p0), .val (.ref b), .val (.int (6 : Int32)), .val (.int (1 : Int32)), .val (.ref w1)] [])) _
        refine XS.iinc X13.here hx rfl (hb hby d1_31) rfl (l' := #[.val (.int p0), .val (.ref b), .val (.int (6 : Int32)), .val (.int (2 : Int32)), .val (.ref w1)]) rfl ?_
        show Steps p.tables e below (T13.setTop (mkF m 34 #[.val (.int p0), .val (.ref b), .val (.int (6 : Int32)), .val (.int (2 : Int32)), .val (.ref w1)] [])) _
        refine XS.goto X13.here hx rfl (pc0 := 34) (pc' := 9) rfl (hb hby d1_34) (by decide) (by decide) ?_
        show Steps p.tables e below (T13.setTop (mkF m 9 #[.val (.int p0), .val (.ref b), .val (.int (6 : Int32)), .val (.int (2 : Int32)), .val (.ref w1)] [])) _
        refine XS.iloadN X13.here hx rfl (hb hby d1_9) rfl ?_
        show Steps p.tables e below (T13.setTop (mkF m 10 #[.val (.int p0), .val (.ref b), .val (.int (6 : Int32)), .val (.int (2 : Int32)), .val (.ref w1)] [(.int (2 : Int32))])) _
        refine XS.iloadN X13.here hx rfl (hb hby d1_10) rfl ?_
        show Steps p.tables e below (T13.setTop (mkF m 11 #[.val (.int p0), .val (.ref b), .val (.int (6 : Int32)), .val (.int (2 : Int32)), .val (.ref w1)] [(.int (6 : Int32)), (.int (2 : Int32))])) _
        refine XS.icmpNo X13.here hx rfl (hb hby d1_11) rfl (tlt (by decide)).2.1 ?_
        show Steps p.tables e below (T13.setTop (mkF m 14 #[.val (.int p0), .val (.ref b), .val (.int (6 : Int32)), .val (.int (2 : Int32)), .val (.ref w1)] [])) _
        refine XS.aloadN X13.here hx rfl (hb hby d1_14) rfl rfl ?_
        show Steps p.tables e below (T13.setTop (mkF m 15 #[.val (.int p0), .val (.ref b), .val (.int (6 : Int32)), .val (.int (2 : Int32)), .val (.ref w1)] [(.ref b)])) _
        refine XS.iloadN X13.here hx rfl (hb hby d1_15) rfl ?_
        show Steps p.tables e below (T13.setTop (mkF m 16 #[.val (.int p0), .val (.ref b), .val (.int (6 : Int32)), .val (.int (2 : Int32)), .val (.ref w1)] [(.int (2 : Int32)), (.ref b)])) _
        refine X13.aaload hx (j := (2 : Int32)) (v := (.ref w2)) (by rw [e13]; exact Ar15.1) (State.isArrayOf_alike hZ.alike Ar15.2.1) rfl Ar15.2.2 hin16 hat16 (g := (mkF m 16 #[.val (.int p0), .val (.ref b), .val (.int (6 : Int32)), .val (.int (2 : Int32)), .val (.ref w1)] [(.int (2 : Int32)), (.ref b)])) rfl rfl (hb hby d1_16) _ ?_
        show Steps p.tables e below (T13.setTop (mkF m 17 #[.val (.int p0), .val (.ref b), .val (.int (6 : Int32)), .val (.int (2 : Int32)), .val (.ref w1)] [(.ref w2)])) _
        refine XS.astore X13.here hx rfl (hb hby d1_17) rfl rfl (l' := #[.val (.int p0), .val (.ref b), .val (.int (6 : Int32)), .val (.int (2 : Int32)), .val (.ref w2)]) rfl ?_
        show Steps p.tables e below (T13.setTop (mkF m 19 #[.val (.int p0), .val (.ref b), .val (.int (6 : Int32)), .val (.int (2 : Int32)), .val (.ref w2)] [])) _
        refine XS.aload X13.here hx rfl (hb hby d1_19) rfl rfl ?_
        show Steps p.tables e below (T13.setTop (mkF m 21 #[.val (.int p0), .val (.ref b), .val (.int (6 : Int32)), .val (.int (2 : Int32)), .val (.ref w2)] [(.ref w2)])) _
        refine st17 _ ?_
        show Steps p.tables e below (T17.setTop (mkF m 24 #[.val (.int p0), .val (.ref b), .val (.int (6 : Int32)), .val (.int (2 : Int32)), .val (.ref w2)] [(.int (2 : Int32))])) _
        refine XS.iloadN X17.here hx rfl (hb hby d1_24) rfl ?_
        show Steps p.tables e below (T17.setTop (mkF m 25 #[.val (.int p0), .val (.ref b), .val (.int (6 : Int32)), .val (.int (2 : Int32)), .val (.ref w2)] [(.int p0), (.int (2 : Int32))])) _
        exact k
      by_cases c25_18 : (2 : Int32) = p0
      · refine own_Go.mono (T' := T17) (f' := (mkF m 30 #[.val (.int p0), .val (.ref b), .val (.int (6 : Int32)), .val (.int (2 : Int32)), .val (.ref w2)] [(.ref w2)])) (fun t k => ?_) ?_
        · show Steps p.tables e below (T17.setTop (mkF m 25 #[.val (.int p0), .val (.ref b), .val (.int (6 : Int32)), .val (.int (2 : Int32)), .val (.ref w2)] [(.int p0), (.int (2 : Int32))])) _
          refine XS.icmpNo X17.here hx rfl (hb hby d1_25) rfl (teq c25_18).2 ?_
          show Steps p.tables e below (T17.setTop (mkF m 28 #[.val (.int p0), .val (.ref b), .val (.int (6 : Int32)), .val (.int (2 : Int32)), .val (.ref w2)] [])) _
          refine XS.aload X17.here hx rfl (hb hby d1_28) rfl rfl ?_
          show Steps p.tables e below (T17.setTop (mkF m 30 #[.val (.int p0), .val (.ref b), .val (.int (6 : Int32)), .val (.int (2 : Int32)), .val (.ref w2)] [(.ref w2)])) _
          exact k
        exact own_retA X17 hx hret rfl ⟨rfl, rfl⟩ hlk (hb hby d1_30) (⟨congrArg (fun z => some (Value.ref z)) (by rw [← c25_18]; rfl), N4, (by rw [e17]; exact K4)⟩) (by decide) (by decide)
      · obtain ⟨cl19, Ar19, q19, S19, P19, H19, G19⟩ := V_b_16
        have hin20 : ¬ ((3 : Int32) < 0 ∨ cl19.slots.size ≤ ((3 : Int32)).toNatClampNeg) := inb_of S19 ⟨by decide, by decide⟩
        have hat20 : cl19.slots[((3 : Int32)).toNatClampNeg]? = some (.ref w3) := H19.at hin20 rfl
        have V_b_20 : Arv Z T4.heap b k (.object "com/example/humble_log/humblelog/protocol/ConfigSource") (6 : Int32) [(.ref w0), (.ref w1), (.ref w2), (.ref w3), (.ref w4), (.ref w5)] .null := ⟨cl19, Ar19, q19, S19, P19, H19, G19⟩
        obtain ⟨T21, X21, e21, st21⟩ := getF X17 hx hZ hown (host := "") (Or.inl (hw _ (List.mem_of_getElem? (i := 25) rfl))) Via.refl e17 (F3_.keep K4 nin0) (g := (mkF m 21 #[.val (.int p0), .val (.ref b), .val (.int (6 : Int32)), .val (.int (3 : Int32)), .val (.ref w3)] [(.ref w3)])) rfl rfl (hb hby d1_21)
        refine own_Go.mono (T' := T21) (f' := (mkF m 25 #[.val (.int p0), .val (.ref b), .val (.int (6 : Int32)), .val (.int (3 : Int32)), .val (.ref w3)] [(.int p0), (.int (3 : Int32))])) (fun t k => ?_) ?_
        · show Steps p.tables e below (T17.setTop (mkF m 25 #[.val (.int p0), .val (.ref b), .val (.int (6 : Int32)), .val (.int (2 : Int32)), .val (.ref w2)] [(.int p0), (.int (2 : Int32))])) _
          refine XS.icmpYes X17.here hx rfl (pc0 := 25) (pc' := 31) rfl (hb hby d1_25) rfl (feq c25_18).2 (by decide) (by decide) ?_
          show Steps p.tables e below (T17.setTop (mkF m 31 #[.val (.int p0), .val (.ref b), .val (.int (6 : Int32)), .val (.int (2 : Int32)), .val (.ref w2)] [])) _
          refine XS.iinc X17.here hx rfl (hb hby d1_31) rfl (l' := #[.val (.int p0), .val (.ref b), .val (.int (6 : Int32)), .val (.int (3 : Int32)), .val (.ref w2)]) rfl ?_
          show Steps p.tables e below (T17.setTop (mkF m 34 #[.val (.int p0), .val (.ref b), .val (.int (6 : Int32)), .val (.int (3 : Int32)), .val (.ref w2)] [])) _
          refine XS.goto X17.here hx rfl (pc0 := 34) (pc' := 9) rfl (hb hby d1_34) (by decide) (by decide) ?_
          show Steps p.tables e below (T17.setTop (mkF m 9 #[.val (.int p0), .val (.ref b), .val (.int (6 : Int32)), .val (.int (3 : Int32)), .val (.ref w2)] [])) _
          refine XS.iloadN X17.here hx rfl (hb hby d1_9) rfl ?_
          show Steps p.tables e below (T17.setTop (mkF m 10 #[.val (.int p0), .val (.ref b), .val (.int (6 : Int32)), .val (.int (3 : Int32)), .val (.ref w2)] [(.int (3 : Int32))])) _
          refine XS.iloadN X17.here hx rfl (hb hby d1_10) rfl ?_
          show Steps p.tables e below (T17.setTop (mkF m 11 #[.val (.int p0), .val (.ref b), .val (.int (6 : Int32)), .val (.int (3 : Int32)), .val (.ref w2)] [(.int (6 : Int32)), (.int (3 : Int32))])) _
          refine XS.icmpNo X17.here hx rfl (hb hby d1_11) rfl (tlt (by decide)).2.1 ?_
          show Steps p.tables e below (T17.setTop (mkF m 14 #[.val (.int p0), .val (.ref b), .val (.int (6 : Int32)), .val (.int (3 : Int32)), .val (.ref w2)] [])) _
          refine XS.aloadN X17.here hx rfl (hb hby d1_14) rfl rfl ?_
          show Steps p.tables e below (T17.setTop (mkF m 15 #[.val (.int p0), .val (.ref b), .val (.int (6 : Int32)), .val (.int (3 : Int32)), .val (.ref w2)] [(.ref b)])) _
          refine XS.iloadN X17.here hx rfl (hb hby d1_15) rfl ?_
          show Steps p.tables e below (T17.setTop (mkF m 16 #[.val (.int p0), .val (.ref b), .val (.int (6 : Int32)), .val (.int (3 : Int32)), .val (.ref w2)] [(.int (3 : Int32)), (.ref b)])) _
          refine X17.aaload hx (j := (3 : Int32)) (v := (.ref w3)) (by rw [e17]; exact Ar19.1) (State.isArrayOf_alike hZ.alike Ar19.2.1) rfl Ar19.2.2 hin20 hat20 (g := (mkF m 16 #[.val (.int p0), .val (.ref b), .val (.int (6 : Int32)), .val (.int (3 : Int32)), .val (.ref w2)] [(.int (3 : Int32)), (.ref b)])) rfl rfl (hb hby d1_16) _ ?_
          show Steps p.tables e below (T17.setTop (mkF m 17 #[.val (.int p0), .val (.ref b), .val (.int (6 : Int32)), .val (.int (3 : Int32)), .val (.ref w2)] [(.ref w3)])) _
          refine XS.astore X17.here hx rfl (hb hby d1_17) rfl rfl (l' := #[.val (.int p0), .val (.ref b), .val (.int (6 : Int32)), .val (.int (3 : Int32)), .val (.ref w3)]) rfl ?_
          show Steps p.tables e below (T17.setTop (mkF m 19 #[.val (.int p0), .val (.ref b), .val (.int (6 : Int32)), .val (.int (3 : Int32)), .val (.ref w3)] [])) _
          refine XS.aload X17.here hx rfl (hb hby d1_19) rfl rfl ?_
          show Steps p.tables e below (T17.setTop (mkF m 21 #[.val (.int p0), .val (.ref b), .val (.int (6 : Int32)), .val (.int (3 : Int32)), .val (.ref w3)] [(.ref w3)])) _
          refine st21 _ ?_
          show Steps p.tables e below (T21.setTop (mkF m 24 #[.val (.int p0), .val (.ref b), .val (.int (6 : Int32)), .val (.int (3 : Int32)), .val (.ref w3)] [(.int (3 : Int32))])) _
          refine XS.iloadN X21.here hx rfl (hb hby d1_24) rfl ?_
          show Steps p.tables e below (T21.setTop (mkF m 25 #[.val (.int p0), .val (.ref b), .val (.int (6 : Int32)), .val (.int (3 : Int32)), .val (.ref w3)] [(.int p0), (.int (3 : Int32))])) _
          exact k
        by_cases c25_22 : (3 : Int32) = p0
        · refine own_Go.mono (T' := T21) (f' := (mkF m 30 #[.val (.int p0), .val (.ref b), .val (.int (6 : Int32)), .val (.int (3 : Int32)), .val (.ref w3)] [(.ref w3)])) (fun t k => ?_) ?_
          · show Steps p.tables e below (T21.setTop (mkF m 25 #[.val (.int p0), .val (.ref b), .val (.int (6 : Int32)), .val (.int (3 : Int32)), .val (.ref w3)] [(.int p0), (.int (3 : Int32))])) _
            refine XS.icmpNo X21.here hx rfl (hb hby d1_25) rfl (teq c25_22).2 ?_
            show Steps p.tables e below (T21.setTop (mkF m 28 #[.val (.int p0), .val (.ref b), .val (.int (6 : Int32)), .val (.int (3 : Int32)), .val (.ref w3)] [])) _
            refine XS.aload X21.here hx rfl (hb hby d1_28) rfl rfl ?_
            show Steps p.tables e below (T21.setTop (mkF m 30 #[.val (.int p0), .val (.ref b), .val (.int (6 : Int32)), .val (.int (3 : Int32)), .val (.ref w3)] [(.ref w3)])) _
            exact k
          exact own_retA X21 hx hret rfl ⟨rfl, rfl⟩ hlk (hb hby d1_30) (⟨congrArg (fun z => some (Value.ref z)) (by rw [← c25_22]; rfl), N4, (by rw [e21]; exact K4)⟩) (by decide) (by decide)
        · obtain ⟨cl23, Ar23, q23, S23, P23, H23, G23⟩ := V_b_20
          have hin24 : ¬ ((4 : Int32) < 0 ∨ cl23.slots.size ≤ ((4 : Int32)).toNatClampNeg) := inb_of S23 ⟨by decide, by decide⟩
          have hat24 : cl23.slots[((4 : Int32)).toNatClampNeg]? = some (.ref w4) := H23.at hin24 rfl
          have V_b_24 : Arv Z T4.heap b k (.object "com/example/humble_log/humblelog/protocol/ConfigSource") (6 : Int32) [(.ref w0), (.ref w1), (.ref w2), (.ref w3), (.ref w4), (.ref w5)] .null := ⟨cl23, Ar23, q23, S23, P23, H23, G23⟩
          obtain ⟨T25, X25, e25, st25⟩ := getF X21 hx hZ hown (host := "") (Or.inl (hw _ (List.mem_of_getElem? (i := 25) rfl))) Via.refl e21 (F4_.keep K4 nin0) (g := (mkF m 21 #[.val (.int p0), .val (.ref b), .val (.int (6 : Int32)), .val (.int (4 : Int32)), .val (.ref w4)] [(.ref w4)])) rfl rfl (hb hby d1_21)
          refine own_Go.mono (T' := T25) (f' := (mkF m 25 #[.val (.int p0), .val (.ref b), .val (.int (6 : Int32)), .val (.int (4 : Int32)), .val (.ref w4)] [(.int p0), (.int (4 : Int32))])) (fun t k => ?_) ?_
          · show Steps p.tables e below (T21.setTop (mkF m 25 #[.val (.int p0), .val (.ref b), .val (.int (6 : Int32)), .val (.int (3 : Int32)), .val (.ref w3)] [(.int p0), (.int (3 : Int32))])) _
            refine XS.icmpYes X21.here hx rfl (pc0 := 25) (pc' := 31) rfl (hb hby d1_25) rfl (feq c25_22).2 (by decide) (by decide) ?_
            show Steps p.tables e below (T21.setTop (mkF m 31 #[.val (.int p0), .val (.ref b), .val (.int (6 : Int32)), .val (.int (3 : Int32)), .val (.ref w3)] [])) _
            refine XS.iinc X21.here hx rfl (hb hby d1_31) rfl (l' := #[.val (.int p0), .val (.ref b), .val (.int (6 : Int32)), .val (.int (4 : Int32)), .val (.ref w3)]) rfl ?_
            show Steps p.tables e below (T21.setTop (mkF m 34 #[.val (.int p0), .val (.ref b), .val (.int (6 : Int32)), .val (.int (4 : Int32)), .val (.ref w3)] [])) _
            refine XS.goto X21.here hx rfl (pc0 := 34) (pc' := 9) rfl (hb hby d1_34) (by decide) (by decide) ?_
            show Steps p.tables e below (T21.setTop (mkF m 9 #[.val (.int p0), .val (.ref b), .val (.int (6 : Int32)), .val (.int (4 : Int32)), .val (.ref w3)] [])) _
            refine XS.iloadN X21.here hx rfl (hb hby d1_9) rfl ?_
            show Steps p.tables e below (T21.setTop (mkF m 10 #[.val (.int p0), .val (.ref b), .val (.int (6 : Int32)), .val (.int (4 : Int32)), .val (.ref w3)] [(.int (4 : Int32))])) _
            refine XS.iloadN X21.here hx rfl (hb hby d1_10) rfl ?_
            show Steps p.tables e below (T21.setTop (mkF m 11 #[.val (.int p0), .val (.ref b), .val (.int (6 : Int32)), .val (.int (4 : Int32)), .val (.ref w3)] [(.int (6 : Int32)), (.int (4 : Int32))])) _
            refine XS.icmpNo X21.here hx rfl (hb hby d1_11) rfl (tlt (by decide)).2.1 ?_
            show Steps p.tables e below (T21.setTop (mkF m 14 #[.val (.int p0), .val (.ref b), .val (.int (6 : Int32)), .val (.int (4 : Int32)), .val (.ref w3)] [])) _
            refine XS.aloadN X21.here hx rfl (hb hby d1_14) rfl rfl ?_
            show Steps p.tables e below (T21.setTop (mkF m 15 #[.val (.int p0), .val (.ref b), .val (.int (6 : Int32)), .val (.int (4 : Int32)), .val (.ref w3)] [(.ref b)])) _
            refine XS.iloadN X21.here hx rfl (hb hby d1_15) rfl ?_
            show Steps p.tables e below (T21.setTop (mkF m 16 #[.val (.int p0), .val (.ref b), .val (.int (6 : Int32)), .val (.int (4 : Int32)), .val (.ref w3)] [(.int (4 : Int32)), (.ref b)])) _
            refine X21.aaload hx (j := (4 : Int32)) (v := (.ref w4)) (by rw [e21]; exact Ar23.1) (State.isArrayOf_alike hZ.alike Ar23.2.1) rfl Ar23.2.2 hin24 hat24 (g := (mkF m 16 #[.val (.int p0), .val (.ref b), .val (.int (6 : Int32)), .val (.int (4 : Int32)), .val (.ref w3)] [(.int (4 : Int32)), (.ref b)])) rfl rfl (hb hby d1_16) _ ?_
            show Steps p.tables e below (T21.setTop (mkF m 17 #[.val (.int p0), .val (.ref b), .val (.int (6 : Int32)), .val (.int (4 : Int32)), .val (.ref w3)] [(.ref w4)])) _
            refine XS.astore X21.here hx rfl (hb hby d1_17) rfl rfl (l' := #[.val (.int p0), .val (.ref b), .val (.int (6 : Int32)), .val (.int (4 : Int32)), .val (.ref w4)]) rfl ?_
            show Steps p.tables e below (T21.setTop (mkF m 19 #[.val (.int p0), .val (.ref b), .val (.int (6 : Int32)), .val (.int (4 : Int32)), .val (.ref w4)] [])) _
            refine XS.aload X21.here hx rfl (hb hby d1_19) rfl rfl ?_
            show Steps p.tables e below (T21.setTop (mkF m 21 #[.val (.int p0), .val (.ref b), .val (.int (6 : Int32)), .val (.int (4 : Int32)), .val (.ref w4)] [(.ref w4)])) _
            refine st25 _ ?_
            show Steps p.tables e below (T25.setTop (mkF m 24 #[.val (.int p0), .val (.ref b), .val (.int (6 : Int32)), .val (.int (4 : Int32)), .val (.ref w4)] [(.int (4 : Int32))])) _
            refine XS.iloadN X25.here hx rfl (hb hby d1_24) rfl ?_
            show Steps p.tables e below (T25.setTop (mkF m 25 #[.val (.int p0), .val (.ref b), .val (.int (6 : Int32)), .val (.int (4 : Int32)), .val (.ref w4)] [(.int p0), (.int (4 : Int32))])) _
            exact k
          by_cases c25_26 : (4 : Int32) = p0
          · refine own_Go.mono (T' := T25) (f' := (mkF m 30 #[.val (.int p0), .val (.ref b), .val (.int (6 : Int32)), .val (.int (4 : Int32)), .val (.ref w4)] [(.ref w4)])) (fun t k => ?_) ?_
            · show Steps p.tables e below (T25.setTop (mkF m 25 #[.val (.int p0), .val (.ref b), .val (.int (6 : Int32)), .val (.int (4 : Int32)), .val (.ref w4)] [(.int p0), (.int (4 : Int32))])) _
              refine XS.icmpNo X25.here hx rfl (hb hby d1_25) rfl (teq c25_26).2 ?_
              show Steps p.tables e below (T25.setTop (mkF m 28 #[.val (.int p0), .val (.ref b), .val (.int (6 : Int32)), .val (.int (4 : Int32)), .val (.ref w4)] [])) _
              refine XS.aload X25.here hx rfl (hb hby d1_28) rfl rfl ?_
              show Steps p.tables e below (T25.setTop (mkF m 30 #[.val (.int p0), .val (.ref b), .val (.int (6 : Int32)), .val (.int (4 : Int32)), .val (.ref w4)] [(.ref w4)])) _
              exact k
            exact own_retA X25 hx hret rfl ⟨rfl, rfl⟩ hlk (hb hby d1_30) (⟨congrArg (fun z => some (Value.ref z)) (by rw [← c25_26]; rfl), N4, (by rw [e25]; exact K4)⟩) (by decide) (by decide)
          · obtain ⟨cl27, Ar27, q27, S27, P27, H27, G27⟩ := V_b_24
            have hin28 : ¬ ((5 : Int32) < 0 ∨ cl27.slots.size ≤ ((5 : Int32)).toNatClampNeg) := inb_of S27 ⟨by decide, by decide⟩
            have hat28 : cl27.slots[((5 : Int32)).toNatClampNeg]? = some (.ref w5) := H27.at hin28 rfl
            have V_b_28 : Arv Z T4.heap b k (.object "com/example/humble_log/humblelog/protocol/ConfigSource") (6 : Int32) [(.ref w0), (.ref w1), (.ref w2), (.ref w3), (.ref w4), (.ref w5)] .null := ⟨cl27, Ar27, q27, S27, P27, H27, G27⟩
            obtain ⟨T29, X29, e29, st29⟩ := getF X25 hx hZ hown (host := "") (Or.inl (hw _ (List.mem_of_getElem? (i := 25) rfl))) Via.refl e25 (F5_.keep K4 nin0) (g := (mkF m 21 #[.val (.int p0), .val (.ref b), .val (.int (6 : Int32)), .val (.int (5 : Int32)), .val (.ref w5)] [(.ref w5)])) rfl rfl (hb hby d1_21)
            refine own_Go.mono (T' := T29) (f' := (mkF m 25 #[.val (.int p0), .val (.ref b), .val (.int (6 : Int32)), .val (.int (5 : Int32)), .val (.ref w5)] [(.int p0), (.int (5 : Int32))])) (fun t k => ?_) ?_
            · show Steps p.tables e below (T25.setTop (mkF m 25 #[.val (.int p0), .val (.ref b), .val (.int (6 : Int32)), .val (.int (4 : Int32)), .val (.ref w4)] [(.int p0), (.int (4 : Int32))])) _
              refine XS.icmpYes X25.here hx rfl (pc0 := 25) (pc' := 31) rfl (hb hby d1_25) rfl (feq c25_26).2 (by decide) (by decide) ?_
              show Steps p.tables e below (T25.setTop (mkF m 31 #[.val (.int p0), .val (.ref b), .val (.int (6 : Int32)), .val (.int (4 : Int32)), .val (.ref w4)] [])) _
              refine XS.iinc X25.here hx rfl (hb hby d1_31) rfl (l' := #[.val (.int p0), .val (.ref b), .val (.int (6 : Int32)), .val (.int (5 : Int32)), .val (.ref w4)]) rfl ?_
              show Steps p.tables e below (T25.setTop (mkF m 34 #[.val (.int p0), .val (.ref b), .val (.int (6 : Int32)), .val (.int (5 : Int32)), .val (.ref w4)] [])) _
              refine XS.goto X25.here hx rfl (pc0 := 34) (pc' := 9) rfl (hb hby d1_34) (by decide) (by decide) ?_
              show Steps p.tables e below (T25.setTop (mkF m 9 #[.val (.int p0), .val (.ref b), .val (.int (6 : Int32)), .val (.int (5 : Int32)), .val (.ref w4)] [])) _
              refine XS.iloadN X25.here hx rfl (hb hby d1_9) rfl ?_
              show Steps p.tables e below (T25.setTop (mkF m 10 #[.val (.int p0), .val (.ref b), .val (.int (6 : Int32)), .val (.int (5 : Int32)), .val (.ref w4)] [(.int (5 : Int32))])) _
              refine XS.iloadN X25.here hx rfl (hb hby d1_10) rfl ?_
              show Steps p.tables e below (T25.setTop (mkF m 11 #[.val (.int p0), .val (.ref b), .val (.int (6 : Int32)), .val (.int (5 : Int32)), .val (.ref w4)] [(.int (6 : Int32)), (.int (5 : Int32))])) _
              refine XS.icmpNo X25.here hx rfl (hb hby d1_11) rfl (tlt (by decide)).2.1 ?_
              show Steps p.tables e below (T25.setTop (mkF m 14 #[.val (.int p0), .val (.ref b), .val (.int (6 : Int32)), .val (.int (5 : Int32)), .val (.ref w4)] [])) _
              refine XS.aloadN X25.here hx rfl (hb hby d1_14) rfl rfl ?_
              show Steps p.tables e below (T25.setTop (mkF m 15 #[.val (.int p0), .val (.ref b), .val (.int (6 : Int32)), .val (.int (5 : Int32)), .val (.ref w4)] [(.ref b)])) _
              refine XS.iloadN X25.here hx rfl (hb hby d1_15) rfl ?_
              show Steps p.tables e below (T25.setTop (mkF m 16 #[.val (.int p0), .val (.ref b), .val (.int (6 : Int32)), .val (.int (5 : Int32)), .val (.ref w4)] [(.int (5 : Int32)), (.ref b)])) _
              refine X25.aaload hx (j := (5 : Int32)) (v := (.ref w5)) (by rw [e25]; exact Ar27.1) (State.isArrayOf_alike hZ.alike Ar27.2.1) rfl Ar27.2.2 hin28 hat28 (g := (mkF m 16 #[.val (.int p0), .val (.ref b), .val (.int (6 : Int32)), .val (.int (5 : Int32)), .val (.ref w4)] [(.int (5 : Int32)), (.ref b)])) rfl rfl (hb hby d1_16) _ ?_
              show Steps p.tables e below (T25.setTop (mkF m 17 #[.val (.int p0), .val (.ref b), .val (.int (6 : Int32)), .val (.int (5 : Int32)), .val (.ref w4)] [(.ref w5)])) _
              refine XS.astore X25.here hx rfl (hb hby d1_17) rfl rfl (l' := #[.val (.int p0), .val (.ref b), .val (.int (6 : Int32)), .val (.int (5 : Int32)), .val (.ref w5)]) rfl ?_
              show Steps p.tables e below (T25.setTop (mkF m 19 #[.val (.int p0), .val (.ref b), .val (.int (6 : Int32)), .val (.int (5 : Int32)), .val (.ref w5)] [])) _
              refine XS.aload X25.here hx rfl (hb hby d1_19) rfl rfl ?_
              show Steps p.tables e below (T25.setTop (mkF m 21 #[.val (.int p0), .val (.ref b), .val (.int (6 : Int32)), .val (.int (5 : Int32)), .val (.ref w5)] [(.ref w5)])) _
              refine st29 _ ?_
              show Steps p.tables e below (T29.setTop (mkF m 24 #[.val (.int p0), .val (.ref b), .val (.int (6 : Int32)), .val (.int (5 : Int32)), .val (.ref w5)] [(.int (5 : Int32))])) _
              refine XS.iloadN X29.here hx rfl (hb hby d1_24) rfl ?_
              show Steps p.tables e below (T29.setTop (mkF m 25 #[.val (.int p0), .val (.ref b), .val (.int (6 : Int32)), .val (.int (5 : Int32)), .val (.ref w5)] [(.int p0), (.int (5 : Int32))])) _
              exact k
            by_cases c25_30 : (5 : Int32) = p0
            · refine own_Go.mono (T' := T29) (f' := (mkF m 30 #[.val (.int p0), .val (.ref b), .val (.int (6 : Int32)), .val (.int (5 : Int32)), .val (.ref w5)] [(.ref w5)])) (fun t k => ?_) ?_
              · show Steps p.tables e below (T29.setTop (mkF m 25 #[.val (.int p0), .val (.ref b), .val (.int (6 : Int32)), .val (.int (5 : Int32)), .val (.ref w5)] [(.int p0), (.int (5 : Int32))])) _
                refine XS.icmpNo X29.here hx rfl (hb hby d1_25) rfl (teq c25_30).2 ?_
                show Steps p.tables e below (T29.setTop (mkF m 28 #[.val (.int p0), .val (.ref b), .val (.int (6 : Int32)), .val (.int (5 : Int32)), .val (.ref w5)] [])) _
                refine XS.aload X29.here hx rfl (hb hby d1_28) rfl rfl ?_
                show Steps p.tables e below (T29.setTop (mkF m 30 #[.val (.int p0), .val (.ref b), .val (.int (6 : Int32)), .val (.int (5 : Int32)), .val (.ref w5)] [(.ref w5)])) _
                exact k
              exact own_retA X29 hx hret rfl ⟨rfl, rfl⟩ hlk (hb hby d1_30) (⟨congrArg (fun z => some (Value.ref z)) (by rw [← c25_30]; rfl), N4, (by rw [e29]; exact K4)⟩) (by decide) (by decide)
            · obtain ⟨T31, X31, e31, st31⟩ := getS2 X29 hx hZ hown (host := "") (Or.inl (hw _ (List.mem_of_getElem? (i := 33) rfl))) Via.refl e29 (S0_.ext (own_ext K4)) (g := (mkF m 37 #[.val (.int p0), .val (.ref b), .val (.int (6 : Int32)), .val (.int (6 : Int32)), .val (.ref w5)] [])) rfl (hb hby d1_37)
              refine own_Go.mono (T' := T31) (f' := (mkF m 40 #[.val (.int p0), .val (.ref b), .val (.int (6 : Int32)), .val (.int (6 : Int32)), .val (.ref w5)] [(.ref w0)])) (fun t k => ?_) ?_
              · show Steps p.tables e below (T29.setTop (mkF m 25 #[.val (.int p0), .val (.ref b), .val (.int (6 : Int32)), .val (.int (5 : Int32)), .val (.ref w5)] [(.int p0), (.int (5 : Int32))])) _
                refine XS.icmpYes X29.here hx rfl (pc0 := 25) (pc' := 31) rfl (hb hby d1_25) rfl (feq c25_30).2 (by decide) (by decide) ?_
                show Steps p.tables e below (T29.setTop (mkF m 31 #[.val (.int p0), .val (.ref b), .val (.int (6 : Int32)), .val (.int (5 : Int32)), .val (.ref w5)] [])) _
                refine XS.iinc X29.here hx rfl (hb hby d1_31) rfl (l' := #[.val (.int p0), .val (.ref b), .val (.int (6 : Int32)), .val (.int (6 : Int32)), .val (.ref w5)]) rfl ?_
                show Steps p.tables e below (T29.setTop (mkF m 34 #[.val (.int p0), .val (.ref b), .val (.int (6 : Int32)), .val (.int (6 : Int32)), .val (.ref w5)] [])) _
                refine XS.goto X29.here hx rfl (pc0 := 34) (pc' := 9) rfl (hb hby d1_34) (by decide) (by decide) ?_
                show Steps p.tables e below (T29.setTop (mkF m 9 #[.val (.int p0), .val (.ref b), .val (.int (6 : Int32)), .val (.int (6 : Int32)), .val (.ref w5)] [])) _
                refine XS.iloadN X29.here hx rfl (hb hby d1_9) rfl ?_
                show Steps p.tables e below (T29.setTop (mkF m 10 #[.val (.int p0), .val (.ref b), .val (.int (6 : Int32)), .val (.int (6 : Int32)), .val (.ref w5)] [(.int (6 : Int32))])) _
                refine XS.iloadN X29.here hx rfl (hb hby d1_10) rfl ?_
                show Steps p.tables e below (T29.setTop (mkF m 11 #[.val (.int p0), .val (.ref b), .val (.int (6 : Int32)), .val (.int (6 : Int32)), .val (.ref w5)] [(.int (6 : Int32)), (.int (6 : Int32))])) _
                refine XS.icmpYes X29.here hx rfl (pc0 := 11) (pc' := 37) rfl (hb hby d1_11) rfl (flt (by decide)).2.1 (by decide) (by decide) ?_
                show Steps p.tables e below (T29.setTop (mkF m 37 #[.val (.int p0), .val (.ref b), .val (.int (6 : Int32)), .val (.int (6 : Int32)), .val (.ref w5)] [])) _
                refine st31 _ ?_
                show Steps p.tables e below (T31.setTop (mkF m 40 #[.val (.int p0), .val (.ref b), .val (.int (6 : Int32)), .val (.int (6 : Int32)), .val (.ref w5)] [(.ref w0)])) _
                exact k
              exact own_retA X31 hx hret rfl ⟨rfl, rfl⟩ hlk (hb hby d1_40) (⟨congrArg (fun z => some (Value.ref z)) (by unfold own_src; rw [if_neg (Ne.symm c25_14), if_neg (Ne.symm c25_18), if_neg (Ne.symm c25_22), if_neg (Ne.symm c25_26), if_neg (Ne.symm c25_30)]), N4, (by rw [e31]; exact K4)⟩) (by decide) (by decide)
theorem d3_0 : decode method_2_code 0 = .ok (.iload_n 0, 1) := by decide +kernel
theorem d3_1 : decode method_2_code 1 = .ok (.iconst 1, 1) := by decide +kernel
theorem d3_2 : decode method_2_code 2 = .ok (.if_icmp .ne 7, 3) := by decide +kernel
theorem d3_5 : decode method_2_code 5 = .ok (.getstatic 7, 3) := by decide +kernel
theorem d3_8 : decode method_2_code 8 = .ok (.areturn, 1) := by decide +kernel
theorem d3_9 : decode method_2_code 9 = .ok (.iload_n 0, 1) := by decide +kernel
theorem d3_10 : decode method_2_code 10 = .ok (.iconst 2, 1) := by decide +kernel
theorem d3_11 : decode method_2_code 11 = .ok (.if_icmp .ne 7, 3) := by decide +kernel
theorem d3_14 : decode method_2_code 14 = .ok (.getstatic 13, 3) := by decide +kernel
theorem d3_17 : decode method_2_code 17 = .ok (.areturn, 1) := by decide +kernel
theorem d3_18 : decode method_2_code 18 = .ok (.iload_n 0, 1) := by decide +kernel
theorem d3_19 : decode method_2_code 19 = .ok (.iconst 3, 1) := by decide +kernel
theorem d3_20 : decode method_2_code 20 = .ok (.if_icmp .ne 7, 3) := by decide +kernel
theorem d3_23 : decode method_2_code 23 = .ok (.getstatic 16, 3) := by decide +kernel
theorem d3_26 : decode method_2_code 26 = .ok (.areturn, 1) := by decide +kernel
theorem d3_27 : decode method_2_code 27 = .ok (.iload_n 0, 1) := by decide +kernel
theorem d3_28 : decode method_2_code 28 = .ok (.iconst 4, 1) := by decide +kernel
theorem d3_29 : decode method_2_code 29 = .ok (.if_icmp .ne 7, 3) := by decide +kernel
theorem d3_32 : decode method_2_code 32 = .ok (.getstatic 19, 3) := by decide +kernel
theorem d3_35 : decode method_2_code 35 = .ok (.areturn, 1) := by decide +kernel
theorem d3_36 : decode method_2_code 36 = .ok (.iload_n 0, 1) := by decide +kernel
theorem d3_37 : decode method_2_code 37 = .ok (.iconst 5, 1) := by decide +kernel
theorem d3_38 : decode method_2_code 38 = .ok (.if_icmp .ne 7, 3) := by decide +kernel
theorem d3_41 : decode method_2_code 41 = .ok (.getstatic 22, 3) := by decide +kernel
theorem d3_44 : decode method_2_code 44 = .ok (.areturn, 1) := by decide +kernel
theorem d3_45 : decode method_2_code 45 = .ok (.getstatic 25, 3) := by decide +kernel
theorem d3_48 : decode method_2_code 48 = .ok (.areturn, 1) := by decide +kernel
theorem ef_rm3 (m : MethodId) (x0 : Int32) : entryFrame m #[(.int x0)] 1 = mkF m 0 #[.val (.int x0)] [] := by first | (simp [entryFrame, mkF, argsToLocals, Value.category]; done) | rfl
def Q3 (Z : State) (p0 : Int32) (w0 : Addr) (w1 : Addr) (w2 : Addr) (w3 : Addr) (w4 : Addr) (w5 : Addr) (h0 : Heap) (n0 : Nat) (v : Option Value) (h : Heap) (L : List Loc) : Prop := v = some (.ref (own_src w0 w1 w2 w3 w4 w5 p0)) ∧ Fr n0 L ∧ h = h0
set_option maxRecDepth 65536 in
set_option maxHeartbeats 40000000 in
theorem rm3 (l : Launch) (Z : State) (a0 : Array Value) (hw : ∀ d ∈ tables_1, d.before a0 Z = true) (ws : List Jvm.Cond) (p0 : Int32) (w0 : Addr) (w1 : Addr) (w2 : Addr) (w3 : Addr) (w4 : Addr) (w5 : Addr) (h0 : Heap) (n0 : Nat) (Z0 : n0 ≤ h0.size) (S0_ : Sta Z h0 "com/example/humble_log/humblelog/protocol/ConfigSource" "UNKNOWN" "Lcom/example/humble_log/humblelog/protocol/ConfigSource;" (.ref w0)) (S1_ : Sta Z h0 "com/example/humble_log/humblelog/protocol/ConfigSource" "DYNAMIC_TOPIC_CONFIG" "Lcom/example/humble_log/humblelog/protocol/ConfigSource;" (.ref w1)) (S2_ : Sta Z h0 "com/example/humble_log/humblelog/protocol/ConfigSource" "DYNAMIC_BROKER_CONFIG" "Lcom/example/humble_log/humblelog/protocol/ConfigSource;" (.ref w2)) (S3_ : Sta Z h0 "com/example/humble_log/humblelog/protocol/ConfigSource" "DYNAMIC_DEFAULT_BROKER_CONFIG" "Lcom/example/humble_log/humblelog/protocol/ConfigSource;" (.ref w3)) (S4_ : Sta Z h0 "com/example/humble_log/humblelog/protocol/ConfigSource" "STATIC_BROKER_CONFIG" "Lcom/example/humble_log/humblelog/protocol/ConfigSource;" (.ref w4)) (S5_ : Sta Z h0 "com/example/humble_log/humblelog/protocol/ConfigSource" "DEFAULT_CONFIG" "Lcom/example/humble_log/humblelog/protocol/ConfigSource;" (.ref w5)) :
    MetFree l (⟨"com/example/humble_log/humblelog/protocol/ConfigSourceForCodePinLaw", "expected", "(B)Lcom/example/humble_log/humblelog/protocol/ConfigSource;"⟩ : MethodName) (head1 (Jvm.Cond.code (⟨"com/example/humble_log/humblelog/protocol/ConfigSourceForCodePinLaw", "expected", "(B)Lcom/example/humble_log/humblelog/protocol/ConfigSource;"⟩ : MethodName) method_2_code 1 (some (.object "com/example/humble_log/humblelog/protocol/ConfigSource")) :: ws) ({ frames := 0, cells := 0, slots := 0, locals := 0 } : Room)) (fun a U => a = #[(.int p0)] ∧ Z.Warmed39 U.vm ∧ U.heap = h0) (fun _ _ _ _ _ => True) (fun _ U o U' => ∃ v L, o = .returned v ∧ Q3 Z p0 w0 w1 w2 w3 w4 w5 h0 n0 v U'.heap L ∧ FrameEnd U o U' L 0 0) := by
  refine own_body (Qv := Q3 Z p0 w0 w1 w2 w3 w4 w5 h0 n0) (plainFor_of_name (by first | (simp [plainName, overriddenIn]; done) | decide +kernel)) ?_
  intro p e s m below meth c s₁ hx hby hml hret hlk hown hnm hZ X0 e0
  replace hown : s.vm.findClass "com/example/humble_log/humblelog/protocol/ConfigSourceForCodePinLaw" = some m.cls := hown
  replace hnm : meth.name = "expected" := hnm
  have N0 := Fr.nil n0
  refine own_Go.mono (T' := s₁) (f' := (mkF m 0 #[.val (.int p0)] [])) (fun t k => castTop (ef_rm3 m p0) k) ?_
  refine own_Go.mono (T' := s₁) (f' := (mkF m 2 #[.val (.int p0)] [(.int (1 : Int32)), (.int p0)])) (fun t k => ?_) ?_
  · show Steps p.tables e below (s₁.setTop (mkF m 0 #[.val (.int p0)] [])) _
    refine XS.iloadN X0.here hx rfl (hb hby d3_0) rfl ?_
    show Steps p.tables e below (s₁.setTop (mkF m 1 #[.val (.int p0)] [(.int p0)])) _
    refine XS.iconst X0.here hx rfl (hb hby d3_1) ?_
    show Steps p.tables e below (s₁.setTop (mkF m 2 #[.val (.int p0)] [(.int (1 : Int32)), (.int p0)])) _
    exact k
  by_cases c2_32 : p0 = (1 : Int32)
  · obtain ⟨T33, X33, e33, st33⟩ := getS2 X0 hx hZ hown (host := "") (Or.inl (hw _ (List.mem_of_getElem? (i := 35) rfl))) Via.refl e0 S1_ (g := (mkF m 5 #[.val (.int p0)] [])) rfl (hb hby d3_5)
    refine own_Go.mono (T' := T33) (f' := (mkF m 8 #[.val (.int p0)] [(.ref w1)])) (fun t k => ?_) ?_
    · show Steps p.tables e below (s₁.setTop (mkF m 2 #[.val (.int p0)] [(.int (1 : Int32)), (.int p0)])) _
      refine XS.icmpNo X0.here hx rfl (hb hby d3_2) rfl (teq c2_32).2 ?_
      show Steps p.tables e below (s₁.setTop (mkF m 5 #[.val (.int p0)] [])) _
      refine st33 _ ?_
      show Steps p.tables e below (T33.setTop (mkF m 8 #[.val (.int p0)] [(.ref w1)])) _
      exact k
    exact own_retA X33 hx hret rfl ⟨rfl, rfl⟩ hlk (hb hby d3_8) (⟨congrArg (fun z => some (Value.ref z)) (by unfold own_src; rw [if_pos c2_32]), N0, e33⟩) (by decide) (by decide)
  · refine own_Go.mono (T' := s₁) (f' := (mkF m 11 #[.val (.int p0)] [(.int (2 : Int32)), (.int p0)])) (fun t k => ?_) ?_
    · show Steps p.tables e below (s₁.setTop (mkF m 2 #[.val (.int p0)] [(.int (1 : Int32)), (.int p0)])) _
      refine XS.icmpYes X0.here hx rfl (pc0 := 2) (pc' := 9) rfl (hb hby d3_2) rfl (feq c2_32).2 (by decide) (by decide) ?_
      show Steps p.tables e below (s₁.setTop (mkF m 9 #[.val (.int p0)] [])) _
      refine XS.iloadN X0.here hx rfl (hb hby d3_9) rfl ?_
      show Steps p.tables e below (s₁.setTop (mkF m 10 #[.val (.int p0)] [(.int p0)])) _
      refine XS.iconst X0.here hx rfl (hb hby d3_10) ?_
      show Steps p.tables e below (s₁.setTop (mkF m 11 #[.val (.int p0)] [(.int (2 : Int32)), (.int p0)])) _
      exact k
    by_cases c11_34 : p0 = (2 : Int32)
    · obtain ⟨T35, X35, e35, st35⟩ := getS2 X0 hx hZ hown (host := "") (Or.inl (hw _ (List.mem_of_getElem? (i := 34) rfl))) Via.refl e0 S2_ (g := (mkF m 14 #[.val (.int p0)] [])) rfl (hb hby d3_14)
      refine own_Go.mono (T' := T35) (f' := (mkF m 17 #[.val (.int p0)] [(.ref w2)])) (fun t k => ?_) ?_
      · show Steps p.tables e below (s₁.setTop (mkF m 11 #[.val (.int p0)] [(.int (2 : Int32)), (.int p0)])) _
        refine XS.icmpNo X0.here hx rfl (hb hby d3_11) rfl (teq c11_34).2 ?_
        show Steps p.tables e below (s₁.setTop (mkF m 14 #[.val (.int p0)] [])) _
        refine st35 _ ?_
        show Steps p.tables e below (T35.setTop (mkF m 17 #[.val (.int p0)] [(.ref w2)])) _
        exact k
      exact own_retA X35 hx hret rfl ⟨rfl, rfl⟩ hlk (hb hby d3_17) (⟨congrArg (fun z => some (Value.ref z)) (by unfold own_src; rw [if_neg c2_32, if_pos c11_34]), N0, e35⟩) (by decide) (by decide)
    · refine own_Go.mono (T' := s₁) (f' := (mkF m 20 #[.val (.int p0)] [(.int (3 : Int32)), (.int p0)])) (fun t k => ?_) ?_
      · show Steps p.tables e below (s₁.setTop (mkF m 11 #[.val (.int p0)] [(.int (2 : Int32)), (.int p0)])) _
        refine XS.icmpYes X0.here hx rfl (pc0 := 11) (pc' := 18) rfl (hb hby d3_11) rfl (feq c11_34).2 (by decide) (by decide) ?_
        show Steps p.tables e below (s₁.setTop (mkF m 18 #[.val (.int p0)] [])) _
        refine XS.iloadN X0.here hx rfl (hb hby d3_18) rfl ?_
        show Steps p.tables e below (s₁.setTop (mkF m 19 #[.val (.int p0)] [(.int p0)])) _
        refine XS.iconst X0.here hx rfl (hb hby d3_19) ?_
        show Steps p.tables e below (s₁.setTop (mkF m 20 #[.val (.int p0)] [(.int (3 : Int32)), (.int p0)])) _
        exact k
      by_cases c20_36 : p0 = (3 : Int32)
      · obtain ⟨T37, X37, e37, st37⟩ := getS2 X0 hx hZ hown (host := "") (Or.inl (hw _ (List.mem_of_getElem? (i := 32) rfl))) Via.refl e0 S3_ (g := (mkF m 23 #[.val (.int p0)] [])) rfl (hb hby d3_23)
        refine own_Go.mono (T' := T37) (f' := (mkF m 26 #[.val (.int p0)] [(.ref w3)])) (fun t k => ?_) ?_
        · show Steps p.tables e below (s₁.setTop (mkF m 20 #[.val (.int p0)] [(.int (3 : Int32)), (.int p0)])) _
          refine XS.icmpNo X0.here hx rfl (hb hby d3_20) rfl (teq c20_36).2 ?_
          show Steps p.tables e below (s₁.setTop (mkF m 23 #[.val (.int p0)] [])) _
          refine st37 _ ?_
          show Steps p.tables e below (T37.setTop (mkF m 26 #[.val (.int p0)] [(.ref w3)])) _
          exact k
        exact own_retA X37 hx hret rfl ⟨rfl, rfl⟩ hlk (hb hby d3_26) (⟨congrArg (fun z => some (Value.ref z)) (by unfold own_src; rw [if_neg c2_32, if_neg c11_34, if_pos c20_36]), N0, e37⟩) (by decide) (by decide)
      · refine own_Go.mono (T' := s₁) (f' := (mkF m 29 #[.val (.int p0)] [(.int (4 : Int32)), (.int p0)])) (fun t k => ?_) ?_
        · show Steps p.tables e below (s₁.setTop (mkF m 20 #[.val (.int p0)] [(.int (3 : Int32)), (.int p0)])) _
          refine XS.icmpYes X0.here hx rfl (pc0 := 20) (pc' := 27) rfl (hb hby d3_20) rfl (feq c20_36).2 (by decide) (by decide) ?_
          show Steps p.tables e below (s₁.setTop (mkF m 27 #[.val (.int p0)] [])) _
          refine XS.iloadN X0.here hx rfl (hb hby d3_27) rfl ?_
          show Steps p.tables e below (s₁.setTop (mkF m 28 #[.val (.int p0)] [(.int p0)])) _
          refine XS.iconst X0.here hx rfl (hb hby d3_28) ?_
          show Steps p.tables e below (s₁.setTop (mkF m 29 #[.val (.int p0)] [(.int (4 : Int32)), (.int p0)])) _
          exact k
        by_cases c29_38 : p0 = (4 : Int32)
        · obtain ⟨T39, X39, e39, st39⟩ := getS2 X0 hx hZ hown (host := "") (Or.inl (hw _ (List.mem_of_getElem? (i := 37) rfl))) Via.refl e0 S4_ (g := (mkF m 32 #[.val (.int p0)] [])) rfl (hb hby d3_32)
          refine own_Go.mono (T' := T39) (f' := (mkF m 35 #[.val (.int p0)] [(.ref w4)])) (fun t k => ?_) ?_
          · show Steps p.tables e below (s₁.setTop (mkF m 29 #[.val (.int p0)] [(.int (4 : Int32)), (.int p0)])) _
            refine XS.icmpNo X0.here hx rfl (hb hby d3_29) rfl (teq c29_38).2 ?_
            show Steps p.tables e below (s₁.setTop (mkF m 32 #[.val (.int p0)] [])) _
            refine st39 _ ?_
            show Steps p.tables e below (T39.setTop (mkF m 35 #[.val (.int p0)] [(.ref w4)])) _
            exact k
          exact own_retA X39 hx hret rfl ⟨rfl, rfl⟩ hlk (hb hby d3_35) (⟨congrArg (fun z => some (Value.ref z)) (by unfold own_src; rw [if_neg c2_32, if_neg c11_34, if_neg c20_36, if_pos c29_38]), N0, e39⟩) (by decide) (by decide)
        · refine own_Go.mono (T' := s₁) (f' := (mkF m 38 #[.val (.int p0)] [(.int (5 : Int32)), (.int p0)])) (fun t k => ?_) ?_
          · show Steps p.tables e below (s₁.setTop (mkF m 29 #[.val (.int p0)] [(.int (4 : Int32)), (.int p0)])) _
            refine XS.icmpYes X0.here hx rfl (pc0 := 29) (pc' := 36) rfl (hb hby d3_29) rfl (feq c29_38).2 (by decide) (by decide) ?_
            show Steps p.tables e below (s₁.setTop (mkF m 36 #[.val (.int p0)] [])) _
            refine XS.iloadN X0.here hx rfl (hb hby d3_36) rfl ?_
            show Steps p.tables e below (s₁.setTop (mkF m 37 #[.val (.int p0)] [(.int p0)])) _
            refine XS.iconst X0.here hx rfl (hb hby d3_37) ?_
            show Steps p.tables e below (s₁.setTop (mkF m 38 #[.val (.int p0)] [(.int (5 : Int32)), (.int p0)])) _
            exact k
          by_cases c38_40 : p0 = (5 : Int32)
          · obtain ⟨T41, X41, e41, st41⟩ := getS2 X0 hx hZ hown (host := "") (Or.inl (hw _ (List.mem_of_getElem? (i := 36) rfl))) Via.refl e0 S5_ (g := (mkF m 41 #[.val (.int p0)] [])) rfl (hb hby d3_41)
            refine own_Go.mono (T' := T41) (f' := (mkF m 44 #[.val (.int p0)] [(.ref w5)])) (fun t k => ?_) ?_
            · show Steps p.tables e below (s₁.setTop (mkF m 38 #[.val (.int p0)] [(.int (5 : Int32)), (.int p0)])) _
              refine XS.icmpNo X0.here hx rfl (hb hby d3_38) rfl (teq c38_40).2 ?_
              show Steps p.tables e below (s₁.setTop (mkF m 41 #[.val (.int p0)] [])) _
              refine st41 _ ?_
              show Steps p.tables e below (T41.setTop (mkF m 44 #[.val (.int p0)] [(.ref w5)])) _
              exact k
            exact own_retA X41 hx hret rfl ⟨rfl, rfl⟩ hlk (hb hby d3_44) (⟨congrArg (fun z => some (Value.ref z)) (by unfold own_src; rw [if_neg c2_32, if_neg c11_34, if_neg c20_36, if_neg c29_38, if_pos c38_40]), N0, e41⟩) (by decide) (by decide)
          · obtain ⟨T42, X42, e42, st42⟩ := getS2 X0 hx hZ hown (host := "") (Or.inl (hw _ (List.mem_of_getElem? (i := 31) rfl))) Via.refl e0 S0_ (g := (mkF m 45 #[.val (.int p0)] [])) rfl (hb hby d3_45)
            refine own_Go.mono (T' := T42) (f' := (mkF m 48 #[.val (.int p0)] [(.ref w0)])) (fun t k => ?_) ?_
            · show Steps p.tables e below (s₁.setTop (mkF m 38 #[.val (.int p0)] [(.int (5 : Int32)), (.int p0)])) _
              refine XS.icmpYes X0.here hx rfl (pc0 := 38) (pc' := 45) rfl (hb hby d3_38) rfl (feq c38_40).2 (by decide) (by decide) ?_
              show Steps p.tables e below (s₁.setTop (mkF m 45 #[.val (.int p0)] [])) _
              refine st42 _ ?_
              show Steps p.tables e below (T42.setTop (mkF m 48 #[.val (.int p0)] [(.ref w0)])) _
              exact k
            exact own_retA X42 hx hret rfl ⟨rfl, rfl⟩ hlk (hb hby d3_48) (⟨congrArg (fun z => some (Value.ref z)) (by unfold own_src; rw [if_neg c2_32, if_neg c11_34, if_neg c20_36, if_neg c29_38, if_neg c38_40]), N0, e42⟩) (by decide) (by decide)
theorem ef_rm0 (m : MethodId) (x0 : Int32) : entryFrame m #[(.int x0)] maxLocals = mkF m 0 #[.val (.int x0), .unset, .unset] [] := by first | (simp [entryFrame, mkF, argsToLocals, Value.category, maxLocals]; done) | rfl
def Q0 (Z : State) (p0 : Int32) (a : Addr) (k : ClassId) (w0 : Addr) (w1 : Addr) (w2 : Addr) (w3 : Addr) (w4 : Addr) (w5 : Addr) (h0 : Heap) (n0 : Nat) (v : Option Value) (h : Heap) (L : List Loc) : Prop := v = some (.int 1) ∧ Fr n0 L
set_option maxRecDepth 65536 in
set_option maxHeartbeats 40000000 in
theorem rm0 (l : Launch) (Z : State) (a0 : Array Value) (hw : ∀ d ∈ tables_1, d.before a0 Z = true) (ws : List Jvm.Cond) (p0 : Int32) (a : Addr) (k : ClassId) (w0 : Addr) (w1 : Addr) (w2 : Addr) (w3 : Addr) (w4 : Addr) (w5 : Addr) (h0 : Heap) (n0 : Nat) (Z0 : n0 ≤ h0.size) (S : Sta Z h0 "com/example/humble_log/humblelog/protocol/ConfigSource" "$VALUES" "[Lcom/example/humble_log/humblelog/protocol/ConfigSource;" (.ref a)) (V : Arv Z h0 a k (.object "com/example/humble_log/humblelog/protocol/ConfigSource") (6 : Int32) [(.ref w0), (.ref w1), (.ref w2), (.ref w3), (.ref w4), (.ref w5)] .null) (E : Exa Z h0 a "[Lcom/example/humble_log/humblelog/protocol/ConfigSource;") (S0_ : Sta Z h0 "com/example/humble_log/humblelog/protocol/ConfigSource" "UNKNOWN" "Lcom/example/humble_log/humblelog/protocol/ConfigSource;" (.ref w0)) (S1_ : Sta Z h0 "com/example/humble_log/humblelog/protocol/ConfigSource" "DYNAMIC_TOPIC_CONFIG" "Lcom/example/humble_log/humblelog/protocol/ConfigSource;" (.ref w1)) (S2_ : Sta Z h0 "com/example/humble_log/humblelog/protocol/ConfigSource" "DYNAMIC_BROKER_CONFIG" "Lcom/example/humble_log/humblelog/protocol/ConfigSource;" (.ref w2)) (S3_ : Sta Z h0 "com/example/humble_log/humblelog/protocol/ConfigSource" "DYNAMIC_DEFAULT_BROKER_CONFIG" "Lcom/example/humble_log/humblelog/protocol/ConfigSource;" (.ref w3)) (S4_ : Sta Z h0 "com/example/humble_log/humblelog/protocol/ConfigSource" "STATIC_BROKER_CONFIG" "Lcom/example/humble_log/humblelog/protocol/ConfigSource;" (.ref w4)) (S5_ : Sta Z h0 "com/example/humble_log/humblelog/protocol/ConfigSource" "DEFAULT_CONFIG" "Lcom/example/humble_log/humblelog/protocol/ConfigSource;" (.ref w5)) (F0_ : Fld Z h0 w0 "com/example/humble_log/humblelog/protocol/ConfigSource" "code" "B" (.int (0 : Int32))) (F1_ : Fld Z h0 w1 "com/example/humble_log/humblelog/protocol/ConfigSource" "code" "B" (.int (1 : Int32))) (F2_ : Fld Z h0 w2 "com/example/humble_log/humblelog/protocol/ConfigSource" "code" "B" (.int (2 : Int32))) (F3_ : Fld Z h0 w3 "com/example/humble_log/humblelog/protocol/ConfigSource" "code" "B" (.int (3 : Int32))) (F4_ : Fld Z h0 w4 "com/example/humble_log/humblelog/protocol/ConfigSource" "code" "B" (.int (4 : Int32))) (F5_ : Fld Z h0 w5 "com/example/humble_log/humblelog/protocol/ConfigSource" "code" "B" (.int (5 : Int32))) :
    MetFree l x (head1 (Jvm.Cond.code x code maxLocals ret :: ws) room_1) (fun a U => a = #[(.int p0)] ∧ Z.Warmed39 U.vm ∧ U.heap = h0) (fun _ _ _ _ _ => True) (fun _ U o U' => ∃ v L, o = .returned v ∧ Q0 Z p0 a k w0 w1 w2 w3 w4 w5 h0 n0 v U'.heap L ∧ FrameEnd U o U' L 16 128) := by
  refine own_body (Qv := Q0 Z p0 a k w0 w1 w2 w3 w4 w5 h0 n0) (plainFor_of_name (by first | (simp [plainName, overriddenIn]; done) | decide +kernel)) ?_
  intro p e s m below meth c s₁ hx hby hml hret hlk hown hnm hZ X0 e0
  replace hown : s.vm.findClass "com/example/humble_log/humblelog/protocol/ConfigSourceForCodePinLaw" = some m.cls := hown
  replace hnm : meth.name = "law" := hnm
  have N0 := Fr.nil n0
  replace hml : c.maxLocals = 3 := hml
  refine own_Go.mono (T' := s₁) (f' := (mkF m 0 #[.val (.int p0), .unset, .unset] [])) (fun t k => castTop (ef_rm0 m p0) k) ?_
  obtain ⟨_, _, ⟨T43, L43, k43, n43⟩, -, X43, ⟨Lc43, hQ43, l43, y43, z43⟩, st43⟩ := Jvm.LawKit.callS X0 hx (y := (⟨"com/example/humble_log/humblelog/protocol/ConfigSource", "forCode", "(B)Lcom/example/humble_log/humblelog/protocol/ConfigSource;"⟩ : MethodName)) hown (mvT hZ (hw _ (List.mem_of_getElem? (i := 0) rfl))) (mvT hZ (hw _ (List.mem_of_getElem? (i := 1) rfl))) (mvT hZ (hw _ (List.mem_of_getElem? (i := 2) rfl))) (mvT hZ (hw _ (List.mem_of_getElem? (i := 3) rfl))) (by decide) (backOf (W := 0) (rm1 l Z a0 hw [] (p0.toInt8.toInt32) a k w0 w1 w2 w3 w4 w5 h0 n0 Z0 S V E S0_ F0_ F1_ F2_ F3_ F4_ F5_) hZ (hw _ (List.mem_of_getElem? (i := 3) rfl)) (hw _ (List.mem_of_getElem? (i := 2) rfl)) (by decide) (by decide)) (g := (mkF m 4 #[.val (.int p0), .val (.int (p0.toInt8.toInt32)), .unset] [(.int (p0.toInt8.toInt32))])) rfl (by rw [hml]; rfl) (argsL := [(.int (p0.toInt8.toInt32))]) (rest := []) (lenOf pd_1 rfl) rfl (by show 2 * 0 + _ ≤ _; exact Nat.le_of_eq rfl) (hb hby at_4) (fun _ _ => ⟨rfl, e0, (by decide : 0 + 1 ≤ _), (by decide : 0 + 6 ≤ _)⟩)
  dsimp only [Pt.U, Pt.locs, Pt.cells, Pt.slots] at X43 l43 y43 z43 st43 hQ43
  subst l43 y43 z43
  obtain ⟨rfl, N43q, K43⟩ := hQ43
  have N43 := Fr.app N0 N43q
  obtain ⟨_, _, ⟨T44, L44, k44, n44⟩, -, X44, ⟨Lc44, hQ44, l44, y44, z44⟩, st44⟩ := Jvm.LawKit.callS X43 hx (y := (⟨"com/example/humble_log/humblelog/protocol/ConfigSourceForCodePinLaw", "expected", "(B)Lcom/example/humble_log/humblelog/protocol/ConfigSource;"⟩ : MethodName)) hown (mvT hZ (hw _ (List.mem_of_getElem? (i := 27) rfl))) (mvT hZ (hw _ (List.mem_of_getElem? (i := 28) rfl))) (mvT hZ (hw _ (List.mem_of_getElem? (i := 29) rfl))) (mvT hZ (hw _ (List.mem_of_getElem? (i := 30) rfl))) (by decide) (backOf (W := 1) (rm3 l Z a0 hw [] (p0.toInt8.toInt32) w0 w1 w2 w3 w4 w5 T43.heap n0 (Nat.le_trans Z0 K43.1) (S0_.ext (own_ext K43)) (S1_.ext (own_ext K43)) (S2_.ext (own_ext K43)) (S3_.ext (own_ext K43)) (S4_.ext (own_ext K43)) (S5_.ext (own_ext K43))) hZ (hw _ (List.mem_of_getElem? (i := 30) rfl)) (hw _ (List.mem_of_getElem? (i := 29) rfl)) (by decide) (by decide)) (g := (mkF m 10 #[.val (.int p0), .val (.int (p0.toInt8.toInt32)), .val (.ref (own_src w0 w1 w2 w3 w4 w5 (p0.toInt8.toInt32)))] [(.int (p0.toInt8.toInt32)), (.ref (own_src w0 w1 w2 w3 w4 w5 (p0.toInt8.toInt32)))])) rfl (by rw [hml]; rfl) (argsL := [(.int (p0.toInt8.toInt32))]) (rest := [(.ref (own_src w0 w1 w2 w3 w4 w5 (p0.toInt8.toInt32)))]) (lenOf pd_1 rfl) rfl (by show 2 * 0 + _ ≤ _; exact Nat.le_of_eq rfl) (hb hby at_10) (fun _ _ => ⟨rfl, rfl, (by decide : 1 + 0 ≤ _), (by decide : 6 + 0 ≤ _)⟩)
  dsimp only [Pt.U, Pt.locs, Pt.cells, Pt.slots] at X44 l44 y44 z44 st44 hQ44
  subst l44 y44 z44
  obtain ⟨rfl, N44q, hh44⟩ := hQ44
  have N44 := Fr.app N43 N44q
  refine own_Go.mono (T' := T44) (f' := (mkF m 21 #[.val (.int p0), .val (.int (p0.toInt8.toInt32)), .val (.ref (own_src w0 w1 w2 w3 w4 w5 (p0.toInt8.toInt32)))] [(.int (1 : Int32))])) (fun t k => ?_) ?_
  · show Steps p.tables e below (s₁.setTop (mkF m 0 #[.val (.int p0), .unset, .unset] [])) _
    refine XS.iloadN X0.here hx rfl (hb hby at_0) rfl ?_
    show Steps p.tables e below (s₁.setTop (mkF m 1 #[.val (.int p0), .unset, .unset] [(.int p0)])) _
    refine XS.i2b X0.here hx rfl (hb hby at_1) rfl ?_
    show Steps p.tables e below (s₁.setTop (mkF m 2 #[.val (.int p0), .unset, .unset] [(.int (p0.toInt8.toInt32))])) _
    refine XS.istoreN X0.here hx rfl (hb hby at_2) rfl (l' := #[.val (.int p0), .val (.int (p0.toInt8.toInt32)), .unset]) rfl ?_
    show Steps p.tables e below (s₁.setTop (mkF m 3 #[.val (.int p0), .val (.int (p0.toInt8.toInt32)), .unset] [])) _
    refine XS.iloadN X0.here hx rfl (hb hby at_3) rfl ?_
    show Steps p.tables e below (s₁.setTop (mkF m 4 #[.val (.int p0), .val (.int (p0.toInt8.toInt32)), .unset] [(.int (p0.toInt8.toInt32))])) _
    refine st43 _ ?_
    show Steps p.tables e below (T43.setTop (mkF m 7 #[.val (.int p0), .val (.int (p0.toInt8.toInt32)), .unset] [(.ref (own_src w0 w1 w2 w3 w4 w5 (p0.toInt8.toInt32)))])) _
    refine XS.astoreN X43.here hx rfl (hb hby at_7) rfl rfl (l' := #[.val (.int p0), .val (.int (p0.toInt8.toInt32)), .val (.ref (own_src w0 w1 w2 w3 w4 w5 (p0.toInt8.toInt32)))]) rfl ?_
    show Steps p.tables e below (T43.setTop (mkF m 8 #[.val (.int p0), .val (.int (p0.toInt8.toInt32)), .val (.ref (own_src w0 w1 w2 w3 w4 w5 (p0.toInt8.toInt32)))] [])) _
    refine XS.aloadN X43.here hx rfl (hb hby at_8) rfl rfl ?_
    show Steps p.tables e below (T43.setTop (mkF m 9 #[.val (.int p0), .val (.int (p0.toInt8.toInt32)), .val (.ref (own_src w0 w1 w2 w3 w4 w5 (p0.toInt8.toInt32)))] [(.ref (own_src w0 w1 w2 w3 w4 w5 (p0.toInt8.toInt32)))])) _
    refine XS.iloadN X43.here hx rfl (hb hby at_9) rfl ?_
    show Steps p.tables e below (T43.setTop (mkF m 10 #[.val (.int p0), .val (.int (p0.toInt8.toInt32)), .val (.ref (own_src w0 w1 w2 w3 w4 w5 (p0.toInt8.toInt32)))] [(.int (p0.toInt8.toInt32)), (.ref (own_src w0 w1 w2 w3 w4 w5 (p0.toInt8.toInt32)))])) _
    refine st44 _ ?_
    show Steps p.tables e below (T44.setTop (mkF m 13 #[.val (.int p0), .val (.int (p0.toInt8.toInt32)), .val (.ref (own_src w0 w1 w2 w3 w4 w5 (p0.toInt8.toInt32)))] [(.ref (own_src w0 w1 w2 w3 w4 w5 (p0.toInt8.toInt32))), (.ref (own_src w0 w1 w2 w3 w4 w5 (p0.toInt8.toInt32)))])) _
    refine Jvm.RoadKit.acmp (g := (mkF m 13 #[.val (.int p0), .val (.int (p0.toInt8.toInt32)), .val (.ref (own_src w0 w1 w2 w3 w4 w5 (p0.toInt8.toInt32)))] [(.ref (own_src w0 w1 w2 w3 w4 w5 (p0.toInt8.toInt32))), (.ref (own_src w0 w1 w2 w3 w4 w5 (p0.toInt8.toInt32)))])) X44 hx rfl rfl rfl (pc0 := 13) (pc' := 16) (same := true) rfl (hb hby at_13) rfl (decide_eq_true rfl) (by decide) (by decide) ?_
    show Steps p.tables e below (T44.setTop (mkF m 16 #[.val (.int p0), .val (.int (p0.toInt8.toInt32)), .val (.ref (own_src w0 w1 w2 w3 w4 w5 (p0.toInt8.toInt32)))] [])) _
    refine XS.iconst X44.here hx rfl (hb hby at_16) ?_
    show Steps p.tables e below (T44.setTop (mkF m 17 #[.val (.int p0), .val (.int (p0.toInt8.toInt32)), .val (.ref (own_src w0 w1 w2 w3 w4 w5 (p0.toInt8.toInt32)))] [(.int (1 : Int32))])) _
    refine XS.goto X44.here hx rfl (pc0 := 17) (pc' := 21) rfl (hb hby at_17) (by decide) (by decide) ?_
    show Steps p.tables e below (T44.setTop (mkF m 21 #[.val (.int p0), .val (.int (p0.toInt8.toInt32)), .val (.ref (own_src w0 w1 w2 w3 w4 w5 (p0.toInt8.toInt32)))] [(.int (1 : Int32))])) _
    exact k
  exact own_retN X44 hx (t := .boolean) hret (by simp) hlk (hb hby at_21) (⟨rfl, N44⟩) (by decide) (by decide)
set_option maxRecDepth 65536 in
set_option maxHeartbeats 40000000 in
theorem own_comes {Post : Tables → Env → Array Value → State → Outcome → State → Prop} (hpost : ∀ tb e args s v u, (limb_1_1.after args s (.returned v) u = true ∧ limb_1_2.after args s (.returned v) u = true) → FrameEnd s (.returned v) u (Jvm.fieldLocs frame_1_writes args s ++ Jvm.arrayLocs frame_1_arrays args s ++ Jvm.staticLocs frame_1_statics s) 16 128 → Post tb e args s (.returned v) u) :
    ArmFor flags0 classFile x code maxLocals ret World_1 tables_1 room_1 Calls_1 rest_1 Pre_1 Post := by
  intro l hfl _ _ p e ha hc hk s m args below hf hA hF happ hP
  obtain ⟨hcalls, hrest, hpre⟩ := hP
  obtain ⟨-, -, -, hnamed, -, -, -, hat⟩ := (Spec.applies_iff hf).mp happ
  obtain ⟨hg, hn⟩ := and_e (Cond.before_iff.mp (show (Jvm.Cond.and given_1 narrow_1).before args s = true from hpre))
  obtain ⟨g0, k0⟩ := and_e hg
  obtain ⟨w0, rfl⟩ : ∃ w0 : Value, args = #[w0] := by
    have hs : args.size = 1 := by simpa [Cond.value, given_1] using g0
    obtain ⟨L⟩ := args
    match L, hs with
    | [w0], _ => exact ⟨w0, rfl⟩
  have hw := fun d (hd : d ∈ tables_1) => atoms_spec (ws := Jvm.Cond.code x code maxLocals ret :: tables_1) hat d (List.mem_cons_of_mem _ hd)
  obtain ⟨i0, ei0⟩ := is_v k0
  obtain rfl : w0 = (.int i0) := Option.some.inj ei0
  obtain ⟨y0, z0⟩ := and_e hn
  obtain ⟨y1, z1⟩ := and_e z0
  obtain ⟨y2, z2⟩ := and_e z1
  obtain ⟨y3, z3⟩ := and_e z2
  obtain ⟨y4, z4⟩ := and_e z3
  obtain ⟨y5, z5⟩ := and_e z4
  obtain ⟨y6, z6⟩ := and_e z5
  obtain ⟨y7, z7⟩ := and_e z6
  obtain ⟨y8, z8⟩ := and_e z7
  obtain ⟨y9, z9⟩ := and_e z8
  obtain ⟨y10, z10⟩ := and_e z9
  obtain ⟨y11, z11⟩ := and_e z10
  obtain ⟨y12, z12⟩ := and_e z11
  obtain ⟨y13, z13⟩ := and_e z12
  obtain ⟨y14, z14⟩ := and_e z13
  obtain ⟨y15, z15⟩ := and_e z14
  obtain ⟨y16, z16⟩ := and_e z15
  obtain ⟨y17, z17⟩ := and_e z16
  obtain ⟨y18, z18⟩ := and_e z17
  obtain ⟨y19, z19⟩ := and_e z18
  have hfit : Fit s := fun {y c} hc i hi => by
    obtain ⟨ha, rfl⟩ := Array.getElem?_eq_some_iff.mp hc
    have q := List.all_eq_true.mp ((Array.all_eq_true_iff_forall_mem.mp hF) _ (Array.getElem_mem ha)) i (List.mem_range.mpr hi)
    simpa [Array.getElem?_eq_getElem hi] using q
  obtain ⟨a, eva⟩ := arr_v y0
  obtain ⟨cl, Ar⟩ := Arr.start eva y0
  have E := Exa.start eva y1
  obtain ⟨hsz, hln⟩ := own_len eva Ar y2
  have S := Sta.start eva (Or.inl (hw _ (List.mem_of_getElem? (i := 22) rfl)))
  obtain ⟨u0, ev0, S0_, E0_⟩ := own_keyI y3 (hw _ (List.mem_of_getElem? (i := 2) rfl)) (hw _ (List.mem_of_getElem? (i := 16) rfl))
  have el0 := own_elem eva Ar ev0 (by decide) y4
  obtain ⟨u1, ev1, S1_, E1_⟩ := own_keyI y5 (hw _ (List.mem_of_getElem? (i := 2) rfl)) (hw _ (List.mem_of_getElem? (i := 17) rfl))
  have el1 := own_elem eva Ar ev1 (by decide) y6
  obtain ⟨u2, ev2, S2_, E2_⟩ := own_keyI y7 (hw _ (List.mem_of_getElem? (i := 2) rfl)) (hw _ (List.mem_of_getElem? (i := 18) rfl))
  have el2 := own_elem eva Ar ev2 (by decide) y8
  obtain ⟨u3, ev3, S3_, E3_⟩ := own_keyI y9 (hw _ (List.mem_of_getElem? (i := 2) rfl)) (hw _ (List.mem_of_getElem? (i := 19) rfl))
  have el3 := own_elem eva Ar ev3 (by decide) y10
  obtain ⟨u4, ev4, S4_, E4_⟩ := own_keyI y11 (hw _ (List.mem_of_getElem? (i := 2) rfl)) (hw _ (List.mem_of_getElem? (i := 20) rfl))
  have el4 := own_elem eva Ar ev4 (by decide) y12
  obtain ⟨u5, ev5, S5_, E5_⟩ := own_keyI y13 (hw _ (List.mem_of_getElem? (i := 2) rfl)) (hw _ (List.mem_of_getElem? (i := 21) rfl))
  have el5 := own_elem eva Ar ev5 (by decide) y14
  have F0_ := own_pin ev0 y15
  have F1_ := own_pin ev1 y16
  have F2_ := own_pin ev2 y17
  have F3_ := own_pin ev3 y18
  have F4_ := own_pin ev4 y19
  have F5_ := own_pin ev5 z19
  obtain ⟨k, hk0⟩ : ∃ k, k = cl.cls := ⟨_, rfl⟩
  have V : Arv s s.heap a k (.object "com/example/humble_log/humblelog/protocol/ConfigSource") (6 : Int32) [(.ref u0), (.ref u1), (.ref u2), (.ref u3), (.ref u4), (.ref u5)] .null := by rw [hk0]; exact Arv.start hfit Ar hsz hln (by decide) rfl ⟨el0, el1, el2, el3, el4, el5, trivial⟩
  obtain ⟨n, o, h1, h2, h3, vv, L, rfl, ⟨rfl, N⟩, hq⟩ := rm0 l s _ hw tables_1 i0 a k u0 u1 u2 u3 u4 u5 s.heap s.heap.size (Nat.le_refl _) S V E S0_ S1_ S2_ S3_ S4_ S5_ F0_ F1_ F2_ F3_ F4_ F5_ p e ha hc hk s m _ below hf ((Spec.applies_iff_loose hf).mp happ).1 ⟨rfl, State.Warmed39.refl s, rfl⟩ trivial
  refine ⟨n, _, h1, h2, h3, hpost _ _ _ _ _ _ ⟨Cond.after_iff.mpr rfl, Cond.after_iff.mpr (eq_i res_at (Term.int_eval (1)) rfl)⟩ ⟨hq.1, hq.2.1, (hq.2.2.sift fun y hy => Or.inr (N y hy)).mono (by decide) (by decide)⟩⟩
theorem main_1_1 : Claimed_1_1 := own_comes fun _ _ _ _ _ _ h hF => ⟨h.1, hF⟩
theorem main_1_2 : Claimed_1_2 := own_comes fun _ _ _ _ _ _ h hF => ⟨h.2, hF⟩
end Jvm.Pilot.@@N@@
namespace Jvm.Pilot.@@N@@
open Jvm Jvm.ClassFile Sem Op Lib Jvm.Free Jvm.Stand Jvm.Pilot.@@N@@.Jvm.D
/-! MADE BY PROGRAM (witnessworld.py) out of the Statement's table words and the real class files: 13 classes; the members and pool entries that the words name. The judged class is class 1, her method 2. -/
namespace start1
open Jvm.ClassFile
def u (s : String) : CpInfo := .utf8 (stringToUtf16 s)
/-- a pool by its gaps: so many unusable entries, then the entry; so many at the end -/
def gap : Nat → List CpInfo → List CpInfo
  | 0, r => r
  | n + 1, r => .unusable :: gap n r
def poolList (es : List (Nat × CpInfo)) (last : Nat) : List CpInfo := es.foldr (fun e r => gap e.1 (e.2 :: r)) (gap last [])
def pool (es : List (Nat × CpInfo)) (last : Nat) : Array CpInfo := ⟨poolList es last⟩
def fileOf (pool : Array CpInfo) (this : Nat) (attrs : Array Attribute := #[]) (ms : Array MethodInfo := #[]) (fl : Nat := 33) (sup : Nat := 0) (ifs : Array Nat := #[]) (fds : Array FieldInfo := #[]) : ClassFile where
  minorVersion := 0
  majorVersion := 65
  constantPool := pool
  accessFlags := fl
  thisClass := this
  superClass := sup
  interfaces := ifs
  fields := fds
  methods := ms
  attributes := attrs
def plain (name : String) (sup : Option ClassId) : Class where
  name := name
  kind := .ordinary
  loader := none
  accessFlags := 33
  super := sup
  interfaces := #[]
  cf := none
  fields := #[]
  methods := #[]
  instanceTypes := #[]
  staticTypes := #[]
  resolved := #[]
  callSites := []
  init := .initialized
  statics := none
  mirror := none

def pool0 : Array CpInfo := pool [(5, u "<init>"), (0, u "()V"), (1, .class_ 10), (1, u "java/lang/Object"), (85, u "clone"), (0, u "()Ljava/lang/Object;")] 26

def k0m0 : Method := { name := "<init>", desc := "()V", sig := { parameters := [], returnType := none }, accessFlags := 1, code := none }
def k0m1 : Method := { name := "clone", desc := "()Ljava/lang/Object;", sig := { parameters := [], returnType := some (.object "java/lang/Object") }, accessFlags := 260, code := none }
/-- java/lang/Object -/
def k0 : Class := { plain "java/lang/Object" none with
  accessFlags := 33
  interfaces := #[]
  cf := some (fileOf pool0 8 #[] #[{ accessFlags := 1, nameIndex := 5, descriptorIndex := 6, attributes := #[] }, { accessFlags := 260, nameIndex := 96, descriptorIndex := 97, attributes := #[] }] 33 0 #[] #[])
  fields := #[]
  methods := #[k0m0, k0m1]
  instanceTypes := #[]
  staticTypes := #[]
  resolved := Array.replicate 124 none
  statics := none }

def pool1 : Array CpInfo := pool [(2, .class_ 4), (1, u "java/lang/Object"), (0, u "<init>"), (0, u "()V"), (0, .fieldref 8 9), (0, .class_ 10), (0, .nameAndType 11 12), (0, u "com/example/humble_log/humblelog/protocol/ConfigSource"), (0, u "DYNAMIC_TOPIC_CONFIG"), (0, u "Lcom/example/humble_log/humblelog/protocol/ConfigSource;"), (0, .fieldref 8 14), (0, .nameAndType 15 12), (0, u "DYNAMIC_BROKER_CONFIG"), (0, .fieldref 8 17), (0, .nameAndType 18 12), (0, u "DYNAMIC_DEFAULT_BROKER_CONFIG"), (0, .fieldref 8 20), (0, .nameAndType 21 12), (0, u "STATIC_BROKER_CONFIG"), (0, .fieldref 8 23), (0, .nameAndType 24 12), (0, u "DEFAULT_CONFIG"), (0, .fieldref 8 26), (0, .nameAndType 27 12), (0, u "UNKNOWN"), (0, .methodref 8 29), (0, .nameAndType 30 31), (0, u "forCode"), (0, u "(B)Lcom/example/humble_log/humblelog/protocol/ConfigSource;"), (0, .methodref 33 34), (0, .class_ 35), (0, .nameAndType 36 31), (0, u "com/example/humble_log/humblelog/protocol/ConfigSourceForCodePinLaw"), (0, u "expected"), (3, u "law"), (0, u "(I)Z")] 2

def k1m0 : Method := { name := "<init>", desc := "()V", sig := { parameters := [], returnType := none }, accessFlags := 2, code := none }
def k1c1 : Code := { maxStack := 2, maxLocals := 1, code := method_2_code, exceptionTable := #[], attributes := #[] }
def k1m1 : Method := { name := "expected", desc := "(B)Lcom/example/humble_log/humblelog/protocol/ConfigSource;", sig := { parameters := [.byte], returnType := some (.object "com/example/humble_log/humblelog/protocol/ConfigSource") }, accessFlags := 10, code := some k1c1 }
def k1c2 : Code := { maxStack := 2, maxLocals := 3, code := code, exceptionTable := #[], attributes := #[] }
def k1m2 : Method := { name := "law", desc := "(I)Z", sig := { parameters := [.int], returnType := some .boolean }, accessFlags := 9, code := some k1c2 }
/-- com/example/humble_log/humblelog/protocol/ConfigSourceForCodePinLaw -/
def k1 : Class := { plain "com/example/humble_log/humblelog/protocol/ConfigSourceForCodePinLaw" (some 0) with
  accessFlags := 49
  interfaces := #[]
  cf := some (fileOf pool1 33 #[] #[{ accessFlags := 2, nameIndex := 5, descriptorIndex := 6, attributes := #[] }, { accessFlags := 10, nameIndex := 36, descriptorIndex := 31, attributes := #[] }, { accessFlags := 9, nameIndex := 40, descriptorIndex := 41, attributes := #[] }] 49 2 #[] #[])
  fields := #[]
  methods := #[k1m0, k1m1, k1m2]
  instanceTypes := #[]
  staticTypes := #[]
  resolved := Array.replicate 44 none
  statics := none }

def pool2 : Array CpInfo := pool [(1, .class_ 2), (0, u "java/lang/constant/Constable"), (0, .class_ 4), (0, u "java/lang/Object")] 6

/-- java/lang/constant/Constable -/
def k2 : Class := { plain "java/lang/constant/Constable" (some 0) with
  accessFlags := 1537
  interfaces := #[]
  cf := some (fileOf pool2 1 #[] #[] 1537 3 #[] #[])
  fields := #[]
  methods := #[]
  instanceTypes := #[]
  staticTypes := #[]
  resolved := Array.replicate 11 none
  statics := none }

def pool3 : Array CpInfo := pool [(1, .class_ 2), (0, u "java/lang/Comparable"), (0, .class_ 4), (0, u "java/lang/Object")] 7

/-- java/lang/Comparable -/
def k3 : Class := { plain "java/lang/Comparable" (some 0) with
  accessFlags := 1537
  interfaces := #[]
  cf := some (fileOf pool3 1 #[] #[] 1537 3 #[] #[])
  fields := #[]
  methods := #[]
  instanceTypes := #[]
  staticTypes := #[]
  resolved := Array.replicate 12 none
  statics := none }

def pool4 : Array CpInfo := pool [(1, .class_ 2), (0, u "java/io/Serializable"), (0, .class_ 4), (0, u "java/lang/Object")] 2

/-- java/io/Serializable -/
def k4 : Class := { plain "java/io/Serializable" (some 0) with
  accessFlags := 1537
  interfaces := #[]
  cf := some (fileOf pool4 1 #[] #[] 1537 3 #[] #[])
  fields := #[]
  methods := #[]
  instanceTypes := #[]
  staticTypes := #[]
  resolved := Array.replicate 7 none
  statics := none }

def pool5 : Array CpInfo := pool [(2, .class_ 4), (1, u "java/lang/Enum"), (0, u "name"), (0, u "Ljava/lang/String;"), (2, u "ordinal"), (0, u "I"), (1, .class_ 14), (1, u "java/lang/Object"), (4, u "hash"), (86, .class_ 108), (1, u "java/lang/Enum$EnumDesc"), (2, .class_ 112), (0, u "java/lang/constant/Constable"), (0, .class_ 114), (0, u "java/lang/Comparable"), (0, .class_ 116), (0, u "java/io/Serializable")] 87

/-- java/lang/Enum -/
def k5 : Class := { plain "java/lang/Enum" (some 0) with
  accessFlags := 1057
  interfaces := #[2, 3, 4]
  cf := some (fileOf pool5 2 #[.nestMembers #[106]] #[] 1057 12 #[111, 113, 115] #[{ accessFlags := 18, nameIndex := 5, descriptorIndex := 6, attributes := #[] }, { accessFlags := 18, nameIndex := 9, descriptorIndex := 10, attributes := #[] }, { accessFlags := 2, nameIndex := 19, descriptorIndex := 10, attributes := #[] }])
  fields := #[{ name := "name", type := (.object "java/lang/String"), accessFlags := 18, slot := 0, constantValue := 0 }, { name := "ordinal", type := .int, accessFlags := 18, slot := 1, constantValue := 0 }, { name := "hash", type := .int, accessFlags := 2, slot := 2, constantValue := 0 }]
  methods := #[]
  instanceTypes := #[(.object "java/lang/String"), .int, .int]
  staticTypes := #[]
  resolved := Array.replicate 204 none
  statics := none }

def pool6 : Array CpInfo := pool [(1, .class_ 2), (0, u "com/example/humble_log/humblelog/protocol/ConfigSource"), (0, .fieldref 1 4), (0, .nameAndType 5 6), (0, u "UNKNOWN"), (0, u "Lcom/example/humble_log/humblelog/protocol/ConfigSource;"), (2, u "DYNAMIC_TOPIC_CONFIG"), (2, u "DYNAMIC_BROKER_CONFIG"), (2, u "DYNAMIC_DEFAULT_BROKER_CONFIG"), (2, u "STATIC_BROKER_CONFIG"), (2, u "DEFAULT_CONFIG"), (0, .fieldref 1 23), (0, .nameAndType 24 25), (0, u "$VALUES"), (0, u "[Lcom/example/humble_log/humblelog/protocol/ConfigSource;"), (0, .methodref 27 28), (0, .class_ 25), (0, .nameAndType 29 30), (0, u "clone"), (0, u "()Ljava/lang/Object;"), (1, .class_ 34), (1, u "java/lang/Enum"), (6, .fieldref 1 42), (0, .nameAndType 43 44), (0, u "code"), (0, u "B"), (0, .methodref 1 46), (0, .nameAndType 47 48), (0, u "values"), (0, u "()[Lcom/example/humble_log/humblelog/protocol/ConfigSource;"), (18, u "forCode"), (0, u "(B)Lcom/example/humble_log/humblelog/protocol/ConfigSource;")] 7

def k6c0 : Code := { maxStack := 1, maxLocals := 0, code := prog_23_method_1_code, exceptionTable := #[], attributes := #[] }
def k6m0 : Method := { name := "values", desc := "()[Lcom/example/humble_log/humblelog/protocol/ConfigSource;", sig := { parameters := [], returnType := some (.array (.object "com/example/humble_log/humblelog/protocol/ConfigSource")) }, accessFlags := 9, code := some k6c0 }
def k6c1 : Code := { maxStack := 2, maxLocals := 5, code := prog_23_method_4_code, exceptionTable := #[], attributes := #[] }
def k6m1 : Method := { name := "forCode", desc := "(B)Lcom/example/humble_log/humblelog/protocol/ConfigSource;", sig := { parameters := [.byte], returnType := some (.object "com/example/humble_log/humblelog/protocol/ConfigSource") }, accessFlags := 9, code := some k6c1 }
/-- com/example/humble_log/humblelog/protocol/ConfigSource -/
def k6 : Class := { plain "com/example/humble_log/humblelog/protocol/ConfigSource" (some 5) with
  accessFlags := 16433
  interfaces := #[]
  cf := some (fileOf pool6 1 #[] #[{ accessFlags := 9, nameIndex := 47, descriptorIndex := 48, attributes := #[] }, { accessFlags := 9, nameIndex := 67, descriptorIndex := 68, attributes := #[] }] 16433 32 #[] #[{ accessFlags := 16409, nameIndex := 5, descriptorIndex := 6, attributes := #[] }, { accessFlags := 16409, nameIndex := 9, descriptorIndex := 6, attributes := #[] }, { accessFlags := 16409, nameIndex := 12, descriptorIndex := 6, attributes := #[] }, { accessFlags := 16409, nameIndex := 15, descriptorIndex := 6, attributes := #[] }, { accessFlags := 16409, nameIndex := 18, descriptorIndex := 6, attributes := #[] }, { accessFlags := 16409, nameIndex := 21, descriptorIndex := 6, attributes := #[] }, { accessFlags := 18, nameIndex := 43, descriptorIndex := 44, attributes := #[] }, { accessFlags := 4122, nameIndex := 24, descriptorIndex := 25, attributes := #[] }])
  fields := #[{ name := "UNKNOWN", type := (.object "com/example/humble_log/humblelog/protocol/ConfigSource"), accessFlags := 16409, slot := 0, constantValue := 0 }, { name := "DYNAMIC_TOPIC_CONFIG", type := (.object "com/example/humble_log/humblelog/protocol/ConfigSource"), accessFlags := 16409, slot := 1, constantValue := 0 }, { name := "DYNAMIC_BROKER_CONFIG", type := (.object "com/example/humble_log/humblelog/protocol/ConfigSource"), accessFlags := 16409, slot := 2, constantValue := 0 }, { name := "DYNAMIC_DEFAULT_BROKER_CONFIG", type := (.object "com/example/humble_log/humblelog/protocol/ConfigSource"), accessFlags := 16409, slot := 3, constantValue := 0 }, { name := "STATIC_BROKER_CONFIG", type := (.object "com/example/humble_log/humblelog/protocol/ConfigSource"), accessFlags := 16409, slot := 4, constantValue := 0 }, { name := "DEFAULT_CONFIG", type := (.object "com/example/humble_log/humblelog/protocol/ConfigSource"), accessFlags := 16409, slot := 5, constantValue := 0 }, { name := "code", type := .byte, accessFlags := 18, slot := 3, constantValue := 0 }, { name := "$VALUES", type := (.array (.object "com/example/humble_log/humblelog/protocol/ConfigSource")), accessFlags := 4122, slot := 6, constantValue := 0 }]
  methods := #[k6m0, k6m1]
  instanceTypes := #[(.object "java/lang/String"), .int, .int, .byte]
  staticTypes := #[(.object "com/example/humble_log/humblelog/protocol/ConfigSource"), (.object "com/example/humble_log/humblelog/protocol/ConfigSource"), (.object "com/example/humble_log/humblelog/protocol/ConfigSource"), (.object "com/example/humble_log/humblelog/protocol/ConfigSource"), (.object "com/example/humble_log/humblelog/protocol/ConfigSource"), (.object "com/example/humble_log/humblelog/protocol/ConfigSource"), (.array (.object "com/example/humble_log/humblelog/protocol/ConfigSource"))]
  resolved := Array.replicate 76 none
  statics := some 0 }

def pool7 : Array CpInfo := pool [(1, .class_ 2), (0, u "java/lang/Cloneable"), (0, .class_ 4), (0, u "java/lang/Object")] 2

/-- java/lang/Cloneable -/
def k7 : Class := { plain "java/lang/Cloneable" (some 0) with
  accessFlags := 1537
  interfaces := #[]
  cf := some (fileOf pool7 1 #[] #[] 1537 3 #[] #[])
  fields := #[]
  methods := #[]
  instanceTypes := #[]
  staticTypes := #[]
  resolved := Array.replicate 7 none
  statics := none }

/-- the primitive byte -/
def k8 : Class := { plain "byte" none with kind := .primitive 'B', accessFlags := 0x411 }
/-- [B -/
def k9 : Class := { plain "[B" (some 0) with kind := .array 8 .byte, interfaces := #[7, 4], accessFlags := 1041 }

/-- the primitive int -/
def k10 : Class := { plain "int" none with kind := .primitive 'I', accessFlags := 0x411 }
/-- [I -/
def k11 : Class := { plain "[I" (some 0) with kind := .array 10 .int, interfaces := #[7, 4], accessFlags := 1041 }

/-- [Lcom/example/humble_log/humblelog/protocol/ConfigSource; -/
def k12 : Class := { plain "[Lcom/example/humble_log/humblelog/protocol/ConfigSource;" (some 0) with kind := .array 6 (.object "com/example/humble_log/humblelog/protocol/ConfigSource"), interfaces := #[7, 4], accessFlags := 1041 }

def heap : Heap := #[{ cls := 6, slots := #[.ref 2, .ref 3, .ref 4, .ref 5, .ref 6, .ref 7, .ref 1], vm := .statics 6 },
  { cls := 12, slots := #[.ref 2, .ref 3, .ref 4, .ref 5, .ref 6, .ref 7], vm := .none },
  { cls := 6, slots := #[.null, .int 0, .int 0, .int 0], vm := .none },
  { cls := 6, slots := #[.null, .int 1, .int 0, .int 1], vm := .none },
  { cls := 6, slots := #[.null, .int 2, .int 0, .int 2], vm := .none },
  { cls := 6, slots := #[.null, .int 3, .int 0, .int 3], vm := .none },
  { cls := 6, slots := #[.null, .int 4, .int 0, .int 4], vm := .none },
  { cls := 6, slots := #[.null, .int 5, .int 0, .int 5], vm := .none }]
def classes : Array Class := #[k0, k1, k2, k3, k4, k5, k6, k7, k8, k9, k10, k11, k12]
def interned : List (Array UInt16 × Addr) := []
def slotsUsed : Nat := 37
def theMethod : MethodId := ⟨1, 2⟩
def args0 : Array Value := #[.int 1]
def aboutOver (below : List Frame) : State where
  vm := { classes := classes, interned := interned.toArray }
  heap := heap
  slotsUsed := slotsUsed
  threads := #[{ frames := .invoking theMethod args0 :: below }]
def below0 : List Frame := [.native { method := ⟨0, 0⟩, args := #[] }]
def about1 : State := aboutOver below0
def p0 : Program := .bare "" "" ""
def e0 : Env := launch0.env 0 0 0
theorem w_frames : about1.frames = Frame.invoking theMethod args0 :: below0 := rfl
set_option maxRecDepth 65536 in
theorem w_args : argsFit about1.vm theMethod args0 = true := by decide +kernel
set_option maxRecDepth 65536 in
theorem w_heap : heapFits about1 = true := by decide +kernel
set_option maxRecDepth 65536 in
theorem w_runnable : about1.curStatus? = some .runnable := by decide +kernel
set_option maxRecDepth 65536 in
theorem w_alone : about1.alone = true := by decide +kernel
set_option maxRecDepth 65536 in
theorem w_named : about1.methodNamed? x = some theMethod := by decide +kernel
set_option maxRecDepth 65536 in
theorem w_hears : about1.hears theMethod below0 = true := by decide +kernel
set_option maxRecDepth 65536 in
theorem w_ripe : about1.ripe theMethod args0 below0 = true := by decide +kernel
theorem w_running : about1.status = .running := rfl
set_option maxRecDepth 65536 in
theorem w_room : about1.hasRoom e0.platform room_1 = true :=
  launch0.hasRoom_least _ room_1 (by decide +kernel) (by decide +kernel) (by decide +kernel) (by decide +kernel) (by decide +kernel) (by decide +kernel)
theorem allAtoms_all (ts : List Jvm.Cond) (a : Array Jvm.Value) (st : Jvm.State) : (allAtoms ts).before a st = ts.all (fun c => c.before a st) := by
  induction ts with
  | nil => rfl
  | cons c t ih =>
    show (Jvm.Cond.and c (allAtoms t)).before a st = _
    rw [Jvm.Cond.before_and, ih, List.all_cons]
def words1 : List Jvm.Cond := Jvm.Cond.code x code maxLocals ret :: tables_1
/-- a 'code' word, met by the world's own term for the bytes: nothing is compared byte by byte -/
theorem code_word {y : MethodName} {bytes : ByteArray} {mx : Nat} {rt : Option FieldType} {a : Array Value} {s : State} {m : MethodId} {meth : Method} {c : Code} (h1 : s.methodNamed? y = some m) (h2 : s.vm.method? m = some meth) (h3 : meth.code = some c) (h4 : c.code = bytes)
    (h5 : (c.maxLocals == mx && c.exceptionTable.isEmpty && decide (c.maxStack ≤ mostOperands) && decide (meth.sig.returnType = rt) && !meth.locks && decide (parseMethodDescriptor y.desc = some meth.sig)) = true) : (Jvm.Cond.code y bytes mx rt).before a s = true := by
  simp only [Bool.and_eq_true, beq_iff_eq, Bool.not_eq_true', decide_eq_true_eq] at h5
  obtain ⟨⟨⟨⟨⟨g1, g2⟩, g3⟩, g4⟩, g5⟩, g6⟩ := h5
  simp [Cond.before, Cond.holds, Cond.value, h1, h2, h3, h4, g1, g2, g3, g4, g5, g6]
def isCode : Jvm.Cond → Bool
  | .code _ _ _ _ => true
  | _ => false
theorem all_split {L : List Jvm.Cond} {P : Jvm.Cond → Bool} (h1 : L.all (fun c => isCode c || P c) = true) (h2 : ∀ c ∈ L.filter isCode, P c = true) : L.all P = true := by
  refine List.all_eq_true.mpr fun c hc => ?_
  have h := List.all_eq_true.mp h1 c hc
  rcases Bool.eq_false_or_eq_true (isCode c) with hi | hi
  · exact h2 c (List.mem_filter.mpr ⟨hc, hi⟩)
  · simpa [hi] using h
set_option maxRecDepth 65536 in
theorem w_c0 : (Jvm.Cond.code x code maxLocals ret).before args0 about1 = true := code_word (m := ⟨1, 2⟩) (meth := k1m2) (c := k1c2) (by decide +kernel) rfl rfl rfl (by decide +kernel)
set_option maxRecDepth 65536 in
theorem w_c1 : (Jvm.Cond.code ({ cls := "com/example/humble_log/humblelog/protocol/ConfigSource", name := "forCode", desc := "(B)Lcom/example/humble_log/humblelog/protocol/ConfigSource;" } : Jvm.MethodName) prog_23_method_4_code (5 : Nat) (Option.some (Jvm.ClassFile.FieldType.object "com/example/humble_log/humblelog/protocol/ConfigSource"))).before args0 about1 = true := code_word (m := ⟨6, 1⟩) (meth := k6m1) (c := k6c1) (by decide +kernel) rfl rfl rfl (by decide +kernel)
set_option maxRecDepth 65536 in
theorem w_c2 : (Jvm.Cond.code ({ cls := "com/example/humble_log/humblelog/protocol/ConfigSource", name := "values", desc := "()[Lcom/example/humble_log/humblelog/protocol/ConfigSource;" } : Jvm.MethodName) prog_23_method_1_code (0 : Nat) (Option.some (Jvm.ClassFile.FieldType.array (Jvm.ClassFile.FieldType.object "com/example/humble_log/humblelog/protocol/ConfigSource")))).before args0 about1 = true := code_word (m := ⟨6, 0⟩) (meth := k6m0) (c := k6c0) (by decide +kernel) rfl rfl rfl (by decide +kernel)
set_option maxRecDepth 65536 in
theorem w_c3 : (Jvm.Cond.code ({ cls := "com/example/humble_log/humblelog/protocol/ConfigSourceForCodePinLaw", name := "expected", desc := "(B)Lcom/example/humble_log/humblelog/protocol/ConfigSource;" } : Jvm.MethodName) method_2_code (1 : Nat) (Option.some (Jvm.ClassFile.FieldType.object "com/example/humble_log/humblelog/protocol/ConfigSource"))).before args0 about1 = true := code_word (m := ⟨1, 1⟩) (meth := k1m1) (c := k1c1) (by decide +kernel) rfl rfl rfl (by decide +kernel)
def codes1 : List Jvm.Cond := [Jvm.Cond.code x code maxLocals ret, Jvm.Cond.code ({ cls := "com/example/humble_log/humblelog/protocol/ConfigSource", name := "forCode", desc := "(B)Lcom/example/humble_log/humblelog/protocol/ConfigSource;" } : Jvm.MethodName) prog_23_method_4_code (5 : Nat) (Option.some (Jvm.ClassFile.FieldType.object "com/example/humble_log/humblelog/protocol/ConfigSource")), Jvm.Cond.code ({ cls := "com/example/humble_log/humblelog/protocol/ConfigSource", name := "values", desc := "()[Lcom/example/humble_log/humblelog/protocol/ConfigSource;" } : Jvm.MethodName) prog_23_method_1_code (0 : Nat) (Option.some (Jvm.ClassFile.FieldType.array (Jvm.ClassFile.FieldType.object "com/example/humble_log/humblelog/protocol/ConfigSource"))), Jvm.Cond.code ({ cls := "com/example/humble_log/humblelog/protocol/ConfigSourceForCodePinLaw", name := "expected", desc := "(B)Lcom/example/humble_log/humblelog/protocol/ConfigSource;" } : Jvm.MethodName) method_2_code (1 : Nat) (Option.some (Jvm.ClassFile.FieldType.object "com/example/humble_log/humblelog/protocol/ConfigSource"))]
set_option maxRecDepth 65536 in
theorem codes_eq : words1.filter isCode = codes1 := rfl
theorem w_codes : ∀ c ∈ words1.filter isCode, c.before args0 about1 = true := by
  rw [codes_eq]
  intro c hc
  simp only [codes1, List.mem_cons, List.not_mem_nil, or_false] at hc
  rcases hc with rfl | rfl | rfl | rfl
  · exact w_c0
  · exact w_c1
  · exact w_c2
  · exact w_c3
set_option maxRecDepth 65536 in
theorem w_t1 : (words1.take 24).all (fun c => isCode c || c.before args0 about1) = true := by decide +kernel
set_option maxRecDepth 65536 in
theorem w_t2 : (words1.drop 24).all (fun c => isCode c || c.before args0 about1) = true := by decide +kernel
theorem w_tables : (allAtoms (Jvm.Cond.code x code maxLocals ret :: tables_1)).before args0 about1 = true := by
  rw [allAtoms_all]
  show words1.all (fun c => c.before args0 about1) = true
  refine all_split ?_ w_codes
  rw [← List.take_append_drop 24 words1, List.all_append, w_t1, w_t2]
  rfl
set_option maxRecDepth 65536 in
theorem w_case : (Jvm.Cond.and given_1 narrow_1).before args0 about1 = true := by decide +kernel
theorem w_applies : (headSpec (Jvm.Cond.code x code maxLocals ret :: tables_1) room_1).applies x e0.platform about1 = true :=
  (Spec.applies_iff w_frames).mpr ⟨w_running, w_runnable, w_alone, w_named, w_hears, w_ripe, w_room, w_tables⟩
theorem atStart : AtStart classFile x code maxLocals ret World_1 tables_1 room_1 Calls_1 rest_1 Pre_1 launch0 p0 e0 about1 theMethod args0 below0 :=
  ⟨lists_1, trivial, launch0.admits_env _ _ _, launch0.least_env, fairChoices_fair.cas, fairChoices_fair.clock, w_frames, w_args, w_heap, w_applies, trivial, trivial, w_case⟩
end start1
theorem witness_1 : WitnessClaimed_1 := ⟨start1.p0, start1.e0, start1.about1, start1.theMethod, start1.args0, start1.below0, start1.atStart⟩
end Jvm.Pilot.@@N@@
