import JvmDerived
import JvmDerived.Pilot.@@N@@Statement
import JvmDerived.Pilot.@@N@@Code
set_option linter.unusedVariables false
set_option linter.unusedSimpArgs false
namespace Jvm.Pilot.@@N@@
open Jvm Jvm.ClassFile Sem Op Lib Jvm.Free Jvm.Stand Jvm.LawKit Jvm.RoadKit Bundle Jvm.Pilot.@@N@@.Jvm.D
/-! the goal of a walk: from this frame the run comes to an end of which K holds -/
def own_Go (p : Program) (e : Env) (below : List Frame) (T : State) (f : JFrame) (K : State → Outcome → Prop) : Prop := ∃ s₂ o, Steps p.tables e below (T.setTop f) s₂ ∧ K s₂ o
theorem own_Go.mono {p : Program} {e : Env} {below : List Frame} {T T' : State} {f f' : JFrame} {K : State → Outcome → Prop} (h : ∀ t, Steps p.tables e below (T'.setTop f') t → Steps p.tables e below (T.setTop f) t) (g : own_Go p e below T' f' K) : own_Go p e below T f K := by
  obtain ⟨a, o, h1, h2⟩ := g; exact ⟨a, o, h _ h1, h2⟩
def own_K (s : State) (below : List Frame) (Qv : Option Value → Heap → List Loc → Prop) (cc ss : Nat) : State → Outcome → Prop := fun s₂ o => s₂.status = .running ∧ Ended s₂ below o ∧ ∃ v L, o = .returned v ∧ Qv v s₂.heap L ∧ FrameEnd s o s₂ L cc ss
theorem own_body {l : Launch} {y : MethodName} {bytes : ByteArray} {maxL : Nat} {ret : Option FieldType} {ws : List Jvm.Cond} {rm : Room} {Z : State} {as' : Array Value} {h0 : Heap} {Qv : Option Value → Heap → List Loc → Prop} {cc ss : Nat} (hpn : plainFor y = true)
    (body : ∀ (p : Program) (e : Env) (s : State) (m : MethodId) (below : List Frame) (meth : Method) (c : Code) (s₁ : State), p.tables.exec = Jvm.exec → c.code = bytes → c.maxLocals = maxL → meth.sig.returnType = ret → meth.locks = false → s.vm.findClass y.cls = some m.cls → meth.name = y.name → Z.Warmed39 s.vm → Stand p l e rm s m as' below meth c s₁ [] 0 0 → s₁.heap = h0 → own_Go p e below s₁ (entryFrame m as' maxL) (own_K s below Qv cc ss)) :
    MetFree l y (head1 (Jvm.Cond.code y bytes maxL ret :: ws) rm) (fun a U => a = as' ∧ Z.Warmed39 U.vm ∧ U.heap = h0) (fun _ _ _ _ _ => True) (fun _ U o U' => ∃ v L, o = .returned v ∧ Qv v U'.heap L ∧ FrameEnd U o U' L cc ss) := by
  refine MetFree.of_bodySF hpn hisR ?_
  intro p e s m args below meth c s₁ Bd hml0 hP hK
  obtain ⟨rfl, hZ, hh⟩ := hP
  exact body p e s m below meth c s₁ Bd.exec Bd.bytes hml0 Bd.returns Bd.notSynchronized (findClass_of_methodNamed Bd.named) (name_of_methodNamed Bd.named Bd.method).1 hZ (Stand.of_body Bd) (by rw [← hh, Bd.state]; rfl)
section Ret
variable {p : Program} {l : Launch} {e : Env} {R : Room} {s : State} {m : MethodId} {args : Array Value} {below : List Frame} {meth : Method} {c : Code} {T : State} {locs : List Loc} {cells slots : Nat} {Qv : Option Value → Heap → List Loc → Prop} {cc ss pc : Nat} {Ls : Array Slot} {rest : List Value}
theorem own_ret (X : Stand p l e R s m args below meth c T locs cells slots) {f : JFrame} {v : Option Value} (hv : meth.sig.returnType = none → v = none) (hlk : meth.locks = false)
    (hst : ∀ fs, (∀ (f : JFrame) (acts : List Action), f.method = m → f.locked = none → f.entered = [] → (doReturn e (T.setTop f) acts v).1 = T.setFrames fs) → Steps p.tables e below (T.setTop f) (T.setFrames fs)) (hq : Qv v T.heap locs) (hc : cells ≤ cc) (hs : slots ≤ ss) :
    own_Go p e below T f (own_K s below Qv cc ss) := by
  obtain ⟨fs, hr, hrun, hended, hW, hsame⟩ := X.leave (v := v) hv hlk
  exact ⟨_, _, hst fs hr, hrun, hended, v, locs, rfl, hq, ⟨_, rfl⟩, hW, hsame.mono hc hs⟩
theorem own_retN (X : Stand p l e R s m args below meth c T locs cells slots) (hx : p.tables.exec = Jvm.exec) {z : Int32} {t : FieldType} (hret : meth.sig.returnType = some t) (ht : t = .boolean ∨ t = .byte ∨ t = .char ∨ t = .short) (hlk : meth.locks = false) (hd : decode c.code pc = .ok (.ireturn, 1))
    (hq : Qv (some (.int (nar t z))) T.heap locs) (hc : cells ≤ cc) (hs : slots ≤ ss) : own_Go p e below T (mkF m pc Ls (.int z :: rest)) (own_K s below Qv cc ss) :=
  own_ret X (fun h => by rw [hret] at h; cases h) hlk (fun fs hr => retN X hx hret ht hd hr) hq hc hs
theorem own_retI (X : Stand p l e R s m args below meth c T locs cells slots) (hx : p.tables.exec = Jvm.exec) {z : Int32} (hret : meth.sig.returnType = some .int) (hlk : meth.locks = false) (hd : decode c.code pc = .ok (.ireturn, 1))
    (hq : Qv (some (.int z)) T.heap locs) (hc : cells ≤ cc) (hs : slots ≤ ss) : own_Go p e below T (mkF m pc Ls (.int z :: rest)) (own_K s below Qv cc ss) :=
  own_ret X (fun h => by rw [hret] at h; cases h) hlk (fun fs hr => retOut X hx hret rfl (Or.inl ⟨rfl, Or.inl rfl, z, rfl⟩) hd hr) hq hc hs
theorem own_retJ (X : Stand p l e R s m args below meth c T locs cells slots) (hx : p.tables.exec = Jvm.exec) {z : Int64} (hret : meth.sig.returnType = some .long) (hlk : meth.locks = false) (hd : decode c.code pc = .ok (.lreturn, 1))
    (hq : Qv (some (.long z)) T.heap locs) (hc : cells ≤ cc) (hs : slots ≤ ss) : own_Go p e below T (mkF m pc Ls (.long z :: rest)) (own_K s below Qv cc ss) :=
  own_ret X (fun h => by rw [hret] at h; cases h) hlk (fun fs hr => retOut X hx hret rfl (Or.inr (Or.inl ⟨rfl, rfl, z, rfl⟩)) hd hr) hq hc hs
theorem own_retA (X : Stand p l e R s m args below meth c T locs cells slots) (hx : p.tables.exec = Jvm.exec) {w : Value} {t : FieldType} (hret : meth.sig.returnType = some t) (hn : narrow t w = w) (ht : t.isReference = true ∧ w.isRef = true) (hlk : meth.locks = false) (hd : decode c.code pc = .ok (.areturn, 1))
    (hq : Qv (some w) T.heap locs) (hc : cells ≤ cc) (hs : slots ≤ ss) : own_Go p e below T (mkF m pc Ls (w :: rest)) (own_K s below Qv cc ss) :=
  own_ret X (fun h => by rw [hret] at h; cases h) hlk (fun fs hr => retOut X hx hret hn (Or.inr (Or.inr (Or.inr (Or.inr ⟨rfl, ht.1, ht.2⟩)))) hd hr) hq hc hs
theorem own_retV (X : Stand p l e R s m args below meth c T locs cells slots) (hx : p.tables.exec = Jvm.exec) (hret : meth.sig.returnType = none) (hlk : meth.locks = false) (hd : decode c.code pc = .ok (.return_, 1))
    (hq : Qv none T.heap locs) (hc : cells ≤ cc) (hs : slots ≤ ss) : own_Go p e below T (mkF m pc Ls []) (own_K s below Qv cc ss) :=
  own_ret X (fun _ => rfl) hlk (fun fs hr => X.returnOut hx hret hd hr) hq hc hs
theorem own_lremM {g : JFrame} {target : State} (X : Stand p l e R s m args below meth c T locs cells slots) (hx : p.tables.exec = Jvm.exec) (hg : g.method = m) {x y : Int64} (hd : decode c.code g.pc = .ok (.lrem, 1)) (hs : g.stack = .long y :: .long x :: rest) (hy : y ≠ 0)
    (hr : Steps p.tables e below (T.setTop { g with pc := g.pc + 1, stack := .long (x % y) :: rest }) target) : Steps p.tables e below (T.setTop g) target := XS.lrem X.here hx hg hd hs hy (by rw [lrem_mod]; exact hr)
end Ret
theorem pd_0 : parseMethodDescriptor "(S)Z" = some ⟨[.short], some .boolean⟩ := by decide +kernel
theorem own_ext {h0 h : Heap} (K : Keep h0 h []) : Ext h0 h := ⟨K.1, fun a c q => K.2.1 a c q nin0⟩
theorem own_keyI {Z : State} {args : Array Value} {C n d : String} (h : (Jvm.Cond.exactly (.static C n d) C).value args Z none Z [] = some true) (wi : (Jvm.Cond.initialized C).before args Z = true) (wl : (Jvm.Cond.laysStatic C n d).before args Z = true) :
    ∃ w : Addr, (Term.static C n d).eval args Z none [] Z = some (.ref w) ∧ Sta Z Z.heap C n d (.ref w) ∧ Exa Z Z.heap w C := by
  obtain ⟨w, ev⟩ := exa_v h
  exact ⟨w, ev, Sta.start ev (Or.inr ⟨wi, wl⟩), Exa.start ev h⟩
theorem own_pin {Z : State} {args : Array Value} {t : Term} {a : Addr} {O f d : String} {c : Int32} (ev : t.eval args Z none [] Z = some (.ref a)) (h : (Jvm.Cond.eq (.field t O f d) (.int c)).value args Z none Z [] = some true) : Fld Z Z.heap a O f d (.int c) := by
  have e := fld_at (C := O) (n := f) (dd := d) ev
  refine Fld.start ?_
  cases hv : Z.fieldOf? a O f d with
  | none => rw [hv] at e; simp only [Cond.value, e, Term.int_eval] at h; simp at h
  | some v =>
    rw [hv] at e
    simp only [Cond.value, e, Term.int_eval] at h
    cases v <;> simp at h
    subst h; rfl
theorem own_idx22 (k : Int32) : ¬ ((k &&& (2147483647 : Int32)) % (22 : Int32)) < 0 ∧ ((k &&& (2147483647 : Int32)) % (22 : Int32)) < (22 : Int32) := by
  have h := c_mask k 2147483647 31 (by decide) (by decide)
  have h1 : 0 ≤ (k &&& (2147483647 : Int32)).toInt := by rw [h]; exact Int.emod_nonneg _ (by decide)
  have h2 := (c_irem (k &&& 2147483647) 22 22 rfl).1 h1
  have k0 : (0 : Int32).toInt = 0 := rfl
  have k1 : (22 : Int32).toInt = 22 := rfl
  rw [Int32.lt_iff_toInt_lt, Int32.lt_iff_toInt_lt, h2, k0, k1]; omega
theorem own_cases22 {j : Int32} (h0 : ¬ j < 0) (h1 : j < (22 : Int32)) : j = 0 ∨ j = 1 ∨ j = 2 ∨ j = 3 ∨ j = 4 ∨ j = 5 ∨ j = 6 ∨ j = 7 ∨ j = 8 ∨ j = 9 ∨ j = 10 ∨ j = 11 ∨ j = 12 ∨ j = 13 ∨ j = 14 ∨ j = 15 ∨ j = 16 ∨ j = 17 ∨ j = 18 ∨ j = 19 ∨ j = 20 ∨ j = 21 := by
  have k0 : (0 : Int32).toInt = 0 := rfl
  have k1 : (22 : Int32).toInt = 22 := rfl
  rw [Int32.lt_iff_toInt_lt] at h0 h1
  obtain ⟨n, hn⟩ : ∃ n : Nat, j.toInt = n := ⟨j.toInt.toNat, by omega⟩
  have hlt : n < 22 := by omega
  have e : j = Int32.ofInt (n : Int) := by rw [← hn]; exact (Int32.ofInt_toInt j).symm
  clear hn h0 h1
  match n, hlt, e with
  | 0, _, e => exact Or.inl (e.trans rfl)
  | 1, _, e => exact Or.inr (Or.inl (e.trans rfl))
  | 2, _, e => exact Or.inr (Or.inr (Or.inl (e.trans rfl)))
  | 3, _, e => exact Or.inr (Or.inr (Or.inr (Or.inl (e.trans rfl))))
  | 4, _, e => exact Or.inr (Or.inr (Or.inr (Or.inr (Or.inl (e.trans rfl)))))
  | 5, _, e => exact Or.inr (Or.inr (Or.inr (Or.inr (Or.inr (Or.inl (e.trans rfl))))))
  | 6, _, e => exact Or.inr (Or.inr (Or.inr (Or.inr (Or.inr (Or.inr (Or.inl (e.trans rfl)))))))
  | 7, _, e => exact Or.inr (Or.inr (Or.inr (Or.inr (Or.inr (Or.inr (Or.inr (Or.inl (e.trans rfl))))))))
  | 8, _, e => exact Or.inr (Or.inr (Or.inr (Or.inr (Or.inr (Or.inr (Or.inr (Or.inr (Or.inl (e.trans rfl)))))))))
  | 9, _, e => exact Or.inr (Or.inr (Or.inr (Or.inr (Or.inr (Or.inr (Or.inr (Or.inr (Or.inr (Or.inl (e.trans rfl))))))))))
  | 10, _, e => exact Or.inr (Or.inr (Or.inr (Or.inr (Or.inr (Or.inr (Or.inr (Or.inr (Or.inr (Or.inr (Or.inl (e.trans rfl)))))))))))
  | 11, _, e => exact Or.inr (Or.inr (Or.inr (Or.inr (Or.inr (Or.inr (Or.inr (Or.inr (Or.inr (Or.inr (Or.inr (Or.inl (e.trans rfl))))))))))))
  | 12, _, e => exact Or.inr (Or.inr (Or.inr (Or.inr (Or.inr (Or.inr (Or.inr (Or.inr (Or.inr (Or.inr (Or.inr (Or.inr (Or.inl (e.trans rfl)))))))))))))
  | 13, _, e => exact Or.inr (Or.inr (Or.inr (Or.inr (Or.inr (Or.inr (Or.inr (Or.inr (Or.inr (Or.inr (Or.inr (Or.inr (Or.inr (Or.inl (e.trans rfl))))))))))))))
  | 14, _, e => exact Or.inr (Or.inr (Or.inr (Or.inr (Or.inr (Or.inr (Or.inr (Or.inr (Or.inr (Or.inr (Or.inr (Or.inr (Or.inr (Or.inr (Or.inl (e.trans rfl)))))))))))))))
  | 15, _, e => exact Or.inr (Or.inr (Or.inr (Or.inr (Or.inr (Or.inr (Or.inr (Or.inr (Or.inr (Or.inr (Or.inr (Or.inr (Or.inr (Or.inr (Or.inr (Or.inl (e.trans rfl))))))))))))))))
  | 16, _, e => exact Or.inr (Or.inr (Or.inr (Or.inr (Or.inr (Or.inr (Or.inr (Or.inr (Or.inr (Or.inr (Or.inr (Or.inr (Or.inr (Or.inr (Or.inr (Or.inr (Or.inl (e.trans rfl)))))))))))))))))
  | 17, _, e => exact Or.inr (Or.inr (Or.inr (Or.inr (Or.inr (Or.inr (Or.inr (Or.inr (Or.inr (Or.inr (Or.inr (Or.inr (Or.inr (Or.inr (Or.inr (Or.inr (Or.inr (Or.inl (e.trans rfl))))))))))))))))))
  | 18, _, e => exact Or.inr (Or.inr (Or.inr (Or.inr (Or.inr (Or.inr (Or.inr (Or.inr (Or.inr (Or.inr (Or.inr (Or.inr (Or.inr (Or.inr (Or.inr (Or.inr (Or.inr (Or.inr (Or.inl (e.trans rfl)))))))))))))))))))
  | 19, _, e => exact Or.inr (Or.inr (Or.inr (Or.inr (Or.inr (Or.inr (Or.inr (Or.inr (Or.inr (Or.inr (Or.inr (Or.inr (Or.inr (Or.inr (Or.inr (Or.inr (Or.inr (Or.inr (Or.inr (Or.inl (e.trans rfl))))))))))))))))))))
  | 20, _, e => exact Or.inr (Or.inr (Or.inr (Or.inr (Or.inr (Or.inr (Or.inr (Or.inr (Or.inr (Or.inr (Or.inr (Or.inr (Or.inr (Or.inr (Or.inr (Or.inr (Or.inr (Or.inr (Or.inr (Or.inr (Or.inl (e.trans rfl)))))))))))))))))))))
  | 21, _, e => exact Or.inr (Or.inr (Or.inr (Or.inr (Or.inr (Or.inr (Or.inr (Or.inr (Or.inr (Or.inr (Or.inr (Or.inr (Or.inr (Or.inr (Or.inr (Or.inr (Or.inr (Or.inr (Or.inr (Or.inr (Or.inr ((e.trans rfl))))))))))))))))))))))
  | n + 22, h, _ => exact absurd h (by omega)
theorem d1_0 : decode prog_18_method_8_code 0 = .ok (.iload_n 1, 1) := by decide +kernel
theorem d1_1 : decode prog_18_method_8_code 1 = .ok (.aload_n 0, 1) := by decide +kernel
theorem d1_2 : decode prog_18_method_8_code 2 = .ok (.getfield 93, 3) := by decide +kernel
theorem d1_5 : decode prog_18_method_8_code 5 = .ok (.if_icmp .lt 15, 3) := by decide +kernel
theorem d1_8 : decode prog_18_method_8_code 8 = .ok (.iload_n 1, 1) := by decide +kernel
theorem d1_9 : decode prog_18_method_8_code 9 = .ok (.aload_n 0, 1) := by decide +kernel
theorem d1_10 : decode prog_18_method_8_code 10 = .ok (.getfield 96, 3) := by decide +kernel
theorem d1_13 : decode prog_18_method_8_code 13 = .ok (.if_icmp .gt 7, 3) := by decide +kernel
theorem d1_16 : decode prog_18_method_8_code 16 = .ok (.iconst 1, 1) := by decide +kernel
theorem d1_17 : decode prog_18_method_8_code 17 = .ok (.goto 4, 3) := by decide +kernel
theorem d1_20 : decode prog_18_method_8_code 20 = .ok (.iconst 0, 1) := by decide +kernel
theorem d1_21 : decode prog_18_method_8_code 21 = .ok (.ireturn, 1) := by decide +kernel
theorem ef_rm1 (m : MethodId) (x0 : Addr) (x1 : Int32) : entryFrame m #[(.ref x0), (.int x1)] 2 = mkF m 0 #[.val (.ref x0), .val (.int x1)] [] := by first | (simp [entryFrame, mkF, argsToLocals, Value.category]; done) | rfl
def Q1 (Z : State) (a1 : Addr) (p1 : Int32) (q1 : Int32) (q2 : Int32) (r : Int32) (h0 : Heap) (n0 : Nat) (v : Option Value) (h : Heap) (L : List Loc) : Prop := v = some (.int r) ∧ Fr n0 L ∧ h = h0
set_option maxRecDepth 65536 in
set_option maxHeartbeats 40000000 in
theorem rm1 (l : Launch) (Z : State) (a0 : Array Value) (hw : ∀ d ∈ tables_1, d.before a0 Z = true) (ws : List Jvm.Cond) (a1 : Addr) (p1 : Int32) (q1 : Int32) (q2 : Int32) (r : Int32) (h0 : Heap) (n0 : Nat) (Z0 : n0 ≤ h0.size) (F1 : Fld Z h0 a1 "com/example/humble_log/humblelog/protocol/ApiKey" "minVersion" "S" (.int q1)) (F2 : Fld Z h0 a1 "com/example/humble_log/humblelog/protocol/ApiKey" "maxVersion" "S" (.int q2)) (hr : (p1 < q1 ∧ r = 0) ∨ (¬ p1 < q1 ∧ q2 < p1 ∧ r = 0) ∨ (¬ p1 < q1 ∧ ¬ q2 < p1 ∧ r = 1)) :
    MetFree l (⟨"com/example/humble_log/humblelog/protocol/ApiKey", "isServed", "(S)Z"⟩ : MethodName) (head1 (Jvm.Cond.code (⟨"com/example/humble_log/humblelog/protocol/ApiKey", "isServed", "(S)Z"⟩ : MethodName) prog_18_method_8_code 2 (some .boolean) :: ws) ({ frames := 0, cells := 0, slots := 0, locals := 0 } : Room)) (fun a U => a = #[(.ref a1), (.int p1)] ∧ Z.Warmed39 U.vm ∧ U.heap = h0) (fun _ _ _ _ _ => True) (fun _ U o U' => ∃ v L, o = .returned v ∧ Q1 Z a1 p1 q1 q2 r h0 n0 v U'.heap L ∧ FrameEnd U o U' L 0 0) := by
  refine own_body (Qv := Q1 Z a1 p1 q1 q2 r h0 n0) (plainFor_of_name (by first | (simp [plainName, overriddenIn]; done) | decide +kernel)) ?_
  intro p e s m below meth c s₁ hx hby hml hret hlk hown hnm hZ X0 e0
  replace hown : s.vm.findClass "com/example/humble_log/humblelog/protocol/ApiKey" = some m.cls := hown
  replace hnm : meth.name = "isServed" := hnm
  have N0 := Fr.nil n0
  refine own_Go.mono (T' := s₁) (f' := (mkF m 0 #[.val (.ref a1), .val (.int p1)] [])) (fun t k => castTop (ef_rm1 m a1 p1) k) ?_
  obtain ⟨T1, X1, e1, st1⟩ := getF X0 hx hZ hown (host := "") (Or.inl (hw _ (List.mem_of_getElem? (i := 55) rfl))) Via.refl e0 F1 (g := (mkF m 2 #[.val (.ref a1), .val (.int p1)] [(.ref a1), (.int p1)])) rfl rfl (hb hby d1_2)
  refine own_Go.mono (T' := T1) (f' := (mkF m 5 #[.val (.ref a1), .val (.int p1)] [(.int q1), (.int p1)])) (fun t k => ?_) ?_
  · show Steps p.tables e below (s₁.setTop (mkF m 0 #[.val (.ref a1), .val (.int p1)] [])) _
    refine XS.iloadN X0.here hx rfl (hb hby d1_0) rfl ?_
    show Steps p.tables e below (s₁.setTop (mkF m 1 #[.val (.ref a1), .val (.int p1)] [(.int p1)])) _
    refine XS.aloadN X0.here hx rfl (hb hby d1_1) rfl rfl ?_
    show Steps p.tables e below (s₁.setTop (mkF m 2 #[.val (.ref a1), .val (.int p1)] [(.ref a1), (.int p1)])) _
    refine st1 _ ?_
    show Steps p.tables e below (T1.setTop (mkF m 5 #[.val (.ref a1), .val (.int p1)] [(.int q1), (.int p1)])) _
    exact k
  rcases hr with ⟨hlt, hr⟩ | ⟨hlt, hgt, hr⟩ | ⟨hlt, hgt, hr⟩
  · refine own_Go.mono (T' := T1) (f' := (mkF m 21 #[.val (.ref a1), .val (.int p1)] [(.int (0 : Int32))])) (fun t k => ?_) ?_
    · show Steps p.tables e below (T1.setTop (mkF m 5 #[.val (.ref a1), .val (.int p1)] [(.int q1), (.int p1)])) _
      refine XS.icmpYes X1.here hx rfl (pc0 := 5) (pc' := 20) rfl (hb hby d1_5) rfl (tlt hlt).1 (by decide) (by decide) ?_
      show Steps p.tables e below (T1.setTop (mkF m 20 #[.val (.ref a1), .val (.int p1)] [])) _
      refine XS.iconst X1.here hx rfl (hb hby d1_20) ?_
      show Steps p.tables e below (T1.setTop (mkF m 21 #[.val (.ref a1), .val (.int p1)] [(.int (0 : Int32))])) _
      exact k
    exact own_retN X1 hx (t := .boolean) hret (by simp) hlk (hb hby d1_21) (⟨by rw [hr]; rfl, N0, e1⟩) (by decide) (by decide)
  · obtain ⟨T2, X2, e2, st2⟩ := getF X1 hx hZ hown (host := "") (Or.inl (hw _ (List.mem_of_getElem? (i := 57) rfl))) Via.refl e1 F2 (g := (mkF m 10 #[.val (.ref a1), .val (.int p1)] [(.ref a1), (.int p1)])) rfl rfl (hb hby d1_10)
    refine own_Go.mono (T' := T2) (f' := (mkF m 21 #[.val (.ref a1), .val (.int p1)] [(.int (0 : Int32))])) (fun t k => ?_) ?_
    · show Steps p.tables e below (T1.setTop (mkF m 5 #[.val (.ref a1), .val (.int p1)] [(.int q1), (.int p1)])) _
      refine XS.icmpNo X1.here hx rfl (hb hby d1_5) rfl (flt hlt).1 ?_
      show Steps p.tables e below (T1.setTop (mkF m 8 #[.val (.ref a1), .val (.int p1)] [])) _
      refine XS.iloadN X1.here hx rfl (hb hby d1_8) rfl ?_
      show Steps p.tables e below (T1.setTop (mkF m 9 #[.val (.ref a1), .val (.int p1)] [(.int p1)])) _
      refine XS.aloadN X1.here hx rfl (hb hby d1_9) rfl rfl ?_
      show Steps p.tables e below (T1.setTop (mkF m 10 #[.val (.ref a1), .val (.int p1)] [(.ref a1), (.int p1)])) _
      refine st2 _ ?_
      show Steps p.tables e below (T2.setTop (mkF m 13 #[.val (.ref a1), .val (.int p1)] [(.int q2), (.int p1)])) _
      refine XS.icmpYes X2.here hx rfl (pc0 := 13) (pc' := 20) rfl (hb hby d1_13) rfl (tlt hgt).2.2.1 (by decide) (by decide) ?_
      show Steps p.tables e below (T2.setTop (mkF m 20 #[.val (.ref a1), .val (.int p1)] [])) _
      refine XS.iconst X2.here hx rfl (hb hby d1_20) ?_
      show Steps p.tables e below (T2.setTop (mkF m 21 #[.val (.ref a1), .val (.int p1)] [(.int (0 : Int32))])) _
      exact k
    exact own_retN X2 hx (t := .boolean) hret (by simp) hlk (hb hby d1_21) (⟨by rw [hr]; rfl, N0, e2⟩) (by decide) (by decide)
  · obtain ⟨T3, X3, e3, st3⟩ := getF X1 hx hZ hown (host := "") (Or.inl (hw _ (List.mem_of_getElem? (i := 57) rfl))) Via.refl e1 F2 (g := (mkF m 10 #[.val (.ref a1), .val (.int p1)] [(.ref a1), (.int p1)])) rfl rfl (hb hby d1_10)
    refine own_Go.mono (T' := T3) (f' := (mkF m 21 #[.val (.ref a1), .val (.int p1)] [(.int (1 : Int32))])) (fun t k => ?_) ?_
    · show Steps p.tables e below (T1.setTop (mkF m 5 #[.val (.ref a1), .val (.int p1)] [(.int q1), (.int p1)])) _
      refine XS.icmpNo X1.here hx rfl (hb hby d1_5) rfl (flt hlt).1 ?_
      show Steps p.tables e below (T1.setTop (mkF m 8 #[.val (.ref a1), .val (.int p1)] [])) _
      refine XS.iloadN X1.here hx rfl (hb hby d1_8) rfl ?_
      show Steps p.tables e below (T1.setTop (mkF m 9 #[.val (.ref a1), .val (.int p1)] [(.int p1)])) _
      refine XS.aloadN X1.here hx rfl (hb hby d1_9) rfl rfl ?_
      show Steps p.tables e below (T1.setTop (mkF m 10 #[.val (.ref a1), .val (.int p1)] [(.ref a1), (.int p1)])) _
      refine st3 _ ?_
      show Steps p.tables e below (T3.setTop (mkF m 13 #[.val (.ref a1), .val (.int p1)] [(.int q2), (.int p1)])) _
      refine XS.icmpNo X3.here hx rfl (hb hby d1_13) rfl (flt hgt).2.2.1 ?_
      show Steps p.tables e below (T3.setTop (mkF m 16 #[.val (.ref a1), .val (.int p1)] [])) _
      refine XS.iconst X3.here hx rfl (hb hby d1_16) ?_
      show Steps p.tables e below (T3.setTop (mkF m 17 #[.val (.ref a1), .val (.int p1)] [(.int (1 : Int32))])) _
      refine XS.goto X3.here hx rfl (pc0 := 17) (pc' := 21) rfl (hb hby d1_17) (by decide) (by decide) ?_
      show Steps p.tables e below (T3.setTop (mkF m 21 #[.val (.ref a1), .val (.int p1)] [(.int (1 : Int32))])) _
      exact k
    exact own_retN X3 hx (t := .boolean) hret (by simp) hlk (hb hby d1_21) (⟨by rw [hr]; rfl, N0, e3⟩) (by decide) (by decide)
theorem ef_rm0 (m : MethodId) (x0 : Int32) (x1 : Int32) : entryFrame m #[(.int x0), (.int x1)] maxLocals = mkF m 0 #[.val (.int x0), .val (.int x1), .unset, .unset, .unset, .unset, .unset, .unset, .unset] [] := by first | (simp [entryFrame, mkF, argsToLocals, Value.category, maxLocals]; done) | rfl
def Q0 (Z : State) (p0 : Int32) (p1 : Int32) (w0 : Addr) (w1 : Addr) (w2 : Addr) (w3 : Addr) (w4 : Addr) (w5 : Addr) (w6 : Addr) (w7 : Addr) (w8 : Addr) (w9 : Addr) (w10 : Addr) (w11 : Addr) (w12 : Addr) (w13 : Addr) (w14 : Addr) (w15 : Addr) (w16 : Addr) (w17 : Addr) (w18 : Addr) (w19 : Addr) (w20 : Addr) (w21 : Addr) (h0 : Heap) (n0 : Nat) (v : Option Value) (h : Heap) (L : List Loc) : Prop := v = some (.int 1) ∧ Fr n0 L
set_option maxRecDepth 65536 in
set_option maxHeartbeats 40000000 in
theorem rm0 (l : Launch) (Z : State) (a0 : Array Value) (hw : ∀ d ∈ tables_1, d.before a0 Z = true) (ws : List Jvm.Cond) (p0 : Int32) (p1 : Int32) (w0 : Addr) (w1 : Addr) (w2 : Addr) (w3 : Addr) (w4 : Addr) (w5 : Addr) (w6 : Addr) (w7 : Addr) (w8 : Addr) (w9 : Addr) (w10 : Addr) (w11 : Addr) (w12 : Addr) (w13 : Addr) (w14 : Addr) (w15 : Addr) (w16 : Addr) (w17 : Addr) (w18 : Addr) (w19 : Addr) (w20 : Addr) (w21 : Addr) (h0 : Heap) (n0 : Nat) (Z0 : n0 ≤ h0.size) (S0_ : Sta Z h0 "com/example/humble_log/humblelog/protocol/ApiKey" "PRODUCE" "Lcom/example/humble_log/humblelog/protocol/ApiKey;" (.ref w0)) (E0_ : Exa Z h0 w0 "com/example/humble_log/humblelog/protocol/ApiKey") (F0_0 : Fld Z h0 w0 "com/example/humble_log/humblelog/protocol/ApiKey" "minVersion" "S" (.int (0 : Int32))) (F0_1 : Fld Z h0 w0 "com/example/humble_log/humblelog/protocol/ApiKey" "maxVersion" "S" (.int (7 : Int32))) (S1_ : Sta Z h0 "com/example/humble_log/humblelog/protocol/ApiKey" "FETCH" "Lcom/example/humble_log/humblelog/protocol/ApiKey;" (.ref w1)) (E1_ : Exa Z h0 w1 "com/example/humble_log/humblelog/protocol/ApiKey") (F1_0 : Fld Z h0 w1 "com/example/humble_log/humblelog/protocol/ApiKey" "minVersion" "S" (.int (4 : Int32))) (F1_1 : Fld Z h0 w1 "com/example/humble_log/humblelog/protocol/ApiKey" "maxVersion" "S" (.int (11 : Int32))) (S2_ : Sta Z h0 "com/example/humble_log/humblelog/protocol/ApiKey" "LIST_OFFSETS" "Lcom/example/humble_log/humblelog/protocol/ApiKey;" (.ref w2)) (E2_ : Exa Z h0 w2 "com/example/humble_log/humblelog/protocol/ApiKey") (F2_0 : Fld Z h0 w2 "com/example/humble_log/humblelog/protocol/ApiKey" "minVersion" "S" (.int (1 : Int32))) (F2_1 : Fld Z h0 w2 "com/example/humble_log/humblelog/protocol/ApiKey" "maxVersion" "S" (.int (2 : Int32))) (S3_ : Sta Z h0 "com/example/humble_log/humblelog/protocol/ApiKey" "METADATA" "Lcom/example/humble_log/humblelog/protocol/ApiKey;" (.ref w3)) (E3_ : Exa Z h0 w3 "com/example/humble_log/humblelog/protocol/ApiKey") (F3_0 : Fld Z h0 w3 "com/example/humble_log/humblelog/protocol/ApiKey" "minVersion" "S" (.int (0 : Int32))) (F3_1 : Fld Z h0 w3 "com/example/humble_log/humblelog/protocol/ApiKey" "maxVersion" "S" (.int (5 : Int32))) (S4_ : Sta Z h0 "com/example/humble_log/humblelog/protocol/ApiKey" "OFFSET_COMMIT" "Lcom/example/humble_log/humblelog/protocol/ApiKey;" (.ref w4)) (E4_ : Exa Z h0 w4 "com/example/humble_log/humblelog/protocol/ApiKey") (F4_0 : Fld Z h0 w4 "com/example/humble_log/humblelog/protocol/ApiKey" "minVersion" "S" (.int (2 : Int32))) (F4_1 : Fld Z h0 w4 "com/example/humble_log/humblelog/protocol/ApiKey" "maxVersion" "S" (.int (7 : Int32))) (S5_ : Sta Z h0 "com/example/humble_log/humblelog/protocol/ApiKey" "OFFSET_FETCH" "Lcom/example/humble_log/humblelog/protocol/ApiKey;" (.ref w5)) (E5_ : Exa Z h0 w5 "com/example/humble_log/humblelog/protocol/ApiKey") (F5_0 : Fld Z h0 w5 "com/example/humble_log/humblelog/protocol/ApiKey" "minVersion" "S" (.int (1 : Int32))) (F5_1 : Fld Z h0 w5 "com/example/humble_log/humblelog/protocol/ApiKey" "maxVersion" "S" (.int (5 : Int32))) (S6_ : Sta Z h0 "com/example/humble_log/humblelog/protocol/ApiKey" "FIND_COORDINATOR" "Lcom/example/humble_log/humblelog/protocol/ApiKey;" (.ref w6)) (E6_ : Exa Z h0 w6 "com/example/humble_log/humblelog/protocol/ApiKey") (F6_0 : Fld Z h0 w6 "com/example/humble_log/humblelog/protocol/ApiKey" "minVersion" "S" (.int (0 : Int32))) (F6_1 : Fld Z h0 w6 "com/example/humble_log/humblelog/protocol/ApiKey" "maxVersion" "S" (.int (2 : Int32))) (S7_ : Sta Z h0 "com/example/humble_log/humblelog/protocol/ApiKey" "JOIN_GROUP" "Lcom/example/humble_log/humblelog/protocol/ApiKey;" (.ref w7)) (E7_ : Exa Z h0 w7 "com/example/humble_log/humblelog/protocol/ApiKey") (F7_0 : Fld Z h0 w7 "com/example/humble_log/humblelog/protocol/ApiKey" "minVersion" "S" (.int (2 : Int32))) (F7_1 : Fld Z h0 w7 "com/example/humble_log/humblelog/protocol/ApiKey" "maxVersion" "S" (.int (5 : Int32))) (S8_ : Sta Z h0 "com/example/humble_log/humblelog/protocol/ApiKey" "HEARTBEAT" "Lcom/example/humble_log/humblelog/protocol/ApiKey;" (.ref w8)) (E8_ : Exa Z h0 w8 "com/example/humble_log/humblelog/protocol/ApiKey") (F8_0 : Fld Z h0 w8 "com/example/humble_log/humblelog/protocol/ApiKey" "minVersion" "S" (.int (0 : Int32))) (F8_1 : Fld Z h0 w8 "com/example/humble_log/humblelog/protocol/ApiKey" "maxVersion" "S" (.int (3 : Int32))) (S9_ : Sta Z h0 "com/example/humble_log/humblelog/protocol/ApiKey" "LEAVE_GROUP" "Lcom/example/humble_log/humblelog/protocol/ApiKey;" (.ref w9)) (E9_ : Exa Z h0 w9 "com/example/humble_log/humblelog/protocol/ApiKey") (F9_0 : Fld Z h0 w9 "com/example/humble_log/humblelog/protocol/ApiKey" "minVersion" "S" (.int (0 : Int32))) (F9_1 : Fld Z h0 w9 "com/example/humble_log/humblelog/protocol/ApiKey" "maxVersion" "S" (.int (1 : Int32))) (S10_ : Sta Z h0 "com/example/humble_log/humblelog/protocol/ApiKey" "SYNC_GROUP" "Lcom/example/humble_log/humblelog/protocol/ApiKey;" (.ref w10)) (E10_ : Exa Z h0 w10 "com/example/humble_log/humblelog/protocol/ApiKey") (F10_0 : Fld Z h0 w10 "com/example/humble_log/humblelog/protocol/ApiKey" "minVersion" "S" (.int (0 : Int32))) (F10_1 : Fld Z h0 w10 "com/example/humble_log/humblelog/protocol/ApiKey" "maxVersion" "S" (.int (3 : Int32))) (S11_ : Sta Z h0 "com/example/humble_log/humblelog/protocol/ApiKey" "DESCRIBE_GROUPS" "Lcom/example/humble_log/humblelog/protocol/ApiKey;" (.ref w11)) (E11_ : Exa Z h0 w11 "com/example/humble_log/humblelog/protocol/ApiKey") (F11_0 : Fld Z h0 w11 "com/example/humble_log/humblelog/protocol/ApiKey" "minVersion" "S" (.int (0 : Int32))) (F11_1 : Fld Z h0 w11 "com/example/humble_log/humblelog/protocol/ApiKey" "maxVersion" "S" (.int (4 : Int32))) (S12_ : Sta Z h0 "com/example/humble_log/humblelog/protocol/ApiKey" "LIST_GROUPS" "Lcom/example/humble_log/humblelog/protocol/ApiKey;" (.ref w12)) (E12_ : Exa Z h0 w12 "com/example/humble_log/humblelog/protocol/ApiKey") (F12_0 : Fld Z h0 w12 "com/example/humble_log/humblelog/protocol/ApiKey" "minVersion" "S" (.int (0 : Int32))) (F12_1 : Fld Z h0 w12 "com/example/humble_log/humblelog/protocol/ApiKey" "maxVersion" "S" (.int (2 : Int32))) (S13_ : Sta Z h0 "com/example/humble_log/humblelog/protocol/ApiKey" "API_VERSIONS" "Lcom/example/humble_log/humblelog/protocol/ApiKey;" (.ref w13)) (E13_ : Exa Z h0 w13 "com/example/humble_log/humblelog/protocol/ApiKey") (F13_0 : Fld Z h0 w13 "com/example/humble_log/humblelog/protocol/ApiKey" "minVersion" "S" (.int (0 : Int32))) (F13_1 : Fld Z h0 w13 "com/example/humble_log/humblelog/protocol/ApiKey" "maxVersion" "S" (.int (3 : Int32))) (S14_ : Sta Z h0 "com/example/humble_log/humblelog/protocol/ApiKey" "CREATE_TOPICS" "Lcom/example/humble_log/humblelog/protocol/ApiKey;" (.ref w14)) (E14_ : Exa Z h0 w14 "com/example/humble_log/humblelog/protocol/ApiKey") (F14_0 : Fld Z h0 w14 "com/example/humble_log/humblelog/protocol/ApiKey" "minVersion" "S" (.int (2 : Int32))) (F14_1 : Fld Z h0 w14 "com/example/humble_log/humblelog/protocol/ApiKey" "maxVersion" "S" (.int (4 : Int32))) (S15_ : Sta Z h0 "com/example/humble_log/humblelog/protocol/ApiKey" "DELETE_TOPICS" "Lcom/example/humble_log/humblelog/protocol/ApiKey;" (.ref w15)) (E15_ : Exa Z h0 w15 "com/example/humble_log/humblelog/protocol/ApiKey") (F15_0 : Fld Z h0 w15 "com/example/humble_log/humblelog/protocol/ApiKey" "minVersion" "S" (.int (1 : Int32))) (F15_1 : Fld Z h0 w15 "com/example/humble_log/humblelog/protocol/ApiKey" "maxVersion" "S" (.int (3 : Int32))) (S16_ : Sta Z h0 "com/example/humble_log/humblelog/protocol/ApiKey" "INIT_PRODUCER_ID" "Lcom/example/humble_log/humblelog/protocol/ApiKey;" (.ref w16)) (E16_ : Exa Z h0 w16 "com/example/humble_log/humblelog/protocol/ApiKey") (F16_0 : Fld Z h0 w16 "com/example/humble_log/humblelog/protocol/ApiKey" "minVersion" "S" (.int (0 : Int32))) (F16_1 : Fld Z h0 w16 "com/example/humble_log/humblelog/protocol/ApiKey" "maxVersion" "S" (.int (1 : Int32))) (S17_ : Sta Z h0 "com/example/humble_log/humblelog/protocol/ApiKey" "DESCRIBE_CONFIGS" "Lcom/example/humble_log/humblelog/protocol/ApiKey;" (.ref w17)) (E17_ : Exa Z h0 w17 "com/example/humble_log/humblelog/protocol/ApiKey") (F17_0 : Fld Z h0 w17 "com/example/humble_log/humblelog/protocol/ApiKey" "minVersion" "S" (.int (1 : Int32))) (F17_1 : Fld Z h0 w17 "com/example/humble_log/humblelog/protocol/ApiKey" "maxVersion" "S" (.int (2 : Int32))) (S18_ : Sta Z h0 "com/example/humble_log/humblelog/protocol/ApiKey" "ALTER_CONFIGS" "Lcom/example/humble_log/humblelog/protocol/ApiKey;" (.ref w18)) (E18_ : Exa Z h0 w18 "com/example/humble_log/humblelog/protocol/ApiKey") (F18_0 : Fld Z h0 w18 "com/example/humble_log/humblelog/protocol/ApiKey" "minVersion" "S" (.int (0 : Int32))) (F18_1 : Fld Z h0 w18 "com/example/humble_log/humblelog/protocol/ApiKey" "maxVersion" "S" (.int (1 : Int32))) (S19_ : Sta Z h0 "com/example/humble_log/humblelog/protocol/ApiKey" "CREATE_PARTITIONS" "Lcom/example/humble_log/humblelog/protocol/ApiKey;" (.ref w19)) (E19_ : Exa Z h0 w19 "com/example/humble_log/humblelog/protocol/ApiKey") (F19_0 : Fld Z h0 w19 "com/example/humble_log/humblelog/protocol/ApiKey" "minVersion" "S" (.int (0 : Int32))) (F19_1 : Fld Z h0 w19 "com/example/humble_log/humblelog/protocol/ApiKey" "maxVersion" "S" (.int (1 : Int32))) (S20_ : Sta Z h0 "com/example/humble_log/humblelog/protocol/ApiKey" "DELETE_GROUPS" "Lcom/example/humble_log/humblelog/protocol/ApiKey;" (.ref w20)) (E20_ : Exa Z h0 w20 "com/example/humble_log/humblelog/protocol/ApiKey") (F20_0 : Fld Z h0 w20 "com/example/humble_log/humblelog/protocol/ApiKey" "minVersion" "S" (.int (0 : Int32))) (F20_1 : Fld Z h0 w20 "com/example/humble_log/humblelog/protocol/ApiKey" "maxVersion" "S" (.int (1 : Int32))) (S21_ : Sta Z h0 "com/example/humble_log/humblelog/protocol/ApiKey" "INCREMENTAL_ALTER_CONFIGS" "Lcom/example/humble_log/humblelog/protocol/ApiKey;" (.ref w21)) (E21_ : Exa Z h0 w21 "com/example/humble_log/humblelog/protocol/ApiKey") (F21_0 : Fld Z h0 w21 "com/example/humble_log/humblelog/protocol/ApiKey" "minVersion" "S" (.int (0 : Int32))) (F21_1 : Fld Z h0 w21 "com/example/humble_log/humblelog/protocol/ApiKey" "maxVersion" "S" (.int (0 : Int32))) :
    MetFree l x (head1 (Jvm.Cond.code x code maxLocals ret :: ws) room_1) (fun a U => a = #[(.int p0), (.int p1)] ∧ Z.Warmed39 U.vm ∧ U.heap = h0) (fun _ _ _ _ _ => True) (fun _ U o U' => ∃ v L, o = .returned v ∧ Q0 Z p0 p1 w0 w1 w2 w3 w4 w5 w6 w7 w8 w9 w10 w11 w12 w13 w14 w15 w16 w17 w18 w19 w20 w21 h0 n0 v U'.heap L ∧ FrameEnd U o U' L 16 256) := by
  refine own_body (Qv := Q0 Z p0 p1 w0 w1 w2 w3 w4 w5 w6 w7 w8 w9 w10 w11 w12 w13 w14 w15 w16 w17 w18 w19 w20 w21 h0 n0) (plainFor_of_name (by first | (simp [plainName, overriddenIn]; done) | decide +kernel)) ?_
  intro p e s m below meth c s₁ hx hby hml hret hlk hown hnm hZ X0 e0
  replace hown : s.vm.findClass "com/example/humble_log/humblelog/protocol/ApiKeyIsServedPinLaw" = some m.cls := hown
  replace hnm : meth.name = "law" := hnm
  have N0 := Fr.nil n0
  replace hml : c.maxLocals = 9 := hml
  refine own_Go.mono (T' := s₁) (f' := (mkF m 0 #[.val (.int p0), .val (.int p1), .unset, .unset, .unset, .unset, .unset, .unset, .unset] [])) (fun t k => castTop (ef_rm0 m p0 p1) k) ?_
  have K0_0 : Keep h0 h0 [] := Keep.refl _ _
  obtain ⟨T4, h4, k4, X4, e4, E4, A4, O4, st4⟩ := newR X0 hx hZ hown (hw _ (List.mem_of_getElem? (i := 0) rfl)) (hw _ (List.mem_of_getElem? (i := 1) rfl)) e0 (g := (mkF m 2 #[.val (.int p0), .val (.int p1), .unset, .unset, .unset, .unset, .unset, .unset, .unset] [(.int (22 : Int32))])) rfl (hb hby at_2) rfl (by decide) (cap := 22) (by decide) (by decide) (by decide) (by decide)
  obtain ⟨bk, g4⟩ : ∃ z, z = h0.size := ⟨_, rfl⟩
  rw [← g4] at A4 st4
  have lo_bk : n0 ≤ bk := Nat.le_trans Z0 (Nat.le_of_eq g4.symm)
  have sz_bk : h0.size ≤ bk := Nat.le_trans K0_0.1 (Nat.le_of_eq g4.symm)
  have zh4 : n0 ≤ h4.size := Nat.le_trans Z0 E4.1
  have K0_4 : Keep h0 h4 [] := K0_0.ext E4
  have V_bk_4 : Arv Z h4 bk k4 (.object "com/example/humble_log/humblelog/protocol/ApiKey") (22 : Int32) [.null, .null, .null, .null, .null, .null, .null, .null, .null, .null, .null, .null, .null, .null, .null, .null, .null, .null, .null, .null, .null, .null] .null := (Arv.new A4 (by decide)).pad (pad_rep [] .null 22)
  obtain ⟨T5, X5, e5, st5⟩ := getS2 X4 hx hZ hown (host := "") (Or.inl (hw _ (List.mem_of_getElem? (i := 2) rfl))) Via.refl e4 (S0_.ext (own_ext K0_4)) (g := (mkF m 7 #[.val (.int p0), .val (.int p1), .unset, .unset, .unset, .unset, .unset, .unset, .unset] [(.int (0 : Int32)), (.ref bk), (.ref bk)])) rfl (hb hby at_7)
  obtain ⟨cl6, Ar6, q6, S6, P6, H6, G6⟩ := V_bk_4
  have hin7 : ¬ ((0 : Int32) < 0 ∨ cl6.slots.size ≤ ((0 : Int32)).toNatClampNeg) := inb_of S6 ⟨by decide, by decide⟩
  obtain ⟨T7, h7, X7, e7, W7, st7⟩ := stR X5 hx hZ e5 Ar6 (j := (0 : Int32)) hin7 rfl (Sto.ofV Ar6 q6 O4 (Ins.self (E0_.ext (own_ext K0_4)))) (g := (mkF m 10 #[.val (.int p0), .val (.int p1), .unset, .unset, .unset, .unset, .unset, .unset, .unset] [(.ref w0), (.int (0 : Int32)), (.ref bk), (.ref bk)])) rfl rfl (hb hby at_10)
  have V_bk_7 : Arv Z h7 bk k4 (.object "com/example/humble_log/humblelog/protocol/ApiKey") (22 : Int32) [(.ref w0), .null, .null, .null, .null, .null, .null, .null, .null, .null, .null, .null, .null, .null, .null, .null, .null, .null, .null, .null, .null, .null] .null := Arv.set Ar6 q6 S6 P6 H6 G6 rfl W7 0 rfl (Nat.le_of_ble_eq_true rfl)
  have zh7 : n0 ≤ h7.size := Nat.le_trans zh4 (Nat.le_of_eq W7.size.symm)
  have K0_7 : Keep h0 h7 [] := K0_4.wr W7 (Or.inr sz_bk)
  obtain ⟨Lh7, N7, X7⟩ : ∃ L, Fr n0 L ∧ Stand p l e _ _ m _ below meth c T7 L _ _ := ⟨_, Fr.snoc X7 N0 lo_bk, X7⟩
  obtain ⟨T8, X8, e8, st8⟩ := getS2 X7 hx hZ hown (host := "") (Or.inl (hw _ (List.mem_of_getElem? (i := 6) rfl))) Via.refl e7 (S1_.ext (own_ext K0_7)) (g := (mkF m 13 #[.val (.int p0), .val (.int p1), .unset, .unset, .unset, .unset, .unset, .unset, .unset] [(.int (1 : Int32)), (.ref bk), (.ref bk)])) rfl (hb hby at_13)
  obtain ⟨cl9, Ar9, q9, S9, P9, H9, G9⟩ := V_bk_7
  have hin10 : ¬ ((1 : Int32) < 0 ∨ cl9.slots.size ≤ ((1 : Int32)).toNatClampNeg) := inb_of S9 ⟨by decide, by decide⟩
  obtain ⟨T10, h10, X10, e10, W10, st10⟩ := stR X8 hx hZ e8 Ar9 (j := (1 : Int32)) hin10 rfl (Sto.ofV Ar9 q9 O4 (Ins.self (E1_.ext (own_ext K0_7)))) (g := (mkF m 16 #[.val (.int p0), .val (.int p1), .unset, .unset, .unset, .unset, .unset, .unset, .unset] [(.ref w1), (.int (1 : Int32)), (.ref bk), (.ref bk)])) rfl rfl (hb hby at_16)
  have V_bk_10 : Arv Z h10 bk k4 (.object "com/example/humble_log/humblelog/protocol/ApiKey") (22 : Int32) [(.ref w0), (.ref w1), .null, .null, .null, .null, .null, .null, .null, .null, .null, .null, .null, .null, .null, .null, .null, .null, .null, .null, .null, .null] .null := Arv.set Ar9 q9 S9 P9 H9 G9 rfl W10 1 rfl (Nat.le_of_ble_eq_true rfl)
  have zh10 : n0 ≤ h10.size := Nat.le_trans zh7 (Nat.le_of_eq W10.size.symm)
  have K0_10 : Keep h0 h10 [] := K0_7.wr W10 (Or.inr sz_bk)
  obtain ⟨Lh10, N10, X10⟩ : ∃ L, Fr n0 L ∧ Stand p l e _ _ m _ below meth c T10 L _ _ := ⟨_, Fr.snoc X10 N7 lo_bk, X10⟩
  obtain ⟨T11, X11, e11, st11⟩ := getS2 X10 hx hZ hown (host := "") (Or.inl (hw _ (List.mem_of_getElem? (i := 8) rfl))) Via.refl e10 (S2_.ext (own_ext K0_10)) (g := (mkF m 19 #[.val (.int p0), .val (.int p1), .unset, .unset, .unset, .unset, .unset, .unset, .unset] [(.int (2 : Int32)), (.ref bk), (.ref bk)])) rfl (hb hby at_19)
  obtain ⟨cl12, Ar12, q12, S12, P12, H12, G12⟩ := V_bk_10
  have hin13 : ¬ ((2 : Int32) < 0 ∨ cl12.slots.size ≤ ((2 : Int32)).toNatClampNeg) := inb_of S12 ⟨by decide, by decide⟩
  obtain ⟨T13, h13, X13, e13, W13, st13⟩ := stR X11 hx hZ e11 Ar12 (j := (2 : Int32)) hin13 rfl (Sto.ofV Ar12 q12 O4 (Ins.self (E2_.ext (own_ext K0_10)))) (g := (mkF m 22 #[.val (.int p0), .val (.int p1), .unset, .unset, .unset, .unset, .unset, .unset, .unset] [(.ref w2), (.int (2 : Int32)), (.ref bk), (.ref bk)])) rfl rfl (hb hby at_22)
  have V_bk_13 : Arv Z h13 bk k4 (.object "com/example/humble_log/humblelog/protocol/ApiKey") (22 : Int32) [(.ref w0), (.ref w1), (.ref w2), .null, .null, .null, .null, .null, .null, .null, .null, .null, .null, .null, .null, .null, .null, .null, .null, .null, .null, .null] .null := Arv.set Ar12 q12 S12 P12 H12 G12 rfl W13 2 rfl (Nat.le_of_ble_eq_true rfl)
  have zh13 : n0 ≤ h13.size := Nat.le_trans zh10 (Nat.le_of_eq W13.size.symm)
  have K0_13 : Keep h0 h13 [] := K0_10.wr W13 (Or.inr sz_bk)
  obtain ⟨Lh13, N13, X13⟩ : ∃ L, Fr n0 L ∧ Stand p l e _ _ m _ below meth c T13 L _ _ := ⟨_, Fr.snoc X13 N10 lo_bk, X13⟩
  obtain ⟨T14, X14, e14, st14⟩ := getS2 X13 hx hZ hown (host := "") (Or.inl (hw _ (List.mem_of_getElem? (i := 10) rfl))) Via.refl e13 (S3_.ext (own_ext K0_13)) (g := (mkF m 25 #[.val (.int p0), .val (.int p1), .unset, .unset, .unset, .unset, .unset, .unset, .unset] [(.int (3 : Int32)), (.ref bk), (.ref bk)])) rfl (hb hby at_25)
  obtain ⟨cl15, Ar15, q15, S15, P15, H15, G15⟩ := V_bk_13
  have hin16 : ¬ ((3 : Int32) < 0 ∨ cl15.slots.size ≤ ((3 : Int32)).toNatClampNeg) := inb_of S15 ⟨by decide, by decide⟩
  obtain ⟨T16, h16, X16, e16, W16, st16⟩ := stR X14 hx hZ e14 Ar15 (j := (3 : Int32)) hin16 rfl (Sto.ofV Ar15 q15 O4 (Ins.self (E3_.ext (own_ext K0_13)))) (g := (mkF m 28 #[.val (.int p0), .val (.int p1), .unset, .unset, .unset, .unset, .unset, .unset, .unset] [(.ref w3), (.int (3 : Int32)), (.ref bk), (.ref bk)])) rfl rfl (hb hby at_28)
  have V_bk_16 : Arv Z h16 bk k4 (.object "com/example/humble_log/humblelog/protocol/ApiKey") (22 : Int32) [(.ref w0), (.ref w1), (.ref w2), (.ref w3), .null, .null, .null, .null, .null, .null, .null, .null, .null, .null, .null, .null, .null, .null, .null, .null, .null, .null] .null := Arv.set Ar15 q15 S15 P15 H15 G15 rfl W16 3 rfl (Nat.le_of_ble_eq_true rfl)
  have zh16 : n0 ≤ h16.size := Nat.le_trans zh13 (Nat.le_of_eq W16.size.symm)
  have K0_16 : Keep h0 h16 [] := K0_13.wr W16 (Or.inr sz_bk)
  obtain ⟨Lh16, N16, X16⟩ : ∃ L, Fr n0 L ∧ Stand p l e _ _ m _ below meth c T16 L _ _ := ⟨_, Fr.snoc X16 N13 lo_bk, X16⟩
  obtain ⟨T17, X17, e17, st17⟩ := getS2 X16 hx hZ hown (host := "") (Or.inl (hw _ (List.mem_of_getElem? (i := 12) rfl))) Via.refl e16 (S4_.ext (own_ext K0_16)) (g := (mkF m 31 #[.val (.int p0), .val (.int p1), .unset, .unset, .unset, .unset, .unset, .unset, .unset] [(.int (4 : Int32)), (.ref bk), (.ref bk)])) rfl (hb hby at_31)
  obtain ⟨cl18, Ar18, q18, S18, P18, H18, G18⟩ := V_bk_16
  have hin19 : ¬ ((4 : Int32) < 0 ∨ cl18.slots.size ≤ ((4 : Int32)).toNatClampNeg) := inb_of S18 ⟨by decide, by decide⟩
  obtain ⟨T19, h19, X19, e19, W19, st19⟩ := stR X17 hx hZ e17 Ar18 (j := (4 : Int32)) hin19 rfl (Sto.ofV Ar18 q18 O4 (Ins.self (E4_.ext (own_ext K0_16)))) (g := (mkF m 34 #[.val (.int p0), .val (.int p1), .unset, .unset, .unset, .unset, .unset, .unset, .unset] [(.ref w4), (.int (4 : Int32)), (.ref bk), (.ref bk)])) rfl rfl (hb hby at_34)
  have V_bk_19 : Arv Z h19 bk k4 (.object "com/example/humble_log/humblelog/protocol/ApiKey") (22 : Int32) [(.ref w0), (.ref w1), (.ref w2), (.ref w3), (.ref w4), .null, .null, .null, .null, .null, .null, .null, .null, .null, .null, .null, .null, .null, .null, .null, .null, .null] .null := Arv.set Ar18 q18 S18 P18 H18 G18 rfl W19 4 rfl (Nat.le_of_ble_eq_true rfl)
  have zh19 : n0 ≤ h19.size := Nat.le_trans zh16 (Nat.le_of_eq W19.size.symm)
  have K0_19 : Keep h0 h19 [] := K0_16.wr W19 (Or.inr sz_bk)
  obtain ⟨Lh19, N19, X19⟩ : ∃ L, Fr n0 L ∧ Stand p l e _ _ m _ below meth c T19 L _ _ := ⟨_, Fr.snoc X19 N16 lo_bk, X19⟩
  obtain ⟨T20, X20, e20, st20⟩ := getS2 X19 hx hZ hown (host := "") (Or.inl (hw _ (List.mem_of_getElem? (i := 14) rfl))) Via.refl e19 (S5_.ext (own_ext K0_19)) (g := (mkF m 37 #[.val (.int p0), .val (.int p1), .unset, .unset, .unset, .unset, .unset, .unset, .unset] [(.int (5 : Int32)), (.ref bk), (.ref bk)])) rfl (hb hby at_37)
  obtain ⟨cl21, Ar21, q21, S21, P21, H21, G21⟩ := V_bk_19
  have hin22 : ¬ ((5 : Int32) < 0 ∨ cl21.slots.size ≤ ((5 : Int32)).toNatClampNeg) := inb_of S21 ⟨by decide, by decide⟩
  obtain ⟨T22, h22, X22, e22, W22, st22⟩ := stR X20 hx hZ e20 Ar21 (j := (5 : Int32)) hin22 rfl (Sto.ofV Ar21 q21 O4 (Ins.self (E5_.ext (own_ext K0_19)))) (g := (mkF m 40 #[.val (.int p0), .val (.int p1), .unset, .unset, .unset, .unset, .unset, .unset, .unset] [(.ref w5), (.int (5 : Int32)), (.ref bk), (.ref bk)])) rfl rfl (hb hby at_40)
  have V_bk_22 : Arv Z h22 bk k4 (.object "com/example/humble_log/humblelog/protocol/ApiKey") (22 : Int32) [(.ref w0), (.ref w1), (.ref w2), (.ref w3), (.ref w4), (.ref w5), .null, .null, .null, .null, .null, .null, .null, .null, .null, .null, .null, .null, .null, .null, .null, .null] .null := Arv.set Ar21 q21 S21 P21 H21 G21 rfl W22 5 rfl (Nat.le_of_ble_eq_true rfl)
  have zh22 : n0 ≤ h22.size := Nat.le_trans zh19 (Nat.le_of_eq W22.size.symm)
  have K0_22 : Keep h0 h22 [] := K0_19.wr W22 (Or.inr sz_bk)
  obtain ⟨Lh22, N22, X22⟩ : ∃ L, Fr n0 L ∧ Stand p l e _ _ m _ below meth c T22 L _ _ := ⟨_, Fr.snoc X22 N19 lo_bk, X22⟩
  obtain ⟨T23, X23, e23, st23⟩ := getS2 X22 hx hZ hown (host := "") (Or.inl (hw _ (List.mem_of_getElem? (i := 16) rfl))) Via.refl e22 (S6_.ext (own_ext K0_22)) (g := (mkF m 44 #[.val (.int p0), .val (.int p1), .unset, .unset, .unset, .unset, .unset, .unset, .unset] [(.int (6 : Int32)), (.ref bk), (.ref bk)])) rfl (hb hby at_44)
  obtain ⟨cl24, Ar24, q24, S24, P24, H24, G24⟩ := V_bk_22
  have hin25 : ¬ ((6 : Int32) < 0 ∨ cl24.slots.size ≤ ((6 : Int32)).toNatClampNeg) := inb_of S24 ⟨by decide, by decide⟩
  obtain ⟨T25, h25, X25, e25, W25, st25⟩ := stR X23 hx hZ e23 Ar24 (j := (6 : Int32)) hin25 rfl (Sto.ofV Ar24 q24 O4 (Ins.self (E6_.ext (own_ext K0_22)))) (g := (mkF m 47 #[.val (.int p0), .val (.int p1), .unset, .unset, .unset, .unset, .unset, .unset, .unset] [(.ref w6), (.int (6 : Int32)), (.ref bk), (.ref bk)])) rfl rfl (hb hby at_47)
  have V_bk_25 : Arv Z h25 bk k4 (.object "com/example/humble_log/humblelog/protocol/ApiKey") (22 : Int32) [(.ref w0), (.ref w1), (.ref w2), (.ref w3), (.ref w4), (.ref w5), (.ref w6), .null, .null, .null, .null, .null, .null, .null, .null, .null, .null, .null, .null, .null, .null, .null] .null := Arv.set Ar24 q24 S24 P24 H24 G24 rfl W25 6 rfl (Nat.le_of_ble_eq_true rfl)
  have zh25 : n0 ≤ h25.size := Nat.le_trans zh22 (Nat.le_of_eq W25.size.symm)
  have K0_25 : Keep h0 h25 [] := K0_22.wr W25 (Or.inr sz_bk)
  obtain ⟨Lh25, N25, X25⟩ : ∃ L, Fr n0 L ∧ Stand p l e _ _ m _ below meth c T25 L _ _ := ⟨_, Fr.snoc X25 N22 lo_bk, X25⟩
  obtain ⟨T26, X26, e26, st26⟩ := getS2 X25 hx hZ hown (host := "") (Or.inl (hw _ (List.mem_of_getElem? (i := 18) rfl))) Via.refl e25 (S7_.ext (own_ext K0_25)) (g := (mkF m 51 #[.val (.int p0), .val (.int p1), .unset, .unset, .unset, .unset, .unset, .unset, .unset] [(.int (7 : Int32)), (.ref bk), (.ref bk)])) rfl (hb hby at_51)
  obtain ⟨cl27, Ar27, q27, S27, P27, H27, G27⟩ := V_bk_25
  have hin28 : ¬ ((7 : Int32) < 0 ∨ cl27.slots.size ≤ ((7 : Int32)).toNatClampNeg) := inb_of S27 ⟨by decide, by decide⟩
  obtain ⟨T28, h28, X28, e28, W28, st28⟩ := stR X26 hx hZ e26 Ar27 (j := (7 : Int32)) hin28 rfl (Sto.ofV Ar27 q27 O4 (Ins.self (E7_.ext (own_ext K0_25)))) (g := (mkF m 54 #[.val (.int p0), .val (.int p1), .unset, .unset, .unset, .unset, .unset, .unset, .unset] [(.ref w7), (.int (7 : Int32)), (.ref bk), (.ref bk)])) rfl rfl (hb hby at_54)
  have V_bk_28 : Arv Z h28 bk k4 (.object "com/example/humble_log/humblelog/protocol/ApiKey") (22 : Int32) [(.ref w0), (.ref w1), (.ref w2), (.ref w3), (.ref w4), (.ref w5), (.ref w6), (.ref w7), .null, .null, .null, .null, .null, .null, .null, .null, .null, .null, .null, .null, .null, .null] .null := Arv.set Ar27 q27 S27 P27 H27 G27 rfl W28 7 rfl (Nat.le_of_ble_eq_true rfl)
  have zh28 : n0 ≤ h28.size := Nat.le_trans zh25 (Nat.le_of_eq W28.size.symm)
  have K0_28 : Keep h0 h28 [] := K0_25.wr W28 (Or.inr sz_bk)
  obtain ⟨Lh28, N28, X28⟩ : ∃ L, Fr n0 L ∧ Stand p l e _ _ m _ below meth c T28 L _ _ := ⟨_, Fr.snoc X28 N25 lo_bk, X28⟩
  obtain ⟨T29, X29, e29, st29⟩ := getS2 X28 hx hZ hown (host := "") (Or.inl (hw _ (List.mem_of_getElem? (i := 20) rfl))) Via.refl e28 (S8_.ext (own_ext K0_28)) (g := (mkF m 58 #[.val (.int p0), .val (.int p1), .unset, .unset, .unset, .unset, .unset, .unset, .unset] [(.int (8 : Int32)), (.ref bk), (.ref bk)])) rfl (hb hby at_58)
  obtain ⟨cl30, Ar30, q30, S30, P30, H30, G30⟩ := V_bk_28
  have hin31 : ¬ ((8 : Int32) < 0 ∨ cl30.slots.size ≤ ((8 : Int32)).toNatClampNeg) := inb_of S30 ⟨by decide, by decide⟩
  obtain ⟨T31, h31, X31, e31, W31, st31⟩ := stR X29 hx hZ e29 Ar30 (j := (8 : Int32)) hin31 rfl (Sto.ofV Ar30 q30 O4 (Ins.self (E8_.ext (own_ext K0_28)))) (g := (mkF m 61 #[.val (.int p0), .val (.int p1), .unset, .unset, .unset, .unset, .unset, .unset, .unset] [(.ref w8), (.int (8 : Int32)), (.ref bk), (.ref bk)])) rfl rfl (hb hby at_61)
  have V_bk_31 : Arv Z h31 bk k4 (.object "com/example/humble_log/humblelog/protocol/ApiKey") (22 : Int32) [(.ref w0), (.ref w1), (.ref w2), (.ref w3), (.ref w4), (.ref w5), (.ref w6), (.ref w7), (.ref w8), .null, .null, .null, .null, .null, .null, .null, .null, .null, .null, .null, .null, .null] .null := Arv.set Ar30 q30 S30 P30 H30 G30 rfl W31 8 rfl (Nat.le_of_ble_eq_true rfl)
  have zh31 : n0 ≤ h31.size := Nat.le_trans zh28 (Nat.le_of_eq W31.size.symm)
  have K0_31 : Keep h0 h31 [] := K0_28.wr W31 (Or.inr sz_bk)
  obtain ⟨Lh31, N31, X31⟩ : ∃ L, Fr n0 L ∧ Stand p l e _ _ m _ below meth c T31 L _ _ := ⟨_, Fr.snoc X31 N28 lo_bk, X31⟩
  obtain ⟨T32, X32, e32, st32⟩ := getS2 X31 hx hZ hown (host := "") (Or.inl (hw _ (List.mem_of_getElem? (i := 22) rfl))) Via.refl e31 (S9_.ext (own_ext K0_31)) (g := (mkF m 65 #[.val (.int p0), .val (.int p1), .unset, .unset, .unset, .unset, .unset, .unset, .unset] [(.int (9 : Int32)), (.ref bk), (.ref bk)])) rfl (hb hby at_65)
  obtain ⟨cl33, Ar33, q33, S33, P33, H33, G33⟩ := V_bk_31
  have hin34 : ¬ ((9 : Int32) < 0 ∨ cl33.slots.size ≤ ((9 : Int32)).toNatClampNeg) := inb_of S33 ⟨by decide, by decide⟩
  obtain ⟨T34, h34, X34, e34, W34, st34⟩ := stR X32 hx hZ e32 Ar33 (j := (9 : Int32)) hin34 rfl (Sto.ofV Ar33 q33 O4 (Ins.self (E9_.ext (own_ext K0_31)))) (g := (mkF m 68 #[.val (.int p0), .val (.int p1), .unset, .unset, .unset, .unset, .unset, .unset, .unset] [(.ref w9), (.int (9 : Int32)), (.ref bk), (.ref bk)])) rfl rfl (hb hby at_68)
  have V_bk_34 : Arv Z h34 bk k4 (.object "com/example/humble_log/humblelog/protocol/ApiKey") (22 : Int32) [(.ref w0), (.ref w1), (.ref w2), (.ref w3), (.ref w4), (.ref w5), (.ref w6), (.ref w7), (.ref w8), (.ref w9), .null, .null, .null, .null, .null, .null, .null, .null, .null, .null, .null, .null] .null := Arv.set Ar33 q33 S33 P33 H33 G33 rfl W34 9 rfl (Nat.le_of_ble_eq_true rfl)
  have zh34 : n0 ≤ h34.size := Nat.le_trans zh31 (Nat.le_of_eq W34.size.symm)
  have K0_34 : Keep h0 h34 [] := K0_31.wr W34 (Or.inr sz_bk)
  obtain ⟨Lh34, N34, X34⟩ : ∃ L, Fr n0 L ∧ Stand p l e _ _ m _ below meth c T34 L _ _ := ⟨_, Fr.snoc X34 N31 lo_bk, X34⟩
  obtain ⟨T35, X35, e35, st35⟩ := getS2 X34 hx hZ hown (host := "") (Or.inl (hw _ (List.mem_of_getElem? (i := 24) rfl))) Via.refl e34 (S10_.ext (own_ext K0_34)) (g := (mkF m 72 #[.val (.int p0), .val (.int p1), .unset, .unset, .unset, .unset, .unset, .unset, .unset] [(.int (10 : Int32)), (.ref bk), (.ref bk)])) rfl (hb hby at_72)
  obtain ⟨cl36, Ar36, q36, S36, P36, H36, G36⟩ := V_bk_34
  have hin37 : ¬ ((10 : Int32) < 0 ∨ cl36.slots.size ≤ ((10 : Int32)).toNatClampNeg) := inb_of S36 ⟨by decide, by decide⟩
  obtain ⟨T37, h37, X37, e37, W37, st37⟩ := stR X35 hx hZ e35 Ar36 (j := (10 : Int32)) hin37 rfl (Sto.ofV Ar36 q36 O4 (Ins.self (E10_.ext (own_ext K0_34)))) (g := (mkF m 75 #[.val (.int p0), .val (.int p1), .unset, .unset, .unset, .unset, .unset, .unset, .unset] [(.ref w10), (.int (10 : Int32)), (.ref bk), (.ref bk)])) rfl rfl (hb hby at_75)
  have V_bk_37 : Arv Z h37 bk k4 (.object "com/example/humble_log/humblelog/protocol/ApiKey") (22 : Int32) [(.ref w0), (.ref w1), (.ref w2), (.ref w3), (.ref w4), (.ref w5), (.ref w6), (.ref w7), (.ref w8), (.ref w9), (.ref w10), .null, .null, .null, .null, .null, .null, .null, .null, .null, .null, .null] .null := Arv.set Ar36 q36 S36 P36 H36 G36 rfl W37 10 rfl (Nat.le_of_ble_eq_true rfl)
  have zh37 : n0 ≤ h37.size := Nat.le_trans zh34 (Nat.le_of_eq W37.size.symm)
  have K0_37 : Keep h0 h37 [] := K0_34.wr W37 (Or.inr sz_bk)
  obtain ⟨Lh37, N37, X37⟩ : ∃ L, Fr n0 L ∧ Stand p l e _ _ m _ below meth c T37 L _ _ := ⟨_, Fr.snoc X37 N34 lo_bk, X37⟩
  obtain ⟨T38, X38, e38, st38⟩ := getS2 X37 hx hZ hown (host := "") (Or.inl (hw _ (List.mem_of_getElem? (i := 26) rfl))) Via.refl e37 (S11_.ext (own_ext K0_37)) (g := (mkF m 79 #[.val (.int p0), .val (.int p1), .unset, .unset, .unset, .unset, .unset, .unset, .unset] [(.int (11 : Int32)), (.ref bk), (.ref bk)])) rfl (hb hby at_79)
  obtain ⟨cl39, Ar39, q39, S39, P39, H39, G39⟩ := V_bk_37
  have hin40 : ¬ ((11 : Int32) < 0 ∨ cl39.slots.size ≤ ((11 : Int32)).toNatClampNeg) := inb_of S39 ⟨by decide, by decide⟩
  obtain ⟨T40, h40, X40, e40, W40, st40⟩ := stR X38 hx hZ e38 Ar39 (j := (11 : Int32)) hin40 rfl (Sto.ofV Ar39 q39 O4 (Ins.self (E11_.ext (own_ext K0_37)))) (g := (mkF m 82 #[.val (.int p0), .val (.int p1), .unset, .unset, .unset, .unset, .unset, .unset, .unset] [(.ref w11), (.int (11 : Int32)), (.ref bk), (.ref bk)])) rfl rfl (hb hby at_82)
  have V_bk_40 : Arv Z h40 bk k4 (.object "com/example/humble_log/humblelog/protocol/ApiKey") (22 : Int32) [(.ref w0), (.ref w1), (.ref w2), (.ref w3), (.ref w4), (.ref w5), (.ref w6), (.ref w7), (.ref w8), (.ref w9), (.ref w10), (.ref w11), .null, .null, .null, .null, .null, .null, .null, .null, .null, .null] .null := Arv.set Ar39 q39 S39 P39 H39 G39 rfl W40 11 rfl (Nat.le_of_ble_eq_true rfl)
  have zh40 : n0 ≤ h40.size := Nat.le_trans zh37 (Nat.le_of_eq W40.size.symm)
  have K0_40 : Keep h0 h40 [] := K0_37.wr W40 (Or.inr sz_bk)
  obtain ⟨Lh40, N40, X40⟩ : ∃ L, Fr n0 L ∧ Stand p l e _ _ m _ below meth c T40 L _ _ := ⟨_, Fr.snoc X40 N37 lo_bk, X40⟩
  obtain ⟨T41, X41, e41, st41⟩ := getS2 X40 hx hZ hown (host := "") (Or.inl (hw _ (List.mem_of_getElem? (i := 28) rfl))) Via.refl e40 (S12_.ext (own_ext K0_40)) (g := (mkF m 86 #[.val (.int p0), .val (.int p1), .unset, .unset, .unset, .unset, .unset, .unset, .unset] [(.int (12 : Int32)), (.ref bk), (.ref bk)])) rfl (hb hby at_86)
  obtain ⟨cl42, Ar42, q42, S42, P42, H42, G42⟩ := V_bk_40
  have hin43 : ¬ ((12 : Int32) < 0 ∨ cl42.slots.size ≤ ((12 : Int32)).toNatClampNeg) := inb_of S42 ⟨by decide, by decide⟩
  obtain ⟨T43, h43, X43, e43, W43, st43⟩ := stR X41 hx hZ e41 Ar42 (j := (12 : Int32)) hin43 rfl (Sto.ofV Ar42 q42 O4 (Ins.self (E12_.ext (own_ext K0_40)))) (g := (mkF m 89 #[.val (.int p0), .val (.int p1), .unset, .unset, .unset, .unset, .unset, .unset, .unset] [(.ref w12), (.int (12 : Int32)), (.ref bk), (.ref bk)])) rfl rfl (hb hby at_89)
  have V_bk_43 : Arv Z h43 bk k4 (.object "com/example/humble_log/humblelog/protocol/ApiKey") (22 : Int32) [(.ref w0), (.ref w1), (.ref w2), (.ref w3), (.ref w4), (.ref w5), (.ref w6), (.ref w7), (.ref w8), (.ref w9), (.ref w10), (.ref w11), (.ref w12), .null, .null, .null, .null, .null, .null, .null, .null, .null] .null := Arv.set Ar42 q42 S42 P42 H42 G42 rfl W43 12 rfl (Nat.le_of_ble_eq_true rfl)
  have zh43 : n0 ≤ h43.size := Nat.le_trans zh40 (Nat.le_of_eq W43.size.symm)
  have K0_43 : Keep h0 h43 [] := K0_40.wr W43 (Or.inr sz_bk)
  obtain ⟨Lh43, N43, X43⟩ : ∃ L, Fr n0 L ∧ Stand p l e _ _ m _ below meth c T43 L _ _ := ⟨_, Fr.snoc X43 N40 lo_bk, X43⟩
  obtain ⟨T44, X44, e44, st44⟩ := getS2 X43 hx hZ hown (host := "") (Or.inl (hw _ (List.mem_of_getElem? (i := 30) rfl))) Via.refl e43 (S13_.ext (own_ext K0_43)) (g := (mkF m 93 #[.val (.int p0), .val (.int p1), .unset, .unset, .unset, .unset, .unset, .unset, .unset] [(.int (13 : Int32)), (.ref bk), (.ref bk)])) rfl (hb hby at_93)
  obtain ⟨cl45, Ar45, q45, S45, P45, H45, G45⟩ := V_bk_43
  have hin46 : ¬ ((13 : Int32) < 0 ∨ cl45.slots.size ≤ ((13 : Int32)).toNatClampNeg) := inb_of S45 ⟨by decide, by decide⟩
  obtain ⟨T46, h46, X46, e46, W46, st46⟩ := stR X44 hx hZ e44 Ar45 (j := (13 : Int32)) hin46 rfl (Sto.ofV Ar45 q45 O4 (Ins.self (E13_.ext (own_ext K0_43)))) (g := (mkF m 96 #[.val (.int p0), .val (.int p1), .unset, .unset, .unset, .unset, .unset, .unset, .unset] [(.ref w13), (.int (13 : Int32)), (.ref bk), (.ref bk)])) rfl rfl (hb hby at_96)
  have V_bk_46 : Arv Z h46 bk k4 (.object "com/example/humble_log/humblelog/protocol/ApiKey") (22 : Int32) [(.ref w0), (.ref w1), (.ref w2), (.ref w3), (.ref w4), (.ref w5), (.ref w6), (.ref w7), (.ref w8), (.ref w9), (.ref w10), (.ref w11), (.ref w12), (.ref w13), .null, .null, .null, .null, .null, .null, .null, .null] .null := Arv.set Ar45 q45 S45 P45 H45 G45 rfl W46 13 rfl (Nat.le_of_ble_eq_true rfl)
  have zh46 : n0 ≤ h46.size := Nat.le_trans zh43 (Nat.le_of_eq W46.size.symm)
  have K0_46 : Keep h0 h46 [] := K0_43.wr W46 (Or.inr sz_bk)
  obtain ⟨Lh46, N46, X46⟩ : ∃ L, Fr n0 L ∧ Stand p l e _ _ m _ below meth c T46 L _ _ := ⟨_, Fr.snoc X46 N43 lo_bk, X46⟩
  obtain ⟨T47, X47, e47, st47⟩ := getS2 X46 hx hZ hown (host := "") (Or.inl (hw _ (List.mem_of_getElem? (i := 32) rfl))) Via.refl e46 (S14_.ext (own_ext K0_46)) (g := (mkF m 100 #[.val (.int p0), .val (.int p1), .unset, .unset, .unset, .unset, .unset, .unset, .unset] [(.int (14 : Int32)), (.ref bk), (.ref bk)])) rfl (hb hby at_100)
  obtain ⟨cl48, Ar48, q48, S48, P48, H48, G48⟩ := V_bk_46
  have hin49 : ¬ ((14 : Int32) < 0 ∨ cl48.slots.size ≤ ((14 : Int32)).toNatClampNeg) := inb_of S48 ⟨by decide, by decide⟩
  obtain ⟨T49, h49, X49, e49, W49, st49⟩ := stR X47 hx hZ e47 Ar48 (j := (14 : Int32)) hin49 rfl (Sto.ofV Ar48 q48 O4 (Ins.self (E14_.ext (own_ext K0_46)))) (g := (mkF m 103 #[.val (.int p0), .val (.int p1), .unset, .unset, .unset, .unset, .unset, .unset, .unset] [(.ref w14), (.int (14 : Int32)), (.ref bk), (.ref bk)])) rfl rfl (hb hby at_103)
  have V_bk_49 : Arv Z h49 bk k4 (.object "com/example/humble_log/humblelog/protocol/ApiKey") (22 : Int32) [(.ref w0), (.ref w1), (.ref w2), (.ref w3), (.ref w4), (.ref w5), (.ref w6), (.ref w7), (.ref w8), (.ref w9), (.ref w10), (.ref w11), (.ref w12), (.ref w13), (.ref w14), .null, .null, .null, .null, .null, .null, .null] .null := Arv.set Ar48 q48 S48 P48 H48 G48 rfl W49 14 rfl (Nat.le_of_ble_eq_true rfl)
  have zh49 : n0 ≤ h49.size := Nat.le_trans zh46 (Nat.le_of_eq W49.size.symm)
  have K0_49 : Keep h0 h49 [] := K0_46.wr W49 (Or.inr sz_bk)
  obtain ⟨Lh49, N49, X49⟩ : ∃ L, Fr n0 L ∧ Stand p l e _ _ m _ below meth c T49 L _ _ := ⟨_, Fr.snoc X49 N46 lo_bk, X49⟩
  obtain ⟨T50, X50, e50, st50⟩ := getS2 X49 hx hZ hown (host := "") (Or.inl (hw _ (List.mem_of_getElem? (i := 34) rfl))) Via.refl e49 (S15_.ext (own_ext K0_49)) (g := (mkF m 107 #[.val (.int p0), .val (.int p1), .unset, .unset, .unset, .unset, .unset, .unset, .unset] [(.int (15 : Int32)), (.ref bk), (.ref bk)])) rfl (hb hby at_107)
  obtain ⟨cl51, Ar51, q51, S51, P51, H51, G51⟩ := V_bk_49
  have hin52 : ¬ ((15 : Int32) < 0 ∨ cl51.slots.size ≤ ((15 : Int32)).toNatClampNeg) := inb_of S51 ⟨by decide, by decide⟩
  obtain ⟨T52, h52, X52, e52, W52, st52⟩ := stR X50 hx hZ e50 Ar51 (j := (15 : Int32)) hin52 rfl (Sto.ofV Ar51 q51 O4 (Ins.self (E15_.ext (own_ext K0_49)))) (g := (mkF m 110 #[.val (.int p0), .val (.int p1), .unset, .unset, .unset, .unset, .unset, .unset, .unset] [(.ref w15), (.int (15 : Int32)), (.ref bk), (.ref bk)])) rfl rfl (hb hby at_110)
  have V_bk_52 : Arv Z h52 bk k4 (.object "com/example/humble_log/humblelog/protocol/ApiKey") (22 : Int32) [(.ref w0), (.ref w1), (.ref w2), (.ref w3), (.ref w4), (.ref w5), (.ref w6), (.ref w7), (.ref w8), (.ref w9), (.ref w10), (.ref w11), (.ref w12), (.ref w13), (.ref w14), (.ref w15), .null, .null, .null, .null, .null, .null] .null := Arv.set Ar51 q51 S51 P51 H51 G51 rfl W52 15 rfl (Nat.le_of_ble_eq_true rfl)
  have zh52 : n0 ≤ h52.size := Nat.le_trans zh49 (Nat.le_of_eq W52.size.symm)
  have K0_52 : Keep h0 h52 [] := K0_49.wr W52 (Or.inr sz_bk)
  obtain ⟨Lh52, N52, X52⟩ : ∃ L, Fr n0 L ∧ Stand p l e _ _ m _ below meth c T52 L _ _ := ⟨_, Fr.snoc X52 N49 lo_bk, X52⟩
  obtain ⟨T53, X53, e53, st53⟩ := getS2 X52 hx hZ hown (host := "") (Or.inl (hw _ (List.mem_of_getElem? (i := 36) rfl))) Via.refl e52 (S16_.ext (own_ext K0_52)) (g := (mkF m 114 #[.val (.int p0), .val (.int p1), .unset, .unset, .unset, .unset, .unset, .unset, .unset] [(.int (16 : Int32)), (.ref bk), (.ref bk)])) rfl (hb hby at_114)
  obtain ⟨cl54, Ar54, q54, S54, P54, H54, G54⟩ := V_bk_52
  have hin55 : ¬ ((16 : Int32) < 0 ∨ cl54.slots.size ≤ ((16 : Int32)).toNatClampNeg) := inb_of S54 ⟨by decide, by decide⟩
  obtain ⟨T55, h55, X55, e55, W55, st55⟩ := stR X53 hx hZ e53 Ar54 (j := (16 : Int32)) hin55 rfl (Sto.ofV Ar54 q54 O4 (Ins.self (E16_.ext (own_ext K0_52)))) (g := (mkF m 117 #[.val (.int p0), .val (.int p1), .unset, .unset, .unset, .unset, .unset, .unset, .unset] [(.ref w16), (.int (16 : Int32)), (.ref bk), (.ref bk)])) rfl rfl (hb hby at_117)
  have V_bk_55 : Arv Z h55 bk k4 (.object "com/example/humble_log/humblelog/protocol/ApiKey") (22 : Int32) [(.ref w0), (.ref w1), (.ref w2), (.ref w3), (.ref w4), (.ref w5), (.ref w6), (.ref w7), (.ref w8), (.ref w9), (.ref w10), (.ref w11), (.ref w12), (.ref w13), (.ref w14), (.ref w15), (.ref w16), .null, .null, .null, .null, .null] .null := Arv.set Ar54 q54 S54 P54 H54 G54 rfl W55 16 rfl (Nat.le_of_ble_eq_true rfl)
  have zh55 : n0 ≤ h55.size := Nat.le_trans zh52 (Nat.le_of_eq W55.size.symm)
  have K0_55 : Keep h0 h55 [] := K0_52.wr W55 (Or.inr sz_bk)
  obtain ⟨Lh55, N55, X55⟩ : ∃ L, Fr n0 L ∧ Stand p l e _ _ m _ below meth c T55 L _ _ := ⟨_, Fr.snoc X55 N52 lo_bk, X55⟩
  obtain ⟨T56, X56, e56, st56⟩ := getS2 X55 hx hZ hown (host := "") (Or.inl (hw _ (List.mem_of_getElem? (i := 38) rfl))) Via.refl e55 (S17_.ext (own_ext K0_55)) (g := (mkF m 121 #[.val (.int p0), .val (.int p1), .unset, .unset, .unset, .unset, .unset, .unset, .unset] [(.int (17 : Int32)), (.ref bk), (.ref bk)])) rfl (hb hby at_121)
  obtain ⟨cl57, Ar57, q57, S57, P57, H57, G57⟩ := V_bk_55
  have hin58 : ¬ ((17 : Int32) < 0 ∨ cl57.slots.size ≤ ((17 : Int32)).toNatClampNeg) := inb_of S57 ⟨by decide, by decide⟩
  obtain ⟨T58, h58, X58, e58, W58, st58⟩ := stR X56 hx hZ e56 Ar57 (j := (17 : Int32)) hin58 rfl (Sto.ofV Ar57 q57 O4 (Ins.self (E17_.ext (own_ext K0_55)))) (g := (mkF m 124 #[.val (.int p0), .val (.int p1), .unset, .unset, .unset, .unset, .unset, .unset, .unset] [(.ref w17), (.int (17 : Int32)), (.ref bk), (.ref bk)])) rfl rfl (hb hby at_124)
  have V_bk_58 : Arv Z h58 bk k4 (.object "com/example/humble_log/humblelog/protocol/ApiKey") (22 : Int32) [(.ref w0), (.ref w1), (.ref w2), (.ref w3), (.ref w4), (.ref w5), (.ref w6), (.ref w7), (.ref w8), (.ref w9), (.ref w10), (.ref w11), (.ref w12), (.ref w13), (.ref w14), (.ref w15), (.ref w16), (.ref w17), .null, .null, .null, .null] .null := Arv.set Ar57 q57 S57 P57 H57 G57 rfl W58 17 rfl (Nat.le_of_ble_eq_true rfl)
  have zh58 : n0 ≤ h58.size := Nat.le_trans zh55 (Nat.le_of_eq W58.size.symm)
  have K0_58 : Keep h0 h58 [] := K0_55.wr W58 (Or.inr sz_bk)
  obtain ⟨Lh58, N58, X58⟩ : ∃ L, Fr n0 L ∧ Stand p l e _ _ m _ below meth c T58 L _ _ := ⟨_, Fr.snoc X58 N55 lo_bk, X58⟩
  obtain ⟨T59, X59, e59, st59⟩ := getS2 X58 hx hZ hown (host := "") (Or.inl (hw _ (List.mem_of_getElem? (i := 40) rfl))) Via.refl e58 (S18_.ext (own_ext K0_58)) (g := (mkF m 128 #[.val (.int p0), .val (.int p1), .unset, .unset, .unset, .unset, .unset, .unset, .unset] [(.int (18 : Int32)), (.ref bk), (.ref bk)])) rfl (hb hby at_128)
  obtain ⟨cl60, Ar60, q60, S60, P60, H60, G60⟩ := V_bk_58
  have hin61 : ¬ ((18 : Int32) < 0 ∨ cl60.slots.size ≤ ((18 : Int32)).toNatClampNeg) := inb_of S60 ⟨by decide, by decide⟩
  obtain ⟨T61, h61, X61, e61, W61, st61⟩ := stR X59 hx hZ e59 Ar60 (j := (18 : Int32)) hin61 rfl (Sto.ofV Ar60 q60 O4 (Ins.self (E18_.ext (own_ext K0_58)))) (g := (mkF m 131 #[.val (.int p0), .val (.int p1), .unset, .unset, .unset, .unset, .unset, .unset, .unset] [(.ref w18), (.int (18 : Int32)), (.ref bk), (.ref bk)])) rfl rfl (hb hby at_131)
  have V_bk_61 : Arv Z h61 bk k4 (.object "com/example/humble_log/humblelog/protocol/ApiKey") (22 : Int32) [(.ref w0), (.ref w1), (.ref w2), (.ref w3), (.ref w4), (.ref w5), (.ref w6), (.ref w7), (.ref w8), (.ref w9), (.ref w10), (.ref w11), (.ref w12), (.ref w13), (.ref w14), (.ref w15), (.ref w16), (.ref w17), (.ref w18), .null, .null, .null] .null := Arv.set Ar60 q60 S60 P60 H60 G60 rfl W61 18 rfl (Nat.le_of_ble_eq_true rfl)
  have zh61 : n0 ≤ h61.size := Nat.le_trans zh58 (Nat.le_of_eq W61.size.symm)
  have K0_61 : Keep h0 h61 [] := K0_58.wr W61 (Or.inr sz_bk)
  obtain ⟨Lh61, N61, X61⟩ : ∃ L, Fr n0 L ∧ Stand p l e _ _ m _ below meth c T61 L _ _ := ⟨_, Fr.snoc X61 N58 lo_bk, X61⟩
  obtain ⟨T62, X62, e62, st62⟩ := getS2 X61 hx hZ hown (host := "") (Or.inl (hw _ (List.mem_of_getElem? (i := 42) rfl))) Via.refl e61 (S19_.ext (own_ext K0_61)) (g := (mkF m 135 #[.val (.int p0), .val (.int p1), .unset, .unset, .unset, .unset, .unset, .unset, .unset] [(.int (19 : Int32)), (.ref bk), (.ref bk)])) rfl (hb hby at_135)
  obtain ⟨cl63, Ar63, q63, S63, P63, H63, G63⟩ := V_bk_61
  have hin64 : ¬ ((19 : Int32) < 0 ∨ cl63.slots.size ≤ ((19 : Int32)).toNatClampNeg) := inb_of S63 ⟨by decide, by decide⟩
  obtain ⟨T64, h64, X64, e64, W64, st64⟩ := stR X62 hx hZ e62 Ar63 (j := (19 : Int32)) hin64 rfl (Sto.ofV Ar63 q63 O4 (Ins.self (E19_.ext (own_ext K0_61)))) (g := (mkF m 138 #[.val (.int p0), .val (.int p1), .unset, .unset, .unset, .unset, .unset, .unset, .unset] [(.ref w19), (.int (19 : Int32)), (.ref bk), (.ref bk)])) rfl rfl (hb hby at_138)
  have V_bk_64 : Arv Z h64 bk k4 (.object "com/example/humble_log/humblelog/protocol/ApiKey") (22 : Int32) [(.ref w0), (.ref w1), (.ref w2), (.ref w3), (.ref w4), (.ref w5), (.ref w6), (.ref w7), (.ref w8), (.ref w9), (.ref w10), (.ref w11), (.ref w12), (.ref w13), (.ref w14), (.ref w15), (.ref w16), (.ref w17), (.ref w18), (.ref w19), .null, .null] .null := Arv.set Ar63 q63 S63 P63 H63 G63 rfl W64 19 rfl (Nat.le_of_ble_eq_true rfl)
  have zh64 : n0 ≤ h64.size := Nat.le_trans zh61 (Nat.le_of_eq W64.size.symm)
  have K0_64 : Keep h0 h64 [] := K0_61.wr W64 (Or.inr sz_bk)
  obtain ⟨Lh64, N64, X64⟩ : ∃ L, Fr n0 L ∧ Stand p l e _ _ m _ below meth c T64 L _ _ := ⟨_, Fr.snoc X64 N61 lo_bk, X64⟩
  obtain ⟨T65, X65, e65, st65⟩ := getS2 X64 hx hZ hown (host := "") (Or.inl (hw _ (List.mem_of_getElem? (i := 44) rfl))) Via.refl e64 (S20_.ext (own_ext K0_64)) (g := (mkF m 142 #[.val (.int p0), .val (.int p1), .unset, .unset, .unset, .unset, .unset, .unset, .unset] [(.int (20 : Int32)), (.ref bk), (.ref bk)])) rfl (hb hby at_142)
  obtain ⟨cl66, Ar66, q66, S66, P66, H66, G66⟩ := V_bk_64
  have hin67 : ¬ ((20 : Int32) < 0 ∨ cl66.slots.size ≤ ((20 : Int32)).toNatClampNeg) := inb_of S66 ⟨by decide, by decide⟩
  obtain ⟨T67, h67, X67, e67, W67, st67⟩ := stR X65 hx hZ e65 Ar66 (j := (20 : Int32)) hin67 rfl (Sto.ofV Ar66 q66 O4 (Ins.self (E20_.ext (own_ext K0_64)))) (g := (mkF m 145 #[.val (.int p0), .val (.int p1), .unset, .unset, .unset, .unset, .unset, .unset, .unset] [(.ref w20), (.int (20 : Int32)), (.ref bk), (.ref bk)])) rfl rfl (hb hby at_145)
  have V_bk_67 : Arv Z h67 bk k4 (.object "com/example/humble_log/humblelog/protocol/ApiKey") (22 : Int32) [(.ref w0), (.ref w1), (.ref w2), (.ref w3), (.ref w4), (.ref w5), (.ref w6), (.ref w7), (.ref w8), (.ref w9), (.ref w10), (.ref w11), (.ref w12), (.ref w13), (.ref w14), (.ref w15), (.ref w16), (.ref w17), (.ref w18), (.ref w19), (.ref w20), .null] .null := Arv.set Ar66 q66 S66 P66 H66 G66 rfl W67 20 rfl (Nat.le_of_ble_eq_true rfl)
  have zh67 : n0 ≤ h67.size := Nat.le_trans zh64 (Nat.le_of_eq W67.size.symm)
  have K0_67 : Keep h0 h67 [] := K0_64.wr W67 (Or.inr sz_bk)
  obtain ⟨Lh67, N67, X67⟩ : ∃ L, Fr n0 L ∧ Stand p l e _ _ m _ below meth c T67 L _ _ := ⟨_, Fr.snoc X67 N64 lo_bk, X67⟩
  obtain ⟨T68, X68, e68, st68⟩ := getS2 X67 hx hZ hown (host := "") (Or.inl (hw _ (List.mem_of_getElem? (i := 46) rfl))) Via.refl e67 (S21_.ext (own_ext K0_67)) (g := (mkF m 149 #[.val (.int p0), .val (.int p1), .unset, .unset, .unset, .unset, .unset, .unset, .unset] [(.int (21 : Int32)), (.ref bk), (.ref bk)])) rfl (hb hby at_149)
  obtain ⟨cl69, Ar69, q69, S69, P69, H69, G69⟩ := V_bk_67
  have hin70 : ¬ ((21 : Int32) < 0 ∨ cl69.slots.size ≤ ((21 : Int32)).toNatClampNeg) := inb_of S69 ⟨by decide, by decide⟩
  obtain ⟨T70, h70, X70, e70, W70, st70⟩ := stR X68 hx hZ e68 Ar69 (j := (21 : Int32)) hin70 rfl (Sto.ofV Ar69 q69 O4 (Ins.self (E21_.ext (own_ext K0_67)))) (g := (mkF m 152 #[.val (.int p0), .val (.int p1), .unset, .unset, .unset, .unset, .unset, .unset, .unset] [(.ref w21), (.int (21 : Int32)), (.ref bk), (.ref bk)])) rfl rfl (hb hby at_152)
  have V_bk_70 : Arv Z h70 bk k4 (.object "com/example/humble_log/humblelog/protocol/ApiKey") (22 : Int32) [(.ref w0), (.ref w1), (.ref w2), (.ref w3), (.ref w4), (.ref w5), (.ref w6), (.ref w7), (.ref w8), (.ref w9), (.ref w10), (.ref w11), (.ref w12), (.ref w13), (.ref w14), (.ref w15), (.ref w16), (.ref w17), (.ref w18), (.ref w19), (.ref w20), (.ref w21)] .null := Arv.set Ar69 q69 S69 P69 H69 G69 rfl W70 21 rfl (Nat.le_of_ble_eq_true rfl)
  have zh70 : n0 ≤ h70.size := Nat.le_trans zh67 (Nat.le_of_eq W70.size.symm)
  have K0_70 : Keep h0 h70 [] := K0_67.wr W70 (Or.inr sz_bk)
  obtain ⟨Lh70, N70, X70⟩ : ∃ L, Fr n0 L ∧ Stand p l e _ _ m _ below meth c T70 L _ _ := ⟨_, Fr.snoc X70 N67 lo_bk, X70⟩
  obtain ⟨T71, h71, k71, X71, e71, E71, A71, st71⟩ := newP X70 hx hZ (hw _ (List.mem_of_getElem? (i := 48) rfl)) e70 (g := (mkF m 156 #[.val (.int p0), .val (.int p1), .val (.ref bk), .unset, .unset, .unset, .unset, .unset, .unset] [(.int (22 : Int32))])) rfl (hb hby at_156) rfl (by decide) (cap := 22) (by decide) (by decide) (by decide) (by decide)
  obtain ⟨bi0, g71⟩ : ∃ z, z = h70.size := ⟨_, rfl⟩
  rw [← g71] at A71 st71
  have ne_bk_bi0 : bk ≠ bi0 := Nat.ne_of_lt (Nat.lt_of_lt_of_le V_bk_70.lt (Nat.le_of_eq g71.symm))
  have lo_bi0 : n0 ≤ bi0 := Nat.le_trans zh70 (Nat.le_of_eq g71.symm)
  have sz_bi0 : h0.size ≤ bi0 := Nat.le_trans K0_70.1 (Nat.le_of_eq g71.symm)
  have V_bk_72 := V_bk_70.ext E71
  have zh71 : n0 ≤ h71.size := Nat.le_trans zh70 E71.1
  have K0_71 : Keep h0 h71 [] := K0_70.ext E71
  have V_bi0_71 : Arv Z h71 bi0 k71 .int (22 : Int32) [(.int (0 : Int32)), (.int (0 : Int32)), (.int (0 : Int32)), (.int (0 : Int32)), (.int (0 : Int32)), (.int (0 : Int32)), (.int (0 : Int32)), (.int (0 : Int32)), (.int (0 : Int32)), (.int (0 : Int32)), (.int (0 : Int32)), (.int (0 : Int32)), (.int (0 : Int32)), (.int (0 : Int32)), (.int (0 : Int32)), (.int (0 : Int32)), (.int (0 : Int32)), (.int (0 : Int32)), (.int (0 : Int32)), (.int (0 : Int32)), (.int (0 : Int32)), (.int (0 : Int32))] (.int (0 : Int32)) := (Arv.new A71 (by decide)).pad (pad_rep [] (.int (0 : Int32)) 22)
  obtain ⟨cl73, Ar73, q73, S73, P73, H73, G73⟩ := V_bi0_71
  have hin74 : ¬ ((0 : Int32) < 0 ∨ cl73.slots.size ≤ ((0 : Int32)).toNatClampNeg) := inb_of S73 ⟨by decide, by decide⟩
  obtain ⟨T74, h74, X74, e74, W74, st74⟩ := stI X71 hx hZ e71 Ar73 (j := (0 : Int32)) hin74 (g := (mkF m 161 #[.val (.int p0), .val (.int p1), .val (.ref bk), .unset, .unset, .unset, .unset, .unset, .unset] [(.int (0 : Int32)), (.int (0 : Int32)), (.ref bi0), (.ref bi0)])) rfl rfl (hb hby at_161)
  have V_bi0_74 : Arv Z h74 bi0 k71 .int (22 : Int32) [(.int (0 : Int32)), (.int (0 : Int32)), (.int (0 : Int32)), (.int (0 : Int32)), (.int (0 : Int32)), (.int (0 : Int32)), (.int (0 : Int32)), (.int (0 : Int32)), (.int (0 : Int32)), (.int (0 : Int32)), (.int (0 : Int32)), (.int (0 : Int32)), (.int (0 : Int32)), (.int (0 : Int32)), (.int (0 : Int32)), (.int (0 : Int32)), (.int (0 : Int32)), (.int (0 : Int32)), (.int (0 : Int32)), (.int (0 : Int32)), (.int (0 : Int32)), (.int (0 : Int32))] (.int (0 : Int32)) := Arv.set Ar73 q73 S73 P73 H73 G73 rfl W74 0 rfl (Nat.le_of_ble_eq_true rfl)
  have V_bk_75 := V_bk_72.other W74 ne_bk_bi0
  have zh74 : n0 ≤ h74.size := Nat.le_trans zh71 (Nat.le_of_eq W74.size.symm)
  have K0_74 : Keep h0 h74 [] := K0_71.wr W74 (Or.inr sz_bi0)
  obtain ⟨Lh74, N74, X74⟩ : ∃ L, Fr n0 L ∧ Stand p l e _ _ m _ below meth c T74 L _ _ := ⟨_, Fr.snoc X74 N70 lo_bi0, X74⟩
  obtain ⟨cl76, Ar76, q76, S76, P76, H76, G76⟩ := V_bi0_74
  have hin77 : ¬ ((1 : Int32) < 0 ∨ cl76.slots.size ≤ ((1 : Int32)).toNatClampNeg) := inb_of S76 ⟨by decide, by decide⟩
  obtain ⟨T77, h77, X77, e77, W77, st77⟩ := stI X74 hx hZ e74 Ar76 (j := (1 : Int32)) hin77 (g := (mkF m 165 #[.val (.int p0), .val (.int p1), .val (.ref bk), .unset, .unset, .unset, .unset, .unset, .unset] [(.int (4 : Int32)), (.int (1 : Int32)), (.ref bi0), (.ref bi0)])) rfl rfl (hb hby at_165)
  have V_bi0_77 : Arv Z h77 bi0 k71 .int (22 : Int32) [(.int (0 : Int32)), (.int (4 : Int32)), (.int (0 : Int32)), (.int (0 : Int32)), (.int (0 : Int32)), (.int (0 : Int32)), (.int (0 : Int32)), (.int (0 : Int32)), (.int (0 : Int32)), (.int (0 : Int32)), (.int (0 : Int32)), (.int (0 : Int32)), (.int (0 : Int32)), (.int (0 : Int32)), (.int (0 : Int32)), (.int (0 : Int32)), (.int (0 : Int32)), (.int (0 : Int32)), (.int (0 : Int32)), (.int (0 : Int32)), (.int (0 : Int32)), (.int (0 : Int32))] (.int (0 : Int32)) := Arv.set Ar76 q76 S76 P76 H76 G76 rfl W77 1 rfl (Nat.le_of_ble_eq_true rfl)
  have V_bk_78 := V_bk_75.other W77 ne_bk_bi0
  have zh77 : n0 ≤ h77.size := Nat.le_trans zh74 (Nat.le_of_eq W77.size.symm)
  have K0_77 : Keep h0 h77 [] := K0_74.wr W77 (Or.inr sz_bi0)
  obtain ⟨Lh77, N77, X77⟩ : ∃ L, Fr n0 L ∧ Stand p l e _ _ m _ below meth c T77 L _ _ := ⟨_, Fr.snoc X77 N74 lo_bi0, X77⟩
  obtain ⟨cl79, Ar79, q79, S79, P79, H79, G79⟩ := V_bi0_77
  have hin80 : ¬ ((2 : Int32) < 0 ∨ cl79.slots.size ≤ ((2 : Int32)).toNatClampNeg) := inb_of S79 ⟨by decide, by decide⟩
  obtain ⟨T80, h80, X80, e80, W80, st80⟩ := stI X77 hx hZ e77 Ar79 (j := (2 : Int32)) hin80 (g := (mkF m 169 #[.val (.int p0), .val (.int p1), .val (.ref bk), .unset, .unset, .unset, .unset, .unset, .unset] [(.int (1 : Int32)), (.int (2 : Int32)), (.ref bi0), (.ref bi0)])) rfl rfl (hb hby at_169)
  have V_bi0_80 : Arv Z h80 bi0 k71 .int (22 : Int32) [(.int (0 : Int32)), (.int (4 : Int32)), (.int (1 : Int32)), (.int (0 : Int32)), (.int (0 : Int32)), (.int (0 : Int32)), (.int (0 : Int32)), (.int (0 : Int32)), (.int (0 : Int32)), (.int (0 : Int32)), (.int (0 : Int32)), (.int (0 : Int32)), (.int (0 : Int32)), (.int (0 : Int32)), (.int (0 : Int32)), (.int (0 : Int32)), (.int (0 : Int32)), (.int (0 : Int32)), (.int (0 : Int32)), (.int (0 : Int32)), (.int (0 : Int32)), (.int (0 : Int32))] (.int (0 : Int32)) := Arv.set Ar79 q79 S79 P79 H79 G79 rfl W80 2 rfl (Nat.le_of_ble_eq_true rfl)
  have V_bk_81 := V_bk_78.other W80 ne_bk_bi0
  have zh80 : n0 ≤ h80.size := Nat.le_trans zh77 (Nat.le_of_eq W80.size.symm)
  have K0_80 : Keep h0 h80 [] := K0_77.wr W80 (Or.inr sz_bi0)
  obtain ⟨Lh80, N80, X80⟩ : ∃ L, Fr n0 L ∧ Stand p l e _ _ m _ below meth c T80 L _ _ := ⟨_, Fr.snoc X80 N77 lo_bi0, X80⟩
  obtain ⟨cl82, Ar82, q82, S82, P82, H82, G82⟩ := V_bi0_80
  have hin83 : ¬ ((3 : Int32) < 0 ∨ cl82.slots.size ≤ ((3 : Int32)).toNatClampNeg) := inb_of S82 ⟨by decide, by decide⟩
  obtain ⟨T83, h83, X83, e83, W83, st83⟩ := stI X80 hx hZ e80 Ar82 (j := (3 : Int32)) hin83 (g := (mkF m 173 #[.val (.int p0), .val (.int p1), .val (.ref bk), .unset, .unset, .unset, .unset, .unset, .unset] [(.int (0 : Int32)), (.int (3 : Int32)), (.ref bi0), (.ref bi0)])) rfl rfl (hb hby at_173)
  have V_bi0_83 : Arv Z h83 bi0 k71 .int (22 : Int32) [(.int (0 : Int32)), (.int (4 : Int32)), (.int (1 : Int32)), (.int (0 : Int32)), (.int (0 : Int32)), (.int (0 : Int32)), (.int (0 : Int32)), (.int (0 : Int32)), (.int (0 : Int32)), (.int (0 : Int32)), (.int (0 : Int32)), (.int (0 : Int32)), (.int (0 : Int32)), (.int (0 : Int32)), (.int (0 : Int32)), (.int (0 : Int32)), (.int (0 : Int32)), (.int (0 : Int32)), (.int (0 : Int32)), (.int (0 : Int32)), (.int (0 : Int32)), (.int (0 : Int32))] (.int (0 : Int32)) := Arv.set Ar82 q82 S82 P82 H82 G82 rfl W83 3 rfl (Nat.le_of_ble_eq_true rfl)
  have V_bk_84 := V_bk_81.other W83 ne_bk_bi0
  have zh83 : n0 ≤ h83.size := Nat.le_trans zh80 (Nat.le_of_eq W83.size.symm)
  have K0_83 : Keep h0 h83 [] := K0_80.wr W83 (Or.inr sz_bi0)
  obtain ⟨Lh83, N83, X83⟩ : ∃ L, Fr n0 L ∧ Stand p l e _ _ m _ below meth c T83 L _ _ := ⟨_, Fr.snoc X83 N80 lo_bi0, X83⟩
  obtain ⟨cl85, Ar85, q85, S85, P85, H85, G85⟩ := V_bi0_83
  have hin86 : ¬ ((4 : Int32) < 0 ∨ cl85.slots.size ≤ ((4 : Int32)).toNatClampNeg) := inb_of S85 ⟨by decide, by decide⟩
  obtain ⟨T86, h86, X86, e86, W86, st86⟩ := stI X83 hx hZ e83 Ar85 (j := (4 : Int32)) hin86 (g := (mkF m 177 #[.val (.int p0), .val (.int p1), .val (.ref bk), .unset, .unset, .unset, .unset, .unset, .unset] [(.int (2 : Int32)), (.int (4 : Int32)), (.ref bi0), (.ref bi0)])) rfl rfl (hb hby at_177)
  have V_bi0_86 : Arv Z h86 bi0 k71 .int (22 : Int32) [(.int (0 : Int32)), (.int (4 : Int32)), (.int (1 : Int32)), (.int (0 : Int32)), (.int (2 : Int32)), (.int (0 : Int32)), (.int (0 : Int32)), (.int (0 : Int32)), (.int (0 : Int32)), (.int (0 : Int32)), (.int (0 : Int32)), (.int (0 : Int32)), (.int (0 : Int32)), (.int (0 : Int32)), (.int (0 : Int32)), (.int (0 : Int32)), (.int (0 : Int32)), (.int (0 : Int32)), (.int (0 : Int32)), (.int (0 : Int32)), (.int (0 : Int32)), (.int (0 : Int32))] (.int (0 : Int32)) := Arv.set Ar85 q85 S85 P85 H85 G85 rfl W86 4 rfl (Nat.le_of_ble_eq_true rfl)
  have V_bk_87 := V_bk_84.other W86 ne_bk_bi0
  have zh86 : n0 ≤ h86.size := Nat.le_trans zh83 (Nat.le_of_eq W86.size.symm)
  have K0_86 : Keep h0 h86 [] := K0_83.wr W86 (Or.inr sz_bi0)
  obtain ⟨Lh86, N86, X86⟩ : ∃ L, Fr n0 L ∧ Stand p l e _ _ m _ below meth c T86 L _ _ := ⟨_, Fr.snoc X86 N83 lo_bi0, X86⟩
  obtain ⟨cl88, Ar88, q88, S88, P88, H88, G88⟩ := V_bi0_86
  have hin89 : ¬ ((5 : Int32) < 0 ∨ cl88.slots.size ≤ ((5 : Int32)).toNatClampNeg) := inb_of S88 ⟨by decide, by decide⟩
  obtain ⟨T89, h89, X89, e89, W89, st89⟩ := stI X86 hx hZ e86 Ar88 (j := (5 : Int32)) hin89 (g := (mkF m 181 #[.val (.int p0), .val (.int p1), .val (.ref bk), .unset, .unset, .unset, .unset, .unset, .unset] [(.int (1 : Int32)), (.int (5 : Int32)), (.ref bi0), (.ref bi0)])) rfl rfl (hb hby at_181)
  have V_bi0_89 : Arv Z h89 bi0 k71 .int (22 : Int32) [(.int (0 : Int32)), (.int (4 : Int32)), (.int (1 : Int32)), (.int (0 : Int32)), (.int (2 : Int32)), (.int (1 : Int32)), (.int (0 : Int32)), (.int (0 : Int32)), (.int (0 : Int32)), (.int (0 : Int32)), (.int (0 : Int32)), (.int (0 : Int32)), (.int (0 : Int32)), (.int (0 : Int32)), (.int (0 : Int32)), (.int (0 : Int32)), (.int (0 : Int32)), (.int (0 : Int32)), (.int (0 : Int32)), (.int (0 : Int32)), (.int (0 : Int32)), (.int (0 : Int32))] (.int (0 : Int32)) := Arv.set Ar88 q88 S88 P88 H88 G88 rfl W89 5 rfl (Nat.le_of_ble_eq_true rfl)
  have V_bk_90 := V_bk_87.other W89 ne_bk_bi0
  have zh89 : n0 ≤ h89.size := Nat.le_trans zh86 (Nat.le_of_eq W89.size.symm)
  have K0_89 : Keep h0 h89 [] := K0_86.wr W89 (Or.inr sz_bi0)
  obtain ⟨Lh89, N89, X89⟩ : ∃ L, Fr n0 L ∧ Stand p l e _ _ m _ below meth c T89 L _ _ := ⟨_, Fr.snoc X89 N86 lo_bi0, X89⟩
  obtain ⟨cl91, Ar91, q91, S91, P91, H91, G91⟩ := V_bi0_89
  have hin92 : ¬ ((6 : Int32) < 0 ∨ cl91.slots.size ≤ ((6 : Int32)).toNatClampNeg) := inb_of S91 ⟨by decide, by decide⟩
  obtain ⟨T92, h92, X92, e92, W92, st92⟩ := stI X89 hx hZ e89 Ar91 (j := (6 : Int32)) hin92 (g := (mkF m 186 #[.val (.int p0), .val (.int p1), .val (.ref bk), .unset, .unset, .unset, .unset, .unset, .unset] [(.int (0 : Int32)), (.int (6 : Int32)), (.ref bi0), (.ref bi0)])) rfl rfl (hb hby at_186)
  have V_bi0_92 : Arv Z h92 bi0 k71 .int (22 : Int32) [(.int (0 : Int32)), (.int (4 : Int32)), (.int (1 : Int32)), (.int (0 : Int32)), (.int (2 : Int32)), (.int (1 : Int32)), (.int (0 : Int32)), (.int (0 : Int32)), (.int (0 : Int32)), (.int (0 : Int32)), (.int (0 : Int32)), (.int (0 : Int32)), (.int (0 : Int32)), (.int (0 : Int32)), (.int (0 : Int32)), (.int (0 : Int32)), (.int (0 : Int32)), (.int (0 : Int32)), (.int (0 : Int32)), (.int (0 : Int32)), (.int (0 : Int32)), (.int (0 : Int32))] (.int (0 : Int32)) := Arv.set Ar91 q91 S91 P91 H91 G91 rfl W92 6 rfl (Nat.le_of_ble_eq_true rfl)
  have V_bk_93 := V_bk_90.other W92 ne_bk_bi0
  have zh92 : n0 ≤ h92.size := Nat.le_trans zh89 (Nat.le_of_eq W92.size.symm)
  have K0_92 : Keep h0 h92 [] := K0_89.wr W92 (Or.inr sz_bi0)
  obtain ⟨Lh92, N92, X92⟩ : ∃ L, Fr n0 L ∧ Stand p l e _ _ m _ below meth c T92 L _ _ := ⟨_, Fr.snoc X92 N89 lo_bi0, X92⟩
  obtain ⟨cl94, Ar94, q94, S94, P94, H94, G94⟩ := V_bi0_92
  have hin95 : ¬ ((7 : Int32) < 0 ∨ cl94.slots.size ≤ ((7 : Int32)).toNatClampNeg) := inb_of S94 ⟨by decide, by decide⟩
  obtain ⟨T95, h95, X95, e95, W95, st95⟩ := stI X92 hx hZ e92 Ar94 (j := (7 : Int32)) hin95 (g := (mkF m 191 #[.val (.int p0), .val (.int p1), .val (.ref bk), .unset, .unset, .unset, .unset, .unset, .unset] [(.int (2 : Int32)), (.int (7 : Int32)), (.ref bi0), (.ref bi0)])) rfl rfl (hb hby at_191)
  have V_bi0_95 : Arv Z h95 bi0 k71 .int (22 : Int32) [(.int (0 : Int32)), (.int (4 : Int32)), (.int (1 : Int32)), (.int (0 : Int32)), (.int (2 : Int32)), (.int (1 : Int32)), (.int (0 : Int32)), (.int (2 : Int32)), (.int (0 : Int32)), (.int (0 : Int32)), (.int (0 : Int32)), (.int (0 : Int32)), (.int (0 : Int32)), (.int (0 : Int32)), (.int (0 : Int32)), (.int (0 : Int32)), (.int (0 : Int32)), (.int (0 : Int32)), (.int (0 : Int32)), (.int (0 : Int32)), (.int (0 : Int32)), (.int (0 : Int32))] (.int (0 : Int32)) := Arv.set Ar94 q94 S94 P94 H94 G94 rfl W95 7 rfl (Nat.le_of_ble_eq_true rfl)
  have V_bk_96 := V_bk_93.other W95 ne_bk_bi0
  have zh95 : n0 ≤ h95.size := Nat.le_trans zh92 (Nat.le_of_eq W95.size.symm)
  have K0_95 : Keep h0 h95 [] := K0_92.wr W95 (Or.inr sz_bi0)
  obtain ⟨Lh95, N95, X95⟩ : ∃ L, Fr n0 L ∧ Stand p l e _ _ m _ below meth c T95 L _ _ := ⟨_, Fr.snoc X95 N92 lo_bi0, X95⟩
  obtain ⟨cl97, Ar97, q97, S97, P97, H97, G97⟩ := V_bi0_95
  have hin98 : ¬ ((8 : Int32) < 0 ∨ cl97.slots.size ≤ ((8 : Int32)).toNatClampNeg) := inb_of S97 ⟨by decide, by decide⟩
  obtain ⟨T98, h98, X98, e98, W98, st98⟩ := stI X95 hx hZ e95 Ar97 (j := (8 : Int32)) hin98 (g := (mkF m 196 #[.val (.int p0), .val (.int p1), .val (.ref bk), .unset, .unset, .unset, .unset, .unset, .unset] [(.int (0 : Int32)), (.int (8 : Int32)), (.ref bi0), (.ref bi0)])) rfl rfl (hb hby at_196)
  have V_bi0_98 : Arv Z h98 bi0 k71 .int (22 : Int32) [(.int (0 : Int32)), (.int (4 : Int32)), (.int (1 : Int32)), (.int (0 : Int32)), (.int (2 : Int32)), (.int (1 : Int32)), (.int (0 : Int32)), (.int (2 : Int32)), (.int (0 : Int32)), (.int (0 : Int32)), (.int (0 : Int32)), (.int (0 : Int32)), (.int (0 : Int32)), (.int (0 : Int32)), (.int (0 : Int32)), (.int (0 : Int32)), (.int (0 : Int32)), (.int (0 : Int32)), (.int (0 : Int32)), (.int (0 : Int32)), (.int (0 : Int32)), (.int (0 : Int32))] (.int (0 : Int32)) := Arv.set Ar97 q97 S97 P97 H97 G97 rfl W98 8 rfl (Nat.le_of_ble_eq_true rfl)
  have V_bk_99 := V_bk_96.other W98 ne_bk_bi0
  have zh98 : n0 ≤ h98.size := Nat.le_trans zh95 (Nat.le_of_eq W98.size.symm)
  have K0_98 : Keep h0 h98 [] := K0_95.wr W98 (Or.inr sz_bi0)
  obtain ⟨Lh98, N98, X98⟩ : ∃ L, Fr n0 L ∧ Stand p l e _ _ m _ below meth c T98 L _ _ := ⟨_, Fr.snoc X98 N95 lo_bi0, X98⟩
  obtain ⟨cl100, Ar100, q100, S100, P100, H100, G100⟩ := V_bi0_98
  have hin101 : ¬ ((9 : Int32) < 0 ∨ cl100.slots.size ≤ ((9 : Int32)).toNatClampNeg) := inb_of S100 ⟨by decide, by decide⟩
  obtain ⟨T101, h101, X101, e101, W101, st101⟩ := stI X98 hx hZ e98 Ar100 (j := (9 : Int32)) hin101 (g := (mkF m 201 #[.val (.int p0), .val (.int p1), .val (.ref bk), .unset, .unset, .unset, .unset, .unset, .unset] [(.int (0 : Int32)), (.int (9 : Int32)), (.ref bi0), (.ref bi0)])) rfl rfl (hb hby at_201)
  have V_bi0_101 : Arv Z h101 bi0 k71 .int (22 : Int32) [(.int (0 : Int32)), (.int (4 : Int32)), (.int (1 : Int32)), (.int (0 : Int32)), (.int (2 : Int32)), (.int (1 : Int32)), (.int (0 : Int32)), (.int (2 : Int32)), (.int (0 : Int32)), (.int (0 : Int32)), (.int (0 : Int32)), (.int (0 : Int32)), (.int (0 : Int32)), (.int (0 : Int32)), (.int (0 : Int32)), (.int (0 : Int32)), (.int (0 : Int32)), (.int (0 : Int32)), (.int (0 : Int32)), (.int (0 : Int32)), (.int (0 : Int32)), (.int (0 : Int32))] (.int (0 : Int32)) := Arv.set Ar100 q100 S100 P100 H100 G100 rfl W101 9 rfl (Nat.le_of_ble_eq_true rfl)
  have V_bk_102 := V_bk_99.other W101 ne_bk_bi0
  have zh101 : n0 ≤ h101.size := Nat.le_trans zh98 (Nat.le_of_eq W101.size.symm)
  have K0_101 : Keep h0 h101 [] := K0_98.wr W101 (Or.inr sz_bi0)
  obtain ⟨Lh101, N101, X101⟩ : ∃ L, Fr n0 L ∧ Stand p l e _ _ m _ below meth c T101 L _ _ := ⟨_, Fr.snoc X101 N98 lo_bi0, X101⟩
  obtain ⟨cl103, Ar103, q103, S103, P103, H103, G103⟩ := V_bi0_101
  have hin104 : ¬ ((10 : Int32) < 0 ∨ cl103.slots.size ≤ ((10 : Int32)).toNatClampNeg) := inb_of S103 ⟨by decide, by decide⟩
  obtain ⟨T104, h104, X104, e104, W104, st104⟩ := stI X101 hx hZ e101 Ar103 (j := (10 : Int32)) hin104 (g := (mkF m 206 #[.val (.int p0), .val (.int p1), .val (.ref bk), .unset, .unset, .unset, .unset, .unset, .unset] [(.int (0 : Int32)), (.int (10 : Int32)), (.ref bi0), (.ref bi0)])) rfl rfl (hb hby at_206)
  have V_bi0_104 : Arv Z h104 bi0 k71 .int (22 : Int32) [(.int (0 : Int32)), (.int (4 : Int32)), (.int (1 : Int32)), (.int (0 : Int32)), (.int (2 : Int32)), (.int (1 : Int32)), (.int (0 : Int32)), (.int (2 : Int32)), (.int (0 : Int32)), (.int (0 : Int32)), (.int (0 : Int32)), (.int (0 : Int32)), (.int (0 : Int32)), (.int (0 : Int32)), (.int (0 : Int32)), (.int (0 : Int32)), (.int (0 : Int32)), (.int (0 : Int32)), (.int (0 : Int32)), (.int (0 : Int32)), (.int (0 : Int32)), (.int (0 : Int32))] (.int (0 : Int32)) := Arv.set Ar103 q103 S103 P103 H103 G103 rfl W104 10 rfl (Nat.le_of_ble_eq_true rfl)
  have V_bk_105 := V_bk_102.other W104 ne_bk_bi0
  have zh104 : n0 ≤ h104.size := Nat.le_trans zh101 (Nat.le_of_eq W104.size.symm)
  have K0_104 : Keep h0 h104 [] := K0_101.wr W104 (Or.inr sz_bi0)
  obtain ⟨Lh104, N104, X104⟩ : ∃ L, Fr n0 L ∧ Stand p l e _ _ m _ below meth c T104 L _ _ := ⟨_, Fr.snoc X104 N101 lo_bi0, X104⟩
  obtain ⟨cl106, Ar106, q106, S106, P106, H106, G106⟩ := V_bi0_104
  have hin107 : ¬ ((11 : Int32) < 0 ∨ cl106.slots.size ≤ ((11 : Int32)).toNatClampNeg) := inb_of S106 ⟨by decide, by decide⟩
  obtain ⟨T107, h107, X107, e107, W107, st107⟩ := stI X104 hx hZ e104 Ar106 (j := (11 : Int32)) hin107 (g := (mkF m 211 #[.val (.int p0), .val (.int p1), .val (.ref bk), .unset, .unset, .unset, .unset, .unset, .unset] [(.int (0 : Int32)), (.int (11 : Int32)), (.ref bi0), (.ref bi0)])) rfl rfl (hb hby at_211)
  have V_bi0_107 : Arv Z h107 bi0 k71 .int (22 : Int32) [(.int (0 : Int32)), (.int (4 : Int32)), (.int (1 : Int32)), (.int (0 : Int32)), (.int (2 : Int32)), (.int (1 : Int32)), (.int (0 : Int32)), (.int (2 : Int32)), (.int (0 : Int32)), (.int (0 : Int32)), (.int (0 : Int32)), (.int (0 : Int32)), (.int (0 : Int32)), (.int (0 : Int32)), (.int (0 : Int32)), (.int (0 : Int32)), (.int (0 : Int32)), (.int (0 : Int32)), (.int (0 : Int32)), (.int (0 : Int32)), (.int (0 : Int32)), (.int (0 : Int32))] (.int (0 : Int32)) := Arv.set Ar106 q106 S106 P106 H106 G106 rfl W107 11 rfl (Nat.le_of_ble_eq_true rfl)
  have V_bk_108 := V_bk_105.other W107 ne_bk_bi0
  have zh107 : n0 ≤ h107.size := Nat.le_trans zh104 (Nat.le_of_eq W107.size.symm)
  have K0_107 : Keep h0 h107 [] := K0_104.wr W107 (Or.inr sz_bi0)
  obtain ⟨Lh107, N107, X107⟩ : ∃ L, Fr n0 L ∧ Stand p l e _ _ m _ below meth c T107 L _ _ := ⟨_, Fr.snoc X107 N104 lo_bi0, X107⟩
  obtain ⟨cl109, Ar109, q109, S109, P109, H109, G109⟩ := V_bi0_107
  have hin110 : ¬ ((12 : Int32) < 0 ∨ cl109.slots.size ≤ ((12 : Int32)).toNatClampNeg) := inb_of S109 ⟨by decide, by decide⟩
  obtain ⟨T110, h110, X110, e110, W110, st110⟩ := stI X107 hx hZ e107 Ar109 (j := (12 : Int32)) hin110 (g := (mkF m 216 #[.val (.int p0), .val (.int p1), .val (.ref bk), .unset, .unset, .unset, .unset, .unset, .unset] [(.int (0 : Int32)), (.int (12 : Int32)), (.ref bi0), (.ref bi0)])) rfl rfl (hb hby at_216)
  have V_bi0_110 : Arv Z h110 bi0 k71 .int (22 : Int32) [(.int (0 : Int32)), (.int (4 : Int32)), (.int (1 : Int32)), (.int (0 : Int32)), (.int (2 : Int32)), (.int (1 : Int32)), (.int (0 : Int32)), (.int (2 : Int32)), (.int (0 : Int32)), (.int (0 : Int32)), (.int (0 : Int32)), (.int (0 : Int32)), (.int (0 : Int32)), (.int (0 : Int32)), (.int (0 : Int32)), (.int (0 : Int32)), (.int (0 : Int32)), (.int (0 : Int32)), (.int (0 : Int32)), (.int (0 : Int32)), (.int (0 : Int32)), (.int (0 : Int32))] (.int (0 : Int32)) := Arv.set Ar109 q109 S109 P109 H109 G109 rfl W110 12 rfl (Nat.le_of_ble_eq_true rfl)
  have V_bk_111 := V_bk_108.other W110 ne_bk_bi0
  have zh110 : n0 ≤ h110.size := Nat.le_trans zh107 (Nat.le_of_eq W110.size.symm)
  have K0_110 : Keep h0 h110 [] := K0_107.wr W110 (Or.inr sz_bi0)
  obtain ⟨Lh110, N110, X110⟩ : ∃ L, Fr n0 L ∧ Stand p l e _ _ m _ below meth c T110 L _ _ := ⟨_, Fr.snoc X110 N107 lo_bi0, X110⟩
  obtain ⟨cl112, Ar112, q112, S112, P112, H112, G112⟩ := V_bi0_110
  have hin113 : ¬ ((13 : Int32) < 0 ∨ cl112.slots.size ≤ ((13 : Int32)).toNatClampNeg) := inb_of S112 ⟨by decide, by decide⟩
  obtain ⟨T113, h113, X113, e113, W113, st113⟩ := stI X110 hx hZ e110 Ar112 (j := (13 : Int32)) hin113 (g := (mkF m 221 #[.val (.int p0), .val (.int p1), .val (.ref bk), .unset, .unset, .unset, .unset, .unset, .unset] [(.int (0 : Int32)), (.int (13 : Int32)), (.ref bi0), (.ref bi0)])) rfl rfl (hb hby at_221)
  have V_bi0_113 : Arv Z h113 bi0 k71 .int (22 : Int32) [(.int (0 : Int32)), (.int (4 : Int32)), (.int (1 : Int32)), (.int (0 : Int32)), (.int (2 : Int32)), (.int (1 : Int32)), (.int (0 : Int32)), (.int (2 : Int32)), (.int (0 : Int32)), (.int (0 : Int32)), (.int (0 : Int32)), (.int (0 : Int32)), (.int (0 : Int32)), (.int (0 : Int32)), (.int (0 : Int32)), (.int (0 : Int32)), (.int (0 : Int32)), (.int (0 : Int32)), (.int (0 : Int32)), (.int (0 : Int32)), (.int (0 : Int32)), (.int (0 : Int32))] (.int (0 : Int32)) := Arv.set Ar112 q112 S112 P112 H112 G112 rfl W113 13 rfl (Nat.le_of_ble_eq_true rfl)
  have V_bk_114 := V_bk_111.other W113 ne_bk_bi0
  have zh113 : n0 ≤ h113.size := Nat.le_trans zh110 (Nat.le_of_eq W113.size.symm)
  have K0_113 : Keep h0 h113 [] := K0_110.wr W113 (Or.inr sz_bi0)
  obtain ⟨Lh113, N113, X113⟩ : ∃ L, Fr n0 L ∧ Stand p l e _ _ m _ below meth c T113 L _ _ := ⟨_, Fr.snoc X113 N110 lo_bi0, X113⟩
  obtain ⟨cl115, Ar115, q115, S115, P115, H115, G115⟩ := V_bi0_113
  have hin116 : ¬ ((14 : Int32) < 0 ∨ cl115.slots.size ≤ ((14 : Int32)).toNatClampNeg) := inb_of S115 ⟨by decide, by decide⟩
  obtain ⟨T116, h116, X116, e116, W116, st116⟩ := stI X113 hx hZ e113 Ar115 (j := (14 : Int32)) hin116 (g := (mkF m 226 #[.val (.int p0), .val (.int p1), .val (.ref bk), .unset, .unset, .unset, .unset, .unset, .unset] [(.int (2 : Int32)), (.int (14 : Int32)), (.ref bi0), (.ref bi0)])) rfl rfl (hb hby at_226)
  have V_bi0_116 : Arv Z h116 bi0 k71 .int (22 : Int32) [(.int (0 : Int32)), (.int (4 : Int32)), (.int (1 : Int32)), (.int (0 : Int32)), (.int (2 : Int32)), (.int (1 : Int32)), (.int (0 : Int32)), (.int (2 : Int32)), (.int (0 : Int32)), (.int (0 : Int32)), (.int (0 : Int32)), (.int (0 : Int32)), (.int (0 : Int32)), (.int (0 : Int32)), (.int (2 : Int32)), (.int (0 : Int32)), (.int (0 : Int32)), (.int (0 : Int32)), (.int (0 : Int32)), (.int (0 : Int32)), (.int (0 : Int32)), (.int (0 : Int32))] (.int (0 : Int32)) := Arv.set Ar115 q115 S115 P115 H115 G115 rfl W116 14 rfl (Nat.le_of_ble_eq_true rfl)
  have V_bk_117 := V_bk_114.other W116 ne_bk_bi0
  have zh116 : n0 ≤ h116.size := Nat.le_trans zh113 (Nat.le_of_eq W116.size.symm)
  have K0_116 : Keep h0 h116 [] := K0_113.wr W116 (Or.inr sz_bi0)
  obtain ⟨Lh116, N116, X116⟩ : ∃ L, Fr n0 L ∧ Stand p l e _ _ m _ below meth c T116 L _ _ := ⟨_, Fr.snoc X116 N113 lo_bi0, X116⟩
  obtain ⟨cl118, Ar118, q118, S118, P118, H118, G118⟩ := V_bi0_116
  have hin119 : ¬ ((15 : Int32) < 0 ∨ cl118.slots.size ≤ ((15 : Int32)).toNatClampNeg) := inb_of S118 ⟨by decide, by decide⟩
  obtain ⟨T119, h119, X119, e119, W119, st119⟩ := stI X116 hx hZ e116 Ar118 (j := (15 : Int32)) hin119 (g := (mkF m 231 #[.val (.int p0), .val (.int p1), .val (.ref bk), .unset, .unset, .unset, .unset, .unset, .unset] [(.int (1 : Int32)), (.int (15 : Int32)), (.ref bi0), (.ref bi0)])) rfl rfl (hb hby at_231)
  have V_bi0_119 : Arv Z h119 bi0 k71 .int (22 : Int32) [(.int (0 : Int32)), (.int (4 : Int32)), (.int (1 : Int32)), (.int (0 : Int32)), (.int (2 : Int32)), (.int (1 : Int32)), (.int (0 : Int32)), (.int (2 : Int32)), (.int (0 : Int32)), (.int (0 : Int32)), (.int (0 : Int32)), (.int (0 : Int32)), (.int (0 : Int32)), (.int (0 : Int32)), (.int (2 : Int32)), (.int (1 : Int32)), (.int (0 : Int32)), (.int (0 : Int32)), (.int (0 : Int32)), (.int (0 : Int32)), (.int (0 : Int32)), (.int (0 : Int32))] (.int (0 : Int32)) := Arv.set Ar118 q118 S118 P118 H118 G118 rfl W119 15 rfl (Nat.le_of_ble_eq_true rfl)
  have V_bk_120 := V_bk_117.other W119 ne_bk_bi0
  have zh119 : n0 ≤ h119.size := Nat.le_trans zh116 (Nat.le_of_eq W119.size.symm)
  have K0_119 : Keep h0 h119 [] := K0_116.wr W119 (Or.inr sz_bi0)
  obtain ⟨Lh119, N119, X119⟩ : ∃ L, Fr n0 L ∧ Stand p l e _ _ m _ below meth c T119 L _ _ := ⟨_, Fr.snoc X119 N116 lo_bi0, X119⟩
  obtain ⟨cl121, Ar121, q121, S121, P121, H121, G121⟩ := V_bi0_119
  have hin122 : ¬ ((16 : Int32) < 0 ∨ cl121.slots.size ≤ ((16 : Int32)).toNatClampNeg) := inb_of S121 ⟨by decide, by decide⟩
  obtain ⟨T122, h122, X122, e122, W122, st122⟩ := stI X119 hx hZ e119 Ar121 (j := (16 : Int32)) hin122 (g := (mkF m 236 #[.val (.int p0), .val (.int p1), .val (.ref bk), .unset, .unset, .unset, .unset, .unset, .unset] [(.int (0 : Int32)), (.int (16 : Int32)), (.ref bi0), (.ref bi0)])) rfl rfl (hb hby at_236)
  have V_bi0_122 : Arv Z h122 bi0 k71 .int (22 : Int32) [(.int (0 : Int32)), (.int (4 : Int32)), (.int (1 : Int32)), (.int (0 : Int32)), (.int (2 : Int32)), (.int (1 : Int32)), (.int (0 : Int32)), (.int (2 : Int32)), (.int (0 : Int32)), (.int (0 : Int32)), (.int (0 : Int32)), (.int (0 : Int32)), (.int (0 : Int32)), (.int (0 : Int32)), (.int (2 : Int32)), (.int (1 : Int32)), (.int (0 : Int32)), (.int (0 : Int32)), (.int (0 : Int32)), (.int (0 : Int32)), (.int (0 : Int32)), (.int (0 : Int32))] (.int (0 : Int32)) := Arv.set Ar121 q121 S121 P121 H121 G121 rfl W122 16 rfl (Nat.le_of_ble_eq_true rfl)
  have V_bk_123 := V_bk_120.other W122 ne_bk_bi0
  have zh122 : n0 ≤ h122.size := Nat.le_trans zh119 (Nat.le_of_eq W122.size.symm)
  have K0_122 : Keep h0 h122 [] := K0_119.wr W122 (Or.inr sz_bi0)
  obtain ⟨Lh122, N122, X122⟩ : ∃ L, Fr n0 L ∧ Stand p l e _ _ m _ below meth c T122 L _ _ := ⟨_, Fr.snoc X122 N119 lo_bi0, X122⟩
  obtain ⟨cl124, Ar124, q124, S124, P124, H124, G124⟩ := V_bi0_122
  have hin125 : ¬ ((17 : Int32) < 0 ∨ cl124.slots.size ≤ ((17 : Int32)).toNatClampNeg) := inb_of S124 ⟨by decide, by decide⟩
  obtain ⟨T125, h125, X125, e125, W125, st125⟩ := stI X122 hx hZ e122 Ar124 (j := (17 : Int32)) hin125 (g := (mkF m 241 #[.val (.int p0), .val (.int p1), .val (.ref bk), .unset, .unset, .unset, .unset, .unset, .unset] [(.int (1 : Int32)), (.int (17 : Int32)), (.ref bi0), (.ref bi0)])) rfl rfl (hb hby at_241)
  have V_bi0_125 : Arv Z h125 bi0 k71 .int (22 : Int32) [(.int (0 : Int32)), (.int (4 : Int32)), (.int (1 : Int32)), (.int (0 : Int32)), (.int (2 : Int32)), (.int (1 : Int32)), (.int (0 : Int32)), (.int (2 : Int32)), (.int (0 : Int32)), (.int (0 : Int32)), (.int (0 : Int32)), (.int (0 : Int32)), (.int (0 : Int32)), (.int (0 : Int32)), (.int (2 : Int32)), (.int (1 : Int32)), (.int (0 : Int32)), (.int (1 : Int32)), (.int (0 : Int32)), (.int (0 : Int32)), (.int (0 : Int32)), (.int (0 : Int32))] (.int (0 : Int32)) := Arv.set Ar124 q124 S124 P124 H124 G124 rfl W125 17 rfl (Nat.le_of_ble_eq_true rfl)
  have V_bk_126 := V_bk_123.other W125 ne_bk_bi0
  have zh125 : n0 ≤ h125.size := Nat.le_trans zh122 (Nat.le_of_eq W125.size.symm)
  have K0_125 : Keep h0 h125 [] := K0_122.wr W125 (Or.inr sz_bi0)
  obtain ⟨Lh125, N125, X125⟩ : ∃ L, Fr n0 L ∧ Stand p l e _ _ m _ below meth c T125 L _ _ := ⟨_, Fr.snoc X125 N122 lo_bi0, X125⟩
  obtain ⟨cl127, Ar127, q127, S127, P127, H127, G127⟩ := V_bi0_125
  have hin128 : ¬ ((18 : Int32) < 0 ∨ cl127.slots.size ≤ ((18 : Int32)).toNatClampNeg) := inb_of S127 ⟨by decide, by decide⟩
  obtain ⟨T128, h128, X128, e128, W128, st128⟩ := stI X125 hx hZ e125 Ar127 (j := (18 : Int32)) hin128 (g := (mkF m 246 #[.val (.int p0), .val (.int p1), .val (.ref bk), .unset, .unset, .unset, .unset, .unset, .unset] [(.int (0 : Int32)), (.int (18 : Int32)), (.ref bi0), (.ref bi0)])) rfl rfl (hb hby at_246)
  have V_bi0_128 : Arv Z h128 bi0 k71 .int (22 : Int32) [(.int (0 : Int32)), (.int (4 : Int32)), (.int (1 : Int32)), (.int (0 : Int32)), (.int (2 : Int32)), (.int (1 : Int32)), (.int (0 : Int32)), (.int (2 : Int32)), (.int (0 : Int32)), (.int (0 : Int32)), (.int (0 : Int32)), (.int (0 : Int32)), (.int (0 : Int32)), (.int (0 : Int32)), (.int (2 : Int32)), (.int (1 : Int32)), (.int (0 : Int32)), (.int (1 : Int32)), (.int (0 : Int32)), (.int (0 : Int32)), (.int (0 : Int32)), (.int (0 : Int32))] (.int (0 : Int32)) := Arv.set Ar127 q127 S127 P127 H127 G127 rfl W128 18 rfl (Nat.le_of_ble_eq_true rfl)
  have V_bk_129 := V_bk_126.other W128 ne_bk_bi0
  have zh128 : n0 ≤ h128.size := Nat.le_trans zh125 (Nat.le_of_eq W128.size.symm)
  have K0_128 : Keep h0 h128 [] := K0_125.wr W128 (Or.inr sz_bi0)
  obtain ⟨Lh128, N128, X128⟩ : ∃ L, Fr n0 L ∧ Stand p l e _ _ m _ below meth c T128 L _ _ := ⟨_, Fr.snoc X128 N125 lo_bi0, X128⟩
  obtain ⟨cl130, Ar130, q130, S130, P130, H130, G130⟩ := V_bi0_128
  have hin131 : ¬ ((19 : Int32) < 0 ∨ cl130.slots.size ≤ ((19 : Int32)).toNatClampNeg) := inb_of S130 ⟨by decide, by decide⟩
  obtain ⟨T131, h131, X131, e131, W131, st131⟩ := stI X128 hx hZ e128 Ar130 (j := (19 : Int32)) hin131 (g := (mkF m 251 #[.val (.int p0), .val (.int p1), .val (.ref bk), .unset, .unset, .unset, .unset, .unset, .unset] [(.int (0 : Int32)), (.int (19 : Int32)), (.ref bi0), (.ref bi0)])) rfl rfl (hb hby at_251)
  have V_bi0_131 : Arv Z h131 bi0 k71 .int (22 : Int32) [(.int (0 : Int32)), (.int (4 : Int32)), (.int (1 : Int32)), (.int (0 : Int32)), (.int (2 : Int32)), (.int (1 : Int32)), (.int (0 : Int32)), (.int (2 : Int32)), (.int (0 : Int32)), (.int (0 : Int32)), (.int (0 : Int32)), (.int (0 : Int32)), (.int (0 : Int32)), (.int (0 : Int32)), (.int (2 : Int32)), (.int (1 : Int32)), (.int (0 : Int32)), (.int (1 : Int32)), (.int (0 : Int32)), (.int (0 : Int32)), (.int (0 : Int32)), (.int (0 : Int32))] (.int (0 : Int32)) := Arv.set Ar130 q130 S130 P130 H130 G130 rfl W131 19 rfl (Nat.le_of_ble_eq_true rfl)
  have V_bk_132 := V_bk_129.other W131 ne_bk_bi0
  have zh131 : n0 ≤ h131.size := Nat.le_trans zh128 (Nat.le_of_eq W131.size.symm)
  have K0_131 : Keep h0 h131 [] := K0_128.wr W131 (Or.inr sz_bi0)
  obtain ⟨Lh131, N131, X131⟩ : ∃ L, Fr n0 L ∧ Stand p l e _ _ m _ below meth c T131 L _ _ := ⟨_, Fr.snoc X131 N128 lo_bi0, X131⟩
  obtain ⟨cl133, Ar133, q133, S133, P133, H133, G133⟩ := V_bi0_131
  have hin134 : ¬ ((20 : Int32) < 0 ∨ cl133.slots.size ≤ ((20 : Int32)).toNatClampNeg) := inb_of S133 ⟨by decide, by decide⟩
  obtain ⟨T134, h134, X134, e134, W134, st134⟩ := stI X131 hx hZ e131 Ar133 (j := (20 : Int32)) hin134 (g := (mkF m 256 #[.val (.int p0), .val (.int p1), .val (.ref bk), .unset, .unset, .unset, .unset, .unset, .unset] [(.int (0 : Int32)), (.int (20 : Int32)), (.ref bi0), (.ref bi0)])) rfl rfl (hb hby at_256)
  have V_bi0_134 : Arv Z h134 bi0 k71 .int (22 : Int32) [(.int (0 : Int32)), (.int (4 : Int32)), (.int (1 : Int32)), (.int (0 : Int32)), (.int (2 : Int32)), (.int (1 : Int32)), (.int (0 : Int32)), (.int (2 : Int32)), (.int (0 : Int32)), (.int (0 : Int32)), (.int (0 : Int32)), (.int (0 : Int32)), (.int (0 : Int32)), (.int (0 : Int32)), (.int (2 : Int32)), (.int (1 : Int32)), (.int (0 : Int32)), (.int (1 : Int32)), (.int (0 : Int32)), (.int (0 : Int32)), (.int (0 : Int32)), (.int (0 : Int32))] (.int (0 : Int32)) := Arv.set Ar133 q133 S133 P133 H133 G133 rfl W134 20 rfl (Nat.le_of_ble_eq_true rfl)
  have V_bk_135 := V_bk_132.other W134 ne_bk_bi0
  have zh134 : n0 ≤ h134.size := Nat.le_trans zh131 (Nat.le_of_eq W134.size.symm)
  have K0_134 : Keep h0 h134 [] := K0_131.wr W134 (Or.inr sz_bi0)
  obtain ⟨Lh134, N134, X134⟩ : ∃ L, Fr n0 L ∧ Stand p l e _ _ m _ below meth c T134 L _ _ := ⟨_, Fr.snoc X134 N131 lo_bi0, X134⟩
  obtain ⟨cl136, Ar136, q136, S136, P136, H136, G136⟩ := V_bi0_134
  have hin137 : ¬ ((21 : Int32) < 0 ∨ cl136.slots.size ≤ ((21 : Int32)).toNatClampNeg) := inb_of S136 ⟨by decide, by decide⟩
  obtain ⟨T137, h137, X137, e137, W137, st137⟩ := stI X134 hx hZ e134 Ar136 (j := (21 : Int32)) hin137 (g := (mkF m 261 #[.val (.int p0), .val (.int p1), .val (.ref bk), .unset, .unset, .unset, .unset, .unset, .unset] [(.int (0 : Int32)), (.int (21 : Int32)), (.ref bi0), (.ref bi0)])) rfl rfl (hb hby at_261)
  have V_bi0_137 : Arv Z h137 bi0 k71 .int (22 : Int32) [(.int (0 : Int32)), (.int (4 : Int32)), (.int (1 : Int32)), (.int (0 : Int32)), (.int (2 : Int32)), (.int (1 : Int32)), (.int (0 : Int32)), (.int (2 : Int32)), (.int (0 : Int32)), (.int (0 : Int32)), (.int (0 : Int32)), (.int (0 : Int32)), (.int (0 : Int32)), (.int (0 : Int32)), (.int (2 : Int32)), (.int (1 : Int32)), (.int (0 : Int32)), (.int (1 : Int32)), (.int (0 : Int32)), (.int (0 : Int32)), (.int (0 : Int32)), (.int (0 : Int32))] (.int (0 : Int32)) := Arv.set Ar136 q136 S136 P136 H136 G136 rfl W137 21 rfl (Nat.le_of_ble_eq_true rfl)
  have V_bk_138 := V_bk_135.other W137 ne_bk_bi0
  have zh137 : n0 ≤ h137.size := Nat.le_trans zh134 (Nat.le_of_eq W137.size.symm)
  have K0_137 : Keep h0 h137 [] := K0_134.wr W137 (Or.inr sz_bi0)
  obtain ⟨Lh137, N137, X137⟩ : ∃ L, Fr n0 L ∧ Stand p l e _ _ m _ below meth c T137 L _ _ := ⟨_, Fr.snoc X137 N134 lo_bi0, X137⟩
  obtain ⟨T139, h139, k139, X139, e139, E139, A139, st139⟩ := newP X137 hx hZ (hw _ (List.mem_of_getElem? (i := 48) rfl)) e137 (g := (mkF m 265 #[.val (.int p0), .val (.int p1), .val (.ref bk), .val (.ref bi0), .unset, .unset, .unset, .unset, .unset] [(.int (22 : Int32))])) rfl (hb hby at_265) rfl (by decide) (cap := 22) (by decide) (by decide) (by decide) (by decide)
  obtain ⟨bi1, g139⟩ : ∃ z, z = h137.size := ⟨_, rfl⟩
  rw [← g139] at A139 st139
  have ne_bk_bi1 : bk ≠ bi1 := Nat.ne_of_lt (Nat.lt_of_lt_of_le V_bk_138.lt (Nat.le_of_eq g139.symm))
  have ne_bi0_bi1 : bi0 ≠ bi1 := Nat.ne_of_lt (Nat.lt_of_lt_of_le V_bi0_137.lt (Nat.le_of_eq g139.symm))
  have lo_bi1 : n0 ≤ bi1 := Nat.le_trans zh137 (Nat.le_of_eq g139.symm)
  have sz_bi1 : h0.size ≤ bi1 := Nat.le_trans K0_137.1 (Nat.le_of_eq g139.symm)
  have V_bk_140 := V_bk_138.ext E139
  have V_bi0_141 := V_bi0_137.ext E139
  have zh139 : n0 ≤ h139.size := Nat.le_trans zh137 E139.1
  have K0_139 : Keep h0 h139 [] := K0_137.ext E139
  have V_bi1_139 : Arv Z h139 bi1 k139 .int (22 : Int32) [(.int (0 : Int32)), (.int (0 : Int32)), (.int (0 : Int32)), (.int (0 : Int32)), (.int (0 : Int32)), (.int (0 : Int32)), (.int (0 : Int32)), (.int (0 : Int32)), (.int (0 : Int32)), (.int (0 : Int32)), (.int (0 : Int32)), (.int (0 : Int32)), (.int (0 : Int32)), (.int (0 : Int32)), (.int (0 : Int32)), (.int (0 : Int32)), (.int (0 : Int32)), (.int (0 : Int32)), (.int (0 : Int32)), (.int (0 : Int32)), (.int (0 : Int32)), (.int (0 : Int32))] (.int (0 : Int32)) := (Arv.new A139 (by decide)).pad (pad_rep [] (.int (0 : Int32)) 22)
  obtain ⟨cl142, Ar142, q142, S142, P142, H142, G142⟩ := V_bi1_139
  have hin143 : ¬ ((0 : Int32) < 0 ∨ cl142.slots.size ≤ ((0 : Int32)).toNatClampNeg) := inb_of S142 ⟨by decide, by decide⟩
  obtain ⟨T143, h143, X143, e143, W143, st143⟩ := stI X139 hx hZ e139 Ar142 (j := (0 : Int32)) hin143 (g := (mkF m 271 #[.val (.int p0), .val (.int p1), .val (.ref bk), .val (.ref bi0), .unset, .unset, .unset, .unset, .unset] [(.int (7 : Int32)), (.int (0 : Int32)), (.ref bi1), (.ref bi1)])) rfl rfl (hb hby at_271)
  have V_bi1_143 : Arv Z h143 bi1 k139 .int (22 : Int32) [(.int (7 : Int32)), (.int (0 : Int32)), (.int (0 : Int32)), (.int (0 : Int32)), (.int (0 : Int32)), (.int (0 : Int32)), (.int (0 : Int32)), (.int (0 : Int32)), (.int (0 : Int32)), (.int (0 : Int32)), (.int (0 : Int32)), (.int (0 : Int32)), (.int (0 : Int32)), (.int (0 : Int32)), (.int (0 : Int32)), (.int (0 : Int32)), (.int (0 : Int32)), (.int (0 : Int32)), (.int (0 : Int32)), (.int (0 : Int32)), (.int (0 : Int32)), (.int (0 : Int32))] (.int (0 : Int32)) := Arv.set Ar142 q142 S142 P142 H142 G142 rfl W143 0 rfl (Nat.le_of_ble_eq_true rfl)
  have V_bk_144 := V_bk_140.other W143 ne_bk_bi1
  have V_bi0_145 := V_bi0_141.other W143 ne_bi0_bi1
  have zh143 : n0 ≤ h143.size := Nat.le_trans zh139 (Nat.le_of_eq W143.size.symm)
  have K0_143 : Keep h0 h143 [] := K0_139.wr W143 (Or.inr sz_bi1)
  obtain ⟨Lh143, N143, X143⟩ : ∃ L, Fr n0 L ∧ Stand p l e _ _ m _ below meth c T143 L _ _ := ⟨_, Fr.snoc X143 N137 lo_bi1, X143⟩
  obtain ⟨cl146, Ar146, q146, S146, P146, H146, G146⟩ := V_bi1_143
  have hin147 : ¬ ((1 : Int32) < 0 ∨ cl146.slots.size ≤ ((1 : Int32)).toNatClampNeg) := inb_of S146 ⟨by decide, by decide⟩
  obtain ⟨T147, h147, X147, e147, W147, st147⟩ := stI X143 hx hZ e143 Ar146 (j := (1 : Int32)) hin147 (g := (mkF m 276 #[.val (.int p0), .val (.int p1), .val (.ref bk), .val (.ref bi0), .unset, .unset, .unset, .unset, .unset] [(.int (11 : Int32)), (.int (1 : Int32)), (.ref bi1), (.ref bi1)])) rfl rfl (hb hby at_276)
  have V_bi1_147 : Arv Z h147 bi1 k139 .int (22 : Int32) [(.int (7 : Int32)), (.int (11 : Int32)), (.int (0 : Int32)), (.int (0 : Int32)), (.int (0 : Int32)), (.int (0 : Int32)), (.int (0 : Int32)), (.int (0 : Int32)), (.int (0 : Int32)), (.int (0 : Int32)), (.int (0 : Int32)), (.int (0 : Int32)), (.int (0 : Int32)), (.int (0 : Int32)), (.int (0 : Int32)), (.int (0 : Int32)), (.int (0 : Int32)), (.int (0 : Int32)), (.int (0 : Int32)), (.int (0 : Int32)), (.int (0 : Int32)), (.int (0 : Int32))] (.int (0 : Int32)) := Arv.set Ar146 q146 S146 P146 H146 G146 rfl W147 1 rfl (Nat.le_of_ble_eq_true rfl)
  have V_bk_148 := V_bk_144.other W147 ne_bk_bi1
  have V_bi0_149 := V_bi0_145.other W147 ne_bi0_bi1
  have zh147 : n0 ≤ h147.size := Nat.le_trans zh143 (Nat.le_of_eq W147.size.symm)
  have K0_147 : Keep h0 h147 [] := K0_143.wr W147 (Or.inr sz_bi1)
  obtain ⟨Lh147, N147, X147⟩ : ∃ L, Fr n0 L ∧ Stand p l e _ _ m _ below meth c T147 L _ _ := ⟨_, Fr.snoc X147 N143 lo_bi1, X147⟩
  obtain ⟨cl150, Ar150, q150, S150, P150, H150, G150⟩ := V_bi1_147
  have hin151 : ¬ ((2 : Int32) < 0 ∨ cl150.slots.size ≤ ((2 : Int32)).toNatClampNeg) := inb_of S150 ⟨by decide, by decide⟩
  obtain ⟨T151, h151, X151, e151, W151, st151⟩ := stI X147 hx hZ e147 Ar150 (j := (2 : Int32)) hin151 (g := (mkF m 280 #[.val (.int p0), .val (.int p1), .val (.ref bk), .val (.ref bi0), .unset, .unset, .unset, .unset, .unset] [(.int (2 : Int32)), (.int (2 : Int32)), (.ref bi1), (.ref bi1)])) rfl rfl (hb hby at_280)
  have V_bi1_151 : Arv Z h151 bi1 k139 .int (22 : Int32) [(.int (7 : Int32)), (.int (11 : Int32)), (.int (2 : Int32)), (.int (0 : Int32)), (.int (0 : Int32)), (.int (0 : Int32)), (.int (0 : Int32)), (.int (0 : Int32)), (.int (0 : Int32)), (.int (0 : Int32)), (.int (0 : Int32)), (.int (0 : Int32)), (.int (0 : Int32)), (.int (0 : Int32)), (.int (0 : Int32)), (.int (0 : Int32)), (.int (0 : Int32)), (.int (0 : Int32)), (.int (0 : Int32)), (.int (0 : Int32)), (.int (0 : Int32)), (.int (0 : Int32))] (.int (0 : Int32)) := Arv.set Ar150 q150 S150 P150 H150 G150 rfl W151 2 rfl (Nat.le_of_ble_eq_true rfl)
  have V_bk_152 := V_bk_148.other W151 ne_bk_bi1
  have V_bi0_153 := V_bi0_149.other W151 ne_bi0_bi1
  have zh151 : n0 ≤ h151.size := Nat.le_trans zh147 (Nat.le_of_eq W151.size.symm)
  have K0_151 : Keep h0 h151 [] := K0_147.wr W151 (Or.inr sz_bi1)
  obtain ⟨Lh151, N151, X151⟩ : ∃ L, Fr n0 L ∧ Stand p l e _ _ m _ below meth c T151 L _ _ := ⟨_, Fr.snoc X151 N147 lo_bi1, X151⟩
  obtain ⟨cl154, Ar154, q154, S154, P154, H154, G154⟩ := V_bi1_151
  have hin155 : ¬ ((3 : Int32) < 0 ∨ cl154.slots.size ≤ ((3 : Int32)).toNatClampNeg) := inb_of S154 ⟨by decide, by decide⟩
  obtain ⟨T155, h155, X155, e155, W155, st155⟩ := stI X151 hx hZ e151 Ar154 (j := (3 : Int32)) hin155 (g := (mkF m 284 #[.val (.int p0), .val (.int p1), .val (.ref bk), .val (.ref bi0), .unset, .unset, .unset, .unset, .unset] [(.int (5 : Int32)), (.int (3 : Int32)), (.ref bi1), (.ref bi1)])) rfl rfl (hb hby at_284)
  have V_bi1_155 : Arv Z h155 bi1 k139 .int (22 : Int32) [(.int (7 : Int32)), (.int (11 : Int32)), (.int (2 : Int32)), (.int (5 : Int32)), (.int (0 : Int32)), (.int (0 : Int32)), (.int (0 : Int32)), (.int (0 : Int32)), (.int (0 : Int32)), (.int (0 : Int32)), (.int (0 : Int32)), (.int (0 : Int32)), (.int (0 : Int32)), (.int (0 : Int32)), (.int (0 : Int32)), (.int (0 : Int32)), (.int (0 : Int32)), (.int (0 : Int32)), (.int (0 : Int32)), (.int (0 : Int32)), (.int (0 : Int32)), (.int (0 : Int32))] (.int (0 : Int32)) := Arv.set Ar154 q154 S154 P154 H154 G154 rfl W155 3 rfl (Nat.le_of_ble_eq_true rfl)
  have V_bk_156 := V_bk_152.other W155 ne_bk_bi1
  have V_bi0_157 := V_bi0_153.other W155 ne_bi0_bi1
  have zh155 : n0 ≤ h155.size := Nat.le_trans zh151 (Nat.le_of_eq W155.size.symm)
  have K0_155 : Keep h0 h155 [] := K0_151.wr W155 (Or.inr sz_bi1)
  obtain ⟨Lh155, N155, X155⟩ : ∃ L, Fr n0 L ∧ Stand p l e _ _ m _ below meth c T155 L _ _ := ⟨_, Fr.snoc X155 N151 lo_bi1, X155⟩
  obtain ⟨cl158, Ar158, q158, S158, P158, H158, G158⟩ := V_bi1_155
  have hin159 : ¬ ((4 : Int32) < 0 ∨ cl158.slots.size ≤ ((4 : Int32)).toNatClampNeg) := inb_of S158 ⟨by decide, by decide⟩
  obtain ⟨T159, h159, X159, e159, W159, st159⟩ := stI X155 hx hZ e155 Ar158 (j := (4 : Int32)) hin159 (g := (mkF m 289 #[.val (.int p0), .val (.int p1), .val (.ref bk), .val (.ref bi0), .unset, .unset, .unset, .unset, .unset] [(.int (7 : Int32)), (.int (4 : Int32)), (.ref bi1), (.ref bi1)])) rfl rfl (hb hby at_289)
  have V_bi1_159 : Arv Z h159 bi1 k139 .int (22 : Int32) [(.int (7 : Int32)), (.int (11 : Int32)), (.int (2 : Int32)), (.int (5 : Int32)), (.int (7 : Int32)), (.int (0 : Int32)), (.int (0 : Int32)), (.int (0 : Int32)), (.int (0 : Int32)), (.int (0 : Int32)), (.int (0 : Int32)), (.int (0 : Int32)), (.int (0 : Int32)), (.int (0 : Int32)), (.int (0 : Int32)), (.int (0 : Int32)), (.int (0 : Int32)), (.int (0 : Int32)), (.int (0 : Int32)), (.int (0 : Int32)), (.int (0 : Int32)), (.int (0 : Int32))] (.int (0 : Int32)) := Arv.set Ar158 q158 S158 P158 H158 G158 rfl W159 4 rfl (Nat.le_of_ble_eq_true rfl)
  have V_bk_160 := V_bk_156.other W159 ne_bk_bi1
  have V_bi0_161 := V_bi0_157.other W159 ne_bi0_bi1
  have zh159 : n0 ≤ h159.size := Nat.le_trans zh155 (Nat.le_of_eq W159.size.symm)
  have K0_159 : Keep h0 h159 [] := K0_155.wr W159 (Or.inr sz_bi1)
  obtain ⟨Lh159, N159, X159⟩ : ∃ L, Fr n0 L ∧ Stand p l e _ _ m _ below meth c T159 L _ _ := ⟨_, Fr.snoc X159 N155 lo_bi1, X159⟩
  obtain ⟨cl162, Ar162, q162, S162, P162, H162, G162⟩ := V_bi1_159
  have hin163 : ¬ ((5 : Int32) < 0 ∨ cl162.slots.size ≤ ((5 : Int32)).toNatClampNeg) := inb_of S162 ⟨by decide, by decide⟩
  obtain ⟨T163, h163, X163, e163, W163, st163⟩ := stI X159 hx hZ e159 Ar162 (j := (5 : Int32)) hin163 (g := (mkF m 293 #[.val (.int p0), .val (.int p1), .val (.ref bk), .val (.ref bi0), .unset, .unset, .unset, .unset, .unset] [(.int (5 : Int32)), (.int (5 : Int32)), (.ref bi1), (.ref bi1)])) rfl rfl (hb hby at_293)
  have V_bi1_163 : Arv Z h163 bi1 k139 .int (22 : Int32) [(.int (7 : Int32)), (.int (11 : Int32)), (.int (2 : Int32)), (.int (5 : Int32)), (.int (7 : Int32)), (.int (5 : Int32)), (.int (0 : Int32)), (.int (0 : Int32)), (.int (0 : Int32)), (.int (0 : Int32)), (.int (0 : Int32)), (.int (0 : Int32)), (.int (0 : Int32)), (.int (0 : Int32)), (.int (0 : Int32)), (.int (0 : Int32)), (.int (0 : Int32)), (.int (0 : Int32)), (.int (0 : Int32)), (.int (0 : Int32)), (.int (0 : Int32)), (.int (0 : Int32))] (.int (0 : Int32)) := Arv.set Ar162 q162 S162 P162 H162 G162 rfl W163 5 rfl (Nat.le_of_ble_eq_true rfl)
  have V_bk_164 := V_bk_160.other W163 ne_bk_bi1
  have V_bi0_165 := V_bi0_161.other W163 ne_bi0_bi1
  have zh163 : n0 ≤ h163.size := Nat.le_trans zh159 (Nat.le_of_eq W163.size.symm)
  have K0_163 : Keep h0 h163 [] := K0_159.wr W163 (Or.inr sz_bi1)
  obtain ⟨Lh163, N163, X163⟩ : ∃ L, Fr n0 L ∧ Stand p l e _ _ m _ below meth c T163 L _ _ := ⟨_, Fr.snoc X163 N159 lo_bi1, X163⟩
  obtain ⟨cl166, Ar166, q166, S166, P166, H166, G166⟩ := V_bi1_163
  have hin167 : ¬ ((6 : Int32) < 0 ∨ cl166.slots.size ≤ ((6 : Int32)).toNatClampNeg) := inb_of S166 ⟨by decide, by decide⟩
  obtain ⟨T167, h167, X167, e167, W167, st167⟩ := stI X163 hx hZ e163 Ar166 (j := (6 : Int32)) hin167 (g := (mkF m 298 #[.val (.int p0), .val (.int p1), .val (.ref bk), .val (.ref bi0), .unset, .unset, .unset, .unset, .unset] [(.int (2 : Int32)), (.int (6 : Int32)), (.ref bi1), (.ref bi1)])) rfl rfl (hb hby at_298)
  have V_bi1_167 : Arv Z h167 bi1 k139 .int (22 : Int32) [(.int (7 : Int32)), (.int (11 : Int32)), (.int (2 : Int32)), (.int (5 : Int32)), (.int (7 : Int32)), (.int (5 : Int32)), (.int (2 : Int32)), (.int (0 : Int32)), (.int (0 : Int32)), (.int (0 : Int32)), (.int (0 : Int32)), (.int (0 : Int32)), (.int (0 : Int32)), (.int (0 : Int32)), (.int (0 : Int32)), (.int (0 : Int32)), (.int (0 : Int32)), (.int (0 : Int32)), (.int (0 : Int32)), (.int (0 : Int32)), (.int (0 : Int32)), (.int (0 : Int32))] (.int (0 : Int32)) := Arv.set Ar166 q166 S166 P166 H166 G166 rfl W167 6 rfl (Nat.le_of_ble_eq_true rfl)
  have V_bk_168 := V_bk_164.other W167 ne_bk_bi1
  have V_bi0_169 := V_bi0_165.other W167 ne_bi0_bi1
  have zh167 : n0 ≤ h167.size := Nat.le_trans zh163 (Nat.le_of_eq W167.size.symm)
  have K0_167 : Keep h0 h167 [] := K0_163.wr W167 (Or.inr sz_bi1)
  obtain ⟨Lh167, N167, X167⟩ : ∃ L, Fr n0 L ∧ Stand p l e _ _ m _ below meth c T167 L _ _ := ⟨_, Fr.snoc X167 N163 lo_bi1, X167⟩
  obtain ⟨cl170, Ar170, q170, S170, P170, H170, G170⟩ := V_bi1_167
  have hin171 : ¬ ((7 : Int32) < 0 ∨ cl170.slots.size ≤ ((7 : Int32)).toNatClampNeg) := inb_of S170 ⟨by decide, by decide⟩
  obtain ⟨T171, h171, X171, e171, W171, st171⟩ := stI X167 hx hZ e167 Ar170 (j := (7 : Int32)) hin171 (g := (mkF m 303 #[.val (.int p0), .val (.int p1), .val (.ref bk), .val (.ref bi0), .unset, .unset, .unset, .unset, .unset] [(.int (5 : Int32)), (.int (7 : Int32)), (.ref bi1), (.ref bi1)])) rfl rfl (hb hby at_303)
  have V_bi1_171 : Arv Z h171 bi1 k139 .int (22 : Int32) [(.int (7 : Int32)), (.int (11 : Int32)), (.int (2 : Int32)), (.int (5 : Int32)), (.int (7 : Int32)), (.int (5 : Int32)), (.int (2 : Int32)), (.int (5 : Int32)), (.int (0 : Int32)), (.int (0 : Int32)), (.int (0 : Int32)), (.int (0 : Int32)), (.int (0 : Int32)), (.int (0 : Int32)), (.int (0 : Int32)), (.int (0 : Int32)), (.int (0 : Int32)), (.int (0 : Int32)), (.int (0 : Int32)), (.int (0 : Int32)), (.int (0 : Int32)), (.int (0 : Int32))] (.int (0 : Int32)) := Arv.set Ar170 q170 S170 P170 H170 G170 rfl W171 7 rfl (Nat.le_of_ble_eq_true rfl)
  have V_bk_172 := V_bk_168.other W171 ne_bk_bi1
  have V_bi0_173 := V_bi0_169.other W171 ne_bi0_bi1
  have zh171 : n0 ≤ h171.size := Nat.le_trans zh167 (Nat.le_of_eq W171.size.symm)
  have K0_171 : Keep h0 h171 [] := K0_167.wr W171 (Or.inr sz_bi1)
  obtain ⟨Lh171, N171, X171⟩ : ∃ L, Fr n0 L ∧ Stand p l e _ _ m _ below meth c T171 L _ _ := ⟨_, Fr.snoc X171 N167 lo_bi1, X171⟩
  obtain ⟨cl174, Ar174, q174, S174, P174, H174, G174⟩ := V_bi1_171
  have hin175 : ¬ ((8 : Int32) < 0 ∨ cl174.slots.size ≤ ((8 : Int32)).toNatClampNeg) := inb_of S174 ⟨by decide, by decide⟩
  obtain ⟨T175, h175, X175, e175, W175, st175⟩ := stI X171 hx hZ e171 Ar174 (j := (8 : Int32)) hin175 (g := (mkF m 308 #[.val (.int p0), .val (.int p1), .val (.ref bk), .val (.ref bi0), .unset, .unset, .unset, .unset, .unset] [(.int (3 : Int32)), (.int (8 : Int32)), (.ref bi1), (.ref bi1)])) rfl rfl (hb hby at_308)
  have V_bi1_175 : Arv Z h175 bi1 k139 .int (22 : Int32) [(.int (7 : Int32)), (.int (11 : Int32)), (.int (2 : Int32)), (.int (5 : Int32)), (.int (7 : Int32)), (.int (5 : Int32)), (.int (2 : Int32)), (.int (5 : Int32)), (.int (3 : Int32)), (.int (0 : Int32)), (.int (0 : Int32)), (.int (0 : Int32)), (.int (0 : Int32)), (.int (0 : Int32)), (.int (0 : Int32)), (.int (0 : Int32)), (.int (0 : Int32)), (.int (0 : Int32)), (.int (0 : Int32)), (.int (0 : Int32)), (.int (0 : Int32)), (.int (0 : Int32))] (.int (0 : Int32)) := Arv.set Ar174 q174 S174 P174 H174 G174 rfl W175 8 rfl (Nat.le_of_ble_eq_true rfl)
  have V_bk_176 := V_bk_172.other W175 ne_bk_bi1
  have V_bi0_177 := V_bi0_173.other W175 ne_bi0_bi1
  have zh175 : n0 ≤ h175.size := Nat.le_trans zh171 (Nat.le_of_eq W175.size.symm)
  have K0_175 : Keep h0 h175 [] := K0_171.wr W175 (Or.inr sz_bi1)
  obtain ⟨Lh175, N175, X175⟩ : ∃ L, Fr n0 L ∧ Stand p l e _ _ m _ below meth c T175 L _ _ := ⟨_, Fr.snoc X175 N171 lo_bi1, X175⟩
  obtain ⟨cl178, Ar178, q178, S178, P178, H178, G178⟩ := V_bi1_175
  have hin179 : ¬ ((9 : Int32) < 0 ∨ cl178.slots.size ≤ ((9 : Int32)).toNatClampNeg) := inb_of S178 ⟨by decide, by decide⟩
  obtain ⟨T179, h179, X179, e179, W179, st179⟩ := stI X175 hx hZ e175 Ar178 (j := (9 : Int32)) hin179 (g := (mkF m 313 #[.val (.int p0), .val (.int p1), .val (.ref bk), .val (.ref bi0), .unset, .unset, .unset, .unset, .unset] [(.int (1 : Int32)), (.int (9 : Int32)), (.ref bi1), (.ref bi1)])) rfl rfl (hb hby at_313)
  have V_bi1_179 : Arv Z h179 bi1 k139 .int (22 : Int32) [(.int (7 : Int32)), (.int (11 : Int32)), (.int (2 : Int32)), (.int (5 : Int32)), (.int (7 : Int32)), (.int (5 : Int32)), (.int (2 : Int32)), (.int (5 : Int32)), (.int (3 : Int32)), (.int (1 : Int32)), (.int (0 : Int32)), (.int (0 : Int32)), (.int (0 : Int32)), (.int (0 : Int32)), (.int (0 : Int32)), (.int (0 : Int32)), (.int (0 : Int32)), (.int (0 : Int32)), (.int (0 : Int32)), (.int (0 : Int32)), (.int (0 : Int32)), (.int (0 : Int32))] (.int (0 : Int32)) := Arv.set Ar178 q178 S178 P178 H178 G178 rfl W179 9 rfl (Nat.le_of_ble_eq_true rfl)
  have V_bk_180 := V_bk_176.other W179 ne_bk_bi1
  have V_bi0_181 := V_bi0_177.other W179 ne_bi0_bi1
  have zh179 : n0 ≤ h179.size := Nat.le_trans zh175 (Nat.le_of_eq W179.size.symm)
  have K0_179 : Keep h0 h179 [] := K0_175.wr W179 (Or.inr sz_bi1)
  obtain ⟨Lh179, N179, X179⟩ : ∃ L, Fr n0 L ∧ Stand p l e _ _ m _ below meth c T179 L _ _ := ⟨_, Fr.snoc X179 N175 lo_bi1, X179⟩
  obtain ⟨cl182, Ar182, q182, S182, P182, H182, G182⟩ := V_bi1_179
  have hin183 : ¬ ((10 : Int32) < 0 ∨ cl182.slots.size ≤ ((10 : Int32)).toNatClampNeg) := inb_of S182 ⟨by decide, by decide⟩
  obtain ⟨T183, h183, X183, e183, W183, st183⟩ := stI X179 hx hZ e179 Ar182 (j := (10 : Int32)) hin183 (g := (mkF m 318 #[.val (.int p0), .val (.int p1), .val (.ref bk), .val (.ref bi0), .unset, .unset, .unset, .unset, .unset] [(.int (3 : Int32)), (.int (10 : Int32)), (.ref bi1), (.ref bi1)])) rfl rfl (hb hby at_318)
  have V_bi1_183 : Arv Z h183 bi1 k139 .int (22 : Int32) [(.int (7 : Int32)), (.int (11 : Int32)), (.int (2 : Int32)), (.int (5 : Int32)), (.int (7 : Int32)), (.int (5 : Int32)), (.int (2 : Int32)), (.int (5 : Int32)), (.int (3 : Int32)), (.int (1 : Int32)), (.int (3 : Int32)), (.int (0 : Int32)), (.int (0 : Int32)), (.int (0 : Int32)), (.int (0 : Int32)), (.int (0 : Int32)), (.int (0 : Int32)), (.int (0 : Int32)), (.int (0 : Int32)), (.int (0 : Int32)), (.int (0 : Int32)), (.int (0 : Int32))] (.int (0 : Int32)) := Arv.set Ar182 q182 S182 P182 H182 G182 rfl W183 10 rfl (Nat.le_of_ble_eq_true rfl)
  have V_bk_184 := V_bk_180.other W183 ne_bk_bi1
  have V_bi0_185 := V_bi0_181.other W183 ne_bi0_bi1
  have zh183 : n0 ≤ h183.size := Nat.le_trans zh179 (Nat.le_of_eq W183.size.symm)
  have K0_183 : Keep h0 h183 [] := K0_179.wr W183 (Or.inr sz_bi1)
  obtain ⟨Lh183, N183, X183⟩ : ∃ L, Fr n0 L ∧ Stand p l e _ _ m _ below meth c T183 L _ _ := ⟨_, Fr.snoc X183 N179 lo_bi1, X183⟩
  obtain ⟨cl186, Ar186, q186, S186, P186, H186, G186⟩ := V_bi1_183
  have hin187 : ¬ ((11 : Int32) < 0 ∨ cl186.slots.size ≤ ((11 : Int32)).toNatClampNeg) := inb_of S186 ⟨by decide, by decide⟩
  obtain ⟨T187, h187, X187, e187, W187, st187⟩ := stI X183 hx hZ e183 Ar186 (j := (11 : Int32)) hin187 (g := (mkF m 323 #[.val (.int p0), .val (.int p1), .val (.ref bk), .val (.ref bi0), .unset, .unset, .unset, .unset, .unset] [(.int (4 : Int32)), (.int (11 : Int32)), (.ref bi1), (.ref bi1)])) rfl rfl (hb hby at_323)
  have V_bi1_187 : Arv Z h187 bi1 k139 .int (22 : Int32) [(.int (7 : Int32)), (.int (11 : Int32)), (.int (2 : Int32)), (.int (5 : Int32)), (.int (7 : Int32)), (.int (5 : Int32)), (.int (2 : Int32)), (.int (5 : Int32)), (.int (3 : Int32)), (.int (1 : Int32)), (.int (3 : Int32)), (.int (4 : Int32)), (.int (0 : Int32)), (.int (0 : Int32)), (.int (0 : Int32)), (.int (0 : Int32)), (.int (0 : Int32)), (.int (0 : Int32)), (.int (0 : Int32)), (.int (0 : Int32)), (.int (0 : Int32)), (.int (0 : Int32))] (.int (0 : Int32)) := Arv.set Ar186 q186 S186 P186 H186 G186 rfl W187 11 rfl (Nat.le_of_ble_eq_true rfl)
  have V_bk_188 := V_bk_184.other W187 ne_bk_bi1
  have V_bi0_189 := V_bi0_185.other W187 ne_bi0_bi1
  have zh187 : n0 ≤ h187.size := Nat.le_trans zh183 (Nat.le_of_eq W187.size.symm)
  have K0_187 : Keep h0 h187 [] := K0_183.wr W187 (Or.inr sz_bi1)
  obtain ⟨Lh187, N187, X187⟩ : ∃ L, Fr n0 L ∧ Stand p l e _ _ m _ below meth c T187 L _ _ := ⟨_, Fr.snoc X187 N183 lo_bi1, X187⟩
  obtain ⟨cl190, Ar190, q190, S190, P190, H190, G190⟩ := V_bi1_187
  have hin191 : ¬ ((12 : Int32) < 0 ∨ cl190.slots.size ≤ ((12 : Int32)).toNatClampNeg) := inb_of S190 ⟨by decide, by decide⟩
  obtain ⟨T191, h191, X191, e191, W191, st191⟩ := stI X187 hx hZ e187 Ar190 (j := (12 : Int32)) hin191 (g := (mkF m 328 #[.val (.int p0), .val (.int p1), .val (.ref bk), .val (.ref bi0), .unset, .unset, .unset, .unset, .unset] [(.int (2 : Int32)), (.int (12 : Int32)), (.ref bi1), (.ref bi1)])) rfl rfl (hb hby at_328)
  have V_bi1_191 : Arv Z h191 bi1 k139 .int (22 : Int32) [(.int (7 : Int32)), (.int (11 : Int32)), (.int (2 : Int32)), (.int (5 : Int32)), (.int (7 : Int32)), (.int (5 : Int32)), (.int (2 : Int32)), (.int (5 : Int32)), (.int (3 : Int32)), (.int (1 : Int32)), (.int (3 : Int32)), (.int (4 : Int32)), (.int (2 : Int32)), (.int (0 : Int32)), (.int (0 : Int32)), (.int (0 : Int32)), (.int (0 : Int32)), (.int (0 : Int32)), (.int (0 : Int32)), (.int (0 : Int32)), (.int (0 : Int32)), (.int (0 : Int32))] (.int (0 : Int32)) := Arv.set Ar190 q190 S190 P190 H190 G190 rfl W191 12 rfl (Nat.le_of_ble_eq_true rfl)
  have V_bk_192 := V_bk_188.other W191 ne_bk_bi1
  have V_bi0_193 := V_bi0_189.other W191 ne_bi0_bi1
  have zh191 : n0 ≤ h191.size := Nat.le_trans zh187 (Nat.le_of_eq W191.size.symm)
  have K0_191 : Keep h0 h191 [] := K0_187.wr W191 (Or.inr sz_bi1)
  obtain ⟨Lh191, N191, X191⟩ : ∃ L, Fr n0 L ∧ Stand p l e _ _ m _ below meth c T191 L _ _ := ⟨_, Fr.snoc X191 N187 lo_bi1, X191⟩
  obtain ⟨cl194, Ar194, q194, S194, P194, H194, G194⟩ := V_bi1_191
  have hin195 : ¬ ((13 : Int32) < 0 ∨ cl194.slots.size ≤ ((13 : Int32)).toNatClampNeg) := inb_of S194 ⟨by decide, by decide⟩
  obtain ⟨T195, h195, X195, e195, W195, st195⟩ := stI X191 hx hZ e191 Ar194 (j := (13 : Int32)) hin195 (g := (mkF m 333 #[.val (.int p0), .val (.int p1), .val (.ref bk), .val (.ref bi0), .unset, .unset, .unset, .unset, .unset] [(.int (3 : Int32)), (.int (13 : Int32)), (.ref bi1), (.ref bi1)])) rfl rfl (hb hby at_333)
  have V_bi1_195 : Arv Z h195 bi1 k139 .int (22 : Int32) [(.int (7 : Int32)), (.int (11 : Int32)), (.int (2 : Int32)), (.int (5 : Int32)), (.int (7 : Int32)), (.int (5 : Int32)), (.int (2 : Int32)), (.int (5 : Int32)), (.int (3 : Int32)), (.int (1 : Int32)), (.int (3 : Int32)), (.int (4 : Int32)), (.int (2 : Int32)), (.int (3 : Int32)), (.int (0 : Int32)), (.int (0 : Int32)), (.int (0 : Int32)), (.int (0 : Int32)), (.int (0 : Int32)), (.int (0 : Int32)), (.int (0 : Int32)), (.int (0 : Int32))] (.int (0 : Int32)) := Arv.set Ar194 q194 S194 P194 H194 G194 rfl W195 13 rfl (Nat.le_of_ble_eq_true rfl)
  have V_bk_196 := V_bk_192.other W195 ne_bk_bi1
  have V_bi0_197 := V_bi0_193.other W195 ne_bi0_bi1
  have zh195 : n0 ≤ h195.size := Nat.le_trans zh191 (Nat.le_of_eq W195.size.symm)
  have K0_195 : Keep h0 h195 [] := K0_191.wr W195 (Or.inr sz_bi1)
  obtain ⟨Lh195, N195, X195⟩ : ∃ L, Fr n0 L ∧ Stand p l e _ _ m _ below meth c T195 L _ _ := ⟨_, Fr.snoc X195 N191 lo_bi1, X195⟩
  obtain ⟨cl198, Ar198, q198, S198, P198, H198, G198⟩ := V_bi1_195
  have hin199 : ¬ ((14 : Int32) < 0 ∨ cl198.slots.size ≤ ((14 : Int32)).toNatClampNeg) := inb_of S198 ⟨by decide, by decide⟩
  obtain ⟨T199, h199, X199, e199, W199, st199⟩ := stI X195 hx hZ e195 Ar198 (j := (14 : Int32)) hin199 (g := (mkF m 338 #[.val (.int p0), .val (.int p1), .val (.ref bk), .val (.ref bi0), .unset, .unset, .unset, .unset, .unset] [(.int (4 : Int32)), (.int (14 : Int32)), (.ref bi1), (.ref bi1)])) rfl rfl (hb hby at_338)
  have V_bi1_199 : Arv Z h199 bi1 k139 .int (22 : Int32) [(.int (7 : Int32)), (.int (11 : Int32)), (.int (2 : Int32)), (.int (5 : Int32)), (.int (7 : Int32)), (.int (5 : Int32)), (.int (2 : Int32)), (.int (5 : Int32)), (.int (3 : Int32)), (.int (1 : Int32)), (.int (3 : Int32)), (.int (4 : Int32)), (.int (2 : Int32)), (.int (3 : Int32)), (.int (4 : Int32)), (.int (0 : Int32)), (.int (0 : Int32)), (.int (0 : Int32)), (.int (0 : Int32)), (.int (0 : Int32)), (.int (0 : Int32)), (.int (0 : Int32))] (.int (0 : Int32)) := Arv.set Ar198 q198 S198 P198 H198 G198 rfl W199 14 rfl (Nat.le_of_ble_eq_true rfl)
  have V_bk_200 := V_bk_196.other W199 ne_bk_bi1
  have V_bi0_201 := V_bi0_197.other W199 ne_bi0_bi1
  have zh199 : n0 ≤ h199.size := Nat.le_trans zh195 (Nat.le_of_eq W199.size.symm)
  have K0_199 : Keep h0 h199 [] := K0_195.wr W199 (Or.inr sz_bi1)
  obtain ⟨Lh199, N199, X199⟩ : ∃ L, Fr n0 L ∧ Stand p l e _ _ m _ below meth c T199 L _ _ := ⟨_, Fr.snoc X199 N195 lo_bi1, X199⟩
  obtain ⟨cl202, Ar202, q202, S202, P202, H202, G202⟩ := V_bi1_199
  have hin203 : ¬ ((15 : Int32) < 0 ∨ cl202.slots.size ≤ ((15 : Int32)).toNatClampNeg) := inb_of S202 ⟨by decide, by decide⟩
  obtain ⟨T203, h203, X203, e203, W203, st203⟩ := stI X199 hx hZ e199 Ar202 (j := (15 : Int32)) hin203 (g := (mkF m 343 #[.val (.int p0), .val (.int p1), .val (.ref bk), .val (.ref bi0), .unset, .unset, .unset, .unset, .unset] [(.int (3 : Int32)), (.int (15 : Int32)), (.ref bi1), (.ref bi1)])) rfl rfl (hb hby at_343)
  have V_bi1_203 : Arv Z h203 bi1 k139 .int (22 : Int32) [(.int (7 : Int32)), (.int (11 : Int32)), (.int (2 : Int32)), (.int (5 : Int32)), (.int (7 : Int32)), (.int (5 : Int32)), (.int (2 : Int32)), (.int (5 : Int32)), (.int (3 : Int32)), (.int (1 : Int32)), (.int (3 : Int32)), (.int (4 : Int32)), (.int (2 : Int32)), (.int (3 : Int32)), (.int (4 : Int32)), (.int (3 : Int32)), (.int (0 : Int32)), (.int (0 : Int32)), (.int (0 : Int32)), (.int (0 : Int32)), (.int (0 : Int32)), (.int (0 : Int32))] (.int (0 : Int32)) := Arv.set Ar202 q202 S202 P202 H202 G202 rfl W203 15 rfl (Nat.le_of_ble_eq_true rfl)
  have V_bk_204 := V_bk_200.other W203 ne_bk_bi1
  have V_bi0_205 := V_bi0_201.other W203 ne_bi0_bi1
  have zh203 : n0 ≤ h203.size := Nat.le_trans zh199 (Nat.le_of_eq W203.size.symm)
  have K0_203 : Keep h0 h203 [] := K0_199.wr W203 (Or.inr sz_bi1)
  obtain ⟨Lh203, N203, X203⟩ : ∃ L, Fr n0 L ∧ Stand p l e _ _ m _ below meth c T203 L _ _ := ⟨_, Fr.snoc X203 N199 lo_bi1, X203⟩
  obtain ⟨cl206, Ar206, q206, S206, P206, H206, G206⟩ := V_bi1_203
  have hin207 : ¬ ((16 : Int32) < 0 ∨ cl206.slots.size ≤ ((16 : Int32)).toNatClampNeg) := inb_of S206 ⟨by decide, by decide⟩
  obtain ⟨T207, h207, X207, e207, W207, st207⟩ := stI X203 hx hZ e203 Ar206 (j := (16 : Int32)) hin207 (g := (mkF m 348 #[.val (.int p0), .val (.int p1), .val (.ref bk), .val (.ref bi0), .unset, .unset, .unset, .unset, .unset] [(.int (1 : Int32)), (.int (16 : Int32)), (.ref bi1), (.ref bi1)])) rfl rfl (hb hby at_348)
  have V_bi1_207 : Arv Z h207 bi1 k139 .int (22 : Int32) [(.int (7 : Int32)), (.int (11 : Int32)), (.int (2 : Int32)), (.int (5 : Int32)), (.int (7 : Int32)), (.int (5 : Int32)), (.int (2 : Int32)), (.int (5 : Int32)), (.int (3 : Int32)), (.int (1 : Int32)), (.int (3 : Int32)), (.int (4 : Int32)), (.int (2 : Int32)), (.int (3 : Int32)), (.int (4 : Int32)), (.int (3 : Int32)), (.int (1 : Int32)), (.int (0 : Int32)), (.int (0 : Int32)), (.int (0 : Int32)), (.int (0 : Int32)), (.int (0 : Int32))] (.int (0 : Int32)) := Arv.set Ar206 q206 S206 P206 H206 G206 rfl W207 16 rfl (Nat.le_of_ble_eq_true rfl)
  have V_bk_208 := V_bk_204.other W207 ne_bk_bi1
  have V_bi0_209 := V_bi0_205.other W207 ne_bi0_bi1
  have zh207 : n0 ≤ h207.size := Nat.le_trans zh203 (Nat.le_of_eq W207.size.symm)
  have K0_207 : Keep h0 h207 [] := K0_203.wr W207 (Or.inr sz_bi1)
  obtain ⟨Lh207, N207, X207⟩ : ∃ L, Fr n0 L ∧ Stand p l e _ _ m _ below meth c T207 L _ _ := ⟨_, Fr.snoc X207 N203 lo_bi1, X207⟩
  obtain ⟨cl210, Ar210, q210, S210, P210, H210, G210⟩ := V_bi1_207
  have hin211 : ¬ ((17 : Int32) < 0 ∨ cl210.slots.size ≤ ((17 : Int32)).toNatClampNeg) := inb_of S210 ⟨by decide, by decide⟩
  obtain ⟨T211, h211, X211, e211, W211, st211⟩ := stI X207 hx hZ e207 Ar210 (j := (17 : Int32)) hin211 (g := (mkF m 353 #[.val (.int p0), .val (.int p1), .val (.ref bk), .val (.ref bi0), .unset, .unset, .unset, .unset, .unset] [(.int (2 : Int32)), (.int (17 : Int32)), (.ref bi1), (.ref bi1)])) rfl rfl (hb hby at_353)
  have V_bi1_211 : Arv Z h211 bi1 k139 .int (22 : Int32) [(.int (7 : Int32)), (.int (11 : Int32)), (.int (2 : Int32)), (.int (5 : Int32)), (.int (7 : Int32)), (.int (5 : Int32)), (.int (2 : Int32)), (.int (5 : Int32)), (.int (3 : Int32)), (.int (1 : Int32)), (.int (3 : Int32)), (.int (4 : Int32)), (.int (2 : Int32)), (.int (3 : Int32)), (.int (4 : Int32)), (.int (3 : Int32)), (.int (1 : Int32)), (.int (2 : Int32)), (.int (0 : Int32)), (.int (0 : Int32)), (.int (0 : Int32)), (.int (0 : Int32))] (.int (0 : Int32)) := Arv.set Ar210 q210 S210 P210 H210 G210 rfl W211 17 rfl (Nat.le_of_ble_eq_true rfl)
  have V_bk_212 := V_bk_208.other W211 ne_bk_bi1
  have V_bi0_213 := V_bi0_209.other W211 ne_bi0_bi1
  have zh211 : n0 ≤ h211.size := Nat.le_trans zh207 (Nat.le_of_eq W211.size.symm)
  have K0_211 : Keep h0 h211 [] := K0_207.wr W211 (Or.inr sz_bi1)
  obtain ⟨Lh211, N211, X211⟩ : ∃ L, Fr n0 L ∧ Stand p l e _ _ m _ below meth c T211 L _ _ := ⟨_, Fr.snoc X211 N207 lo_bi1, X211⟩
  obtain ⟨cl214, Ar214, q214, S214, P214, H214, G214⟩ := V_bi1_211
  have hin215 : ¬ ((18 : Int32) < 0 ∨ cl214.slots.size ≤ ((18 : Int32)).toNatClampNeg) := inb_of S214 ⟨by decide, by decide⟩
  obtain ⟨T215, h215, X215, e215, W215, st215⟩ := stI X211 hx hZ e211 Ar214 (j := (18 : Int32)) hin215 (g := (mkF m 358 #[.val (.int p0), .val (.int p1), .val (.ref bk), .val (.ref bi0), .unset, .unset, .unset, .unset, .unset] [(.int (1 : Int32)), (.int (18 : Int32)), (.ref bi1), (.ref bi1)])) rfl rfl (hb hby at_358)
  have V_bi1_215 : Arv Z h215 bi1 k139 .int (22 : Int32) [(.int (7 : Int32)), (.int (11 : Int32)), (.int (2 : Int32)), (.int (5 : Int32)), (.int (7 : Int32)), (.int (5 : Int32)), (.int (2 : Int32)), (.int (5 : Int32)), (.int (3 : Int32)), (.int (1 : Int32)), (.int (3 : Int32)), (.int (4 : Int32)), (.int (2 : Int32)), (.int (3 : Int32)), (.int (4 : Int32)), (.int (3 : Int32)), (.int (1 : Int32)), (.int (2 : Int32)), (.int (1 : Int32)), (.int (0 : Int32)), (.int (0 : Int32)), (.int (0 : Int32))] (.int (0 : Int32)) := Arv.set Ar214 q214 S214 P214 H214 G214 rfl W215 18 rfl (Nat.le_of_ble_eq_true rfl)
  have V_bk_216 := V_bk_212.other W215 ne_bk_bi1
  have V_bi0_217 := V_bi0_213.other W215 ne_bi0_bi1
  have zh215 : n0 ≤ h215.size := Nat.le_trans zh211 (Nat.le_of_eq W215.size.symm)
  have K0_215 : Keep h0 h215 [] := K0_211.wr W215 (Or.inr sz_bi1)
  obtain ⟨Lh215, N215, X215⟩ : ∃ L, Fr n0 L ∧ Stand p l e _ _ m _ below meth c T215 L _ _ := ⟨_, Fr.snoc X215 N211 lo_bi1, X215⟩
  obtain ⟨cl218, Ar218, q218, S218, P218, H218, G218⟩ := V_bi1_215
  have hin219 : ¬ ((19 : Int32) < 0 ∨ cl218.slots.size ≤ ((19 : Int32)).toNatClampNeg) := inb_of S218 ⟨by decide, by decide⟩
  obtain ⟨T219, h219, X219, e219, W219, st219⟩ := stI X215 hx hZ e215 Ar218 (j := (19 : Int32)) hin219 (g := (mkF m 363 #[.val (.int p0), .val (.int p1), .val (.ref bk), .val (.ref bi0), .unset, .unset, .unset, .unset, .unset] [(.int (1 : Int32)), (.int (19 : Int32)), (.ref bi1), (.ref bi1)])) rfl rfl (hb hby at_363)
  have V_bi1_219 : Arv Z h219 bi1 k139 .int (22 : Int32) [(.int (7 : Int32)), (.int (11 : Int32)), (.int (2 : Int32)), (.int (5 : Int32)), (.int (7 : Int32)), (.int (5 : Int32)), (.int (2 : Int32)), (.int (5 : Int32)), (.int (3 : Int32)), (.int (1 : Int32)), (.int (3 : Int32)), (.int (4 : Int32)), (.int (2 : Int32)), (.int (3 : Int32)), (.int (4 : Int32)), (.int (3 : Int32)), (.int (1 : Int32)), (.int (2 : Int32)), (.int (1 : Int32)), (.int (1 : Int32)), (.int (0 : Int32)), (.int (0 : Int32))] (.int (0 : Int32)) := Arv.set Ar218 q218 S218 P218 H218 G218 rfl W219 19 rfl (Nat.le_of_ble_eq_true rfl)
  have V_bk_220 := V_bk_216.other W219 ne_bk_bi1
  have V_bi0_221 := V_bi0_217.other W219 ne_bi0_bi1
  have zh219 : n0 ≤ h219.size := Nat.le_trans zh215 (Nat.le_of_eq W219.size.symm)
  have K0_219 : Keep h0 h219 [] := K0_215.wr W219 (Or.inr sz_bi1)
  obtain ⟨Lh219, N219, X219⟩ : ∃ L, Fr n0 L ∧ Stand p l e _ _ m _ below meth c T219 L _ _ := ⟨_, Fr.snoc X219 N215 lo_bi1, X219⟩
  obtain ⟨cl222, Ar222, q222, S222, P222, H222, G222⟩ := V_bi1_219
  have hin223 : ¬ ((20 : Int32) < 0 ∨ cl222.slots.size ≤ ((20 : Int32)).toNatClampNeg) := inb_of S222 ⟨by decide, by decide⟩
  obtain ⟨T223, h223, X223, e223, W223, st223⟩ := stI X219 hx hZ e219 Ar222 (j := (20 : Int32)) hin223 (g := (mkF m 368 #[.val (.int p0), .val (.int p1), .val (.ref bk), .val (.ref bi0), .unset, .unset, .unset, .unset, .unset] [(.int (1 : Int32)), (.int (20 : Int32)), (.ref bi1), (.ref bi1)])) rfl rfl (hb hby at_368)
  have V_bi1_223 : Arv Z h223 bi1 k139 .int (22 : Int32) [(.int (7 : Int32)), (.int (11 : Int32)), (.int (2 : Int32)), (.int (5 : Int32)), (.int (7 : Int32)), (.int (5 : Int32)), (.int (2 : Int32)), (.int (5 : Int32)), (.int (3 : Int32)), (.int (1 : Int32)), (.int (3 : Int32)), (.int (4 : Int32)), (.int (2 : Int32)), (.int (3 : Int32)), (.int (4 : Int32)), (.int (3 : Int32)), (.int (1 : Int32)), (.int (2 : Int32)), (.int (1 : Int32)), (.int (1 : Int32)), (.int (1 : Int32)), (.int (0 : Int32))] (.int (0 : Int32)) := Arv.set Ar222 q222 S222 P222 H222 G222 rfl W223 20 rfl (Nat.le_of_ble_eq_true rfl)
  have V_bk_224 := V_bk_220.other W223 ne_bk_bi1
  have V_bi0_225 := V_bi0_221.other W223 ne_bi0_bi1
  have zh223 : n0 ≤ h223.size := Nat.le_trans zh219 (Nat.le_of_eq W223.size.symm)
  have K0_223 : Keep h0 h223 [] := K0_219.wr W223 (Or.inr sz_bi1)
  obtain ⟨Lh223, N223, X223⟩ : ∃ L, Fr n0 L ∧ Stand p l e _ _ m _ below meth c T223 L _ _ := ⟨_, Fr.snoc X223 N219 lo_bi1, X223⟩
  obtain ⟨cl226, Ar226, q226, S226, P226, H226, G226⟩ := V_bi1_223
  have hin227 : ¬ ((21 : Int32) < 0 ∨ cl226.slots.size ≤ ((21 : Int32)).toNatClampNeg) := inb_of S226 ⟨by decide, by decide⟩
  obtain ⟨T227, h227, X227, e227, W227, st227⟩ := stI X223 hx hZ e223 Ar226 (j := (21 : Int32)) hin227 (g := (mkF m 373 #[.val (.int p0), .val (.int p1), .val (.ref bk), .val (.ref bi0), .unset, .unset, .unset, .unset, .unset] [(.int (0 : Int32)), (.int (21 : Int32)), (.ref bi1), (.ref bi1)])) rfl rfl (hb hby at_373)
  have V_bi1_227 : Arv Z h227 bi1 k139 .int (22 : Int32) [(.int (7 : Int32)), (.int (11 : Int32)), (.int (2 : Int32)), (.int (5 : Int32)), (.int (7 : Int32)), (.int (5 : Int32)), (.int (2 : Int32)), (.int (5 : Int32)), (.int (3 : Int32)), (.int (1 : Int32)), (.int (3 : Int32)), (.int (4 : Int32)), (.int (2 : Int32)), (.int (3 : Int32)), (.int (4 : Int32)), (.int (3 : Int32)), (.int (1 : Int32)), (.int (2 : Int32)), (.int (1 : Int32)), (.int (1 : Int32)), (.int (1 : Int32)), (.int (0 : Int32))] (.int (0 : Int32)) := Arv.set Ar226 q226 S226 P226 H226 G226 rfl W227 21 rfl (Nat.le_of_ble_eq_true rfl)
  have V_bk_228 := V_bk_224.other W227 ne_bk_bi1
  have V_bi0_229 := V_bi0_225.other W227 ne_bi0_bi1
  have zh227 : n0 ≤ h227.size := Nat.le_trans zh223 (Nat.le_of_eq W227.size.symm)
  have K0_227 : Keep h0 h227 [] := K0_223.wr W227 (Or.inr sz_bi1)
  obtain ⟨Lh227, N227, X227⟩ : ∃ L, Fr n0 L ∧ Stand p l e _ _ m _ below meth c T227 L _ _ := ⟨_, Fr.snoc X227 N223 lo_bi1, X227⟩
  refine own_Go.mono (T' := T227) (f' := (mkF m 383 #[.val (.int p0), .val (.int p1), .val (.ref bk), .val (.ref bi0), .val (.ref bi1), .unset, .unset, .unset, .unset] [(.int ((p0 &&& (2147483647 : Int32)) % (22 : Int32)))])) (fun t k => ?_) ?_
  · show Steps p.tables e below (s₁.setTop (mkF m 0 #[.val (.int p0), .val (.int p1), .unset, .unset, .unset, .unset, .unset, .unset, .unset] [])) _
    refine XS.bipush X0.here hx rfl (hb hby at_0) ?_
    show Steps p.tables e below (s₁.setTop (mkF m 2 #[.val (.int p0), .val (.int p1), .unset, .unset, .unset, .unset, .unset, .unset, .unset] [(.int (22 : Int32))])) _
    refine st4 _ ?_
    show Steps p.tables e below (T4.setTop (mkF m 5 #[.val (.int p0), .val (.int p1), .unset, .unset, .unset, .unset, .unset, .unset, .unset] [(.ref bk)])) _
    refine XS.dup X4.here hx rfl (hb hby at_5) rfl rfl ?_
    show Steps p.tables e below (T4.setTop (mkF m 6 #[.val (.int p0), .val (.int p1), .unset, .unset, .unset, .unset, .unset, .unset, .unset] [(.ref bk), (.ref bk)])) _
    refine XS.iconst X4.here hx rfl (hb hby at_6) ?_
    show Steps p.tables e below (T4.setTop (mkF m 7 #[.val (.int p0), .val (.int p1), .unset, .unset, .unset, .unset, .unset, .unset, .unset] [(.int (0 : Int32)), (.ref bk), (.ref bk)])) _
    refine st5 _ ?_
    show Steps p.tables e below (T5.setTop (mkF m 10 #[.val (.int p0), .val (.int p1), .unset, .unset, .unset, .unset, .unset, .unset, .unset] [(.ref w0), (.int (0 : Int32)), (.ref bk), (.ref bk)])) _
    refine st7 _ ?_
    show Steps p.tables e below (T7.setTop (mkF m 11 #[.val (.int p0), .val (.int p1), .unset, .unset, .unset, .unset, .unset, .unset, .unset] [(.ref bk)])) _
    refine XS.dup X7.here hx rfl (hb hby at_11) rfl rfl ?_
    show Steps p.tables e below (T7.setTop (mkF m 12 #[.val (.int p0), .val (.int p1), .unset, .unset, .unset, .unset, .unset, .unset, .unset] [(.ref bk), (.ref bk)])) _
    refine XS.iconst X7.here hx rfl (hb hby at_12) ?_
    show Steps p.tables e below (T7.setTop (mkF m 13 #[.val (.int p0), .val (.int p1), .unset, .unset, .unset, .unset, .unset, .unset, .unset] [(.int (1 : Int32)), (.ref bk), (.ref bk)])) _
    refine st8 _ ?_
    show Steps p.tables e below (T8.setTop (mkF m 16 #[.val (.int p0), .val (.int p1), .unset, .unset, .unset, .unset, .unset, .unset, .unset] [(.ref w1), (.int (1 : Int32)), (.ref bk), (.ref bk)])) _
    refine st10 _ ?_
    show Steps p.tables e below (T10.setTop (mkF m 17 #[.val (.int p0), .val (.int p1), .unset, .unset, .unset, .unset, .unset, .unset, .unset] [(.ref bk)])) _
    refine XS.dup X10.here hx rfl (hb hby at_17) rfl rfl ?_
    show Steps p.tables e below (T10.setTop (mkF m 18 #[.val (.int p0), .val (.int p1), .unset, .unset, .unset, .unset, .unset, .unset, .unset] [(.ref bk), (.ref bk)])) _
    refine XS.iconst X10.here hx rfl (hb hby at_18) ?_
    show Steps p.tables e below (T10.setTop (mkF m 19 #[.val (.int p0), .val (.int p1), .unset, .unset, .unset, .unset, .unset, .unset, .unset] [(.int (2 : Int32)), (.ref bk), (.ref bk)])) _
    refine st11 _ ?_
    show Steps p.tables e below (T11.setTop (mkF m 22 #[.val (.int p0), .val (.int p1), .unset, .unset, .unset, .unset, .unset, .unset, .unset] [(.ref w2), (.int (2 : Int32)), (.ref bk), (.ref bk)])) _
    refine st13 _ ?_
    show Steps p.tables e below (T13.setTop (mkF m 23 #[.val (.int p0), .val (.int p1), .unset, .unset, .unset, .unset, .unset, .unset, .unset] [(.ref bk)])) _
    refine XS.dup X13.here hx rfl (hb hby at_23) rfl rfl ?_
    show Steps p.tables e below (T13.setTop (mkF m 24 #[.val (.int p0), .val (.int p1), .unset, .unset, .unset, .unset, .unset, .unset, .unset] [(.ref bk), (.ref bk)])) _
    refine XS.iconst X13.here hx rfl (hb hby at_24) ?_
    show Steps p.tables e below (T13.setTop (mkF m 25 #[.val (.int p0), .val (.int p1), .unset, .unset, .unset, .unset, .unset, .unset, .unset] [(.int (3 : Int32)), (.ref bk), (.ref bk)])) _
    refine st14 _ ?_
    show Steps p.tables e below (T14.setTop (mkF m 28 #[.val (.int p0), .val (.int p1), .unset, .unset, .unset, .unset, .unset, .unset, .unset] [(.ref w3), (.int (3 : Int32)), (.ref bk), (.ref bk)])) _
    refine st16 _ ?_
    show Steps p.tables e below (T16.setTop (mkF m 29 #[.val (.int p0), .val (.int p1), .unset, .unset, .unset, .unset, .unset, .unset, .unset] [(.ref bk)])) _
    refine XS.dup X16.here hx rfl (hb hby at_29) rfl rfl ?_
    show Steps p.tables e below (T16.setTop (mkF m 30 #[.val (.int p0), .val (.int p1), .unset, .unset, .unset, .unset, .unset, .unset, .unset] [(.ref bk), (.ref bk)])) _
    refine XS.iconst X16.here hx rfl (hb hby at_30) ?_
    show Steps p.tables e below (T16.setTop (mkF m 31 #[.val (.int p0), .val (.int p1), .unset, .unset, .unset, .unset, .unset, .unset, .unset] [(.int (4 : Int32)), (.ref bk), (.ref bk)])) _
    refine st17 _ ?_
    show Steps p.tables e below (T17.setTop (mkF m 34 #[.val (.int p0), .val (.int p1), .unset, .unset, .unset, .unset, .unset, .unset, .unset] [(.ref w4), (.int (4 : Int32)), (.ref bk), (.ref bk)])) _
    refine st19 _ ?_
    show Steps p.tables e below (T19.setTop (mkF m 35 #[.val (.int p0), .val (.int p1), .unset, .unset, .unset, .unset, .unset, .unset, .unset] [(.ref bk)])) _
    refine XS.dup X19.here hx rfl (hb hby at_35) rfl rfl ?_
    show Steps p.tables e below (T19.setTop (mkF m 36 #[.val (.int p0), .val (.int p1), .unset, .unset, .unset, .unset, .unset, .unset, .unset] [(.ref bk), (.ref bk)])) _
    refine XS.iconst X19.here hx rfl (hb hby at_36) ?_
    show Steps p.tables e below (T19.setTop (mkF m 37 #[.val (.int p0), .val (.int p1), .unset, .unset, .unset, .unset, .unset, .unset, .unset] [(.int (5 : Int32)), (.ref bk), (.ref bk)])) _
    refine st20 _ ?_
    show Steps p.tables e below (T20.setTop (mkF m 40 #[.val (.int p0), .val (.int p1), .unset, .unset, .unset, .unset, .unset, .unset, .unset] [(.ref w5), (.int (5 : Int32)), (.ref bk), (.ref bk)])) _
    refine st22 _ ?_
    show Steps p.tables e below (T22.setTop (mkF m 41 #[.val (.int p0), .val (.int p1), .unset, .unset, .unset, .unset, .unset, .unset, .unset] [(.ref bk)])) _
    refine XS.dup X22.here hx rfl (hb hby at_41) rfl rfl ?_
    show Steps p.tables e below (T22.setTop (mkF m 42 #[.val (.int p0), .val (.int p1), .unset, .unset, .unset, .unset, .unset, .unset, .unset] [(.ref bk), (.ref bk)])) _
    refine XS.bipush X22.here hx rfl (hb hby at_42) ?_
    show Steps p.tables e below (T22.setTop (mkF m 44 #[.val (.int p0), .val (.int p1), .unset, .unset, .unset, .unset, .unset, .unset, .unset] [(.int (6 : Int32)), (.ref bk), (.ref bk)])) _
    refine st23 _ ?_
    show Steps p.tables e below (T23.setTop (mkF m 47 #[.val (.int p0), .val (.int p1), .unset, .unset, .unset, .unset, .unset, .unset, .unset] [(.ref w6), (.int (6 : Int32)), (.ref bk), (.ref bk)])) _
    refine st25 _ ?_
    show Steps p.tables e below (T25.setTop (mkF m 48 #[.val (.int p0), .val (.int p1), .unset, .unset, .unset, .unset, .unset, .unset, .unset] [(.ref bk)])) _
    refine XS.dup X25.here hx rfl (hb hby at_48) rfl rfl ?_
    show Steps p.tables e below (T25.setTop (mkF m 49 #[.val (.int p0), .val (.int p1), .unset, .unset, .unset, .unset, .unset, .unset, .unset] [(.ref bk), (.ref bk)])) _
    refine XS.bipush X25.here hx rfl (hb hby at_49) ?_
    show Steps p.tables e below (T25.setTop (mkF m 51 #[.val (.int p0), .val (.int p1), .unset, .unset, .unset, .unset, .unset, .unset, .unset] [(.int (7 : Int32)), (.ref bk), (.ref bk)])) _
    refine st26 _ ?_
    show Steps p.tables e below (T26.setTop (mkF m 54 #[.val (.int p0), .val (.int p1), .unset, .unset, .unset, .unset, .unset, .unset, .unset] [(.ref w7), (.int (7 : Int32)), (.ref bk), (.ref bk)])) _
    refine st28 _ ?_
    show Steps p.tables e below (T28.setTop (mkF m 55 #[.val (.int p0), .val (.int p1), .unset, .unset, .unset, .unset, .unset, .unset, .unset] [(.ref bk)])) _
    refine XS.dup X28.here hx rfl (hb hby at_55) rfl rfl ?_
    show Steps p.tables e below (T28.setTop (mkF m 56 #[.val (.int p0), .val (.int p1), .unset, .unset, .unset, .unset, .unset, .unset, .unset] [(.ref bk), (.ref bk)])) _
    refine XS.bipush X28.here hx rfl (hb hby at_56) ?_
    show Steps p.tables e below (T28.setTop (mkF m 58 #[.val (.int p0), .val (.int p1), .unset, .unset, .unset, .unset, .unset, .unset, .unset] [(.int (8 : Int32)), (.ref bk), (.ref bk)])) _
    refine st29 _ ?_
    show Steps p.tables e below (T29.setTop (mkF m 61 #[.val (.int p0), .val (.int p1), .unset, .unset, .unset, .unset, .unset, .unset, .unset] [(.ref w8), (.int (8 : Int32)), (.ref bk), (.ref bk)])) _
    refine st31 _ ?_
    show Steps p.tables e below (T31.setTop (mkF m 62 #[.val (.int p0), .val (.int p1), .unset, .unset, .unset, .unset, .unset, .unset, .unset] [(.ref bk)])) _
    refine XS.dup X31.here hx rfl (hb hby at_62) rfl rfl ?_
    show Steps p.tables e below (T31.setTop (mkF m 63 #[.val (.int p0), .val (.int p1), .unset, .unset, .unset, .unset, .unset, .unset, .unset] [(.ref bk), (.ref bk)])) _
    refine XS.bipush X31.here hx rfl (hb hby at_63) ?_
    show Steps p.tables e below (T31.setTop (mkF m 65 #[.val (.int p0), .val (.int p1), .unset, .unset, .unset, .unset, .unset, .unset, .unset] [(.int (9 : Int32)), (.ref bk), (.ref bk)])) _
    refine st32 _ ?_
    show Steps p.tables e below (T32.setTop (mkF m 68 #[.val (.int p0), .val (.int p1), .unset, .unset, .unset, .unset, .unset, .unset, .unset] [(.ref w9), (.int (9 : Int32)), (.ref bk), (.ref bk)])) _
    refine st34 _ ?_
    show Steps p.tables e below (T34.setTop (mkF m 69 #[.val (.int p0), .val (.int p1), .unset, .unset, .unset, .unset, .unset, .unset, .unset] [(.ref bk)])) _
    refine XS.dup X34.here hx rfl (hb hby at_69) rfl rfl ?_
    show Steps p.tables e below (T34.setTop (mkF m 70 #[.val (.int p0), .val (.int p1), .unset, .unset, .unset, .unset, .unset, .unset, .unset] [(.ref bk), (.ref bk)])) _
    refine XS.bipush X34.here hx rfl (hb hby at_70) ?_
    show Steps p.tables e below (T34.setTop (mkF m 72 #[.val (.int p0), .val (.int p1), .unset, .unset, .unset, .unset, .unset, .unset, .unset] [(.int (10 : Int32)), (.ref bk), (.ref bk)])) _
    refine st35 _ ?_
    show Steps p.tables e below (T35.setTop (mkF m 75 #[.val (.int p0), .val (.int p1), .unset, .unset, .unset, .unset, .unset, .unset, .unset] [(.ref w10), (.int (10 : Int32)), (.ref bk), (.ref bk)])) _
    refine st37 _ ?_
    show Steps p.tables e below (T37.setTop (mkF m 76 #[.val (.int p0), .val (.int p1), .unset, .unset, .unset, .unset, .unset, .unset, .unset] [(.ref bk)])) _
    refine XS.dup X37.here hx rfl (hb hby at_76) rfl rfl ?_
    show Steps p.tables e below (T37.setTop (mkF m 77 #[.val (.int p0), .val (.int p1), .unset, .unset, .unset, .unset, .unset, .unset, .unset] [(.ref bk), (.ref bk)])) _
    refine XS.bipush X37.here hx rfl (hb hby at_77) ?_
    show Steps p.tables e below (T37.setTop (mkF m 79 #[.val (.int p0), .val (.int p1), .unset, .unset, .unset, .unset, .unset, .unset, .unset] [(.int (11 : Int32)), (.ref bk), (.ref bk)])) _
    refine st38 _ ?_
    show Steps p.tables e below (T38.setTop (mkF m 82 #[.val (.int p0), .val (.int p1), .unset, .unset, .unset, .unset, .unset, .unset, .unset] [(.ref w11), (.int (11 : Int32)), (.ref bk), (.ref bk)])) _
    refine st40 _ ?_
    show Steps p.tables e below (T40.setTop (mkF m 83 #[.val (.int p0), .val (.int p1), .unset, .unset, .unset, .unset, .unset, .unset, .unset] [(.ref bk)])) _
    refine XS.dup X40.here hx rfl (hb hby at_83) rfl rfl ?_
    show Steps p.tables e below (T40.setTop (mkF m 84 #[.val (.int p0), .val (.int p1), .unset, .unset, .unset, .unset, .unset, .unset, .unset] [(.ref bk), (.ref bk)])) _
    refine XS.bipush X40.here hx rfl (hb hby at_84) ?_
    show Steps p.tables e below (T40.setTop (mkF m 86 #[.val (.int p0), .val (.int p1), .unset, .unset, .unset, .unset, .unset, .unset, .unset] [(.int (12 : Int32)), (.ref bk), (.ref bk)])) _
    refine st41 _ ?_
    show Steps p.tables e below (T41.setTop (mkF m 89 #[.val (.int p0), .val (.int p1), .unset, .unset, .unset, .unset, .unset, .unset, .unset] [(.ref w12), (.int (12 : Int32)), (.ref bk), (.ref bk)])) _
    refine st43 _ ?_
    show Steps p.tables e below (T43.setTop (mkF m 90 #[.val (.int p0), .val (.int p1), .unset, .unset, .unset, .unset, .unset, .unset, .unset] [(.ref bk)])) _
    refine XS.dup X43.here hx rfl (hb hby at_90) rfl rfl ?_
    show Steps p.tables e below (T43.setTop (mkF m 91 #[.val (.int p0), .val (.int p1), .unset, .unset, .unset, .unset, .unset, .unset, .unset] [(.ref bk), (.ref bk)])) _
    refine XS.bipush X43.here hx rfl (hb hby at_91) ?_
    show Steps p.tables e below (T43.setTop (mkF m 93 #[.val (.int p0), .val (.int p1), .unset, .unset, .unset, .unset, .unset, .unset, .unset] [(.int (13 : Int32)), (.ref bk), (.ref bk)])) _
    refine st44 _ ?_
    show Steps p.tables e below (T44.setTop (mkF m 96 #[.val (.int p0), .val (.int p1), .unset, .unset, .unset, .unset, .unset, .unset, .unset] [(.ref w13), (.int (13 : Int32)), (.ref bk), (.ref bk)])) _
    refine st46 _ ?_
    show Steps p.tables e below (T46.setTop (mkF m 97 #[.val (.int p0), .val (.int p1), .unset, .unset, .unset, .unset, .unset, .unset, .unset] [(.ref bk)])) _
    refine XS.dup X46.here hx rfl (hb hby at_97) rfl rfl ?_
    show Steps p.tables e below (T46.setTop (mkF m 98 #[.val (.int p0), .val (.int p1), .unset, .unset, .unset, .unset, .unset, .unset, .unset] [(.ref bk), (.ref bk)])) _
    refine XS.bipush X46.here hx rfl (hb hby at_98) ?_
    show Steps p.tables e below (T46.setTop (mkF m 100 #[.val (.int p0), .val (.int p1), .unset, .unset, .unset, .unset, .unset, .unset, .unset] [(.int (14 : Int32)), (.ref bk), (.ref bk)])) _
    refine st47 _ ?_
    show Steps p.tables e below (T47.setTop (mkF m 103 #[.val (.int p0), .val (.int p1), .unset, .unset, .unset, .unset, .unset, .unset, .unset] [(.ref w14), (.int (14 : Int32)), (.ref bk), (.ref bk)])) _
    refine st49 _ ?_
    show Steps p.tables e below (T49.setTop (mkF m 104 #[.val (.int p0), .val (.int p1), .unset, .unset, .unset, .unset, .unset, .unset, .unset] [(.ref bk)])) _
    refine XS.dup X49.here hx rfl (hb hby at_104) rfl rfl ?_
    show Steps p.tables e below (T49.setTop (mkF m 105 #[.val (.int p0), .val (.int p1), .unset, .unset, .unset, .unset, .unset, .unset, .unset] [(.ref bk), (.ref bk)])) _
    refine XS.bipush X49.here hx rfl (hb hby at_105) ?_
    show Steps p.tables e below (T49.setTop (mkF m 107 #[.val (.int p0), .val (.int p1), .unset, .unset, .unset, .unset, .unset, .unset, .unset] [(.int (15 : Int32)), (.ref bk), (.ref bk)])) _
    refine st50 _ ?_
    show Steps p.tables e below (T50.setTop (mkF m 110 #[.val (.int p0), .val (.int p1), .unset, .unset, .unset, .unset, .unset, .unset, .unset] [(.ref w15), (.int (15 : Int32)), (.ref bk), (.ref bk)])) _
    refine st52 _ ?_
    show Steps p.tables e below (T52.setTop (mkF m 111 #[.val (.int p0), .val (.int p1), .unset, .unset, .unset, .unset, .unset, .unset, .unset] [(.ref bk)])) _
    refine XS.dup X52.here hx rfl (hb hby at_111) rfl rfl ?_
    show Steps p.tables e below (T52.setTop (mkF m 112 #[.val (.int p0), .val (.int p1), .unset, .unset, .unset, .unset, .unset, .unset, .unset] [(.ref bk), (.ref bk)])) _
    refine XS.bipush X52.here hx rfl (hb hby at_112) ?_
    show Steps p.tables e below (T52.setTop (mkF m 114 #[.val (.int p0), .val (.int p1), .unset, .unset, .unset, .unset, .unset, .unset, .unset] [(.int (16 : Int32)), (.ref bk), (.ref bk)])) _
    refine st53 _ ?_
    show Steps p.tables e below (T53.setTop (mkF m 117 #[.val (.int p0), .val (.int p1), .unset, .unset, .unset, .unset, .unset, .unset, .unset] [(.ref w16), (.int (16 : Int32)), (.ref bk), (.ref bk)])) _
    refine st55 _ ?_
    show Steps p.tables e below (T55.setTop (mkF m 118 #[.val (.int p0), .val (.int p1), .unset, .unset, .unset, .unset, .unset, .unset, .unset] [(.ref bk)])) _
    refine XS.dup X55.here hx rfl (hb hby at_118) rfl rfl ?_
    show Steps p.tables e below (T55.setTop (mkF m 119 #[.val (.int p0), .val (.int p1), .unset, .unset, .unset, .unset, .unset, .unset, .unset] [(.ref bk), (.ref bk)])) _
    refine XS.bipush X55.here hx rfl (hb hby at_119) ?_
    show Steps p.tables e below (T55.setTop (mkF m 121 #[.val (.int p0), .val (.int p1), .unset, .unset, .unset, .unset, .unset, .unset, .unset] [(.int (17 : Int32)), (.ref bk), (.ref bk)])) _
    refine st56 _ ?_
    show Steps p.tables e below (T56.setTop (mkF m 124 #[.val (.int p0), .val (.int p1), .unset, .unset, .unset, .unset, .unset, .unset, .unset] [(.ref w17), (.int (17 : Int32)), (.ref bk), (.ref bk)])) _
    refine st58 _ ?_
    show Steps p.tables e below (T58.setTop (mkF m 125 #[.val (.int p0), .val (.int p1), .unset, .unset, .unset, .unset, .unset, .unset, .unset] [(.ref bk)])) _
    refine XS.dup X58.here hx rfl (hb hby at_125) rfl rfl ?_
    show Steps p.tables e below (T58.setTop (mkF m 126 #[.val (.int p0), .val (.int p1), .unset, .unset, .unset, .unset, .unset, .unset, .unset] [(.ref bk), (.ref bk)])) _
    refine XS.bipush X58.here hx rfl (hb hby at_126) ?_
    show Steps p.tables e below (T58.setTop (mkF m 128 #[.val (.int p0), .val (.int p1), .unset, .unset, .unset, .unset, .unset, .unset, .unset] [(.int (18 : Int32)), (.ref bk), (.ref bk)])) _
    refine st59 _ ?_
    show Steps p.tables e below (T59.setTop (mkF m 131 #[.val (.int p0), .val (.int p1), .unset, .unset, .unset, .unset, .unset, .unset, .unset] [(.ref w18), (.int (18 : Int32)), (.ref bk), (.ref bk)])) _
    refine st61 _ ?_
    show Steps p.tables e below (T61.setTop (mkF m 132 #[.val (.int p0), .val (.int p1), .unset, .unset, .unset, .unset, .unset, .unset, .unset] [(.ref bk)])) _
    refine XS.dup X61.here hx rfl (hb hby at_132) rfl rfl ?_
    show Steps p.tables e below (T61.setTop (mkF m 133 #[.val (.int p0), .val (.int p1), .unset, .unset, .unset, .unset, .unset, .unset, .unset] [(.ref bk), (.ref bk)])) _
    refine XS.bipush X61.here hx rfl (hb hby at_133) ?_
    show Steps p.tables e below (T61.setTop (mkF m 135 #[.val (.int p0), .val (.int p1), .unset, .unset, .unset, .unset, .unset, .unset, .unset] [(.int (19 : Int32)), (.ref bk), (.ref bk)])) _
    refine st62 _ ?_
    show Steps p.tables e below (T62.setTop (mkF m 138 #[.val (.int p0), .val (.int p1), .unset, .unset, .unset, .unset, .unset, .unset, .unset] [(.ref w19), (.int (19 : Int32)), (.ref bk), (.ref bk)])) _
    refine st64 _ ?_
    show Steps p.tables e below (T64.setTop (mkF m 139 #[.val (.int p0), .val (.int p1), .unset, .unset, .unset, .unset, .unset, .unset, .unset] [(.ref bk)])) _
    refine XS.dup X64.here hx rfl (hb hby at_139) rfl rfl ?_
    show Steps p.tables e below (T64.setTop (mkF m 140 #[.val (.int p0), .val (.int p1), .unset, .unset, .unset, .unset, .unset, .unset, .unset] [(.ref bk), (.ref bk)])) _
    refine XS.bipush X64.here hx rfl (hb hby at_140) ?_
    show Steps p.tables e below (T64.setTop (mkF m 142 #[.val (.int p0), .val (.int p1), .unset, .unset, .unset, .unset, .unset, .unset, .unset] [(.int (20 : Int32)), (.ref bk), (.ref bk)])) _
    refine st65 _ ?_
    show Steps p.tables e below (T65.setTop (mkF m 145 #[.val (.int p0), .val (.int p1), .unset, .unset, .unset, .unset, .unset, .unset, .unset] [(.ref w20), (.int (20 : Int32)), (.ref bk), (.ref bk)])) _
    refine st67 _ ?_
    show Steps p.tables e below (T67.setTop (mkF m 146 #[.val (.int p0), .val (.int p1), .unset, .unset, .unset, .unset, .unset, .unset, .unset] [(.ref bk)])) _
    refine XS.dup X67.here hx rfl (hb hby at_146) rfl rfl ?_
    show Steps p.tables e below (T67.setTop (mkF m 147 #[.val (.int p0), .val (.int p1), .unset, .unset, .unset, .unset, .unset, .unset, .unset] [(.ref bk), (.ref bk)])) _
    refine XS.bipush X67.here hx rfl (hb hby at_147) ?_
    show Steps p.tables e below (T67.setTop (mkF m 149 #[.val (.int p0), .val (.int p1), .unset, .unset, .unset, .unset, .unset, .unset, .unset] [(.int (21 : Int32)), (.ref bk), (.ref bk)])) _
    refine st68 _ ?_
    show Steps p.tables e below (T68.setTop (mkF m 152 #[.val (.int p0), .val (.int p1), .unset, .unset, .unset, .unset, .unset, .unset, .unset] [(.ref w21), (.int (21 : Int32)), (.ref bk), (.ref bk)])) _
    refine st70 _ ?_
    show Steps p.tables e below (T70.setTop (mkF m 153 #[.val (.int p0), .val (.int p1), .unset, .unset, .unset, .unset, .unset, .unset, .unset] [(.ref bk)])) _
    refine XS.astoreN X70.here hx rfl (hb hby at_153) rfl rfl (l' := #[.val (.int p0), .val (.int p1), .val (.ref bk), .unset, .unset, .unset, .unset, .unset, .unset]) rfl ?_
    show Steps p.tables e below (T70.setTop (mkF m 154 #[.val (.int p0), .val (.int p1), .val (.ref bk), .unset, .unset, .unset, .unset, .unset, .unset] [])) _
    refine XS.bipush X70.here hx rfl (hb hby at_154) ?_
    show Steps p.tables e below (T70.setTop (mkF m 156 #[.val (.int p0), .val (.int p1), .val (.ref bk), .unset, .unset, .unset, .unset, .unset, .unset] [(.int (22 : Int32))])) _
    refine st71 _ ?_
    show Steps p.tables e below (T71.setTop (mkF m 158 #[.val (.int p0), .val (.int p1), .val (.ref bk), .unset, .unset, .unset, .unset, .unset, .unset] [(.ref bi0)])) _
    refine XS.dup X71.here hx rfl (hb hby at_158) rfl rfl ?_
    show Steps p.tables e below (T71.setTop (mkF m 159 #[.val (.int p0), .val (.int p1), .val (.ref bk), .unset, .unset, .unset, .unset, .unset, .unset] [(.ref bi0), (.ref bi0)])) _
    refine XS.iconst X71.here hx rfl (hb hby at_159) ?_
    show Steps p.tables e below (T71.setTop (mkF m 160 #[.val (.int p0), .val (.int p1), .val (.ref bk), .unset, .unset, .unset, .unset, .unset, .unset] [(.int (0 : Int32)), (.ref bi0), (.ref bi0)])) _
    refine XS.iconst X71.here hx rfl (hb hby at_160) ?_
    show Steps p.tables e below (T71.setTop (mkF m 161 #[.val (.int p0), .val (.int p1), .val (.ref bk), .unset, .unset, .unset, .unset, .unset, .unset] [(.int (0 : Int32)), (.int (0 : Int32)), (.ref bi0), (.ref bi0)])) _
    refine st74 _ ?_
    show Steps p.tables e below (T74.setTop (mkF m 162 #[.val (.int p0), .val (.int p1), .val (.ref bk), .unset, .unset, .unset, .unset, .unset, .unset] [(.ref bi0)])) _
    refine XS.dup X74.here hx rfl (hb hby at_162) rfl rfl ?_
    show Steps p.tables e below (T74.setTop (mkF m 163 #[.val (.int p0), .val (.int p1), .val (.ref bk), .unset, .unset, .unset, .unset, .unset, .unset] [(.ref bi0), (.ref bi0)])) _
    refine XS.iconst X74.here hx rfl (hb hby at_163) ?_
    show Steps p.tables e below (T74.setTop (mkF m 164 #[.val (.int p0), .val (.int p1), .val (.ref bk), .unset, .unset, .unset, .unset, .unset, .unset] [(.int (1 : Int32)), (.ref bi0), (.ref bi0)])) _
    refine XS.iconst X74.here hx rfl (hb hby at_164) ?_
    show Steps p.tables e below (T74.setTop (mkF m 165 #[.val (.int p0), .val (.int p1), .val (.ref bk), .unset, .unset, .unset, .unset, .unset, .unset] [(.int (4 : Int32)), (.int (1 : Int32)), (.ref bi0), (.ref bi0)])) _
    refine st77 _ ?_
    show Steps p.tables e below (T77.setTop (mkF m 166 #[.val (.int p0), .val (.int p1), .val (.ref bk), .unset, .unset, .unset, .unset, .unset, .unset] [(.ref bi0)])) _
    refine XS.dup X77.here hx rfl (hb hby at_166) rfl rfl ?_
    show Steps p.tables e below (T77.setTop (mkF m 167 #[.val (.int p0), .val (.int p1), .val (.ref bk), .unset, .unset, .unset, .unset, .unset, .unset] [(.ref bi0), (.ref bi0)])) _
    refine XS.iconst X77.here hx rfl (hb hby at_167) ?_
    show Steps p.tables e below (T77.setTop (mkF m 168 #[.val (.int p0), .val (.int p1), .val (.ref bk), .unset, .unset, .unset, .unset, .unset, .unset] [(.int (2 : Int32)), (.ref bi0), (.ref bi0)])) _
    refine XS.iconst X77.here hx rfl (hb hby at_168) ?_
    show Steps p.tables e below (T77.setTop (mkF m 169 #[.val (.int p0), .val (.int p1), .val (.ref bk), .unset, .unset, .unset, .unset, .unset, .unset] [(.int (1 : Int32)), (.int (2 : Int32)), (.ref bi0), (.ref bi0)])) _
    refine st80 _ ?_
    show Steps p.tables e below (T80.setTop (mkF m 170 #[.val (.int p0), .val (.int p1), .val (.ref bk), .unset, .unset, .unset, .unset, .unset, .unset] [(.ref bi0)])) _
    refine XS.dup X80.here hx rfl (hb hby at_170) rfl rfl ?_
    show Steps p.tables e below (T80.setTop (mkF m 171 #[.val (.int p0), .val (.int p1), .val (.ref bk), .unset, .unset, .unset, .unset, .unset, .unset] [(.ref bi0), (.ref bi0)])) _
    refine XS.iconst X80.here hx rfl (hb hby at_171) ?_
    show Steps p.tables e below (T80.setTop (mkF m 172 #[.val (.int p0), .val (.int p1), .val (.ref bk), .unset, .unset, .unset, .unset, .unset, .unset] [(.int (3 : Int32)), (.ref bi0), (.ref bi0)])) _
    refine XS.iconst X80.here hx rfl (hb hby at_172) ?_
    show Steps p.tables e below (T80.setTop (mkF m 173 #[.val (.int p0), .val (.int p1), .val (.ref bk), .unset, .unset, .unset, .unset, .unset, .unset] [(.int (0 : Int32)), (.int (3 : Int32)), (.ref bi0), (.ref bi0)])) _
    refine st83 _ ?_
    show Steps p.tables e below (T83.setTop (mkF m 174 #[.val (.int p0), .val (.int p1), .val (.ref bk), .unset, .unset, .unset, .unset, .unset, .unset] [(.ref bi0)])) _
    refine XS.dup X83.here hx rfl (hb hby at_174) rfl rfl ?_
    show Steps p.tables e below (T83.setTop (mkF m 175 #[.val (.int p0), .val (.int p1), .val (.ref bk), .unset, .unset, .unset, .unset, .unset, .unset] [(.ref bi0), (.ref bi0)])) _
    refine XS.iconst X83.here hx rfl (hb hby at_175) ?_
    show Steps p.tables e below (T83.setTop (mkF m 176 #[.val (.int p0), .val (.int p1), .val (.ref bk), .unset, .unset, .unset, .unset, .unset, .unset] [(.int (4 : Int32)), (.ref bi0), (.ref bi0)])) _
    refine XS.iconst X83.here hx rfl (hb hby at_176) ?_
    show Steps p.tables e below (T83.setTop (mkF m 177 #[.val (.int p0), .val (.int p1), .val (.ref bk), .unset, .unset, .unset, .unset, .unset, .unset] [(.int (2 : Int32)), (.int (4 : Int32)), (.ref bi0), (.ref bi0)])) _
    refine st86 _ ?_
    show Steps p.tables e below (T86.setTop (mkF m 178 #[.val (.int p0), .val (.int p1), .val (.ref bk), .unset, .unset, .unset, .unset, .unset, .unset] [(.ref bi0)])) _
    refine XS.dup X86.here hx rfl (hb hby at_178) rfl rfl ?_
    show Steps p.tables e below (T86.setTop (mkF m 179 #[.val (.int p0), .val (.int p1), .val (.ref bk), .unset, .unset, .unset, .unset, .unset, .unset] [(.ref bi0), (.ref bi0)])) _
    refine XS.iconst X86.here hx rfl (hb hby at_179) ?_
    show Steps p.tables e below (T86.setTop (mkF m 180 #[.val (.int p0), .val (.int p1), .val (.ref bk), .unset, .unset, .unset, .unset, .unset, .unset] [(.int (5 : Int32)), (.ref bi0), (.ref bi0)])) _
    refine XS.iconst X86.here hx rfl (hb hby at_180) ?_
    show Steps p.tables e below (T86.setTop (mkF m 181 #[.val (.int p0), .val (.int p1), .val (.ref bk), .unset, .unset, .unset, .unset, .unset, .unset] [(.int (1 : Int32)), (.int (5 : Int32)), (.ref bi0), (.ref bi0)])) _
    refine st89 _ ?_
    show Steps p.tables e below (T89.setTop (mkF m 182 #[.val (.int p0), .val (.int p1), .val (.ref bk), .unset, .unset, .unset, .unset, .unset, .unset] [(.ref bi0)])) _
    refine XS.dup X89.here hx rfl (hb hby at_182) rfl rfl ?_
    show Steps p.tables e below (T89.setTop (mkF m 183 #[.val (.int p0), .val (.int p1), .val (.ref bk), .unset, .unset, .unset, .unset, .unset, .unset] [(.ref bi0), (.ref bi0)])) _
    refine XS.bipush X89.here hx rfl (hb hby at_183) ?_
    show Steps p.tables e below (T89.setTop (mkF m 185 #[.val (.int p0), .val (.int p1), .val (.ref bk), .unset, .unset, .unset, .unset, .unset, .unset] [(.int (6 : Int32)), (.ref bi0), (.ref bi0)])) _
    refine XS.iconst X89.here hx rfl (hb hby at_185) ?_
    show Steps p.tables e below (T89.setTop (mkF m 186 #[.val (.int p0), .val (.int p1), .val (.ref bk), .unset, .unset, .unset, .unset, .unset, .unset] [(.int (0 : Int32)), (.int (6 : Int32)), (.ref bi0), (.ref bi0)])) _
    refine st92 _ ?_
    show Steps p.tables e below (T92.setTop (mkF m 187 #[.val (.int p0), .val (.int p1), .val (.ref bk), .unset, .unset, .unset, .unset, .unset, .unset] [(.ref bi0)])) _
    refine XS.dup X92.here hx rfl (hb hby at_187) rfl rfl ?_
    show Steps p.tables e below (T92.setTop (mkF m 188 #[.val (.int p0), .val (.int p1), .val (.ref bk), .unset, .unset, .unset, .unset, .unset, .unset] [(.ref bi0), (.ref bi0)])) _
    refine XS.bipush X92.here hx rfl (hb hby at_188) ?_
    show Steps p.tables e below (T92.setTop (mkF m 190 #[.val (.int p0), .val (.int p1), .val (.ref bk), .unset, .unset, .unset, .unset, .unset, .unset] [(.int (7 : Int32)), (.ref bi0), (.ref bi0)])) _
    refine XS.iconst X92.here hx rfl (hb hby at_190) ?_
    show Steps p.tables e below (T92.setTop (mkF m 191 #[.val (.int p0), .val (.int p1), .val (.ref bk), .unset, .unset, .unset, .unset, .unset, .unset] [(.int (2 : Int32)), (.int (7 : Int32)), (.ref bi0), (.ref bi0)])) _
    refine st95 _ ?_
    show Steps p.tables e below (T95.setTop (mkF m 192 #[.val (.int p0), .val (.int p1), .val (.ref bk), .unset, .unset, .unset, .unset, .unset, .unset] [(.ref bi0)])) _
    refine XS.dup X95.here hx rfl (hb hby at_192) rfl rfl ?_
    show Steps p.tables e below (T95.setTop (mkF m 193 #[.val (.int p0), .val (.int p1), .val (.ref bk), .unset, .unset, .unset, .unset, .unset, .unset] [(.ref bi0), (.ref bi0)])) _
    refine XS.bipush X95.here hx rfl (hb hby at_193) ?_
    show Steps p.tables e below (T95.setTop (mkF m 195 #[.val (.int p0), .val (.int p1), .val (.ref bk), .unset, .unset, .unset, .unset, .unset, .unset] [(.int (8 : Int32)), (.ref bi0), (.ref bi0)])) _
    refine XS.iconst X95.here hx rfl (hb hby at_195) ?_
    show Steps p.tables e below (T95.setTop (mkF m 196 #[.val (.int p0), .val (.int p1), .val (.ref bk), .unset, .unset, .unset, .unset, .unset, .unset] [(.int (0 : Int32)), (.int (8 : Int32)), (.ref bi0), (.ref bi0)])) _
    refine st98 _ ?_
    show Steps p.tables e below (T98.setTop (mkF m 197 #[.val (.int p0), .val (.int p1), .val (.ref bk), .unset, .unset, .unset, .unset, .unset, .unset] [(.ref bi0)])) _
    refine XS.dup X98.here hx rfl (hb hby at_197) rfl rfl ?_
    show Steps p.tables e below (T98.setTop (mkF m 198 #[.val (.int p0), .val (.int p1), .val (.ref bk), .unset, .unset, .unset, .unset, .unset, .unset] [(.ref bi0), (.ref bi0)])) _
    refine XS.bipush X98.here hx rfl (hb hby at_198) ?_
    show Steps p.tables e below (T98.setTop (mkF m 200 #[.val (.int p0), .val (.int p1), .val (.ref bk), .unset, .unset, .unset, .unset, .unset, .unset] [(.int (9 : Int32)), (.ref bi0), (.ref bi0)])) _
    refine XS.iconst X98.here hx rfl (hb hby at_200) ?_
    show Steps p.tables e below (T98.setTop (mkF m 201 #[.val (.int p0), .val (.int p1), .val (.ref bk), .unset, .unset, .unset, .unset, .unset, .unset] [(.int (0 : Int32)), (.int (9 : Int32)), (.ref bi0), (.ref bi0)])) _
    refine st101 _ ?_
    show Steps p.tables e below (T101.setTop (mkF m 202 #[.val (.int p0), .val (.int p1), .val (.ref bk), .unset, .unset, .unset, .unset, .unset, .unset] [(.ref bi0)])) _
    refine XS.dup X101.here hx rfl (hb hby at_202) rfl rfl ?_
    show Steps p.tables e below (T101.setTop (mkF m 203 #[.val (.int p0), .val (.int p1), .val (.ref bk), .unset, .unset, .unset, .unset, .unset, .unset] [(.ref bi0), (.ref bi0)])) _
    refine XS.bipush X101.here hx rfl (hb hby at_203) ?_
    show Steps p.tables e below (T101.setTop (mkF m 205 #[.val (.int p0), .val (.int p1), .val (.ref bk), .unset, .unset, .unset, .unset, .unset, .unset] [(.int (10 : Int32)), (.ref bi0), (.ref bi0)])) _
    refine XS.iconst X101.here hx rfl (hb hby at_205) ?_
    show Steps p.tables e below (T101.setTop (mkF m 206 #[.val (.int p0), .val (.int p1), .val (.ref bk), .unset, .unset, .unset, .unset, .unset, .unset] [(.int (0 : Int32)), (.int (10 : Int32)), (.ref bi0), (.ref bi0)])) _
    refine st104 _ ?_
    show Steps p.tables e below (T104.setTop (mkF m 207 #[.val (.int p0), .val (.int p1), .val (.ref bk), .unset, .unset, .unset, .unset, .unset, .unset] [(.ref bi0)])) _
    refine XS.dup X104.here hx rfl (hb hby at_207) rfl rfl ?_
    show Steps p.tables e below (T104.setTop (mkF m 208 #[.val (.int p0), .val (.int p1), .val (.ref bk), .unset, .unset, .unset, .unset, .unset, .unset] [(.ref bi0), (.ref bi0)])) _
    refine XS.bipush X104.here hx rfl (hb hby at_208) ?_
    show Steps p.tables e below (T104.setTop (mkF m 210 #[.val (.int p0), .val (.int p1), .val (.ref bk), .unset, .unset, .unset, .unset, .unset, .unset] [(.int (11 : Int32)), (.ref bi0), (.ref bi0)])) _
    refine XS.iconst X104.here hx rfl (hb hby at_210) ?_
    show Steps p.tables e below (T104.setTop (mkF m 211 #[.val (.int p0), .val (.int p1), .val (.ref bk), .unset, .unset, .unset, .unset, .unset, .unset] [(.int (0 : Int32)), (.int (11 : Int32)), (.ref bi0), (.ref bi0)])) _
    refine st107 _ ?_
    show Steps p.tables e below (T107.setTop (mkF m 212 #[.val (.int p0), .val (.int p1), .val (.ref bk), .unset, .unset, .unset, .unset, .unset, .unset] [(.ref bi0)])) _
    refine XS.dup X107.here hx rfl (hb hby at_212) rfl rfl ?_
    show Steps p.tables e below (T107.setTop (mkF m 213 #[.val (.int p0), .val (.int p1), .val (.ref bk), .unset, .unset, .unset, .unset, .unset, .unset] [(.ref bi0), (.ref bi0)])) _
    refine XS.bipush X107.here hx rfl (hb hby at_213) ?_
    show Steps p.tables e below (T107.setTop (mkF m 215 #[.val (.int p0), .val (.int p1), .val (.ref bk), .unset, .unset, .unset, .unset, .unset, .unset] [(.int (12 : Int32)), (.ref bi0), (.ref bi0)])) _
    refine XS.iconst X107.here hx rfl (hb hby at_215) ?_
    show Steps p.tables e below (T107.setTop (mkF m 216 #[.val (.int p0), .val (.int p1), .val (.ref bk), .unset, .unset, .unset, .unset, .unset, .unset] [(.int (0 : Int32)), (.int (12 : Int32)), (.ref bi0), (.ref bi0)])) _
    refine st110 _ ?_
    show Steps p.tables e below (T110.setTop (mkF m 217 #[.val (.int p0), .val (.int p1), .val (.ref bk), .unset, .unset, .unset, .unset, .unset, .unset] [(.ref bi0)])) _
    refine XS.dup X110.here hx rfl (hb hby at_217) rfl rfl ?_
    show Steps p.tables e below (T110.setTop (mkF m 218 #[.val (.int p0), .val (.int p1), .val (.ref bk), .unset, .unset, .unset, .unset, .unset, .unset] [(.ref bi0), (.ref bi0)])) _
    refine XS.bipush X110.here hx rfl (hb hby at_218) ?_
    show Steps p.tables e below (T110.setTop (mkF m 220 #[.val (.int p0), .val (.int p1), .val (.ref bk), .unset, .unset, .unset, .unset, .unset, .unset] [(.int (13 : Int32)), (.ref bi0), (.ref bi0)])) _
    refine XS.iconst X110.here hx rfl (hb hby at_220) ?_
    show Steps p.tables e below (T110.setTop (mkF m 221 #[.val (.int p0), .val (.int p1), .val (.ref bk), .unset, .unset, .unset, .unset, .unset, .unset] [(.int (0 : Int32)), (.int (13 : Int32)), (.ref bi0), (.ref bi0)])) _
    refine st113 _ ?_
    show Steps p.tables e below (T113.setTop (mkF m 222 #[.val (.int p0), .val (.int p1), .val (.ref bk), .unset, .unset, .unset, .unset, .unset, .unset] [(.ref bi0)])) _
    refine XS.dup X113.here hx rfl (hb hby at_222) rfl rfl ?_
    show Steps p.tables e below (T113.setTop (mkF m 223 #[.val (.int p0), .val (.int p1), .val (.ref bk), .unset, .unset, .unset, .unset, .unset, .unset] [(.ref bi0), (.ref bi0)])) _
    refine XS.bipush X113.here hx rfl (hb hby at_223) ?_
    show Steps p.tables e below (T113.setTop (mkF m 225 #[.val (.int p0), .val (.int p1), .val (.ref bk), .unset, .unset, .unset, .unset, .unset, .unset] [(.int (14 : Int32)), (.ref bi0), (.ref bi0)])) _
    refine XS.iconst X113.here hx rfl (hb hby at_225) ?_
    show Steps p.tables e below (T113.setTop (mkF m 226 #[.val (.int p0), .val (.int p1), .val (.ref bk), .unset, .unset, .unset, .unset, .unset, .unset] [(.int (2 : Int32)), (.int (14 : Int32)), (.ref bi0), (.ref bi0)])) _
    refine st116 _ ?_
    show Steps p.tables e below (T116.setTop (mkF m 227 #[.val (.int p0), .val (.int p1), .val (.ref bk), .unset, .unset, .unset, .unset, .unset, .unset] [(.ref bi0)])) _
    refine XS.dup X116.here hx rfl (hb hby at_227) rfl rfl ?_
    show Steps p.tables e below (T116.setTop (mkF m 228 #[.val (.int p0), .val (.int p1), .val (.ref bk), .unset, .unset, .unset, .unset, .unset, .unset] [(.ref bi0), (.ref bi0)])) _
    refine XS.bipush X116.here hx rfl (hb hby at_228) ?_
    show Steps p.tables e below (T116.setTop (mkF m 230 #[.val (.int p0), .val (.int p1), .val (.ref bk), .unset, .unset, .unset, .unset, .unset, .unset] [(.int (15 : Int32)), (.ref bi0), (.ref bi0)])) _
    refine XS.iconst X116.here hx rfl (hb hby at_230) ?_
    show Steps p.tables e below (T116.setTop (mkF m 231 #[.val (.int p0), .val (.int p1), .val (.ref bk), .unset, .unset, .unset, .unset, .unset, .unset] [(.int (1 : Int32)), (.int (15 : Int32)), (.ref bi0), (.ref bi0)])) _
    refine st119 _ ?_
    show Steps p.tables e below (T119.setTop (mkF m 232 #[.val (.int p0), .val (.int p1), .val (.ref bk), .unset, .unset, .unset, .unset, .unset, .unset] [(.ref bi0)])) _
    refine XS.dup X119.here hx rfl (hb hby at_232) rfl rfl ?_
    show Steps p.tables e below (T119.setTop (mkF m 233 #[.val (.int p0), .val (.int p1), .val (.ref bk), .unset, .unset, .unset, .unset, .unset, .unset] [(.ref bi0), (.ref bi0)])) _
    refine XS.bipush X119.here hx rfl (hb hby at_233) ?_
    show Steps p.tables e below (T119.setTop (mkF m 235 #[.val (.int p0), .val (.int p1), .val (.ref bk), .unset, .unset, .unset, .unset, .unset, .unset] [(.int (16 : Int32)), (.ref bi0), (.ref bi0)])) _
    refine XS.iconst X119.here hx rfl (hb hby at_235) ?_
    show Steps p.tables e below (T119.setTop (mkF m 236 #[.val (.int p0), .val (.int p1), .val (.ref bk), .unset, .unset, .unset, .unset, .unset, .unset] [(.int (0 : Int32)), (.int (16 : Int32)), (.ref bi0), (.ref bi0)])) _
    refine st122 _ ?_
    show Steps p.tables e below (T122.setTop (mkF m 237 #[.val (.int p0), .val (.int p1), .val (.ref bk), .unset, .unset, .unset, .unset, .unset, .unset] [(.ref bi0)])) _
    refine XS.dup X122.here hx rfl (hb hby at_237) rfl rfl ?_
    show Steps p.tables e below (T122.setTop (mkF m 238 #[.val (.int p0), .val (.int p1), .val (.ref bk), .unset, .unset, .unset, .unset, .unset, .unset] [(.ref bi0), (.ref bi0)])) _
    refine XS.bipush X122.here hx rfl (hb hby at_238) ?_
    show Steps p.tables e below (T122.setTop (mkF m 240 #[.val (.int p0), .val (.int p1), .val (.ref bk), .unset, .unset, .unset, .unset, .unset, .unset] [(.int (17 : Int32)), (.ref bi0), (.ref bi0)])) _
    refine XS.iconst X122.here hx rfl (hb hby at_240) ?_
    show Steps p.tables e below (T122.setTop (mkF m 241 #[.val (.int p0), .val (.int p1), .val (.ref bk), .unset, .unset, .unset, .unset, .unset, .unset] [(.int (1 : Int32)), (.int (17 : Int32)), (.ref bi0), (.ref bi0)])) _
    refine st125 _ ?_
    show Steps p.tables e below (T125.setTop (mkF m 242 #[.val (.int p0), .val (.int p1), .val (.ref bk), .unset, .unset, .unset, .unset, .unset, .unset] [(.ref bi0)])) _
    refine XS.dup X125.here hx rfl (hb hby at_242) rfl rfl ?_
    show Steps p.tables e below (T125.setTop (mkF m 243 #[.val (.int p0), .val (.int p1), .val (.ref bk), .unset, .unset, .unset, .unset, .unset, .unset] [(.ref bi0), (.ref bi0)])) _
    refine XS.bipush X125.here hx rfl (hb hby at_243) ?_
    show Steps p.tables e below (T125.setTop (mkF m 245 #[.val (.int p0), .val (.int p1), .val (.ref bk), .unset, .unset, .unset, .unset, .unset, .unset] [(.int (18 : Int32)), (.ref bi0), (.ref bi0)])) _
    refine XS.iconst X125.here hx rfl (hb hby at_245) ?_
    show Steps p.tables e below (T125.setTop (mkF m 246 #[.val (.int p0), .val (.int p1), .val (.ref bk), .unset, .unset, .unset, .unset, .unset, .unset] [(.int (0 : Int32)), (.int (18 : Int32)), (.ref bi0), (.ref bi0)])) _
    refine st128 _ ?_
    show Steps p.tables e below (T128.setTop (mkF m 247 #[.val (.int p0), .val (.int p1), .val (.ref bk), .unset, .unset, .unset, .unset, .unset, .unset] [(.ref bi0)])) _
    refine XS.dup X128.here hx rfl (hb hby at_247) rfl rfl ?_
    show Steps p.tables e below (T128.setTop (mkF m 248 #[.val (.int p0), .val (.int p1), .val (.ref bk), .unset, .unset, .unset, .unset, .unset, .unset] [(.ref bi0), (.ref bi0)])) _
    refine XS.bipush X128.here hx rfl (hb hby at_248) ?_
    show Steps p.tables e below (T128.setTop (mkF m 250 #[.val (.int p0), .val (.int p1), .val (.ref bk), .unset, .unset, .unset, .unset, .unset, .unset] [(.int (19 : Int32)), (.ref bi0), (.ref bi0)])) _
    refine XS.iconst X128.here hx rfl (hb hby at_250) ?_
    show Steps p.tables e below (T128.setTop (mkF m 251 #[.val (.int p0), .val (.int p1), .val (.ref bk), .unset, .unset, .unset, .unset, .unset, .unset] [(.int (0 : Int32)), (.int (19 : Int32)), (.ref bi0), (.ref bi0)])) _
    refine st131 _ ?_
    show Steps p.tables e below (T131.setTop (mkF m 252 #[.val (.int p0), .val (.int p1), .val (.ref bk), .unset, .unset, .unset, .unset, .unset, .unset] [(.ref bi0)])) _
    refine XS.dup X131.here hx rfl (hb hby at_252) rfl rfl ?_
    show Steps p.tables e below (T131.setTop (mkF m 253 #[.val (.int p0), .val (.int p1), .val (.ref bk), .unset, .unset, .unset, .unset, .unset, .unset] [(.ref bi0), (.ref bi0)])) _
    refine XS.bipush X131.here hx rfl (hb hby at_253) ?_
    show Steps p.tables e below (T131.setTop (mkF m 255 #[.val (.int p0), .val (.int p1), .val (.ref bk), .unset, .unset, .unset, .unset, .unset, .unset] [(.int (20 : Int32)), (.ref bi0), (.ref bi0)])) _
    refine XS.iconst X131.here hx rfl (hb hby at_255) ?_
    show Steps p.tables e below (T131.setTop (mkF m 256 #[.val (.int p0), .val (.int p1), .val (.ref bk), .unset, .unset, .unset, .unset, .unset, .unset] [(.int (0 : Int32)), (.int (20 : Int32)), (.ref bi0), (.ref bi0)])) _
    refine st134 _ ?_
    show Steps p.tables e below (T134.setTop (mkF m 257 #[.val (.int p0), .val (.int p1), .val (.ref bk), .unset, .unset, .unset, .unset, .unset, .unset] [(.ref bi0)])) _
    refine XS.dup X134.here hx rfl (hb hby at_257) rfl rfl ?_
    show Steps p.tables e below (T134.setTop (mkF m 258 #[.val (.int p0), .val (.int p1), .val (.ref bk), .unset, .unset, .unset, .unset, .unset, .unset] [(.ref bi0), (.ref bi0)])) _
    refine XS.bipush X134.here hx rfl (hb hby at_258) ?_
    show Steps p.tables e below (T134.setTop (mkF m 260 #[.val (.int p0), .val (.int p1), .val (.ref bk), .unset, .unset, .unset, .unset, .unset, .unset] [(.int (21 : Int32)), (.ref bi0), (.ref bi0)])) _
    refine XS.iconst X134.here hx rfl (hb hby at_260) ?_
    show Steps p.tables e below (T134.setTop (mkF m 261 #[.val (.int p0), .val (.int p1), .val (.ref bk), .unset, .unset, .unset, .unset, .unset, .unset] [(.int (0 : Int32)), (.int (21 : Int32)), (.ref bi0), (.ref bi0)])) _
    refine st137 _ ?_
    show Steps p.tables e below (T137.setTop (mkF m 262 #[.val (.int p0), .val (.int p1), .val (.ref bk), .unset, .unset, .unset, .unset, .unset, .unset] [(.ref bi0)])) _
    refine XS.astoreN X137.here hx rfl (hb hby at_262) rfl rfl (l' := #[.val (.int p0), .val (.int p1), .val (.ref bk), .val (.ref bi0), .unset, .unset, .unset, .unset, .unset]) rfl ?_
    show Steps p.tables e below (T137.setTop (mkF m 263 #[.val (.int p0), .val (.int p1), .val (.ref bk), .val (.ref bi0), .unset, .unset, .unset, .unset, .unset] [])) _
    refine XS.bipush X137.here hx rfl (hb hby at_263) ?_
    show Steps p.tables e below (T137.setTop (mkF m 265 #[.val (.int p0), .val (.int p1), .val (.ref bk), .val (.ref bi0), .unset, .unset, .unset, .unset, .unset] [(.int (22 : Int32))])) _
    refine st139 _ ?_
    show Steps p.tables e below (T139.setTop (mkF m 267 #[.val (.int p0), .val (.int p1), .val (.ref bk), .val (.ref bi0), .unset, .unset, .unset, .unset, .unset] [(.ref bi1)])) _
    refine XS.dup X139.here hx rfl (hb hby at_267) rfl rfl ?_
    show Steps p.tables e below (T139.setTop (mkF m 268 #[.val (.int p0), .val (.int p1), .val (.ref bk), .val (.ref bi0), .unset, .unset, .unset, .unset, .unset] [(.ref bi1), (.ref bi1)])) _
    refine XS.iconst X139.here hx rfl (hb hby at_268) ?_
    show Steps p.tables e below (T139.setTop (mkF m 269 #[.val (.int p0), .val (.int p1), .val (.ref bk), .val (.ref bi0), .unset, .unset, .unset, .unset, .unset] [(.int (0 : Int32)), (.ref bi1), (.ref bi1)])) _
    refine XS.bipush X139.here hx rfl (hb hby at_269) ?_
    show Steps p.tables e below (T139.setTop (mkF m 271 #[.val (.int p0), .val (.int p1), .val (.ref bk), .val (.ref bi0), .unset, .unset, .unset, .unset, .unset] [(.int (7 : Int32)), (.int (0 : Int32)), (.ref bi1), (.ref bi1)])) _
    refine st143 _ ?_
    show Steps p.tables e below (T143.setTop (mkF m 272 #[.val (.int p0), .val (.int p1), .val (.ref bk), .val (.ref bi0), .unset, .unset, .unset, .unset, .unset] [(.ref bi1)])) _
    refine XS.dup X143.here hx rfl (hb hby at_272) rfl rfl ?_
    show Steps p.tables e below (T143.setTop (mkF m 273 #[.val (.int p0), .val (.int p1), .val (.ref bk), .val (.ref bi0), .unset, .unset, .unset, .unset, .unset] [(.ref bi1), (.ref bi1)])) _
    refine XS.iconst X143.here hx rfl (hb hby at_273) ?_
    show Steps p.tables e below (T143.setTop (mkF m 274 #[.val (.int p0), .val (.int p1), .val (.ref bk), .val (.ref bi0), .unset, .unset, .unset, .unset, .unset] [(.int (1 : Int32)), (.ref bi1), (.ref bi1)])) _
    refine XS.bipush X143.here hx rfl (hb hby at_274) ?_
    show Steps p.tables e below (T143.setTop (mkF m 276 #[.val (.int p0), .val (.int p1), .val (.ref bk), .val (.ref bi0), .unset, .unset, .unset, .unset, .unset] [(.int (11 : Int32)), (.int (1 : Int32)), (.ref bi1), (.ref bi1)])) _
    refine st147 _ ?_
    show Steps p.tables e below (T147.setTop (mkF m 277 #[.val (.int p0), .val (.int p1), .val (.ref bk), .val (.ref bi0), .unset, .unset, .unset, .unset, .unset] [(.ref bi1)])) _
    refine XS.dup X147.here hx rfl (hb hby at_277) rfl rfl ?_
    show Steps p.tables e below (T147.setTop (mkF m 278 #[.val (.int p0), .val (.int p1), .val (.ref bk), .val (.ref bi0), .unset, .unset, .unset, .unset, .unset] [(.ref bi1), (.ref bi1)])) _
    refine XS.iconst X147.here hx rfl (hb hby at_278) ?_
    show Steps p.tables e below (T147.setTop (mkF m 279 #[.val (.int p0), .val (.int p1), .val (.ref bk), .val (.ref bi0), .unset, .unset, .unset, .unset, .unset] [(.int (2 : Int32)), (.ref bi1), (.ref bi1)])) _
    refine XS.iconst X147.here hx rfl (hb hby at_279) ?_
    show Steps p.tables e below (T147.setTop (mkF m 280 #[.val (.int p0), .val (.int p1), .val (.ref bk), .val (.ref bi0), .unset, .unset, .unset, .unset, .unset] [(.int (2 : Int32)), (.int (2 : Int32)), (.ref bi1), (.ref bi1)])) _
    refine st151 _ ?_
    show Steps p.tables e below (T151.setTop (mkF m 281 #[.val (.int p0), .val (.int p1), .val (.ref bk), .val (.ref bi0), .unset, .unset, .unset, .unset, .unset] [(.ref bi1)])) _
    refine XS.dup X151.here hx rfl (hb hby at_281) rfl rfl ?_
    show Steps p.tables e below (T151.setTop (mkF m 282 #[.val (.int p0), .val (.int p1), .val (.ref bk), .val (.ref bi0), .unset, .unset, .unset, .unset, .unset] [(.ref bi1), (.ref bi1)])) _
    refine XS.iconst X151.here hx rfl (hb hby at_282) ?_
    show Steps p.tables e below (T151.setTop (mkF m 283 #[.val (.int p0), .val (.int p1), .val (.ref bk), .val (.ref bi0), .unset, .unset, .unset, .unset, .unset] [(.int (3 : Int32)), (.ref bi1), (.ref bi1)])) _
    refine XS.iconst X151.here hx rfl (hb hby at_283) ?_
    show Steps p.tables e below (T151.setTop (mkF m 284 #[.val (.int p0), .val (.int p1), .val (.ref bk), .val (.ref bi0), .unset, .unset, .unset, .unset, .unset] [(.int (5 : Int32)), (.int (3 : Int32)), (.ref bi1), (.ref bi1)])) _
    refine st155 _ ?_
    show Steps p.tables e below (T155.setTop (mkF m 285 #[.val (.int p0), .val (.int p1), .val (.ref bk), .val (.ref bi0), .unset, .unset, .unset, .unset, .unset] [(.ref bi1)])) _
    refine XS.dup X155.here hx rfl (hb hby at_285) rfl rfl ?_
    show Steps p.tables e below (T155.setTop (mkF m 286 #[.val (.int p0), .val (.int p1), .val (.ref bk), .val (.ref bi0), .unset, .unset, .unset, .unset, .unset] [(.ref bi1), (.ref bi1)])) _
    refine XS.iconst X155.here hx rfl (hb hby at_286) ?_
    show Steps p.tables e below (T155.setTop (mkF m 287 #[.val (.int p0), .val (.int p1), .val (.ref bk), .val (.ref bi0), .unset, .unset, .unset, .unset, .unset] [(.int (4 : Int32)), (.ref bi1), (.ref bi1)])) _
    refine XS.bipush X155.here hx rfl (hb hby at_287) ?_
    show Steps p.tables e below (T155.setTop (mkF m 289 #[.val (.int p0), .val (.int p1), .val (.ref bk), .val (.ref bi0), .unset, .unset, .unset, .unset, .unset] [(.int (7 : Int32)), (.int (4 : Int32)), (.ref bi1), (.ref bi1)])) _
    refine st159 _ ?_
    show Steps p.tables e below (T159.setTop (mkF m 290 #[.val (.int p0), .val (.int p1), .val (.ref bk), .val (.ref bi0), .unset, .unset, .unset, .unset, .unset] [(.ref bi1)])) _
    refine XS.dup X159.here hx rfl (hb hby at_290) rfl rfl ?_
    show Steps p.tables e below (T159.setTop (mkF m 291 #[.val (.int p0), .val (.int p1), .val (.ref bk), .val (.ref bi0), .unset, .unset, .unset, .unset, .unset] [(.ref bi1), (.ref bi1)])) _
    refine XS.iconst X159.here hx rfl (hb hby at_291) ?_
    show Steps p.tables e below (T159.setTop (mkF m 292 #[.val (.int p0), .val (.int p1), .val (.ref bk), .val (.ref bi0), .unset, .unset, .unset, .unset, .unset] [(.int (5 : Int32)), (.ref bi1), (.ref bi1)])) _
    refine XS.iconst X159.here hx rfl (hb hby at_292) ?_
    show Steps p.tables e below (T159.setTop (mkF m 293 #[.val (.int p0), .val (.int p1), .val (.ref bk), .val (.ref bi0), .unset, .unset, .unset, .unset, .unset] [(.int (5 : Int32)), (.int (5 : Int32)), (.ref bi1), (.ref bi1)])) _
    refine st163 _ ?_
    show Steps p.tables e below (T163.setTop (mkF m 294 #[.val (.int p0), .val (.int p1), .val (.ref bk), .val (.ref bi0), .unset, .unset, .unset, .unset, .unset] [(.ref bi1)])) _
    refine XS.dup X163.here hx rfl (hb hby at_294) rfl rfl ?_
    show Steps p.tables e below (T163.setTop (mkF m 295 #[.val (.int p0), .val (.int p1), .val (.ref bk), .val (.ref bi0), .unset, .unset, .unset, .unset, .unset] [(.ref bi1), (.ref bi1)])) _
    refine XS.bipush X163.here hx rfl (hb hby at_295) ?_
    show Steps p.tables e below (T163.setTop (mkF m 297 #[.val (.int p0), .val (.int p1), .val (.ref bk), .val (.ref bi0), .unset, .unset, .unset, .unset, .unset] [(.int (6 : Int32)), (.ref bi1), (.ref bi1)])) _
    refine XS.iconst X163.here hx rfl (hb hby at_297) ?_
    show Steps p.tables e below (T163.setTop (mkF m 298 #[.val (.int p0), .val (.int p1), .val (.ref bk), .val (.ref bi0), .unset, .unset, .unset, .unset, .unset] [(.int (2 : Int32)), (.int (6 : Int32)), (.ref bi1), (.ref bi1)])) _
    refine st167 _ ?_
    show Steps p.tables e below (T167.setTop (mkF m 299 #[.val (.int p0), .val (.int p1), .val (.ref bk), .val (.ref bi0), .unset, .unset, .unset, .unset, .unset] [(.ref bi1)])) _
    refine XS.dup X167.here hx rfl (hb hby at_299) rfl rfl ?_
    show Steps p.tables e below (T167.setTop (mkF m 300 #[.val (.int p0), .val (.int p1), .val (.ref bk), .val (.ref bi0), .unset, .unset, .unset, .unset, .unset] [(.ref bi1), (.ref bi1)])) _
    refine XS.bipush X167.here hx rfl (hb hby at_300) ?_
    show Steps p.tables e below (T167.setTop (mkF m 302 #[.val (.int p0), .val (.int p1), .val (.ref bk), .val (.ref bi0), .unset, .unset, .unset, .unset, .unset] [(.int (7 : Int32)), (.ref bi1), (.ref bi1)])) _
    refine XS.iconst X167.here hx rfl (hb hby at_302) ?_
    show Steps p.tables e below (T167.setTop (mkF m 303 #[.val (.int p0), .val (.int p1), .val (.ref bk), .val (.ref bi0), .unset, .unset, .unset, .unset, .unset] [(.int (5 : Int32)), (.int (7 : Int32)), (.ref bi1), (.ref bi1)])) _
    refine st171 _ ?_
    show Steps p.tables e below (T171.setTop (mkF m 304 #[.val (.int p0), .val (.int p1), .val (.ref bk), .val (.ref bi0), .unset, .unset, .unset, .unset, .unset] [(.ref bi1)])) _
    refine XS.dup X171.here hx rfl (hb hby at_304) rfl rfl ?_
    show Steps p.tables e below (T171.setTop (mkF m 305 #[.val (.int p0), .val (.int p1), .val (.ref bk), .val (.ref bi0), .unset, .unset, .unset, .unset, .unset] [(.ref bi1), (.ref bi1)])) _
    refine XS.bipush X171.here hx rfl (hb hby at_305) ?_
    show Steps p.tables e below (T171.setTop (mkF m 307 #[.val (.int p0), .val (.int p1), .val (.ref bk), .val (.ref bi0), .unset, .unset, .unset, .unset, .unset] [(.int (8 : Int32)), (.ref bi1), (.ref bi1)])) _
    refine XS.iconst X171.here hx rfl (hb hby at_307) ?_
    show Steps p.tables e below (T171.setTop (mkF m 308 #[.val (.int p0), .val (.int p1), .val (.ref bk), .val (.ref bi0), .unset, .unset, .unset, .unset, .unset] [(.int (3 : Int32)), (.int (8 : Int32)), (.ref bi1), (.ref bi1)])) _
    refine st175 _ ?_
    show Steps p.tables e below (T175.setTop (mkF m 309 #[.val (.int p0), .val (.int p1), .val (.ref bk), .val (.ref bi0), .unset, .unset, .unset, .unset, .unset] [(.ref bi1)])) _
    refine XS.dup X175.here hx rfl (hb hby at_309) rfl rfl ?_
    show Steps p.tables e below (T175.setTop (mkF m 310 #[.val (.int p0), .val (.int p1), .val (.ref bk), .val (.ref bi0), .unset, .unset, .unset, .unset, .unset] [(.ref bi1), (.ref bi1)])) _
    refine XS.bipush X175.here hx rfl (hb hby at_310) ?_
    show Steps p.tables e below (T175.setTop (mkF m 312 #[.val (.int p0), .val (.int p1), .val (.ref bk), .val (.ref bi0), .unset, .unset, .unset, .unset, .unset] [(.int (9 : Int32)), (.ref bi1), (.ref bi1)])) _
    refine XS.iconst X175.here hx rfl (hb hby at_312) ?_
    show Steps p.tables e below (T175.setTop (mkF m 313 #[.val (.int p0), .val (.int p1), .val (.ref bk), .val (.ref bi0), .unset, .unset, .unset, .unset, .unset] [(.int (1 : Int32)), (.int (9 : Int32)), (.ref bi1), (.ref bi1)])) _
    refine st179 _ ?_
    show Steps p.tables e below (T179.setTop (mkF m 314 #[.val (.int p0), .val (.int p1), .val (.ref bk), .val (.ref bi0), .unset, .unset, .unset, .unset, .unset] [(.ref bi1)])) _
    refine XS.dup X179.here hx rfl (hb hby at_314) rfl rfl ?_
    show Steps p.tables e below (T179.setTop (mkF m 315 #[.val (.int p0), .val (.int p1), .val (.ref bk), .val (.ref bi0), .unset, .unset, .unset, .unset, .unset] [(.ref bi1), (.ref bi1)])) _
    refine XS.bipush X179.here hx rfl (hb hby at_315) ?_
    show Steps p.tables e below (T179.setTop (mkF m 317 #[.val (.int p0), .val (.int p1), .val (.ref bk), .val (.ref bi0), .unset, .unset, .unset, .unset, .unset] [(.int (10 : Int32)), (.ref bi1), (.ref bi1)])) _
    refine XS.iconst X179.here hx rfl (hb hby at_317) ?_
    show Steps p.tables e below (T179.setTop (mkF m 318 #[.val (.int p0), .val (.int p1), .val (.ref bk), .val (.ref bi0), .unset, .unset, .unset, .unset, .unset] [(.int (3 : Int32)), (.int (10 : Int32)), (.ref bi1), (.ref bi1)])) _
    refine st183 _ ?_
    show Steps p.tables e below (T183.setTop (mkF m 319 #[.val (.int p0), .val (.int p1), .val (.ref bk), .val (.ref bi0), .unset, .unset, .unset, .unset, .unset] [(.ref bi1)])) _
    refine XS.dup X183.here hx rfl (hb hby at_319) rfl rfl ?_
    show Steps p.tables e below (T183.setTop (mkF m 320 #[.val (.int p0), .val (.int p1), .val (.ref bk), .val (.ref bi0), .unset, .unset, .unset, .unset, .unset] [(.ref bi1), (.ref bi1)])) _
    refine XS.bipush X183.here hx rfl (hb hby at_320) ?_
    show Steps p.tables e below (T183.setTop (mkF m 322 #[.val (.int p0), .val (.int p1), .val (.ref bk), .val (.ref bi0), .unset, .unset, .unset, .unset, .unset] [(.int (11 : Int32)), (.ref bi1), (.ref bi1)])) _
    refine XS.iconst X183.here hx rfl (hb hby at_322) ?_
    show Steps p.tables e below (T183.setTop (mkF m 323 #[.val (.int p0), .val (.int p1), .val (.ref bk), .val (.ref bi0), .unset, .unset, .unset, .unset, .unset] [(.int (4 : Int32)), (.int (11 : Int32)), (.ref bi1), (.ref bi1)])) _
    refine st187 _ ?_
    show Steps p.tables e below (T187.setTop (mkF m 324 #[.val (.int p0), .val (.int p1), .val (.ref bk), .val (.ref bi0), .unset, .unset, .unset, .unset, .unset] [(.ref bi1)])) _
    refine XS.dup X187.here hx rfl (hb hby at_324) rfl rfl ?_
    show Steps p.tables e below (T187.setTop (mkF m 325 #[.val (.int p0), .val (.int p1), .val (.ref bk), .val (.ref bi0), .unset, .unset, .unset, .unset, .unset] [(.ref bi1), (.ref bi1)])) _
    refine XS.bipush X187.here hx rfl (hb hby at_325) ?_
    show Steps p.tables e below (T187.setTop (mkF m 327 #[.val (.int p0), .val (.int p1), .val (.ref bk), .val (.ref bi0), .unset, .unset, .unset, .unset, .unset] [(.int (12 : Int32)), (.ref bi1), (.ref bi1)])) _
    refine XS.iconst X187.here hx rfl (hb hby at_327) ?_
    show Steps p.tables e below (T187.setTop (mkF m 328 #[.val (.int p0), .val (.int p1), .val (.ref bk), .val (.ref bi0), .unset, .unset, .unset, .unset, .unset] [(.int (2 : Int32)), (.int (12 : Int32)), (.ref bi1), (.ref bi1)])) _
    refine st191 _ ?_
    show Steps p.tables e below (T191.setTop (mkF m 329 #[.val (.int p0), .val (.int p1), .val (.ref bk), .val (.ref bi0), .unset, .unset, .unset, .unset, .unset] [(.ref bi1)])) _
    refine XS.dup X191.here hx rfl (hb hby at_329) rfl rfl ?_
    show Steps p.tables e below (T191.setTop (mkF m 330 #[.val (.int p0), .val (.int p1), .val (.ref bk), .val (.ref bi0), .unset, .unset, .unset, .unset, .unset] [(.ref bi1), (.ref bi1)])) _
    refine XS.bipush X191.here hx rfl (hb hby at_330) ?_
    show Steps p.tables e below (T191.setTop (mkF m 332 #[.val (.int p0), .val (.int p1), .val (.ref bk), .val (.ref bi0), .unset, .unset, .unset, .unset, .unset] [(.int (13 : Int32)), (.ref bi1), (.ref bi1)])) _
    refine XS.iconst X191.here hx rfl (hb hby at_332) ?_
    show Steps p.tables e below (T191.setTop (mkF m 333 #[.val (.int p0), .val (.int p1), .val (.ref bk), .val (.ref bi0), .unset, .unset, .unset, .unset, .unset] [(.int (3 : Int32)), (.int (13 : Int32)), (.ref bi1), (.ref bi1)])) _
    refine st195 _ ?_
    show Steps p.tables e below (T195.setTop (mkF m 334 #[.val (.int p0), .val (.int p1), .val (.ref bk), .val (.ref bi0), .unset, .unset, .unset, .unset, .unset] [(.ref bi1)])) _
    refine XS.dup X195.here hx rfl (hb hby at_334) rfl rfl ?_
    show Steps p.tables e below (T195.setTop (mkF m 335 #[.val (.int p0), .val (.int p1), .val (.ref bk), .val (.ref bi0), .unset, .unset, .unset, .unset, .unset] [(.ref bi1), (.ref bi1)])) _
    refine XS.bipush X195.here hx rfl (hb hby at_335) ?_
    show Steps p.tables e below (T195.setTop (mkF m 337 #[.val (.int p0), .val (.int p1), .val (.ref bk), .val (.ref bi0), .unset, .unset, .unset, .unset, .unset] [(.int (14 : Int32)), (.ref bi1), (.ref bi1)])) _
    refine XS.iconst X195.here hx rfl (hb hby at_337) ?_
    show Steps p.tables e below (T195.setTop (mkF m 338 #[.val (.int p0), .val (.int p1), .val (.ref bk), .val (.ref bi0), .unset, .unset, .unset, .unset, .unset] [(.int (4 : Int32)), (.int (14 : Int32)), (.ref bi1), (.ref bi1)])) _
    refine st199 _ ?_
    show Steps p.tables e below (T199.setTop (mkF m 339 #[.val (.int p0), .val (.int p1), .val (.ref bk), .val (.ref bi0), .unset, .unset, .unset, .unset, .unset] [(.ref bi1)])) _
    refine XS.dup X199.here hx rfl (hb hby at_339) rfl rfl ?_
    show Steps p.tables e below (T199.setTop (mkF m 340 #[.val (.int p0), .val (.int p1), .val (.ref bk), .val (.ref bi0), .unset, .unset, .unset, .unset, .unset] [(.ref bi1), (.ref bi1)])) _
    refine XS.bipush X199.here hx rfl (hb hby at_340) ?_
    show Steps p.tables e below (T199.setTop (mkF m 342 #[.val (.int p0), .val (.int p1), .val (.ref bk), .val (.ref bi0), .unset, .unset, .unset, .unset, .unset] [(.int (15 : Int32)), (.ref bi1), (.ref bi1)])) _
    refine XS.iconst X199.here hx rfl (hb hby at_342) ?_
    show Steps p.tables e below (T199.setTop (mkF m 343 #[.val (.int p0), .val (.int p1), .val (.ref bk), .val (.ref bi0), .unset, .unset, .unset, .unset, .unset] [(.int (3 : Int32)), (.int (15 : Int32)), (.ref bi1), (.ref bi1)])) _
    refine st203 _ ?_
    show Steps p.tables e below (T203.setTop (mkF m 344 #[.val (.int p0), .val (.int p1), .val (.ref bk), .val (.ref bi0), .unset, .unset, .unset, .unset, .unset] [(.ref bi1)])) _
    refine XS.dup X203.here hx rfl (hb hby at_344) rfl rfl ?_
    show Steps p.tables e below (T203.setTop (mkF m 345 #[.val (.int p0), .val (.int p1), .val (.ref bk), .val (.ref bi0), .unset, .unset, .unset, .unset, .unset] [(.ref bi1), (.ref bi1)])) _
    refine XS.bipush X203.here hx rfl (hb hby at_345) ?_
    show Steps p.tables e below (T203.setTop (mkF m 347 #[.val (.int p0), .val (.int p1), .val (.ref bk), .val (.ref bi0), .unset, .unset, .unset, .unset, .unset] [(.int (16 : Int32)), (.ref bi1), (.ref bi1)])) _
    refine XS.iconst X203.here hx rfl (hb hby at_347) ?_
    show Steps p.tables e below (T203.setTop (mkF m 348 #[.val (.int p0), .val (.int p1), .val (.ref bk), .val (.ref bi0), .unset, .unset, .unset, .unset, .unset] [(.int (1 : Int32)), (.int (16 : Int32)), (.ref bi1), (.ref bi1)])) _
    refine st207 _ ?_
    show Steps p.tables e below (T207.setTop (mkF m 349 #[.val (.int p0), .val (.int p1), .val (.ref bk), .val (.ref bi0), .unset, .unset, .unset, .unset, .unset] [(.ref bi1)])) _
    refine XS.dup X207.here hx rfl (hb hby at_349) rfl rfl ?_
    show Steps p.tables e below (T207.setTop (mkF m 350 #[.val (.int p0), .val (.int p1), .val (.ref bk), .val (.ref bi0), .unset, .unset, .unset, .unset, .unset] [(.ref bi1), (.ref bi1)])) _
    refine XS.bipush X207.here hx rfl (hb hby at_350) ?_
    show Steps p.tables e below (T207.setTop (mkF m 352 #[.val (.int p0), .val (.int p1), .val (.ref bk), .val (.ref bi0), .unset, .unset, .unset, .unset, .unset] [(.int (17 : Int32)), (.ref bi1), (.ref bi1)])) _
    refine XS.iconst X207.here hx rfl (hb hby at_352) ?_
    show Steps p.tables e below (T207.setTop (mkF m 353 #[.val (.int p0), .val (.int p1), .val (.ref bk), .val (.ref bi0), .unset, .unset, .unset, .unset, .unset] [(.int (2 : Int32)), (.int (17 : Int32)), (.ref bi1), (.ref bi1)])) _
    refine st211 _ ?_
    show Steps p.tables e below (T211.setTop (mkF m 354 #[.val (.int p0), .val (.int p1), .val (.ref bk), .val (.ref bi0), .unset, .unset, .unset, .unset, .unset] [(.ref bi1)])) _
    refine XS.dup X211.here hx rfl (hb hby at_354) rfl rfl ?_
    show Steps p.tables e below (T211.setTop (mkF m 355 #[.val (.int p0), .val (.int p1), .val (.ref bk), .val (.ref bi0), .unset, .unset, .unset, .unset, .unset] [(.ref bi1), (.ref bi1)])) _
    refine XS.bipush X211.here hx rfl (hb hby at_355) ?_
    show Steps p.tables e below (T211.setTop (mkF m 357 #[.val (.int p0), .val (.int p1), .val (.ref bk), .val (.ref bi0), .unset, .unset, .unset, .unset, .unset] [(.int (18 : Int32)), (.ref bi1), (.ref bi1)])) _
    refine XS.iconst X211.here hx rfl (hb hby at_357) ?_
    show Steps p.tables e below (T211.setTop (mkF m 358 #[.val (.int p0), .val (.int p1), .val (.ref bk), .val (.ref bi0), .unset, .unset, .unset, .unset, .unset] [(.int (1 : Int32)), (.int (18 : Int32)), (.ref bi1), (.ref bi1)])) _
    refine st215 _ ?_
    show Steps p.tables e below (T215.setTop (mkF m 359 #[.val (.int p0), .val (.int p1), .val (.ref bk), .val (.ref bi0), .unset, .unset, .unset, .unset, .unset] [(.ref bi1)])) _
    refine XS.dup X215.here hx rfl (hb hby at_359) rfl rfl ?_
    show Steps p.tables e below (T215.setTop (mkF m 360 #[.val (.int p0), .val (.int p1), .val (.ref bk), .val (.ref bi0), .unset, .unset, .unset, .unset, .unset] [(.ref bi1), (.ref bi1)])) _
    refine XS.bipush X215.here hx rfl (hb hby at_360) ?_
    show Steps p.tables e below (T215.setTop (mkF m 362 #[.val (.int p0), .val (.int p1), .val (.ref bk), .val (.ref bi0), .unset, .unset, .unset, .unset, .unset] [(.int (19 : Int32)), (.ref bi1), (.ref bi1)])) _
    refine XS.iconst X215.here hx rfl (hb hby at_362) ?_
    show Steps p.tables e below (T215.setTop (mkF m 363 #[.val (.int p0), .val (.int p1), .val (.ref bk), .val (.ref bi0), .unset, .unset, .unset, .unset, .unset] [(.int (1 : Int32)), (.int (19 : Int32)), (.ref bi1), (.ref bi1)])) _
    refine st219 _ ?_
    show Steps p.tables e below (T219.setTop (mkF m 364 #[.val (.int p0), .val (.int p1), .val (.ref bk), .val (.ref bi0), .unset, .unset, .unset, .unset, .unset] [(.ref bi1)])) _
    refine XS.dup X219.here hx rfl (hb hby at_364) rfl rfl ?_
    show Steps p.tables e below (T219.setTop (mkF m 365 #[.val (.int p0), .val (.int p1), .val (.ref bk), .val (.ref bi0), .unset, .unset, .unset, .unset, .unset] [(.ref bi1), (.ref bi1)])) _
    refine XS.bipush X219.here hx rfl (hb hby at_365) ?_
    show Steps p.tables e below (T219.setTop (mkF m 367 #[.val (.int p0), .val (.int p1), .val (.ref bk), .val (.ref bi0), .unset, .unset, .unset, .unset, .unset] [(.int (20 : Int32)), (.ref bi1), (.ref bi1)])) _
    refine XS.iconst X219.here hx rfl (hb hby at_367) ?_
    show Steps p.tables e below (T219.setTop (mkF m 368 #[.val (.int p0), .val (.int p1), .val (.ref bk), .val (.ref bi0), .unset, .unset, .unset, .unset, .unset] [(.int (1 : Int32)), (.int (20 : Int32)), (.ref bi1), (.ref bi1)])) _
    refine st223 _ ?_
    show Steps p.tables e below (T223.setTop (mkF m 369 #[.val (.int p0), .val (.int p1), .val (.ref bk), .val (.ref bi0), .unset, .unset, .unset, .unset, .unset] [(.ref bi1)])) _
    refine XS.dup X223.here hx rfl (hb hby at_369) rfl rfl ?_
    show Steps p.tables e below (T223.setTop (mkF m 370 #[.val (.int p0), .val (.int p1), .val (.ref bk), .val (.ref bi0), .unset, .unset, .unset, .unset, .unset] [(.ref bi1), (.ref bi1)])) _
    refine XS.bipush X223.here hx rfl (hb hby at_370) ?_
    show Steps p.tables e below (T223.setTop (mkF m 372 #[.val (.int p0), .val (.int p1), .val (.ref bk), .val (.ref bi0), .unset, .unset, .unset, .unset, .unset] [(.int (21 : Int32)), (.ref bi1), (.ref bi1)])) _
    refine XS.iconst X223.here hx rfl (hb hby at_372) ?_
    show Steps p.tables e below (T223.setTop (mkF m 373 #[.val (.int p0), .val (.int p1), .val (.ref bk), .val (.ref bi0), .unset, .unset, .unset, .unset, .unset] [(.int (0 : Int32)), (.int (21 : Int32)), (.ref bi1), (.ref bi1)])) _
    refine st227 _ ?_
    show Steps p.tables e below (T227.setTop (mkF m 374 #[.val (.int p0), .val (.int p1), .val (.ref bk), .val (.ref bi0), .unset, .unset, .unset, .unset, .unset] [(.ref bi1)])) _
    refine XS.astore X227.here hx rfl (hb hby at_374) rfl rfl (l' := #[.val (.int p0), .val (.int p1), .val (.ref bk), .val (.ref bi0), .val (.ref bi1), .unset, .unset, .unset, .unset]) rfl ?_
    show Steps p.tables e below (T227.setTop (mkF m 376 #[.val (.int p0), .val (.int p1), .val (.ref bk), .val (.ref bi0), .val (.ref bi1), .unset, .unset, .unset, .unset] [])) _
    refine XS.iloadN X227.here hx rfl (hb hby at_376) rfl ?_
    show Steps p.tables e below (T227.setTop (mkF m 377 #[.val (.int p0), .val (.int p1), .val (.ref bk), .val (.ref bi0), .val (.ref bi1), .unset, .unset, .unset, .unset] [(.int p0)])) _
    refine X227.ldcInt hx hown (mvT hZ (hw _ (List.mem_of_getElem? (i := 49) rfl))) (g := (mkF m 377 #[.val (.int p0), .val (.int p1), .val (.ref bk), .val (.ref bi0), .val (.ref bi1), .unset, .unset, .unset, .unset] [(.int p0)])) rfl (hb hby at_377) _ ?_
    show Steps p.tables e below (T227.setTop (mkF m 379 #[.val (.int p0), .val (.int p1), .val (.ref bk), .val (.ref bi0), .val (.ref bi1), .unset, .unset, .unset, .unset] [(.int (2147483647 : Int32)), (.int p0)])) _
    refine XS.iand X227.here hx rfl (hb hby at_379) rfl ?_
    show Steps p.tables e below (T227.setTop (mkF m 380 #[.val (.int p0), .val (.int p1), .val (.ref bk), .val (.ref bi0), .val (.ref bi1), .unset, .unset, .unset, .unset] [(.int (p0 &&& (2147483647 : Int32)))])) _
    refine XS.bipush X227.here hx rfl (hb hby at_380) ?_
    show Steps p.tables e below (T227.setTop (mkF m 382 #[.val (.int p0), .val (.int p1), .val (.ref bk), .val (.ref bi0), .val (.ref bi1), .unset, .unset, .unset, .unset] [(.int (22 : Int32)), (.int (p0 &&& (2147483647 : Int32)))])) _
    refine iremM X227 hx rfl (hb hby at_382) rfl (by decide) ?_
    show Steps p.tables e below (T227.setTop (mkF m 383 #[.val (.int p0), .val (.int p1), .val (.ref bk), .val (.ref bi0), .val (.ref bi1), .unset, .unset, .unset, .unset] [(.int ((p0 &&& (2147483647 : Int32)) % (22 : Int32)))])) _
    exact k
  obtain ⟨j, hj, hj0, hj1⟩ : ∃ j, ((p0 &&& (2147483647 : Int32)) % (22 : Int32)) = j ∧ ¬ j < 0 ∧ j < (22 : Int32) := ⟨_, rfl, own_idx22 p0⟩
  rw [show ((p0 &&& (2147483647 : Int32)) % (22 : Int32)) = j from hj]
  have Vk_bk : Arv Z h227 bk k4 (.object "com/example/humble_log/humblelog/protocol/ApiKey") (22 : Int32) [(.ref w0), (.ref w1), (.ref w2), (.ref w3), (.ref w4), (.ref w5), (.ref w6), (.ref w7), (.ref w8), (.ref w9), (.ref w10), (.ref w11), (.ref w12), (.ref w13), (.ref w14), (.ref w15), (.ref w16), (.ref w17), (.ref w18), (.ref w19), (.ref w20), (.ref w21)] .null := V_bk_228
  have Vk_bi0 : Arv Z h227 bi0 k71 .int (22 : Int32) [(.int (0 : Int32)), (.int (4 : Int32)), (.int (1 : Int32)), (.int (0 : Int32)), (.int (2 : Int32)), (.int (1 : Int32)), (.int (0 : Int32)), (.int (2 : Int32)), (.int (0 : Int32)), (.int (0 : Int32)), (.int (0 : Int32)), (.int (0 : Int32)), (.int (0 : Int32)), (.int (0 : Int32)), (.int (2 : Int32)), (.int (1 : Int32)), (.int (0 : Int32)), (.int (1 : Int32)), (.int (0 : Int32)), (.int (0 : Int32)), (.int (0 : Int32)), (.int (0 : Int32))] (.int (0 : Int32)) := V_bi0_229
  have Vk_bi1 : Arv Z h227 bi1 k139 .int (22 : Int32) [(.int (7 : Int32)), (.int (11 : Int32)), (.int (2 : Int32)), (.int (5 : Int32)), (.int (7 : Int32)), (.int (5 : Int32)), (.int (2 : Int32)), (.int (5 : Int32)), (.int (3 : Int32)), (.int (1 : Int32)), (.int (3 : Int32)), (.int (4 : Int32)), (.int (2 : Int32)), (.int (3 : Int32)), (.int (4 : Int32)), (.int (3 : Int32)), (.int (1 : Int32)), (.int (2 : Int32)), (.int (1 : Int32)), (.int (1 : Int32)), (.int (1 : Int32)), (.int (0 : Int32))] (.int (0 : Int32)) := V_bi1_227
  obtain ⟨wk, c0, c1, hk, hc0, hc1, Ek, Fc0, Fc1⟩ : ∃ (wk : Addr) (c0 c1 : Int32), ([(.ref w0), (.ref w1), (.ref w2), (.ref w3), (.ref w4), (.ref w5), (.ref w6), (.ref w7), (.ref w8), (.ref w9), (.ref w10), (.ref w11), (.ref w12), (.ref w13), (.ref w14), (.ref w15), (.ref w16), (.ref w17), (.ref w18), (.ref w19), (.ref w20), (.ref w21)] : List Value).getD j.toNatClampNeg .null = .ref wk ∧ ([(.int (0 : Int32)), (.int (4 : Int32)), (.int (1 : Int32)), (.int (0 : Int32)), (.int (2 : Int32)), (.int (1 : Int32)), (.int (0 : Int32)), (.int (2 : Int32)), (.int (0 : Int32)), (.int (0 : Int32)), (.int (0 : Int32)), (.int (0 : Int32)), (.int (0 : Int32)), (.int (0 : Int32)), (.int (2 : Int32)), (.int (1 : Int32)), (.int (0 : Int32)), (.int (1 : Int32)), (.int (0 : Int32)), (.int (0 : Int32)), (.int (0 : Int32)), (.int (0 : Int32))] : List Value).getD j.toNatClampNeg (.int (0 : Int32)) = .int c0 ∧ ([(.int (7 : Int32)), (.int (11 : Int32)), (.int (2 : Int32)), (.int (5 : Int32)), (.int (7 : Int32)), (.int (5 : Int32)), (.int (2 : Int32)), (.int (5 : Int32)), (.int (3 : Int32)), (.int (1 : Int32)), (.int (3 : Int32)), (.int (4 : Int32)), (.int (2 : Int32)), (.int (3 : Int32)), (.int (4 : Int32)), (.int (3 : Int32)), (.int (1 : Int32)), (.int (2 : Int32)), (.int (1 : Int32)), (.int (1 : Int32)), (.int (1 : Int32)), (.int (0 : Int32))] : List Value).getD j.toNatClampNeg (.int (0 : Int32)) = .int c1 ∧ Exa Z h0 wk "com/example/humble_log/humblelog/protocol/ApiKey" ∧ Fld Z h0 wk "com/example/humble_log/humblelog/protocol/ApiKey" "minVersion" "S" (.int c0) ∧ Fld Z h0 wk "com/example/humble_log/humblelog/protocol/ApiKey" "maxVersion" "S" (.int c1) := by
    rcases own_cases22 hj0 hj1 with e | e | e | e | e | e | e | e | e | e | e | e | e | e | e | e | e | e | e | e | e | e
    · rw [e]; exact ⟨w0, (0 : Int32), (7 : Int32), rfl, rfl, rfl, E0_, F0_0, F0_1⟩
    · rw [e]; exact ⟨w1, (4 : Int32), (11 : Int32), rfl, rfl, rfl, E1_, F1_0, F1_1⟩
    · rw [e]; exact ⟨w2, (1 : Int32), (2 : Int32), rfl, rfl, rfl, E2_, F2_0, F2_1⟩
    · rw [e]; exact ⟨w3, (0 : Int32), (5 : Int32), rfl, rfl, rfl, E3_, F3_0, F3_1⟩
    · rw [e]; exact ⟨w4, (2 : Int32), (7 : Int32), rfl, rfl, rfl, E4_, F4_0, F4_1⟩
    · rw [e]; exact ⟨w5, (1 : Int32), (5 : Int32), rfl, rfl, rfl, E5_, F5_0, F5_1⟩
    · rw [e]; exact ⟨w6, (0 : Int32), (2 : Int32), rfl, rfl, rfl, E6_, F6_0, F6_1⟩
    · rw [e]; exact ⟨w7, (2 : Int32), (5 : Int32), rfl, rfl, rfl, E7_, F7_0, F7_1⟩
    · rw [e]; exact ⟨w8, (0 : Int32), (3 : Int32), rfl, rfl, rfl, E8_, F8_0, F8_1⟩
    · rw [e]; exact ⟨w9, (0 : Int32), (1 : Int32), rfl, rfl, rfl, E9_, F9_0, F9_1⟩
    · rw [e]; exact ⟨w10, (0 : Int32), (3 : Int32), rfl, rfl, rfl, E10_, F10_0, F10_1⟩
    · rw [e]; exact ⟨w11, (0 : Int32), (4 : Int32), rfl, rfl, rfl, E11_, F11_0, F11_1⟩
    · rw [e]; exact ⟨w12, (0 : Int32), (2 : Int32), rfl, rfl, rfl, E12_, F12_0, F12_1⟩
    · rw [e]; exact ⟨w13, (0 : Int32), (3 : Int32), rfl, rfl, rfl, E13_, F13_0, F13_1⟩
    · rw [e]; exact ⟨w14, (2 : Int32), (4 : Int32), rfl, rfl, rfl, E14_, F14_0, F14_1⟩
    · rw [e]; exact ⟨w15, (1 : Int32), (3 : Int32), rfl, rfl, rfl, E15_, F15_0, F15_1⟩
    · rw [e]; exact ⟨w16, (0 : Int32), (1 : Int32), rfl, rfl, rfl, E16_, F16_0, F16_1⟩
    · rw [e]; exact ⟨w17, (1 : Int32), (2 : Int32), rfl, rfl, rfl, E17_, F17_0, F17_1⟩
    · rw [e]; exact ⟨w18, (0 : Int32), (1 : Int32), rfl, rfl, rfl, E18_, F18_0, F18_1⟩
    · rw [e]; exact ⟨w19, (0 : Int32), (1 : Int32), rfl, rfl, rfl, E19_, F19_0, F19_1⟩
    · rw [e]; exact ⟨w20, (0 : Int32), (1 : Int32), rfl, rfl, rfl, E20_, F20_0, F20_1⟩
    · rw [e]; exact ⟨w21, (0 : Int32), (0 : Int32), rfl, rfl, rfl, E21_, F21_0, F21_1⟩
  obtain ⟨cl230, Ar230, q230, S230, P230, H230, G230⟩ := Vk_bi0
  have hin231 : ¬ (j < 0 ∨ cl230.slots.size ≤ (j).toNatClampNeg) := inb_of S230 ⟨hj0, hj1⟩
  have hat231 : cl230.slots[(j).toNatClampNeg]? = some (.int c0) := H230.at hin231 hc0
  have V_bi0_231 : Arv Z h227 bi0 k71 .int (22 : Int32) [(.int (0 : Int32)), (.int (4 : Int32)), (.int (1 : Int32)), (.int (0 : Int32)), (.int (2 : Int32)), (.int (1 : Int32)), (.int (0 : Int32)), (.int (2 : Int32)), (.int (0 : Int32)), (.int (0 : Int32)), (.int (0 : Int32)), (.int (0 : Int32)), (.int (0 : Int32)), (.int (0 : Int32)), (.int (2 : Int32)), (.int (1 : Int32)), (.int (0 : Int32)), (.int (1 : Int32)), (.int (0 : Int32)), (.int (0 : Int32)), (.int (0 : Int32)), (.int (0 : Int32))] (.int (0 : Int32)) := ⟨cl230, Ar230, q230, S230, P230, H230, G230⟩
  refine own_Go.mono (T' := T227) (f' := (mkF m 399 #[.val (.int p0), .val (.int p1), .val (.ref bk), .val (.ref bi0), .val (.ref bi1), .val (.int j), .val (.int (p1.toInt16.toInt32)), .val (.int (p1.toInt16.toInt32)), .unset] [(.int c0), (.int (p1.toInt16.toInt32))])) (fun t k => ?_) ?_
  · show Steps p.tables e below (T227.setTop (mkF m 383 #[.val (.int p0), .val (.int p1), .val (.ref bk), .val (.ref bi0), .val (.ref bi1), .unset, .unset, .unset, .unset] [(.int j)])) _
    refine XS.istore X227.here hx rfl (hb hby at_383) rfl (l' := #[.val (.int p0), .val (.int p1), .val (.ref bk), .val (.ref bi0), .val (.ref bi1), .val (.int j), .unset, .unset, .unset]) rfl ?_
    show Steps p.tables e below (T227.setTop (mkF m 385 #[.val (.int p0), .val (.int p1), .val (.ref bk), .val (.ref bi0), .val (.ref bi1), .val (.int j), .unset, .unset, .unset] [])) _
    refine XS.iloadN X227.here hx rfl (hb hby at_385) rfl ?_
    show Steps p.tables e below (T227.setTop (mkF m 386 #[.val (.int p0), .val (.int p1), .val (.ref bk), .val (.ref bi0), .val (.ref bi1), .val (.int j), .unset, .unset, .unset] [(.int p1)])) _
    refine XS.i2s X227.here hx rfl (hb hby at_386) rfl ?_
    show Steps p.tables e below (T227.setTop (mkF m 387 #[.val (.int p0), .val (.int p1), .val (.ref bk), .val (.ref bi0), .val (.ref bi1), .val (.int j), .unset, .unset, .unset] [(.int (p1.toInt16.toInt32))])) _
    refine XS.istore X227.here hx rfl (hb hby at_387) rfl (l' := #[.val (.int p0), .val (.int p1), .val (.ref bk), .val (.ref bi0), .val (.ref bi1), .val (.int j), .val (.int (p1.toInt16.toInt32)), .unset, .unset]) rfl ?_
    show Steps p.tables e below (T227.setTop (mkF m 389 #[.val (.int p0), .val (.int p1), .val (.ref bk), .val (.ref bi0), .val (.ref bi1), .val (.int j), .val (.int (p1.toInt16.toInt32)), .unset, .unset] [])) _
    refine XS.iload X227.here hx rfl (hb hby at_389) rfl ?_
    show Steps p.tables e below (T227.setTop (mkF m 391 #[.val (.int p0), .val (.int p1), .val (.ref bk), .val (.ref bi0), .val (.ref bi1), .val (.int j), .val (.int (p1.toInt16.toInt32)), .unset, .unset] [(.int (p1.toInt16.toInt32))])) _
    refine XS.istore X227.here hx rfl (hb hby at_391) rfl (l' := #[.val (.int p0), .val (.int p1), .val (.ref bk), .val (.ref bi0), .val (.ref bi1), .val (.int j), .val (.int (p1.toInt16.toInt32)), .val (.int (p1.toInt16.toInt32)), .unset]) rfl ?_
    show Steps p.tables e below (T227.setTop (mkF m 393 #[.val (.int p0), .val (.int p1), .val (.ref bk), .val (.ref bi0), .val (.ref bi1), .val (.int j), .val (.int (p1.toInt16.toInt32)), .val (.int (p1.toInt16.toInt32)), .unset] [])) _
    refine XS.iload X227.here hx rfl (hb hby at_393) rfl ?_
    show Steps p.tables e below (T227.setTop (mkF m 395 #[.val (.int p0), .val (.int p1), .val (.ref bk), .val (.ref bi0), .val (.ref bi1), .val (.int j), .val (.int (p1.toInt16.toInt32)), .val (.int (p1.toInt16.toInt32)), .unset] [(.int (p1.toInt16.toInt32))])) _
    refine XS.aloadN X227.here hx rfl (hb hby at_395) rfl rfl ?_
    show Steps p.tables e below (T227.setTop (mkF m 396 #[.val (.int p0), .val (.int p1), .val (.ref bk), .val (.ref bi0), .val (.ref bi1), .val (.int j), .val (.int (p1.toInt16.toInt32)), .val (.int (p1.toInt16.toInt32)), .unset] [(.ref bi0), (.int (p1.toInt16.toInt32))])) _
    refine XS.iload X227.here hx rfl (hb hby at_396) rfl ?_
    show Steps p.tables e below (T227.setTop (mkF m 398 #[.val (.int p0), .val (.int p1), .val (.ref bk), .val (.ref bi0), .val (.ref bi1), .val (.int j), .val (.int (p1.toInt16.toInt32)), .val (.int (p1.toInt16.toInt32)), .unset] [(.int j), (.ref bi0), (.int (p1.toInt16.toInt32))])) _
    refine X227.iaload hx (j := j) (v := (.int c0)) (by rw [e227]; exact Ar230.1) (State.isArrayOf_alike hZ.alike Ar230.2.1) Ar230.2.2 hin231 hat231 (g := (mkF m 398 #[.val (.int p0), .val (.int p1), .val (.ref bk), .val (.ref bi0), .val (.ref bi1), .val (.int j), .val (.int (p1.toInt16.toInt32)), .val (.int (p1.toInt16.toInt32)), .unset] [(.int j), (.ref bi0), (.int (p1.toInt16.toInt32))])) rfl rfl (hb hby at_398) _ ?_
    show Steps p.tables e below (T227.setTop (mkF m 399 #[.val (.int p0), .val (.int p1), .val (.ref bk), .val (.ref bi0), .val (.ref bi1), .val (.int j), .val (.int (p1.toInt16.toInt32)), .val (.int (p1.toInt16.toInt32)), .unset] [(.int c0), (.int (p1.toInt16.toInt32))])) _
    exact k
  by_cases c399_232 : (p1.toInt16.toInt32) < c0
  · obtain ⟨cl233, Ar233, q233, S233, P233, H233, G233⟩ := Vk_bk
    have hin234 : ¬ (j < 0 ∨ cl233.slots.size ≤ (j).toNatClampNeg) := inb_of S233 ⟨hj0, hj1⟩
    have hat234 : cl233.slots[(j).toNatClampNeg]? = some (.ref wk) := H233.at hin234 hk
    have V_bk_234 : Arv Z h227 bk k4 (.object "com/example/humble_log/humblelog/protocol/ApiKey") (22 : Int32) [(.ref w0), (.ref w1), (.ref w2), (.ref w3), (.ref w4), (.ref w5), (.ref w6), (.ref w7), (.ref w8), (.ref w9), (.ref w10), (.ref w11), (.ref w12), (.ref w13), (.ref w14), (.ref w15), (.ref w16), (.ref w17), (.ref w18), (.ref w19), (.ref w20), (.ref w21)] .null := ⟨cl233, Ar233, q233, S233, P233, H233, G233⟩
    obtain ⟨cq235, kq235, q235a, q235b, q235c⟩ := isOf hZ e227 (Ek.ext (own_ext K0_227))
    obtain ⟨_, _, ⟨T235, L235, k235, n235⟩, -, X235, ⟨Lc235, hQ235, l235, y235, z235⟩, st235⟩ := X227.virtualBack hx (y := (⟨"com/example/humble_log/humblelog/protocol/ApiKey", "isServed", "(S)Z"⟩ : MethodName)) (z := (⟨"com/example/humble_log/humblelog/protocol/ApiKey", "isServed", "(S)Z"⟩ : MethodName)) hown (mvT hZ (hw _ (List.mem_of_getElem? (i := 50) rfl))) (mvT hZ (hw _ (List.mem_of_getElem? (i := 51) rfl))) (notFace_of_selects (args := #[]) (mvT hZ (hw _ (List.mem_of_getElem? (i := 53) rfl)))) (mvT hZ (hw _ (List.mem_of_getElem? (i := 53) rfl))) (mvT hZ (hw _ (List.mem_of_getElem? (i := 52) rfl))) (by decide) (backOf (W := 0) (rm1 l Z a0 hw [] wk (p1.toInt16.toInt32) c0 c1 (0 : Int32) h227 n0 zh227 (Fc0.ext (own_ext K0_227)) (Fc1.ext (own_ext K0_227)) (Or.inl ⟨c399_232, rfl⟩)) hZ (hw _ (List.mem_of_getElem? (i := 54) rfl)) (hw _ (List.mem_of_getElem? (i := 3) rfl)) (by decide) (by decide)) q235a q235c (g := (mkF m 425 #[.val (.int p0), .val (.int p1), .val (.ref bk), .val (.ref bi0), .val (.ref bi1), .val (.int j), .val (.int (p1.toInt16.toInt32)), .val (.int (p1.toInt16.toInt32)), .val (.int (0 : Int32))] [(.int (p1.toInt16.toInt32)), (.ref wk)])) rfl (by rw [hml]; rfl) (Steps.refl _) (argsL := [(.int (p1.toInt16.toInt32))]) (rest := []) (lenOf pd_0 rfl) rfl (by show 2 * 0 + _ ≤ _; exact Nat.le_of_eq rfl) (hb hby at_425) (fun _ _ => ⟨rfl, e227, (by decide : 3 + 0 ≤ _), (by decide : 66 + 0 ≤ _)⟩)
    dsimp only [Pt.U, Pt.locs, Pt.cells, Pt.slots] at X235 l235 y235 z235 st235 hQ235
    subst l235 y235 z235
    obtain ⟨rfl, N235q, hh235⟩ := hQ235
    have N235 := Fr.app N227 N235q
    refine own_Go.mono (T' := T235) (f' := (mkF m 438 #[.val (.int p0), .val (.int p1), .val (.ref bk), .val (.ref bi0), .val (.ref bi1), .val (.int j), .val (.int (p1.toInt16.toInt32)), .val (.int (p1.toInt16.toInt32)), .val (.int (0 : Int32))] [(.int (1 : Int32))])) (fun t k => ?_) ?_
    · show Steps p.tables e below (T227.setTop (mkF m 399 #[.val (.int p0), .val (.int p1), .val (.ref bk), .val (.ref bi0), .val (.ref bi1), .val (.int j), .val (.int (p1.toInt16.toInt32)), .val (.int (p1.toInt16.toInt32)), .unset] [(.int c0), (.int (p1.toInt16.toInt32))])) _
      refine XS.icmpYes X227.here hx rfl (pc0 := 399) (pc' := 416) rfl (hb hby at_399) rfl (tlt c399_232).1 (by decide) (by decide) ?_
      show Steps p.tables e below (T227.setTop (mkF m 416 #[.val (.int p0), .val (.int p1), .val (.ref bk), .val (.ref bi0), .val (.ref bi1), .val (.int j), .val (.int (p1.toInt16.toInt32)), .val (.int (p1.toInt16.toInt32)), .unset] [])) _
      refine XS.iconst X227.here hx rfl (hb hby at_416) ?_
      show Steps p.tables e below (T227.setTop (mkF m 417 #[.val (.int p0), .val (.int p1), .val (.ref bk), .val (.ref bi0), .val (.ref bi1), .val (.int j), .val (.int (p1.toInt16.toInt32)), .val (.int (p1.toInt16.toInt32)), .unset] [(.int (0 : Int32))])) _
      refine XS.istore X227.here hx rfl (hb hby at_417) rfl (l' := #[.val (.int p0), .val (.int p1), .val (.ref bk), .val (.ref bi0), .val (.ref bi1), .val (.int j), .val (.int (p1.toInt16.toInt32)), .val (.int (p1.toInt16.toInt32)), .val (.int (0 : Int32))]) rfl ?_
      show Steps p.tables e below (T227.setTop (mkF m 419 #[.val (.int p0), .val (.int p1), .val (.ref bk), .val (.ref bi0), .val (.ref bi1), .val (.int j), .val (.int (p1.toInt16.toInt32)), .val (.int (p1.toInt16.toInt32)), .val (.int (0 : Int32))] [])) _
      refine XS.aloadN X227.here hx rfl (hb hby at_419) rfl rfl ?_
      show Steps p.tables e below (T227.setTop (mkF m 420 #[.val (.int p0), .val (.int p1), .val (.ref bk), .val (.ref bi0), .val (.ref bi1), .val (.int j), .val (.int (p1.toInt16.toInt32)), .val (.int (p1.toInt16.toInt32)), .val (.int (0 : Int32))] [(.ref bk)])) _
      refine XS.iload X227.here hx rfl (hb hby at_420) rfl ?_
      show Steps p.tables e below (T227.setTop (mkF m 422 #[.val (.int p0), .val (.int p1), .val (.ref bk), .val (.ref bi0), .val (.ref bi1), .val (.int j), .val (.int (p1.toInt16.toInt32)), .val (.int (p1.toInt16.toInt32)), .val (.int (0 : Int32))] [(.int j), (.ref bk)])) _
      refine X227.aaload hx (j := j) (v := (.ref wk)) (by rw [e227]; exact Ar233.1) (State.isArrayOf_alike hZ.alike Ar233.2.1) rfl Ar233.2.2 hin234 hat234 (g := (mkF m 422 #[.val (.int p0), .val (.int p1), .val (.ref bk), .val (.ref bi0), .val (.ref bi1), .val (.int j), .val (.int (p1.toInt16.toInt32)), .val (.int (p1.toInt16.toInt32)), .val (.int (0 : Int32))] [(.int j), (.ref bk)])) rfl rfl (hb hby at_422) _ ?_
      show Steps p.tables e below (T227.setTop (mkF m 423 #[.val (.int p0), .val (.int p1), .val (.ref bk), .val (.ref bi0), .val (.ref bi1), .val (.int j), .val (.int (p1.toInt16.toInt32)), .val (.int (p1.toInt16.toInt32)), .val (.int (0 : Int32))] [(.ref wk)])) _
      refine XS.iload X227.here hx rfl (hb hby at_423) rfl ?_
      show Steps p.tables e below (T227.setTop (mkF m 425 #[.val (.int p0), .val (.int p1), .val (.ref bk), .val (.ref bi0), .val (.ref bi1), .val (.int j), .val (.int (p1.toInt16.toInt32)), .val (.int (p1.toInt16.toInt32)), .val (.int (0 : Int32))] [(.int (p1.toInt16.toInt32)), (.ref wk)])) _
      refine st235.trans ?_
      show Steps p.tables e below (T235.setTop (mkF m 428 #[.val (.int p0), .val (.int p1), .val (.ref bk), .val (.ref bi0), .val (.ref bi1), .val (.int j), .val (.int (p1.toInt16.toInt32)), .val (.int (p1.toInt16.toInt32)), .val (.int (0 : Int32))] [(.int (0 : Int32))])) _
      refine XS.iload X235.here hx rfl (hb hby at_428) rfl ?_
      show Steps p.tables e below (T235.setTop (mkF m 430 #[.val (.int p0), .val (.int p1), .val (.ref bk), .val (.ref bi0), .val (.ref bi1), .val (.int j), .val (.int (p1.toInt16.toInt32)), .val (.int (p1.toInt16.toInt32)), .val (.int (0 : Int32))] [(.int (0 : Int32)), (.int (0 : Int32))])) _
      refine XS.icmpNo X235.here hx rfl (hb hby at_430) rfl (teq rfl).2 ?_
      show Steps p.tables e below (T235.setTop (mkF m 433 #[.val (.int p0), .val (.int p1), .val (.ref bk), .val (.ref bi0), .val (.ref bi1), .val (.int j), .val (.int (p1.toInt16.toInt32)), .val (.int (p1.toInt16.toInt32)), .val (.int (0 : Int32))] [])) _
      refine XS.iconst X235.here hx rfl (hb hby at_433) ?_
      show Steps p.tables e below (T235.setTop (mkF m 434 #[.val (.int p0), .val (.int p1), .val (.ref bk), .val (.ref bi0), .val (.ref bi1), .val (.int j), .val (.int (p1.toInt16.toInt32)), .val (.int (p1.toInt16.toInt32)), .val (.int (0 : Int32))] [(.int (1 : Int32))])) _
      refine XS.goto X235.here hx rfl (pc0 := 434) (pc' := 438) rfl (hb hby at_434) (by decide) (by decide) ?_
      show Steps p.tables e below (T235.setTop (mkF m 438 #[.val (.int p0), .val (.int p1), .val (.ref bk), .val (.ref bi0), .val (.ref bi1), .val (.int j), .val (.int (p1.toInt16.toInt32)), .val (.int (p1.toInt16.toInt32)), .val (.int (0 : Int32))] [(.int (1 : Int32))])) _
      exact k
    exact own_retN X235 hx (t := .boolean) hret (by simp) hlk (hb hby at_438) (⟨rfl, N235⟩) (by decide) (by decide)
  · obtain ⟨cl236, Ar236, q236, S236, P236, H236, G236⟩ := Vk_bi1
    have hin237 : ¬ (j < 0 ∨ cl236.slots.size ≤ (j).toNatClampNeg) := inb_of S236 ⟨hj0, hj1⟩
    have hat237 : cl236.slots[(j).toNatClampNeg]? = some (.int c1) := H236.at hin237 hc1
    have V_bi1_237 : Arv Z h227 bi1 k139 .int (22 : Int32) [(.int (7 : Int32)), (.int (11 : Int32)), (.int (2 : Int32)), (.int (5 : Int32)), (.int (7 : Int32)), (.int (5 : Int32)), (.int (2 : Int32)), (.int (5 : Int32)), (.int (3 : Int32)), (.int (1 : Int32)), (.int (3 : Int32)), (.int (4 : Int32)), (.int (2 : Int32)), (.int (3 : Int32)), (.int (4 : Int32)), (.int (3 : Int32)), (.int (1 : Int32)), (.int (2 : Int32)), (.int (1 : Int32)), (.int (1 : Int32)), (.int (1 : Int32)), (.int (0 : Int32))] (.int (0 : Int32)) := ⟨cl236, Ar236, q236, S236, P236, H236, G236⟩
    refine own_Go.mono (T' := T227) (f' := (mkF m 409 #[.val (.int p0), .val (.int p1), .val (.ref bk), .val (.ref bi0), .val (.ref bi1), .val (.int j), .val (.int (p1.toInt16.toInt32)), .val (.int (p1.toInt16.toInt32)), .unset] [(.int c1), (.int (p1.toInt16.toInt32))])) (fun t k => ?_) ?_
    · show Steps p.tables e below (T227.setTop (mkF m 399 #[.val (.int p0), .val (.int p1), .val (.ref bk), .val (.ref bi0), .val (.ref bi1), .val (.int j), .val (.int (p1.toInt16.toInt32)), .val (.int (p1.toInt16.toInt32)), .unset] [(.int c0), (.int (p1.toInt16.toInt32))])) _
      refine XS.icmpNo X227.here hx rfl (hb hby at_399) rfl (flt c399_232).1 ?_
      show Steps p.tables e below (T227.setTop (mkF m 402 #[.val (.int p0), .val (.int p1), .val (.ref bk), .val (.ref bi0), .val (.ref bi1), .val (.int j), .val (.int (p1.toInt16.toInt32)), .val (.int (p1.toInt16.toInt32)), .unset] [])) _
      refine XS.iload X227.here hx rfl (hb hby at_402) rfl ?_
      show Steps p.tables e below (T227.setTop (mkF m 404 #[.val (.int p0), .val (.int p1), .val (.ref bk), .val (.ref bi0), .val (.ref bi1), .val (.int j), .val (.int (p1.toInt16.toInt32)), .val (.int (p1.toInt16.toInt32)), .unset] [(.int (p1.toInt16.toInt32))])) _
      refine XS.aload X227.here hx rfl (hb hby at_404) rfl rfl ?_
      show Steps p.tables e below (T227.setTop (mkF m 406 #[.val (.int p0), .val (.int p1), .val (.ref bk), .val (.ref bi0), .val (.ref bi1), .val (.int j), .val (.int (p1.toInt16.toInt32)), .val (.int (p1.toInt16.toInt32)), .unset] [(.ref bi1), (.int (p1.toInt16.toInt32))])) _
      refine XS.iload X227.here hx rfl (hb hby at_406) rfl ?_
      show Steps p.tables e below (T227.setTop (mkF m 408 #[.val (.int p0), .val (.int p1), .val (.ref bk), .val (.ref bi0), .val (.ref bi1), .val (.int j), .val (.int (p1.toInt16.toInt32)), .val (.int (p1.toInt16.toInt32)), .unset] [(.int j), (.ref bi1), (.int (p1.toInt16.toInt32))])) _
      refine X227.iaload hx (j := j) (v := (.int c1)) (by rw [e227]; exact Ar236.1) (State.isArrayOf_alike hZ.alike Ar236.2.1) Ar236.2.2 hin237 hat237 (g := (mkF m 408 #[.val (.int p0), .val (.int p1), .val (.ref bk), .val (.ref bi0), .val (.ref bi1), .val (.int j), .val (.int (p1.toInt16.toInt32)), .val (.int (p1.toInt16.toInt32)), .unset] [(.int j), (.ref bi1), (.int (p1.toInt16.toInt32))])) rfl rfl (hb hby at_408) _ ?_
      show Steps p.tables e below (T227.setTop (mkF m 409 #[.val (.int p0), .val (.int p1), .val (.ref bk), .val (.ref bi0), .val (.ref bi1), .val (.int j), .val (.int (p1.toInt16.toInt32)), .val (.int (p1.toInt16.toInt32)), .unset] [(.int c1), (.int (p1.toInt16.toInt32))])) _
      exact k
    by_cases c409_238 : c1 < (p1.toInt16.toInt32)
    · obtain ⟨cl239, Ar239, q239, S239, P239, H239, G239⟩ := Vk_bk
      have hin240 : ¬ (j < 0 ∨ cl239.slots.size ≤ (j).toNatClampNeg) := inb_of S239 ⟨hj0, hj1⟩
      have hat240 : cl239.slots[(j).toNatClampNeg]? = some (.ref wk) := H239.at hin240 hk
      have V_bk_240 : Arv Z h227 bk k4 (.object "com/example/humble_log/humblelog/protocol/ApiKey") (22 : Int32) [(.ref w0), (.ref w1), (.ref w2), (.ref w3), (.ref w4), (.ref w5), (.ref w6), (.ref w7), (.ref w8), (.ref w9), (.ref w10), (.ref w11), (.ref w12), (.ref w13), (.ref w14), (.ref w15), (.ref w16), (.ref w17), (.ref w18), (.ref w19), (.ref w20), (.ref w21)] .null := ⟨cl239, Ar239, q239, S239, P239, H239, G239⟩
      obtain ⟨cq241, kq241, q241a, q241b, q241c⟩ := isOf hZ e227 (Ek.ext (own_ext K0_227))
      obtain ⟨_, _, ⟨T241, L241, k241, n241⟩, -, X241, ⟨Lc241, hQ241, l241, y241, z241⟩, st241⟩ := X227.virtualBack hx (y := (⟨"com/example/humble_log/humblelog/protocol/ApiKey", "isServed", "(S)Z"⟩ : MethodName)) (z := (⟨"com/example/humble_log/humblelog/protocol/ApiKey", "isServed", "(S)Z"⟩ : MethodName)) hown (mvT hZ (hw _ (List.mem_of_getElem? (i := 50) rfl))) (mvT hZ (hw _ (List.mem_of_getElem? (i := 51) rfl))) (notFace_of_selects (args := #[]) (mvT hZ (hw _ (List.mem_of_getElem? (i := 53) rfl)))) (mvT hZ (hw _ (List.mem_of_getElem? (i := 53) rfl))) (mvT hZ (hw _ (List.mem_of_getElem? (i := 52) rfl))) (by decide) (backOf (W := 0) (rm1 l Z a0 hw [] wk (p1.toInt16.toInt32) c0 c1 (0 : Int32) h227 n0 zh227 (Fc0.ext (own_ext K0_227)) (Fc1.ext (own_ext K0_227)) (Or.inr (Or.inl ⟨c399_232, c409_238, rfl⟩))) hZ (hw _ (List.mem_of_getElem? (i := 54) rfl)) (hw _ (List.mem_of_getElem? (i := 3) rfl)) (by decide) (by decide)) q241a q241c (g := (mkF m 425 #[.val (.int p0), .val (.int p1), .val (.ref bk), .val (.ref bi0), .val (.ref bi1), .val (.int j), .val (.int (p1.toInt16.toInt32)), .val (.int (p1.toInt16.toInt32)), .val (.int (0 : Int32))] [(.int (p1.toInt16.toInt32)), (.ref wk)])) rfl (by rw [hml]; rfl) (Steps.refl _) (argsL := [(.int (p1.toInt16.toInt32))]) (rest := []) (lenOf pd_0 rfl) rfl (by show 2 * 0 + _ ≤ _; exact Nat.le_of_eq rfl) (hb hby at_425) (fun _ _ => ⟨rfl, e227, (by decide : 3 + 0 ≤ _), (by decide : 66 + 0 ≤ _)⟩)
      dsimp only [Pt.U, Pt.locs, Pt.cells, Pt.slots] at X241 l241 y241 z241 st241 hQ241
      subst l241 y241 z241
      obtain ⟨rfl, N241q, hh241⟩ := hQ241
      have N241 := Fr.app N227 N241q
      refine own_Go.mono (T' := T241) (f' := (mkF m 438 #[.val (.int p0), .val (.int p1), .val (.ref bk), .val (.ref bi0), .val (.ref bi1), .val (.int j), .val (.int (p1.toInt16.toInt32)), .val (.int (p1.toInt16.toInt32)), .val (.int (0 : Int32))] [(.int (1 : Int32))])) (fun t k => ?_) ?_
      · show Steps p.tables e below (T227.setTop (mkF m 409 #[.val (.int p0), .val (.int p1), .val (.ref bk), .val (.ref bi0), .val (.ref bi1), .val (.int j), .val (.int (p1.toInt16.toInt32)), .val (.int (p1.toInt16.toInt32)), .unset] [(.int c1), (.int (p1.toInt16.toInt32))])) _
        refine XS.icmpYes X227.here hx rfl (pc0 := 409) (pc' := 416) rfl (hb hby at_409) rfl (tlt c409_238).2.2.1 (by decide) (by decide) ?_
        show Steps p.tables e below (T227.setTop (mkF m 416 #[.val (.int p0), .val (.int p1), .val (.ref bk), .val (.ref bi0), .val (.ref bi1), .val (.int j), .val (.int (p1.toInt16.toInt32)), .val (.int (p1.toInt16.toInt32)), .unset] [])) _
        refine XS.iconst X227.here hx rfl (hb hby at_416) ?_
        show Steps p.tables e below (T227.setTop (mkF m 417 #[.val (.int p0), .val (.int p1), .val (.ref bk), .val (.ref bi0), .val (.ref bi1), .val (.int j), .val (.int (p1.toInt16.toInt32)), .val (.int (p1.toInt16.toInt32)), .unset] [(.int (0 : Int32))])) _
        refine XS.istore X227.here hx rfl (hb hby at_417) rfl (l' := #[.val (.int p0), .val (.int p1), .val (.ref bk), .val (.ref bi0), .val (.ref bi1), .val (.int j), .val (.int (p1.toInt16.toInt32)), .val (.int (p1.toInt16.toInt32)), .val (.int (0 : Int32))]) rfl ?_
        show Steps p.tables e below (T227.setTop (mkF m 419 #[.val (.int p0), .val (.int p1), .val (.ref bk), .val (.ref bi0), .val (.ref bi1), .val (.int j), .val (.int (p1.toInt16.toInt32)), .val (.int (p1.toInt16.toInt32)), .val (.int (0 : Int32))] [])) _
        refine XS.aloadN X227.here hx rfl (hb hby at_419) rfl rfl ?_
        show Steps p.tables e below (T227.setTop (mkF m 420 #[.val (.int p0), .val (.int p1), .val (.ref bk), .val (.ref bi0), .val (.ref bi1), .val (.int j), .val (.int (p1.toInt16.toInt32)), .val (.int (p1.toInt16.toInt32)), .val (.int (0 : Int32))] [(.ref bk)])) _
        refine XS.iload X227.here hx rfl (hb hby at_420) rfl ?_
        show Steps p.tables e below (T227.setTop (mkF m 422 #[.val (.int p0), .val (.int p1), .val (.ref bk), .val (.ref bi0), .val (.ref bi1), .val (.int j), .val (.int (p1.toInt16.toInt32)), .val (.int (p1.toInt16.toInt32)), .val (.int (0 : Int32))] [(.int j), (.ref bk)])) _
        refine X227.aaload hx (j := j) (v := (.ref wk)) (by rw [e227]; exact Ar239.1) (State.isArrayOf_alike hZ.alike Ar239.2.1) rfl Ar239.2.2 hin240 hat240 (g := (mkF m 422 #[.val (.int p0), .val (.int p1), .val (.ref bk), .val (.ref bi0), .val (.ref bi1), .val (.int j), .val (.int (p1.toInt16.toInt32)), .val (.int (p1.toInt16.toInt32)), .val (.int (0 : Int32))] [(.int j), (.ref bk)])) rfl rfl (hb hby at_422) _ ?_
        show Steps p.tables e below (T227.setTop (mkF m 423 #[.val (.int p0), .val (.int p1), .val (.ref bk), .val (.ref bi0), .val (.ref bi1), .val (.int j), .val (.int (p1.toInt16.toInt32)), .val (.int (p1.toInt16.toInt32)), .val (.int (0 : Int32))] [(.ref wk)])) _
        refine XS.iload X227.here hx rfl (hb hby at_423) rfl ?_
        show Steps p.tables e below (T227.setTop (mkF m 425 #[.val (.int p0), .val (.int p1), .val (.ref bk), .val (.ref bi0), .val (.ref bi1), .val (.int j), .val (.int (p1.toInt16.toInt32)), .val (.int (p1.toInt16.toInt32)), .val (.int (0 : Int32))] [(.int (p1.toInt16.toInt32)), (.ref wk)])) _
        refine st241.trans ?_
        show Steps p.tables e below (T241.setTop (mkF m 428 #[.val (.int p0), .val (.int p1), .val (.ref bk), .val (.ref bi0), .val (.ref bi1), .val (.int j), .val (.int (p1.toInt16.toInt32)), .val (.int (p1.toInt16.toInt32)), .val (.int (0 : Int32))] [(.int (0 : Int32))])) _
        refine XS.iload X241.here hx rfl (hb hby at_428) rfl ?_
        show Steps p.tables e below (T241.setTop (mkF m 430 #[.val (.int p0), .val (.int p1), .val (.ref bk), .val (.ref bi0), .val (.ref bi1), .val (.int j), .val (.int (p1.toInt16.toInt32)), .val (.int (p1.toInt16.toInt32)), .val (.int (0 : Int32))] [(.int (0 : Int32)), (.int (0 : Int32))])) _
        refine XS.icmpNo X241.here hx rfl (hb hby at_430) rfl (teq rfl).2 ?_
        show Steps p.tables e below (T241.setTop (mkF m 433 #[.val (.int p0), .val (.int p1), .val (.ref bk), .val (.ref bi0), .val (.ref bi1), .val (.int j), .val (.int (p1.toInt16.toInt32)), .val (.int (p1.toInt16.toInt32)), .val (.int (0 : Int32))] [])) _
        refine XS.iconst X241.here hx rfl (hb hby at_433) ?_
        show Steps p.tables e below (T241.setTop (mkF m 434 #[.val (.int p0), .val (.int p1), .val (.ref bk), .val (.ref bi0), .val (.ref bi1), .val (.int j), .val (.int (p1.toInt16.toInt32)), .val (.int (p1.toInt16.toInt32)), .val (.int (0 : Int32))] [(.int (1 : Int32))])) _
        refine XS.goto X241.here hx rfl (pc0 := 434) (pc' := 438) rfl (hb hby at_434) (by decide) (by decide) ?_
        show Steps p.tables e below (T241.setTop (mkF m 438 #[.val (.int p0), .val (.int p1), .val (.ref bk), .val (.ref bi0), .val (.ref bi1), .val (.int j), .val (.int (p1.toInt16.toInt32)), .val (.int (p1.toInt16.toInt32)), .val (.int (0 : Int32))] [(.int (1 : Int32))])) _
        exact k
      exact own_retN X241 hx (t := .boolean) hret (by simp) hlk (hb hby at_438) (⟨rfl, N241⟩) (by decide) (by decide)
    · obtain ⟨cl242, Ar242, q242, S242, P242, H242, G242⟩ := Vk_bk
      have hin243 : ¬ (j < 0 ∨ cl242.slots.size ≤ (j).toNatClampNeg) := inb_of S242 ⟨hj0, hj1⟩
      have hat243 : cl242.slots[(j).toNatClampNeg]? = some (.ref wk) := H242.at hin243 hk
      have V_bk_243 : Arv Z h227 bk k4 (.object "com/example/humble_log/humblelog/protocol/ApiKey") (22 : Int32) [(.ref w0), (.ref w1), (.ref w2), (.ref w3), (.ref w4), (.ref w5), (.ref w6), (.ref w7), (.ref w8), (.ref w9), (.ref w10), (.ref w11), (.ref w12), (.ref w13), (.ref w14), (.ref w15), (.ref w16), (.ref w17), (.ref w18), (.ref w19), (.ref w20), (.ref w21)] .null := ⟨cl242, Ar242, q242, S242, P242, H242, G242⟩
      obtain ⟨cq244, kq244, q244a, q244b, q244c⟩ := isOf hZ e227 (Ek.ext (own_ext K0_227))
      obtain ⟨_, _, ⟨T244, L244, k244, n244⟩, -, X244, ⟨Lc244, hQ244, l244, y244, z244⟩, st244⟩ := X227.virtualBack hx (y := (⟨"com/example/humble_log/humblelog/protocol/ApiKey", "isServed", "(S)Z"⟩ : MethodName)) (z := (⟨"com/example/humble_log/humblelog/protocol/ApiKey", "isServed", "(S)Z"⟩ : MethodName)) hown (mvT hZ (hw _ (List.mem_of_getElem? (i := 50) rfl))) (mvT hZ (hw _ (List.mem_of_getElem? (i := 51) rfl))) (notFace_of_selects (args := #[]) (mvT hZ (hw _ (List.mem_of_getElem? (i := 53) rfl)))) (mvT hZ (hw _ (List.mem_of_getElem? (i := 53) rfl))) (mvT hZ (hw _ (List.mem_of_getElem? (i := 52) rfl))) (by decide) (backOf (W := 0) (rm1 l Z a0 hw [] wk (p1.toInt16.toInt32) c0 c1 (1 : Int32) h227 n0 zh227 (Fc0.ext (own_ext K0_227)) (Fc1.ext (own_ext K0_227)) (Or.inr (Or.inr ⟨c399_232, c409_238, rfl⟩))) hZ (hw _ (List.mem_of_getElem? (i := 54) rfl)) (hw _ (List.mem_of_getElem? (i := 3) rfl)) (by decide) (by decide)) q244a q244c (g := (mkF m 425 #[.val (.int p0), .val (.int p1), .val (.ref bk), .val (.ref bi0), .val (.ref bi1), .val (.int j), .val (.int (p1.toInt16.toInt32)), .val (.int (p1.toInt16.toInt32)), .val (.int (1 : Int32))] [(.int (p1.toInt16.toInt32)), (.ref wk)])) rfl (by rw [hml]; rfl) (Steps.refl _) (argsL := [(.int (p1.toInt16.toInt32))]) (rest := []) (lenOf pd_0 rfl) rfl (by show 2 * 0 + _ ≤ _; exact Nat.le_of_eq rfl) (hb hby at_425) (fun _ _ => ⟨rfl, e227, (by decide : 3 + 0 ≤ _), (by decide : 66 + 0 ≤ _)⟩)
      dsimp only [Pt.U, Pt.locs, Pt.cells, Pt.slots] at X244 l244 y244 z244 st244 hQ244
      subst l244 y244 z244
      obtain ⟨rfl, N244q, hh244⟩ := hQ244
      have N244 := Fr.app N227 N244q
      refine own_Go.mono (T' := T244) (f' := (mkF m 438 #[.val (.int p0), .val (.int p1), .val (.ref bk), .val (.ref bi0), .val (.ref bi1), .val (.int j), .val (.int (p1.toInt16.toInt32)), .val (.int (p1.toInt16.toInt32)), .val (.int (1 : Int32))] [(.int (1 : Int32))])) (fun t k => ?_) ?_
      · show Steps p.tables e below (T227.setTop (mkF m 409 #[.val (.int p0), .val (.int p1), .val (.ref bk), .val (.ref bi0), .val (.ref bi1), .val (.int j), .val (.int (p1.toInt16.toInt32)), .val (.int (p1.toInt16.toInt32)), .unset] [(.int c1), (.int (p1.toInt16.toInt32))])) _
        refine XS.icmpNo X227.here hx rfl (hb hby at_409) rfl (flt c409_238).2.2.1 ?_
        show Steps p.tables e below (T227.setTop (mkF m 412 #[.val (.int p0), .val (.int p1), .val (.ref bk), .val (.ref bi0), .val (.ref bi1), .val (.int j), .val (.int (p1.toInt16.toInt32)), .val (.int (p1.toInt16.toInt32)), .unset] [])) _
        refine XS.iconst X227.here hx rfl (hb hby at_412) ?_
        show Steps p.tables e below (T227.setTop (mkF m 413 #[.val (.int p0), .val (.int p1), .val (.ref bk), .val (.ref bi0), .val (.ref bi1), .val (.int j), .val (.int (p1.toInt16.toInt32)), .val (.int (p1.toInt16.toInt32)), .unset] [(.int (1 : Int32))])) _
        refine XS.goto X227.here hx rfl (pc0 := 413) (pc' := 417) rfl (hb hby at_413) (by decide) (by decide) ?_
        show Steps p.tables e below (T227.setTop (mkF m 417 #[.val (.int p0), .val (.int p1), .val (.ref bk), .val (.ref bi0), .val (.ref bi1), .val (.int j), .val (.int (p1.toInt16.toInt32)), .val (.int (p1.toInt16.toInt32)), .unset] [(.int (1 : Int32))])) _
        refine XS.istore X227.here hx rfl (hb hby at_417) rfl (l' := #[.val (.int p0), .val (.int p1), .val (.ref bk), .val (.ref bi0), .val (.ref bi1), .val (.int j), .val (.int (p1.toInt16.toInt32)), .val (.int (p1.toInt16.toInt32)), .val (.int (1 : Int32))]) rfl ?_
        show Steps p.tables e below (T227.setTop (mkF m 419 #[.val (.int p0), .val (.int p1), .val (.ref bk), .val (.ref bi0), .val (.ref bi1), .val (.int j), .val (.int (p1.toInt16.toInt32)), .val (.int (p1.toInt16.toInt32)), .val (.int (1 : Int32))] [])) _
        refine XS.aloadN X227.here hx rfl (hb hby at_419) rfl rfl ?_
        show Steps p.tables e below (T227.setTop (mkF m 420 #[.val (.int p0), .val (.int p1), .val (.ref bk), .val (.ref bi0), .val (.ref bi1), .val (.int j), .val (.int (p1.toInt16.toInt32)), .val (.int (p1.toInt16.toInt32)), .val (.int (1 : Int32))] [(.ref bk)])) _
        refine XS.iload X227.here hx rfl (hb hby at_420) rfl ?_
        show Steps p.tables e below (T227.setTop (mkF m 422 #[.val (.int p0), .val (.int p1), .val (.ref bk), .val (.ref bi0), .val (.ref bi1), .val (.int j), .val (.int (p1.toInt16.toInt32)), .val (.int (p1.toInt16.toInt32)), .val (.int (1 : Int32))] [(.int j), (.ref bk)])) _
        refine X227.aaload hx (j := j) (v := (.ref wk)) (by rw [e227]; exact Ar242.1) (State.isArrayOf_alike hZ.alike Ar242.2.1) rfl Ar242.2.2 hin243 hat243 (g := (mkF m 422 #[.val (.int p0), .val (.int p1), .val (.ref bk), .val (.ref bi0), .val (.ref bi1), .val (.int j), .val (.int (p1.toInt16.toInt32)), .val (.int (p1.toInt16.toInt32)), .val (.int (1 : Int32))] [(.int j), (.ref bk)])) rfl rfl (hb hby at_422) _ ?_
        show Steps p.tables e below (T227.setTop (mkF m 423 #[.val (.int p0), .val (.int p1), .val (.ref bk), .val (.ref bi0), .val (.ref bi1), .val (.int j), .val (.int (p1.toInt16.toInt32)), .val (.int (p1.toInt16.toInt32)), .val (.int (1 : Int32))] [(.ref wk)])) _
        refine XS.iload X227.here hx rfl (hb hby at_423) rfl ?_
        show Steps p.tables e below (T227.setTop (mkF m 425 #[.val (.int p0), .val (.int p1), .val (.ref bk), .val (.ref bi0), .val (.ref bi1), .val (.int j), .val (.int (p1.toInt16.toInt32)), .val (.int (p1.toInt16.toInt32)), .val (.int (1 : Int32))] [(.int (p1.toInt16.toInt32)), (.ref wk)])) _
        refine st244.trans ?_
        show Steps p.tables e below (T244.setTop (mkF m 428 #[.val (.int p0), .val (.int p1), .val (.ref bk), .val (.ref bi0), .val (.ref bi1), .val (.int j), .val (.int (p1.toInt16.toInt32)), .val (.int (p1.toInt16.toInt32)), .val (.int (1 : Int32))] [(.int (1 : Int32))])) _
        refine XS.iload X244.here hx rfl (hb hby at_428) rfl ?_
        show Steps p.tables e below (T244.setTop (mkF m 430 #[.val (.int p0), .val (.int p1), .val (.ref bk), .val (.ref bi0), .val (.ref bi1), .val (.int j), .val (.int (p1.toInt16.toInt32)), .val (.int (p1.toInt16.toInt32)), .val (.int (1 : Int32))] [(.int (1 : Int32)), (.int (1 : Int32))])) _
        refine XS.icmpNo X244.here hx rfl (hb hby at_430) rfl (teq rfl).2 ?_
        show Steps p.tables e below (T244.setTop (mkF m 433 #[.val (.int p0), .val (.int p1), .val (.ref bk), .val (.ref bi0), .val (.ref bi1), .val (.int j), .val (.int (p1.toInt16.toInt32)), .val (.int (p1.toInt16.toInt32)), .val (.int (1 : Int32))] [])) _
        refine XS.iconst X244.here hx rfl (hb hby at_433) ?_
        show Steps p.tables e below (T244.setTop (mkF m 434 #[.val (.int p0), .val (.int p1), .val (.ref bk), .val (.ref bi0), .val (.ref bi1), .val (.int j), .val (.int (p1.toInt16.toInt32)), .val (.int (p1.toInt16.toInt32)), .val (.int (1 : Int32))] [(.int (1 : Int32))])) _
        refine XS.goto X244.here hx rfl (pc0 := 434) (pc' := 438) rfl (hb hby at_434) (by decide) (by decide) ?_
        show Steps p.tables e below (T244.setTop (mkF m 438 #[.val (.int p0), .val (.int p1), .val (.ref bk), .val (.ref bi0), .val (.ref bi1), .val (.int j), .val (.int (p1.toInt16.toInt32)), .val (.int (p1.toInt16.toInt32)), .val (.int (1 : Int32))] [(.int (1 : Int32))])) _
        exact k
      exact own_retN X244 hx (t := .boolean) hret (by simp) hlk (hb hby at_438) (⟨rfl, N244⟩) (by decide) (by decide)
set_option maxRecDepth 65536 in
set_option maxHeartbeats 40000000 in
theorem own_comes {Post : Tables → Env → Array Value → State → Outcome → State → Prop} (hpost : ∀ tb e args s v u, (limb_1_1.after args s (.returned v) u = true ∧ limb_1_2.after args s (.returned v) u = true) → FrameEnd s (.returned v) u (Jvm.fieldLocs frame_1_writes args s ++ Jvm.arrayLocs frame_1_arrays args s ++ Jvm.staticLocs frame_1_statics s) 16 256 → Post tb e args s (.returned v) u) :
    ArmFor flags0 classFile x code maxLocals ret World_1 tables_1 room_1 Calls_1 rest_1 Pre_1 Post := by
  intro l hfl _ _ p e ha hc hk s m args below hf hA hF happ hP
  obtain ⟨hcalls, hrest, hpre⟩ := hP
  obtain ⟨-, -, -, hnamed, -, -, -, hat⟩ := (Spec.applies_iff hf).mp happ
  obtain ⟨hg, hn⟩ := and_e (Cond.before_iff.mp (show (Jvm.Cond.and given_1 narrow_1).before args s = true from hpre))
  obtain ⟨g0, k0⟩ := and_e hg
  obtain ⟨g1, k1⟩ := and_e k0
  obtain ⟨w0, w1, rfl⟩ : ∃ w0 w1 : Value, args = #[w0, w1] := by
    have hs : args.size = 2 := by simpa [Cond.value, given_1] using g0
    obtain ⟨L⟩ := args
    match L, hs with
    | [w0, w1], _ => exact ⟨w0, w1, rfl⟩
  have hw := fun d (hd : d ∈ tables_1) => atoms_spec (ws := Jvm.Cond.code x code maxLocals ret :: tables_1) hat d (List.mem_cons_of_mem _ hd)
  obtain ⟨i0, ei0⟩ := is_v g1
  obtain rfl : w0 = (.int i0) := Option.some.inj ei0
  obtain ⟨i1, ei1⟩ := is_v k1
  obtain rfl : w1 = (.int i1) := Option.some.inj ei1
  obtain ⟨y0, z0⟩ := and_e hn
  obtain ⟨y1, z1⟩ := and_e z0
  obtain ⟨y2, z2⟩ := and_e z1
  obtain ⟨y3, z3⟩ := and_e z2
  obtain ⟨y4, z4⟩ := and_e z3
  obtain ⟨y5, z5⟩ := and_e z4
  obtain ⟨y6, z6⟩ := and_e z5
  obtain ⟨y7, z7⟩ := and_e z6
  obtain ⟨y8, z8⟩ := and_e z7
  obtain ⟨y9, z9⟩ := and_e z8
  obtain ⟨y10, z10⟩ := and_e z9
  obtain ⟨y11, z11⟩ := and_e z10
  obtain ⟨y12, z12⟩ := and_e z11
  obtain ⟨y13, z13⟩ := and_e z12
  obtain ⟨y14, z14⟩ := and_e z13
  obtain ⟨y15, z15⟩ := and_e z14
  obtain ⟨y16, z16⟩ := and_e z15
  obtain ⟨y17, z17⟩ := and_e z16
  obtain ⟨y18, z18⟩ := and_e z17
  obtain ⟨y19, z19⟩ := and_e z18
  obtain ⟨y20, z20⟩ := and_e z19
  obtain ⟨y21, z21⟩ := and_e z20
  obtain ⟨y22, z22⟩ := and_e z21
  obtain ⟨y23, z23⟩ := and_e z22
  obtain ⟨y24, z24⟩ := and_e z23
  obtain ⟨y25, z25⟩ := and_e z24
  obtain ⟨y26, z26⟩ := and_e z25
  obtain ⟨y27, z27⟩ := and_e z26
  obtain ⟨y28, z28⟩ := and_e z27
  obtain ⟨y29, z29⟩ := and_e z28
  obtain ⟨y30, z30⟩ := and_e z29
  obtain ⟨y31, z31⟩ := and_e z30
  obtain ⟨y32, z32⟩ := and_e z31
  obtain ⟨y33, z33⟩ := and_e z32
  obtain ⟨y34, z34⟩ := and_e z33
  obtain ⟨y35, z35⟩ := and_e z34
  obtain ⟨y36, z36⟩ := and_e z35
  obtain ⟨y37, z37⟩ := and_e z36
  obtain ⟨y38, z38⟩ := and_e z37
  obtain ⟨y39, z39⟩ := and_e z38
  obtain ⟨y40, z40⟩ := and_e z39
  obtain ⟨y41, z41⟩ := and_e z40
  obtain ⟨y42, z42⟩ := and_e z41
  obtain ⟨y43, z43⟩ := and_e z42
  obtain ⟨y44, z44⟩ := and_e z43
  obtain ⟨y45, z45⟩ := and_e z44
  obtain ⟨y46, z46⟩ := and_e z45
  obtain ⟨y47, z47⟩ := and_e z46
  obtain ⟨y48, z48⟩ := and_e z47
  obtain ⟨y49, z49⟩ := and_e z48
  obtain ⟨y50, z50⟩ := and_e z49
  obtain ⟨y51, z51⟩ := and_e z50
  obtain ⟨y52, z52⟩ := and_e z51
  obtain ⟨y53, z53⟩ := and_e z52
  obtain ⟨y54, z54⟩ := and_e z53
  obtain ⟨y55, z55⟩ := and_e z54
  obtain ⟨y56, z56⟩ := and_e z55
  obtain ⟨y57, z57⟩ := and_e z56
  obtain ⟨y58, z58⟩ := and_e z57
  obtain ⟨y59, z59⟩ := and_e z58
  obtain ⟨y60, z60⟩ := and_e z59
  obtain ⟨y61, z61⟩ := and_e z60
  obtain ⟨y62, z62⟩ := and_e z61
  obtain ⟨y63, z63⟩ := and_e z62
  obtain ⟨y64, z64⟩ := and_e z63
  obtain ⟨u0, ev0, S0_, E0_⟩ := own_keyI y0 (hw _ (List.mem_of_getElem? (i := 3) rfl)) (hw _ (List.mem_of_getElem? (i := 4) rfl))
  have F0_0 := own_pin ev0 y22
  have F0_1 := own_pin ev0 y23
  obtain ⟨u1, ev1, S1_, E1_⟩ := own_keyI y1 (hw _ (List.mem_of_getElem? (i := 3) rfl)) (hw _ (List.mem_of_getElem? (i := 7) rfl))
  have F1_0 := own_pin ev1 y43
  have F1_1 := own_pin ev1 y48
  obtain ⟨u2, ev2, S2_, E2_⟩ := own_keyI y2 (hw _ (List.mem_of_getElem? (i := 3) rfl)) (hw _ (List.mem_of_getElem? (i := 9) rfl))
  have F2_0 := own_pin ev2 y44
  have F2_1 := own_pin ev2 y45
  obtain ⟨u3, ev3, S3_, E3_⟩ := own_keyI y3 (hw _ (List.mem_of_getElem? (i := 3) rfl)) (hw _ (List.mem_of_getElem? (i := 11) rfl))
  have F3_0 := own_pin ev3 y36
  have F3_1 := own_pin ev3 y37
  obtain ⟨u4, ev4, S4_, E4_⟩ := own_keyI y4 (hw _ (List.mem_of_getElem? (i := 3) rfl)) (hw _ (List.mem_of_getElem? (i := 13) rfl))
  have F4_0 := own_pin ev4 y56
  have F4_1 := own_pin ev4 y62
  obtain ⟨u5, ev5, S5_, E5_⟩ := own_keyI y5 (hw _ (List.mem_of_getElem? (i := 3) rfl)) (hw _ (List.mem_of_getElem? (i := 15) rfl))
  have F5_0 := own_pin ev5 y27
  have F5_1 := own_pin ev5 y28
  obtain ⟨u6, ev6, S6_, E6_⟩ := own_keyI y6 (hw _ (List.mem_of_getElem? (i := 3) rfl)) (hw _ (List.mem_of_getElem? (i := 17) rfl))
  have F6_0 := own_pin ev6 y29
  have F6_1 := own_pin ev6 y30
  obtain ⟨u7, ev7, S7_, E7_⟩ := own_keyI y7 (hw _ (List.mem_of_getElem? (i := 3) rfl)) (hw _ (List.mem_of_getElem? (i := 19) rfl))
  have F7_0 := own_pin ev7 y55
  have F7_1 := own_pin ev7 y63
  obtain ⟨u8, ev8, S8_, E8_⟩ := own_keyI y8 (hw _ (List.mem_of_getElem? (i := 3) rfl)) (hw _ (List.mem_of_getElem? (i := 21) rfl))
  have F8_0 := own_pin ev8 y31
  have F8_1 := own_pin ev8 y38
  obtain ⟨u9, ev9, S9_, E9_⟩ := own_keyI y9 (hw _ (List.mem_of_getElem? (i := 3) rfl)) (hw _ (List.mem_of_getElem? (i := 23) rfl))
  have F9_0 := own_pin ev9 y34
  have F9_1 := own_pin ev9 y35
  obtain ⟨u10, ev10, S10_, E10_⟩ := own_keyI y10 (hw _ (List.mem_of_getElem? (i := 3) rfl)) (hw _ (List.mem_of_getElem? (i := 25) rfl))
  have F10_0 := own_pin ev10 y49
  have F10_1 := own_pin ev10 y50
  obtain ⟨u11, ev11, S11_, E11_⟩ := own_keyI y11 (hw _ (List.mem_of_getElem? (i := 3) rfl)) (hw _ (List.mem_of_getElem? (i := 27) rfl))
  have F11_0 := own_pin ev11 y41
  have F11_1 := own_pin ev11 y42
  obtain ⟨u12, ev12, S12_, E12_⟩ := own_keyI y12 (hw _ (List.mem_of_getElem? (i := 3) rfl)) (hw _ (List.mem_of_getElem? (i := 29) rfl))
  have F12_0 := own_pin ev12 y32
  have F12_1 := own_pin ev12 y33
  obtain ⟨u13, ev13, S13_, E13_⟩ := own_keyI y13 (hw _ (List.mem_of_getElem? (i := 3) rfl)) (hw _ (List.mem_of_getElem? (i := 31) rfl))
  have F13_0 := own_pin ev13 y39
  have F13_1 := own_pin ev13 y40
  obtain ⟨u14, ev14, S14_, E14_⟩ := own_keyI y14 (hw _ (List.mem_of_getElem? (i := 3) rfl)) (hw _ (List.mem_of_getElem? (i := 33) rfl))
  have F14_0 := own_pin ev14 y24
  have F14_1 := own_pin ev14 y61
  obtain ⟨u15, ev15, S15_, E15_⟩ := own_keyI y15 (hw _ (List.mem_of_getElem? (i := 3) rfl)) (hw _ (List.mem_of_getElem? (i := 35) rfl))
  have F15_0 := own_pin ev15 y59
  have F15_1 := own_pin ev15 y60
  obtain ⟨u16, ev16, S16_, E16_⟩ := own_keyI y16 (hw _ (List.mem_of_getElem? (i := 3) rfl)) (hw _ (List.mem_of_getElem? (i := 37) rfl))
  have F16_0 := own_pin ev16 y46
  have F16_1 := own_pin ev16 y47
  obtain ⟨u17, ev17, S17_, E17_⟩ := own_keyI y17 (hw _ (List.mem_of_getElem? (i := 3) rfl)) (hw _ (List.mem_of_getElem? (i := 39) rfl))
  have F17_0 := own_pin ev17 y64
  have F17_1 := own_pin ev17 z64
  obtain ⟨u18, ev18, S18_, E18_⟩ := own_keyI y18 (hw _ (List.mem_of_getElem? (i := 3) rfl)) (hw _ (List.mem_of_getElem? (i := 41) rfl))
  have F18_0 := own_pin ev18 y53
  have F18_1 := own_pin ev18 y54
  obtain ⟨u19, ev19, S19_, E19_⟩ := own_keyI y19 (hw _ (List.mem_of_getElem? (i := 3) rfl)) (hw _ (List.mem_of_getElem? (i := 43) rfl))
  have F19_0 := own_pin ev19 y57
  have F19_1 := own_pin ev19 y58
  obtain ⟨u20, ev20, S20_, E20_⟩ := own_keyI y20 (hw _ (List.mem_of_getElem? (i := 3) rfl)) (hw _ (List.mem_of_getElem? (i := 45) rfl))
  have F20_0 := own_pin ev20 y25
  have F20_1 := own_pin ev20 y26
  obtain ⟨u21, ev21, S21_, E21_⟩ := own_keyI y21 (hw _ (List.mem_of_getElem? (i := 3) rfl)) (hw _ (List.mem_of_getElem? (i := 47) rfl))
  have F21_0 := own_pin ev21 y51
  have F21_1 := own_pin ev21 y52
  obtain ⟨n, o, h1, h2, h3, vv, L, rfl, ⟨rfl, N⟩, hq⟩ := rm0 l s _ hw tables_1 i0 i1 u0 u1 u2 u3 u4 u5 u6 u7 u8 u9 u10 u11 u12 u13 u14 u15 u16 u17 u18 u19 u20 u21 s.heap s.heap.size (Nat.le_refl _) S0_ E0_ F0_0 F0_1 S1_ E1_ F1_0 F1_1 S2_ E2_ F2_0 F2_1 S3_ E3_ F3_0 F3_1 S4_ E4_ F4_0 F4_1 S5_ E5_ F5_0 F5_1 S6_ E6_ F6_0 F6_1 S7_ E7_ F7_0 F7_1 S8_ E8_ F8_0 F8_1 S9_ E9_ F9_0 F9_1 S10_ E10_ F10_0 F10_1 S11_ E11_ F11_0 F11_1 S12_ E12_ F12_0 F12_1 S13_ E13_ F13_0 F13_1 S14_ E14_ F14_0 F14_1 S15_ E15_ F15_0 F15_1 S16_ E16_ F16_0 F16_1 S17_ E17_ F17_0 F17_1 S18_ E18_ F18_0 F18_1 S19_ E19_ F19_0 F19_1 S20_ E20_ F20_0 F20_1 S21_ E21_ F21_0 F21_1 p e ha hc hk s m _ below hf ((Spec.applies_iff_loose hf).mp happ).1 ⟨rfl, State.Warmed39.refl s, rfl⟩ trivial
  refine ⟨n, _, h1, h2, h3, hpost _ _ _ _ _ _ ⟨Cond.after_iff.mpr rfl, Cond.after_iff.mpr (eq_i res_at (Term.int_eval (1)) rfl)⟩ ⟨hq.1, hq.2.1, (hq.2.2.sift fun y hy => Or.inr (N y hy)).mono (by decide) (by decide)⟩⟩
theorem main_1_1 : Claimed_1_1 := own_comes fun _ _ _ _ _ _ h hF => ⟨h.1, hF⟩
theorem main_1_2 : Claimed_1_2 := own_comes fun _ _ _ _ _ _ h hF => ⟨h.2, hF⟩
end Jvm.Pilot.@@N@@
namespace Jvm.Pilot.@@N@@
open Jvm Jvm.ClassFile Sem Op Lib Jvm.Free Jvm.Stand Jvm.Pilot.@@N@@.Jvm.D
/-! MADE BY PROGRAM (witnessworld.py) out of the Statement's table words and the real class files: 13 classes; the members and pool entries that the words name. The judged class is class 1, her method 1. -/
namespace start1
open Jvm.ClassFile
def u (s : String) : CpInfo := .utf8 (stringToUtf16 s)
/-- a pool by its gaps: so many unusable entries, then the entry; so many at the end -/
def gap : Nat → List CpInfo → List CpInfo
  | 0, r => r
  | n + 1, r => .unusable :: gap n r
def poolList (es : List (Nat × CpInfo)) (last : Nat) : List CpInfo := es.foldr (fun e r => gap e.1 (e.2 :: r)) (gap last [])
def pool (es : List (Nat × CpInfo)) (last : Nat) : Array CpInfo := ⟨poolList es last⟩
def fileOf (pool : Array CpInfo) (this : Nat) (attrs : Array Attribute := #[]) (ms : Array MethodInfo := #[]) (fl : Nat := 33) (sup : Nat := 0) (ifs : Array Nat := #[]) (fds : Array FieldInfo := #[]) : ClassFile where
  minorVersion := 0
  majorVersion := 65
  constantPool := pool
  accessFlags := fl
  thisClass := this
  superClass := sup
  interfaces := ifs
  fields := fds
  methods := ms
  attributes := attrs
def plain (name : String) (sup : Option ClassId) : Class where
  name := name
  kind := .ordinary
  loader := none
  accessFlags := 33
  super := sup
  interfaces := #[]
  cf := none
  fields := #[]
  methods := #[]
  instanceTypes := #[]
  staticTypes := #[]
  resolved := #[]
  callSites := []
  init := .initialized
  statics := none
  mirror := none

def pool0 : Array CpInfo := pool [(5, u "<init>"), (0, u "()V"), (1, .class_ 10), (1, u "java/lang/Object")] 113

def k0m0 : Method := { name := "<init>", desc := "()V", sig := { parameters := [], returnType := none }, accessFlags := 1, code := none }
/-- java/lang/Object -/
def k0 : Class := { plain "java/lang/Object" none with
  accessFlags := 33
  interfaces := #[]
  cf := some (fileOf pool0 8 #[] #[{ accessFlags := 1, nameIndex := 5, descriptorIndex := 6, attributes := #[] }] 33 0 #[] #[])
  fields := #[]
  methods := #[k0m0]
  instanceTypes := #[]
  staticTypes := #[]
  resolved := Array.replicate 124 none
  statics := none }

def pool1 : Array CpInfo := pool [(2, .class_ 4), (1, u "java/lang/Object"), (0, u "<init>"), (0, u "()V"), (0, .class_ 8), (0, u "com/example/humble_log/humblelog/protocol/ApiKey"), (0, .fieldref 7 10), (0, .nameAndType 11 12), (0, u "PRODUCE"), (0, u "Lcom/example/humble_log/humblelog/protocol/ApiKey;"), (0, .fieldref 7 14), (0, .nameAndType 15 12), (0, u "FETCH"), (0, .fieldref 7 17), (0, .nameAndType 18 12), (0, u "LIST_OFFSETS"), (0, .fieldref 7 20), (0, .nameAndType 21 12), (0, u "METADATA"), (0, .fieldref 7 23), (0, .nameAndType 24 12), (0, u "OFFSET_COMMIT"), (0, .fieldref 7 26), (0, .nameAndType 27 12), (0, u "OFFSET_FETCH"), (0, .fieldref 7 29), (0, .nameAndType 30 12), (0, u "FIND_COORDINATOR"), (0, .fieldref 7 32), (0, .nameAndType 33 12), (0, u "JOIN_GROUP"), (0, .fieldref 7 35), (0, .nameAndType 36 12), (0, u "HEARTBEAT"), (0, .fieldref 7 38), (0, .nameAndType 39 12), (0, u "LEAVE_GROUP"), (0, .fieldref 7 41), (0, .nameAndType 42 12), (0, u "SYNC_GROUP"), (0, .fieldref 7 44), (0, .nameAndType 45 12), (0, u "DESCRIBE_GROUPS"), (0, .fieldref 7 47), (0, .nameAndType 48 12), (0, u "LIST_GROUPS"), (0, .fieldref 7 50), (0, .nameAndType 51 12), (0, u "API_VERSIONS"), (0, .fieldref 7 53), (0, .nameAndType 54 12), (0, u "CREATE_TOPICS"), (0, .fieldref 7 56), (0, .nameAndType 57 12), (0, u "DELETE_TOPICS"), (0, .fieldref 7 59), (0, .nameAndType 60 12), (0, u "INIT_PRODUCER_ID"), (0, .fieldref 7 62), (0, .nameAndType 63 12), (0, u "DESCRIBE_CONFIGS"), (0, .fieldref 7 65), (0, .nameAndType 66 12), (0, u "ALTER_CONFIGS"), (0, .fieldref 7 68), (0, .nameAndType 69 12), (0, u "CREATE_PARTITIONS"), (0, .fieldref 7 71), (0, .nameAndType 72 12), (0, u "DELETE_GROUPS"), (0, .fieldref 7 74), (0, .nameAndType 75 12), (0, u "INCREMENTAL_ALTER_CONFIGS"), (0, .integer 2147483647), (0, .methodref 7 78), (0, .nameAndType 79 80), (0, u "isServed"), (0, u "(S)Z"), (0, .class_ 82), (0, u "com/example/humble_log/humblelog/protocol/ApiKeyIsServedPinLaw"), (2, u "law"), (0, u "(II)Z")] 7

def k1m0 : Method := { name := "<init>", desc := "()V", sig := { parameters := [], returnType := none }, accessFlags := 1, code := none }
def k1c1 : Code := { maxStack := 4, maxLocals := 9, code := code, exceptionTable := #[], attributes := #[] }
def k1m1 : Method := { name := "law", desc := "(II)Z", sig := { parameters := [.int, .int], returnType := some .boolean }, accessFlags := 9, code := some k1c1 }
/-- com/example/humble_log/humblelog/protocol/ApiKeyIsServedPinLaw -/
def k1 : Class := { plain "com/example/humble_log/humblelog/protocol/ApiKeyIsServedPinLaw" (some 0) with
  accessFlags := 49
  interfaces := #[]
  cf := some (fileOf pool1 81 #[] #[{ accessFlags := 1, nameIndex := 5, descriptorIndex := 6, attributes := #[] }, { accessFlags := 9, nameIndex := 85, descriptorIndex := 86, attributes := #[] }] 49 2 #[] #[])
  fields := #[]
  methods := #[k1m0, k1m1]
  instanceTypes := #[]
  staticTypes := #[]
  resolved := Array.replicate 94 none
  statics := none }

def pool2 : Array CpInfo := pool [(1, .class_ 2), (0, u "java/lang/constant/Constable"), (0, .class_ 4), (0, u "java/lang/Object")] 6

/-- java/lang/constant/Constable -/
def k2 : Class := { plain "java/lang/constant/Constable" (some 0) with
  accessFlags := 1537
  interfaces := #[]
  cf := some (fileOf pool2 1 #[] #[] 1537 3 #[] #[])
  fields := #[]
  methods := #[]
  instanceTypes := #[]
  staticTypes := #[]
  resolved := Array.replicate 11 none
  statics := none }

def pool3 : Array CpInfo := pool [(1, .class_ 2), (0, u "java/lang/Comparable"), (0, .class_ 4), (0, u "java/lang/Object")] 7

/-- java/lang/Comparable -/
def k3 : Class := { plain "java/lang/Comparable" (some 0) with
  accessFlags := 1537
  interfaces := #[]
  cf := some (fileOf pool3 1 #[] #[] 1537 3 #[] #[])
  fields := #[]
  methods := #[]
  instanceTypes := #[]
  staticTypes := #[]
  resolved := Array.replicate 12 none
  statics := none }

def pool4 : Array CpInfo := pool [(1, .class_ 2), (0, u "java/io/Serializable"), (0, .class_ 4), (0, u "java/lang/Object")] 2

/-- java/io/Serializable -/
def k4 : Class := { plain "java/io/Serializable" (some 0) with
  accessFlags := 1537
  interfaces := #[]
  cf := some (fileOf pool4 1 #[] #[] 1537 3 #[] #[])
  fields := #[]
  methods := #[]
  instanceTypes := #[]
  staticTypes := #[]
  resolved := Array.replicate 7 none
  statics := none }

def pool5 : Array CpInfo := pool [(2, .class_ 4), (1, u "java/lang/Enum"), (0, u "name"), (0, u "Ljava/lang/String;"), (2, u "ordinal"), (0, u "I"), (1, .class_ 14), (1, u "java/lang/Object"), (4, u "hash"), (86, .class_ 108), (1, u "java/lang/Enum$EnumDesc"), (2, .class_ 112), (0, u "java/lang/constant/Constable"), (0, .class_ 114), (0, u "java/lang/Comparable"), (0, .class_ 116), (0, u "java/io/Serializable")] 87

/-- java/lang/Enum -/
def k5 : Class := { plain "java/lang/Enum" (some 0) with
  accessFlags := 1057
  interfaces := #[2, 3, 4]
  cf := some (fileOf pool5 2 #[.nestMembers #[106]] #[] 1057 12 #[111, 113, 115] #[{ accessFlags := 18, nameIndex := 5, descriptorIndex := 6, attributes := #[] }, { accessFlags := 18, nameIndex := 9, descriptorIndex := 10, attributes := #[] }, { accessFlags := 2, nameIndex := 19, descriptorIndex := 10, attributes := #[] }])
  fields := #[{ name := "name", type := (.object "java/lang/String"), accessFlags := 18, slot := 0, constantValue := 0 }, { name := "ordinal", type := .int, accessFlags := 18, slot := 1, constantValue := 0 }, { name := "hash", type := .int, accessFlags := 2, slot := 2, constantValue := 0 }]
  methods := #[]
  instanceTypes := #[(.object "java/lang/String"), .int, .int]
  staticTypes := #[]
  resolved := Array.replicate 204 none
  statics := none }

def pool6 : Array CpInfo := pool [(1, .class_ 2), (0, u "com/example/humble_log/humblelog/protocol/ApiKey"), (2, u "PRODUCE"), (0, u "Lcom/example/humble_log/humblelog/protocol/ApiKey;"), (2, u "FETCH"), (2, u "LIST_OFFSETS"), (2, u "METADATA"), (2, u "OFFSET_COMMIT"), (2, u "OFFSET_FETCH"), (2, u "FIND_COORDINATOR"), (2, u "JOIN_GROUP"), (2, u "HEARTBEAT"), (2, u "LEAVE_GROUP"), (2, u "SYNC_GROUP"), (2, u "DESCRIBE_GROUPS"), (2, u "LIST_GROUPS"), (2, u "API_VERSIONS"), (2, u "CREATE_TOPICS"), (2, u "DELETE_TOPICS"), (2, u "INIT_PRODUCER_ID"), (2, u "DESCRIBE_CONFIGS"), (2, u "ALTER_CONFIGS"), (2, u "CREATE_PARTITIONS"), (2, u "DELETE_GROUPS"), (2, u "INCREMENTAL_ALTER_CONFIGS"), (2, u "$VALUES"), (0, u "[Lcom/example/humble_log/humblelog/protocol/ApiKey;"), (6, .class_ 82), (1, u "java/lang/Enum"), (8, u "code"), (0, u "S"), (0, .fieldref 1 94), (0, .nameAndType 95 92), (0, u "minVersion"), (0, .fieldref 1 97), (0, .nameAndType 98 92), (0, u "maxVersion"), (2, u "firstFlexibleVersion"), (53, u "isServed"), (0, u "(S)Z")] 6

def k6c0 : Code := { maxStack := 2, maxLocals := 2, code := prog_18_method_8_code, exceptionTable := #[], attributes := #[] }
def k6m0 : Method := { name := "isServed", desc := "(S)Z", sig := { parameters := [.short], returnType := some .boolean }, accessFlags := 1, code := some k6c0 }
/-- com/example/humble_log/humblelog/protocol/ApiKey -/
def k6 : Class := { plain "com/example/humble_log/humblelog/protocol/ApiKey" (some 5) with
  accessFlags := 16433
  interfaces := #[]
  cf := some (fileOf pool6 1 #[] #[{ accessFlags := 1, nameIndex := 155, descriptorIndex := 156, attributes := #[] }] 16433 80 #[] #[{ accessFlags := 16409, nameIndex := 5, descriptorIndex := 6, attributes := #[] }, { accessFlags := 16409, nameIndex := 9, descriptorIndex := 6, attributes := #[] }, { accessFlags := 16409, nameIndex := 12, descriptorIndex := 6, attributes := #[] }, { accessFlags := 16409, nameIndex := 15, descriptorIndex := 6, attributes := #[] }, { accessFlags := 16409, nameIndex := 18, descriptorIndex := 6, attributes := #[] }, { accessFlags := 16409, nameIndex := 21, descriptorIndex := 6, attributes := #[] }, { accessFlags := 16409, nameIndex := 24, descriptorIndex := 6, attributes := #[] }, { accessFlags := 16409, nameIndex := 27, descriptorIndex := 6, attributes := #[] }, { accessFlags := 16409, nameIndex := 30, descriptorIndex := 6, attributes := #[] }, { accessFlags := 16409, nameIndex := 33, descriptorIndex := 6, attributes := #[] }, { accessFlags := 16409, nameIndex := 36, descriptorIndex := 6, attributes := #[] }, { accessFlags := 16409, nameIndex := 39, descriptorIndex := 6, attributes := #[] }, { accessFlags := 16409, nameIndex := 42, descriptorIndex := 6, attributes := #[] }, { accessFlags := 16409, nameIndex := 45, descriptorIndex := 6, attributes := #[] }, { accessFlags := 16409, nameIndex := 48, descriptorIndex := 6, attributes := #[] }, { accessFlags := 16409, nameIndex := 51, descriptorIndex := 6, attributes := #[] }, { accessFlags := 16409, nameIndex := 54, descriptorIndex := 6, attributes := #[] }, { accessFlags := 16409, nameIndex := 57, descriptorIndex := 6, attributes := #[] }, { accessFlags := 16409, nameIndex := 60, descriptorIndex := 6, attributes := #[] }, { accessFlags := 16409, nameIndex := 63, descriptorIndex := 6, attributes := #[] }, { accessFlags := 16409, nameIndex := 66, descriptorIndex := 6, attributes := #[] }, { accessFlags := 16409, nameIndex := 69, descriptorIndex := 6, attributes := #[] }, { accessFlags := 18, nameIndex := 91, descriptorIndex := 92, attributes := #[] }, { accessFlags := 18, nameIndex := 95, descriptorIndex := 92, attributes := #[] }, { accessFlags := 18, nameIndex := 98, descriptorIndex := 92, attributes := #[] }, { accessFlags := 18, nameIndex := 101, descriptorIndex := 92, attributes := #[] }, { accessFlags := 4122, nameIndex := 72, descriptorIndex := 73, attributes := #[] }])
  fields := #[{ name := "PRODUCE", type := (.object "com/example/humble_log/humblelog/protocol/ApiKey"), accessFlags := 16409, slot := 0, constantValue := 0 }, { name := "FETCH", type := (.object "com/example/humble_log/humblelog/protocol/ApiKey"), accessFlags := 16409, slot := 1, constantValue := 0 }, { name := "LIST_OFFSETS", type := (.object "com/example/humble_log/humblelog/protocol/ApiKey"), accessFlags := 16409, slot := 2, constantValue := 0 }, { name := "METADATA", type := (.object "com/example/humble_log/humblelog/protocol/ApiKey"), accessFlags := 16409, slot := 3, constantValue := 0 }, { name := "OFFSET_COMMIT", type := (.object "com/example/humble_log/humblelog/protocol/ApiKey"), accessFlags := 16409, slot := 4, constantValue := 0 }, { name := "OFFSET_FETCH", type := (.object "com/example/humble_log/humblelog/protocol/ApiKey"), accessFlags := 16409, slot := 5, constantValue := 0 }, { name := "FIND_COORDINATOR", type := (.object "com/example/humble_log/humblelog/protocol/ApiKey"), accessFlags := 16409, slot := 6, constantValue := 0 }, { name := "JOIN_GROUP", type := (.object "com/example/humble_log/humblelog/protocol/ApiKey"), accessFlags := 16409, slot := 7, constantValue := 0 }, { name := "HEARTBEAT", type := (.object "com/example/humble_log/humblelog/protocol/ApiKey"), accessFlags := 16409, slot := 8, constantValue := 0 }, { name := "LEAVE_GROUP", type := (.object "com/example/humble_log/humblelog/protocol/ApiKey"), accessFlags := 16409, slot := 9, constantValue := 0 }, { name := "SYNC_GROUP", type := (.object "com/example/humble_log/humblelog/protocol/ApiKey"), accessFlags := 16409, slot := 10, constantValue := 0 }, { name := "DESCRIBE_GROUPS", type := (.object "com/example/humble_log/humblelog/protocol/ApiKey"), accessFlags := 16409, slot := 11, constantValue := 0 }, { name := "LIST_GROUPS", type := (.object "com/example/humble_log/humblelog/protocol/ApiKey"), accessFlags := 16409, slot := 12, constantValue := 0 }, { name := "API_VERSIONS", type := (.object "com/example/humble_log/humblelog/protocol/ApiKey"), accessFlags := 16409, slot := 13, constantValue := 0 }, { name := "CREATE_TOPICS", type := (.object "com/example/humble_log/humblelog/protocol/ApiKey"), accessFlags := 16409, slot := 14, constantValue := 0 }, { name := "DELETE_TOPICS", type := (.object "com/example/humble_log/humblelog/protocol/ApiKey"), accessFlags := 16409, slot := 15, constantValue := 0 }, { name := "INIT_PRODUCER_ID", type := (.object "com/example/humble_log/humblelog/protocol/ApiKey"), accessFlags := 16409, slot := 16, constantValue := 0 }, { name := "DESCRIBE_CONFIGS", type := (.object "com/example/humble_log/humblelog/protocol/ApiKey"), accessFlags := 16409, slot := 17, constantValue := 0 }, { name := "ALTER_CONFIGS", type := (.object "com/example/humble_log/humblelog/protocol/ApiKey"), accessFlags := 16409, slot := 18, constantValue := 0 }, { name := "CREATE_PARTITIONS", type := (.object "com/example/humble_log/humblelog/protocol/ApiKey"), accessFlags := 16409, slot := 19, constantValue := 0 }, { name := "DELETE_GROUPS", type := (.object "com/example/humble_log/humblelog/protocol/ApiKey"), accessFlags := 16409, slot := 20, constantValue := 0 }, { name := "INCREMENTAL_ALTER_CONFIGS", type := (.object "com/example/humble_log/humblelog/protocol/ApiKey"), accessFlags := 16409, slot := 21, constantValue := 0 }, { name := "code", type := .short, accessFlags := 18, slot := 3, constantValue := 0 }, { name := "minVersion", type := .short, accessFlags := 18, slot := 4, constantValue := 0 }, { name := "maxVersion", type := .short, accessFlags := 18, slot := 5, constantValue := 0 }, { name := "firstFlexibleVersion", type := .short, accessFlags := 18, slot := 6, constantValue := 0 }, { name := "$VALUES", type := (.array (.object "com/example/humble_log/humblelog/protocol/ApiKey")), accessFlags := 4122, slot := 22, constantValue := 0 }]
  methods := #[k6m0]
  instanceTypes := #[(.object "java/lang/String"), .int, .int, .short, .short, .short, .short]
  staticTypes := #[(.object "com/example/humble_log/humblelog/protocol/ApiKey"), (.object "com/example/humble_log/humblelog/protocol/ApiKey"), (.object "com/example/humble_log/humblelog/protocol/ApiKey"), (.object "com/example/humble_log/humblelog/protocol/ApiKey"), (.object "com/example/humble_log/humblelog/protocol/ApiKey"), (.object "com/example/humble_log/humblelog/protocol/ApiKey"), (.object "com/example/humble_log/humblelog/protocol/ApiKey"), (.object "com/example/humble_log/humblelog/protocol/ApiKey"), (.object "com/example/humble_log/humblelog/protocol/ApiKey"), (.object "com/example/humble_log/humblelog/protocol/ApiKey"), (.object "com/example/humble_log/humblelog/protocol/ApiKey"), (.object "com/example/humble_log/humblelog/protocol/ApiKey"), (.object "com/example/humble_log/humblelog/protocol/ApiKey"), (.object "com/example/humble_log/humblelog/protocol/ApiKey"), (.object "com/example/humble_log/humblelog/protocol/ApiKey"), (.object "com/example/humble_log/humblelog/protocol/ApiKey"), (.object "com/example/humble_log/humblelog/protocol/ApiKey"), (.object "com/example/humble_log/humblelog/protocol/ApiKey"), (.object "com/example/humble_log/humblelog/protocol/ApiKey"), (.object "com/example/humble_log/humblelog/protocol/ApiKey"), (.object "com/example/humble_log/humblelog/protocol/ApiKey"), (.object "com/example/humble_log/humblelog/protocol/ApiKey"), (.array (.object "com/example/humble_log/humblelog/protocol/ApiKey"))]
  resolved := Array.replicate 163 none
  statics := some 0 }

def pool7 : Array CpInfo := pool [(1, u "java/lang/Cloneable"), (0, .class_ 1), (0, u "java/lang/Object"), (0, .class_ 3)] 3

/-- java/lang/Cloneable -/
def k7 : Class := { plain "java/lang/Cloneable" (some 0) with
  accessFlags := 1537
  interfaces := #[]
  cf := some (fileOf pool7 2 #[] #[] 1537 4 #[] #[])
  fields := #[]
  methods := #[]
  instanceTypes := #[]
  staticTypes := #[]
  resolved := Array.replicate 8 none
  statics := none }

/-- the primitive byte -/
def k8 : Class := { plain "byte" none with kind := .primitive 'B', accessFlags := 0x411 }
/-- [B -/
def k9 : Class := { plain "[B" (some 0) with kind := .array 8 .byte, interfaces := #[7, 4], accessFlags := 1041 }

/-- the primitive int -/
def k10 : Class := { plain "int" none with kind := .primitive 'I', accessFlags := 0x411 }
/-- [I -/
def k11 : Class := { plain "[I" (some 0) with kind := .array 10 .int, interfaces := #[7, 4], accessFlags := 1041 }

/-- [Lcom/example/humble_log/humblelog/protocol/ApiKey; -/
def k12 : Class := { plain "[Lcom/example/humble_log/humblelog/protocol/ApiKey;" (some 0) with kind := .array 6 (.object "com/example/humble_log/humblelog/protocol/ApiKey"), interfaces := #[7, 4], accessFlags := 1041 }

def heap : Heap := #[{ cls := 6, slots := #[.ref 1, .ref 12, .ref 13, .ref 9, .ref 19, .ref 4, .ref 5, .ref 18, .ref 6, .ref 8, .ref 15, .ref 11, .ref 7, .ref 10, .ref 2, .ref 21, .ref 14, .ref 22, .ref 17, .ref 20, .ref 3, .ref 16, .null], vm := .statics 6 },
  { cls := 6, slots := #[.null, .int 0, .int 0, .int 0, .int 0, .int 7, .int 0], vm := .none },
  { cls := 6, slots := #[.null, .int 1, .int 0, .int 0, .int 2, .int 4, .int 0], vm := .none },
  { cls := 6, slots := #[.null, .int 2, .int 0, .int 0, .int 0, .int 1, .int 0], vm := .none },
  { cls := 6, slots := #[.null, .int 3, .int 0, .int 0, .int 1, .int 5, .int 0], vm := .none },
  { cls := 6, slots := #[.null, .int 4, .int 0, .int 0, .int 0, .int 2, .int 0], vm := .none },
  { cls := 6, slots := #[.null, .int 5, .int 0, .int 0, .int 0, .int 3, .int 0], vm := .none },
  { cls := 6, slots := #[.null, .int 6, .int 0, .int 0, .int 0, .int 2, .int 0], vm := .none },
  { cls := 6, slots := #[.null, .int 7, .int 0, .int 0, .int 0, .int 1, .int 0], vm := .none },
  { cls := 6, slots := #[.null, .int 8, .int 0, .int 0, .int 0, .int 5, .int 0], vm := .none },
  { cls := 6, slots := #[.null, .int 9, .int 0, .int 0, .int 0, .int 3, .int 0], vm := .none },
  { cls := 6, slots := #[.null, .int 10, .int 0, .int 0, .int 0, .int 4, .int 0], vm := .none },
  { cls := 6, slots := #[.null, .int 11, .int 0, .int 0, .int 4, .int 11, .int 0], vm := .none },
  { cls := 6, slots := #[.null, .int 12, .int 0, .int 0, .int 1, .int 2, .int 0], vm := .none },
  { cls := 6, slots := #[.null, .int 13, .int 0, .int 0, .int 0, .int 1, .int 0], vm := .none },
  { cls := 6, slots := #[.null, .int 14, .int 0, .int 0, .int 0, .int 3, .int 0], vm := .none },
  { cls := 6, slots := #[.null, .int 15, .int 0, .int 0, .int 0, .int 0, .int 0], vm := .none },
  { cls := 6, slots := #[.null, .int 16, .int 0, .int 0, .int 0, .int 1, .int 0], vm := .none },
  { cls := 6, slots := #[.null, .int 17, .int 0, .int 0, .int 2, .int 5, .int 0], vm := .none },
  { cls := 6, slots := #[.null, .int 18, .int 0, .int 0, .int 2, .int 7, .int 0], vm := .none },
  { cls := 6, slots := #[.null, .int 19, .int 0, .int 0, .int 0, .int 1, .int 0], vm := .none },
  { cls := 6, slots := #[.null, .int 20, .int 0, .int 0, .int 1, .int 3, .int 0], vm := .none },
  { cls := 6, slots := #[.null, .int 21, .int 0, .int 0, .int 1, .int 2, .int 0], vm := .none }]
def classes : Array Class := #[k0, k1, k2, k3, k4, k5, k6, k7, k8, k9, k10, k11, k12]
def interned : List (Array UInt16 × Addr) := []
def slotsUsed : Nat := 177
def theMethod : MethodId := ⟨1, 1⟩
def args0 : Array Value := #[.int 0, .int 0]
def aboutOver (below : List Frame) : State where
  vm := { classes := classes, interned := interned.toArray }
  heap := heap
  slotsUsed := slotsUsed
  threads := #[{ frames := .invoking theMethod args0 :: below }]
def below0 : List Frame := [.native { method := ⟨0, 0⟩, args := #[] }]
def about1 : State := aboutOver below0
def p0 : Program := .bare "" "" ""
def e0 : Env := launch0.env 0 0 0
theorem w_frames : about1.frames = Frame.invoking theMethod args0 :: below0 := rfl
set_option maxRecDepth 65536 in
theorem w_args : argsFit about1.vm theMethod args0 = true := by decide +kernel
set_option maxRecDepth 65536 in
theorem w_heap : heapFits about1 = true := by decide +kernel
set_option maxRecDepth 65536 in
theorem w_runnable : about1.curStatus? = some .runnable := by decide +kernel
set_option maxRecDepth 65536 in
theorem w_alone : about1.alone = true := by decide +kernel
set_option maxRecDepth 65536 in
theorem w_named : about1.methodNamed? x = some theMethod := by decide +kernel
set_option maxRecDepth 65536 in
theorem w_hears : about1.hears theMethod below0 = true := by decide +kernel
set_option maxRecDepth 65536 in
theorem w_ripe : about1.ripe theMethod args0 below0 = true := by decide +kernel
theorem w_running : about1.status = .running := rfl
set_option maxRecDepth 65536 in
theorem w_room : about1.hasRoom e0.platform room_1 = true :=
  launch0.hasRoom_least _ room_1 (by decide +kernel) (by decide +kernel) (by decide +kernel) (by decide +kernel) (by decide +kernel) (by decide +kernel)
theorem allAtoms_all (ts : List Jvm.Cond) (a : Array Jvm.Value) (st : Jvm.State) : (allAtoms ts).before a st = ts.all (fun c => c.before a st) := by
  induction ts with
  | nil => rfl
  | cons c t ih =>
    show (Jvm.Cond.and c (allAtoms t)).before a st = _
    rw [Jvm.Cond.before_and, ih, List.all_cons]
def words1 : List Jvm.Cond := Jvm.Cond.code x code maxLocals ret :: tables_1
/-- a 'code' word, met by the world's own term for the bytes: nothing is compared byte by byte -/
theorem code_word {y : MethodName} {bytes : ByteArray} {mx : Nat} {rt : Option FieldType} {a : Array Value} {s : State} {m : MethodId} {meth : Method} {c : Code} (h1 : s.methodNamed? y = some m) (h2 : s.vm.method? m = some meth) (h3 : meth.code = some c) (h4 : c.code = bytes)
    (h5 : (c.maxLocals == mx && c.exceptionTable.isEmpty && decide (c.maxStack ≤ mostOperands) && decide (meth.sig.returnType = rt) && !meth.locks && decide (parseMethodDescriptor y.desc = some meth.sig)) = true) : (Jvm.Cond.code y bytes mx rt).before a s = true := by
  simp only [Bool.and_eq_true, beq_iff_eq, Bool.not_eq_true', decide_eq_true_eq] at h5
  obtain ⟨⟨⟨⟨⟨g1, g2⟩, g3⟩, g4⟩, g5⟩, g6⟩ := h5
  simp [Cond.before, Cond.holds, Cond.value, h1, h2, h3, h4, g1, g2, g3, g4, g5, g6]
def isCode : Jvm.Cond → Bool
  | .code _ _ _ _ => true
  | _ => false
theorem all_split {L : List Jvm.Cond} {P : Jvm.Cond → Bool} (h1 : L.all (fun c => isCode c || P c) = true) (h2 : ∀ c ∈ L.filter isCode, P c = true) : L.all P = true := by
  refine List.all_eq_true.mpr fun c hc => ?_
  have h := List.all_eq_true.mp h1 c hc
  rcases Bool.eq_false_or_eq_true (isCode c) with hi | hi
  · exact h2 c (List.mem_filter.mpr ⟨hc, hi⟩)
  · simpa [hi] using h
set_option maxRecDepth 65536 in
theorem w_c0 : (Jvm.Cond.code x code maxLocals ret).before args0 about1 = true := code_word (m := ⟨1, 1⟩) (meth := k1m1) (c := k1c1) (by decide +kernel) rfl rfl rfl (by decide +kernel)
set_option maxRecDepth 65536 in
theorem w_c1 : (Jvm.Cond.code ({ cls := "com/example/humble_log/humblelog/protocol/ApiKey", name := "isServed", desc := "(S)Z" } : Jvm.MethodName) prog_18_method_8_code (2 : Nat) (Option.some Jvm.ClassFile.FieldType.boolean)).before args0 about1 = true := code_word (m := ⟨6, 0⟩) (meth := k6m0) (c := k6c0) (by decide +kernel) rfl rfl rfl (by decide +kernel)
def codes1 : List Jvm.Cond := [Jvm.Cond.code x code maxLocals ret, Jvm.Cond.code ({ cls := "com/example/humble_log/humblelog/protocol/ApiKey", name := "isServed", desc := "(S)Z" } : Jvm.MethodName) prog_18_method_8_code (2 : Nat) (Option.some Jvm.ClassFile.FieldType.boolean)]
set_option maxRecDepth 65536 in
theorem codes_eq : words1.filter isCode = codes1 := rfl
theorem w_codes : ∀ c ∈ words1.filter isCode, c.before args0 about1 = true := by
  rw [codes_eq]
  intro c hc
  simp only [codes1, List.mem_cons, List.not_mem_nil, or_false] at hc
  rcases hc with rfl | rfl
  · exact w_c0
  · exact w_c1
set_option maxRecDepth 65536 in
theorem w_t1 : (words1.take 24).all (fun c => isCode c || c.before args0 about1) = true := by decide +kernel
set_option maxRecDepth 65536 in
theorem w_t2 : ((words1.drop 24).take 24).all (fun c => isCode c || c.before args0 about1) = true := by decide +kernel
set_option maxRecDepth 65536 in
theorem w_t3 : ((words1.drop 24).drop 24).all (fun c => isCode c || c.before args0 about1) = true := by decide +kernel
theorem w_tables : (allAtoms (Jvm.Cond.code x code maxLocals ret :: tables_1)).before args0 about1 = true := by
  rw [allAtoms_all]
  show words1.all (fun c => c.before args0 about1) = true
  refine all_split ?_ w_codes
  rw [← List.take_append_drop 24 words1, List.all_append, w_t1, ← List.take_append_drop 24 (words1.drop 24), List.all_append, w_t2, w_t3]
  rfl
set_option maxRecDepth 65536 in
theorem w_case : (Jvm.Cond.and given_1 narrow_1).before args0 about1 = true := by decide +kernel
theorem w_applies : (headSpec (Jvm.Cond.code x code maxLocals ret :: tables_1) room_1).applies x e0.platform about1 = true :=
  (Spec.applies_iff w_frames).mpr ⟨w_running, w_runnable, w_alone, w_named, w_hears, w_ripe, w_room, w_tables⟩
theorem atStart : AtStart classFile x code maxLocals ret World_1 tables_1 room_1 Calls_1 rest_1 Pre_1 launch0 p0 e0 about1 theMethod args0 below0 :=
  ⟨lists_1, trivial, launch0.admits_env _ _ _, launch0.least_env, fairChoices_fair.cas, fairChoices_fair.clock, w_frames, w_args, w_heap, w_applies, trivial, trivial, w_case⟩
end start1
theorem witness_1 : WitnessClaimed_1 := ⟨start1.p0, start1.e0, start1.about1, start1.theMethod, start1.args0, start1.below0, start1.atStart⟩
end Jvm.Pilot.@@N@@
