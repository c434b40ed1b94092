import JvmDerived
import JvmDerived.Pilot.@@N@@Statement
import JvmDerived.Pilot.@@N@@Code
set_option linter.unusedVariables false
set_option linter.unusedSimpArgs false
namespace Jvm.Pilot.@@N@@
open Jvm Jvm.ClassFile Sem Op Lib Jvm.Free Jvm.Stand Jvm.LawKit Jvm.RoadKit Bundle Jvm.Pilot.@@N@@.Jvm.D
/-! the goal of a walk: from this frame the run comes to an end of which K holds -/
def own_Go (p : Program) (e : Env) (below : List Frame) (T : State) (f : JFrame) (K : State → Outcome → Prop) : Prop := ∃ s₂ o, Steps p.tables e below (T.setTop f) s₂ ∧ K s₂ o
theorem own_Go.mono {p : Program} {e : Env} {below : List Frame} {T T' : State} {f f' : JFrame} {K : State → Outcome → Prop} (h : ∀ t, Steps p.tables e below (T'.setTop f') t → Steps p.tables e below (T.setTop f) t) (g : own_Go p e below T' f' K) : own_Go p e below T f K := by
  obtain ⟨a, o, h1, h2⟩ := g; exact ⟨a, o, h _ h1, h2⟩
def own_K (s : State) (below : List Frame) (Qv : Option Value → Heap → List Loc → Prop) (cc ss : Nat) : State → Outcome → Prop := fun s₂ o => s₂.status = .running ∧ Ended s₂ below o ∧ ∃ v L, o = .returned v ∧ Qv v s₂.heap L ∧ FrameEnd s o s₂ L cc ss
theorem own_body {l : Launch} {y : MethodName} {bytes : ByteArray} {maxL : Nat} {ret : Option FieldType} {ws : List Jvm.Cond} {rm : Room} {Z : State} {as' : Array Value} {h0 : Heap} {Qv : Option Value → Heap → List Loc → Prop} {cc ss : Nat} (hpn : plainFor y = true)
    (body : ∀ (p : Program) (e : Env) (s : State) (m : MethodId) (below : List Frame) (meth : Method) (c : Code) (s₁ : State), p.tables.exec = Jvm.exec → c.code = bytes → c.maxLocals = maxL → meth.sig.returnType = ret → meth.locks = false → s.vm.findClass y.cls = some m.cls → meth.name = y.name → Z.Warmed39 s.vm → Stand p l e rm s m as' below meth c s₁ [] 0 0 → s₁.heap = h0 → own_Go p e below s₁ (entryFrame m as' maxL) (own_K s below Qv cc ss)) :
    MetFree l y (head1 (Jvm.Cond.code y bytes maxL ret :: ws) rm) (fun a U => a = as' ∧ Z.Warmed39 U.vm ∧ U.heap = h0) (fun _ _ _ _ _ => True) (fun _ U o U' => ∃ v L, o = .returned v ∧ Qv v U'.heap L ∧ FrameEnd U o U' L cc ss) := by
  refine MetFree.of_bodySF hpn hisR ?_
  intro p e s m args below meth c s₁ Bd hml0 hP hK
  obtain ⟨rfl, hZ, hh⟩ := hP
  exact body p e s m below meth c s₁ Bd.exec Bd.bytes hml0 Bd.returns Bd.notSynchronized (findClass_of_methodNamed Bd.named) (name_of_methodNamed Bd.named Bd.method).1 hZ (Stand.of_body Bd) (by rw [← hh, Bd.state]; rfl)
section Ret
variable {p : Program} {l : Launch} {e : Env} {R : Room} {s : State} {m : MethodId} {args : Array Value} {below : List Frame} {meth : Method} {c : Code} {T : State} {locs : List Loc} {cells slots : Nat} {Qv : Option Value → Heap → List Loc → Prop} {cc ss pc : Nat} {Ls : Array Slot} {rest : List Value}
theorem own_ret (X : Stand p l e R s m args below meth c T locs cells slots) {f : JFrame} {v : Option Value} (hv : meth.sig.returnType = none → v = none) (hlk : meth.locks = false)
    (hst : ∀ fs, (∀ (f : JFrame) (acts : List Action), f.method = m → f.locked = none → f.entered = [] → (doReturn e (T.setTop f) acts v).1 = T.setFrames fs) → Steps p.tables e below (T.setTop f) (T.setFrames fs)) (hq : Qv v T.heap locs) (hc : cells ≤ cc) (hs : slots ≤ ss) :
    own_Go p e below T f (own_K s below Qv cc ss) := by
  obtain ⟨fs, hr, hrun, hended, hW, hsame⟩ := X.leave (v := v) hv hlk
  exact ⟨_, _, hst fs hr, hrun, hended, v, locs, rfl, hq, ⟨_, rfl⟩, hW, hsame.mono hc hs⟩
theorem own_retN (X : Stand p l e R s m args below meth c T locs cells slots) (hx : p.tables.exec = Jvm.exec) {z : Int32} {t : FieldType} (hret : meth.sig.returnType = some t) (ht : t = .boolean ∨ t = .byte ∨ t = .char ∨ t = .short) (hlk : meth.locks = false) (hd : decode c.code pc = .ok (.ireturn, 1))
    (hq : Qv (some (.int (nar t z))) T.heap locs) (hc : cells ≤ cc) (hs : slots ≤ ss) : own_Go p e below T (mkF m pc Ls (.int z :: rest)) (own_K s below Qv cc ss) :=
  own_ret X (fun h => by rw [hret] at h; cases h) hlk (fun fs hr => retN X hx hret ht hd hr) hq hc hs
theorem own_retI (X : Stand p l e R s m args below meth c T locs cells slots) (hx : p.tables.exec = Jvm.exec) {z : Int32} (hret : meth.sig.returnType = some .int) (hlk : meth.locks = false) (hd : decode c.code pc = .ok (.ireturn, 1))
    (hq : Qv (some (.int z)) T.heap locs) (hc : cells ≤ cc) (hs : slots ≤ ss) : own_Go p e below T (mkF m pc Ls (.int z :: rest)) (own_K s below Qv cc ss) :=
  own_ret X (fun h => by rw [hret] at h; cases h) hlk (fun fs hr => retOut X hx hret rfl (Or.inl ⟨rfl, Or.inl rfl, z, rfl⟩) hd hr) hq hc hs
theorem own_retJ (X : Stand p l e R s m args below meth c T locs cells slots) (hx : p.tables.exec = Jvm.exec) {z : Int64} (hret : meth.sig.returnType = some .long) (hlk : meth.locks = false) (hd : decode c.code pc = .ok (.lreturn, 1))
    (hq : Qv (some (.long z)) T.heap locs) (hc : cells ≤ cc) (hs : slots ≤ ss) : own_Go p e below T (mkF m pc Ls (.long z :: rest)) (own_K s below Qv cc ss) :=
  own_ret X (fun h => by rw [hret] at h; cases h) hlk (fun fs hr => retOut X hx hret rfl (Or.inr (Or.inl ⟨rfl, rfl, z, rfl⟩)) hd hr) hq hc hs
theorem own_retA (X : Stand p l e R s m args below meth c T locs cells slots) (hx : p.tables.exec = Jvm.exec) {w : Value} {t : FieldType} (hret : meth.sig.returnType = some t) (hn : narrow t w = w) (ht : t.isReference = true ∧ w.isRef = true) (hlk : meth.locks = false) (hd : decode c.code pc = .ok (.areturn, 1))
    (hq : Qv (some w) T.heap locs) (hc : cells ≤ cc) (hs : slots ≤ ss) : own_Go p e below T (mkF m pc Ls (w :: rest)) (own_K s below Qv cc ss) :=
  own_ret X (fun h => by rw [hret] at h; cases h) hlk (fun fs hr => retOut X hx hret hn (Or.inr (Or.inr (Or.inr (Or.inr ⟨rfl, ht.1, ht.2⟩)))) hd hr) hq hc hs
theorem own_retV (X : Stand p l e R s m args below meth c T locs cells slots) (hx : p.tables.exec = Jvm.exec) (hret : meth.sig.returnType = none) (hlk : meth.locks = false) (hd : decode c.code pc = .ok (.return_, 1))
    (hq : Qv none T.heap locs) (hc : cells ≤ cc) (hs : slots ≤ ss) : own_Go p e below T (mkF m pc Ls []) (own_K s below Qv cc ss) :=
  own_ret X (fun _ => rfl) hlk (fun fs hr => X.returnOut hx hret hd hr) hq hc hs
theorem own_lremM {g : JFrame} {target : State} (X : Stand p l e R s m args below meth c T locs cells slots) (hx : p.tables.exec = Jvm.exec) (hg : g.method = m) {x y : Int64} (hd : decode c.code g.pc = .ok (.lrem, 1)) (hs : g.stack = .long y :: .long x :: rest) (hy : y ≠ 0)
    (hr : Steps p.tables e below (T.setTop { g with pc := g.pc + 1, stack := .long (x % y) :: rest }) target) : Steps p.tables e below (T.setTop g) target := XS.lrem X.here hx hg hd hs hy (by rw [lrem_mod]; exact hr)
end Ret
theorem pd_0 : parseMethodDescriptor "(S)Z" = some ⟨[.short], some .boolean⟩ := by decide +kernel
theorem own_ext {h0 h : Heap} (K : Keep h0 h []) : Ext h0 h := ⟨K.1, fun a c q => K.2.1 a c q nin0⟩
theorem own_keyI {Z : State} {args : Array Value} {C n d : String} (h : (Jvm.Cond.exactly (.static C n d) C).value args Z none Z [] = some true) (wi : (Jvm.Cond.initialized C).before args Z = true) (wl : (Jvm.Cond.laysStatic C n d).before args Z = true) :
    ∃ w : Addr, (Term.static C n d).eval args Z none [] Z = some (.ref w) ∧ Sta Z Z.heap C n d (.ref w) ∧ Exa Z Z.heap w C := by
  obtain ⟨w, ev⟩ := exa_v h
  exact ⟨w, ev, Sta.start ev (Or.inr ⟨wi, wl⟩), Exa.start ev h⟩
theorem own_pin {Z : State} {args : Array Value} {t : Term} {a : Addr} {O f d : String} {c : Int32} (ev : t.eval args Z none [] Z = some (.ref a)) (h : (Jvm.Cond.eq (.field t O f d) (.int c)).value args Z none Z [] = some true) : Fld Z Z.heap a O f d (.int c) := by
  have e := fld_at (C := O) (n := f) (dd := d) ev
  refine Fld.start ?_
  cases hv : Z.fieldOf? a O f d with
  | none => rw [hv] at e; simp only [Cond.value, e, Term.int_eval] at h; simp at h
  | some v =>
    rw [hv] at e
    simp only [Cond.value, e, Term.int_eval] at h
    cases v <;> simp at h
    subst h; rfl
theorem own_idx22 (k : Int32) : ¬ ((k &&& (2147483647 : Int32)) % (22 : Int32)) < 0 ∧ ((k &&& (2147483647 : Int32)) % (22 : Int32)) < (22 : Int32) := by
  have h := c_mask k 2147483647 31 (by decide) (by decide)
  have h1 : 0 ≤ (k &&& (2147483647 : Int32)).toInt := by rw [h]; exact Int.emod_nonneg _ (by decide)
  have h2 := (c_irem (k &&& 2147483647) 22 22 rfl).1 h1
  have k0 : (0 : Int32).toInt = 0 := rfl
  have k1 : (22 : Int32).toInt = 22 := rfl
  rw [Int32.lt_iff_toInt_lt, Int32.lt_iff_toInt_lt, h2, k0, k1]; omega
theorem own_cases22 {j : Int32} (h0 : ¬ j < 0) (h1 : j < (22 : Int32)) : j = 0 ∨ j = 1 ∨ j = 2 ∨ j = 3 ∨ j = 4 ∨ j = 5 ∨ j = 6 ∨ j = 7 ∨ j = 8 ∨ j = 9 ∨ j = 10 ∨ j = 11 ∨ j = 12 ∨ j = 13 ∨ j = 14 ∨ j = 15 ∨ j = 16 ∨ j = 17 ∨ j = 18 ∨ j = 19 ∨ j = 20 ∨ j = 21 := by
  have k0 : (0 : Int32).toInt = 0 := rfl
  have k1 : (22 : Int32).toInt = 22 := rfl
  rw [Int32.lt_iff_toInt_lt] at h0 h1
  obtain ⟨n, hn⟩ : ∃ n : Nat, j.toInt = n := ⟨j.toInt.toNat, by omega⟩
  have hlt : n < 22 := by omega
  have e : j = Int32.ofInt (n : Int) := by rw [← hn]; exact (Int32.ofInt_toInt j).symm
  clear hn h0 h1
  match n, hlt, e with
  | 0, _, e => exact Or.inl (e.trans rfl)
  | 1, _, e => exact Or.inr (Or.inl (e.trans rfl))
  | 2, _, e => exact Or.inr (Or.inr (Or.inl (e.trans rfl)))
  | 3, _, e => exact Or.inr (Or.inr (Or.inr (Or.inl (e.trans rfl))))
  | 4, _, e => exact Or.inr (Or.inr (Or.inr (Or.inr (Or.inl (e.trans rfl)))))
  | 5, _, e => exact Or.inr (Or.inr (Or.inr (Or.inr (Or.inr (Or.inl (e.trans rfl))))))
  | 6, _, e => exact Or.inr (Or.inr (Or.inr (Or.inr (Or.inr (Or.inr (Or.inl (e.trans rfl)))))))
  | 7, _, e => exact Or.inr (Or.inr (Or.inr (Or.inr (Or.inr (Or.inr (Or.inr (Or.inl (e.trans rfl))))))))
  | 8, _, e => exact Or.inr (Or.inr (Or.inr (Or.inr (Or.inr (Or.inr (Or.inr (Or.inr (Or.inl (e.trans rfl)))))))))
  | 9, _, e => exact Or.inr (Or.inr (Or.inr (Or.inr (Or.inr (Or.inr (Or.inr (Or.inr (Or.inr (Or.inl (e.trans rfl))))))))))
  | 10, _, e => exact Or.inr (Or.inr (Or.inr (Or.inr (Or.inr (Or.inr (Or.inr (Or.inr (Or.inr (Or.inr (Or.inl (e.trans rfl)))))))))))
  | 11, _, e => exact Or.inr (Or.inr (Or.inr (Or.inr (Or.inr (Or.inr (Or.inr (Or.inr (Or.inr (Or.inr (Or.inr (Or.inl (e.trans rfl))))))))))))
  | 12, _, e => exact Or.inr (Or.inr (Or.inr (Or.inr (Or.inr (Or.inr (Or.inr (Or.inr (Or.inr (Or.inr (Or.inr (Or.inr (Or.inl (e.trans rfl)))))))))))))
  | 13, _, e => exact Or.inr (Or.inr (Or.inr (Or.inr (Or.inr (Or.inr (Or.inr (Or.inr (Or.inr (Or.inr (Or.inr (Or.inr (Or.inr (Or.inl (e.trans rfl))))))))))))))
  | 14, _, e => exact Or.inr (Or.inr (Or.inr (Or.inr (Or.inr (Or.inr (Or.inr (Or.inr (Or.inr (Or.inr (Or.inr (Or.inr (Or.inr (Or.inr (Or.inl (e.trans rfl)))))))))))))))
  | 15, _, e => exact Or.inr (Or.inr (Or.inr (Or.inr (Or.inr (Or.inr (Or.inr (Or.inr (Or.inr (Or.inr (Or.inr (Or.inr (Or.inr (Or.inr (Or.inr (Or.inl (e.trans rfl))))))))))))))))
  | 16, _, e => exact Or.inr (Or.inr (Or.inr (Or.inr (Or.inr (Or.inr (Or.inr (Or.inr (Or.inr (Or.inr (Or.inr (Or.inr (Or.inr (Or.inr (Or.inr (Or.inr (Or.inl (e.trans rfl)))))))))))))))))
  | 17, _, e => exact Or.inr (Or.inr (Or.inr (Or.inr (Or.inr (Or.inr (Or.inr (Or.inr (Or.inr (Or.inr (Or.inr (Or.inr (Or.inr (Or.inr (Or.inr (Or.inr (Or.inr (Or.inl (e.trans rfl))))))))))))))))))
  | 18, _, e => exact Or.inr (Or.inr (Or.inr (Or.inr (Or.inr (Or.inr (Or.inr (Or.inr (Or.inr (Or.inr (Or.inr (Or.inr (Or.inr (Or.inr (Or.inr (Or.inr (Or.inr (Or.inr (Or.inl (e.trans rfl)))))))))))))))))))
  | 19, _, e => exact Or.inr (Or.inr (Or.inr (Or.inr (Or.inr (Or.inr (Or.inr (Or.inr (Or.inr (Or.inr (Or.inr (Or.inr (Or.inr (Or.inr (Or.inr (Or.inr (Or.inr (Or.inr (Or.inr (Or.inl (e.trans rfl))))))))))))))))))))
  | 20, _, e => exact Or.inr (Or.inr (Or.inr (Or.inr (Or.inr (Or.inr (Or.inr (Or.inr (Or.inr (Or.inr (Or.inr (Or.inr (Or.inr (Or.inr (Or.inr (Or.inr (Or.inr (Or.inr (Or.inr (Or.inr (Or.inl (e.trans rfl)))))))))))))))))))))
  | 21, _, e => exact Or.inr (Or.inr (Or.inr (Or.inr (Or.inr (Or.inr (Or.inr (Or.inr (Or.inr (Or.inr (Or.inr (Or.inr (Or.inr (Or.inr (Or.inr (Or.inr (Or.inr (Or.inr (Or.inr (Or.inr (Or.inr ((e.trans rfl))))))))))))))))))))))
  | n + 22, h, _ => exact absurd h (by omega)
theorem d1_0 : decode prog_18_method_9_code 0 = .ok (.iload_n 1, 1) := by decide +kernel
theorem d1_1 : decode prog_18_method_9_code 1 = .ok (.aload_n 0, 1) := by decide +kernel
theorem d1_2 : decode prog_18_method_9_code 2 = .ok (.getfield 99, 3) := by decide +kernel
theorem d1_5 : decode prog_18_method_9_code 5 = .ok (.if_icmp .lt 7, 3) := by decide +kernel
theorem d1_8 : decode prog_18_method_9_code 8 = .ok (.iconst 1, 1) := by decide +kernel
theorem d1_9 : decode prog_18_method_9_code 9 = .ok (.goto 4, 3) := by decide +kernel
theorem d1_12 : decode prog_18_method_9_code 12 = .ok (.iconst 0, 1) := by decide +kernel
theorem d1_13 : decode prog_18_method_9_code 13 = .ok (.ireturn, 1) := by decide +kernel
theorem ef_rm1 (m : MethodId) (x0 : Addr) (x1 : Int32) : entryFrame m #[(.ref x0), (.int x1)] 2 = mkF m 0 #[.val (.ref x0), .val (.int x1)] [] := by first | (simp [entryFrame, mkF, argsToLocals, Value.category]; done) | rfl
def Q1 (Z : State) (a1 : Addr) (p1 : Int32) (q : Int32) (r : Int32) (h0 : Heap) (n0 : Nat) (v : Option Value) (h : Heap) (L : List Loc) : Prop := v = some (.int r) ∧ Fr n0 L ∧ h = h0
set_option maxRecDepth 65536 in
set_option maxHeartbeats 40000000 in
theorem rm1 (l : Launch) (Z : State) (a0 : Array Value) (hw : ∀ d ∈ tables_1, d.before a0 Z = true) (ws : List Jvm.Cond) (a1 : Addr) (p1 : Int32) (q : Int32) (r : Int32) (h0 : Heap) (n0 : Nat) (Z0 : n0 ≤ h0.size) (F1 : Fld Z h0 a1 "com/example/humble_log/humblelog/protocol/ApiKey" "firstFlexibleVersion" "S" (.int q)) (hr : (p1 < q ∧ r = 0) ∨ (¬ p1 < q ∧ r = 1)) :
    MetFree l (⟨"com/example/humble_log/humblelog/protocol/ApiKey", "isFlexible", "(S)Z"⟩ : MethodName) (head1 (Jvm.Cond.code (⟨"com/example/humble_log/humblelog/protocol/ApiKey", "isFlexible", "(S)Z"⟩ : MethodName) prog_18_method_9_code 2 (some .boolean) :: ws) ({ frames := 0, cells := 0, slots := 0, locals := 0 } : Room)) (fun a U => a = #[(.ref a1), (.int p1)] ∧ Z.Warmed39 U.vm ∧ U.heap = h0) (fun _ _ _ _ _ => True) (fun _ U o U' => ∃ v L, o = .returned v ∧ Q1 Z a1 p1 q r h0 n0 v U'.heap L ∧ FrameEnd U o U' L 0 0) := by
  refine own_body (Qv := Q1 Z a1 p1 q r h0 n0) (plainFor_of_name (by first | (simp [plainName, overriddenIn]; done) | decide +kernel)) ?_
  intro p e s m below meth c s₁ hx hby hml hret hlk hown hnm hZ X0 e0
  replace hown : s.vm.findClass "com/example/humble_log/humblelog/protocol/ApiKey" = some m.cls := hown
  replace hnm : meth.name = "isFlexible" := hnm
  have N0 := Fr.nil n0
  refine own_Go.mono (T' := s₁) (f' := (mkF m 0 #[.val (.ref a1), .val (.int p1)] [])) (fun t k => castTop (ef_rm1 m a1 p1) k) ?_
  obtain ⟨T1, X1, e1, st1⟩ := getF X0 hx hZ hown (host := "") (Or.inl (hw _ (List.mem_of_getElem? (i := 55) rfl))) Via.refl e0 F1 (g := (mkF m 2 #[.val (.ref a1), .val (.int p1)] [(.ref a1), (.int p1)])) rfl rfl (hb hby d1_2)
  refine own_Go.mono (T' := T1) (f' := (mkF m 5 #[.val (.ref a1), .val (.int p1)] [(.int q), (.int p1)])) (fun t k => ?_) ?_
  · show Steps p.tables e below (s₁.setTop (mkF m 0 #[.val (.ref a1), .val (.int p1)] [])) _
    refine XS.iloadN X0.here hx rfl (hb hby d1_0) rfl ?_
    show Steps p.tables e below (s₁.setTop (mkF m 1 #[.val (.ref a1), .val (.int p1)] [(.int p1)])) _
    refine XS.aloadN X0.here hx rfl (hb hby d1_1) rfl rfl ?_
    show Steps p.tables e below (s₁.setTop (mkF m 2 #[.val (.ref a1), .val (.int p1)] [(.ref a1), (.int p1)])) _
    refine st1 _ ?_
    show Steps p.tables e below (T1.setTop (mkF m 5 #[.val (.ref a1), .val (.int p1)] [(.int q), (.int p1)])) _
    exact k
  rcases hr with ⟨hlt, hr⟩ | ⟨hlt, hr⟩
  · refine own_Go.mono (T' := T1) (f' := (mkF m 13 #[.val (.ref a1), .val (.int p1)] [(.int (0 : Int32))])) (fun t k => ?_) ?_
    · show Steps p.tables e below (T1.setTop (mkF m 5 #[.val (.ref a1), .val (.int p1)] [(.int q), (.int p1)])) _
      refine XS.icmpYes X1.here hx rfl (pc0 := 5) (pc' := 12) rfl (hb hby d1_5) rfl (tlt hlt).1 (by decide) (by decide) ?_
      show Steps p.tables e below (T1.setTop (mkF m 12 #[.val (.ref a1), .val (.int p1)] [])) _
      refine XS.iconst X1.here hx rfl (hb hby d1_12) ?_
      show Steps p.tables e below (T1.setTop (mkF m 13 #[.val (.ref a1), .val (.int p1)] [(.int (0 : Int32))])) _
      exact k
    exact own_retN X1 hx (t := .boolean) hret (by simp) hlk (hb hby d1_13) (⟨by rw [hr]; rfl, N0, e1⟩) (by decide) (by decide)
  · refine own_Go.mono (T' := T1) (f' := (mkF m 13 #[.val (.ref a1), .val (.int p1)] [(.int (1 : Int32))])) (fun t k => ?_) ?_
    · show Steps p.tables e below (T1.setTop (mkF m 5 #[.val (.ref a1), .val (.int p1)] [(.int q), (.int p1)])) _
      refine XS.icmpNo X1.here hx rfl (hb hby d1_5) rfl (flt hlt).1 ?_
      show Steps p.tables e below (T1.setTop (mkF m 8 #[.val (.ref a1), .val (.int p1)] [])) _
      refine XS.iconst X1.here hx rfl (hb hby d1_8) ?_
      show Steps p.tables e below (T1.setTop (mkF m 9 #[.val (.ref a1), .val (.int p1)] [(.int (1 : Int32))])) _
      refine XS.goto X1.here hx rfl (pc0 := 9) (pc' := 13) rfl (hb hby d1_9) (by decide) (by decide) ?_
      show Steps p.tables e below (T1.setTop (mkF m 13 #[.val (.ref a1), .val (.int p1)] [(.int (1 : Int32))])) _
      exact k
    exact own_retN X1 hx (t := .boolean) hret (by simp) hlk (hb hby d1_13) (⟨by rw [hr]; rfl, N0, e1⟩) (by decide) (by decide)
theorem ef_rm0 (m : MethodId) (x0 : Int32) (x1 : Int32) (x2 : Int32) : entryFrame m #[(.int x0), (.int x1), (.int x2)] maxLocals = mkF m 0 #[.val (.int x0), .val (.int x1), .val (.int x2), .unset, .unset, .unset, .unset, .unset] [] := by first | (simp [entryFrame, mkF, argsToLocals, Value.category, maxLocals]; done) | rfl
def Q0 (Z : State) (p0 : Int32) (p1 : Int32) (p2 : Int32) (w0 : Addr) (w1 : Addr) (w2 : Addr) (w3 : Addr) (w4 : Addr) (w5 : Addr) (w6 : Addr) (w7 : Addr) (w8 : Addr) (w9 : Addr) (w10 : Addr) (w11 : Addr) (w12 : Addr) (w13 : Addr) (w14 : Addr) (w15 : Addr) (w16 : Addr) (w17 : Addr) (w18 : Addr) (w19 : Addr) (w20 : Addr) (w21 : Addr) (h0 : Heap) (n0 : Nat) (v : Option Value) (h : Heap) (L : List Loc) : Prop := v = some (.int 1) ∧ Fr n0 L
set_option maxRecDepth 65536 in
set_option maxHeartbeats 40000000 in
theorem rm0 (l : Launch) (Z : State) (a0 : Array Value) (hw : ∀ d ∈ tables_1, d.before a0 Z = true) (ws : List Jvm.Cond) (p0 : Int32) (p1 : Int32) (p2 : Int32) (w0 : Addr) (w1 : Addr) (w2 : Addr) (w3 : Addr) (w4 : Addr) (w5 : Addr) (w6 : Addr) (w7 : Addr) (w8 : Addr) (w9 : Addr) (w10 : Addr) (w11 : Addr) (w12 : Addr) (w13 : Addr) (w14 : Addr) (w15 : Addr) (w16 : Addr) (w17 : Addr) (w18 : Addr) (w19 : Addr) (w20 : Addr) (w21 : Addr) (h0 : Heap) (n0 : Nat) (Z0 : n0 ≤ h0.size) (S0_ : Sta Z h0 "com/example/humble_log/humblelog/protocol/ApiKey" "PRODUCE" "Lcom/example/humble_log/humblelog/protocol/ApiKey;" (.ref w0)) (E0_ : Exa Z h0 w0 "com/example/humble_log/humblelog/protocol/ApiKey") (F0_0 : Fld Z h0 w0 "com/example/humble_log/humblelog/protocol/ApiKey" "firstFlexibleVersion" "S" (.int (9 : Int32))) (S1_ : Sta Z h0 "com/example/humble_log/humblelog/protocol/ApiKey" "FETCH" "Lcom/example/humble_log/humblelog/protocol/ApiKey;" (.ref w1)) (E1_ : Exa Z h0 w1 "com/example/humble_log/humblelog/protocol/ApiKey") (F1_0 : Fld Z h0 w1 "com/example/humble_log/humblelog/protocol/ApiKey" "firstFlexibleVersion" "S" (.int (12 : Int32))) (S2_ : Sta Z h0 "com/example/humble_log/humblelog/protocol/ApiKey" "LIST_OFFSETS" "Lcom/example/humble_log/humblelog/protocol/ApiKey;" (.ref w2)) (E2_ : Exa Z h0 w2 "com/example/humble_log/humblelog/protocol/ApiKey") (F2_0 : Fld Z h0 w2 "com/example/humble_log/humblelog/protocol/ApiKey" "firstFlexibleVersion" "S" (.int (6 : Int32))) (S3_ : Sta Z h0 "com/example/humble_log/humblelog/protocol/ApiKey" "METADATA" "Lcom/example/humble_log/humblelog/protocol/ApiKey;" (.ref w3)) (E3_ : Exa Z h0 w3 "com/example/humble_log/humblelog/protocol/ApiKey") (F3_0 : Fld Z h0 w3 "com/example/humble_log/humblelog/protocol/ApiKey" "firstFlexibleVersion" "S" (.int (9 : Int32))) (S4_ : Sta Z h0 "com/example/humble_log/humblelog/protocol/ApiKey" "OFFSET_COMMIT" "Lcom/example/humble_log/humblelog/protocol/ApiKey;" (.ref w4)) (E4_ : Exa Z h0 w4 "com/example/humble_log/humblelog/protocol/ApiKey") (F4_0 : Fld Z h0 w4 "com/example/humble_log/humblelog/protocol/ApiKey" "firstFlexibleVersion" "S" (.int (8 : Int32))) (S5_ : Sta Z h0 "com/example/humble_log/humblelog/protocol/ApiKey" "OFFSET_FETCH" "Lcom/example/humble_log/humblelog/protocol/ApiKey;" (.ref w5)) (E5_ : Exa Z h0 w5 "com/example/humble_log/humblelog/protocol/ApiKey") (F5_0 : Fld Z h0 w5 "com/example/humble_log/humblelog/protocol/ApiKey" "firstFlexibleVersion" "S" (.int (6 : Int32))) (S6_ : Sta Z h0 "com/example/humble_log/humblelog/protocol/ApiKey" "FIND_COORDINATOR" "Lcom/example/humble_log/humblelog/protocol/ApiKey;" (.ref w6)) (E6_ : Exa Z h0 w6 "com/example/humble_log/humblelog/protocol/ApiKey") (F6_0 : Fld Z h0 w6 "com/example/humble_log/humblelog/protocol/ApiKey" "firstFlexibleVersion" "S" (.int (3 : Int32))) (S7_ : Sta Z h0 "com/example/humble_log/humblelog/protocol/ApiKey" "JOIN_GROUP" "Lcom/example/humble_log/humblelog/protocol/ApiKey;" (.ref w7)) (E7_ : Exa Z h0 w7 "com/example/humble_log/humblelog/protocol/ApiKey") (F7_0 : Fld Z h0 w7 "com/example/humble_log/humblelog/protocol/ApiKey" "firstFlexibleVersion" "S" (.int (6 : Int32))) (S8_ : Sta Z h0 "com/example/humble_log/humblelog/protocol/ApiKey" "HEARTBEAT" "Lcom/example/humble_log/humblelog/protocol/ApiKey;" (.ref w8)) (E8_ : Exa Z h0 w8 "com/example/humble_log/humblelog/protocol/ApiKey") (F8_0 : Fld Z h0 w8 "com/example/humble_log/humblelog/protocol/ApiKey" "firstFlexibleVersion" "S" (.int (4 : Int32))) (S9_ : Sta Z h0 "com/example/humble_log/humblelog/protocol/ApiKey" "LEAVE_GROUP" "Lcom/example/humble_log/humblelog/protocol/ApiKey;" (.ref w9)) (E9_ : Exa Z h0 w9 "com/example/humble_log/humblelog/protocol/ApiKey") (F9_0 : Fld Z h0 w9 "com/example/humble_log/humblelog/protocol/ApiKey" "firstFlexibleVersion" "S" (.int (4 : Int32))) (S10_ : Sta Z h0 "com/example/humble_log/humblelog/protocol/ApiKey" "SYNC_GROUP" "Lcom/example/humble_log/humblelog/protocol/ApiKey;" (.ref w10)) (E10_ : Exa Z h0 w10 "com/example/humble_log/humblelog/protocol/ApiKey") (F10_0 : Fld Z h0 w10 "com/example/humble_log/humblelog/protocol/ApiKey" "firstFlexibleVersion" "S" (.int (4 : Int32))) (S11_ : Sta Z h0 "com/example/humble_log/humblelog/protocol/ApiKey" "DESCRIBE_GROUPS" "Lcom/example/humble_log/humblelog/protocol/ApiKey;" (.ref w11)) (E11_ : Exa Z h0 w11 "com/example/humble_log/humblelog/protocol/ApiKey") (F11_0 : Fld Z h0 w11 "com/example/humble_log/humblelog/protocol/ApiKey" "firstFlexibleVersion" "S" (.int (5 : Int32))) (S12_ : Sta Z h0 "com/example/humble_log/humblelog/protocol/ApiKey" "LIST_GROUPS" "Lcom/example/humble_log/humblelog/protocol/ApiKey;" (.ref w12)) (E12_ : Exa Z h0 w12 "com/example/humble_log/humblelog/protocol/ApiKey") (F12_0 : Fld Z h0 w12 "com/example/humble_log/humblelog/protocol/ApiKey" "firstFlexibleVersion" "S" (.int (3 : Int32))) (S13_ : Sta Z h0 "com/example/humble_log/humblelog/protocol/ApiKey" "API_VERSIONS" "Lcom/example/humble_log/humblelog/protocol/ApiKey;" (.ref w13)) (E13_ : Exa Z h0 w13 "com/example/humble_log/humblelog/protocol/ApiKey") (F13_0 : Fld Z h0 w13 "com/example/humble_log/humblelog/protocol/ApiKey" "firstFlexibleVersion" "S" (.int (3 : Int32))) (S14_ : Sta Z h0 "com/example/humble_log/humblelog/protocol/ApiKey" "CREATE_TOPICS" "Lcom/example/humble_log/humblelog/protocol/ApiKey;" (.ref w14)) (E14_ : Exa Z h0 w14 "com/example/humble_log/humblelog/protocol/ApiKey") (F14_0 : Fld Z h0 w14 "com/example/humble_log/humblelog/protocol/ApiKey" "firstFlexibleVersion" "S" (.int (5 : Int32))) (S15_ : Sta Z h0 "com/example/humble_log/humblelog/protocol/ApiKey" "DELETE_TOPICS" "Lcom/example/humble_log/humblelog/protocol/ApiKey;" (.ref w15)) (E15_ : Exa Z h0 w15 "com/example/humble_log/humblelog/protocol/ApiKey") (F15_0 : Fld Z h0 w15 "com/example/humble_log/humblelog/protocol/ApiKey" "firstFlexibleVersion" "S" (.int (4 : Int32))) (S16_ : Sta Z h0 "com/example/humble_log/humblelog/protocol/ApiKey" "INIT_PRODUCER_ID" "Lcom/example/humble_log/humblelog/protocol/ApiKey;" (.ref w16)) (E16_ : Exa Z h0 w16 "com/example/humble_log/humblelog/protocol/ApiKey") (F16_0 : Fld Z h0 w16 "com/example/humble_log/humblelog/protocol/ApiKey" "firstFlexibleVersion" "S" (.int (2 : Int32))) (S17_ : Sta Z h0 "com/example/humble_log/humblelog/protocol/ApiKey" "DESCRIBE_CONFIGS" "Lcom/example/humble_log/humblelog/protocol/ApiKey;" (.ref w17)) (E17_ : Exa Z h0 w17 "com/example/humble_log/humblelog/protocol/ApiKey") (F17_0 : Fld Z h0 w17 "com/example/humble_log/humblelog/protocol/ApiKey" "firstFlexibleVersion" "S" (.int (4 : Int32))) (S18_ : Sta Z h0 "com/example/humble_log/humblelog/protocol/ApiKey" "ALTER_CONFIGS" "Lcom/example/humble_log/humblelog/protocol/ApiKey;" (.ref w18)) (E18_ : Exa Z h0 w18 "com/example/humble_log/humblelog/protocol/ApiKey") (F18_0 : Fld Z h0 w18 "com/example/humble_log/humblelog/protocol/ApiKey" "firstFlexibleVersion" "S" (.int (2 : Int32))) (S19_ : Sta Z h0 "com/example/humble_log/humblelog/protocol/ApiKey" "CREATE_PARTITIONS" "Lcom/example/humble_log/humblelog/protocol/ApiKey;" (.ref w19)) (E19_ : Exa Z h0 w19 "com/example/humble_log/humblelog/protocol/ApiKey") (F19_0 : Fld Z h0 w19 "com/example/humble_log/humblelog/protocol/ApiKey" "firstFlexibleVersion" "S" (.int (2 : Int32))) (S20_ : Sta Z h0 "com/example/humble_log/humblelog/protocol/ApiKey" "DELETE_GROUPS" "Lcom/example/humble_log/humblelog/protocol/ApiKey;" (.ref w20)) (E20_ : Exa Z h0 w20 "com/example/humble_log/humblelog/protocol/ApiKey") (F20_0 : Fld Z h0 w20 "com/example/humble_log/humblelog/protocol/ApiKey" "firstFlexibleVersion" "S" (.int (2 : Int32))) (S21_ : Sta Z h0 "com/example/humble_log/humblelog/protocol/ApiKey" "INCREMENTAL_ALTER_CONFIGS" "Lcom/example/humble_log/humblelog/protocol/ApiKey;" (.ref w21)) (E21_ : Exa Z h0 w21 "com/example/humble_log/humblelog/protocol/ApiKey") (F21_0 : Fld Z h0 w21 "com/example/humble_log/humblelog/protocol/ApiKey" "firstFlexibleVersion" "S" (.int (1 : Int32))) :
    MetFree l x (head1 (Jvm.Cond.code x code maxLocals ret :: ws) room_1) (fun a U => a = #[(.int p0), (.int p1), (.int p2)] ∧ Z.Warmed39 U.vm ∧ U.heap = h0) (fun _ _ _ _ _ => True) (fun _ U o U' => ∃ v L, o = .returned v ∧ Q0 Z p0 p1 p2 w0 w1 w2 w3 w4 w5 w6 w7 w8 w9 w10 w11 w12 w13 w14 w15 w16 w17 w18 w19 w20 w21 h0 n0 v U'.heap L ∧ FrameEnd U o U' L 16 192) := by
  refine own_body (Qv := Q0 Z p0 p1 p2 w0 w1 w2 w3 w4 w5 w6 w7 w8 w9 w10 w11 w12 w13 w14 w15 w16 w17 w18 w19 w20 w21 h0 n0) (plainFor_of_name (by first | (simp [plainName, overriddenIn]; done) | decide +kernel)) ?_
  intro p e s m below meth c s₁ hx hby hml hret hlk hown hnm hZ X0 e0
  replace hown : s.vm.findClass "com/example/humble_log/humblelog/protocol/ApiKeyIsFlexiblePinLaw" = some m.cls := hown
  replace hnm : meth.name = "law" := hnm
  have N0 := Fr.nil n0
  replace hml : c.maxLocals = 8 := hml
  refine own_Go.mono (T' := s₁) (f' := (mkF m 0 #[.val (.int p0), .val (.int p1), .val (.int p2), .unset, .unset, .unset, .unset, .unset] [])) (fun t k => castTop (ef_rm0 m p0 p1 p2) k) ?_
  have K0_0 : Keep h0 h0 [] := Keep.refl _ _
  obtain ⟨T2, h2, k2, X2, e2, E2, A2, O2, st2⟩ := newR X0 hx hZ hown (hw _ (List.mem_of_getElem? (i := 0) rfl)) (hw _ (List.mem_of_getElem? (i := 1) rfl)) e0 (g := (mkF m 2 #[.val (.int p0), .val (.int p1), .val (.int p2), .unset, .unset, .unset, .unset, .unset] [(.int (22 : Int32))])) rfl (hb hby at_2) rfl (by decide) (cap := 22) (by decide) (by decide) (by decide) (by decide)
  obtain ⟨bk, g2⟩ : ∃ z, z = h0.size := ⟨_, rfl⟩
  rw [← g2] at A2 st2
  have lo_bk : n0 ≤ bk := Nat.le_trans Z0 (Nat.le_of_eq g2.symm)
  have sz_bk : h0.size ≤ bk := Nat.le_trans K0_0.1 (Nat.le_of_eq g2.symm)
  have zh2 : n0 ≤ h2.size := Nat.le_trans Z0 E2.1
  have K0_2 : Keep h0 h2 [] := K0_0.ext E2
  have V_bk_2 : Arv Z h2 bk k2 (.object "com/example/humble_log/humblelog/protocol/ApiKey") (22 : Int32) [.null, .null, .null, .null, .null, .null, .null, .null, .null, .null, .null, .null, .null, .null, .null, .null, .null, .null, .null, .null, .null, .null] .null := (Arv.new A2 (by decide)).pad (pad_rep [] .null 22)
  obtain ⟨T3, X3, e3, st3⟩ := getS2 X2 hx hZ hown (host := "") (Or.inl (hw _ (List.mem_of_getElem? (i := 2) rfl))) Via.refl e2 (S0_.ext (own_ext K0_2)) (g := (mkF m 7 #[.val (.int p0), .val (.int p1), .val (.int p2), .unset, .unset, .unset, .unset, .unset] [(.int (0 : Int32)), (.ref bk), (.ref bk)])) rfl (hb hby at_7)
  obtain ⟨cl4, Ar4, q4, S4, P4, H4, G4⟩ := V_bk_2
  have hin5 : ¬ ((0 : Int32) < 0 ∨ cl4.slots.size ≤ ((0 : Int32)).toNatClampNeg) := inb_of S4 ⟨by decide, by decide⟩
  obtain ⟨T5, h5, X5, e5, W5, st5⟩ := stR X3 hx hZ e3 Ar4 (j := (0 : Int32)) hin5 rfl (Sto.ofV Ar4 q4 O2 (Ins.self (E0_.ext (own_ext K0_2)))) (g := (mkF m 10 #[.val (.int p0), .val (.int p1), .val (.int p2), .unset, .unset, .unset, .unset, .unset] [(.ref w0), (.int (0 : Int32)), (.ref bk), (.ref bk)])) rfl rfl (hb hby at_10)
  have V_bk_5 : Arv Z h5 bk k2 (.object "com/example/humble_log/humblelog/protocol/ApiKey") (22 : Int32) [(.ref w0), .null, .null, .null, .null, .null, .null, .null, .null, .null, .null, .null, .null, .null, .null, .null, .null, .null, .null, .null, .null, .null] .null := Arv.set Ar4 q4 S4 P4 H4 G4 rfl W5 0 rfl (Nat.le_of_ble_eq_true rfl)
  have zh5 : n0 ≤ h5.size := Nat.le_trans zh2 (Nat.le_of_eq W5.size.symm)
  have K0_5 : Keep h0 h5 [] := K0_2.wr W5 (Or.inr sz_bk)
  obtain ⟨Lh5, N5, X5⟩ : ∃ L, Fr n0 L ∧ Stand p l e _ _ m _ below meth c T5 L _ _ := ⟨_, Fr.snoc X5 N0 lo_bk, X5⟩
  obtain ⟨T6, X6, e6, st6⟩ := getS2 X5 hx hZ hown (host := "") (Or.inl (hw _ (List.mem_of_getElem? (i := 6) rfl))) Via.refl e5 (S1_.ext (own_ext K0_5)) (g := (mkF m 13 #[.val (.int p0), .val (.int p1), .val (.int p2), .unset, .unset, .unset, .unset, .unset] [(.int (1 : Int32)), (.ref bk), (.ref bk)])) rfl (hb hby at_13)
  obtain ⟨cl7, Ar7, q7, S7, P7, H7, G7⟩ := V_bk_5
  have hin8 : ¬ ((1 : Int32) < 0 ∨ cl7.slots.size ≤ ((1 : Int32)).toNatClampNeg) := inb_of S7 ⟨by decide, by decide⟩
  obtain ⟨T8, h8, X8, e8, W8, st8⟩ := stR X6 hx hZ e6 Ar7 (j := (1 : Int32)) hin8 rfl (Sto.ofV Ar7 q7 O2 (Ins.self (E1_.ext (own_ext K0_5)))) (g := (mkF m 16 #[.val (.int p0), .val (.int p1), .val (.int p2), .unset, .unset, .unset, .unset, .unset] [(.ref w1), (.int (1 : Int32)), (.ref bk), (.ref bk)])) rfl rfl (hb hby at_16)
  have V_bk_8 : Arv Z h8 bk k2 (.object "com/example/humble_log/humblelog/protocol/ApiKey") (22 : Int32) [(.ref w0), (.ref w1), .null, .null, .null, .null, .null, .null, .null, .null, .null, .null, .null, .null, .null, .null, .null, .null, .null, .null, .null, .null] .null := Arv.set Ar7 q7 S7 P7 H7 G7 rfl W8 1 rfl (Nat.le_of_ble_eq_true rfl)
  have zh8 : n0 ≤ h8.size := Nat.le_trans zh5 (Nat.le_of_eq W8.size.symm)
  have K0_8 : Keep h0 h8 [] := K0_5.wr W8 (Or.inr sz_bk)
  obtain ⟨Lh8, N8, X8⟩ : ∃ L, Fr n0 L ∧ Stand p l e _ _ m _ below meth c T8 L _ _ := ⟨_, Fr.snoc X8 N5 lo_bk, X8⟩
  obtain ⟨T9, X9, e9, st9⟩ := getS2 X8 hx hZ hown (host := "") (Or.inl (hw _ (List.mem_of_getElem? (i := 8) rfl))) Via.refl e8 (S2_.ext (own_ext K0_8)) (g := (mkF m 19 #[.val (.int p0), .val (.int p1), .val (.int p2), .unset, .unset, .unset, .unset, .unset] [(.int (2 : Int32)), (.ref bk), (.ref bk)])) rfl (hb hby at_19)
  obtain ⟨cl10, Ar10, q10, S10, P10, H10, G10⟩ := V_bk_8
  have hin11 : ¬ ((2 : Int32) < 0 ∨ cl10.slots.size ≤ ((2 : Int32)).toNatClampNeg) := inb_of S10 ⟨by decide, by decide⟩
  obtain ⟨T11, h11, X11, e11, W11, st11⟩ := stR X9 hx hZ e9 Ar10 (j := (2 : Int32)) hin11 rfl (Sto.ofV Ar10 q10 O2 (Ins.self (E2_.ext (own_ext K0_8)))) (g := (mkF m 22 #[.val (.int p0), .val (.int p1), .val (.int p2), .unset, .unset, .unset, .unset, .unset] [(.ref w2), (.int (2 : Int32)), (.ref bk), (.ref bk)])) rfl rfl (hb hby at_22)
  have V_bk_11 : Arv Z h11 bk k2 (.object "com/example/humble_log/humblelog/protocol/ApiKey") (22 : Int32) [(.ref w0), (.ref w1), (.ref w2), .null, .null, .null, .null, .null, .null, .null, .null, .null, .null, .null, .null, .null, .null, .null, .null, .null, .null, .null] .null := Arv.set Ar10 q10 S10 P10 H10 G10 rfl W11 2 rfl (Nat.le_of_ble_eq_true rfl)
  have zh11 : n0 ≤ h11.size := Nat.le_trans zh8 (Nat.le_of_eq W11.size.symm)
  have K0_11 : Keep h0 h11 [] := K0_8.wr W11 (Or.inr sz_bk)
  obtain ⟨Lh11, N11, X11⟩ : ∃ L, Fr n0 L ∧ Stand p l e _ _ m _ below meth c T11 L _ _ := ⟨_, Fr.snoc X11 N8 lo_bk, X11⟩
  obtain ⟨T12, X12, e12, st12⟩ := getS2 X11 hx hZ hown (host := "") (Or.inl (hw _ (List.mem_of_getElem? (i := 10) rfl))) Via.refl e11 (S3_.ext (own_ext K0_11)) (g := (mkF m 25 #[.val (.int p0), .val (.int p1), .val (.int p2), .unset, .unset, .unset, .unset, .unset] [(.int (3 : Int32)), (.ref bk), (.ref bk)])) rfl (hb hby at_25)
  obtain ⟨cl13, Ar13, q13, S13, P13, H13, G13⟩ := V_bk_11
  have hin14 : ¬ ((3 : Int32) < 0 ∨ cl13.slots.size ≤ ((3 : Int32)).toNatClampNeg) := inb_of S13 ⟨by decide, by decide⟩
  obtain ⟨T14, h14, X14, e14, W14, st14⟩ := stR X12 hx hZ e12 Ar13 (j := (3 : Int32)) hin14 rfl (Sto.ofV Ar13 q13 O2 (Ins.self (E3_.ext (own_ext K0_11)))) (g := (mkF m 28 #[.val (.int p0), .val (.int p1), .val (.int p2), .unset, .unset, .unset, .unset, .unset] [(.ref w3), (.int (3 : Int32)), (.ref bk), (.ref bk)])) rfl rfl (hb hby at_28)
  have V_bk_14 : Arv Z h14 bk k2 (.object "com/example/humble_log/humblelog/protocol/ApiKey") (22 : Int32) [(.ref w0), (.ref w1), (.ref w2), (.ref w3), .null, .null, .null, .null, .null, .null, .null, .null, .null, .null, .null, .null, .null, .null, .null, .null, .null, .null] .null := Arv.set Ar13 q13 S13 P13 H13 G13 rfl W14 3 rfl (Nat.le_of_ble_eq_true rfl)
  have zh14 : n0 ≤ h14.size := Nat.le_trans zh11 (Nat.le_of_eq W14.size.symm)
  have K0_14 : Keep h0 h14 [] := K0_11.wr W14 (Or.inr sz_bk)
  obtain ⟨Lh14, N14, X14⟩ : ∃ L, Fr n0 L ∧ Stand p l e _ _ m _ below meth c T14 L _ _ := ⟨_, Fr.snoc X14 N11 lo_bk, X14⟩
  obtain ⟨T15, X15, e15, st15⟩ := getS2 X14 hx hZ hown (host := "") (Or.inl (hw _ (List.mem_of_getElem? (i := 12) rfl))) Via.refl e14 (S4_.ext (own_ext K0_14)) (g := (mkF m 31 #[.val (.int p0), .val (.int p1), .val (.int p2), .unset, .unset, .unset, .unset, .unset] [(.int (4 : Int32)), (.ref bk), (.ref bk)])) rfl (hb hby at_31)
  obtain ⟨cl16, Ar16, q16, S16, P16, H16, G16⟩ := V_bk_14
  have hin17 : ¬ ((4 : Int32) < 0 ∨ cl16.slots.size ≤ ((4 : Int32)).toNatClampNeg) := inb_of S16 ⟨by decide, by decide⟩
  obtain ⟨T17, h17, X17, e17, W17, st17⟩ := stR X15 hx hZ e15 Ar16 (j := (4 : Int32)) hin17 rfl (Sto.ofV Ar16 q16 O2 (Ins.self (E4_.ext (own_ext K0_14)))) (g := (mkF m 34 #[.val (.int p0), .val (.int p1), .val (.int p2), .unset, .unset, .unset, .unset, .unset] [(.ref w4), (.int (4 : Int32)), (.ref bk), (.ref bk)])) rfl rfl (hb hby at_34)
  have V_bk_17 : Arv Z h17 bk k2 (.object "com/example/humble_log/humblelog/protocol/ApiKey") (22 : Int32) [(.ref w0), (.ref w1), (.ref w2), (.ref w3), (.ref w4), .null, .null, .null, .null, .null, .null, .null, .null, .null, .null, .null, .null, .null, .null, .null, .null, .null] .null := Arv.set Ar16 q16 S16 P16 H16 G16 rfl W17 4 rfl (Nat.le_of_ble_eq_true rfl)
  have zh17 : n0 ≤ h17.size := Nat.le_trans zh14 (Nat.le_of_eq W17.size.symm)
  have K0_17 : Keep h0 h17 [] := K0_14.wr W17 (Or.inr sz_bk)
  obtain ⟨Lh17, N17, X17⟩ : ∃ L, Fr n0 L ∧ Stand p l e _ _ m _ below meth c T17 L _ _ := ⟨_, Fr.snoc X17 N14 lo_bk, X17⟩
  obtain ⟨T18, X18, e18, st18⟩ := getS2 X17 hx hZ hown (host := "") (Or.inl (hw _ (List.mem_of_getElem? (i := 14) rfl))) Via.refl e17 (S5_.ext (own_ext K0_17)) (g := (mkF m 37 #[.val (.int p0), .val (.int p1), .val (.int p2), .unset, .unset, .unset, .unset, .unset] [(.int (5 : Int32)), (.ref bk), (.ref bk)])) rfl (hb hby at_37)
  obtain ⟨cl19, Ar19, q19, S19, P19, H19, G19⟩ := V_bk_17
  have hin20 : ¬ ((5 : Int32) < 0 ∨ cl19.slots.size ≤ ((5 : Int32)).toNatClampNeg) := inb_of S19 ⟨by decide, by decide⟩
  obtain ⟨T20, h20, X20, e20, W20, st20⟩ := stR X18 hx hZ e18 Ar19 (j := (5 : Int32)) hin20 rfl (Sto.ofV Ar19 q19 O2 (Ins.self (E5_.ext (own_ext K0_17)))) (g := (mkF m 40 #[.val (.int p0), .val (.int p1), .val (.int p2), .unset, .unset, .unset, .unset, .unset] [(.ref w5), (.int (5 : Int32)), (.ref bk), (.ref bk)])) rfl rfl (hb hby at_40)
  have V_bk_20 : Arv Z h20 bk k2 (.object "com/example/humble_log/humblelog/protocol/ApiKey") (22 : Int32) [(.ref w0), (.ref w1), (.ref w2), (.ref w3), (.ref w4), (.ref w5), .null, .null, .null, .null, .null, .null, .null, .null, .null, .null, .null, .null, .null, .null, .null, .null] .null := Arv.set Ar19 q19 S19 P19 H19 G19 rfl W20 5 rfl (Nat.le_of_ble_eq_true rfl)
  have zh20 : n0 ≤ h20.size := Nat.le_trans zh17 (Nat.le_of_eq W20.size.symm)
  have K0_20 : Keep h0 h20 [] := K0_17.wr W20 (Or.inr sz_bk)
  obtain ⟨Lh20, N20, X20⟩ : ∃ L, Fr n0 L ∧ Stand p l e _ _ m _ below meth c T20 L _ _ := ⟨_, Fr.snoc X20 N17 lo_bk, X20⟩
  obtain ⟨T21, X21, e21, st21⟩ := getS2 X20 hx hZ hown (host := "") (Or.inl (hw _ (List.mem_of_getElem? (i := 16) rfl))) Via.refl e20 (S6_.ext (own_ext K0_20)) (g := (mkF m 44 #[.val (.int p0), .val (.int p1), .val (.int p2), .unset, .unset, .unset, .unset, .unset] [(.int (6 : Int32)), (.ref bk), (.ref bk)])) rfl (hb hby at_44)
  obtain ⟨cl22, Ar22, q22, S22, P22, H22, G22⟩ := V_bk_20
  have hin23 : ¬ ((6 : Int32) < 0 ∨ cl22.slots.size ≤ ((6 : Int32)).toNatClampNeg) := inb_of S22 ⟨by decide, by decide⟩
  obtain ⟨T23, h23, X23, e23, W23, st23⟩ := stR X21 hx hZ e21 Ar22 (j := (6 : Int32)) hin23 rfl (Sto.ofV Ar22 q22 O2 (Ins.self (E6_.ext (own_ext K0_20)))) (g := (mkF m 47 #[.val (.int p0), .val (.int p1), .val (.int p2), .unset, .unset, .unset, .unset, .unset] [(.ref w6), (.int (6 : Int32)), (.ref bk), (.ref bk)])) rfl rfl (hb hby at_47)
  have V_bk_23 : Arv Z h23 bk k2 (.object "com/example/humble_log/humblelog/protocol/ApiKey") (22 : Int32) [(.ref w0), (.ref w1), (.ref w2), (.ref w3), (.ref w4), (.ref w5), (.ref w6), .null, .null, .null, .null, .null, .null, .null, .null, .null, .null, .null, .null, .null, .null, .null] .null := Arv.set Ar22 q22 S22 P22 H22 G22 rfl W23 6 rfl (Nat.le_of_ble_eq_true rfl)
  have zh23 : n0 ≤ h23.size := Nat.le_trans zh20 (Nat.le_of_eq W23.size.symm)
  have K0_23 : Keep h0 h23 [] := K0_20.wr W23 (Or.inr sz_bk)
  obtain ⟨Lh23, N23, X23⟩ : ∃ L, Fr n0 L ∧ Stand p l e _ _ m _ below meth c T23 L _ _ := ⟨_, Fr.snoc X23 N20 lo_bk, X23⟩
  obtain ⟨T24, X24, e24, st24⟩ := getS2 X23 hx hZ hown (host := "") (Or.inl (hw _ (List.mem_of_getElem? (i := 18) rfl))) Via.refl e23 (S7_.ext (own_ext K0_23)) (g := (mkF m 51 #[.val (.int p0), .val (.int p1), .val (.int p2), .unset, .unset, .unset, .unset, .unset] [(.int (7 : Int32)), (.ref bk), (.ref bk)])) rfl (hb hby at_51)
  obtain ⟨cl25, Ar25, q25, S25, P25, H25, G25⟩ := V_bk_23
  have hin26 : ¬ ((7 : Int32) < 0 ∨ cl25.slots.size ≤ ((7 : Int32)).toNatClampNeg) := inb_of S25 ⟨by decide, by decide⟩
  obtain ⟨T26, h26, X26, e26, W26, st26⟩ := stR X24 hx hZ e24 Ar25 (j := (7 : Int32)) hin26 rfl (Sto.ofV Ar25 q25 O2 (Ins.self (E7_.ext (own_ext K0_23)))) (g := (mkF m 54 #[.val (.int p0), .val (.int p1), .val (.int p2), .unset, .unset, .unset, .unset, .unset] [(.ref w7), (.int (7 : Int32)), (.ref bk), (.ref bk)])) rfl rfl (hb hby at_54)
  have V_bk_26 : Arv Z h26 bk k2 (.object "com/example/humble_log/humblelog/protocol/ApiKey") (22 : Int32) [(.ref w0), (.ref w1), (.ref w2), (.ref w3), (.ref w4), (.ref w5), (.ref w6), (.ref w7), .null, .null, .null, .null, .null, .null, .null, .null, .null, .null, .null, .null, .null, .null] .null := Arv.set Ar25 q25 S25 P25 H25 G25 rfl W26 7 rfl (Nat.le_of_ble_eq_true rfl)
  have zh26 : n0 ≤ h26.size := Nat.le_trans zh23 (Nat.le_of_eq W26.size.symm)
  have K0_26 : Keep h0 h26 [] := K0_23.wr W26 (Or.inr sz_bk)
  obtain ⟨Lh26, N26, X26⟩ : ∃ L, Fr n0 L ∧ Stand p l e _ _ m _ below meth c T26 L _ _ := ⟨_, Fr.snoc X26 N23 lo_bk, X26⟩
  obtain ⟨T27, X27, e27, st27⟩ := getS2 X26 hx hZ hown (host := "") (Or.inl (hw _ (List.mem_of_getElem? (i := 20) rfl))) Via.refl e26 (S8_.ext (own_ext K0_26)) (g := (mkF m 58 #[.val (.int p0), .val (.int p1), .val (.int p2), .unset, .unset, .unset, .unset, .unset] [(.int (8 : Int32)), (.ref bk), (.ref bk)])) rfl (hb hby at_58)
  obtain ⟨cl28, Ar28, q28, S28, P28, H28, G28⟩ := V_bk_26
  have hin29 : ¬ ((8 : Int32) < 0 ∨ cl28.slots.size ≤ ((8 : Int32)).toNatClampNeg) := inb_of S28 ⟨by decide, by decide⟩
  obtain ⟨T29, h29, X29, e29, W29, st29⟩ := stR X27 hx hZ e27 Ar28 (j := (8 : Int32)) hin29 rfl (Sto.ofV Ar28 q28 O2 (Ins.self (E8_.ext (own_ext K0_26)))) (g := (mkF m 61 #[.val (.int p0), .val (.int p1), .val (.int p2), .unset, .unset, .unset, .unset, .unset] [(.ref w8), (.int (8 : Int32)), (.ref bk), (.ref bk)])) rfl rfl (hb hby at_61)
  have V_bk_29 : Arv Z h29 bk k2 (.object "com/example/humble_log/humblelog/protocol/ApiKey") (22 : Int32) [(.ref w0), (.ref w1), (.ref w2), (.ref w3), (.ref w4), (.ref w5), (.ref w6), (.ref w7), (.ref w8), .null, .null, .null, .null, .null, .null, .null, .null, .null, .null, .null, .null, .null] .null := Arv.set Ar28 q28 S28 P28 H28 G28 rfl W29 8 rfl (Nat.le_of_ble_eq_true rfl)
  have zh29 : n0 ≤ h29.size := Nat.le_trans zh26 (Nat.le_of_eq W29.size.symm)
  have K0_29 : Keep h0 h29 [] := K0_26.wr W29 (Or.inr sz_bk)
  obtain ⟨Lh29, N29, X29⟩ : ∃ L, Fr n0 L ∧ Stand p l e _ _ m _ below meth c T29 L _ _ := ⟨_, Fr.snoc X29 N26 lo_bk, X29⟩
  obtain ⟨T30, X30, e30, st30⟩ := getS2 X29 hx hZ hown (host := "") (Or.inl (hw _ (List.mem_of_getElem? (i := 22) rfl))) Via.refl e29 (S9_.ext (own_ext K0_29)) (g := (mkF m 65 #[.val (.int p0), .val (.int p1), .val (.int p2), .unset, .unset, .unset, .unset, .unset] [(.int (9 : Int32)), (.ref bk), (.ref bk)])) rfl (hb hby at_65)
  obtain ⟨cl31, Ar31, q31, S31, P31, H31, G31⟩ := V_bk_29
  have hin32 : ¬ ((9 : Int32) < 0 ∨ cl31.slots.size ≤ ((9 : Int32)).toNatClampNeg) := inb_of S31 ⟨by decide, by decide⟩
  obtain ⟨T32, h32, X32, e32, W32, st32⟩ := stR X30 hx hZ e30 Ar31 (j := (9 : Int32)) hin32 rfl (Sto.ofV Ar31 q31 O2 (Ins.self (E9_.ext (own_ext K0_29)))) (g := (mkF m 68 #[.val (.int p0), .val (.int p1), .val (.int p2), .unset, .unset, .unset, .unset, .unset] [(.ref w9), (.int (9 : Int32)), (.ref bk), (.ref bk)])) rfl rfl (hb hby at_68)
  have V_bk_32 : Arv Z h32 bk k2 (.object "com/example/humble_log/humblelog/protocol/ApiKey") (22 : Int32) [(.ref w0), (.ref w1), (.ref w2), (.ref w3), (.ref w4), (.ref w5), (.ref w6), (.ref w7), (.ref w8), (.ref w9), .null, .null, .null, .null, .null, .null, .null, .null, .null, .null, .null, .null] .null := Arv.set Ar31 q31 S31 P31 H31 G31 rfl W32 9 rfl (Nat.le_of_ble_eq_true rfl)
  have zh32 : n0 ≤ h32.size := Nat.le_trans zh29 (Nat.le_of_eq W32.size.symm)
  have K0_32 : Keep h0 h32 [] := K0_29.wr W32 (Or.inr sz_bk)
  obtain ⟨Lh32, N32, X32⟩ : ∃ L, Fr n0 L ∧ Stand p l e _ _ m _ below meth c T32 L _ _ := ⟨_, Fr.snoc X32 N29 lo_bk, X32⟩
  obtain ⟨T33, X33, e33, st33⟩ := getS2 X32 hx hZ hown (host := "") (Or.inl (hw _ (List.mem_of_getElem? (i := 24) rfl))) Via.refl e32 (S10_.ext (own_ext K0_32)) (g := (mkF m 72 #[.val (.int p0), .val (.int p1), .val (.int p2), .unset, .unset, .unset, .unset, .unset] [(.int (10 : Int32)), (.ref bk), (.ref bk)])) rfl (hb hby at_72)
  obtain ⟨cl34, Ar34, q34, S34, P34, H34, G34⟩ := V_bk_32
  have hin35 : ¬ ((10 : Int32) < 0 ∨ cl34.slots.size ≤ ((10 : Int32)).toNatClampNeg) := inb_of S34 ⟨by decide, by decide⟩
  obtain ⟨T35, h35, X35, e35, W35, st35⟩ := stR X33 hx hZ e33 Ar34 (j := (10 : Int32)) hin35 rfl (Sto.ofV Ar34 q34 O2 (Ins.self (E10_.ext (own_ext K0_32)))) (g := (mkF m 75 #[.val (.int p0), .val (.int p1), .val (.int p2), .unset, .unset, .unset, .unset, .unset] [(.ref w10), (.int (10 : Int32)), (.ref bk), (.ref bk)])) rfl rfl (hb hby at_75)
  have V_bk_35 : Arv Z h35 bk k2 (.object "com/example/humble_log/humblelog/protocol/ApiKey") (22 : Int32) [(.ref w0), (.ref w1), (.ref w2), (.ref w3), (.ref w4), (.ref w5), (.ref w6), (.ref w7), (.ref w8), (.ref w9), (.ref w10), .null, .null, .null, .null, .null, .null, .null, .null, .null, .null, .null] .null := Arv.set Ar34 q34 S34 P34 H34 G34 rfl W35 10 rfl (Nat.le_of_ble_eq_true rfl)
  have zh35 : n0 ≤ h35.size := Nat.le_trans zh32 (Nat.le_of_eq W35.size.symm)
  have K0_35 : Keep h0 h35 [] := K0_32.wr W35 (Or.inr sz_bk)
  obtain ⟨Lh35, N35, X35⟩ : ∃ L, Fr n0 L ∧ Stand p l e _ _ m _ below meth c T35 L _ _ := ⟨_, Fr.snoc X35 N32 lo_bk, X35⟩
  obtain ⟨T36, X36, e36, st36⟩ := getS2 X35 hx hZ hown (host := "") (Or.inl (hw _ (List.mem_of_getElem? (i := 26) rfl))) Via.refl e35 (S11_.ext (own_ext K0_35)) (g := (mkF m 79 #[.val (.int p0), .val (.int p1), .val (.int p2), .unset, .unset, .unset, .unset, .unset] [(.int (11 : Int32)), (.ref bk), (.ref bk)])) rfl (hb hby at_79)
  obtain ⟨cl37, Ar37, q37, S37, P37, H37, G37⟩ := V_bk_35
  have hin38 : ¬ ((11 : Int32) < 0 ∨ cl37.slots.size ≤ ((11 : Int32)).toNatClampNeg) := inb_of S37 ⟨by decide, by decide⟩
  obtain ⟨T38, h38, X38, e38, W38, st38⟩ := stR X36 hx hZ e36 Ar37 (j := (11 : Int32)) hin38 rfl (Sto.ofV Ar37 q37 O2 (Ins.self (E11_.ext (own_ext K0_35)))) (g := (mkF m 82 #[.val (.int p0), .val (.int p1), .val (.int p2), .unset, .unset, .unset, .unset, .unset] [(.ref w11), (.int (11 : Int32)), (.ref bk), (.ref bk)])) rfl rfl (hb hby at_82)
  have V_bk_38 : Arv Z h38 bk k2 (.object "com/example/humble_log/humblelog/protocol/ApiKey") (22 : Int32) [(.ref w0), (.ref w1), (.ref w2), (.ref w3), (.ref w4), (.ref w5), (.ref w6), (.ref w7), (.ref w8), (.ref w9), (.ref w10), (.ref w11), .null, .null, .null, .null, .null, .null, .null, .null, .null, .null] .null := Arv.set Ar37 q37 S37 P37 H37 G37 rfl W38 11 rfl (Nat.le_of_ble_eq_true rfl)
  have zh38 : n0 ≤ h38.size := Nat.le_trans zh35 (Nat.le_of_eq W38.size.symm)
  have K0_38 : Keep h0 h38 [] := K0_35.wr W38 (Or.inr sz_bk)
  obtain ⟨Lh38, N38, X38⟩ : ∃ L, Fr n0 L ∧ Stand p l e _ _ m _ below meth c T38 L _ _ := ⟨_, Fr.snoc X38 N35 lo_bk, X38⟩
  obtain ⟨T39, X39, e39, st39⟩ := getS2 X38 hx hZ hown (host := "") (Or.inl (hw _ (List.mem_of_getElem? (i := 28) rfl))) Via.refl e38 (S12_.ext (own_ext K0_38)) (g := (mkF m 86 #[.val (.int p0), .val (.int p1), .val (.int p2), .unset, .unset, .unset, .unset, .unset] [(.int (12 : Int32)), (.ref bk), (.ref bk)])) rfl (hb hby at_86)
  obtain ⟨cl40, Ar40, q40, S40, P40, H40, G40⟩ := V_bk_38
  have hin41 : ¬ ((12 : Int32) < 0 ∨ cl40.slots.size ≤ ((12 : Int32)).toNatClampNeg) := inb_of S40 ⟨by decide, by decide⟩
  obtain ⟨T41, h41, X41, e41, W41, st41⟩ := stR X39 hx hZ e39 Ar40 (j := (12 : Int32)) hin41 rfl (Sto.ofV Ar40 q40 O2 (Ins.self (E12_.ext (own_ext K0_38)))) (g := (mkF m 89 #[.val (.int p0), .val (.int p1), .val (.int p2), .unset, .unset, .unset, .unset, .unset] [(.ref w12), (.int (12 : Int32)), (.ref bk), (.ref bk)])) rfl rfl (hb hby at_89)
  have V_bk_41 : Arv Z h41 bk k2 (.object "com/example/humble_log/humblelog/protocol/ApiKey") (22 : Int32) [(.ref w0), (.ref w1), (.ref w2), (.ref w3), (.ref w4), (.ref w5), (.ref w6), (.ref w7), (.ref w8), (.ref w9), (.ref w10), (.ref w11), (.ref w12), .null, .null, .null, .null, .null, .null, .null, .null, .null] .null := Arv.set Ar40 q40 S40 P40 H40 G40 rfl W41 12 rfl (Nat.le_of_ble_eq_true rfl)
  have zh41 : n0 ≤ h41.size := Nat.le_trans zh38 (Nat.le_of_eq W41.size.symm)
  have K0_41 : Keep h0 h41 [] := K0_38.wr W41 (Or.inr sz_bk)
  obtain ⟨Lh41, N41, X41⟩ : ∃ L, Fr n0 L ∧ Stand p l e _ _ m _ below meth c T41 L _ _ := ⟨_, Fr.snoc X41 N38 lo_bk, X41⟩
  obtain ⟨T42, X42, e42, st42⟩ := getS2 X41 hx hZ hown (host := "") (Or.inl (hw _ (List.mem_of_getElem? (i := 30) rfl))) Via.refl e41 (S13_.ext (own_ext K0_41)) (g := (mkF m 93 #[.val (.int p0), .val (.int p1), .val (.int p2), .unset, .unset, .unset, .unset, .unset] [(.int (13 : Int32)), (.ref bk), (.ref bk)])) rfl (hb hby at_93)
  obtain ⟨cl43, Ar43, q43, S43, P43, H43, G43⟩ := V_bk_41
  have hin44 : ¬ ((13 : Int32) < 0 ∨ cl43.slots.size ≤ ((13 : Int32)).toNatClampNeg) := inb_of S43 ⟨by decide, by decide⟩
  obtain ⟨T44, h44, X44, e44, W44, st44⟩ := stR X42 hx hZ e42 Ar43 (j := (13 : Int32)) hin44 rfl (Sto.ofV Ar43 q43 O2 (Ins.self (E13_.ext (own_ext K0_41)))) (g := (mkF m 96 #[.val (.int p0), .val (.int p1), .val (.int p2), .unset, .unset, .unset, .unset, .unset] [(.ref w13), (.int (13 : Int32)), (.ref bk), (.ref bk)])) rfl rfl (hb hby at_96)
  have V_bk_44 : Arv Z h44 bk k2 (.object "com/example/humble_log/humblelog/protocol/ApiKey") (22 : Int32) [(.ref w0), (.ref w1), (.ref w2), (.ref w3), (.ref w4), (.ref w5), (.ref w6), (.ref w7), (.ref w8), (.ref w9), (.ref w10), (.ref w11), (.ref w12), (.ref w13), .null, .null, .null, .null, .null, .null, .null, .null] .null := Arv.set Ar43 q43 S43 P43 H43 G43 rfl W44 13 rfl (Nat.le_of_ble_eq_true rfl)
  have zh44 : n0 ≤ h44.size := Nat.le_trans zh41 (Nat.le_of_eq W44.size.symm)
  have K0_44 : Keep h0 h44 [] := K0_41.wr W44 (Or.inr sz_bk)
  obtain ⟨Lh44, N44, X44⟩ : ∃ L, Fr n0 L ∧ Stand p l e _ _ m _ below meth c T44 L _ _ := ⟨_, Fr.snoc X44 N41 lo_bk, X44⟩
  obtain ⟨T45, X45, e45, st45⟩ := getS2 X44 hx hZ hown (host := "") (Or.inl (hw _ (List.mem_of_getElem? (i := 32) rfl))) Via.refl e44 (S14_.ext (own_ext K0_44)) (g := (mkF m 100 #[.val (.int p0), .val (.int p1), .val (.int p2), .unset, .unset, .unset, .unset, .unset] [(.int (14 : Int32)), (.ref bk), (.ref bk)])) rfl (hb hby at_100)
  obtain ⟨cl46, Ar46, q46, S46, P46, H46, G46⟩ := V_bk_44
  have hin47 : ¬ ((14 : Int32) < 0 ∨ cl46.slots.size ≤ ((14 : Int32)).toNatClampNeg) := inb_of S46 ⟨by decide, by decide⟩
  obtain ⟨T47, h47, X47, e47, W47, st47⟩ := stR X45 hx hZ e45 Ar46 (j := (14 : Int32)) hin47 rfl (Sto.ofV Ar46 q46 O2 (Ins.self (E14_.ext (own_ext K0_44)))) (g := (mkF m 103 #[.val (.int p0), .val (.int p1), .val (.int p2), .unset, .unset, .unset, .unset, .unset] [(.ref w14), (.int (14 : Int32)), (.ref bk), (.ref bk)])) rfl rfl (hb hby at_103)
  have V_bk_47 : Arv Z h47 bk k2 (.object "com/example/humble_log/humblelog/protocol/ApiKey") (22 : Int32) [(.ref w0), (.ref w1), (.ref w2), (.ref w3), (.ref w4), (.ref w5), (.ref w6), (.ref w7), (.ref w8), (.ref w9), (.ref w10), (.ref w11), (.ref w12), (.ref w13), (.ref w14), .null, .null, .null, .null, .null, .null, .null] .null := Arv.set Ar46 q46 S46 P46 H46 G46 rfl W47 14 rfl (Nat.le_of_ble_eq_true rfl)
  have zh47 : n0 ≤ h47.size := Nat.le_trans zh44 (Nat.le_of_eq W47.size.symm)
  have K0_47 : Keep h0 h47 [] := K0_44.wr W47 (Or.inr sz_bk)
  obtain ⟨Lh47, N47, X47⟩ : ∃ L, Fr n0 L ∧ Stand p l e _ _ m _ below meth c T47 L _ _ := ⟨_, Fr.snoc X47 N44 lo_bk, X47⟩
  obtain ⟨T48, X48, e48, st48⟩ := getS2 X47 hx hZ hown (host := "") (Or.inl (hw _ (List.mem_of_getElem? (i := 34) rfl))) Via.refl e47 (S15_.ext (own_ext K0_47)) (g := (mkF m 107 #[.val (.int p0), .val (.int p1), .val (.int p2), .unset, .unset, .unset, .unset, .unset] [(.int (15 : Int32)), (.ref bk), (.ref bk)])) rfl (hb hby at_107)
  obtain ⟨cl49, Ar49, q49, S49, P49, H49, G49⟩ := V_bk_47
  have hin50 : ¬ ((15 : Int32) < 0 ∨ cl49.slots.size ≤ ((15 : Int32)).toNatClampNeg) := inb_of S49 ⟨by decide, by decide⟩
  obtain ⟨T50, h50, X50, e50, W50, st50⟩ := stR X48 hx hZ e48 Ar49 (j := (15 : Int32)) hin50 rfl (Sto.ofV Ar49 q49 O2 (Ins.self (E15_.ext (own_ext K0_47)))) (g := (mkF m 110 #[.val (.int p0), .val (.int p1), .val (.int p2), .unset, .unset, .unset, .unset, .unset] [(.ref w15), (.int (15 : Int32)), (.ref bk), (.ref bk)])) rfl rfl (hb hby at_110)
  have V_bk_50 : Arv Z h50 bk k2 (.object "com/example/humble_log/humblelog/protocol/ApiKey") (22 : Int32) [(.ref w0), (.ref w1), (.ref w2), (.ref w3), (.ref w4), (.ref w5), (.ref w6), (.ref w7), (.ref w8), (.ref w9), (.ref w10), (.ref w11), (.ref w12), (.ref w13), (.ref w14), (.ref w15), .null, .null, .null, .null, .null, .null] .null := Arv.set Ar49 q49 S49 P49 H49 G49 rfl W50 15 rfl (Nat.le_of_ble_eq_true rfl)
  have zh50 : n0 ≤ h50.size := Nat.le_trans zh47 (Nat.le_of_eq W50.size.symm)
  have K0_50 : Keep h0 h50 [] := K0_47.wr W50 (Or.inr sz_bk)
  obtain ⟨Lh50, N50, X50⟩ : ∃ L, Fr n0 L ∧ Stand p l e _ _ m _ below meth c T50 L _ _ := ⟨_, Fr.snoc X50 N47 lo_bk, X50⟩
  obtain ⟨T51, X51, e51, st51⟩ := getS2 X50 hx hZ hown (host := "") (Or.inl (hw _ (List.mem_of_getElem? (i := 36) rfl))) Via.refl e50 (S16_.ext (own_ext K0_50)) (g := (mkF m 114 #[.val (.int p0), .val (.int p1), .val (.int p2), .unset, .unset, .unset, .unset, .unset] [(.int (16 : Int32)), (.ref bk), (.ref bk)])) rfl (hb hby at_114)
  obtain ⟨cl52, Ar52, q52, S52, P52, H52, G52⟩ := V_bk_50
  have hin53 : ¬ ((16 : Int32) < 0 ∨ cl52.slots.size ≤ ((16 : Int32)).toNatClampNeg) := inb_of S52 ⟨by decide, by decide⟩
  obtain ⟨T53, h53, X53, e53, W53, st53⟩ := stR X51 hx hZ e51 Ar52 (j := (16 : Int32)) hin53 rfl (Sto.ofV Ar52 q52 O2 (Ins.self (E16_.ext (own_ext K0_50)))) (g := (mkF m 117 #[.val (.int p0), .val (.int p1), .val (.int p2), .unset, .unset, .unset, .unset, .unset] [(.ref w16), (.int (16 : Int32)), (.ref bk), (.ref bk)])) rfl rfl (hb hby at_117)
  have V_bk_53 : Arv Z h53 bk k2 (.object "com/example/humble_log/humblelog/protocol/ApiKey") (22 : Int32) [(.ref w0), (.ref w1), (.ref w2), (.ref w3), (.ref w4), (.ref w5), (.ref w6), (.ref w7), (.ref w8), (.ref w9), (.ref w10), (.ref w11), (.ref w12), (.ref w13), (.ref w14), (.ref w15), (.ref w16), .null, .null, .null, .null, .null] .null := Arv.set Ar52 q52 S52 P52 H52 G52 rfl W53 16 rfl (Nat.le_of_ble_eq_true rfl)
  have zh53 : n0 ≤ h53.size := Nat.le_trans zh50 (Nat.le_of_eq W53.size.symm)
  have K0_53 : Keep h0 h53 [] := K0_50.wr W53 (Or.inr sz_bk)
  obtain ⟨Lh53, N53, X53⟩ : ∃ L, Fr n0 L ∧ Stand p l e _ _ m _ below meth c T53 L _ _ := ⟨_, Fr.snoc X53 N50 lo_bk, X53⟩
  obtain ⟨T54, X54, e54, st54⟩ := getS2 X53 hx hZ hown (host := "") (Or.inl (hw _ (List.mem_of_getElem? (i := 38) rfl))) Via.refl e53 (S17_.ext (own_ext K0_53)) (g := (mkF m 121 #[.val (.int p0), .val (.int p1), .val (.int p2), .unset, .unset, .unset, .unset, .unset] [(.int (17 : Int32)), (.ref bk), (.ref bk)])) rfl (hb hby at_121)
  obtain ⟨cl55, Ar55, q55, S55, P55, H55, G55⟩ := V_bk_53
  have hin56 : ¬ ((17 : Int32) < 0 ∨ cl55.slots.size ≤ ((17 : Int32)).toNatClampNeg) := inb_of S55 ⟨by decide, by decide⟩
  obtain ⟨T56, h56, X56, e56, W56, st56⟩ := stR X54 hx hZ e54 Ar55 (j := (17 : Int32)) hin56 rfl (Sto.ofV Ar55 q55 O2 (Ins.self (E17_.ext (own_ext K0_53)))) (g := (mkF m 124 #[.val (.int p0), .val (.int p1), .val (.int p2), .unset, .unset, .unset, .unset, .unset] [(.ref w17), (.int (17 : Int32)), (.ref bk), (.ref bk)])) rfl rfl (hb hby at_124)
  have V_bk_56 : Arv Z h56 bk k2 (.object "com/example/humble_log/humblelog/protocol/ApiKey") (22 : Int32) [(.ref w0), (.ref w1), (.ref w2), (.ref w3), (.ref w4), (.ref w5), (.ref w6), (.ref w7), (.ref w8), (.ref w9), (.ref w10), (.ref w11), (.ref w12), (.ref w13), (.ref w14), (.ref w15), (.ref w16), (.ref w17), .null, .null, .null, .null] .null := Arv.set Ar55 q55 S55 P55 H55 G55 rfl W56 17 rfl (Nat.le_of_ble_eq_true rfl)
  have zh56 : n0 ≤ h56.size := Nat.le_trans zh53 (Nat.le_of_eq W56.size.symm)
  have K0_56 : Keep h0 h56 [] := K0_53.wr W56 (Or.inr sz_bk)
  obtain ⟨Lh56, N56, X56⟩ : ∃ L, Fr n0 L ∧ Stand p l e _ _ m _ below meth c T56 L _ _ := ⟨_, Fr.snoc X56 N53 lo_bk, X56⟩
  obtain ⟨T57, X57, e57, st57⟩ := getS2 X56 hx hZ hown (host := "") (Or.inl (hw _ (List.mem_of_getElem? (i := 40) rfl))) Via.refl e56 (S18_.ext (own_ext K0_56)) (g := (mkF m 128 #[.val (.int p0), .val (.int p1), .val (.int p2), .unset, .unset, .unset, .unset, .unset] [(.int (18 : Int32)), (.ref bk), (.ref bk)])) rfl (hb hby at_128)
  obtain ⟨cl58, Ar58, q58, S58, P58, H58, G58⟩ := V_bk_56
  have hin59 : ¬ ((18 : Int32) < 0 ∨ cl58.slots.size ≤ ((18 : Int32)).toNatClampNeg) := inb_of S58 ⟨by decide, by decide⟩
  obtain ⟨T59, h59, X59, e59, W59, st59⟩ := stR X57 hx hZ e57 Ar58 (j := (18 : Int32)) hin59 rfl (Sto.ofV Ar58 q58 O2 (Ins.self (E18_.ext (own_ext K0_56)))) (g := (mkF m 131 #[.val (.int p0), .val (.int p1), .val (.int p2), .unset, .unset, .unset, .unset, .unset] [(.ref w18), (.int (18 : Int32)), (.ref bk), (.ref bk)])) rfl rfl (hb hby at_131)
  have V_bk_59 : Arv Z h59 bk k2 (.object "com/example/humble_log/humblelog/protocol/ApiKey") (22 : Int32) [(.ref w0), (.ref w1), (.ref w2), (.ref w3), (.ref w4), (.ref w5), (.ref w6), (.ref w7), (.ref w8), (.ref w9), (.ref w10), (.ref w11), (.ref w12), (.ref w13), (.ref w14), (.ref w15), (.ref w16), (.ref w17), (.ref w18), .null, .null, .null] .null := Arv.set Ar58 q58 S58 P58 H58 G58 rfl W59 18 rfl (Nat.le_of_ble_eq_true rfl)
  have zh59 : n0 ≤ h59.size := Nat.le_trans zh56 (Nat.le_of_eq W59.size.symm)
  have K0_59 : Keep h0 h59 [] := K0_56.wr W59 (Or.inr sz_bk)
  obtain ⟨Lh59, N59, X59⟩ : ∃ L, Fr n0 L ∧ Stand p l e _ _ m _ below meth c T59 L _ _ := ⟨_, Fr.snoc X59 N56 lo_bk, X59⟩
  obtain ⟨T60, X60, e60, st60⟩ := getS2 X59 hx hZ hown (host := "") (Or.inl (hw _ (List.mem_of_getElem? (i := 42) rfl))) Via.refl e59 (S19_.ext (own_ext K0_59)) (g := (mkF m 135 #[.val (.int p0), .val (.int p1), .val (.int p2), .unset, .unset, .unset, .unset, .unset] [(.int (19 : Int32)), (.ref bk), (.ref bk)])) rfl (hb hby at_135)
  obtain ⟨cl61, Ar61, q61, S61, P61, H61, G61⟩ := V_bk_59
  have hin62 : ¬ ((19 : Int32) < 0 ∨ cl61.slots.size ≤ ((19 : Int32)).toNatClampNeg) := inb_of S61 ⟨by decide, by decide⟩
  obtain ⟨T62, h62, X62, e62, W62, st62⟩ := stR X60 hx hZ e60 Ar61 (j := (19 : Int32)) hin62 rfl (Sto.ofV Ar61 q61 O2 (Ins.self (E19_.ext (own_ext K0_59)))) (g := (mkF m 138 #[.val (.int p0), .val (.int p1), .val (.int p2), .unset, .unset, .unset, .unset, .unset] [(.ref w19), (.int (19 : Int32)), (.ref bk), (.ref bk)])) rfl rfl (hb hby at_138)
  have V_bk_62 : Arv Z h62 bk k2 (.object "com/example/humble_log/humblelog/protocol/ApiKey") (22 : Int32) [(.ref w0), (.ref w1), (.ref w2), (.ref w3), (.ref w4), (.ref w5), (.ref w6), (.ref w7), (.ref w8), (.ref w9), (.ref w10), (.ref w11), (.ref w12), (.ref w13), (.ref w14), (.ref w15), (.ref w16), (.ref w17), (.ref w18), (.ref w19), .null, .null] .null := Arv.set Ar61 q61 S61 P61 H61 G61 rfl W62 19 rfl (Nat.le_of_ble_eq_true rfl)
  have zh62 : n0 ≤ h62.size := Nat.le_trans zh59 (Nat.le_of_eq W62.size.symm)
  have K0_62 : Keep h0 h62 [] := K0_59.wr W62 (Or.inr sz_bk)
  obtain ⟨Lh62, N62, X62⟩ : ∃ L, Fr n0 L ∧ Stand p l e _ _ m _ below meth c T62 L _ _ := ⟨_, Fr.snoc X62 N59 lo_bk, X62⟩
  obtain ⟨T63, X63, e63, st63⟩ := getS2 X62 hx hZ hown (host := "") (Or.inl (hw _ (List.mem_of_getElem? (i := 44) rfl))) Via.refl e62 (S20_.ext (own_ext K0_62)) (g := (mkF m 142 #[.val (.int p0), .val (.int p1), .val (.int p2), .unset, .unset, .unset, .unset, .unset] [(.int (20 : Int32)), (.ref bk), (.ref bk)])) rfl (hb hby at_142)
  obtain ⟨cl64, Ar64, q64, S64, P64, H64, G64⟩ := V_bk_62
  have hin65 : ¬ ((20 : Int32) < 0 ∨ cl64.slots.size ≤ ((20 : Int32)).toNatClampNeg) := inb_of S64 ⟨by decide, by decide⟩
  obtain ⟨T65, h65, X65, e65, W65, st65⟩ := stR X63 hx hZ e63 Ar64 (j := (20 : Int32)) hin65 rfl (Sto.ofV Ar64 q64 O2 (Ins.self (E20_.ext (own_ext K0_62)))) (g := (mkF m 145 #[.val (.int p0), .val (.int p1), .val (.int p2), .unset, .unset, .unset, .unset, .unset] [(.ref w20), (.int (20 : Int32)), (.ref bk), (.ref bk)])) rfl rfl (hb hby at_145)
  have V_bk_65 : Arv Z h65 bk k2 (.object "com/example/humble_log/humblelog/protocol/ApiKey") (22 : Int32) [(.ref w0), (.ref w1), (.ref w2), (.ref w3), (.ref w4), (.ref w5), (.ref w6), (.ref w7), (.ref w8), (.ref w9), (.ref w10), (.ref w11), (.ref w12), (.ref w13), (.ref w14), (.ref w15), (.ref w16), (.ref w17), (.ref w18), (.ref w19), (.ref w20), .null] .null := Arv.set Ar64 q64 S64 P64 H64 G64 rfl W65 20 rfl (Nat.le_of_ble_eq_true rfl)
  have zh65 : n0 ≤ h65.size := Nat.le_trans zh62 (Nat.le_of_eq W65.size.symm)
  have K0_65 : Keep h0 h65 [] := K0_62.wr W65 (Or.inr sz_bk)
  obtain ⟨Lh65, N65, X65⟩ : ∃ L, Fr n0 L ∧ Stand p l e _ _ m _ below meth c T65 L _ _ := ⟨_, Fr.snoc X65 N62 lo_bk, X65⟩
  obtain ⟨T66, X66, e66, st66⟩ := getS2 X65 hx hZ hown (host := "") (Or.inl (hw _ (List.mem_of_getElem? (i := 46) rfl))) Via.refl e65 (S21_.ext (own_ext K0_65)) (g := (mkF m 149 #[.val (.int p0), .val (.int p1), .val (.int p2), .unset, .unset, .unset, .unset, .unset] [(.int (21 : Int32)), (.ref bk), (.ref bk)])) rfl (hb hby at_149)
  obtain ⟨cl67, Ar67, q67, S67, P67, H67, G67⟩ := V_bk_65
  have hin68 : ¬ ((21 : Int32) < 0 ∨ cl67.slots.size ≤ ((21 : Int32)).toNatClampNeg) := inb_of S67 ⟨by decide, by decide⟩
  obtain ⟨T68, h68, X68, e68, W68, st68⟩ := stR X66 hx hZ e66 Ar67 (j := (21 : Int32)) hin68 rfl (Sto.ofV Ar67 q67 O2 (Ins.self (E21_.ext (own_ext K0_65)))) (g := (mkF m 152 #[.val (.int p0), .val (.int p1), .val (.int p2), .unset, .unset, .unset, .unset, .unset] [(.ref w21), (.int (21 : Int32)), (.ref bk), (.ref bk)])) rfl rfl (hb hby at_152)
  have V_bk_68 : Arv Z h68 bk k2 (.object "com/example/humble_log/humblelog/protocol/ApiKey") (22 : Int32) [(.ref w0), (.ref w1), (.ref w2), (.ref w3), (.ref w4), (.ref w5), (.ref w6), (.ref w7), (.ref w8), (.ref w9), (.ref w10), (.ref w11), (.ref w12), (.ref w13), (.ref w14), (.ref w15), (.ref w16), (.ref w17), (.ref w18), (.ref w19), (.ref w20), (.ref w21)] .null := Arv.set Ar67 q67 S67 P67 H67 G67 rfl W68 21 rfl (Nat.le_of_ble_eq_true rfl)
  have zh68 : n0 ≤ h68.size := Nat.le_trans zh65 (Nat.le_of_eq W68.size.symm)
  have K0_68 : Keep h0 h68 [] := K0_65.wr W68 (Or.inr sz_bk)
  obtain ⟨Lh68, N68, X68⟩ : ∃ L, Fr n0 L ∧ Stand p l e _ _ m _ below meth c T68 L _ _ := ⟨_, Fr.snoc X68 N65 lo_bk, X68⟩
  obtain ⟨T69, h69, k69, X69, e69, E69, A69, st69⟩ := newP X68 hx hZ (hw _ (List.mem_of_getElem? (i := 48) rfl)) e68 (g := (mkF m 156 #[.val (.int p0), .val (.int p1), .val (.int p2), .val (.ref bk), .unset, .unset, .unset, .unset] [(.int (22 : Int32))])) rfl (hb hby at_156) rfl (by decide) (cap := 22) (by decide) (by decide) (by decide) (by decide)
  obtain ⟨bi0, g69⟩ : ∃ z, z = h68.size := ⟨_, rfl⟩
  rw [← g69] at A69 st69
  have ne_bk_bi0 : bk ≠ bi0 := Nat.ne_of_lt (Nat.lt_of_lt_of_le V_bk_68.lt (Nat.le_of_eq g69.symm))
  have lo_bi0 : n0 ≤ bi0 := Nat.le_trans zh68 (Nat.le_of_eq g69.symm)
  have sz_bi0 : h0.size ≤ bi0 := Nat.le_trans K0_68.1 (Nat.le_of_eq g69.symm)
  have V_bk_70 := V_bk_68.ext E69
  have zh69 : n0 ≤ h69.size := Nat.le_trans zh68 E69.1
  have K0_69 : Keep h0 h69 [] := K0_68.ext E69
  have V_bi0_69 : Arv Z h69 bi0 k69 .int (22 : Int32) [(.int (0 : Int32)), (.int (0 : Int32)), (.int (0 : Int32)), (.int (0 : Int32)), (.int (0 : Int32)), (.int (0 : Int32)), (.int (0 : Int32)), (.int (0 : Int32)), (.int (0 : Int32)), (.int (0 : Int32)), (.int (0 : Int32)), (.int (0 : Int32)), (.int (0 : Int32)), (.int (0 : Int32)), (.int (0 : Int32)), (.int (0 : Int32)), (.int (0 : Int32)), (.int (0 : Int32)), (.int (0 : Int32)), (.int (0 : Int32)), (.int (0 : Int32)), (.int (0 : Int32))] (.int (0 : Int32)) := (Arv.new A69 (by decide)).pad (pad_rep [] (.int (0 : Int32)) 22)
  obtain ⟨cl71, Ar71, q71, S71, P71, H71, G71⟩ := V_bi0_69
  have hin72 : ¬ ((0 : Int32) < 0 ∨ cl71.slots.size ≤ ((0 : Int32)).toNatClampNeg) := inb_of S71 ⟨by decide, by decide⟩
  obtain ⟨T72, h72, X72, e72, W72, st72⟩ := stI X69 hx hZ e69 Ar71 (j := (0 : Int32)) hin72 (g := (mkF m 162 #[.val (.int p0), .val (.int p1), .val (.int p2), .val (.ref bk), .unset, .unset, .unset, .unset] [(.int (9 : Int32)), (.int (0 : Int32)), (.ref bi0), (.ref bi0)])) rfl rfl (hb hby at_162)
  have V_bi0_72 : Arv Z h72 bi0 k69 .int (22 : Int32) [(.int (9 : Int32)), (.int (0 : Int32)), (.int (0 : Int32)), (.int (0 : Int32)), (.int (0 : Int32)), (.int (0 : Int32)), (.int (0 : Int32)), (.int (0 : Int32)), (.int (0 : Int32)), (.int (0 : Int32)), (.int (0 : Int32)), (.int (0 : Int32)), (.int (0 : Int32)), (.int (0 : Int32)), (.int (0 : Int32)), (.int (0 : Int32)), (.int (0 : Int32)), (.int (0 : Int32)), (.int (0 : Int32)), (.int (0 : Int32)), (.int (0 : Int32)), (.int (0 : Int32))] (.int (0 : Int32)) := Arv.set Ar71 q71 S71 P71 H71 G71 rfl W72 0 rfl (Nat.le_of_ble_eq_true rfl)
  have V_bk_73 := V_bk_70.other W72 ne_bk_bi0
  have zh72 : n0 ≤ h72.size := Nat.le_trans zh69 (Nat.le_of_eq W72.size.symm)
  have K0_72 : Keep h0 h72 [] := K0_69.wr W72 (Or.inr sz_bi0)
  obtain ⟨Lh72, N72, X72⟩ : ∃ L, Fr n0 L ∧ Stand p l e _ _ m _ below meth c T72 L _ _ := ⟨_, Fr.snoc X72 N68 lo_bi0, X72⟩
  obtain ⟨cl74, Ar74, q74, S74, P74, H74, G74⟩ := V_bi0_72
  have hin75 : ¬ ((1 : Int32) < 0 ∨ cl74.slots.size ≤ ((1 : Int32)).toNatClampNeg) := inb_of S74 ⟨by decide, by decide⟩
  obtain ⟨T75, h75, X75, e75, W75, st75⟩ := stI X72 hx hZ e72 Ar74 (j := (1 : Int32)) hin75 (g := (mkF m 167 #[.val (.int p0), .val (.int p1), .val (.int p2), .val (.ref bk), .unset, .unset, .unset, .unset] [(.int (12 : Int32)), (.int (1 : Int32)), (.ref bi0), (.ref bi0)])) rfl rfl (hb hby at_167)
  have V_bi0_75 : Arv Z h75 bi0 k69 .int (22 : Int32) [(.int (9 : Int32)), (.int (12 : Int32)), (.int (0 : Int32)), (.int (0 : Int32)), (.int (0 : Int32)), (.int (0 : Int32)), (.int (0 : Int32)), (.int (0 : Int32)), (.int (0 : Int32)), (.int (0 : Int32)), (.int (0 : Int32)), (.int (0 : Int32)), (.int (0 : Int32)), (.int (0 : Int32)), (.int (0 : Int32)), (.int (0 : Int32)), (.int (0 : Int32)), (.int (0 : Int32)), (.int (0 : Int32)), (.int (0 : Int32)), (.int (0 : Int32)), (.int (0 : Int32))] (.int (0 : Int32)) := Arv.set Ar74 q74 S74 P74 H74 G74 rfl W75 1 rfl (Nat.le_of_ble_eq_true rfl)
  have V_bk_76 := V_bk_73.other W75 ne_bk_bi0
  have zh75 : n0 ≤ h75.size := Nat.le_trans zh72 (Nat.le_of_eq W75.size.symm)
  have K0_75 : Keep h0 h75 [] := K0_72.wr W75 (Or.inr sz_bi0)
  obtain ⟨Lh75, N75, X75⟩ : ∃ L, Fr n0 L ∧ Stand p l e _ _ m _ below meth c T75 L _ _ := ⟨_, Fr.snoc X75 N72 lo_bi0, X75⟩
  obtain ⟨cl77, Ar77, q77, S77, P77, H77, G77⟩ := V_bi0_75
  have hin78 : ¬ ((2 : Int32) < 0 ∨ cl77.slots.size ≤ ((2 : Int32)).toNatClampNeg) := inb_of S77 ⟨by decide, by decide⟩
  obtain ⟨T78, h78, X78, e78, W78, st78⟩ := stI X75 hx hZ e75 Ar77 (j := (2 : Int32)) hin78 (g := (mkF m 172 #[.val (.int p0), .val (.int p1), .val (.int p2), .val (.ref bk), .unset, .unset, .unset, .unset] [(.int (6 : Int32)), (.int (2 : Int32)), (.ref bi0), (.ref bi0)])) rfl rfl (hb hby at_172)
  have V_bi0_78 : Arv Z h78 bi0 k69 .int (22 : Int32) [(.int (9 : Int32)), (.int (12 : Int32)), (.int (6 : Int32)), (.int (0 : Int32)), (.int (0 : Int32)), (.int (0 : Int32)), (.int (0 : Int32)), (.int (0 : Int32)), (.int (0 : Int32)), (.int (0 : Int32)), (.int (0 : Int32)), (.int (0 : Int32)), (.int (0 : Int32)), (.int (0 : Int32)), (.int (0 : Int32)), (.int (0 : Int32)), (.int (0 : Int32)), (.int (0 : Int32)), (.int (0 : Int32)), (.int (0 : Int32)), (.int (0 : Int32)), (.int (0 : Int32))] (.int (0 : Int32)) := Arv.set Ar77 q77 S77 P77 H77 G77 rfl W78 2 rfl (Nat.le_of_ble_eq_true rfl)
  have V_bk_79 := V_bk_76.other W78 ne_bk_bi0
  have zh78 : n0 ≤ h78.size := Nat.le_trans zh75 (Nat.le_of_eq W78.size.symm)
  have K0_78 : Keep h0 h78 [] := K0_75.wr W78 (Or.inr sz_bi0)
  obtain ⟨Lh78, N78, X78⟩ : ∃ L, Fr n0 L ∧ Stand p l e _ _ m _ below meth c T78 L _ _ := ⟨_, Fr.snoc X78 N75 lo_bi0, X78⟩
  obtain ⟨cl80, Ar80, q80, S80, P80, H80, G80⟩ := V_bi0_78
  have hin81 : ¬ ((3 : Int32) < 0 ∨ cl80.slots.size ≤ ((3 : Int32)).toNatClampNeg) := inb_of S80 ⟨by decide, by decide⟩
  obtain ⟨T81, h81, X81, e81, W81, st81⟩ := stI X78 hx hZ e78 Ar80 (j := (3 : Int32)) hin81 (g := (mkF m 177 #[.val (.int p0), .val (.int p1), .val (.int p2), .val (.ref bk), .unset, .unset, .unset, .unset] [(.int (9 : Int32)), (.int (3 : Int32)), (.ref bi0), (.ref bi0)])) rfl rfl (hb hby at_177)
  have V_bi0_81 : Arv Z h81 bi0 k69 .int (22 : Int32) [(.int (9 : Int32)), (.int (12 : Int32)), (.int (6 : Int32)), (.int (9 : Int32)), (.int (0 : Int32)), (.int (0 : Int32)), (.int (0 : Int32)), (.int (0 : Int32)), (.int (0 : Int32)), (.int (0 : Int32)), (.int (0 : Int32)), (.int (0 : Int32)), (.int (0 : Int32)), (.int (0 : Int32)), (.int (0 : Int32)), (.int (0 : Int32)), (.int (0 : Int32)), (.int (0 : Int32)), (.int (0 : Int32)), (.int (0 : Int32)), (.int (0 : Int32)), (.int (0 : Int32))] (.int (0 : Int32)) := Arv.set Ar80 q80 S80 P80 H80 G80 rfl W81 3 rfl (Nat.le_of_ble_eq_true rfl)
  have V_bk_82 := V_bk_79.other W81 ne_bk_bi0
  have zh81 : n0 ≤ h81.size := Nat.le_trans zh78 (Nat.le_of_eq W81.size.symm)
  have K0_81 : Keep h0 h81 [] := K0_78.wr W81 (Or.inr sz_bi0)
  obtain ⟨Lh81, N81, X81⟩ : ∃ L, Fr n0 L ∧ Stand p l e _ _ m _ below meth c T81 L _ _ := ⟨_, Fr.snoc X81 N78 lo_bi0, X81⟩
  obtain ⟨cl83, Ar83, q83, S83, P83, H83, G83⟩ := V_bi0_81
  have hin84 : ¬ ((4 : Int32) < 0 ∨ cl83.slots.size ≤ ((4 : Int32)).toNatClampNeg) := inb_of S83 ⟨by decide, by decide⟩
  obtain ⟨T84, h84, X84, e84, W84, st84⟩ := stI X81 hx hZ e81 Ar83 (j := (4 : Int32)) hin84 (g := (mkF m 182 #[.val (.int p0), .val (.int p1), .val (.int p2), .val (.ref bk), .unset, .unset, .unset, .unset] [(.int (8 : Int32)), (.int (4 : Int32)), (.ref bi0), (.ref bi0)])) rfl rfl (hb hby at_182)
  have V_bi0_84 : Arv Z h84 bi0 k69 .int (22 : Int32) [(.int (9 : Int32)), (.int (12 : Int32)), (.int (6 : Int32)), (.int (9 : Int32)), (.int (8 : Int32)), (.int (0 : Int32)), (.int (0 : Int32)), (.int (0 : Int32)), (.int (0 : Int32)), (.int (0 : Int32)), (.int (0 : Int32)), (.int (0 : Int32)), (.int (0 : Int32)), (.int (0 : Int32)), (.int (0 : Int32)), (.int (0 : Int32)), (.int (0 : Int32)), (.int (0 : Int32)), (.int (0 : Int32)), (.int (0 : Int32)), (.int (0 : Int32)), (.int (0 : Int32))] (.int (0 : Int32)) := Arv.set Ar83 q83 S83 P83 H83 G83 rfl W84 4 rfl (Nat.le_of_ble_eq_true rfl)
  have V_bk_85 := V_bk_82.other W84 ne_bk_bi0
  have zh84 : n0 ≤ h84.size := Nat.le_trans zh81 (Nat.le_of_eq W84.size.symm)
  have K0_84 : Keep h0 h84 [] := K0_81.wr W84 (Or.inr sz_bi0)
  obtain ⟨Lh84, N84, X84⟩ : ∃ L, Fr n0 L ∧ Stand p l e _ _ m _ below meth c T84 L _ _ := ⟨_, Fr.snoc X84 N81 lo_bi0, X84⟩
  obtain ⟨cl86, Ar86, q86, S86, P86, H86, G86⟩ := V_bi0_84
  have hin87 : ¬ ((5 : Int32) < 0 ∨ cl86.slots.size ≤ ((5 : Int32)).toNatClampNeg) := inb_of S86 ⟨by decide, by decide⟩
  obtain ⟨T87, h87, X87, e87, W87, st87⟩ := stI X84 hx hZ e84 Ar86 (j := (5 : Int32)) hin87 (g := (mkF m 187 #[.val (.int p0), .val (.int p1), .val (.int p2), .val (.ref bk), .unset, .unset, .unset, .unset] [(.int (6 : Int32)), (.int (5 : Int32)), (.ref bi0), (.ref bi0)])) rfl rfl (hb hby at_187)
  have V_bi0_87 : Arv Z h87 bi0 k69 .int (22 : Int32) [(.int (9 : Int32)), (.int (12 : Int32)), (.int (6 : Int32)), (.int (9 : Int32)), (.int (8 : Int32)), (.int (6 : Int32)), (.int (0 : Int32)), (.int (0 : Int32)), (.int (0 : Int32)), (.int (0 : Int32)), (.int (0 : Int32)), (.int (0 : Int32)), (.int (0 : Int32)), (.int (0 : Int32)), (.int (0 : Int32)), (.int (0 : Int32)), (.int (0 : Int32)), (.int (0 : Int32)), (.int (0 : Int32)), (.int (0 : Int32)), (.int (0 : Int32)), (.int (0 : Int32))] (.int (0 : Int32)) := Arv.set Ar86 q86 S86 P86 H86 G86 rfl W87 5 rfl (Nat.le_of_ble_eq_true rfl)
  have V_bk_88 := V_bk_85.other W87 ne_bk_bi0
  have zh87 : n0 ≤ h87.size := Nat.le_trans zh84 (Nat.le_of_eq W87.size.symm)
  have K0_87 : Keep h0 h87 [] := K0_84.wr W87 (Or.inr sz_bi0)
  obtain ⟨Lh87, N87, X87⟩ : ∃ L, Fr n0 L ∧ Stand p l e _ _ m _ below meth c T87 L _ _ := ⟨_, Fr.snoc X87 N84 lo_bi0, X87⟩
  obtain ⟨cl89, Ar89, q89, S89, P89, H89, G89⟩ := V_bi0_87
  have hin90 : ¬ ((6 : Int32) < 0 ∨ cl89.slots.size ≤ ((6 : Int32)).toNatClampNeg) := inb_of S89 ⟨by decide, by decide⟩
  obtain ⟨T90, h90, X90, e90, W90, st90⟩ := stI X87 hx hZ e87 Ar89 (j := (6 : Int32)) hin90 (g := (mkF m 192 #[.val (.int p0), .val (.int p1), .val (.int p2), .val (.ref bk), .unset, .unset, .unset, .unset] [(.int (3 : Int32)), (.int (6 : Int32)), (.ref bi0), (.ref bi0)])) rfl rfl (hb hby at_192)
  have V_bi0_90 : Arv Z h90 bi0 k69 .int (22 : Int32) [(.int (9 : Int32)), (.int (12 : Int32)), (.int (6 : Int32)), (.int (9 : Int32)), (.int (8 : Int32)), (.int (6 : Int32)), (.int (3 : Int32)), (.int (0 : Int32)), (.int (0 : Int32)), (.int (0 : Int32)), (.int (0 : Int32)), (.int (0 : Int32)), (.int (0 : Int32)), (.int (0 : Int32)), (.int (0 : Int32)), (.int (0 : Int32)), (.int (0 : Int32)), (.int (0 : Int32)), (.int (0 : Int32)), (.int (0 : Int32)), (.int (0 : Int32)), (.int (0 : Int32))] (.int (0 : Int32)) := Arv.set Ar89 q89 S89 P89 H89 G89 rfl W90 6 rfl (Nat.le_of_ble_eq_true rfl)
  have V_bk_91 := V_bk_88.other W90 ne_bk_bi0
  have zh90 : n0 ≤ h90.size := Nat.le_trans zh87 (Nat.le_of_eq W90.size.symm)
  have K0_90 : Keep h0 h90 [] := K0_87.wr W90 (Or.inr sz_bi0)
  obtain ⟨Lh90, N90, X90⟩ : ∃ L, Fr n0 L ∧ Stand p l e _ _ m _ below meth c T90 L _ _ := ⟨_, Fr.snoc X90 N87 lo_bi0, X90⟩
  obtain ⟨cl92, Ar92, q92, S92, P92, H92, G92⟩ := V_bi0_90
  have hin93 : ¬ ((7 : Int32) < 0 ∨ cl92.slots.size ≤ ((7 : Int32)).toNatClampNeg) := inb_of S92 ⟨by decide, by decide⟩
  obtain ⟨T93, h93, X93, e93, W93, st93⟩ := stI X90 hx hZ e90 Ar92 (j := (7 : Int32)) hin93 (g := (mkF m 198 #[.val (.int p0), .val (.int p1), .val (.int p2), .val (.ref bk), .unset, .unset, .unset, .unset] [(.int (6 : Int32)), (.int (7 : Int32)), (.ref bi0), (.ref bi0)])) rfl rfl (hb hby at_198)
  have V_bi0_93 : Arv Z h93 bi0 k69 .int (22 : Int32) [(.int (9 : Int32)), (.int (12 : Int32)), (.int (6 : Int32)), (.int (9 : Int32)), (.int (8 : Int32)), (.int (6 : Int32)), (.int (3 : Int32)), (.int (6 : Int32)), (.int (0 : Int32)), (.int (0 : Int32)), (.int (0 : Int32)), (.int (0 : Int32)), (.int (0 : Int32)), (.int (0 : Int32)), (.int (0 : Int32)), (.int (0 : Int32)), (.int (0 : Int32)), (.int (0 : Int32)), (.int (0 : Int32)), (.int (0 : Int32)), (.int (0 : Int32)), (.int (0 : Int32))] (.int (0 : Int32)) := Arv.set Ar92 q92 S92 P92 H92 G92 rfl W93 7 rfl (Nat.le_of_ble_eq_true rfl)
  have V_bk_94 := V_bk_91.other W93 ne_bk_bi0
  have zh93 : n0 ≤ h93.size := Nat.le_trans zh90 (Nat.le_of_eq W93.size.symm)
  have K0_93 : Keep h0 h93 [] := K0_90.wr W93 (Or.inr sz_bi0)
  obtain ⟨Lh93, N93, X93⟩ : ∃ L, Fr n0 L ∧ Stand p l e _ _ m _ below meth c T93 L _ _ := ⟨_, Fr.snoc X93 N90 lo_bi0, X93⟩
  obtain ⟨cl95, Ar95, q95, S95, P95, H95, G95⟩ := V_bi0_93
  have hin96 : ¬ ((8 : Int32) < 0 ∨ cl95.slots.size ≤ ((8 : Int32)).toNatClampNeg) := inb_of S95 ⟨by decide, by decide⟩
  obtain ⟨T96, h96, X96, e96, W96, st96⟩ := stI X93 hx hZ e93 Ar95 (j := (8 : Int32)) hin96 (g := (mkF m 203 #[.val (.int p0), .val (.int p1), .val (.int p2), .val (.ref bk), .unset, .unset, .unset, .unset] [(.int (4 : Int32)), (.int (8 : Int32)), (.ref bi0), (.ref bi0)])) rfl rfl (hb hby at_203)
  have V_bi0_96 : Arv Z h96 bi0 k69 .int (22 : Int32) [(.int (9 : Int32)), (.int (12 : Int32)), (.int (6 : Int32)), (.int (9 : Int32)), (.int (8 : Int32)), (.int (6 : Int32)), (.int (3 : Int32)), (.int (6 : Int32)), (.int (4 : Int32)), (.int (0 : Int32)), (.int (0 : Int32)), (.int (0 : Int32)), (.int (0 : Int32)), (.int (0 : Int32)), (.int (0 : Int32)), (.int (0 : Int32)), (.int (0 : Int32)), (.int (0 : Int32)), (.int (0 : Int32)), (.int (0 : Int32)), (.int (0 : Int32)), (.int (0 : Int32))] (.int (0 : Int32)) := Arv.set Ar95 q95 S95 P95 H95 G95 rfl W96 8 rfl (Nat.le_of_ble_eq_true rfl)
  have V_bk_97 := V_bk_94.other W96 ne_bk_bi0
  have zh96 : n0 ≤ h96.size := Nat.le_trans zh93 (Nat.le_of_eq W96.size.symm)
  have K0_96 : Keep h0 h96 [] := K0_93.wr W96 (Or.inr sz_bi0)
  obtain ⟨Lh96, N96, X96⟩ : ∃ L, Fr n0 L ∧ Stand p l e _ _ m _ below meth c T96 L _ _ := ⟨_, Fr.snoc X96 N93 lo_bi0, X96⟩
  obtain ⟨cl98, Ar98, q98, S98, P98, H98, G98⟩ := V_bi0_96
  have hin99 : ¬ ((9 : Int32) < 0 ∨ cl98.slots.size ≤ ((9 : Int32)).toNatClampNeg) := inb_of S98 ⟨by decide, by decide⟩
  obtain ⟨T99, h99, X99, e99, W99, st99⟩ := stI X96 hx hZ e96 Ar98 (j := (9 : Int32)) hin99 (g := (mkF m 208 #[.val (.int p0), .val (.int p1), .val (.int p2), .val (.ref bk), .unset, .unset, .unset, .unset] [(.int (4 : Int32)), (.int (9 : Int32)), (.ref bi0), (.ref bi0)])) rfl rfl (hb hby at_208)
  have V_bi0_99 : Arv Z h99 bi0 k69 .int (22 : Int32) [(.int (9 : Int32)), (.int (12 : Int32)), (.int (6 : Int32)), (.int (9 : Int32)), (.int (8 : Int32)), (.int (6 : Int32)), (.int (3 : Int32)), (.int (6 : Int32)), (.int (4 : Int32)), (.int (4 : Int32)), (.int (0 : Int32)), (.int (0 : Int32)), (.int (0 : Int32)), (.int (0 : Int32)), (.int (0 : Int32)), (.int (0 : Int32)), (.int (0 : Int32)), (.int (0 : Int32)), (.int (0 : Int32)), (.int (0 : Int32)), (.int (0 : Int32)), (.int (0 : Int32))] (.int (0 : Int32)) := Arv.set Ar98 q98 S98 P98 H98 G98 rfl W99 9 rfl (Nat.le_of_ble_eq_true rfl)
  have V_bk_100 := V_bk_97.other W99 ne_bk_bi0
  have zh99 : n0 ≤ h99.size := Nat.le_trans zh96 (Nat.le_of_eq W99.size.symm)
  have K0_99 : Keep h0 h99 [] := K0_96.wr W99 (Or.inr sz_bi0)
  obtain ⟨Lh99, N99, X99⟩ : ∃ L, Fr n0 L ∧ Stand p l e _ _ m _ below meth c T99 L _ _ := ⟨_, Fr.snoc X99 N96 lo_bi0, X99⟩
  obtain ⟨cl101, Ar101, q101, S101, P101, H101, G101⟩ := V_bi0_99
  have hin102 : ¬ ((10 : Int32) < 0 ∨ cl101.slots.size ≤ ((10 : Int32)).toNatClampNeg) := inb_of S101 ⟨by decide, by decide⟩
  obtain ⟨T102, h102, X102, e102, W102, st102⟩ := stI X99 hx hZ e99 Ar101 (j := (10 : Int32)) hin102 (g := (mkF m 213 #[.val (.int p0), .val (.int p1), .val (.int p2), .val (.ref bk), .unset, .unset, .unset, .unset] [(.int (4 : Int32)), (.int (10 : Int32)), (.ref bi0), (.ref bi0)])) rfl rfl (hb hby at_213)
  have V_bi0_102 : Arv Z h102 bi0 k69 .int (22 : Int32) [(.int (9 : Int32)), (.int (12 : Int32)), (.int (6 : Int32)), (.int (9 : Int32)), (.int (8 : Int32)), (.int (6 : Int32)), (.int (3 : Int32)), (.int (6 : Int32)), (.int (4 : Int32)), (.int (4 : Int32)), (.int (4 : Int32)), (.int (0 : Int32)), (.int (0 : Int32)), (.int (0 : Int32)), (.int (0 : Int32)), (.int (0 : Int32)), (.int (0 : Int32)), (.int (0 : Int32)), (.int (0 : Int32)), (.int (0 : Int32)), (.int (0 : Int32)), (.int (0 : Int32))] (.int (0 : Int32)) := Arv.set Ar101 q101 S101 P101 H101 G101 rfl W102 10 rfl (Nat.le_of_ble_eq_true rfl)
  have V_bk_103 := V_bk_100.other W102 ne_bk_bi0
  have zh102 : n0 ≤ h102.size := Nat.le_trans zh99 (Nat.le_of_eq W102.size.symm)
  have K0_102 : Keep h0 h102 [] := K0_99.wr W102 (Or.inr sz_bi0)
  obtain ⟨Lh102, N102, X102⟩ : ∃ L, Fr n0 L ∧ Stand p l e _ _ m _ below meth c T102 L _ _ := ⟨_, Fr.snoc X102 N99 lo_bi0, X102⟩
  obtain ⟨cl104, Ar104, q104, S104, P104, H104, G104⟩ := V_bi0_102
  have hin105 : ¬ ((11 : Int32) < 0 ∨ cl104.slots.size ≤ ((11 : Int32)).toNatClampNeg) := inb_of S104 ⟨by decide, by decide⟩
  obtain ⟨T105, h105, X105, e105, W105, st105⟩ := stI X102 hx hZ e102 Ar104 (j := (11 : Int32)) hin105 (g := (mkF m 218 #[.val (.int p0), .val (.int p1), .val (.int p2), .val (.ref bk), .unset, .unset, .unset, .unset] [(.int (5 : Int32)), (.int (11 : Int32)), (.ref bi0), (.ref bi0)])) rfl rfl (hb hby at_218)
  have V_bi0_105 : Arv Z h105 bi0 k69 .int (22 : Int32) [(.int (9 : Int32)), (.int (12 : Int32)), (.int (6 : Int32)), (.int (9 : Int32)), (.int (8 : Int32)), (.int (6 : Int32)), (.int (3 : Int32)), (.int (6 : Int32)), (.int (4 : Int32)), (.int (4 : Int32)), (.int (4 : Int32)), (.int (5 : Int32)), (.int (0 : Int32)), (.int (0 : Int32)), (.int (0 : Int32)), (.int (0 : Int32)), (.int (0 : Int32)), (.int (0 : Int32)), (.int (0 : Int32)), (.int (0 : Int32)), (.int (0 : Int32)), (.int (0 : Int32))] (.int (0 : Int32)) := Arv.set Ar104 q104 S104 P104 H104 G104 rfl W105 11 rfl (Nat.le_of_ble_eq_true rfl)
  have V_bk_106 := V_bk_103.other W105 ne_bk_bi0
  have zh105 : n0 ≤ h105.size := Nat.le_trans zh102 (Nat.le_of_eq W105.size.symm)
  have K0_105 : Keep h0 h105 [] := K0_102.wr W105 (Or.inr sz_bi0)
  obtain ⟨Lh105, N105, X105⟩ : ∃ L, Fr n0 L ∧ Stand p l e _ _ m _ below meth c T105 L _ _ := ⟨_, Fr.snoc X105 N102 lo_bi0, X105⟩
  obtain ⟨cl107, Ar107, q107, S107, P107, H107, G107⟩ := V_bi0_105
  have hin108 : ¬ ((12 : Int32) < 0 ∨ cl107.slots.size ≤ ((12 : Int32)).toNatClampNeg) := inb_of S107 ⟨by decide, by decide⟩
  obtain ⟨T108, h108, X108, e108, W108, st108⟩ := stI X105 hx hZ e105 Ar107 (j := (12 : Int32)) hin108 (g := (mkF m 223 #[.val (.int p0), .val (.int p1), .val (.int p2), .val (.ref bk), .unset, .unset, .unset, .unset] [(.int (3 : Int32)), (.int (12 : Int32)), (.ref bi0), (.ref bi0)])) rfl rfl (hb hby at_223)
  have V_bi0_108 : Arv Z h108 bi0 k69 .int (22 : Int32) [(.int (9 : Int32)), (.int (12 : Int32)), (.int (6 : Int32)), (.int (9 : Int32)), (.int (8 : Int32)), (.int (6 : Int32)), (.int (3 : Int32)), (.int (6 : Int32)), (.int (4 : Int32)), (.int (4 : Int32)), (.int (4 : Int32)), (.int (5 : Int32)), (.int (3 : Int32)), (.int (0 : Int32)), (.int (0 : Int32)), (.int (0 : Int32)), (.int (0 : Int32)), (.int (0 : Int32)), (.int (0 : Int32)), (.int (0 : Int32)), (.int (0 : Int32)), (.int (0 : Int32))] (.int (0 : Int32)) := Arv.set Ar107 q107 S107 P107 H107 G107 rfl W108 12 rfl (Nat.le_of_ble_eq_true rfl)
  have V_bk_109 := V_bk_106.other W108 ne_bk_bi0
  have zh108 : n0 ≤ h108.size := Nat.le_trans zh105 (Nat.le_of_eq W108.size.symm)
  have K0_108 : Keep h0 h108 [] := K0_105.wr W108 (Or.inr sz_bi0)
  obtain ⟨Lh108, N108, X108⟩ : ∃ L, Fr n0 L ∧ Stand p l e _ _ m _ below meth c T108 L _ _ := ⟨_, Fr.snoc X108 N105 lo_bi0, X108⟩
  obtain ⟨cl110, Ar110, q110, S110, P110, H110, G110⟩ := V_bi0_108
  have hin111 : ¬ ((13 : Int32) < 0 ∨ cl110.slots.size ≤ ((13 : Int32)).toNatClampNeg) := inb_of S110 ⟨by decide, by decide⟩
  obtain ⟨T111, h111, X111, e111, W111, st111⟩ := stI X108 hx hZ e108 Ar110 (j := (13 : Int32)) hin111 (g := (mkF m 228 #[.val (.int p0), .val (.int p1), .val (.int p2), .val (.ref bk), .unset, .unset, .unset, .unset] [(.int (3 : Int32)), (.int (13 : Int32)), (.ref bi0), (.ref bi0)])) rfl rfl (hb hby at_228)
  have V_bi0_111 : Arv Z h111 bi0 k69 .int (22 : Int32) [(.int (9 : Int32)), (.int (12 : Int32)), (.int (6 : Int32)), (.int (9 : Int32)), (.int (8 : Int32)), (.int (6 : Int32)), (.int (3 : Int32)), (.int (6 : Int32)), (.int (4 : Int32)), (.int (4 : Int32)), (.int (4 : Int32)), (.int (5 : Int32)), (.int (3 : Int32)), (.int (3 : Int32)), (.int (0 : Int32)), (.int (0 : Int32)), (.int (0 : Int32)), (.int (0 : Int32)), (.int (0 : Int32)), (.int (0 : Int32)), (.int (0 : Int32)), (.int (0 : Int32))] (.int (0 : Int32)) := Arv.set Ar110 q110 S110 P110 H110 G110 rfl W111 13 rfl (Nat.le_of_ble_eq_true rfl)
  have V_bk_112 := V_bk_109.other W111 ne_bk_bi0
  have zh111 : n0 ≤ h111.size := Nat.le_trans zh108 (Nat.le_of_eq W111.size.symm)
  have K0_111 : Keep h0 h111 [] := K0_108.wr W111 (Or.inr sz_bi0)
  obtain ⟨Lh111, N111, X111⟩ : ∃ L, Fr n0 L ∧ Stand p l e _ _ m _ below meth c T111 L _ _ := ⟨_, Fr.snoc X111 N108 lo_bi0, X111⟩
  obtain ⟨cl113, Ar113, q113, S113, P113, H113, G113⟩ := V_bi0_111
  have hin114 : ¬ ((14 : Int32) < 0 ∨ cl113.slots.size ≤ ((14 : Int32)).toNatClampNeg) := inb_of S113 ⟨by decide, by decide⟩
  obtain ⟨T114, h114, X114, e114, W114, st114⟩ := stI X111 hx hZ e111 Ar113 (j := (14 : Int32)) hin114 (g := (mkF m 233 #[.val (.int p0), .val (.int p1), .val (.int p2), .val (.ref bk), .unset, .unset, .unset, .unset] [(.int (5 : Int32)), (.int (14 : Int32)), (.ref bi0), (.ref bi0)])) rfl rfl (hb hby at_233)
  have V_bi0_114 : Arv Z h114 bi0 k69 .int (22 : Int32) [(.int (9 : Int32)), (.int (12 : Int32)), (.int (6 : Int32)), (.int (9 : Int32)), (.int (8 : Int32)), (.int (6 : Int32)), (.int (3 : Int32)), (.int (6 : Int32)), (.int (4 : Int32)), (.int (4 : Int32)), (.int (4 : Int32)), (.int (5 : Int32)), (.int (3 : Int32)), (.int (3 : Int32)), (.int (5 : Int32)), (.int (0 : Int32)), (.int (0 : Int32)), (.int (0 : Int32)), (.int (0 : Int32)), (.int (0 : Int32)), (.int (0 : Int32)), (.int (0 : Int32))] (.int (0 : Int32)) := Arv.set Ar113 q113 S113 P113 H113 G113 rfl W114 14 rfl (Nat.le_of_ble_eq_true rfl)
  have V_bk_115 := V_bk_112.other W114 ne_bk_bi0
  have zh114 : n0 ≤ h114.size := Nat.le_trans zh111 (Nat.le_of_eq W114.size.symm)
  have K0_114 : Keep h0 h114 [] := K0_111.wr W114 (Or.inr sz_bi0)
  obtain ⟨Lh114, N114, X114⟩ : ∃ L, Fr n0 L ∧ Stand p l e _ _ m _ below meth c T114 L _ _ := ⟨_, Fr.snoc X114 N111 lo_bi0, X114⟩
  obtain ⟨cl116, Ar116, q116, S116, P116, H116, G116⟩ := V_bi0_114
  have hin117 : ¬ ((15 : Int32) < 0 ∨ cl116.slots.size ≤ ((15 : Int32)).toNatClampNeg) := inb_of S116 ⟨by decide, by decide⟩
  obtain ⟨T117, h117, X117, e117, W117, st117⟩ := stI X114 hx hZ e114 Ar116 (j := (15 : Int32)) hin117 (g := (mkF m 238 #[.val (.int p0), .val (.int p1), .val (.int p2), .val (.ref bk), .unset, .unset, .unset, .unset] [(.int (4 : Int32)), (.int (15 : Int32)), (.ref bi0), (.ref bi0)])) rfl rfl (hb hby at_238)
  have V_bi0_117 : Arv Z h117 bi0 k69 .int (22 : Int32) [(.int (9 : Int32)), (.int (12 : Int32)), (.int (6 : Int32)), (.int (9 : Int32)), (.int (8 : Int32)), (.int (6 : Int32)), (.int (3 : Int32)), (.int (6 : Int32)), (.int (4 : Int32)), (.int (4 : Int32)), (.int (4 : Int32)), (.int (5 : Int32)), (.int (3 : Int32)), (.int (3 : Int32)), (.int (5 : Int32)), (.int (4 : Int32)), (.int (0 : Int32)), (.int (0 : Int32)), (.int (0 : Int32)), (.int (0 : Int32)), (.int (0 : Int32)), (.int (0 : Int32))] (.int (0 : Int32)) := Arv.set Ar116 q116 S116 P116 H116 G116 rfl W117 15 rfl (Nat.le_of_ble_eq_true rfl)
  have V_bk_118 := V_bk_115.other W117 ne_bk_bi0
  have zh117 : n0 ≤ h117.size := Nat.le_trans zh114 (Nat.le_of_eq W117.size.symm)
  have K0_117 : Keep h0 h117 [] := K0_114.wr W117 (Or.inr sz_bi0)
  obtain ⟨Lh117, N117, X117⟩ : ∃ L, Fr n0 L ∧ Stand p l e _ _ m _ below meth c T117 L _ _ := ⟨_, Fr.snoc X117 N114 lo_bi0, X117⟩
  obtain ⟨cl119, Ar119, q119, S119, P119, H119, G119⟩ := V_bi0_117
  have hin120 : ¬ ((16 : Int32) < 0 ∨ cl119.slots.size ≤ ((16 : Int32)).toNatClampNeg) := inb_of S119 ⟨by decide, by decide⟩
  obtain ⟨T120, h120, X120, e120, W120, st120⟩ := stI X117 hx hZ e117 Ar119 (j := (16 : Int32)) hin120 (g := (mkF m 243 #[.val (.int p0), .val (.int p1), .val (.int p2), .val (.ref bk), .unset, .unset, .unset, .unset] [(.int (2 : Int32)), (.int (16 : Int32)), (.ref bi0), (.ref bi0)])) rfl rfl (hb hby at_243)
  have V_bi0_120 : Arv Z h120 bi0 k69 .int (22 : Int32) [(.int (9 : Int32)), (.int (12 : Int32)), (.int (6 : Int32)), (.int (9 : Int32)), (.int (8 : Int32)), (.int (6 : Int32)), (.int (3 : Int32)), (.int (6 : Int32)), (.int (4 : Int32)), (.int (4 : Int32)), (.int (4 : Int32)), (.int (5 : Int32)), (.int (3 : Int32)), (.int (3 : Int32)), (.int (5 : Int32)), (.int (4 : Int32)), (.int (2 : Int32)), (.int (0 : Int32)), (.int (0 : Int32)), (.int (0 : Int32)), (.int (0 : Int32)), (.int (0 : Int32))] (.int (0 : Int32)) := Arv.set Ar119 q119 S119 P119 H119 G119 rfl W120 16 rfl (Nat.le_of_ble_eq_true rfl)
  have V_bk_121 := V_bk_118.other W120 ne_bk_bi0
  have zh120 : n0 ≤ h120.size := Nat.le_trans zh117 (Nat.le_of_eq W120.size.symm)
  have K0_120 : Keep h0 h120 [] := K0_117.wr W120 (Or.inr sz_bi0)
  obtain ⟨Lh120, N120, X120⟩ : ∃ L, Fr n0 L ∧ Stand p l e _ _ m _ below meth c T120 L _ _ := ⟨_, Fr.snoc X120 N117 lo_bi0, X120⟩
  obtain ⟨cl122, Ar122, q122, S122, P122, H122, G122⟩ := V_bi0_120
  have hin123 : ¬ ((17 : Int32) < 0 ∨ cl122.slots.size ≤ ((17 : Int32)).toNatClampNeg) := inb_of S122 ⟨by decide, by decide⟩
  obtain ⟨T123, h123, X123, e123, W123, st123⟩ := stI X120 hx hZ e120 Ar122 (j := (17 : Int32)) hin123 (g := (mkF m 248 #[.val (.int p0), .val (.int p1), .val (.int p2), .val (.ref bk), .unset, .unset, .unset, .unset] [(.int (4 : Int32)), (.int (17 : Int32)), (.ref bi0), (.ref bi0)])) rfl rfl (hb hby at_248)
  have V_bi0_123 : Arv Z h123 bi0 k69 .int (22 : Int32) [(.int (9 : Int32)), (.int (12 : Int32)), (.int (6 : Int32)), (.int (9 : Int32)), (.int (8 : Int32)), (.int (6 : Int32)), (.int (3 : Int32)), (.int (6 : Int32)), (.int (4 : Int32)), (.int (4 : Int32)), (.int (4 : Int32)), (.int (5 : Int32)), (.int (3 : Int32)), (.int (3 : Int32)), (.int (5 : Int32)), (.int (4 : Int32)), (.int (2 : Int32)), (.int (4 : Int32)), (.int (0 : Int32)), (.int (0 : Int32)), (.int (0 : Int32)), (.int (0 : Int32))] (.int (0 : Int32)) := Arv.set Ar122 q122 S122 P122 H122 G122 rfl W123 17 rfl (Nat.le_of_ble_eq_true rfl)
  have V_bk_124 := V_bk_121.other W123 ne_bk_bi0
  have zh123 : n0 ≤ h123.size := Nat.le_trans zh120 (Nat.le_of_eq W123.size.symm)
  have K0_123 : Keep h0 h123 [] := K0_120.wr W123 (Or.inr sz_bi0)
  obtain ⟨Lh123, N123, X123⟩ : ∃ L, Fr n0 L ∧ Stand p l e _ _ m _ below meth c T123 L _ _ := ⟨_, Fr.snoc X123 N120 lo_bi0, X123⟩
  obtain ⟨cl125, Ar125, q125, S125, P125, H125, G125⟩ := V_bi0_123
  have hin126 : ¬ ((18 : Int32) < 0 ∨ cl125.slots.size ≤ ((18 : Int32)).toNatClampNeg) := inb_of S125 ⟨by decide, by decide⟩
  obtain ⟨T126, h126, X126, e126, W126, st126⟩ := stI X123 hx hZ e123 Ar125 (j := (18 : Int32)) hin126 (g := (mkF m 253 #[.val (.int p0), .val (.int p1), .val (.int p2), .val (.ref bk), .unset, .unset, .unset, .unset] [(.int (2 : Int32)), (.int (18 : Int32)), (.ref bi0), (.ref bi0)])) rfl rfl (hb hby at_253)
  have V_bi0_126 : Arv Z h126 bi0 k69 .int (22 : Int32) [(.int (9 : Int32)), (.int (12 : Int32)), (.int (6 : Int32)), (.int (9 : Int32)), (.int (8 : Int32)), (.int (6 : Int32)), (.int (3 : Int32)), (.int (6 : Int32)), (.int (4 : Int32)), (.int (4 : Int32)), (.int (4 : Int32)), (.int (5 : Int32)), (.int (3 : Int32)), (.int (3 : Int32)), (.int (5 : Int32)), (.int (4 : Int32)), (.int (2 : Int32)), (.int (4 : Int32)), (.int (2 : Int32)), (.int (0 : Int32)), (.int (0 : Int32)), (.int (0 : Int32))] (.int (0 : Int32)) := Arv.set Ar125 q125 S125 P125 H125 G125 rfl W126 18 rfl (Nat.le_of_ble_eq_true rfl)
  have V_bk_127 := V_bk_124.other W126 ne_bk_bi0
  have zh126 : n0 ≤ h126.size := Nat.le_trans zh123 (Nat.le_of_eq W126.size.symm)
  have K0_126 : Keep h0 h126 [] := K0_123.wr W126 (Or.inr sz_bi0)
  obtain ⟨Lh126, N126, X126⟩ : ∃ L, Fr n0 L ∧ Stand p l e _ _ m _ below meth c T126 L _ _ := ⟨_, Fr.snoc X126 N123 lo_bi0, X126⟩
  obtain ⟨cl128, Ar128, q128, S128, P128, H128, G128⟩ := V_bi0_126
  have hin129 : ¬ ((19 : Int32) < 0 ∨ cl128.slots.size ≤ ((19 : Int32)).toNatClampNeg) := inb_of S128 ⟨by decide, by decide⟩
  obtain ⟨T129, h129, X129, e129, W129, st129⟩ := stI X126 hx hZ e126 Ar128 (j := (19 : Int32)) hin129 (g := (mkF m 258 #[.val (.int p0), .val (.int p1), .val (.int p2), .val (.ref bk), .unset, .unset, .unset, .unset] [(.int (2 : Int32)), (.int (19 : Int32)), (.ref bi0), (.ref bi0)])) rfl rfl (hb hby at_258)
  have V_bi0_129 : Arv Z h129 bi0 k69 .int (22 : Int32) [(.int (9 : Int32)), (.int (12 : Int32)), (.int (6 : Int32)), (.int (9 : Int32)), (.int (8 : Int32)), (.int (6 : Int32)), (.int (3 : Int32)), (.int (6 : Int32)), (.int (4 : Int32)), (.int (4 : Int32)), (.int (4 : Int32)), (.int (5 : Int32)), (.int (3 : Int32)), (.int (3 : Int32)), (.int (5 : Int32)), (.int (4 : Int32)), (.int (2 : Int32)), (.int (4 : Int32)), (.int (2 : Int32)), (.int (2 : Int32)), (.int (0 : Int32)), (.int (0 : Int32))] (.int (0 : Int32)) := Arv.set Ar128 q128 S128 P128 H128 G128 rfl W129 19 rfl (Nat.le_of_ble_eq_true rfl)
  have V_bk_130 := V_bk_127.other W129 ne_bk_bi0
  have zh129 : n0 ≤ h129.size := Nat.le_trans zh126 (Nat.le_of_eq W129.size.symm)
  have K0_129 : Keep h0 h129 [] := K0_126.wr W129 (Or.inr sz_bi0)
  obtain ⟨Lh129, N129, X129⟩ : ∃ L, Fr n0 L ∧ Stand p l e _ _ m _ below meth c T129 L _ _ := ⟨_, Fr.snoc X129 N126 lo_bi0, X129⟩
  obtain ⟨cl131, Ar131, q131, S131, P131, H131, G131⟩ := V_bi0_129
  have hin132 : ¬ ((20 : Int32) < 0 ∨ cl131.slots.size ≤ ((20 : Int32)).toNatClampNeg) := inb_of S131 ⟨by decide, by decide⟩
  obtain ⟨T132, h132, X132, e132, W132, st132⟩ := stI X129 hx hZ e129 Ar131 (j := (20 : Int32)) hin132 (g := (mkF m 263 #[.val (.int p0), .val (.int p1), .val (.int p2), .val (.ref bk), .unset, .unset, .unset, .unset] [(.int (2 : Int32)), (.int (20 : Int32)), (.ref bi0), (.ref bi0)])) rfl rfl (hb hby at_263)
  have V_bi0_132 : Arv Z h132 bi0 k69 .int (22 : Int32) [(.int (9 : Int32)), (.int (12 : Int32)), (.int (6 : Int32)), (.int (9 : Int32)), (.int (8 : Int32)), (.int (6 : Int32)), (.int (3 : Int32)), (.int (6 : Int32)), (.int (4 : Int32)), (.int (4 : Int32)), (.int (4 : Int32)), (.int (5 : Int32)), (.int (3 : Int32)), (.int (3 : Int32)), (.int (5 : Int32)), (.int (4 : Int32)), (.int (2 : Int32)), (.int (4 : Int32)), (.int (2 : Int32)), (.int (2 : Int32)), (.int (2 : Int32)), (.int (0 : Int32))] (.int (0 : Int32)) := Arv.set Ar131 q131 S131 P131 H131 G131 rfl W132 20 rfl (Nat.le_of_ble_eq_true rfl)
  have V_bk_133 := V_bk_130.other W132 ne_bk_bi0
  have zh132 : n0 ≤ h132.size := Nat.le_trans zh129 (Nat.le_of_eq W132.size.symm)
  have K0_132 : Keep h0 h132 [] := K0_129.wr W132 (Or.inr sz_bi0)
  obtain ⟨Lh132, N132, X132⟩ : ∃ L, Fr n0 L ∧ Stand p l e _ _ m _ below meth c T132 L _ _ := ⟨_, Fr.snoc X132 N129 lo_bi0, X132⟩
  obtain ⟨cl134, Ar134, q134, S134, P134, H134, G134⟩ := V_bi0_132
  have hin135 : ¬ ((21 : Int32) < 0 ∨ cl134.slots.size ≤ ((21 : Int32)).toNatClampNeg) := inb_of S134 ⟨by decide, by decide⟩
  obtain ⟨T135, h135, X135, e135, W135, st135⟩ := stI X132 hx hZ e132 Ar134 (j := (21 : Int32)) hin135 (g := (mkF m 268 #[.val (.int p0), .val (.int p1), .val (.int p2), .val (.ref bk), .unset, .unset, .unset, .unset] [(.int (1 : Int32)), (.int (21 : Int32)), (.ref bi0), (.ref bi0)])) rfl rfl (hb hby at_268)
  have V_bi0_135 : Arv Z h135 bi0 k69 .int (22 : Int32) [(.int (9 : Int32)), (.int (12 : Int32)), (.int (6 : Int32)), (.int (9 : Int32)), (.int (8 : Int32)), (.int (6 : Int32)), (.int (3 : Int32)), (.int (6 : Int32)), (.int (4 : Int32)), (.int (4 : Int32)), (.int (4 : Int32)), (.int (5 : Int32)), (.int (3 : Int32)), (.int (3 : Int32)), (.int (5 : Int32)), (.int (4 : Int32)), (.int (2 : Int32)), (.int (4 : Int32)), (.int (2 : Int32)), (.int (2 : Int32)), (.int (2 : Int32)), (.int (1 : Int32))] (.int (0 : Int32)) := Arv.set Ar134 q134 S134 P134 H134 G134 rfl W135 21 rfl (Nat.le_of_ble_eq_true rfl)
  have V_bk_136 := V_bk_133.other W135 ne_bk_bi0
  have zh135 : n0 ≤ h135.size := Nat.le_trans zh132 (Nat.le_of_eq W135.size.symm)
  have K0_135 : Keep h0 h135 [] := K0_132.wr W135 (Or.inr sz_bi0)
  obtain ⟨Lh135, N135, X135⟩ : ∃ L, Fr n0 L ∧ Stand p l e _ _ m _ below meth c T135 L _ _ := ⟨_, Fr.snoc X135 N132 lo_bi0, X135⟩
  refine own_Go.mono (T' := T135) (f' := (mkF m 278 #[.val (.int p0), .val (.int p1), .val (.int p2), .val (.ref bk), .val (.ref bi0), .unset, .unset, .unset] [(.int ((p0 &&& (2147483647 : Int32)) % (22 : Int32)))])) (fun t k => ?_) ?_
  · show Steps p.tables e below (s₁.setTop (mkF m 0 #[.val (.int p0), .val (.int p1), .val (.int p2), .unset, .unset, .unset, .unset, .unset] [])) _
    refine XS.bipush X0.here hx rfl (hb hby at_0) ?_
    show Steps p.tables e below (s₁.setTop (mkF m 2 #[.val (.int p0), .val (.int p1), .val (.int p2), .unset, .unset, .unset, .unset, .unset] [(.int (22 : Int32))])) _
    refine st2 _ ?_
    show Steps p.tables e below (T2.setTop (mkF m 5 #[.val (.int p0), .val (.int p1), .val (.int p2), .unset, .unset, .unset, .unset, .unset] [(.ref bk)])) _
    refine XS.dup X2.here hx rfl (hb hby at_5) rfl rfl ?_
    show Steps p.tables e below (T2.setTop (mkF m 6 #[.val (.int p0), .val (.int p1), .val (.int p2), .unset, .unset, .unset, .unset, .unset] [(.ref bk), (.ref bk)])) _
    refine XS.iconst X2.here hx rfl (hb hby at_6) ?_
    show Steps p.tables e below (T2.setTop (mkF m 7 #[.val (.int p0), .val (.int p1), .val (.int p2), .unset, .unset, .unset, .unset, .unset] [(.int (0 : Int32)), (.ref bk), (.ref bk)])) _
    refine st3 _ ?_
    show Steps p.tables e below (T3.setTop (mkF m 10 #[.val (.int p0), .val (.int p1), .val (.int p2), .unset, .unset, .unset, .unset, .unset] [(.ref w0), (.int (0 : Int32)), (.ref bk), (.ref bk)])) _
    refine st5 _ ?_
    show Steps p.tables e below (T5.setTop (mkF m 11 #[.val (.int p0), .val (.int p1), .val (.int p2), .unset, .unset, .unset, .unset, .unset] [(.ref bk)])) _
    refine XS.dup X5.here hx rfl (hb hby at_11) rfl rfl ?_
    show Steps p.tables e below (T5.setTop (mkF m 12 #[.val (.int p0), .val (.int p1), .val (.int p2), .unset, .unset, .unset, .unset, .unset] [(.ref bk), (.ref bk)])) _
    refine XS.iconst X5.here hx rfl (hb hby at_12) ?_
    show Steps p.tables e below (T5.setTop (mkF m 13 #[.val (.int p0), .val (.int p1), .val (.int p2), .unset, .unset, .unset, .unset, .unset] [(.int (1 : Int32)), (.ref bk), (.ref bk)])) _
    refine st6 _ ?_
    show Steps p.tables e below (T6.setTop (mkF m 16 #[.val (.int p0), .val (.int p1), .val (.int p2), .unset, .unset, .unset, .unset, .unset] [(.ref w1), (.int (1 : Int32)), (.ref bk), (.ref bk)])) _
    refine st8 _ ?_
    show Steps p.tables e below (T8.setTop (mkF m 17 #[.val (.int p0), .val (.int p1), .val (.int p2), .unset, .unset, .unset, .unset, .unset] [(.ref bk)])) _
    refine XS.dup X8.here hx rfl (hb hby at_17) rfl rfl ?_
    show Steps p.tables e below (T8.setTop (mkF m 18 #[.val (.int p0), .val (.int p1), .val (.int p2), .unset, .unset, .unset, .unset, .unset] [(.ref bk), (.ref bk)])) _
    refine XS.iconst X8.here hx rfl (hb hby at_18) ?_
    show Steps p.tables e below (T8.setTop (mkF m 19 #[.val (.int p0), .val (.int p1), .val (.int p2), .unset, .unset, .unset, .unset, .unset] [(.int (2 : Int32)), (.ref bk), (.ref bk)])) _
    refine st9 _ ?_
    show Steps p.tables e below (T9.setTop (mkF m 22 #[.val (.int p0), .val (.int p1), .val (.int p2), .unset, .unset, .unset, .unset, .unset] [(.ref w2), (.int (2 : Int32)), (.ref bk), (.ref bk)])) _
    refine st11 _ ?_
    show Steps p.tables e below (T11.setTop (mkF m 23 #[.val (.int p0), .val (.int p1), .val (.int p2), .unset, .unset, .unset, .unset, .unset] [(.ref bk)])) _
    refine XS.dup X11.here hx rfl (hb hby at_23) rfl rfl ?_
    show Steps p.tables e below (T11.setTop (mkF m 24 #[.val (.int p0), .val (.int p1), .val (.int p2), .unset, .unset, .unset, .unset, .unset] [(.ref bk), (.ref bk)])) _
    refine XS.iconst X11.here hx rfl (hb hby at_24) ?_
    show Steps p.tables e below (T11.setTop (mkF m 25 #[.val (.int p0), .val (.int p1), .val (.int p2), .unset, .unset, .unset, .unset, .unset] [(.int (3 : Int32)), (.ref bk), (.ref bk)])) _
    refine st12 _ ?_
    show Steps p.tables e below (T12.setTop (mkF m 28 #[.val (.int p0), .val (.int p1), .val (.int p2), .unset, .unset, .unset, .unset, .unset] [(.ref w3), (.int (3 : Int32)), (.ref bk), (.ref bk)])) _
    refine st14 _ ?_
    show Steps p.tables e below (T14.setTop (mkF m 29 #[.val (.int p0), .val (.int p1), .val (.int p2), .unset, .unset, .unset, .unset, .unset] [(.ref bk)])) _
    refine XS.dup X14.here hx rfl (hb hby at_29) rfl rfl ?_
    show Steps p.tables e below (T14.setTop (mkF m 30 #[.val (.int p0), .val (.int p1), .val (.int p2), .unset, .unset, .unset, .unset, .unset] [(.ref bk), (.ref bk)])) _
    refine XS.iconst X14.here hx rfl (hb hby at_30) ?_
    show Steps p.tables e below (T14.setTop (mkF m 31 #[.val (.int p0), .val (.int p1), .val (.int p2), .unset, .unset, .unset, .unset, .unset] [(.int (4 : Int32)), (.ref bk), (.ref bk)])) _
    refine st15 _ ?_
    show Steps p.tables e below (T15.setTop (mkF m 34 #[.val (.int p0), .val (.int p1), .val (.int p2), .unset, .unset, .unset, .unset, .unset] [(.ref w4), (.int (4 : Int32)), (.ref bk), (.ref bk)])) _
    refine st17 _ ?_
    show Steps p.tables e below (T17.setTop (mkF m 35 #[.val (.int p0), .val (.int p1), .val (.int p2), .unset, .unset, .unset, .unset, .unset] [(.ref bk)])) _
    refine XS.dup X17.here hx rfl (hb hby at_35) rfl rfl ?_
    show Steps p.tables e below (T17.setTop (mkF m 36 #[.val (.int p0), .val (.int p1), .val (.int p2), .unset, .unset, .unset, .unset, .unset] [(.ref bk), (.ref bk)])) _
    refine XS.iconst X17.here hx rfl (hb hby at_36) ?_
    show Steps p.tables e below (T17.setTop (mkF m 37 #[.val (.int p0), .val (.int p1), .val (.int p2), .unset, .unset, .unset, .unset, .unset] [(.int (5 : Int32)), (.ref bk), (.ref bk)])) _
    refine st18 _ ?_
    show Steps p.tables e below (T18.setTop (mkF m 40 #[.val (.int p0), .val (.int p1), .val (.int p2), .unset, .unset, .unset, .unset, .unset] [(.ref w5), (.int (5 : Int32)), (.ref bk), (.ref bk)])) _
    refine st20 _ ?_
    show Steps p.tables e below (T20.setTop (mkF m 41 #[.val (.int p0), .val (.int p1), .val (.int p2), .unset, .unset, .unset, .unset, .unset] [(.ref bk)])) _
    refine XS.dup X20.here hx rfl (hb hby at_41) rfl rfl ?_
    show Steps p.tables e below (T20.setTop (mkF m 42 #[.val (.int p0), .val (.int p1), .val (.int p2), .unset, .unset, .unset, .unset, .unset] [(.ref bk), (.ref bk)])) _
    refine XS.bipush X20.here hx rfl (hb hby at_42) ?_
    show Steps p.tables e below (T20.setTop (mkF m 44 #[.val (.int p0), .val (.int p1), .val (.int p2), .unset, .unset, .unset, .unset, .unset] [(.int (6 : Int32)), (.ref bk), (.ref bk)])) _
    refine st21 _ ?_
    show Steps p.tables e below (T21.setTop (mkF m 47 #[.val (.int p0), .val (.int p1), .val (.int p2), .unset, .unset, .unset, .unset, .unset] [(.ref w6), (.int (6 : Int32)), (.ref bk), (.ref bk)])) _
    refine st23 _ ?_
    show Steps p.tables e below (T23.setTop (mkF m 48 #[.val (.int p0), .val (.int p1), .val (.int p2), .unset, .unset, .unset, .unset, .unset] [(.ref bk)])) _
    refine XS.dup X23.here hx rfl (hb hby at_48) rfl rfl ?_
    show Steps p.tables e below (T23.setTop (mkF m 49 #[.val (.int p0), .val (.int p1), .val (.int p2), .unset, .unset, .unset, .unset, .unset] [(.ref bk), (.ref bk)])) _
    refine XS.bipush X23.here hx rfl (hb hby at_49) ?_
    show Steps p.tables e below (T23.setTop (mkF m 51 #[.val (.int p0), .val (.int p1), .val (.int p2), .unset, .unset, .unset, .unset, .unset] [(.int (7 : Int32)), (.ref bk), (.ref bk)])) _
    refine st24 _ ?_
    show Steps p.tables e below (T24.setTop (mkF m 54 #[.val (.int p0), .val (.int p1), .val (.int p2), .unset, .unset, .unset, .unset, .unset] [(.ref w7), (.int (7 : Int32)), (.ref bk), (.ref bk)])) _
    refine st26 _ ?_
    show Steps p.tables e below (T26.setTop (mkF m 55 #[.val (.int p0), .val (.int p1), .val (.int p2), .unset, .unset, .unset, .unset, .unset] [(.ref bk)])) _
    refine XS.dup X26.here hx rfl (hb hby at_55) rfl rfl ?_
    show Steps p.tables e below (T26.setTop (mkF m 56 #[.val (.int p0), .val (.int p1), .val (.int p2), .unset, .unset, .unset, .unset, .unset] [(.ref bk), (.ref bk)])) _
    refine XS.bipush X26.here hx rfl (hb hby at_56) ?_
    show Steps p.tables e below (T26.setTop (mkF m 58 #[.val (.int p0), .val (.int p1), .val (.int p2), .unset, .unset, .unset, .unset, .unset] [(.int (8 : Int32)), (.ref bk), (.ref bk)])) _
    refine st27 _ ?_
    show Steps p.tables e below (T27.setTop (mkF m 61 #[.val (.int p0), .val (.int p1), .val (.int p2), .unset, .unset, .unset, .unset, .unset] [(.ref w8), (.int (8 : Int32)), (.ref bk), (.ref bk)])) _
    refine st29 _ ?_
    show Steps p.tables e below (T29.setTop (mkF m 62 #[.val (.int p0), .val (.int p1), .val (.int p2), .unset, .unset, .unset, .unset, .unset] [(.ref bk)])) _
    refine XS.dup X29.here hx rfl (hb hby at_62) rfl rfl ?_
    show Steps p.tables e below (T29.setTop (mkF m 63 #[.val (.int p0), .val (.int p1), .val (.int p2), .unset, .unset, .unset, .unset, .unset] [(.ref bk), (.ref bk)])) _
    refine XS.bipush X29.here hx rfl (hb hby at_63) ?_
    show Steps p.tables e below (T29.setTop (mkF m 65 #[.val (.int p0), .val (.int p1), .val (.int p2), .unset, .unset, .unset, .unset, .unset] [(.int (9 : Int32)), (.ref bk), (.ref bk)])) _
    refine st30 _ ?_
    show Steps p.tables e below (T30.setTop (mkF m 68 #[.val (.int p0), .val (.int p1), .val (.int p2), .unset, .unset, .unset, .unset, .unset] [(.ref w9), (.int (9 : Int32)), (.ref bk), (.ref bk)])) _
    refine st32 _ ?_
    show Steps p.tables e below (T32.setTop (mkF m 69 #[.val (.int p0), .val (.int p1), .val (.int p2), .unset, .unset, .unset, .unset, .unset] [(.ref bk)])) _
    refine XS.dup X32.here hx rfl (hb hby at_69) rfl rfl ?_
    show Steps p.tables e below (T32.setTop (mkF m 70 #[.val (.int p0), .val (.int p1), .val (.int p2), .unset, .unset, .unset, .unset, .unset] [(.ref bk), (.ref bk)])) _
    refine XS.bipush X32.here hx rfl (hb hby at_70) ?_
    show Steps p.tables e below (T32.setTop (mkF m 72 #[.val (.int p0), .val (.int p1), .val (.int p2), .unset, .unset, .unset, .unset, .unset] [(.int (10 : Int32)), (.ref bk), (.ref bk)])) _
    refine st33 _ ?_
    show Steps p.tables e below (T33.setTop (mkF m 75 #[.val (.int p0), .val (.int p1), .val (.int p2), .unset, .unset, .unset, .unset, .unset] [(.ref w10), (.int (10 : Int32)), (.ref bk), (.ref bk)])) _
    refine st35 _ ?_
    show Steps p.tables e below (T35.setTop (mkF m 76 #[.val (.int p0), .val (.int p1), .val (.int p2), .unset, .unset, .unset, .unset, .unset] [(.ref bk)])) _
    refine XS.dup X35.here hx rfl (hb hby at_76) rfl rfl ?_
    show Steps p.tables e below (T35.setTop (mkF m 77 #[.val (.int p0), .val (.int p1), .val (.int p2), .unset, .unset, .unset, .unset, .unset] [(.ref bk), (.ref bk)])) _
    refine XS.bipush X35.here hx rfl (hb hby at_77) ?_
    show Steps p.tables e below (T35.setTop (mkF m 79 #[.val (.int p0), .val (.int p1), .val (.int p2), .unset, .unset, .unset, .unset, .unset] [(.int (11 : Int32)), (.ref bk), (.ref bk)])) _
    refine st36 _ ?_
    show Steps p.tables e below (T36.setTop (mkF m 82 #[.val (.int p0), .val (.int p1), .val (.int p2), .unset, .unset, .unset, .unset, .unset] [(.ref w11), (.int (11 : Int32)), (.ref bk), (.ref bk)])) _
    refine st38 _ ?_
    show Steps p.tables e below (T38.setTop (mkF m 83 #[.val (.int p0), .val (.int p1), .val (.int p2), .unset, .unset, .unset, .unset, .unset] [(.ref bk)])) _
    refine XS.dup X38.here hx rfl (hb hby at_83) rfl rfl ?_
    show Steps p.tables e below (T38.setTop (mkF m 84 #[.val (.int p0), .val (.int p1), .val (.int p2), .unset, .unset, .unset, .unset, .unset] [(.ref bk), (.ref bk)])) _
    refine XS.bipush X38.here hx rfl (hb hby at_84) ?_
    show Steps p.tables e below (T38.setTop (mkF m 86 #[.val (.int p0), .val (.int p1), .val (.int p2), .unset, .unset, .unset, .unset, .unset] [(.int (12 : Int32)), (.ref bk), (.ref bk)])) _
    refine st39 _ ?_
    show Steps p.tables e below (T39.setTop (mkF m 89 #[.val (.int p0), .val (.int p1), .val (.int p2), .unset, .unset, .unset, .unset, .unset] [(.ref w12), (.int (12 : Int32)), (.ref bk), (.ref bk)])) _
    refine st41 _ ?_
    show Steps p.tables e below (T41.setTop (mkF m 90 #[.val (.int p0), .val (.int p1), .val (.int p2), .unset, .unset, .unset, .unset, .unset] [(.ref bk)])) _
    refine XS.dup X41.here hx rfl (hb hby at_90) rfl rfl ?_
    show Steps p.tables e below (T41.setTop (mkF m 91 #[.val (.int p0), .val (.int p1), .val (.int p2), .unset, .unset, .unset, .unset, .unset] [(.ref bk), (.ref bk)])) _
    refine XS.bipush X41.here hx rfl (hb hby at_91) ?_
    show Steps p.tables e below (T41.setTop (mkF m 93 #[.val (.int p0), .val (.int p1), .val (.int p2), .unset, .unset, .unset, .unset, .unset] [(.int (13 : Int32)), (.ref bk), (.ref bk)])) _
    refine st42 _ ?_
    show Steps p.tables e below (T42.setTop (mkF m 96 #[.val (.int p0), .val (.int p1), .val (.int p2), .unset, .unset, .unset, .unset, .unset] [(.ref w13), (.int (13 : Int32)), (.ref bk), (.ref bk)])) _
    refine st44 _ ?_
    show Steps p.tables e below (T44.setTop (mkF m 97 #[.val (.int p0), .val (.int p1), .val (.int p2), .unset, .unset, .unset, .unset, .unset] [(.ref bk)])) _
    refine XS.dup X44.here hx rfl (hb hby at_97) rfl rfl ?_
    show Steps p.tables e below (T44.setTop (mkF m 98 #[.val (.int p0), .val (.int p1), .val (.int p2), .unset, .unset, .unset, .unset, .unset] [(.ref bk), (.ref bk)])) _
    refine XS.bipush X44.here hx rfl (hb hby at_98) ?_
    show Steps p.tables e below (T44.setTop (mkF m 100 #[.val (.int p0), .val (.int p1), .val (.int p2), .unset, .unset, .unset, .unset, .unset] [(.int (14 : Int32)), (.ref bk), (.ref bk)])) _
    refine st45 _ ?_
    show Steps p.tables e below (T45.setTop (mkF m 103 #[.val (.int p0), .val (.int p1), .val (.int p2), .unset, .unset, .unset, .unset, .unset] [(.ref w14), (.int (14 : Int32)), (.ref bk), (.ref bk)])) _
    refine st47 _ ?_
    show Steps p.tables e below (T47.setTop (mkF m 104 #[.val (.int p0), .val (.int p1), .val (.int p2), .unset, .unset, .unset, .unset, .unset] [(.ref bk)])) _
    refine XS.dup X47.here hx rfl (hb hby at_104) rfl rfl ?_
    show Steps p.tables e below (T47.setTop (mkF m 105 #[.val (.int p0), .val (.int p1), .val (.int p2), .unset, .unset, .unset, .unset, .unset] [(.ref bk), (.ref bk)])) _
    refine XS.bipush X47.here hx rfl (hb hby at_105) ?_
    show Steps p.tables e below (T47.setTop (mkF m 107 #[.val (.int p0), .val (.int p1), .val (.int p2), .unset, .unset, .unset, .unset, .unset] [(.int (15 : Int32)), (.ref bk), (.ref bk)])) _
    refine st48 _ ?_
    show Steps p.tables e below (T48.setTop (mkF m 110 #[.val (.int p0), .val (.int p1), .val (.int p2), .unset, .unset, .unset, .unset, .unset] [(.ref w15), (.int (15 : Int32)), (.ref bk), (.ref bk)])) _
    refine st50 _ ?_
    show Steps p.tables e below (T50.setTop (mkF m 111 #[.val (.int p0), .val (.int p1), .val (.int p2), .unset, .unset, .unset, .unset, .unset] [(.ref bk)])) _
    refine XS.dup X50.here hx rfl (hb hby at_111) rfl rfl ?_
    show Steps p.tables e below (T50.setTop (mkF m 112 #[.val (.int p0), .val (.int p1), .val (.int p2), .unset, .unset, .unset, .unset, .unset] [(.ref bk), (.ref bk)])) _
    refine XS.bipush X50.here hx rfl (hb hby at_112) ?_
    show Steps p.tables e below (T50.setTop (mkF m 114 #[.val (.int p0), .val (.int p1), .val (.int p2), .unset, .unset, .unset, .unset, .unset] [(.int (16 : Int32)), (.ref bk), (.ref bk)])) _
    refine st51 _ ?_
    show Steps p.tables e below (T51.setTop (mkF m 117 #[.val (.int p0), .val (.int p1), .val (.int p2), .unset, .unset, .unset, .unset, .unset] [(.ref w16), (.int (16 : Int32)), (.ref bk), (.ref bk)])) _
    refine st53 _ ?_
    show Steps p.tables e below (T53.setTop (mkF m 118 #[.val (.int p0), .val (.int p1), .val (.int p2), .unset, .unset, .unset, .unset, .unset] [(.ref bk)])) _
    refine XS.dup X53.here hx rfl (hb hby at_118) rfl rfl ?_
    show Steps p.tables e below (T53.setTop (mkF m 119 #[.val (.int p0), .val (.int p1), .val (.int p2), .unset, .unset, .unset, .unset, .unset] [(.ref bk), (.ref bk)])) _
    refine XS.bipush X53.here hx rfl (hb hby at_119) ?_
    show Steps p.tables e below (T53.setTop (mkF m 121 #[.val (.int p0), .val (.int p1), .val (.int p2), .unset, .unset, .unset, .unset, .unset] [(.int (17 : Int32)), (.ref bk), (.ref bk)])) _
    refine st54 _ ?_
    show Steps p.tables e below (T54.setTop (mkF m 124 #[.val (.int p0), .val (.int p1), .val (.int p2), .unset, .unset, .unset, .unset, .unset] [(.ref w17), (.int (17 : Int32)), (.ref bk), (.ref bk)])) _
    refine st56 _ ?_
    show Steps p.tables e below (T56.setTop (mkF m 125 #[.val (.int p0), .val (.int p1), .val (.int p2), .unset, .unset, .unset, .unset, .unset] [(.ref bk)])) _
    refine XS.dup X56.here hx rfl (hb hby at_125) rfl rfl ?_
    show Steps p.tables e below (T56.setTop (mkF m 126 #[.val (.int p0), .val (.int p1), .val (.int p2), .unset, .unset, .unset, .unset, .unset] [(.ref bk), (.ref bk)])) _
    refine XS.bipush X56.here hx rfl (hb hby at_126) ?_
    show Steps p.tables e below (T56.setTop (mkF m 128 #[.val (.int p0), .val (.int p1), .val (.int p2), .unset, .unset, .unset, .unset, .unset] [(.int (18 : Int32)), (.ref bk), (.ref bk)])) _
    refine st57 _ ?_
    show Steps p.tables e below (T57.setTop (mkF m 131 #[.val (.int p0), .val (.int p1), .val (.int p2), .unset, .unset, .unset, .unset, .unset] [(.ref w18), (.int (18 : Int32)), (.ref bk), (.ref bk)])) _
    refine st59 _ ?_
    show Steps p.tables e below (T59.setTop (mkF m 132 #[.val (.int p0), .val (.int p1), .val (.int p2), .unset, .unset, .unset, .unset, .unset] [(.ref bk)])) _
    refine XS.dup X59.here hx rfl (hb hby at_132) rfl rfl ?_
    show Steps p.tables e below (T59.setTop (mkF m 133 #[.val (.int p0), .val (.int p1), .val (.int p2), .unset, .unset, .unset, .unset, .unset] [(.ref bk), (.ref bk)])) _
    refine XS.bipush X59.here hx rfl (hb hby at_133) ?_
    show Steps p.tables e below (T59.setTop (mkF m 135 #[.val (.int p0), .val (.int p1), .val (.int p2), .unset, .unset, .unset, .unset, .unset] [(.int (19 : Int32)), (.ref bk), (.ref bk)])) _
    refine st60 _ ?_
    show Steps p.tables e below (T60.setTop (mkF m 138 #[.val (.int p0), .val (.int p1), .val (.int p2), .unset, .unset, .unset, .unset, .unset] [(.ref w19), (.int (19 : Int32)), (.ref bk), (.ref bk)])) _
    refine st62 _ ?_
    show Steps p.tables e below (T62.setTop (mkF m 139 #[.val (.int p0), .val (.int p1), .val (.int p2), .unset, .unset, .unset, .unset, .unset] [(.ref bk)])) _
    refine XS.dup X62.here hx rfl (hb hby at_139) rfl rfl ?_
    show Steps p.tables e below (T62.setTop (mkF m 140 #[.val (.int p0), .val (.int p1), .val (.int p2), .unset, .unset, .unset, .unset, .unset] [(.ref bk), (.ref bk)])) _
    refine XS.bipush X62.here hx rfl (hb hby at_140) ?_
    show Steps p.tables e below (T62.setTop (mkF m 142 #[.val (.int p0), .val (.int p1), .val (.int p2), .unset, .unset, .unset, .unset, .unset] [(.int (20 : Int32)), (.ref bk), (.ref bk)])) _
    refine st63 _ ?_
    show Steps p.tables e below (T63.setTop (mkF m 145 #[.val (.int p0), .val (.int p1), .val (.int p2), .unset, .unset, .unset, .unset, .unset] [(.ref w20), (.int (20 : Int32)), (.ref bk), (.ref bk)])) _
    refine st65 _ ?_
    show Steps p.tables e below (T65.setTop (mkF m 146 #[.val (.int p0), .val (.int p1), .val (.int p2), .unset, .unset, .unset, .unset, .unset] [(.ref bk)])) _
    refine XS.dup X65.here hx rfl (hb hby at_146) rfl rfl ?_
    show Steps p.tables e below (T65.setTop (mkF m 147 #[.val (.int p0), .val (.int p1), .val (.int p2), .unset, .unset, .unset, .unset, .unset] [(.ref bk), (.ref bk)])) _
    refine XS.bipush X65.here hx rfl (hb hby at_147) ?_
    show Steps p.tables e below (T65.setTop (mkF m 149 #[.val (.int p0), .val (.int p1), .val (.int p2), .unset, .unset, .unset, .unset, .unset] [(.int (21 : Int32)), (.ref bk), (.ref bk)])) _
    refine st66 _ ?_
    show Steps p.tables e below (T66.setTop (mkF m 152 #[.val (.int p0), .val (.int p1), .val (.int p2), .unset, .unset, .unset, .unset, .unset] [(.ref w21), (.int (21 : Int32)), (.ref bk), (.ref bk)])) _
    refine st68 _ ?_
    show Steps p.tables e below (T68.setTop (mkF m 153 #[.val (.int p0), .val (.int p1), .val (.int p2), .unset, .unset, .unset, .unset, .unset] [(.ref bk)])) _
    refine XS.astoreN X68.here hx rfl (hb hby at_153) rfl rfl (l' := #[.val (.int p0), .val (.int p1), .val (.int p2), .val (.ref bk), .unset, .unset, .unset, .unset]) rfl ?_
    show Steps p.tables e below (T68.setTop (mkF m 154 #[.val (.int p0), .val (.int p1), .val (.int p2), .val (.ref bk), .unset, .unset, .unset, .unset] [])) _
    refine XS.bipush X68.here hx rfl (hb hby at_154) ?_
    show Steps p.tables e below (T68.setTop (mkF m 156 #[.val (.int p0), .val (.int p1), .val (.int p2), .val (.ref bk), .unset, .unset, .unset, .unset] [(.int (22 : Int32))])) _
    refine st69 _ ?_
    show Steps p.tables e below (T69.setTop (mkF m 158 #[.val (.int p0), .val (.int p1), .val (.int p2), .val (.ref bk), .unset, .unset, .unset, .unset] [(.ref bi0)])) _
    refine XS.dup X69.here hx rfl (hb hby at_158) rfl rfl ?_
    show Steps p.tables e below (T69.setTop (mkF m 159 #[.val (.int p0), .val (.int p1), .val (.int p2), .val (.ref bk), .unset, .unset, .unset, .unset] [(.ref bi0), (.ref bi0)])) _
    refine XS.iconst X69.here hx rfl (hb hby at_159) ?_
    show Steps p.tables e below (T69.setTop (mkF m 160 #[.val (.int p0), .val (.int p1), .val (.int p2), .val (.ref bk), .unset, .unset, .unset, .unset] [(.int (0 : Int32)), (.ref bi0), (.ref bi0)])) _
    refine XS.bipush X69.here hx rfl (hb hby at_160) ?_
    show Steps p.tables e below (T69.setTop (mkF m 162 #[.val (.int p0), .val (.int p1), .val (.int p2), .val (.ref bk), .unset, .unset, .unset, .unset] [(.int (9 : Int32)), (.int (0 : Int32)), (.ref bi0), (.ref bi0)])) _
    refine st72 _ ?_
    show Steps p.tables e below (T72.setTop (mkF m 163 #[.val (.int p0), .val (.int p1), .val (.int p2), .val (.ref bk), .unset, .unset, .unset, .unset] [(.ref bi0)])) _
    refine XS.dup X72.here hx rfl (hb hby at_163) rfl rfl ?_
    show Steps p.tables e below (T72.setTop (mkF m 164 #[.val (.int p0), .val (.int p1), .val (.int p2), .val (.ref bk), .unset, .unset, .unset, .unset] [(.ref bi0), (.ref bi0)])) _
    refine XS.iconst X72.here hx rfl (hb hby at_164) ?_
    show Steps p.tables e below (T72.setTop (mkF m 165 #[.val (.int p0), .val (.int p1), .val (.int p2), .val (.ref bk), .unset, .unset, .unset, .unset] [(.int (1 : Int32)), (.ref bi0), (.ref bi0)])) _
    refine XS.bipush X72.here hx rfl (hb hby at_165) ?_
    show Steps p.tables e below (T72.setTop (mkF m 167 #[.val (.int p0), .val (.int p1), .val (.int p2), .val (.ref bk), .unset, .unset, .unset, .unset] [(.int (12 : Int32)), (.int (1 : Int32)), (.ref bi0), (.ref bi0)])) _
    refine st75 _ ?_
    show Steps p.tables e below (T75.setTop (mkF m 168 #[.val (.int p0), .val (.int p1), .val (.int p2), .val (.ref bk), .unset, .unset, .unset, .unset] [(.ref bi0)])) _
    refine XS.dup X75.here hx rfl (hb hby at_168) rfl rfl ?_
    show Steps p.tables e below (T75.setTop (mkF m 169 #[.val (.int p0), .val (.int p1), .val (.int p2), .val (.ref bk), .unset, .unset, .unset, .unset] [(.ref bi0), (.ref bi0)])) _
    refine XS.iconst X75.here hx rfl (hb hby at_169) ?_
    show Steps p.tables e below (T75.setTop (mkF m 170 #[.val (.int p0), .val (.int p1), .val (.int p2), .val (.ref bk), .unset, .unset, .unset, .unset] [(.int (2 : Int32)), (.ref bi0), (.ref bi0)])) _
    refine XS.bipush X75.here hx rfl (hb hby at_170) ?_
    show Steps p.tables e below (T75.setTop (mkF m 172 #[.val (.int p0), .val (.int p1), .val (.int p2), .val (.ref bk), .unset, .unset, .unset, .unset] [(.int (6 : Int32)), (.int (2 : Int32)), (.ref bi0), (.ref bi0)])) _
    refine st78 _ ?_
    show Steps p.tables e below (T78.setTop (mkF m 173 #[.val (.int p0), .val (.int p1), .val (.int p2), .val (.ref bk), .unset, .unset, .unset, .unset] [(.ref bi0)])) _
    refine XS.dup X78.here hx rfl (hb hby at_173) rfl rfl ?_
    show Steps p.tables e below (T78.setTop (mkF m 174 #[.val (.int p0), .val (.int p1), .val (.int p2), .val (.ref bk), .unset, .unset, .unset, .unset] [(.ref bi0), (.ref bi0)])) _
    refine XS.iconst X78.here hx rfl (hb hby at_174) ?_
    show Steps p.tables e below (T78.setTop (mkF m 175 #[.val (.int p0), .val (.int p1), .val (.int p2), .val (.ref bk), .unset, .unset, .unset, .unset] [(.int (3 : Int32)), (.ref bi0), (.ref bi0)])) _
    refine XS.bipush X78.here hx rfl (hb hby at_175) ?_
    show Steps p.tables e below (T78.setTop (mkF m 177 #[.val (.int p0), .val (.int p1), .val (.int p2), .val (.ref bk), .unset, .unset, .unset, .unset] [(.int (9 : Int32)), (.int (3 : Int32)), (.ref bi0), (.ref bi0)])) _
    refine st81 _ ?_
    show Steps p.tables e below (T81.setTop (mkF m 178 #[.val (.int p0), .val (.int p1), .val (.int p2), .val (.ref bk), .unset, .unset, .unset, .unset] [(.ref bi0)])) _
    refine XS.dup X81.here hx rfl (hb hby at_178) rfl rfl ?_
    show Steps p.tables e below (T81.setTop (mkF m 179 #[.val (.int p0), .val (.int p1), .val (.int p2), .val (.ref bk), .unset, .unset, .unset, .unset] [(.ref bi0), (.ref bi0)])) _
    refine XS.iconst X81.here hx rfl (hb hby at_179) ?_
    show Steps p.tables e below (T81.setTop (mkF m 180 #[.val (.int p0), .val (.int p1), .val (.int p2), .val (.ref bk), .unset, .unset, .unset, .unset] [(.int (4 : Int32)), (.ref bi0), (.ref bi0)])) _
    refine XS.bipush X81.here hx rfl (hb hby at_180) ?_
    show Steps p.tables e below (T81.setTop (mkF m 182 #[.val (.int p0), .val (.int p1), .val (.int p2), .val (.ref bk), .unset, .unset, .unset, .unset] [(.int (8 : Int32)), (.int (4 : Int32)), (.ref bi0), (.ref bi0)])) _
    refine st84 _ ?_
    show Steps p.tables e below (T84.setTop (mkF m 183 #[.val (.int p0), .val (.int p1), .val (.int p2), .val (.ref bk), .unset, .unset, .unset, .unset] [(.ref bi0)])) _
    refine XS.dup X84.here hx rfl (hb hby at_183) rfl rfl ?_
    show Steps p.tables e below (T84.setTop (mkF m 184 #[.val (.int p0), .val (.int p1), .val (.int p2), .val (.ref bk), .unset, .unset, .unset, .unset] [(.ref bi0), (.ref bi0)])) _
    refine XS.iconst X84.here hx rfl (hb hby at_184) ?_
    show Steps p.tables e below (T84.setTop (mkF m 185 #[.val (.int p0), .val (.int p1), .val (.int p2), .val (.ref bk), .unset, .unset, .unset, .unset] [(.int (5 : Int32)), (.ref bi0), (.ref bi0)])) _
    refine XS.bipush X84.here hx rfl (hb hby at_185) ?_
    show Steps p.tables e below (T84.setTop (mkF m 187 #[.val (.int p0), .val (.int p1), .val (.int p2), .val (.ref bk), .unset, .unset, .unset, .unset] [(.int (6 : Int32)), (.int (5 : Int32)), (.ref bi0), (.ref bi0)])) _
    refine st87 _ ?_
    show Steps p.tables e below (T87.setTop (mkF m 188 #[.val (.int p0), .val (.int p1), .val (.int p2), .val (.ref bk), .unset, .unset, .unset, .unset] [(.ref bi0)])) _
    refine XS.dup X87.here hx rfl (hb hby at_188) rfl rfl ?_
    show Steps p.tables e below (T87.setTop (mkF m 189 #[.val (.int p0), .val (.int p1), .val (.int p2), .val (.ref bk), .unset, .unset, .unset, .unset] [(.ref bi0), (.ref bi0)])) _
    refine XS.bipush X87.here hx rfl (hb hby at_189) ?_
    show Steps p.tables e below (T87.setTop (mkF m 191 #[.val (.int p0), .val (.int p1), .val (.int p2), .val (.ref bk), .unset, .unset, .unset, .unset] [(.int (6 : Int32)), (.ref bi0), (.ref bi0)])) _
    refine XS.iconst X87.here hx rfl (hb hby at_191) ?_
    show Steps p.tables e below (T87.setTop (mkF m 192 #[.val (.int p0), .val (.int p1), .val (.int p2), .val (.ref bk), .unset, .unset, .unset, .unset] [(.int (3 : Int32)), (.int (6 : Int32)), (.ref bi0), (.ref bi0)])) _
    refine st90 _ ?_
    show Steps p.tables e below (T90.setTop (mkF m 193 #[.val (.int p0), .val (.int p1), .val (.int p2), .val (.ref bk), .unset, .unset, .unset, .unset] [(.ref bi0)])) _
    refine XS.dup X90.here hx rfl (hb hby at_193) rfl rfl ?_
    show Steps p.tables e below (T90.setTop (mkF m 194 #[.val (.int p0), .val (.int p1), .val (.int p2), .val (.ref bk), .unset, .unset, .unset, .unset] [(.ref bi0), (.ref bi0)])) _
    refine XS.bipush X90.here hx rfl (hb hby at_194) ?_
    show Steps p.tables e below (T90.setTop (mkF m 196 #[.val (.int p0), .val (.int p1), .val (.int p2), .val (.ref bk), .unset, .unset, .unset, .unset] [(.int (7 : Int32)), (.ref bi0), (.ref bi0)])) _
    refine XS.bipush X90.here hx rfl (hb hby at_196) ?_
    show Steps p.tables e below (T90.setTop (mkF m 198 #[.val (.int p0), .val (.int p1), .val (.int p2), .val (.ref bk), .unset, .unset, .unset, .unset] [(.int (6 : Int32)), (.int (7 : Int32)), (.ref bi0), (.ref bi0)])) _
    refine st93 _ ?_
    show Steps p.tables e below (T93.setTop (mkF m 199 #[.val (.int p0), .val (.int p1), .val (.int p2), .val (.ref bk), .unset, .unset, .unset, .unset] [(.ref bi0)])) _
    refine XS.dup X93.here hx rfl (hb hby at_199) rfl rfl ?_
    show Steps p.tables e below (T93.setTop (mkF m 200 #[.val (.int p0), .val (.int p1), .val (.int p2), .val (.ref bk), .unset, .unset, .unset, .unset] [(.ref bi0), (.ref bi0)])) _
    refine XS.bipush X93.here hx rfl (hb hby at_200) ?_
    show Steps p.tables e below (T93.setTop (mkF m 202 #[.val (.int p0), .val (.int p1), .val (.int p2), .val (.ref bk), .unset, .unset, .unset, .unset] [(.int (8 : Int32)), (.ref bi0), (.ref bi0)])) _
    refine XS.iconst X93.here hx rfl (hb hby at_202) ?_
    show Steps p.tables e below (T93.setTop (mkF m 203 #[.val (.int p0), .val (.int p1), .val (.int p2), .val (.ref bk), .unset, .unset, .unset, .unset] [(.int (4 : Int32)), (.int (8 : Int32)), (.ref bi0), (.ref bi0)])) _
    refine st96 _ ?_
    show Steps p.tables e below (T96.setTop (mkF m 204 #[.val (.int p0), .val (.int p1), .val (.int p2), .val (.ref bk), .unset, .unset, .unset, .unset] [(.ref bi0)])) _
    refine XS.dup X96.here hx rfl (hb hby at_204) rfl rfl ?_
    show Steps p.tables e below (T96.setTop (mkF m 205 #[.val (.int p0), .val (.int p1), .val (.int p2), .val (.ref bk), .unset, .unset, .unset, .unset] [(.ref bi0), (.ref bi0)])) _
    refine XS.bipush X96.here hx rfl (hb hby at_205) ?_
    show Steps p.tables e below (T96.setTop (mkF m 207 #[.val (.int p0), .val (.int p1), .val (.int p2), .val (.ref bk), .unset, .unset, .unset, .unset] [(.int (9 : Int32)), (.ref bi0), (.ref bi0)])) _
    refine XS.iconst X96.here hx rfl (hb hby at_207) ?_
    show Steps p.tables e below (T96.setTop (mkF m 208 #[.val (.int p0), .val (.int p1), .val (.int p2), .val (.ref bk), .unset, .unset, .unset, .unset] [(.int (4 : Int32)), (.int (9 : Int32)), (.ref bi0), (.ref bi0)])) _
    refine st99 _ ?_
    show Steps p.tables e below (T99.setTop (mkF m 209 #[.val (.int p0), .val (.int p1), .val (.int p2), .val (.ref bk), .unset, .unset, .unset, .unset] [(.ref bi0)])) _
    refine XS.dup X99.here hx rfl (hb hby at_209) rfl rfl ?_
    show Steps p.tables e below (T99.setTop (mkF m 210 #[.val (.int p0), .val (.int p1), .val (.int p2), .val (.ref bk), .unset, .unset, .unset, .unset] [(.ref bi0), (.ref bi0)])) _
    refine XS.bipush X99.here hx rfl (hb hby at_210) ?_
    show Steps p.tables e below (T99.setTop (mkF m 212 #[.val (.int p0), .val (.int p1), .val (.int p2), .val (.ref bk), .unset, .unset, .unset, .unset] [(.int (10 : Int32)), (.ref bi0), (.ref bi0)])) _
    refine XS.iconst X99.here hx rfl (hb hby at_212) ?_
    show Steps p.tables e below (T99.setTop (mkF m 213 #[.val (.int p0), .val (.int p1), .val (.int p2), .val (.ref bk), .unset, .unset, .unset, .unset] [(.int (4 : Int32)), (.int (10 : Int32)), (.ref bi0), (.ref bi0)])) _
    refine st102 _ ?_
    show Steps p.tables e below (T102.setTop (mkF m 214 #[.val (.int p0), .val (.int p1), .val (.int p2), .val (.ref bk), .unset, .unset, .unset, .unset] [(.ref bi0)])) _
    refine XS.dup X102.here hx rfl (hb hby at_214) rfl rfl ?_
    show Steps p.tables e below (T102.setTop (mkF m 215 #[.val (.int p0), .val (.int p1), .val (.int p2), .val (.ref bk), .unset, .unset, .unset, .unset] [(.ref bi0), (.ref bi0)])) _
    refine XS.bipush X102.here hx rfl (hb hby at_215) ?_
    show Steps p.tables e below (T102.setTop (mkF m 217 #[.val (.int p0), .val (.int p1), .val (.int p2), .val (.ref bk), .unset, .unset, .unset, .unset] [(.int (11 : Int32)), (.ref bi0), (.ref bi0)])) _
    refine XS.iconst X102.here hx rfl (hb hby at_217) ?_
    show Steps p.tables e below (T102.setTop (mkF m 218 #[.val (.int p0), .val (.int p1), .val (.int p2), .val (.ref bk), .unset, .unset, .unset, .unset] [(.int (5 : Int32)), (.int (11 : Int32)), (.ref bi0), (.ref bi0)])) _
    refine st105 _ ?_
    show Steps p.tables e below (T105.setTop (mkF m 219 #[.val (.int p0), .val (.int p1), .val (.int p2), .val (.ref bk), .unset, .unset, .unset, .unset] [(.ref bi0)])) _
    refine XS.dup X105.here hx rfl (hb hby at_219) rfl rfl ?_
    show Steps p.tables e below (T105.setTop (mkF m 220 #[.val (.int p0), .val (.int p1), .val (.int p2), .val (.ref bk), .unset, .unset, .unset, .unset] [(.ref bi0), (.ref bi0)])) _
    refine XS.bipush X105.here hx rfl (hb hby at_220) ?_
    show Steps p.tables e below (T105.setTop (mkF m 222 #[.val (.int p0), .val (.int p1), .val (.int p2), .val (.ref bk), .unset, .unset, .unset, .unset] [(.int (12 : Int32)), (.ref bi0), (.ref bi0)])) _
    refine XS.iconst X105.here hx rfl (hb hby at_222) ?_
    show Steps p.tables e below (T105.setTop (mkF m 223 #[.val (.int p0), .val (.int p1), .val (.int p2), .val (.ref bk), .unset, .unset, .unset, .unset] [(.int (3 : Int32)), (.int (12 : Int32)), (.ref bi0), (.ref bi0)])) _
    refine st108 _ ?_
    show Steps p.tables e below (T108.setTop (mkF m 224 #[.val (.int p0), .val (.int p1), .val (.int p2), .val (.ref bk), .unset, .unset, .unset, .unset] [(.ref bi0)])) _
    refine XS.dup X108.here hx rfl (hb hby at_224) rfl rfl ?_
    show Steps p.tables e below (T108.setTop (mkF m 225 #[.val (.int p0), .val (.int p1), .val (.int p2), .val (.ref bk), .unset, .unset, .unset, .unset] [(.ref bi0), (.ref bi0)])) _
    refine XS.bipush X108.here hx rfl (hb hby at_225) ?_
    show Steps p.tables e below (T108.setTop (mkF m 227 #[.val (.int p0), .val (.int p1), .val (.int p2), .val (.ref bk), .unset, .unset, .unset, .unset] [(.int (13 : Int32)), (.ref bi0), (.ref bi0)])) _
    refine XS.iconst X108.here hx rfl (hb hby at_227) ?_
    show Steps p.tables e below (T108.setTop (mkF m 228 #[.val (.int p0), .val (.int p1), .val (.int p2), .val (.ref bk), .unset, .unset, .unset, .unset] [(.int (3 : Int32)), (.int (13 : Int32)), (.ref bi0), (.ref bi0)])) _
    refine st111 _ ?_
    show Steps p.tables e below (T111.setTop (mkF m 229 #[.val (.int p0), .val (.int p1), .val (.int p2), .val (.ref bk), .unset, .unset, .unset, .unset] [(.ref bi0)])) _
    refine XS.dup X111.here hx rfl (hb hby at_229) rfl rfl ?_
    show Steps p.tables e below (T111.setTop (mkF m 230 #[.val (.int p0), .val (.int p1), .val (.int p2), .val (.ref bk), .unset, .unset, .unset, .unset] [(.ref bi0), (.ref bi0)])) _
    refine XS.bipush X111.here hx rfl (hb hby at_230) ?_
    show Steps p.tables e below (T111.setTop (mkF m 232 #[.val (.int p0), .val (.int p1), .val (.int p2), .val (.ref bk), .unset, .unset, .unset, .unset] [(.int (14 : Int32)), (.ref bi0), (.ref bi0)])) _
    refine XS.iconst X111.here hx rfl (hb hby at_232) ?_
    show Steps p.tables e below (T111.setTop (mkF m 233 #[.val (.int p0), .val (.int p1), .val (.int p2), .val (.ref bk), .unset, .unset, .unset, .unset] [(.int (5 : Int32)), (.int (14 : Int32)), (.ref bi0), (.ref bi0)])) _
    refine st114 _ ?_
    show Steps p.tables e below (T114.setTop (mkF m 234 #[.val (.int p0), .val (.int p1), .val (.int p2), .val (.ref bk), .unset, .unset, .unset, .unset] [(.ref bi0)])) _
    refine XS.dup X114.here hx rfl (hb hby at_234) rfl rfl ?_
    show Steps p.tables e below (T114.setTop (mkF m 235 #[.val (.int p0), .val (.int p1), .val (.int p2), .val (.ref bk), .unset, .unset, .unset, .unset] [(.ref bi0), (.ref bi0)])) _
    refine XS.bipush X114.here hx rfl (hb hby at_235) ?_
    show Steps p.tables e below (T114.setTop (mkF m 237 #[.val (.int p0), .val (.int p1), .val (.int p2), .val (.ref bk), .unset, .unset, .unset, .unset] [(.int (15 : Int32)), (.ref bi0), (.ref bi0)])) _
    refine XS.iconst X114.here hx rfl (hb hby at_237) ?_
    show Steps p.tables e below (T114.setTop (mkF m 238 #[.val (.int p0), .val (.int p1), .val (.int p2), .val (.ref bk), .unset, .unset, .unset, .unset] [(.int (4 : Int32)), (.int (15 : Int32)), (.ref bi0), (.ref bi0)])) _
    refine st117 _ ?_
    show Steps p.tables e below (T117.setTop (mkF m 239 #[.val (.int p0), .val (.int p1), .val (.int p2), .val (.ref bk), .unset, .unset, .unset, .unset] [(.ref bi0)])) _
    refine XS.dup X117.here hx rfl (hb hby at_239) rfl rfl ?_
    show Steps p.tables e below (T117.setTop (mkF m 240 #[.val (.int p0), .val (.int p1), .val (.int p2), .val (.ref bk), .unset, .unset, .unset, .unset] [(.ref bi0), (.ref bi0)])) _
    refine XS.bipush X117.here hx rfl (hb hby at_240) ?_
    show Steps p.tables e below (T117.setTop (mkF m 242 #[.val (.int p0), .val (.int p1), .val (.int p2), .val (.ref bk), .unset, .unset, .unset, .unset] [(.int (16 : Int32)), (.ref bi0), (.ref bi0)])) _
    refine XS.iconst X117.here hx rfl (hb hby at_242) ?_
    show Steps p.tables e below (T117.setTop (mkF m 243 #[.val (.int p0), .val (.int p1), .val (.int p2), .val (.ref bk), .unset, .unset, .unset, .unset] [(.int (2 : Int32)), (.int (16 : Int32)), (.ref bi0), (.ref bi0)])) _
    refine st120 _ ?_
    show Steps p.tables e below (T120.setTop (mkF m 244 #[.val (.int p0), .val (.int p1), .val (.int p2), .val (.ref bk), .unset, .unset, .unset, .unset] [(.ref bi0)])) _
    refine XS.dup X120.here hx rfl (hb hby at_244) rfl rfl ?_
    show Steps p.tables e below (T120.setTop (mkF m 245 #[.val (.int p0), .val (.int p1), .val (.int p2), .val (.ref bk), .unset, .unset, .unset, .unset] [(.ref bi0), (.ref bi0)])) _
    refine XS.bipush X120.here hx rfl (hb hby at_245) ?_
    show Steps p.tables e below (T120.setTop (mkF m 247 #[.val (.int p0), .val (.int p1), .val (.int p2), .val (.ref bk), .unset, .unset, .unset, .unset] [(.int (17 : Int32)), (.ref bi0), (.ref bi0)])) _
    refine XS.iconst X120.here hx rfl (hb hby at_247) ?_
    show Steps p.tables e below (T120.setTop (mkF m 248 #[.val (.int p0), .val (.int p1), .val (.int p2), .val (.ref bk), .unset, .unset, .unset, .unset] [(.int (4 : Int32)), (.int (17 : Int32)), (.ref bi0), (.ref bi0)])) _
    refine st123 _ ?_
    show Steps p.tables e below (T123.setTop (mkF m 249 #[.val (.int p0), .val (.int p1), .val (.int p2), .val (.ref bk), .unset, .unset, .unset, .unset] [(.ref bi0)])) _
    refine XS.dup X123.here hx rfl (hb hby at_249) rfl rfl ?_
    show Steps p.tables e below (T123.setTop (mkF m 250 #[.val (.int p0), .val (.int p1), .val (.int p2), .val (.ref bk), .unset, .unset, .unset, .unset] [(.ref bi0), (.ref bi0)])) _
    refine XS.bipush X123.here hx rfl (hb hby at_250) ?_
    show Steps p.tables e below (T123.setTop (mkF m 252 #[.val (.int p0), .val (.int p1), .val (.int p2), .val (.ref bk), .unset, .unset, .unset, .unset] [(.int (18 : Int32)), (.ref bi0), (.ref bi0)])) _
    refine XS.iconst X123.here hx rfl (hb hby at_252) ?_
    show Steps p.tables e below (T123.setTop (mkF m 253 #[.val (.int p0), .val (.int p1), .val (.int p2), .val (.ref bk), .unset, .unset, .unset, .unset] [(.int (2 : Int32)), (.int (18 : Int32)), (.ref bi0), (.ref bi0)])) _
    refine st126 _ ?_
    show Steps p.tables e below (T126.setTop (mkF m 254 #[.val (.int p0), .val (.int p1), .val (.int p2), .val (.ref bk), .unset, .unset, .unset, .unset] [(.ref bi0)])) _
    refine XS.dup X126.here hx rfl (hb hby at_254) rfl rfl ?_
    show Steps p.tables e below (T126.setTop (mkF m 255 #[.val (.int p0), .val (.int p1), .val (.int p2), .val (.ref bk), .unset, .unset, .unset, .unset] [(.ref bi0), (.ref bi0)])) _
    refine XS.bipush X126.here hx rfl (hb hby at_255) ?_
    show Steps p.tables e below (T126.setTop (mkF m 257 #[.val (.int p0), .val (.int p1), .val (.int p2), .val (.ref bk), .unset, .unset, .unset, .unset] [(.int (19 : Int32)), (.ref bi0), (.ref bi0)])) _
    refine XS.iconst X126.here hx rfl (hb hby at_257) ?_
    show Steps p.tables e below (T126.setTop (mkF m 258 #[.val (.int p0), .val (.int p1), .val (.int p2), .val (.ref bk), .unset, .unset, .unset, .unset] [(.int (2 : Int32)), (.int (19 : Int32)), (.ref bi0), (.ref bi0)])) _
    refine st129 _ ?_
    show Steps p.tables e below (T129.setTop (mkF m 259 #[.val (.int p0), .val (.int p1), .val (.int p2), .val (.ref bk), .unset, .unset, .unset, .unset] [(.ref bi0)])) _
    refine XS.dup X129.here hx rfl (hb hby at_259) rfl rfl ?_
    show Steps p.tables e below (T129.setTop (mkF m 260 #[.val (.int p0), .val (.int p1), .val (.int p2), .val (.ref bk), .unset, .unset, .unset, .unset] [(.ref bi0), (.ref bi0)])) _
    refine XS.bipush X129.here hx rfl (hb hby at_260) ?_
    show Steps p.tables e below (T129.setTop (mkF m 262 #[.val (.int p0), .val (.int p1), .val (.int p2), .val (.ref bk), .unset, .unset, .unset, .unset] [(.int (20 : Int32)), (.ref bi0), (.ref bi0)])) _
    refine XS.iconst X129.here hx rfl (hb hby at_262) ?_
    show Steps p.tables e below (T129.setTop (mkF m 263 #[.val (.int p0), .val (.int p1), .val (.int p2), .val (.ref bk), .unset, .unset, .unset, .unset] [(.int (2 : Int32)), (.int (20 : Int32)), (.ref bi0), (.ref bi0)])) _
    refine st132 _ ?_
    show Steps p.tables e below (T132.setTop (mkF m 264 #[.val (.int p0), .val (.int p1), .val (.int p2), .val (.ref bk), .unset, .unset, .unset, .unset] [(.ref bi0)])) _
    refine XS.dup X132.here hx rfl (hb hby at_264) rfl rfl ?_
    show Steps p.tables e below (T132.setTop (mkF m 265 #[.val (.int p0), .val (.int p1), .val (.int p2), .val (.ref bk), .unset, .unset, .unset, .unset] [(.ref bi0), (.ref bi0)])) _
    refine XS.bipush X132.here hx rfl (hb hby at_265) ?_
    show Steps p.tables e below (T132.setTop (mkF m 267 #[.val (.int p0), .val (.int p1), .val (.int p2), .val (.ref bk), .unset, .unset, .unset, .unset] [(.int (21 : Int32)), (.ref bi0), (.ref bi0)])) _
    refine XS.iconst X132.here hx rfl (hb hby at_267) ?_
    show Steps p.tables e below (T132.setTop (mkF m 268 #[.val (.int p0), .val (.int p1), .val (.int p2), .val (.ref bk), .unset, .unset, .unset, .unset] [(.int (1 : Int32)), (.int (21 : Int32)), (.ref bi0), (.ref bi0)])) _
    refine st135 _ ?_
    show Steps p.tables e below (T135.setTop (mkF m 269 #[.val (.int p0), .val (.int p1), .val (.int p2), .val (.ref bk), .unset, .unset, .unset, .unset] [(.ref bi0)])) _
    refine XS.astore X135.here hx rfl (hb hby at_269) rfl rfl (l' := #[.val (.int p0), .val (.int p1), .val (.int p2), .val (.ref bk), .val (.ref bi0), .unset, .unset, .unset]) rfl ?_
    show Steps p.tables e below (T135.setTop (mkF m 271 #[.val (.int p0), .val (.int p1), .val (.int p2), .val (.ref bk), .val (.ref bi0), .unset, .unset, .unset] [])) _
    refine XS.iloadN X135.here hx rfl (hb hby at_271) rfl ?_
    show Steps p.tables e below (T135.setTop (mkF m 272 #[.val (.int p0), .val (.int p1), .val (.int p2), .val (.ref bk), .val (.ref bi0), .unset, .unset, .unset] [(.int p0)])) _
    refine X135.ldcInt hx hown (mvT hZ (hw _ (List.mem_of_getElem? (i := 49) rfl))) (g := (mkF m 272 #[.val (.int p0), .val (.int p1), .val (.int p2), .val (.ref bk), .val (.ref bi0), .unset, .unset, .unset] [(.int p0)])) rfl (hb hby at_272) _ ?_
    show Steps p.tables e below (T135.setTop (mkF m 274 #[.val (.int p0), .val (.int p1), .val (.int p2), .val (.ref bk), .val (.ref bi0), .unset, .unset, .unset] [(.int (2147483647 : Int32)), (.int p0)])) _
    refine XS.iand X135.here hx rfl (hb hby at_274) rfl ?_
    show Steps p.tables e below (T135.setTop (mkF m 275 #[.val (.int p0), .val (.int p1), .val (.int p2), .val (.ref bk), .val (.ref bi0), .unset, .unset, .unset] [(.int (p0 &&& (2147483647 : Int32)))])) _
    refine XS.bipush X135.here hx rfl (hb hby at_275) ?_
    show Steps p.tables e below (T135.setTop (mkF m 277 #[.val (.int p0), .val (.int p1), .val (.int p2), .val (.ref bk), .val (.ref bi0), .unset, .unset, .unset] [(.int (22 : Int32)), (.int (p0 &&& (2147483647 : Int32)))])) _
    refine iremM X135 hx rfl (hb hby at_277) rfl (by decide) ?_
    show Steps p.tables e below (T135.setTop (mkF m 278 #[.val (.int p0), .val (.int p1), .val (.int p2), .val (.ref bk), .val (.ref bi0), .unset, .unset, .unset] [(.int ((p0 &&& (2147483647 : Int32)) % (22 : Int32)))])) _
    exact k
  obtain ⟨j, hj, hj0, hj1⟩ : ∃ j, ((p0 &&& (2147483647 : Int32)) % (22 : Int32)) = j ∧ ¬ j < 0 ∧ j < (22 : Int32) := ⟨_, rfl, own_idx22 p0⟩
  rw [show ((p0 &&& (2147483647 : Int32)) % (22 : Int32)) = j from hj]
  have Vk_bk : Arv Z h135 bk k2 (.object "com/example/humble_log/humblelog/protocol/ApiKey") (22 : Int32) [(.ref w0), (.ref w1), (.ref w2), (.ref w3), (.ref w4), (.ref w5), (.ref w6), (.ref w7), (.ref w8), (.ref w9), (.ref w10), (.ref w11), (.ref w12), (.ref w13), (.ref w14), (.ref w15), (.ref w16), (.ref w17), (.ref w18), (.ref w19), (.ref w20), (.ref w21)] .null := V_bk_136
  have Vk_bi0 : Arv Z h135 bi0 k69 .int (22 : Int32) [(.int (9 : Int32)), (.int (12 : Int32)), (.int (6 : Int32)), (.int (9 : Int32)), (.int (8 : Int32)), (.int (6 : Int32)), (.int (3 : Int32)), (.int (6 : Int32)), (.int (4 : Int32)), (.int (4 : Int32)), (.int (4 : Int32)), (.int (5 : Int32)), (.int (3 : Int32)), (.int (3 : Int32)), (.int (5 : Int32)), (.int (4 : Int32)), (.int (2 : Int32)), (.int (4 : Int32)), (.int (2 : Int32)), (.int (2 : Int32)), (.int (2 : Int32)), (.int (1 : Int32))] (.int (0 : Int32)) := V_bi0_135
  obtain ⟨wk, c0, hk, hc0, Ek, Fc0⟩ : ∃ (wk : Addr) (c0 : Int32), ([(.ref w0), (.ref w1), (.ref w2), (.ref w3), (.ref w4), (.ref w5), (.ref w6), (.ref w7), (.ref w8), (.ref w9), (.ref w10), (.ref w11), (.ref w12), (.ref w13), (.ref w14), (.ref w15), (.ref w16), (.ref w17), (.ref w18), (.ref w19), (.ref w20), (.ref w21)] : List Value).getD j.toNatClampNeg .null = .ref wk ∧ ([(.int (9 : Int32)), (.int (12 : Int32)), (.int (6 : Int32)), (.int (9 : Int32)), (.int (8 : Int32)), (.int (6 : Int32)), (.int (3 : Int32)), (.int (6 : Int32)), (.int (4 : Int32)), (.int (4 : Int32)), (.int (4 : Int32)), (.int (5 : Int32)), (.int (3 : Int32)), (.int (3 : Int32)), (.int (5 : Int32)), (.int (4 : Int32)), (.int (2 : Int32)), (.int (4 : Int32)), (.int (2 : Int32)), (.int (2 : Int32)), (.int (2 : Int32)), (.int (1 : Int32))] : List Value).getD j.toNatClampNeg (.int (0 : Int32)) = .int c0 ∧ Exa Z h0 wk "com/example/humble_log/humblelog/protocol/ApiKey" ∧ Fld Z h0 wk "com/example/humble_log/humblelog/protocol/ApiKey" "firstFlexibleVersion" "S" (.int c0) := by
    rcases own_cases22 hj0 hj1 with e | e | e | e | e | e | e | e | e | e | e | e | e | e | e | e | e | e | e | e | e | e
    · rw [e]; exact ⟨w0, (9 : Int32), rfl, rfl, E0_, F0_0⟩
    · rw [e]; exact ⟨w1, (12 : Int32), rfl, rfl, E1_, F1_0⟩
    · rw [e]; exact ⟨w2, (6 : Int32), rfl, rfl, E2_, F2_0⟩
    · rw [e]; exact ⟨w3, (9 : Int32), rfl, rfl, E3_, F3_0⟩
    · rw [e]; exact ⟨w4, (8 : Int32), rfl, rfl, E4_, F4_0⟩
    · rw [e]; exact ⟨w5, (6 : Int32), rfl, rfl, E5_, F5_0⟩
    · rw [e]; exact ⟨w6, (3 : Int32), rfl, rfl, E6_, F6_0⟩
    · rw [e]; exact ⟨w7, (6 : Int32), rfl, rfl, E7_, F7_0⟩
    · rw [e]; exact ⟨w8, (4 : Int32), rfl, rfl, E8_, F8_0⟩
    · rw [e]; exact ⟨w9, (4 : Int32), rfl, rfl, E9_, F9_0⟩
    · rw [e]; exact ⟨w10, (4 : Int32), rfl, rfl, E10_, F10_0⟩
    · rw [e]; exact ⟨w11, (5 : Int32), rfl, rfl, E11_, F11_0⟩
    · rw [e]; exact ⟨w12, (3 : Int32), rfl, rfl, E12_, F12_0⟩
    · rw [e]; exact ⟨w13, (3 : Int32), rfl, rfl, E13_, F13_0⟩
    · rw [e]; exact ⟨w14, (5 : Int32), rfl, rfl, E14_, F14_0⟩
    · rw [e]; exact ⟨w15, (4 : Int32), rfl, rfl, E15_, F15_0⟩
    · rw [e]; exact ⟨w16, (2 : Int32), rfl, rfl, E16_, F16_0⟩
    · rw [e]; exact ⟨w17, (4 : Int32), rfl, rfl, E17_, F17_0⟩
    · rw [e]; exact ⟨w18, (2 : Int32), rfl, rfl, E18_, F18_0⟩
    · rw [e]; exact ⟨w19, (2 : Int32), rfl, rfl, E19_, F19_0⟩
    · rw [e]; exact ⟨w20, (2 : Int32), rfl, rfl, E20_, F20_0⟩
    · rw [e]; exact ⟨w21, (1 : Int32), rfl, rfl, E21_, F21_0⟩
  have main : ∀ (ver : Int32), own_Go p e below T135 (mkF m 305 #[.val (.int p0), .val (.int p1), .val (.int p2), .val (.ref bk), .val (.ref bi0), .val (.int j), .val (.int ver), .unset] []) (own_K s below (Q0 Z p0 p1 p2 w0 w1 w2 w3 w4 w5 w6 w7 w8 w9 w10 w11 w12 w13 w14 w15 w16 w17 w18 w19 w20 w21 h0 n0) 16 192) := by
    intro ver
    obtain ⟨cl137, Ar137, q137, S137, P137, H137, G137⟩ := Vk_bi0
    have hin138 : ¬ (j < 0 ∨ cl137.slots.size ≤ (j).toNatClampNeg) := inb_of S137 ⟨hj0, hj1⟩
    have hat138 : cl137.slots[(j).toNatClampNeg]? = some (.int c0) := H137.at hin138 hc0
    have V_bi0_138 : Arv Z h135 bi0 k69 .int (22 : Int32) [(.int (9 : Int32)), (.int (12 : Int32)), (.int (6 : Int32)), (.int (9 : Int32)), (.int (8 : Int32)), (.int (6 : Int32)), (.int (3 : Int32)), (.int (6 : Int32)), (.int (4 : Int32)), (.int (4 : Int32)), (.int (4 : Int32)), (.int (5 : Int32)), (.int (3 : Int32)), (.int (3 : Int32)), (.int (5 : Int32)), (.int (4 : Int32)), (.int (2 : Int32)), (.int (4 : Int32)), (.int (2 : Int32)), (.int (2 : Int32)), (.int (2 : Int32)), (.int (1 : Int32))] (.int (0 : Int32)) := ⟨cl137, Ar137, q137, S137, P137, H137, G137⟩
    refine own_Go.mono (T' := T135) (f' := (mkF m 312 #[.val (.int p0), .val (.int p1), .val (.int p2), .val (.ref bk), .val (.ref bi0), .val (.int j), .val (.int ver), .unset] [(.int c0), (.int ver)])) (fun t k => ?_) ?_
    · show Steps p.tables e below (T135.setTop (mkF m 305 #[.val (.int p0), .val (.int p1), .val (.int p2), .val (.ref bk), .val (.ref bi0), .val (.int j), .val (.int ver), .unset] [])) _
      refine XS.iload X135.here hx rfl (hb hby at_305) rfl ?_
      show Steps p.tables e below (T135.setTop (mkF m 307 #[.val (.int p0), .val (.int p1), .val (.int p2), .val (.ref bk), .val (.ref bi0), .val (.int j), .val (.int ver), .unset] [(.int ver)])) _
      refine XS.aload X135.here hx rfl (hb hby at_307) rfl rfl ?_
      show Steps p.tables e below (T135.setTop (mkF m 309 #[.val (.int p0), .val (.int p1), .val (.int p2), .val (.ref bk), .val (.ref bi0), .val (.int j), .val (.int ver), .unset] [(.ref bi0), (.int ver)])) _
      refine XS.iload X135.here hx rfl (hb hby at_309) rfl ?_
      show Steps p.tables e below (T135.setTop (mkF m 311 #[.val (.int p0), .val (.int p1), .val (.int p2), .val (.ref bk), .val (.ref bi0), .val (.int j), .val (.int ver), .unset] [(.int j), (.ref bi0), (.int ver)])) _
      refine X135.iaload hx (j := j) (v := (.int c0)) (by rw [e135]; exact Ar137.1) (State.isArrayOf_alike hZ.alike Ar137.2.1) Ar137.2.2 hin138 hat138 (g := (mkF m 311 #[.val (.int p0), .val (.int p1), .val (.int p2), .val (.ref bk), .val (.ref bi0), .val (.int j), .val (.int ver), .unset] [(.int j), (.ref bi0), (.int ver)])) rfl rfl (hb hby at_311) _ ?_
      show Steps p.tables e below (T135.setTop (mkF m 312 #[.val (.int p0), .val (.int p1), .val (.int p2), .val (.ref bk), .val (.ref bi0), .val (.int j), .val (.int ver), .unset] [(.int c0), (.int ver)])) _
      exact k
    by_cases c312_139 : ver < c0
    · obtain ⟨cl140, Ar140, q140, S140, P140, H140, G140⟩ := Vk_bk
      have hin141 : ¬ (j < 0 ∨ cl140.slots.size ≤ (j).toNatClampNeg) := inb_of S140 ⟨hj0, hj1⟩
      have hat141 : cl140.slots[(j).toNatClampNeg]? = some (.ref wk) := H140.at hin141 hk
      have V_bk_141 : Arv Z h135 bk k2 (.object "com/example/humble_log/humblelog/protocol/ApiKey") (22 : Int32) [(.ref w0), (.ref w1), (.ref w2), (.ref w3), (.ref w4), (.ref w5), (.ref w6), (.ref w7), (.ref w8), (.ref w9), (.ref w10), (.ref w11), (.ref w12), (.ref w13), (.ref w14), (.ref w15), (.ref w16), (.ref w17), (.ref w18), (.ref w19), (.ref w20), (.ref w21)] .null := ⟨cl140, Ar140, q140, S140, P140, H140, G140⟩
      obtain ⟨cq142, kq142, q142a, q142b, q142c⟩ := isOf hZ e135 (Ek.ext (own_ext K0_135))
      obtain ⟨_, _, ⟨T142, L142, k142, n142⟩, -, X142, ⟨Lc142, hQ142, l142, y142, z142⟩, st142⟩ := X135.virtualBack hx (y := (⟨"com/example/humble_log/humblelog/protocol/ApiKey", "isFlexible", "(S)Z"⟩ : MethodName)) (z := (⟨"com/example/humble_log/humblelog/protocol/ApiKey", "isFlexible", "(S)Z"⟩ : MethodName)) hown (mvT hZ (hw _ (List.mem_of_getElem? (i := 50) rfl))) (mvT hZ (hw _ (List.mem_of_getElem? (i := 51) rfl))) (notFace_of_selects (args := #[]) (mvT hZ (hw _ (List.mem_of_getElem? (i := 53) rfl)))) (mvT hZ (hw _ (List.mem_of_getElem? (i := 53) rfl))) (mvT hZ (hw _ (List.mem_of_getElem? (i := 52) rfl))) (by decide) (backOf (W := 0) (rm1 l Z a0 hw [] wk ver c0 (0 : Int32) h135 n0 zh135 (Fc0.ext (own_ext K0_135)) (Or.inl ⟨c312_139, rfl⟩)) hZ (hw _ (List.mem_of_getElem? (i := 54) rfl)) (hw _ (List.mem_of_getElem? (i := 3) rfl)) (by decide) (by decide)) q142a q142c (g := (mkF m 328 #[.val (.int p0), .val (.int p1), .val (.int p2), .val (.ref bk), .val (.ref bi0), .val (.int j), .val (.int ver), .val (.int (0 : Int32))] [(.int ver), (.ref wk)])) rfl (by rw [hml]; rfl) (Steps.refl _) (argsL := [(.int ver)]) (rest := []) (lenOf pd_0 rfl) rfl (by show 2 * 0 + _ ≤ _; exact Nat.le_of_eq rfl) (hb hby at_328) (fun _ _ => ⟨rfl, e135, (by decide : 2 + 0 ≤ _), (by decide : 44 + 0 ≤ _)⟩)
      dsimp only [Pt.U, Pt.locs, Pt.cells, Pt.slots] at X142 l142 y142 z142 st142 hQ142
      subst l142 y142 z142
      obtain ⟨rfl, N142q, hh142⟩ := hQ142
      have N142 := Fr.app N135 N142q
      refine own_Go.mono (T' := T142) (f' := (mkF m 341 #[.val (.int p0), .val (.int p1), .val (.int p2), .val (.ref bk), .val (.ref bi0), .val (.int j), .val (.int ver), .val (.int (0 : Int32))] [(.int (1 : Int32))])) (fun t k => ?_) ?_
      · show Steps p.tables e below (T135.setTop (mkF m 312 #[.val (.int p0), .val (.int p1), .val (.int p2), .val (.ref bk), .val (.ref bi0), .val (.int j), .val (.int ver), .unset] [(.int c0), (.int ver)])) _
        refine XS.icmpYes X135.here hx rfl (pc0 := 312) (pc' := 319) rfl (hb hby at_312) rfl (tlt c312_139).1 (by decide) (by decide) ?_
        show Steps p.tables e below (T135.setTop (mkF m 319 #[.val (.int p0), .val (.int p1), .val (.int p2), .val (.ref bk), .val (.ref bi0), .val (.int j), .val (.int ver), .unset] [])) _
        refine XS.iconst X135.here hx rfl (hb hby at_319) ?_
        show Steps p.tables e below (T135.setTop (mkF m 320 #[.val (.int p0), .val (.int p1), .val (.int p2), .val (.ref bk), .val (.ref bi0), .val (.int j), .val (.int ver), .unset] [(.int (0 : Int32))])) _
        refine XS.istore X135.here hx rfl (hb hby at_320) rfl (l' := #[.val (.int p0), .val (.int p1), .val (.int p2), .val (.ref bk), .val (.ref bi0), .val (.int j), .val (.int ver), .val (.int (0 : Int32))]) rfl ?_
        show Steps p.tables e below (T135.setTop (mkF m 322 #[.val (.int p0), .val (.int p1), .val (.int p2), .val (.ref bk), .val (.ref bi0), .val (.int j), .val (.int ver), .val (.int (0 : Int32))] [])) _
        refine XS.aloadN X135.here hx rfl (hb hby at_322) rfl rfl ?_
        show Steps p.tables e below (T135.setTop (mkF m 323 #[.val (.int p0), .val (.int p1), .val (.int p2), .val (.ref bk), .val (.ref bi0), .val (.int j), .val (.int ver), .val (.int (0 : Int32))] [(.ref bk)])) _
        refine XS.iload X135.here hx rfl (hb hby at_323) rfl ?_
        show Steps p.tables e below (T135.setTop (mkF m 325 #[.val (.int p0), .val (.int p1), .val (.int p2), .val (.ref bk), .val (.ref bi0), .val (.int j), .val (.int ver), .val (.int (0 : Int32))] [(.int j), (.ref bk)])) _
        refine X135.aaload hx (j := j) (v := (.ref wk)) (by rw [e135]; exact Ar140.1) (State.isArrayOf_alike hZ.alike Ar140.2.1) rfl Ar140.2.2 hin141 hat141 (g := (mkF m 325 #[.val (.int p0), .val (.int p1), .val (.int p2), .val (.ref bk), .val (.ref bi0), .val (.int j), .val (.int ver), .val (.int (0 : Int32))] [(.int j), (.ref bk)])) rfl rfl (hb hby at_325) _ ?_
        show Steps p.tables e below (T135.setTop (mkF m 326 #[.val (.int p0), .val (.int p1), .val (.int p2), .val (.ref bk), .val (.ref bi0), .val (.int j), .val (.int ver), .val (.int (0 : Int32))] [(.ref wk)])) _
        refine XS.iload X135.here hx rfl (hb hby at_326) rfl ?_
        show Steps p.tables e below (T135.setTop (mkF m 328 #[.val (.int p0), .val (.int p1), .val (.int p2), .val (.ref bk), .val (.ref bi0), .val (.int j), .val (.int ver), .val (.int (0 : Int32))] [(.int ver), (.ref wk)])) _
        refine st142.trans ?_
        show Steps p.tables e below (T142.setTop (mkF m 331 #[.val (.int p0), .val (.int p1), .val (.int p2), .val (.ref bk), .val (.ref bi0), .val (.int j), .val (.int ver), .val (.int (0 : Int32))] [(.int (0 : Int32))])) _
        refine XS.iload X142.here hx rfl (hb hby at_331) rfl ?_
        show Steps p.tables e below (T142.setTop (mkF m 333 #[.val (.int p0), .val (.int p1), .val (.int p2), .val (.ref bk), .val (.ref bi0), .val (.int j), .val (.int ver), .val (.int (0 : Int32))] [(.int (0 : Int32)), (.int (0 : Int32))])) _
        refine XS.icmpNo X142.here hx rfl (hb hby at_333) rfl (teq rfl).2 ?_
        show Steps p.tables e below (T142.setTop (mkF m 336 #[.val (.int p0), .val (.int p1), .val (.int p2), .val (.ref bk), .val (.ref bi0), .val (.int j), .val (.int ver), .val (.int (0 : Int32))] [])) _
        refine XS.iconst X142.here hx rfl (hb hby at_336) ?_
        show Steps p.tables e below (T142.setTop (mkF m 337 #[.val (.int p0), .val (.int p1), .val (.int p2), .val (.ref bk), .val (.ref bi0), .val (.int j), .val (.int ver), .val (.int (0 : Int32))] [(.int (1 : Int32))])) _
        refine XS.goto X142.here hx rfl (pc0 := 337) (pc' := 341) rfl (hb hby at_337) (by decide) (by decide) ?_
        show Steps p.tables e below (T142.setTop (mkF m 341 #[.val (.int p0), .val (.int p1), .val (.int p2), .val (.ref bk), .val (.ref bi0), .val (.int j), .val (.int ver), .val (.int (0 : Int32))] [(.int (1 : Int32))])) _
        exact k
      exact own_retN X142 hx (t := .boolean) hret (by simp) hlk (hb hby at_341) (⟨rfl, N142⟩) (by decide) (by decide)
    · obtain ⟨cl143, Ar143, q143, S143, P143, H143, G143⟩ := Vk_bk
      have hin144 : ¬ (j < 0 ∨ cl143.slots.size ≤ (j).toNatClampNeg) := inb_of S143 ⟨hj0, hj1⟩
      have hat144 : cl143.slots[(j).toNatClampNeg]? = some (.ref wk) := H143.at hin144 hk
      have V_bk_144 : Arv Z h135 bk k2 (.object "com/example/humble_log/humblelog/protocol/ApiKey") (22 : Int32) [(.ref w0), (.ref w1), (.ref w2), (.ref w3), (.ref w4), (.ref w5), (.ref w6), (.ref w7), (.ref w8), (.ref w9), (.ref w10), (.ref w11), (.ref w12), (.ref w13), (.ref w14), (.ref w15), (.ref w16), (.ref w17), (.ref w18), (.ref w19), (.ref w20), (.ref w21)] .null := ⟨cl143, Ar143, q143, S143, P143, H143, G143⟩
      obtain ⟨cq145, kq145, q145a, q145b, q145c⟩ := isOf hZ e135 (Ek.ext (own_ext K0_135))
      obtain ⟨_, _, ⟨T145, L145, k145, n145⟩, -, X145, ⟨Lc145, hQ145, l145, y145, z145⟩, st145⟩ := X135.virtualBack hx (y := (⟨"com/example/humble_log/humblelog/protocol/ApiKey", "isFlexible", "(S)Z"⟩ : MethodName)) (z := (⟨"com/example/humble_log/humblelog/protocol/ApiKey", "isFlexible", "(S)Z"⟩ : MethodName)) hown (mvT hZ (hw _ (List.mem_of_getElem? (i := 50) rfl))) (mvT hZ (hw _ (List.mem_of_getElem? (i := 51) rfl))) (notFace_of_selects (args := #[]) (mvT hZ (hw _ (List.mem_of_getElem? (i := 53) rfl)))) (mvT hZ (hw _ (List.mem_of_getElem? (i := 53) rfl))) (mvT hZ (hw _ (List.mem_of_getElem? (i := 52) rfl))) (by decide) (backOf (W := 0) (rm1 l Z a0 hw [] wk ver c0 (1 : Int32) h135 n0 zh135 (Fc0.ext (own_ext K0_135)) (Or.inr ⟨c312_139, rfl⟩)) hZ (hw _ (List.mem_of_getElem? (i := 54) rfl)) (hw _ (List.mem_of_getElem? (i := 3) rfl)) (by decide) (by decide)) q145a q145c (g := (mkF m 328 #[.val (.int p0), .val (.int p1), .val (.int p2), .val (.ref bk), .val (.ref bi0), .val (.int j), .val (.int ver), .val (.int (1 : Int32))] [(.int ver), (.ref wk)])) rfl (by rw [hml]; rfl) (Steps.refl _) (argsL := [(.int ver)]) (rest := []) (lenOf pd_0 rfl) rfl (by show 2 * 0 + _ ≤ _; exact Nat.le_of_eq rfl) (hb hby at_328) (fun _ _ => ⟨rfl, e135, (by decide : 2 + 0 ≤ _), (by decide : 44 + 0 ≤ _)⟩)
      dsimp only [Pt.U, Pt.locs, Pt.cells, Pt.slots] at X145 l145 y145 z145 st145 hQ145
      subst l145 y145 z145
      obtain ⟨rfl, N145q, hh145⟩ := hQ145
      have N145 := Fr.app N135 N145q
      refine own_Go.mono (T' := T145) (f' := (mkF m 341 #[.val (.int p0), .val (.int p1), .val (.int p2), .val (.ref bk), .val (.ref bi0), .val (.int j), .val (.int ver), .val (.int (1 : Int32))] [(.int (1 : Int32))])) (fun t k => ?_) ?_
      · show Steps p.tables e below (T135.setTop (mkF m 312 #[.val (.int p0), .val (.int p1), .val (.int p2), .val (.ref bk), .val (.ref bi0), .val (.int j), .val (.int ver), .unset] [(.int c0), (.int ver)])) _
        refine XS.icmpNo X135.here hx rfl (hb hby at_312) rfl (flt c312_139).1 ?_
        show Steps p.tables e below (T135.setTop (mkF m 315 #[.val (.int p0), .val (.int p1), .val (.int p2), .val (.ref bk), .val (.ref bi0), .val (.int j), .val (.int ver), .unset] [])) _
        refine XS.iconst X135.here hx rfl (hb hby at_315) ?_
        show Steps p.tables e below (T135.setTop (mkF m 316 #[.val (.int p0), .val (.int p1), .val (.int p2), .val (.ref bk), .val (.ref bi0), .val (.int j), .val (.int ver), .unset] [(.int (1 : Int32))])) _
        refine XS.goto X135.here hx rfl (pc0 := 316) (pc' := 320) rfl (hb hby at_316) (by decide) (by decide) ?_
        show Steps p.tables e below (T135.setTop (mkF m 320 #[.val (.int p0), .val (.int p1), .val (.int p2), .val (.ref bk), .val (.ref bi0), .val (.int j), .val (.int ver), .unset] [(.int (1 : Int32))])) _
        refine XS.istore X135.here hx rfl (hb hby at_320) rfl (l' := #[.val (.int p0), .val (.int p1), .val (.int p2), .val (.ref bk), .val (.ref bi0), .val (.int j), .val (.int ver), .val (.int (1 : Int32))]) rfl ?_
        show Steps p.tables e below (T135.setTop (mkF m 322 #[.val (.int p0), .val (.int p1), .val (.int p2), .val (.ref bk), .val (.ref bi0), .val (.int j), .val (.int ver), .val (.int (1 : Int32))] [])) _
        refine XS.aloadN X135.here hx rfl (hb hby at_322) rfl rfl ?_
        show Steps p.tables e below (T135.setTop (mkF m 323 #[.val (.int p0), .val (.int p1), .val (.int p2), .val (.ref bk), .val (.ref bi0), .val (.int j), .val (.int ver), .val (.int (1 : Int32))] [(.ref bk)])) _
        refine XS.iload X135.here hx rfl (hb hby at_323) rfl ?_
        show Steps p.tables e below (T135.setTop (mkF m 325 #[.val (.int p0), .val (.int p1), .val (.int p2), .val (.ref bk), .val (.ref bi0), .val (.int j), .val (.int ver), .val (.int (1 : Int32))] [(.int j), (.ref bk)])) _
        refine X135.aaload hx (j := j) (v := (.ref wk)) (by rw [e135]; exact Ar143.1) (State.isArrayOf_alike hZ.alike Ar143.2.1) rfl Ar143.2.2 hin144 hat144 (g := (mkF m 325 #[.val (.int p0), .val (.int p1), .val (.int p2), .val (.ref bk), .val (.ref bi0), .val (.int j), .val (.int ver), .val (.int (1 : Int32))] [(.int j), (.ref bk)])) rfl rfl (hb hby at_325) _ ?_
        show Steps p.tables e below (T135.setTop (mkF m 326 #[.val (.int p0), .val (.int p1), .val (.int p2), .val (.ref bk), .val (.ref bi0), .val (.int j), .val (.int ver), .val (.int (1 : Int32))] [(.ref wk)])) _
        refine XS.iload X135.here hx rfl (hb hby at_326) rfl ?_
        show Steps p.tables e below (T135.setTop (mkF m 328 #[.val (.int p0), .val (.int p1), .val (.int p2), .val (.ref bk), .val (.ref bi0), .val (.int j), .val (.int ver), .val (.int (1 : Int32))] [(.int ver), (.ref wk)])) _
        refine st145.trans ?_
        show Steps p.tables e below (T145.setTop (mkF m 331 #[.val (.int p0), .val (.int p1), .val (.int p2), .val (.ref bk), .val (.ref bi0), .val (.int j), .val (.int ver), .val (.int (1 : Int32))] [(.int (1 : Int32))])) _
        refine XS.iload X145.here hx rfl (hb hby at_331) rfl ?_
        show Steps p.tables e below (T145.setTop (mkF m 333 #[.val (.int p0), .val (.int p1), .val (.int p2), .val (.ref bk), .val (.ref bi0), .val (.int j), .val (.int ver), .val (.int (1 : Int32))] [(.int (1 : Int32)), (.int (1 : Int32))])) _
        refine XS.icmpNo X145.here hx rfl (hb hby at_333) rfl (teq rfl).2 ?_
        show Steps p.tables e below (T145.setTop (mkF m 336 #[.val (.int p0), .val (.int p1), .val (.int p2), .val (.ref bk), .val (.ref bi0), .val (.int j), .val (.int ver), .val (.int (1 : Int32))] [])) _
        refine XS.iconst X145.here hx rfl (hb hby at_336) ?_
        show Steps p.tables e below (T145.setTop (mkF m 337 #[.val (.int p0), .val (.int p1), .val (.int p2), .val (.ref bk), .val (.ref bi0), .val (.int j), .val (.int ver), .val (.int (1 : Int32))] [(.int (1 : Int32))])) _
        refine XS.goto X145.here hx rfl (pc0 := 337) (pc' := 341) rfl (hb hby at_337) (by decide) (by decide) ?_
        show Steps p.tables e below (T145.setTop (mkF m 341 #[.val (.int p0), .val (.int p1), .val (.int p2), .val (.ref bk), .val (.ref bi0), .val (.int j), .val (.int ver), .val (.int (1 : Int32))] [(.int (1 : Int32))])) _
        exact k
      exact own_retN X145 hx (t := .boolean) hret (by simp) hlk (hb hby at_341) (⟨rfl, N145⟩) (by decide) (by decide)
  refine own_Go.mono (T' := T135) (f' := (mkF m 283 #[.val (.int p0), .val (.int p1), .val (.int p2), .val (.ref bk), .val (.ref bi0), .val (.int j), .unset, .unset] [(.int (p2 &&& (1 : Int32)))])) (fun t k => ?_) ?_
  · show Steps p.tables e below (T135.setTop (mkF m 278 #[.val (.int p0), .val (.int p1), .val (.int p2), .val (.ref bk), .val (.ref bi0), .unset, .unset, .unset] [(.int j)])) _
    refine XS.istore X135.here hx rfl (hb hby at_278) rfl (l' := #[.val (.int p0), .val (.int p1), .val (.int p2), .val (.ref bk), .val (.ref bi0), .val (.int j), .unset, .unset]) rfl ?_
    show Steps p.tables e below (T135.setTop (mkF m 280 #[.val (.int p0), .val (.int p1), .val (.int p2), .val (.ref bk), .val (.ref bi0), .val (.int j), .unset, .unset] [])) _
    refine XS.iloadN X135.here hx rfl (hb hby at_280) rfl ?_
    show Steps p.tables e below (T135.setTop (mkF m 281 #[.val (.int p0), .val (.int p1), .val (.int p2), .val (.ref bk), .val (.ref bi0), .val (.int j), .unset, .unset] [(.int p2)])) _
    refine XS.iconst X135.here hx rfl (hb hby at_281) ?_
    show Steps p.tables e below (T135.setTop (mkF m 282 #[.val (.int p0), .val (.int p1), .val (.int p2), .val (.ref bk), .val (.ref bi0), .val (.int j), .unset, .unset] [(.int (1 : Int32)), (.int p2)])) _
    refine XS.iand X135.here hx rfl (hb hby at_282) rfl ?_
    show Steps p.tables e below (T135.setTop (mkF m 283 #[.val (.int p0), .val (.int p1), .val (.int p2), .val (.ref bk), .val (.ref bi0), .val (.int j), .unset, .unset] [(.int (p2 &&& (1 : Int32)))])) _
    exact k
  by_cases c283_146 : (p2 &&& (1 : Int32)) = (0 : Int32)
  · obtain ⟨cl147, Ar147, q147, S147, P147, H147, G147⟩ := Vk_bi0
    have hin148 : ¬ (j < 0 ∨ cl147.slots.size ≤ (j).toNatClampNeg) := inb_of S147 ⟨hj0, hj1⟩
    have hat148 : cl147.slots[(j).toNatClampNeg]? = some (.int c0) := H147.at hin148 hc0
    have V_bi0_148 : Arv Z h135 bi0 k69 .int (22 : Int32) [(.int (9 : Int32)), (.int (12 : Int32)), (.int (6 : Int32)), (.int (9 : Int32)), (.int (8 : Int32)), (.int (6 : Int32)), (.int (3 : Int32)), (.int (6 : Int32)), (.int (4 : Int32)), (.int (4 : Int32)), (.int (4 : Int32)), (.int (5 : Int32)), (.int (3 : Int32)), (.int (3 : Int32)), (.int (5 : Int32)), (.int (4 : Int32)), (.int (2 : Int32)), (.int (4 : Int32)), (.int (2 : Int32)), (.int (2 : Int32)), (.int (2 : Int32)), (.int (1 : Int32))] (.int (0 : Int32)) := ⟨cl147, Ar147, q147, S147, P147, H147, G147⟩
    refine own_Go.mono (T' := T135) (f' := (mkF m 305 #[.val (.int p0), .val (.int p1), .val (.int p2), .val (.ref bk), .val (.ref bi0), .val (.int j), .val (.int ((c0 + (p1 % (3 : Int32))).toInt16.toInt32)), .unset] [])) (fun t k => ?_) ?_
    · show Steps p.tables e below (T135.setTop (mkF m 283 #[.val (.int p0), .val (.int p1), .val (.int p2), .val (.ref bk), .val (.ref bi0), .val (.int j), .unset, .unset] [(.int (p2 &&& (1 : Int32)))])) _
      refine XS.ifYes X135.here hx rfl (pc0 := 283) (pc' := 293) rfl (hb hby at_283) rfl ((if0 _ _).trans (teq c283_146).1) (by decide) (by decide) ?_
      show Steps p.tables e below (T135.setTop (mkF m 293 #[.val (.int p0), .val (.int p1), .val (.int p2), .val (.ref bk), .val (.ref bi0), .val (.int j), .unset, .unset] [])) _
      refine XS.aload X135.here hx rfl (hb hby at_293) rfl rfl ?_
      show Steps p.tables e below (T135.setTop (mkF m 295 #[.val (.int p0), .val (.int p1), .val (.int p2), .val (.ref bk), .val (.ref bi0), .val (.int j), .unset, .unset] [(.ref bi0)])) _
      refine XS.iload X135.here hx rfl (hb hby at_295) rfl ?_
      show Steps p.tables e below (T135.setTop (mkF m 297 #[.val (.int p0), .val (.int p1), .val (.int p2), .val (.ref bk), .val (.ref bi0), .val (.int j), .unset, .unset] [(.int j), (.ref bi0)])) _
      refine X135.iaload hx (j := j) (v := (.int c0)) (by rw [e135]; exact Ar147.1) (State.isArrayOf_alike hZ.alike Ar147.2.1) Ar147.2.2 hin148 hat148 (g := (mkF m 297 #[.val (.int p0), .val (.int p1), .val (.int p2), .val (.ref bk), .val (.ref bi0), .val (.int j), .unset, .unset] [(.int j), (.ref bi0)])) rfl rfl (hb hby at_297) _ ?_
      show Steps p.tables e below (T135.setTop (mkF m 298 #[.val (.int p0), .val (.int p1), .val (.int p2), .val (.ref bk), .val (.ref bi0), .val (.int j), .unset, .unset] [(.int c0)])) _
      refine XS.iloadN X135.here hx rfl (hb hby at_298) rfl ?_
      show Steps p.tables e below (T135.setTop (mkF m 299 #[.val (.int p0), .val (.int p1), .val (.int p2), .val (.ref bk), .val (.ref bi0), .val (.int j), .unset, .unset] [(.int p1), (.int c0)])) _
      refine XS.iconst X135.here hx rfl (hb hby at_299) ?_
      show Steps p.tables e below (T135.setTop (mkF m 300 #[.val (.int p0), .val (.int p1), .val (.int p2), .val (.ref bk), .val (.ref bi0), .val (.int j), .unset, .unset] [(.int (3 : Int32)), (.int p1), (.int c0)])) _
      refine iremM X135 hx rfl (hb hby at_300) rfl (by decide) ?_
      show Steps p.tables e below (T135.setTop (mkF m 301 #[.val (.int p0), .val (.int p1), .val (.int p2), .val (.ref bk), .val (.ref bi0), .val (.int j), .unset, .unset] [(.int (p1 % (3 : Int32))), (.int c0)])) _
      refine XS.iadd X135.here hx rfl (hb hby at_301) rfl ?_
      show Steps p.tables e below (T135.setTop (mkF m 302 #[.val (.int p0), .val (.int p1), .val (.int p2), .val (.ref bk), .val (.ref bi0), .val (.int j), .unset, .unset] [(.int (c0 + (p1 % (3 : Int32))))])) _
      refine XS.i2s X135.here hx rfl (hb hby at_302) rfl ?_
      show Steps p.tables e below (T135.setTop (mkF m 303 #[.val (.int p0), .val (.int p1), .val (.int p2), .val (.ref bk), .val (.ref bi0), .val (.int j), .unset, .unset] [(.int ((c0 + (p1 % (3 : Int32))).toInt16.toInt32))])) _
      refine XS.istore X135.here hx rfl (hb hby at_303) rfl (l' := #[.val (.int p0), .val (.int p1), .val (.int p2), .val (.ref bk), .val (.ref bi0), .val (.int j), .val (.int ((c0 + (p1 % (3 : Int32))).toInt16.toInt32)), .unset]) rfl ?_
      show Steps p.tables e below (T135.setTop (mkF m 305 #[.val (.int p0), .val (.int p1), .val (.int p2), .val (.ref bk), .val (.ref bi0), .val (.int j), .val (.int ((c0 + (p1 % (3 : Int32))).toInt16.toInt32)), .unset] [])) _
      exact k
    exact main _
  · refine own_Go.mono (T' := T135) (f' := (mkF m 305 #[.val (.int p0), .val (.int p1), .val (.int p2), .val (.ref bk), .val (.ref bi0), .val (.int j), .val (.int (p1.toInt16.toInt32)), .unset] [])) (fun t k => ?_) ?_
    · show Steps p.tables e below (T135.setTop (mkF m 283 #[.val (.int p0), .val (.int p1), .val (.int p2), .val (.ref bk), .val (.ref bi0), .val (.int j), .unset, .unset] [(.int (p2 &&& (1 : Int32)))])) _
      refine XS.ifNo X135.here hx rfl (hb hby at_283) rfl ((if0 _ _).trans (feq c283_146).1) ?_
      show Steps p.tables e below (T135.setTop (mkF m 286 #[.val (.int p0), .val (.int p1), .val (.int p2), .val (.ref bk), .val (.ref bi0), .val (.int j), .unset, .unset] [])) _
      refine XS.iloadN X135.here hx rfl (hb hby at_286) rfl ?_
      show Steps p.tables e below (T135.setTop (mkF m 287 #[.val (.int p0), .val (.int p1), .val (.int p2), .val (.ref bk), .val (.ref bi0), .val (.int j), .unset, .unset] [(.int p1)])) _
      refine XS.i2s X135.here hx rfl (hb hby at_287) rfl ?_
      show Steps p.tables e below (T135.setTop (mkF m 288 #[.val (.int p0), .val (.int p1), .val (.int p2), .val (.ref bk), .val (.ref bi0), .val (.int j), .unset, .unset] [(.int (p1.toInt16.toInt32))])) _
      refine XS.istore X135.here hx rfl (hb hby at_288) rfl (l' := #[.val (.int p0), .val (.int p1), .val (.int p2), .val (.ref bk), .val (.ref bi0), .val (.int j), .val (.int (p1.toInt16.toInt32)), .unset]) rfl ?_
      show Steps p.tables e below (T135.setTop (mkF m 290 #[.val (.int p0), .val (.int p1), .val (.int p2), .val (.ref bk), .val (.ref bi0), .val (.int j), .val (.int (p1.toInt16.toInt32)), .unset] [])) _
      refine XS.goto X135.here hx rfl (pc0 := 290) (pc' := 305) rfl (hb hby at_290) (by decide) (by decide) ?_
      show Steps p.tables e below (T135.setTop (mkF m 305 #[.val (.int p0), .val (.int p1), .val (.int p2), .val (.ref bk), .val (.ref bi0), .val (.int j), .val (.int (p1.toInt16.toInt32)), .unset] [])) _
      exact k
    exact main _
set_option maxRecDepth 65536 in
set_option maxHeartbeats 40000000 in
theorem own_comes {Post : Tables → Env → Array Value → State → Outcome → State → Prop} (hpost : ∀ tb e args s v u, (limb_1_1.after args s (.returned v) u = true ∧ limb_1_2.after args s (.returned v) u = true) → FrameEnd s (.returned v) u (Jvm.fieldLocs frame_1_writes args s ++ Jvm.arrayLocs frame_1_arrays args s ++ Jvm.staticLocs frame_1_statics s) 16 192 → Post tb e args s (.returned v) u) :
    ArmFor flags0 classFile x code maxLocals ret World_1 tables_1 room_1 Calls_1 rest_1 Pre_1 Post := by
  intro l hfl _ _ p e ha hc hk s m args below hf hA hF happ hP
  obtain ⟨hcalls, hrest, hpre⟩ := hP
  obtain ⟨-, -, -, hnamed, -, -, -, hat⟩ := (Spec.applies_iff hf).mp happ
  obtain ⟨hg, hn⟩ := and_e (Cond.before_iff.mp (show (Jvm.Cond.and given_1 narrow_1).before args s = true from hpre))
  obtain ⟨g0, k0⟩ := and_e hg
  obtain ⟨g1, k1⟩ := and_e k0
  obtain ⟨g2, k2⟩ := and_e k1
  obtain ⟨w0, w1, w2, rfl⟩ : ∃ w0 w1 w2 : Value, args = #[w0, w1, w2] := by
    have hs : args.size = 3 := by simpa [Cond.value, given_1] using g0
    obtain ⟨L⟩ := args
    match L, hs with
    | [w0, w1, w2], _ => exact ⟨w0, w1, w2, rfl⟩
  have hw := fun d (hd : d ∈ tables_1) => atoms_spec (ws := Jvm.Cond.code x code maxLocals ret :: tables_1) hat d (List.mem_cons_of_mem _ hd)
  obtain ⟨i0, ei0⟩ := is_v g1
  obtain rfl : w0 = (.int i0) := Option.some.inj ei0
  obtain ⟨i1, ei1⟩ := is_v g2
  obtain rfl : w1 = (.int i1) := Option.some.inj ei1
  obtain ⟨i2, ei2⟩ := is_v k2
  obtain rfl : w2 = (.int i2) := Option.some.inj ei2
  obtain ⟨y0, z0⟩ := and_e hn
  obtain ⟨y1, z1⟩ := and_e z0
  obtain ⟨y2, z2⟩ := and_e z1
  obtain ⟨y3, z3⟩ := and_e z2
  obtain ⟨y4, z4⟩ := and_e z3
  obtain ⟨y5, z5⟩ := and_e z4
  obtain ⟨y6, z6⟩ := and_e z5
  obtain ⟨y7, z7⟩ := and_e z6
  obtain ⟨y8, z8⟩ := and_e z7
  obtain ⟨y9, z9⟩ := and_e z8
  obtain ⟨y10, z10⟩ := and_e z9
  obtain ⟨y11, z11⟩ := and_e z10
  obtain ⟨y12, z12⟩ := and_e z11
  obtain ⟨y13, z13⟩ := and_e z12
  obtain ⟨y14, z14⟩ := and_e z13
  obtain ⟨y15, z15⟩ := and_e z14
  obtain ⟨y16, z16⟩ := and_e z15
  obtain ⟨y17, z17⟩ := and_e z16
  obtain ⟨y18, z18⟩ := and_e z17
  obtain ⟨y19, z19⟩ := and_e z18
  obtain ⟨y20, z20⟩ := and_e z19
  obtain ⟨y21, z21⟩ := and_e z20
  obtain ⟨y22, z22⟩ := and_e z21
  obtain ⟨y23, z23⟩ := and_e z22
  obtain ⟨y24, z24⟩ := and_e z23
  obtain ⟨y25, z25⟩ := and_e z24
  obtain ⟨y26, z26⟩ := and_e z25
  obtain ⟨y27, z27⟩ := and_e z26
  obtain ⟨y28, z28⟩ := and_e z27
  obtain ⟨y29, z29⟩ := and_e z28
  obtain ⟨y30, z30⟩ := and_e z29
  obtain ⟨y31, z31⟩ := and_e z30
  obtain ⟨y32, z32⟩ := and_e z31
  obtain ⟨y33, z33⟩ := and_e z32
  obtain ⟨y34, z34⟩ := and_e z33
  obtain ⟨y35, z35⟩ := and_e z34
  obtain ⟨y36, z36⟩ := and_e z35
  obtain ⟨y37, z37⟩ := and_e z36
  obtain ⟨y38, z38⟩ := and_e z37
  obtain ⟨y39, z39⟩ := and_e z38
  obtain ⟨y40, z40⟩ := and_e z39
  obtain ⟨y41, z41⟩ := and_e z40
  obtain ⟨y42, z42⟩ := and_e z41
  obtain ⟨u0, ev0, S0_, E0_⟩ := own_keyI y0 (hw _ (List.mem_of_getElem? (i := 3) rfl)) (hw _ (List.mem_of_getElem? (i := 4) rfl))
  have F0_0 := own_pin ev0 y22
  obtain ⟨u1, ev1, S1_, E1_⟩ := own_keyI y1 (hw _ (List.mem_of_getElem? (i := 3) rfl)) (hw _ (List.mem_of_getElem? (i := 7) rfl))
  have F1_0 := own_pin ev1 y23
  obtain ⟨u2, ev2, S2_, E2_⟩ := own_keyI y2 (hw _ (List.mem_of_getElem? (i := 3) rfl)) (hw _ (List.mem_of_getElem? (i := 9) rfl))
  have F2_0 := own_pin ev2 y32
  obtain ⟨u3, ev3, S3_, E3_⟩ := own_keyI y3 (hw _ (List.mem_of_getElem? (i := 3) rfl)) (hw _ (List.mem_of_getElem? (i := 11) rfl))
  have F3_0 := own_pin ev3 y28
  obtain ⟨u4, ev4, S4_, E4_⟩ := own_keyI y4 (hw _ (List.mem_of_getElem? (i := 3) rfl)) (hw _ (List.mem_of_getElem? (i := 13) rfl))
  have F4_0 := own_pin ev4 z42
  obtain ⟨u5, ev5, S5_, E5_⟩ := own_keyI y5 (hw _ (List.mem_of_getElem? (i := 3) rfl)) (hw _ (List.mem_of_getElem? (i := 15) rfl))
  have F5_0 := own_pin ev5 y27
  obtain ⟨u6, ev6, S6_, E6_⟩ := own_keyI y6 (hw _ (List.mem_of_getElem? (i := 3) rfl)) (hw _ (List.mem_of_getElem? (i := 17) rfl))
  have F6_0 := own_pin ev6 y39
  obtain ⟨u7, ev7, S7_, E7_⟩ := own_keyI y7 (hw _ (List.mem_of_getElem? (i := 3) rfl)) (hw _ (List.mem_of_getElem? (i := 19) rfl))
  have F7_0 := own_pin ev7 y36
  obtain ⟨u8, ev8, S8_, E8_⟩ := own_keyI y8 (hw _ (List.mem_of_getElem? (i := 3) rfl)) (hw _ (List.mem_of_getElem? (i := 21) rfl))
  have F8_0 := own_pin ev8 y26
  obtain ⟨u9, ev9, S9_, E9_⟩ := own_keyI y9 (hw _ (List.mem_of_getElem? (i := 3) rfl)) (hw _ (List.mem_of_getElem? (i := 23) rfl))
  have F9_0 := own_pin ev9 y35
  obtain ⟨u10, ev10, S10_, E10_⟩ := own_keyI y10 (hw _ (List.mem_of_getElem? (i := 3) rfl)) (hw _ (List.mem_of_getElem? (i := 25) rfl))
  have F10_0 := own_pin ev10 y24
  obtain ⟨u11, ev11, S11_, E11_⟩ := own_keyI y11 (hw _ (List.mem_of_getElem? (i := 3) rfl)) (hw _ (List.mem_of_getElem? (i := 27) rfl))
  have F11_0 := own_pin ev11 y33
  obtain ⟨u12, ev12, S12_, E12_⟩ := own_keyI y12 (hw _ (List.mem_of_getElem? (i := 3) rfl)) (hw _ (List.mem_of_getElem? (i := 29) rfl))
  have F12_0 := own_pin ev12 y40
  obtain ⟨u13, ev13, S13_, E13_⟩ := own_keyI y13 (hw _ (List.mem_of_getElem? (i := 3) rfl)) (hw _ (List.mem_of_getElem? (i := 31) rfl))
  have F13_0 := own_pin ev13 y30
  obtain ⟨u14, ev14, S14_, E14_⟩ := own_keyI y14 (hw _ (List.mem_of_getElem? (i := 3) rfl)) (hw _ (List.mem_of_getElem? (i := 33) rfl))
  have F14_0 := own_pin ev14 y37
  obtain ⟨u15, ev15, S15_, E15_⟩ := own_keyI y15 (hw _ (List.mem_of_getElem? (i := 3) rfl)) (hw _ (List.mem_of_getElem? (i := 35) rfl))
  have F15_0 := own_pin ev15 y38
  obtain ⟨u16, ev16, S16_, E16_⟩ := own_keyI y16 (hw _ (List.mem_of_getElem? (i := 3) rfl)) (hw _ (List.mem_of_getElem? (i := 37) rfl))
  have F16_0 := own_pin ev16 y29
  obtain ⟨u17, ev17, S17_, E17_⟩ := own_keyI y17 (hw _ (List.mem_of_getElem? (i := 3) rfl)) (hw _ (List.mem_of_getElem? (i := 39) rfl))
  have F17_0 := own_pin ev17 y31
  obtain ⟨u18, ev18, S18_, E18_⟩ := own_keyI y18 (hw _ (List.mem_of_getElem? (i := 3) rfl)) (hw _ (List.mem_of_getElem? (i := 41) rfl))
  have F18_0 := own_pin ev18 y34
  obtain ⟨u19, ev19, S19_, E19_⟩ := own_keyI y19 (hw _ (List.mem_of_getElem? (i := 3) rfl)) (hw _ (List.mem_of_getElem? (i := 43) rfl))
  have F19_0 := own_pin ev19 y25
  obtain ⟨u20, ev20, S20_, E20_⟩ := own_keyI y20 (hw _ (List.mem_of_getElem? (i := 3) rfl)) (hw _ (List.mem_of_getElem? (i := 45) rfl))
  have F20_0 := own_pin ev20 y42
  obtain ⟨u21, ev21, S21_, E21_⟩ := own_keyI y21 (hw _ (List.mem_of_getElem? (i := 3) rfl)) (hw _ (List.mem_of_getElem? (i := 47) rfl))
  have F21_0 := own_pin ev21 y41
  obtain ⟨n, o, h1, h2, h3, vv, L, rfl, ⟨rfl, N⟩, hq⟩ := rm0 l s _ hw tables_1 i0 i1 i2 u0 u1 u2 u3 u4 u5 u6 u7 u8 u9 u10 u11 u12 u13 u14 u15 u16 u17 u18 u19 u20 u21 s.heap s.heap.size (Nat.le_refl _) S0_ E0_ F0_0 S1_ E1_ F1_0 S2_ E2_ F2_0 S3_ E3_ F3_0 S4_ E4_ F4_0 S5_ E5_ F5_0 S6_ E6_ F6_0 S7_ E7_ F7_0 S8_ E8_ F8_0 S9_ E9_ F9_0 S10_ E10_ F10_0 S11_ E11_ F11_0 S12_ E12_ F12_0 S13_ E13_ F13_0 S14_ E14_ F14_0 S15_ E15_ F15_0 S16_ E16_ F16_0 S17_ E17_ F17_0 S18_ E18_ F18_0 S19_ E19_ F19_0 S20_ E20_ F20_0 S21_ E21_ F21_0 p e ha hc hk s m _ below hf ((Spec.applies_iff_loose hf).mp happ).1 ⟨rfl, State.Warmed39.refl s, rfl⟩ trivial
  refine ⟨n, _, h1, h2, h3, hpost _ _ _ _ _ _ ⟨Cond.after_iff.mpr rfl, Cond.after_iff.mpr (eq_i res_at (Term.int_eval (1)) rfl)⟩ ⟨hq.1, hq.2.1, (hq.2.2.sift fun y hy => Or.inr (N y hy)).mono (by decide) (by decide)⟩⟩
theorem main_1_1 : Claimed_1_1 := own_comes fun _ _ _ _ _ _ h hF => ⟨h.1, hF⟩
theorem main_1_2 : Claimed_1_2 := own_comes fun _ _ _ _ _ _ h hF => ⟨h.2, hF⟩
end Jvm.Pilot.@@N@@
namespace Jvm.Pilot.@@N@@
open Jvm Jvm.ClassFile Sem Op Lib Jvm.Free Jvm.Stand Jvm.Pilot.@@N@@.Jvm.D
/-! MADE BY PROGRAM (witnessworld.py) out of the Statement's table words and the real class files: 13 classes; the members and pool entries that the words name. The judged class is class 1, her method 1. -/
namespace start1
open Jvm.ClassFile
def u (s : String) : CpInfo := .utf8 (stringToUtf16 s)
/-- a pool by its gaps: so many unusable entries, then the entry; so many at the end -/
def gap : Nat → List CpInfo → List CpInfo
  | 0, r => r
  | n + 1, r => .unusable :: gap n r
def poolList (es : List (Nat × CpInfo)) (last : Nat) : List CpInfo := es.foldr (fun e r => gap e.1 (e.2 :: r)) (gap last [])
def pool (es : List (Nat × CpInfo)) (last : Nat) : Array CpInfo := ⟨poolList es last⟩
def fileOf (pool : Array CpInfo) (this : Nat) (attrs : Array Attribute := #[]) (ms : Array MethodInfo := #[]) (fl : Nat := 33) (sup : Nat := 0) (ifs : Array Nat := #[]) (fds : Array FieldInfo := #[]) : ClassFile where
  minorVersion := 0
  majorVersion := 65
  constantPool := pool
  accessFlags := fl
  thisClass := this
  superClass := sup
  interfaces := ifs
  fields := fds
  methods := ms
  attributes := attrs
def plain (name : String) (sup : Option ClassId) : Class where
  name := name
  kind := .ordinary
  loader := none
  accessFlags := 33
  super := sup
  interfaces := #[]
  cf := none
  fields := #[]
  methods := #[]
  instanceTypes := #[]
  staticTypes := #[]
  resolved := #[]
  callSites := []
  init := .initialized
  statics := none
  mirror := none

def pool0 : Array CpInfo := pool [(5, u "<init>"), (0, u "()V"), (1, .class_ 10), (1, u "java/lang/Object")] 113

def k0m0 : Method := { name := "<init>", desc := "()V", sig := { parameters := [], returnType := none }, accessFlags := 1, code := none }
/-- java/lang/Object -/
def k0 : Class := { plain "java/lang/Object" none with
  accessFlags := 33
  interfaces := #[]
  cf := some (fileOf pool0 8 #[] #[{ accessFlags := 1, nameIndex := 5, descriptorIndex := 6, attributes := #[] }] 33 0 #[] #[])
  fields := #[]
  methods := #[k0m0]
  instanceTypes := #[]
  staticTypes := #[]
  resolved := Array.replicate 124 none
  statics := none }

def pool1 : Array CpInfo := pool [(2, .class_ 4), (1, u "java/lang/Object"), (0, u "<init>"), (0, u "()V"), (0, .class_ 8), (0, u "com/example/humble_log/humblelog/protocol/ApiKey"), (0, .fieldref 7 10), (0, .nameAndType 11 12), (0, u "PRODUCE"), (0, u "Lcom/example/humble_log/humblelog/protocol/ApiKey;"), (0, .fieldref 7 14), (0, .nameAndType 15 12), (0, u "FETCH"), (0, .fieldref 7 17), (0, .nameAndType 18 12), (0, u "LIST_OFFSETS"), (0, .fieldref 7 20), (0, .nameAndType 21 12), (0, u "METADATA"), (0, .fieldref 7 23), (0, .nameAndType 24 12), (0, u "OFFSET_COMMIT"), (0, .fieldref 7 26), (0, .nameAndType 27 12), (0, u "OFFSET_FETCH"), (0, .fieldref 7 29), (0, .nameAndType 30 12), (0, u "FIND_COORDINATOR"), (0, .fieldref 7 32), (0, .nameAndType 33 12), (0, u "JOIN_GROUP"), (0, .fieldref 7 35), (0, .nameAndType 36 12), (0, u "HEARTBEAT"), (0, .fieldref 7 38), (0, .nameAndType 39 12), (0, u "LEAVE_GROUP"), (0, .fieldref 7 41), (0, .nameAndType 42 12), (0, u "SYNC_GROUP"), (0, .fieldref 7 44), (0, .nameAndType 45 12), (0, u "DESCRIBE_GROUPS"), (0, .fieldref 7 47), (0, .nameAndType 48 12), (0, u "LIST_GROUPS"), (0, .fieldref 7 50), (0, .nameAndType 51 12), (0, u "API_VERSIONS"), (0, .fieldref 7 53), (0, .nameAndType 54 12), (0, u "CREATE_TOPICS"), (0, .fieldref 7 56), (0, .nameAndType 57 12), (0, u "DELETE_TOPICS"), (0, .fieldref 7 59), (0, .nameAndType 60 12), (0, u "INIT_PRODUCER_ID"), (0, .fieldref 7 62), (0, .nameAndType 63 12), (0, u "DESCRIBE_CONFIGS"), (0, .fieldref 7 65), (0, .nameAndType 66 12), (0, u "ALTER_CONFIGS"), (0, .fieldref 7 68), (0, .nameAndType 69 12), (0, u "CREATE_PARTITIONS"), (0, .fieldref 7 71), (0, .nameAndType 72 12), (0, u "DELETE_GROUPS"), (0, .fieldref 7 74), (0, .nameAndType 75 12), (0, u "INCREMENTAL_ALTER_CONFIGS"), (0, .integer 2147483647), (0, .methodref 7 78), (0, .nameAndType 79 80), (0, u "isFlexible"), (0, u "(S)Z"), (0, .class_ 82), (0, u "com/example/humble_log/humblelog/protocol/ApiKeyIsFlexiblePinLaw"), (2, u "law"), (0, u "(III)Z")] 7

def k1m0 : Method := { name := "<init>", desc := "()V", sig := { parameters := [], returnType := none }, accessFlags := 1, code := none }
def k1c1 : Code := { maxStack := 4, maxLocals := 8, code := code, exceptionTable := #[], attributes := #[] }
def k1m1 : Method := { name := "law", desc := "(III)Z", sig := { parameters := [.int, .int, .int], returnType := some .boolean }, accessFlags := 9, code := some k1c1 }
/-- com/example/humble_log/humblelog/protocol/ApiKeyIsFlexiblePinLaw -/
def k1 : Class := { plain "com/example/humble_log/humblelog/protocol/ApiKeyIsFlexiblePinLaw" (some 0) with
  accessFlags := 49
  interfaces := #[]
  cf := some (fileOf pool1 81 #[] #[{ accessFlags := 1, nameIndex := 5, descriptorIndex := 6, attributes := #[] }, { accessFlags := 9, nameIndex := 85, descriptorIndex := 86, attributes := #[] }] 49 2 #[] #[])
  fields := #[]
  methods := #[k1m0, k1m1]
  instanceTypes := #[]
  staticTypes := #[]
  resolved := Array.replicate 94 none
  statics := none }

def pool2 : Array CpInfo := pool [(1, .class_ 2), (0, u "java/lang/constant/Constable"), (0, .class_ 4), (0, u "java/lang/Object")] 6

/-- java/lang/constant/Constable -/
def k2 : Class := { plain "java/lang/constant/Constable" (some 0) with
  accessFlags := 1537
  interfaces := #[]
  cf := some (fileOf pool2 1 #[] #[] 1537 3 #[] #[])
  fields := #[]
  methods := #[]
  instanceTypes := #[]
  staticTypes := #[]
  resolved := Array.replicate 11 none
  statics := none }

def pool3 : Array CpInfo := pool [(1, .class_ 2), (0, u "java/lang/Comparable"), (0, .class_ 4), (0, u "java/lang/Object")] 7

/-- java/lang/Comparable -/
def k3 : Class := { plain "java/lang/Comparable" (some 0) with
  accessFlags := 1537
  interfaces := #[]
  cf := some (fileOf pool3 1 #[] #[] 1537 3 #[] #[])
  fields := #[]
  methods := #[]
  instanceTypes := #[]
  staticTypes := #[]
  resolved := Array.replicate 12 none
  statics := none }

def pool4 : Array CpInfo := pool [(1, .class_ 2), (0, u "java/io/Serializable"), (0, .class_ 4), (0, u "java/lang/Object")] 2

/-- java/io/Serializable -/
def k4 : Class := { plain "java/io/Serializable" (some 0) with
  accessFlags := 1537
  interfaces := #[]
  cf := some (fileOf pool4 1 #[] #[] 1537 3 #[] #[])
  fields := #[]
  methods := #[]
  instanceTypes := #[]
  staticTypes := #[]
  resolved := Array.replicate 7 none
  statics := none }

def pool5 : Array CpInfo := pool [(2, .class_ 4), (1, u "java/lang/Enum"), (0, u "name"), (0, u "Ljava/lang/String;"), (2, u "ordinal"), (0, u "I"), (1, .class_ 14), (1, u "java/lang/Object"), (4, u "hash"), (86, .class_ 108), (1, u "java/lang/Enum$EnumDesc"), (2, .class_ 112), (0, u "java/lang/constant/Constable"), (0, .class_ 114), (0, u "java/lang/Comparable"), (0, .class_ 116), (0, u "java/io/Serializable")] 87

/-- java/lang/Enum -/
def k5 : Class := { plain "java/lang/Enum" (some 0) with
  accessFlags := 1057
  interfaces := #[2, 3, 4]
  cf := some (fileOf pool5 2 #[.nestMembers #[106]] #[] 1057 12 #[111, 113, 115] #[{ accessFlags := 18, nameIndex := 5, descriptorIndex := 6, attributes := #[] }, { accessFlags := 18, nameIndex := 9, descriptorIndex := 10, attributes := #[] }, { accessFlags := 2, nameIndex := 19, descriptorIndex := 10, attributes := #[] }])
  fields := #[{ name := "name", type := (.object "java/lang/String"), accessFlags := 18, slot := 0, constantValue := 0 }, { name := "ordinal", type := .int, accessFlags := 18, slot := 1, constantValue := 0 }, { name := "hash", type := .int, accessFlags := 2, slot := 2, constantValue := 0 }]
  methods := #[]
  instanceTypes := #[(.object "java/lang/String"), .int, .int]
  staticTypes := #[]
  resolved := Array.replicate 204 none
  statics := none }

def pool6 : Array CpInfo := pool [(1, .class_ 2), (0, u "com/example/humble_log/humblelog/protocol/ApiKey"), (2, u "PRODUCE"), (0, u "Lcom/example/humble_log/humblelog/protocol/ApiKey;"), (2, u "FETCH"), (2, u "LIST_OFFSETS"), (2, u "METADATA"), (2, u "OFFSET_COMMIT"), (2, u "OFFSET_FETCH"), (2, u "FIND_COORDINATOR"), (2, u "JOIN_GROUP"), (2, u "HEARTBEAT"), (2, u "LEAVE_GROUP"), (2, u "SYNC_GROUP"), (2, u "DESCRIBE_GROUPS"), (2, u "LIST_GROUPS"), (2, u "API_VERSIONS"), (2, u "CREATE_TOPICS"), (2, u "DELETE_TOPICS"), (2, u "INIT_PRODUCER_ID"), (2, u "DESCRIBE_CONFIGS"), (2, u "ALTER_CONFIGS"), (2, u "CREATE_PARTITIONS"), (2, u "DELETE_GROUPS"), (2, u "INCREMENTAL_ALTER_CONFIGS"), (2, u "$VALUES"), (0, u "[Lcom/example/humble_log/humblelog/protocol/ApiKey;"), (6, .class_ 82), (1, u "java/lang/Enum"), (8, u "code"), (0, u "S"), (2, u "minVersion"), (2, u "maxVersion"), (0, .fieldref 1 100), (0, .nameAndType 101 92), (0, u "firstFlexibleVersion"), (54, u "(S)Z"), (0, u "isFlexible")] 5

def k6c0 : Code := { maxStack := 2, maxLocals := 2, code := prog_18_method_9_code, exceptionTable := #[], attributes := #[] }
def k6m0 : Method := { name := "isFlexible", desc := "(S)Z", sig := { parameters := [.short], returnType := some .boolean }, accessFlags := 1, code := some k6c0 }
/-- com/example/humble_log/humblelog/protocol/ApiKey -/
def k6 : Class := { plain "com/example/humble_log/humblelog/protocol/ApiKey" (some 5) with
  accessFlags := 16433
  interfaces := #[]
  cf := some (fileOf pool6 1 #[] #[{ accessFlags := 1, nameIndex := 157, descriptorIndex := 156, attributes := #[] }] 16433 80 #[] #[{ accessFlags := 16409, nameIndex := 5, descriptorIndex := 6, attributes := #[] }, { accessFlags := 16409, nameIndex := 9, descriptorIndex := 6, attributes := #[] }, { accessFlags := 16409, nameIndex := 12, descriptorIndex := 6, attributes := #[] }, { accessFlags := 16409, nameIndex := 15, descriptorIndex := 6, attributes := #[] }, { accessFlags := 16409, nameIndex := 18, descriptorIndex := 6, attributes := #[] }, { accessFlags := 16409, nameIndex := 21, descriptorIndex := 6, attributes := #[] }, { accessFlags := 16409, nameIndex := 24, descriptorIndex := 6, attributes := #[] }, { accessFlags := 16409, nameIndex := 27, descriptorIndex := 6, attributes := #[] }, { accessFlags := 16409, nameIndex := 30, descriptorIndex := 6, attributes := #[] }, { accessFlags := 16409, nameIndex := 33, descriptorIndex := 6, attributes := #[] }, { accessFlags := 16409, nameIndex := 36, descriptorIndex := 6, attributes := #[] }, { accessFlags := 16409, nameIndex := 39, descriptorIndex := 6, attributes := #[] }, { accessFlags := 16409, nameIndex := 42, descriptorIndex := 6, attributes := #[] }, { accessFlags := 16409, nameIndex := 45, descriptorIndex := 6, attributes := #[] }, { accessFlags := 16409, nameIndex := 48, descriptorIndex := 6, attributes := #[] }, { accessFlags := 16409, nameIndex := 51, descriptorIndex := 6, attributes := #[] }, { accessFlags := 16409, nameIndex := 54, descriptorIndex := 6, attributes := #[] }, { accessFlags := 16409, nameIndex := 57, descriptorIndex := 6, attributes := #[] }, { accessFlags := 16409, nameIndex := 60, descriptorIndex := 6, attributes := #[] }, { accessFlags := 16409, nameIndex := 63, descriptorIndex := 6, attributes := #[] }, { accessFlags := 16409, nameIndex := 66, descriptorIndex := 6, attributes := #[] }, { accessFlags := 16409, nameIndex := 69, descriptorIndex := 6, attributes := #[] }, { accessFlags := 18, nameIndex := 91, descriptorIndex := 92, attributes := #[] }, { accessFlags := 18, nameIndex := 95, descriptorIndex := 92, attributes := #[] }, { accessFlags := 18, nameIndex := 98, descriptorIndex := 92, attributes := #[] }, { accessFlags := 18, nameIndex := 101, descriptorIndex := 92, attributes := #[] }, { accessFlags := 4122, nameIndex := 72, descriptorIndex := 73, attributes := #[] }])
  fields := #[{ name := "PRODUCE", type := (.object "com/example/humble_log/humblelog/protocol/ApiKey"), accessFlags := 16409, slot := 0, constantValue := 0 }, { name := "FETCH", type := (.object "com/example/humble_log/humblelog/protocol/ApiKey"), accessFlags := 16409, slot := 1, constantValue := 0 }, { name := "LIST_OFFSETS", type := (.object "com/example/humble_log/humblelog/protocol/ApiKey"), accessFlags := 16409, slot := 2, constantValue := 0 }, { name := "METADATA", type := (.object "com/example/humble_log/humblelog/protocol/ApiKey"), accessFlags := 16409, slot := 3, constantValue := 0 }, { name := "OFFSET_COMMIT", type := (.object "com/example/humble_log/humblelog/protocol/ApiKey"), accessFlags := 16409, slot := 4, constantValue := 0 }, { name := "OFFSET_FETCH", type := (.object "com/example/humble_log/humblelog/protocol/ApiKey"), accessFlags := 16409, slot := 5, constantValue := 0 }, { name := "FIND_COORDINATOR", type := (.object "com/example/humble_log/humblelog/protocol/ApiKey"), accessFlags := 16409, slot := 6, constantValue := 0 }, { name := "JOIN_GROUP", type := (.object "com/example/humble_log/humblelog/protocol/ApiKey"), accessFlags := 16409, slot := 7, constantValue := 0 }, { name := "HEARTBEAT", type := (.object "com/example/humble_log/humblelog/protocol/ApiKey"), accessFlags := 16409, slot := 8, constantValue := 0 }, { name := "LEAVE_GROUP", type := (.object "com/example/humble_log/humblelog/protocol/ApiKey"), accessFlags := 16409, slot := 9, constantValue := 0 }, { name := "SYNC_GROUP", type := (.object "com/example/humble_log/humblelog/protocol/ApiKey"), accessFlags := 16409, slot := 10, constantValue := 0 }, { name := "DESCRIBE_GROUPS", type := (.object "com/example/humble_log/humblelog/protocol/ApiKey"), accessFlags := 16409, slot := 11, constantValue := 0 }, { name := "LIST_GROUPS", type := (.object "com/example/humble_log/humblelog/protocol/ApiKey"), accessFlags := 16409, slot := 12, constantValue := 0 }, { name := "API_VERSIONS", type := (.object "com/example/humble_log/humblelog/protocol/ApiKey"), accessFlags := 16409, slot := 13, constantValue := 0 }, { name := "CREATE_TOPICS", type := (.object "com/example/humble_log/humblelog/protocol/ApiKey"), accessFlags := 16409, slot := 14, constantValue := 0 }, { name := "DELETE_TOPICS", type := (.object "com/example/humble_log/humblelog/protocol/ApiKey"), accessFlags := 16409, slot := 15, constantValue := 0 }, { name := "INIT_PRODUCER_ID", type := (.object "com/example/humble_log/humblelog/protocol/ApiKey"), accessFlags := 16409, slot := 16, constantValue := 0 }, { name := "DESCRIBE_CONFIGS", type := (.object "com/example/humble_log/humblelog/protocol/ApiKey"), accessFlags := 16409, slot := 17, constantValue := 0 }, { name := "ALTER_CONFIGS", type := (.object "com/example/humble_log/humblelog/protocol/ApiKey"), accessFlags := 16409, slot := 18, constantValue := 0 }, { name := "CREATE_PARTITIONS", type := (.object "com/example/humble_log/humblelog/protocol/ApiKey"), accessFlags := 16409, slot := 19, constantValue := 0 }, { name := "DELETE_GROUPS", type := (.object "com/example/humble_log/humblelog/protocol/ApiKey"), accessFlags := 16409, slot := 20, constantValue := 0 }, { name := "INCREMENTAL_ALTER_CONFIGS", type := (.object "com/example/humble_log/humblelog/protocol/ApiKey"), accessFlags := 16409, slot := 21, constantValue := 0 }, { name := "code", type := .short, accessFlags := 18, slot := 3, constantValue := 0 }, { name := "minVersion", type := .short, accessFlags := 18, slot := 4, constantValue := 0 }, { name := "maxVersion", type := .short, accessFlags := 18, slot := 5, constantValue := 0 }, { name := "firstFlexibleVersion", type := .short, accessFlags := 18, slot := 6, constantValue := 0 }, { name := "$VALUES", type := (.array (.object "com/example/humble_log/humblelog/protocol/ApiKey")), accessFlags := 4122, slot := 22, constantValue := 0 }]
  methods := #[k6m0]
  instanceTypes := #[(.object "java/lang/String"), .int, .int, .short, .short, .short, .short]
  staticTypes := #[(.object "com/example/humble_log/humblelog/protocol/ApiKey"), (.object "com/example/humble_log/humblelog/protocol/ApiKey"), (.object "com/example/humble_log/humblelog/protocol/ApiKey"), (.object "com/example/humble_log/humblelog/protocol/ApiKey"), (.object "com/example/humble_log/humblelog/protocol/ApiKey"), (.object "com/example/humble_log/humblelog/protocol/ApiKey"), (.object "com/example/humble_log/humblelog/protocol/ApiKey"), (.object "com/example/humble_log/humblelog/protocol/ApiKey"), (.object "com/example/humble_log/humblelog/protocol/ApiKey"), (.object "com/example/humble_log/humblelog/protocol/ApiKey"), (.object "com/example/humble_log/humblelog/protocol/ApiKey"), (.object "com/example/humble_log/humblelog/protocol/ApiKey"), (.object "com/example/humble_log/humblelog/protocol/ApiKey"), (.object "com/example/humble_log/humblelog/protocol/ApiKey"), (.object "com/example/humble_log/humblelog/protocol/ApiKey"), (.object "com/example/humble_log/humblelog/protocol/ApiKey"), (.object "com/example/humble_log/humblelog/protocol/ApiKey"), (.object "com/example/humble_log/humblelog/protocol/ApiKey"), (.object "com/example/humble_log/humblelog/protocol/ApiKey"), (.object "com/example/humble_log/humblelog/protocol/ApiKey"), (.object "com/example/humble_log/humblelog/protocol/ApiKey"), (.object "com/example/humble_log/humblelog/protocol/ApiKey"), (.array (.object "com/example/humble_log/humblelog/protocol/ApiKey"))]
  resolved := Array.replicate 163 none
  statics := some 0 }

def pool7 : Array CpInfo := pool [(1, u "java/lang/Cloneable"), (0, .class_ 1), (0, u "java/lang/Object"), (0, .class_ 3)] 3

/-- java/lang/Cloneable -/
def k7 : Class := { plain "java/lang/Cloneable" (some 0) with
  accessFlags := 1537
  interfaces := #[]
  cf := some (fileOf pool7 2 #[] #[] 1537 4 #[] #[])
  fields := #[]
  methods := #[]
  instanceTypes := #[]
  staticTypes := #[]
  resolved := Array.replicate 8 none
  statics := none }

/-- the primitive byte -/
def k8 : Class := { plain "byte" none with kind := .primitive 'B', accessFlags := 0x411 }
/-- [B -/
def k9 : Class := { plain "[B" (some 0) with kind := .array 8 .byte, interfaces := #[7, 4], accessFlags := 1041 }

/-- the primitive int -/
def k10 : Class := { plain "int" none with kind := .primitive 'I', accessFlags := 0x411 }
/-- [I -/
def k11 : Class := { plain "[I" (some 0) with kind := .array 10 .int, interfaces := #[7, 4], accessFlags := 1041 }

/-- [Lcom/example/humble_log/humblelog/protocol/ApiKey; -/
def k12 : Class := { plain "[Lcom/example/humble_log/humblelog/protocol/ApiKey;" (some 0) with kind := .array 6 (.object "com/example/humble_log/humblelog/protocol/ApiKey"), interfaces := #[7, 4], accessFlags := 1041 }

def heap : Heap := #[{ cls := 6, slots := #[.ref 1, .ref 2, .ref 11, .ref 7, .ref 22, .ref 6, .ref 18, .ref 15, .ref 5, .ref 14, .ref 3, .ref 12, .ref 19, .ref 9, .ref 16, .ref 17, .ref 8, .ref 10, .ref 13, .ref 4, .ref 21, .ref 20, .null], vm := .statics 6 },
  { cls := 6, slots := #[.null, .int 0, .int 0, .int 0, .int 0, .int 0, .int 9], vm := .none },
  { cls := 6, slots := #[.null, .int 1, .int 0, .int 0, .int 0, .int 0, .int 12], vm := .none },
  { cls := 6, slots := #[.null, .int 2, .int 0, .int 0, .int 0, .int 0, .int 4], vm := .none },
  { cls := 6, slots := #[.null, .int 3, .int 0, .int 0, .int 0, .int 0, .int 2], vm := .none },
  { cls := 6, slots := #[.null, .int 4, .int 0, .int 0, .int 0, .int 0, .int 4], vm := .none },
  { cls := 6, slots := #[.null, .int 5, .int 0, .int 0, .int 0, .int 0, .int 6], vm := .none },
  { cls := 6, slots := #[.null, .int 6, .int 0, .int 0, .int 0, .int 0, .int 9], vm := .none },
  { cls := 6, slots := #[.null, .int 7, .int 0, .int 0, .int 0, .int 0, .int 2], vm := .none },
  { cls := 6, slots := #[.null, .int 8, .int 0, .int 0, .int 0, .int 0, .int 3], vm := .none },
  { cls := 6, slots := #[.null, .int 9, .int 0, .int 0, .int 0, .int 0, .int 4], vm := .none },
  { cls := 6, slots := #[.null, .int 10, .int 0, .int 0, .int 0, .int 0, .int 6], vm := .none },
  { cls := 6, slots := #[.null, .int 11, .int 0, .int 0, .int 0, .int 0, .int 5], vm := .none },
  { cls := 6, slots := #[.null, .int 12, .int 0, .int 0, .int 0, .int 0, .int 2], vm := .none },
  { cls := 6, slots := #[.null, .int 13, .int 0, .int 0, .int 0, .int 0, .int 4], vm := .none },
  { cls := 6, slots := #[.null, .int 14, .int 0, .int 0, .int 0, .int 0, .int 6], vm := .none },
  { cls := 6, slots := #[.null, .int 15, .int 0, .int 0, .int 0, .int 0, .int 5], vm := .none },
  { cls := 6, slots := #[.null, .int 16, .int 0, .int 0, .int 0, .int 0, .int 4], vm := .none },
  { cls := 6, slots := #[.null, .int 17, .int 0, .int 0, .int 0, .int 0, .int 3], vm := .none },
  { cls := 6, slots := #[.null, .int 18, .int 0, .int 0, .int 0, .int 0, .int 3], vm := .none },
  { cls := 6, slots := #[.null, .int 19, .int 0, .int 0, .int 0, .int 0, .int 1], vm := .none },
  { cls := 6, slots := #[.null, .int 20, .int 0, .int 0, .int 0, .int 0, .int 2], vm := .none },
  { cls := 6, slots := #[.null, .int 21, .int 0, .int 0, .int 0, .int 0, .int 8], vm := .none }]
def classes : Array Class := #[k0, k1, k2, k3, k4, k5, k6, k7, k8, k9, k10, k11, k12]
def interned : List (Array UInt16 × Addr) := []
def slotsUsed : Nat := 177
def theMethod : MethodId := ⟨1, 1⟩
def args0 : Array Value := #[.int 0, .int 0, .int 0]
def aboutOver (below : List Frame) : State where
  vm := { classes := classes, interned := interned.toArray }
  heap := heap
  slotsUsed := slotsUsed
  threads := #[{ frames := .invoking theMethod args0 :: below }]
def below0 : List Frame := [.native { method := ⟨0, 0⟩, args := #[] }]
def about1 : State := aboutOver below0
def p0 : Program := .bare "" "" ""
def e0 : Env := launch0.env 0 0 0
theorem w_frames : about1.frames = Frame.invoking theMethod args0 :: below0 := rfl
set_option maxRecDepth 65536 in
theorem w_args : argsFit about1.vm theMethod args0 = true := by decide +kernel
set_option maxRecDepth 65536 in
theorem w_heap : heapFits about1 = true := by decide +kernel
set_option maxRecDepth 65536 in
theorem w_runnable : about1.curStatus? = some .runnable := by decide +kernel
set_option maxRecDepth 65536 in
theorem w_alone : about1.alone = true := by decide +kernel
set_option maxRecDepth 65536 in
theorem w_named : about1.methodNamed? x = some theMethod := by decide +kernel
set_option maxRecDepth 65536 in
theorem w_hears : about1.hears theMethod below0 = true := by decide +kernel
set_option maxRecDepth 65536 in
theorem w_ripe : about1.ripe theMethod args0 below0 = true := by decide +kernel
theorem w_running : about1.status = .running := rfl
set_option maxRecDepth 65536 in
theorem w_room : about1.hasRoom e0.platform room_1 = true :=
  launch0.hasRoom_least _ room_1 (by decide +kernel) (by decide +kernel) (by decide +kernel) (by decide +kernel) (by decide +kernel) (by decide +kernel)
theorem allAtoms_all (ts : List Jvm.Cond) (a : Array Jvm.Value) (st : Jvm.State) : (allAtoms ts).before a st = ts.all (fun c => c.before a st) := by
  induction ts with
  | nil => rfl
  | cons c t ih =>
    show (Jvm.Cond.and c (allAtoms t)).before a st = _
    rw [Jvm.Cond.before_and, ih, List.all_cons]
def words1 : List Jvm.Cond := Jvm.Cond.code x code maxLocals ret :: tables_1
/-- a 'code' word, met by the world's own term for the bytes: nothing is compared byte by byte -/
theorem code_word {y : MethodName} {bytes : ByteArray} {mx : Nat} {rt : Option FieldType} {a : Array Value} {s : State} {m : MethodId} {meth : Method} {c : Code} (h1 : s.methodNamed? y = some m) (h2 : s.vm.method? m = some meth) (h3 : meth.code = some c) (h4 : c.code = bytes)
    (h5 : (c.maxLocals == mx && c.exceptionTable.isEmpty && decide (c.maxStack ≤ mostOperands) && decide (meth.sig.returnType = rt) && !meth.locks && decide (parseMethodDescriptor y.desc = some meth.sig)) = true) : (Jvm.Cond.code y bytes mx rt).before a s = true := by
  simp only [Bool.and_eq_true, beq_iff_eq, Bool.not_eq_true', decide_eq_true_eq] at h5
  obtain ⟨⟨⟨⟨⟨g1, g2⟩, g3⟩, g4⟩, g5⟩, g6⟩ := h5
  simp [Cond.before, Cond.holds, Cond.value, h1, h2, h3, h4, g1, g2, g3, g4, g5, g6]
def isCode : Jvm.Cond → Bool
  | .code _ _ _ _ => true
  | _ => false
theorem all_split {L : List Jvm.Cond} {P : Jvm.Cond → Bool} (h1 : L.all (fun c => isCode c || P c) = true) (h2 : ∀ c ∈ L.filter isCode, P c = true) : L.all P = true := by
  refine List.all_eq_true.mpr fun c hc => ?_
  have h := List.all_eq_true.mp h1 c hc
  rcases Bool.eq_false_or_eq_true (isCode c) with hi | hi
  · exact h2 c (List.mem_filter.mpr ⟨hc, hi⟩)
  · simpa [hi] using h
set_option maxRecDepth 65536 in
theorem w_c0 : (Jvm.Cond.code x code maxLocals ret).before args0 about1 = true := code_word (m := ⟨1, 1⟩) (meth := k1m1) (c := k1c1) (by decide +kernel) rfl rfl rfl (by decide +kernel)
set_option maxRecDepth 65536 in
theorem w_c1 : (Jvm.Cond.code ({ cls := "com/example/humble_log/humblelog/protocol/ApiKey", name := "isFlexible", desc := "(S)Z" } : Jvm.MethodName) prog_18_method_9_code (2 : Nat) (Option.some Jvm.ClassFile.FieldType.boolean)).before args0 about1 = true := code_word (m := ⟨6, 0⟩) (meth := k6m0) (c := k6c0) (by decide +kernel) rfl rfl rfl (by decide +kernel)
def codes1 : List Jvm.Cond := [Jvm.Cond.code x code maxLocals ret, Jvm.Cond.code ({ cls := "com/example/humble_log/humblelog/protocol/ApiKey", name := "isFlexible", desc := "(S)Z" } : Jvm.MethodName) prog_18_method_9_code (2 : Nat) (Option.some Jvm.ClassFile.FieldType.boolean)]
set_option maxRecDepth 65536 in
theorem codes_eq : words1.filter isCode = codes1 := rfl
theorem w_codes : ∀ c ∈ words1.filter isCode, c.before args0 about1 = true := by
  rw [codes_eq]
  intro c hc
  simp only [codes1, List.mem_cons, List.not_mem_nil, or_false] at hc
  rcases hc with rfl | rfl
  · exact w_c0
  · exact w_c1
set_option maxRecDepth 65536 in
theorem w_t1 : (words1.take 24).all (fun c => isCode c || c.before args0 about1) = true := by decide +kernel
set_option maxRecDepth 65536 in
theorem w_t2 : ((words1.drop 24).take 24).all (fun c => isCode c || c.before args0 about1) = true := by decide +kernel
set_option maxRecDepth 65536 in
theorem w_t3 : ((words1.drop 24).drop 24).all (fun c => isCode c || c.before args0 about1) = true := by decide +kernel
theorem w_tables : (allAtoms (Jvm.Cond.code x code maxLocals ret :: tables_1)).before args0 about1 = true := by
  rw [allAtoms_all]
  show words1.all (fun c => c.before args0 about1) = true
  refine all_split ?_ w_codes
  rw [← List.take_append_drop 24 words1, List.all_append, w_t1, ← List.take_append_drop 24 (words1.drop 24), List.all_append, w_t2, w_t3]
  rfl
set_option maxRecDepth 65536 in
theorem w_case : (Jvm.Cond.and given_1 narrow_1).before args0 about1 = true := by decide +kernel
theorem w_applies : (headSpec (Jvm.Cond.code x code maxLocals ret :: tables_1) room_1).applies x e0.platform about1 = true :=
  (Spec.applies_iff w_frames).mpr ⟨w_running, w_runnable, w_alone, w_named, w_hears, w_ripe, w_room, w_tables⟩
theorem atStart : AtStart classFile x code maxLocals ret World_1 tables_1 room_1 Calls_1 rest_1 Pre_1 launch0 p0 e0 about1 theMethod args0 below0 :=
  ⟨lists_1, trivial, launch0.admits_env _ _ _, launch0.least_env, fairChoices_fair.cas, fairChoices_fair.clock, w_frames, w_args, w_heap, w_applies, trivial, trivial, w_case⟩
end start1
theorem witness_1 : WitnessClaimed_1 := ⟨start1.p0, start1.e0, start1.about1, start1.theMethod, start1.args0, start1.below0, start1.atStart⟩
end Jvm.Pilot.@@N@@
