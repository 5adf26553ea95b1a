import JvmDerived
import JvmDerived.Pilot.@@N@@Statement
import JvmDerived.Pilot.@@N@@Code
set_option linter.unusedVariables false
set_option linter.unusedSimpArgs false

namespace Jvm.RoadKit
open Sem ClassFile Op Lib Jvm.Stand Jvm.Free Jvm.LawKit
/-- the run from S comes to an end that K allows -/
def own_G (p : Program) (e : Env) (below : List Frame) (K : Outcome → State → Prop) (S : State) : Prop := ∃ s₂ o, Steps p.tables e below S s₂ ∧ s₂.status = .running ∧ Ended s₂ below o ∧ K o s₂
section Own
variable {p : Program} {l : Launch} {e : Env} {R : Room} {s : State} {m : MethodId} {args : Array Value} {below : List Frame} {meth : Method} {c : Code} {T : State} {locs : List Loc} {cells slots : Nat} {K : Outcome → State → Prop} {S S' : State}
theorem own_go (h : ∀ t, Steps p.tables e below S' t → Steps p.tables e below S t) (g : own_G p e below K S') : own_G p e below K S := by
  obtain ⟨s₂, o, h1, h2⟩ := g; exact ⟨s₂, o, h _ h1, h2⟩
theorem own_tr (h : Steps p.tables e below S S') (g : own_G p e below K S') : own_G p e below K S := by
  obtain ⟨s₂, o, h1, h2⟩ := g; exact ⟨s₂, o, h.trans h1, h2⟩
theorem own_cast {g g' : JFrame} (q : g = g') (k : own_G p e below K (T.setTop g')) : own_G p e below K (T.setTop g) := q ▸ k
theorem own_end {v : Option Value} (X : Stand p l e R s m args below meth c T locs cells slots) (hv : meth.sig.returnType = none → v = none) (hlocks : meth.locks = false)
    (hst : ∀ fs, (∀ (f : JFrame) (acts : List Action), f.method = m → f.locked = none → f.entered = [] → (doReturn e (T.setTop f) acts v).1 = T.setFrames fs) → Steps p.tables e below S (T.setFrames fs))
    (hk : ∀ U : State, U.heap = T.heap → U.vm = T.vm → FrameEnd s (.returned v) U locs cells slots → K (.returned v) U) : own_G p e below K S := by
  obtain ⟨fs, hr, hrun, hended, hW, hsame⟩ := X.leave (v := v) hv hlocks
  exact ⟨_, _, hst fs hr, hrun, hended, hk _ rfl rfl ⟨⟨_, rfl⟩, hW, hsame⟩⟩
theorem own_retN (X : Stand p l e R s m args below meth c T locs cells slots) (hx : p.tables.exec = Jvm.exec) (hlocks : meth.locks = false) {pc : Nat} {Ls : Array Slot} {z z' : Int32} {t : FieldType} {rest : List Value} (hret : meth.sig.returnType = some t) (ht : t = .boolean ∨ t = .byte ∨ t = .char ∨ t = .short)
    (hd : decode c.code pc = .ok (.ireturn, 1)) (hz : nar t z = z') (hk : ∀ U : State, U.heap = T.heap → U.vm = T.vm → FrameEnd s (.returned (some (.int z'))) U locs cells slots → K (.returned (some (.int z'))) U) :
    own_G p e below K (T.setTop (mkF m pc Ls (.int z :: rest))) := by
  subst hz
  exact own_end X (fun h => by rw [hret] at h; cases h) hlocks (fun fs hr => retN X hx hret ht hd hr) hk
theorem own_retI (X : Stand p l e R s m args below meth c T locs cells slots) (hx : p.tables.exec = Jvm.exec) (hlocks : meth.locks = false) {pc : Nat} {Ls : Array Slot} {z : Int32} {rest : List Value} (hret : meth.sig.returnType = some .int)
    (hd : decode c.code pc = .ok (.ireturn, 1)) (hk : ∀ U : State, U.heap = T.heap → U.vm = T.vm → FrameEnd s (.returned (some (.int z))) U locs cells slots → K (.returned (some (.int z))) U) :
    own_G p e below K (T.setTop (mkF m pc Ls (.int z :: rest))) :=
  own_end X (fun h => by rw [hret] at h; cases h) hlocks (fun fs hr => retOut X hx hret rfl (Or.inl ⟨rfl, Or.inl rfl, z, rfl⟩) hd hr) hk
theorem own_retJ (X : Stand p l e R s m args below meth c T locs cells slots) (hx : p.tables.exec = Jvm.exec) (hlocks : meth.locks = false) {pc : Nat} {Ls : Array Slot} {z : Int64} {rest : List Value} (hret : meth.sig.returnType = some .long)
    (hd : decode c.code pc = .ok (.lreturn, 1)) (hk : ∀ U : State, U.heap = T.heap → U.vm = T.vm → FrameEnd s (.returned (some (.long z))) U locs cells slots → K (.returned (some (.long z))) U) :
    own_G p e below K (T.setTop (mkF m pc Ls (.long z :: rest))) :=
  own_end X (fun h => by rw [hret] at h; cases h) hlocks (fun fs hr => retOut X hx hret rfl (Or.inr (Or.inl ⟨rfl, rfl, z, rfl⟩)) hd hr) hk
theorem own_retR (X : Stand p l e R s m args below meth c T locs cells slots) (hx : p.tables.exec = Jvm.exec) (hlocks : meth.locks = false) {pc : Nat} {Ls : Array Slot} {w : Value} {t : FieldType} {rest : List Value} (hret : meth.sig.returnType = some t) (ht : t.isReference = true) (hw : w.isRef = true)
    (hd : decode c.code pc = .ok (.areturn, 1)) (hk : ∀ U : State, U.heap = T.heap → U.vm = T.vm → FrameEnd s (.returned (some w)) U locs cells slots → K (.returned (some w)) U) :
    own_G p e below K (T.setTop (mkF m pc Ls (w :: rest))) :=
  own_end X (fun h => by rw [hret] at h; cases h) hlocks (fun fs hr => retOut X hx hret (by cases w <;> cases t <;> first | rfl | simp [Value.isRef, FieldType.isReference] at hw ht) (Or.inr (Or.inr (Or.inr (Or.inr ⟨rfl, ht, hw⟩)))) hd hr) hk
theorem own_retV (X : Stand p l e R s m args below meth c T locs cells slots) (hx : p.tables.exec = Jvm.exec) (hlocks : meth.locks = false) {pc : Nat} {Ls : Array Slot} (hret : meth.sig.returnType = none)
    (hd : decode c.code pc = .ok (.return_, 1)) (hk : ∀ U : State, U.heap = T.heap → U.vm = T.vm → FrameEnd s (.returned none) U locs cells slots → K (.returned none) U) :
    own_G p e below K (T.setTop (mkF m pc Ls [])) :=
  own_end X (fun _ => rfl) hlocks (fun fs hr => X.returnOut hx hret hd hr) hk
end Own
end Jvm.RoadKit
namespace Jvm.Pilot.@@N@@
open Jvm Jvm.ClassFile Sem Op Lib Jvm.Free Jvm.Stand Jvm.LawKit Jvm.RoadKit Bundle Jvm.Pilot.@@N@@.Jvm.D
theorem own_b0 {z : Int32} {P : Prop} [Decidable P] (h : z = if P then 1 else 0) (q : ¬ P) : z = 0 := by rw [h, if_neg q]
theorem own_b1 {z : Int32} {P : Prop} [Decidable P] (h : z = if P then 1 else 0) (q : P) : ¬ z = 0 := by rw [h, if_pos q]; decide
theorem own_bn {z : Int32} {P : Prop} [Decidable P] (h : z = if P then 0 else 1) : z = if ¬ P then 1 else 0 := by by_cases q : P <;> simp [h, q]
theorem own_fldI {args : Array Value} {s : State} {t : Term} {C n d : String} {z : Int32} {a : Addr} (ht : t.eval args s none [] s = some (.ref a)) (h : (Jvm.Cond.eq (Term.field t C n d) (Term.int z)).value args s none s [] = some true) : Fld s s.heap a C n d (.int z) := by
  obtain ⟨x, y, h1, h2, k1, k2⟩ := cmp_v (Or.inl h)
  have h3 : (Term.int z).eval args s none [] s = some (.int z) := rfl
  obtain rfl : y = .int z := Option.some.inj (h2.symm.trans h3)
  obtain ⟨w, rfl⟩ := k2
  have e : w = z := by simp only [Cond.value, h1, h3] at h; simpa using h
  subst e
  exact Fld.start (by rw [← fld_at ht]; exact h1)
theorem own_stakeep {Z : State} {h h' : Heap} {C n d : String} {v : Value} {ws : List Addr} (F : Sta Z h C n d v) (K : Keep h h' ws) (q : ∀ a ∈ ws, ∀ cell : Cell, h[a]? = some cell → cell.vm.isStatics = false) : Sta Z h' C n d v := by
  obtain ⟨cf, i, k, f, st, cell, h1, h2, h3, h4, h5, h6, h7⟩ := F
  exact ⟨cf, i, k, f, st, cell, h1, h2, h3, h4, K.2.1 _ _ h5 (fun hm => by rw [q _ hm _ h5] at h6; cases h6), h6, h7⟩
theorem own_nb {z : Int32} {P : Prop} [Decidable P] (h : z = if P then 1 else 0) : nar .boolean z = z := by by_cases q : P <;> simp [h, q] <;> rfl
def own_ar (b p : Int32) : Int32 := if b = (0 : Int32) then (if p = (0 : Int32) then (0 : Int32) else (1 : Int32)) else (1 : Int32)
theorem own_ar1 (p : Int32) : own_ar (1 : Int32) p = (1 : Int32) := by simp [own_ar]
theorem own_ar0 {P : Prop} [Decidable P] {z : Int32} (h : z = if P then (0 : Int32) else (1 : Int32)) : own_ar (0 : Int32) z = z := by
  by_cases q : P <;> simp [own_ar, h, q]
theorem dar_0 : decode prog_5_method_5_code 0 = .ok (.aload_n 0, 1) := by decide +kernel
theorem dar_1 : decode prog_5_method_5_code 1 = .ok (.getfield 38, 3) := by decide +kernel
theorem dar_4 : decode prog_5_method_5_code 4 = .ok (.ifCond .ne 7, 3) := by decide +kernel
theorem dar_7 : decode prog_5_method_5_code 7 = .ok (.iload_n 1, 1) := by decide +kernel
theorem dar_8 : decode prog_5_method_5_code 8 = .ok (.ifCond .eq 7, 3) := by decide +kernel
theorem dar_11 : decode prog_5_method_5_code 11 = .ok (.iconst 1, 1) := by decide +kernel
theorem dar_12 : decode prog_5_method_5_code 12 = .ok (.goto 4, 3) := by decide +kernel
theorem dar_15 : decode prog_5_method_5_code 15 = .ok (.iconst 0, 1) := by decide +kernel
theorem dar_16 : decode prog_5_method_5_code 16 = .ok (.ireturn, 1) := by decide +kernel
theorem own_pn0 : plainName "com/example/proxyreach/proxyreach/RemoteCallException$Kind" = true := by first | (simp [plainName, overriddenIn]; done) | decide +kernel
theorem efar (m : MethodId) (a1 : Addr) (p2 : Int32) : entryFrame m #[(.ref a1), (.int p2)] 2 = mkF m 0 #[.val (.ref a1), .val (.int p2)] [] := by first | (simp [entryFrame, mkF, argsToLocals, Value.category]; done) | rfl
def Q_ar (Z : State) (a1 : Addr) (p2 : Int32) (b : Int32) (h0 : Heap) (n0 : Nat) (v : Option Value) (h : Heap) (L : List Loc) : Prop := v = some (.int (own_ar b p2)) ∧ Fr n0 L ∧ h = h0
def K_ar (Z : State) (a1 : Addr) (p2 : Int32) (b : Int32) (h0 : Heap) (n0 : Nat) (s : State) (o : Outcome) (U' : State) : Prop := ∃ v L, o = .returned v ∧ Q_ar Z a1 p2 b h0 n0 v U'.heap L ∧ FrameEnd s o U' L 0 0
set_option maxRecDepth 65536 in
set_option maxHeartbeats 40000000 in
theorem rm_ar (l : Launch) (Z : State) (a0 : Array Value) (hw : ∀ d ∈ tables_1, d.before a0 Z = true) (ws : List Jvm.Cond) (a1 : Addr) (p2 : Int32) (b : Int32) (h0 : Heap) (n0 : Nat) (Z0 : n0 ≤ h0.size) (F1 : Fld Z h0 a1 "com/example/proxyreach/proxyreach/RemoteCallException$Kind" "provesNotRun" "Z" (.int b)) :
    MetFree l (⟨"com/example/proxyreach/proxyreach/RemoteCallException$Kind", "allowsRetry", "(Z)Z"⟩ : MethodName) (head1 (Jvm.Cond.code (⟨"com/example/proxyreach/proxyreach/RemoteCallException$Kind", "allowsRetry", "(Z)Z"⟩ : MethodName) prog_5_method_5_code 2 (some .boolean) :: ws) ({ frames := 0, cells := 0, slots := 0, locals := 0 } : Room)) (fun a U => a = #[(.ref a1), (.int p2)] ∧ Z.Warmed39 U.vm ∧ U.heap = h0) (fun _ _ _ _ _ => True) (fun _ U o U' => ∃ v L, o = .returned v ∧ Q_ar Z a1 p2 b h0 n0 v U'.heap L ∧ FrameEnd U o U' L ({ frames := 0, cells := 0, slots := 0, locals := 0 } : Room).cells ({ frames := 0, cells := 0, slots := 0, locals := 0 } : Room).slots) := by
  refine MetFree.of_bodySF (plainFor_of_name own_pn0) hisR ?_
  intro p e s m args below meth c s₁ Bd hml0 hP hK
  obtain ⟨rfl, hZ, hh⟩ := hP
  have hx := Bd.exec
  have hby := Bd.bytes
  have hml : c.maxLocals = 2 := hml0
  have hown : s.vm.findClass "com/example/proxyreach/proxyreach/RemoteCallException$Kind" = some m.cls := findClass_of_methodNamed Bd.named
  have hnm := (name_of_methodNamed Bd.named Bd.method).1
  have X0 : Stand p l e ({ frames := 0, cells := 0, slots := 0, locals := 0 } : Room) s m #[(.ref a1), (.int p2)] below meth c s₁ [] 0 0 := Stand.of_body Bd
  have e0 : s₁.heap = h0 := by rw [← hh, Bd.state]; rfl
  have N0 := Fr.nil n0
  show own_G p e below (K_ar Z a1 p2 b h0 n0 s) (s₁.setTop (entryFrame m #[(.ref a1), (.int p2)] 2))
  refine own_cast (efar m a1 p2) ?_
  show own_G p e below (K_ar Z a1 p2 b h0 n0 s) (s₁.setTop (mkF m 0 #[.val (.ref a1), .val (.int p2)] []))
  refine own_go (fun t k => XS.aloadN X0.here hx rfl (hb hby dar_0) rfl rfl k) ?_
  show own_G p e below (K_ar Z a1 p2 b h0 n0 s) (s₁.setTop (mkF m 1 #[.val (.ref a1), .val (.int p2)] [(.ref a1)]))
  obtain ⟨T1, X1, e1, st1⟩ := getF X0 hx hZ hown (host := "") (Or.inl (hw _ (List.mem_of_getElem? (i := 9) rfl))) Via.refl e0 F1 (g := (mkF m 1 #[.val (.ref a1), .val (.int p2)] [(.ref a1)])) rfl rfl (hb hby dar_1)
  refine own_go st1 ?_
  show own_G p e below (K_ar Z a1 p2 b h0 n0 s) (T1.setTop (mkF m 4 #[.val (.ref a1), .val (.int p2)] [(.int b)]))
  by_cases hc4_2 : b = (0 : Int32)
  · skip
    refine own_go (fun t k => XS.ifNo X1.here hx rfl (hb hby dar_4) rfl ((if0 _ _).trans (teq hc4_2).2) k) ?_
    show own_G p e below (K_ar Z a1 p2 b h0 n0 s) (T1.setTop (mkF m 7 #[.val (.ref a1), .val (.int p2)] []))
    refine own_go (fun t k => XS.iloadN X1.here hx rfl (hb hby dar_7) rfl k) ?_
    show own_G p e below (K_ar Z a1 p2 b h0 n0 s) (T1.setTop (mkF m 8 #[.val (.ref a1), .val (.int p2)] [(.int p2)]))
    by_cases hc8_3 : p2 = (0 : Int32)
    · skip
      refine own_go (fun t k => XS.ifYes X1.here hx rfl (pc0 := 8) (pc' := 15) rfl (hb hby dar_8) rfl ((if0 _ _).trans (teq hc8_3).1) (by decide) (by decide) k) ?_
      show own_G p e below (K_ar Z a1 p2 b h0 n0 s) (T1.setTop (mkF m 15 #[.val (.ref a1), .val (.int p2)] []))
      refine own_go (fun t k => XS.iconst X1.here hx rfl (hb hby dar_15) k) ?_
      show own_G p e below (K_ar Z a1 p2 b h0 n0 s) (T1.setTop (mkF m 16 #[.val (.ref a1), .val (.int p2)] [(.int (0 : Int32))]))
      exact own_retN X1 hx Bd.notSynchronized (t := .boolean) (z' := (0 : Int32)) Bd.returns (by simp) (hb hby dar_16) rfl (fun U hU hV hF => ⟨_, _, rfl, ⟨by simp [own_ar, hc4_2, hc8_3], N0, hU.trans e1⟩, hF.1, hF.2.1, hF.2.2.mono (by decide) (by decide)⟩)
    · skip
      refine own_go (fun t k => XS.ifNo X1.here hx rfl (hb hby dar_8) rfl ((if0 _ _).trans (feq hc8_3).1) k) ?_
      show own_G p e below (K_ar Z a1 p2 b h0 n0 s) (T1.setTop (mkF m 11 #[.val (.ref a1), .val (.int p2)] []))
      refine own_go (fun t k => XS.iconst X1.here hx rfl (hb hby dar_11) k) ?_
      show own_G p e below (K_ar Z a1 p2 b h0 n0 s) (T1.setTop (mkF m 12 #[.val (.ref a1), .val (.int p2)] [(.int (1 : Int32))]))
      refine own_go (fun t k => XS.goto X1.here hx rfl (pc0 := 12) (pc' := 16) rfl (hb hby dar_12) (by decide) (by decide) k) ?_
      show own_G p e below (K_ar Z a1 p2 b h0 n0 s) (T1.setTop (mkF m 16 #[.val (.ref a1), .val (.int p2)] [(.int (1 : Int32))]))
      exact own_retN X1 hx Bd.notSynchronized (t := .boolean) (z' := (1 : Int32)) Bd.returns (by simp) (hb hby dar_16) rfl (fun U hU hV hF => ⟨_, _, rfl, ⟨by simp [own_ar, hc4_2, hc8_3], N0, hU.trans e1⟩, hF.1, hF.2.1, hF.2.2.mono (by decide) (by decide)⟩)
  · skip
    refine own_go (fun t k => XS.ifYes X1.here hx rfl (pc0 := 4) (pc' := 11) rfl (hb hby dar_4) rfl ((if0 _ _).trans (feq hc4_2).2) (by decide) (by decide) k) ?_
    show own_G p e below (K_ar Z a1 p2 b h0 n0 s) (T1.setTop (mkF m 11 #[.val (.ref a1), .val (.int p2)] []))
    refine own_go (fun t k => XS.iconst X1.here hx rfl (hb hby dar_11) k) ?_
    show own_G p e below (K_ar Z a1 p2 b h0 n0 s) (T1.setTop (mkF m 12 #[.val (.ref a1), .val (.int p2)] [(.int (1 : Int32))]))
    refine own_go (fun t k => XS.goto X1.here hx rfl (pc0 := 12) (pc' := 16) rfl (hb hby dar_12) (by decide) (by decide) k) ?_
    show own_G p e below (K_ar Z a1 p2 b h0 n0 s) (T1.setTop (mkF m 16 #[.val (.ref a1), .val (.int p2)] [(.int (1 : Int32))]))
    exact own_retN X1 hx Bd.notSynchronized (t := .boolean) (z' := (1 : Int32)) Bd.returns (by simp) (hb hby dar_16) rfl (fun U hU hV hF => ⟨_, _, rfl, ⟨by simp [own_ar, hc4_2], N0, hU.trans e1⟩, hF.1, hF.2.1, hF.2.2.mono (by decide) (by decide)⟩)
theorem own_pn1 : plainName "com/example/proxyreach/proxyreach/KindAllowsRetryPinLaw" = true := by first | (simp [plainName, overriddenIn]; done) | decide +kernel
theorem own_pd0 : parseMethodDescriptor "(Z)Z" = some ⟨[.boolean], some .boolean⟩ := by decide +kernel
theorem ef0 (m : MethodId) (p1 : Int32) (p2 : Int32) : entryFrame m #[(.int p1), (.int p2)] maxLocals = mkF m 0 #[.val (.int p1), .val (.int p2), .unset, .unset, .unset, .unset, .unset] [] := by first | (simp [entryFrame, mkF, argsToLocals, Value.category, maxLocals]; done) | rfl
def Q_0 (Z : State) (p1 : Int32) (p2 : Int32) (k0 : Addr) (k1 : Addr) (k2 : Addr) (k3 : Addr) (k4 : Addr) (h0 : Heap) (n0 : Nat) (v : Option Value) (h : Heap) (L : List Loc) : Prop := v = some (.int 1) ∧ Fr n0 L
def K_0 (Z : State) (p1 : Int32) (p2 : Int32) (k0 : Addr) (k1 : Addr) (k2 : Addr) (k3 : Addr) (k4 : Addr) (h0 : Heap) (n0 : Nat) (s : State) (o : Outcome) (U' : State) : Prop := ∃ v L, o = .returned v ∧ Q_0 Z p1 p2 k0 k1 k2 k3 k4 h0 n0 v U'.heap L ∧ FrameEnd s o U' L 0 0
set_option maxRecDepth 65536 in
set_option maxHeartbeats 40000000 in
theorem rm_0 (l : Launch) (Z : State) (a0 : Array Value) (hw : ∀ d ∈ tables_1, d.before a0 Z = true) (ws : List Jvm.Cond) (p1 : Int32) (p2 : Int32) (k0 : Addr) (k1 : Addr) (k2 : Addr) (k3 : Addr) (k4 : Addr) (h0 : Heap) (n0 : Nat) (Z0 : n0 ≤ h0.size) (S0 : Sta Z h0 "com/example/proxyreach/proxyreach/RemoteCallException$Kind" "NO_PROVIDER" "Lcom/example/proxyreach/proxyreach/RemoteCallException$Kind;" (.ref k0)) (E0_ : Exa Z h0 k0 "com/example/proxyreach/proxyreach/RemoteCallException$Kind") (F0_ : Fld Z h0 k0 "com/example/proxyreach/proxyreach/RemoteCallException$Kind" "provesNotRun" "Z" (.int (1 : Int32))) (S1 : Sta Z h0 "com/example/proxyreach/proxyreach/RemoteCallException$Kind" "PROTOCOL" "Lcom/example/proxyreach/proxyreach/RemoteCallException$Kind;" (.ref k1)) (E1_ : Exa Z h0 k1 "com/example/proxyreach/proxyreach/RemoteCallException$Kind") (F1_ : Fld Z h0 k1 "com/example/proxyreach/proxyreach/RemoteCallException$Kind" "provesNotRun" "Z" (.int (0 : Int32))) (S2 : Sta Z h0 "com/example/proxyreach/proxyreach/RemoteCallException$Kind" "OUTCOME_UNKNOWN" "Lcom/example/proxyreach/proxyreach/RemoteCallException$Kind;" (.ref k2)) (E2_ : Exa Z h0 k2 "com/example/proxyreach/proxyreach/RemoteCallException$Kind") (F2_ : Fld Z h0 k2 "com/example/proxyreach/proxyreach/RemoteCallException$Kind" "provesNotRun" "Z" (.int (0 : Int32))) (S3 : Sta Z h0 "com/example/proxyreach/proxyreach/RemoteCallException$Kind" "NOT_SENT" "Lcom/example/proxyreach/proxyreach/RemoteCallException$Kind;" (.ref k3)) (E3_ : Exa Z h0 k3 "com/example/proxyreach/proxyreach/RemoteCallException$Kind") (F3_ : Fld Z h0 k3 "com/example/proxyreach/proxyreach/RemoteCallException$Kind" "provesNotRun" "Z" (.int (1 : Int32))) (S4 : Sta Z h0 "com/example/proxyreach/proxyreach/RemoteCallException$Kind" "BUSY" "Lcom/example/proxyreach/proxyreach/RemoteCallException$Kind;" (.ref k4)) (E4_ : Exa Z h0 k4 "com/example/proxyreach/proxyreach/RemoteCallException$Kind") (F4_ : Fld Z h0 k4 "com/example/proxyreach/proxyreach/RemoteCallException$Kind" "provesNotRun" "Z" (.int (1 : Int32))) :
    MetFree l x (head1 (Jvm.Cond.code x code maxLocals ret :: ws) room_1) (fun a U => a = #[(.int p1), (.int p2)] ∧ Z.Warmed39 U.vm ∧ U.heap = h0) (fun _ _ _ _ _ => True) (fun _ U o U' => ∃ v L, o = .returned v ∧ Q_0 Z p1 p2 k0 k1 k2 k3 k4 h0 n0 v U'.heap L ∧ FrameEnd U o U' L room_1.cells room_1.slots) := by
  refine MetFree.of_bodySF (plainFor_of_name own_pn1) hisR ?_
  intro p e s m args below meth c s₁ Bd hml0 hP hK
  obtain ⟨rfl, hZ, hh⟩ := hP
  have hx := Bd.exec
  have hby := Bd.bytes
  have hml : c.maxLocals = 7 := hml0
  have hown : s.vm.findClass "com/example/proxyreach/proxyreach/KindAllowsRetryPinLaw" = some m.cls := findClass_of_methodNamed Bd.named
  have hnm := (name_of_methodNamed Bd.named Bd.method).1
  have X0 : Stand p l e room_1 s m #[(.int p1), (.int p2)] below meth c s₁ [] 0 0 := Stand.of_body Bd
  have e0 : s₁.heap = h0 := by rw [← hh, Bd.state]; rfl
  have N0 := Fr.nil n0
  show own_G p e below (K_0 Z p1 p2 k0 k1 k2 k3 k4 h0 n0 s) (s₁.setTop (entryFrame m #[(.int p1), (.int p2)] maxLocals))
  refine own_cast (ef0 m p1 p2) ?_
  show own_G p e below (K_0 Z p1 p2 k0 k1 k2 k3 k4 h0 n0 s) (s₁.setTop (mkF m 0 #[.val (.int p1), .val (.int p2), .unset, .unset, .unset, .unset, .unset] []))
  refine own_go (fun t k => XS.iloadN X0.here hx rfl (hb hby at_0) rfl k) ?_
  show own_G p e below (K_0 Z p1 p2 k0 k1 k2 k3 k4 h0 n0 s) (s₁.setTop (mkF m 1 #[.val (.int p1), .val (.int p2), .unset, .unset, .unset, .unset, .unset] [(.int p1)]))
  refine own_go (X0.ldcInt hx hown (mvT hZ (hw _ (List.mem_of_getElem? (i := 0) rfl))) (g := (mkF m 1 #[.val (.int p1), .val (.int p2), .unset, .unset, .unset, .unset, .unset] [(.int p1)])) rfl (hb hby at_1)) ?_
  show own_G p e below (K_0 Z p1 p2 k0 k1 k2 k3 k4 h0 n0 s) (s₁.setTop (mkF m 3 #[.val (.int p1), .val (.int p2), .unset, .unset, .unset, .unset, .unset] [(.int (2147483647 : Int32)), (.int p1)]))
  refine own_go (fun t k => XS.iand X0.here hx rfl (hb hby at_3) rfl k) ?_
  show own_G p e below (K_0 Z p1 p2 k0 k1 k2 k3 k4 h0 n0 s) (s₁.setTop (mkF m 4 #[.val (.int p1), .val (.int p2), .unset, .unset, .unset, .unset, .unset] [(.int (p1 &&& (2147483647 : Int32)))]))
  refine own_go (fun t k => XS.iconst X0.here hx rfl (hb hby at_4) k) ?_
  show own_G p e below (K_0 Z p1 p2 k0 k1 k2 k3 k4 h0 n0 s) (s₁.setTop (mkF m 5 #[.val (.int p1), .val (.int p2), .unset, .unset, .unset, .unset, .unset] [(.int (5 : Int32)), (.int (p1 &&& (2147483647 : Int32)))]))
  refine own_go (fun t k => iremM X0 hx rfl (hb hby at_5) rfl (by decide) k) ?_
  show own_G p e below (K_0 Z p1 p2 k0 k1 k2 k3 k4 h0 n0 s) (s₁.setTop (mkF m 6 #[.val (.int p1), .val (.int p2), .unset, .unset, .unset, .unset, .unset] [(.int ((p1 &&& (2147483647 : Int32)) % (5 : Int32)))]))
  refine own_go (fun t k => XS.istoreN X0.here hx rfl (hb hby at_6) rfl (l' := #[.val (.int p1), .val (.int p2), .val (.int ((p1 &&& (2147483647 : Int32)) % (5 : Int32))), .unset, .unset, .unset, .unset]) rfl k) ?_
  show own_G p e below (K_0 Z p1 p2 k0 k1 k2 k3 k4 h0 n0 s) (s₁.setTop (mkF m 7 #[.val (.int p1), .val (.int p2), .val (.int ((p1 &&& (2147483647 : Int32)) % (5 : Int32))), .unset, .unset, .unset, .unset] []))
  refine own_go (fun t k => XS.iloadN X0.here hx rfl (hb hby at_7) rfl k) ?_
  show own_G p e below (K_0 Z p1 p2 k0 k1 k2 k3 k4 h0 n0 s) (s₁.setTop (mkF m 8 #[.val (.int p1), .val (.int p2), .val (.int ((p1 &&& (2147483647 : Int32)) % (5 : Int32))), .unset, .unset, .unset, .unset] [(.int p2)]))
  refine own_go (fun t k => XS.iconst X0.here hx rfl (hb hby at_8) k) ?_
  show own_G p e below (K_0 Z p1 p2 k0 k1 k2 k3 k4 h0 n0 s) (s₁.setTop (mkF m 9 #[.val (.int p1), .val (.int p2), .val (.int ((p1 &&& (2147483647 : Int32)) % (5 : Int32))), .unset, .unset, .unset, .unset] [(.int (1 : Int32)), (.int p2)]))
  refine own_go (fun t k => XS.iand X0.here hx rfl (hb hby at_9) rfl k) ?_
  show own_G p e below (K_0 Z p1 p2 k0 k1 k2 k3 k4 h0 n0 s) (s₁.setTop (mkF m 10 #[.val (.int p1), .val (.int p2), .val (.int ((p1 &&& (2147483647 : Int32)) % (5 : Int32))), .unset, .unset, .unset, .unset] [(.int (p2 &&& (1 : Int32)))]))
  obtain ⟨z1, hz1⟩ : ∃ z : Int32, z = (if (p2 &&& (1 : Int32)) = (0 : Int32) then (0 : Int32) else (1 : Int32)) := ⟨_, rfl⟩
  suffices Jz1 : own_G p e below (K_0 Z p1 p2 k0 k1 k2 k3 k4 h0 n0 s) (s₁.setTop (mkF m 18 #[.val (.int p1), .val (.int p2), .val (.int ((p1 &&& (2147483647 : Int32)) % (5 : Int32))), .unset, .unset, .unset, .unset] [(.int z1)])) by
    by_cases hc10_2 : (p2 &&& (1 : Int32)) = (0 : Int32)
    · skip
      rw [if_pos hc10_2] at hz1
      refine own_go (fun t k => XS.ifYes X0.here hx rfl (pc0 := 10) (pc' := 17) rfl (hb hby at_10) rfl ((if0 _ _).trans (teq hc10_2).1) (by decide) (by decide) k) ?_
      show own_G p e below (K_0 Z p1 p2 k0 k1 k2 k3 k4 h0 n0 s) (s₁.setTop (mkF m 17 #[.val (.int p1), .val (.int p2), .val (.int ((p1 &&& (2147483647 : Int32)) % (5 : Int32))), .unset, .unset, .unset, .unset] []))
      refine own_go (fun t k => XS.iconst X0.here hx rfl (hb hby at_17) k) ?_
      show own_G p e below (K_0 Z p1 p2 k0 k1 k2 k3 k4 h0 n0 s) (s₁.setTop (mkF m 18 #[.val (.int p1), .val (.int p2), .val (.int ((p1 &&& (2147483647 : Int32)) % (5 : Int32))), .unset, .unset, .unset, .unset] [(.int (0 : Int32))]))
      subst hz1; exact Jz1
    · skip
      rw [if_neg hc10_2] at hz1
      refine own_go (fun t k => XS.ifNo X0.here hx rfl (hb hby at_10) rfl ((if0 _ _).trans (feq hc10_2).1) k) ?_
      show own_G p e below (K_0 Z p1 p2 k0 k1 k2 k3 k4 h0 n0 s) (s₁.setTop (mkF m 13 #[.val (.int p1), .val (.int p2), .val (.int ((p1 &&& (2147483647 : Int32)) % (5 : Int32))), .unset, .unset, .unset, .unset] []))
      refine own_go (fun t k => XS.iconst X0.here hx rfl (hb hby at_13) k) ?_
      show own_G p e below (K_0 Z p1 p2 k0 k1 k2 k3 k4 h0 n0 s) (s₁.setTop (mkF m 14 #[.val (.int p1), .val (.int p2), .val (.int ((p1 &&& (2147483647 : Int32)) % (5 : Int32))), .unset, .unset, .unset, .unset] [(.int (1 : Int32))]))
      refine own_go (fun t k => XS.goto X0.here hx rfl (pc0 := 14) (pc' := 18) rfl (hb hby at_14) (by decide) (by decide) k) ?_
      show own_G p e below (K_0 Z p1 p2 k0 k1 k2 k3 k4 h0 n0 s) (s₁.setTop (mkF m 18 #[.val (.int p1), .val (.int p2), .val (.int ((p1 &&& (2147483647 : Int32)) % (5 : Int32))), .unset, .unset, .unset, .unset] [(.int (1 : Int32))]))
      subst hz1; exact Jz1
  show own_G p e below (K_0 Z p1 p2 k0 k1 k2 k3 k4 h0 n0 s) (s₁.setTop (mkF m 18 #[.val (.int p1), .val (.int p2), .val (.int ((p1 &&& (2147483647 : Int32)) % (5 : Int32))), .unset, .unset, .unset, .unset] [(.int z1)]))
  refine own_go (fun t k => XS.istoreN X0.here hx rfl (hb hby at_18) rfl (l' := #[.val (.int p1), .val (.int p2), .val (.int ((p1 &&& (2147483647 : Int32)) % (5 : Int32))), .val (.int z1), .unset, .unset, .unset]) rfl k) ?_
  show own_G p e below (K_0 Z p1 p2 k0 k1 k2 k3 k4 h0 n0 s) (s₁.setTop (mkF m 19 #[.val (.int p1), .val (.int p2), .val (.int ((p1 &&& (2147483647 : Int32)) % (5 : Int32))), .val (.int z1), .unset, .unset, .unset] []))
  refine own_go (fun t k => XS.iloadN X0.here hx rfl (hb hby at_19) rfl k) ?_
  show own_G p e below (K_0 Z p1 p2 k0 k1 k2 k3 k4 h0 n0 s) (s₁.setTop (mkF m 20 #[.val (.int p1), .val (.int p2), .val (.int ((p1 &&& (2147483647 : Int32)) % (5 : Int32))), .val (.int z1), .unset, .unset, .unset] [(.int ((p1 &&& (2147483647 : Int32)) % (5 : Int32)))]))
  by_cases hc20_3 : ((p1 &&& (2147483647 : Int32)) % (5 : Int32)) = (0 : Int32)
  · skip
    refine own_go (fun t k => XS.ifNo X0.here hx rfl (hb hby at_20) rfl ((if0 _ _).trans (teq hc20_3).2) k) ?_
    show own_G p e below (K_0 Z p1 p2 k0 k1 k2 k3 k4 h0 n0 s) (s₁.setTop (mkF m 23 #[.val (.int p1), .val (.int p2), .val (.int ((p1 &&& (2147483647 : Int32)) % (5 : Int32))), .val (.int z1), .unset, .unset, .unset] []))
    obtain ⟨T4, X4, e4, st4⟩ := getS2 X0 hx hZ hown (host := "") (Or.inl (hw _ (List.mem_of_getElem? (i := 1) rfl))) Via.refl e0 S0 (g := (mkF m 23 #[.val (.int p1), .val (.int p2), .val (.int ((p1 &&& (2147483647 : Int32)) % (5 : Int32))), .val (.int z1), .unset, .unset, .unset] [])) rfl (hb hby at_23)
    refine own_go st4 ?_
    show own_G p e below (K_0 Z p1 p2 k0 k1 k2 k3 k4 h0 n0 s) (T4.setTop (mkF m 26 #[.val (.int p1), .val (.int p2), .val (.int ((p1 &&& (2147483647 : Int32)) % (5 : Int32))), .val (.int z1), .unset, .unset, .unset] [(.ref k0)]))
    refine own_go (fun t k => XS.astore X4.here hx rfl (hb hby at_26) rfl rfl (l' := #[.val (.int p1), .val (.int p2), .val (.int ((p1 &&& (2147483647 : Int32)) % (5 : Int32))), .val (.int z1), .val (.ref k0), .unset, .unset]) rfl k) ?_
    show own_G p e below (K_0 Z p1 p2 k0 k1 k2 k3 k4 h0 n0 s) (T4.setTop (mkF m 28 #[.val (.int p1), .val (.int p2), .val (.int ((p1 &&& (2147483647 : Int32)) % (5 : Int32))), .val (.int z1), .val (.ref k0), .unset, .unset] []))
    refine own_go (fun t k => XS.iconst X4.here hx rfl (hb hby at_28) k) ?_
    show own_G p e below (K_0 Z p1 p2 k0 k1 k2 k3 k4 h0 n0 s) (T4.setTop (mkF m 29 #[.val (.int p1), .val (.int p2), .val (.int ((p1 &&& (2147483647 : Int32)) % (5 : Int32))), .val (.int z1), .val (.ref k0), .unset, .unset] [(.int (1 : Int32))]))
    refine own_go (fun t k => XS.istore X4.here hx rfl (hb hby at_29) rfl (l' := #[.val (.int p1), .val (.int p2), .val (.int ((p1 &&& (2147483647 : Int32)) % (5 : Int32))), .val (.int z1), .val (.ref k0), .val (.int (1 : Int32)), .unset]) rfl k) ?_
    show own_G p e below (K_0 Z p1 p2 k0 k1 k2 k3 k4 h0 n0 s) (T4.setTop (mkF m 31 #[.val (.int p1), .val (.int p2), .val (.int ((p1 &&& (2147483647 : Int32)) % (5 : Int32))), .val (.int z1), .val (.ref k0), .val (.int (1 : Int32)), .unset] []))
    refine own_go (fun t k => XS.goto X4.here hx rfl (pc0 := 31) (pc' := 90) rfl (hb hby at_31) (by decide) (by decide) k) ?_
    show own_G p e below (K_0 Z p1 p2 k0 k1 k2 k3 k4 h0 n0 s) (T4.setTop (mkF m 90 #[.val (.int p1), .val (.int p2), .val (.int ((p1 &&& (2147483647 : Int32)) % (5 : Int32))), .val (.int z1), .val (.ref k0), .val (.int (1 : Int32)), .unset] []))
    refine own_go (fun t k => XS.iload X4.here hx rfl (hb hby at_90) rfl k) ?_
    show own_G p e below (K_0 Z p1 p2 k0 k1 k2 k3 k4 h0 n0 s) (T4.setTop (mkF m 92 #[.val (.int p1), .val (.int p2), .val (.int ((p1 &&& (2147483647 : Int32)) % (5 : Int32))), .val (.int z1), .val (.ref k0), .val (.int (1 : Int32)), .unset] [(.int (1 : Int32))]))
    refine own_go (fun t k => XS.ifNo X4.here hx rfl (hb hby at_92) rfl ((if0 _ _).trans (by decide)) k) ?_
    show own_G p e below (K_0 Z p1 p2 k0 k1 k2 k3 k4 h0 n0 s) (T4.setTop (mkF m 95 #[.val (.int p1), .val (.int p2), .val (.int ((p1 &&& (2147483647 : Int32)) % (5 : Int32))), .val (.int z1), .val (.ref k0), .val (.int (1 : Int32)), .unset] []))
    refine own_go (fun t k => XS.iconst X4.here hx rfl (hb hby at_95) k) ?_
    show own_G p e below (K_0 Z p1 p2 k0 k1 k2 k3 k4 h0 n0 s) (T4.setTop (mkF m 96 #[.val (.int p1), .val (.int p2), .val (.int ((p1 &&& (2147483647 : Int32)) % (5 : Int32))), .val (.int z1), .val (.ref k0), .val (.int (1 : Int32)), .unset] [(.int (1 : Int32))]))
    refine own_go (fun t k => XS.istore X4.here hx rfl (hb hby at_96) rfl (l' := #[.val (.int p1), .val (.int p2), .val (.int ((p1 &&& (2147483647 : Int32)) % (5 : Int32))), .val (.int z1), .val (.ref k0), .val (.int (1 : Int32)), .val (.int (1 : Int32))]) rfl k) ?_
    show own_G p e below (K_0 Z p1 p2 k0 k1 k2 k3 k4 h0 n0 s) (T4.setTop (mkF m 98 #[.val (.int p1), .val (.int p2), .val (.int ((p1 &&& (2147483647 : Int32)) % (5 : Int32))), .val (.int z1), .val (.ref k0), .val (.int (1 : Int32)), .val (.int (1 : Int32))] []))
    refine own_go (fun t k => XS.goto X4.here hx rfl (pc0 := 98) (pc' := 104) rfl (hb hby at_98) (by decide) (by decide) k) ?_
    show own_G p e below (K_0 Z p1 p2 k0 k1 k2 k3 k4 h0 n0 s) (T4.setTop (mkF m 104 #[.val (.int p1), .val (.int p2), .val (.int ((p1 &&& (2147483647 : Int32)) % (5 : Int32))), .val (.int z1), .val (.ref k0), .val (.int (1 : Int32)), .val (.int (1 : Int32))] []))
    refine own_go (fun t k => XS.aload X4.here hx rfl (hb hby at_104) rfl rfl k) ?_
    show own_G p e below (K_0 Z p1 p2 k0 k1 k2 k3 k4 h0 n0 s) (T4.setTop (mkF m 106 #[.val (.int p1), .val (.int p2), .val (.int ((p1 &&& (2147483647 : Int32)) % (5 : Int32))), .val (.int z1), .val (.ref k0), .val (.int (1 : Int32)), .val (.int (1 : Int32))] [(.ref k0)]))
    refine own_go (fun t k => XS.iloadN X4.here hx rfl (hb hby at_106) rfl k) ?_
    show own_G p e below (K_0 Z p1 p2 k0 k1 k2 k3 k4 h0 n0 s) (T4.setTop (mkF m 107 #[.val (.int p1), .val (.int p2), .val (.int ((p1 &&& (2147483647 : Int32)) % (5 : Int32))), .val (.int z1), .val (.ref k0), .val (.int (1 : Int32)), .val (.int (1 : Int32))] [(.int z1), (.ref k0)]))
    obtain ⟨cq5, kq5, q5a, q5b, q5c⟩ := isOf hZ e4 E0_
    obtain ⟨_, _, ⟨T5, L5, k5, n5⟩, -, X5, ⟨Lc5, hQ5, l5, y5, z5⟩, st5⟩ := X4.virtualBack hx (y := (⟨"com/example/proxyreach/proxyreach/RemoteCallException$Kind", "allowsRetry", "(Z)Z"⟩ : MethodName)) (z := (⟨"com/example/proxyreach/proxyreach/RemoteCallException$Kind", "allowsRetry", "(Z)Z"⟩ : MethodName)) hown (mvT hZ (hw _ (List.mem_of_getElem? (i := 4) rfl))) (mvT hZ (hw _ (List.mem_of_getElem? (i := 5) rfl))) (notFace_of_selects (args := #[]) (mvT hZ (hw _ (List.mem_of_getElem? (i := 7) rfl)))) (mvT hZ (hw _ (List.mem_of_getElem? (i := 7) rfl))) (mvT hZ (hw _ (List.mem_of_getElem? (i := 6) rfl))) (by decide) (backOf (W := 0) (rm_ar l Z a0 hw [] k0 z1 (1 : Int32) h0 n0 Z0 F0_) hZ (hw _ (List.mem_of_getElem? (i := 8) rfl)) (hw _ (List.mem_of_getElem? (i := 2) rfl)) (by decide) (by decide)) q5a q5c (g := (mkF m 107 #[.val (.int p1), .val (.int p2), .val (.int ((p1 &&& (2147483647 : Int32)) % (5 : Int32))), .val (.int z1), .val (.ref k0), .val (.int (1 : Int32)), .val (.int (1 : Int32))] [(.int z1), (.ref k0)])) rfl (by rw [hml]; rfl) (Steps.refl _) (argsL := [(.int z1)]) (rest := []) (lenOf own_pd0 rfl) rfl (by show 2 * 0 + _ ≤ _; exact Nat.le_of_eq rfl) (hb hby at_107) (fun _ _ => ⟨rfl, e4, (by decide : 0 + 0 ≤ _), (by decide : 0 + 0 ≤ _)⟩)
    dsimp only [Pt.U, Pt.locs, Pt.cells, Pt.slots] at X5 l5 y5 z5 st5 hQ5
    subst l5 y5 z5
    obtain ⟨rfl, N5q, e5⟩ := hQ5
    have N5 := Fr.app N0 N5q
    refine own_tr st5 ?_
    show own_G p e below (K_0 Z p1 p2 k0 k1 k2 k3 k4 h0 n0 s) (T5.setTop (mkF m 110 #[.val (.int p1), .val (.int p2), .val (.int ((p1 &&& (2147483647 : Int32)) % (5 : Int32))), .val (.int z1), .val (.ref k0), .val (.int (1 : Int32)), .val (.int (1 : Int32))] [(.int (own_ar (1 : Int32) z1))]))
    refine own_go (fun t k => XS.iload X5.here hx rfl (hb hby at_110) rfl k) ?_
    show own_G p e below (K_0 Z p1 p2 k0 k1 k2 k3 k4 h0 n0 s) (T5.setTop (mkF m 112 #[.val (.int p1), .val (.int p2), .val (.int ((p1 &&& (2147483647 : Int32)) % (5 : Int32))), .val (.int z1), .val (.ref k0), .val (.int (1 : Int32)), .val (.int (1 : Int32))] [(.int (1 : Int32)), (.int (own_ar (1 : Int32) z1))]))
    refine own_go (fun t k => XS.icmpNo X5.here hx rfl (hb hby at_112) rfl (teq (own_ar1 _)).2 k) ?_
    show own_G p e below (K_0 Z p1 p2 k0 k1 k2 k3 k4 h0 n0 s) (T5.setTop (mkF m 115 #[.val (.int p1), .val (.int p2), .val (.int ((p1 &&& (2147483647 : Int32)) % (5 : Int32))), .val (.int z1), .val (.ref k0), .val (.int (1 : Int32)), .val (.int (1 : Int32))] []))
    refine own_go (fun t k => XS.iconst X5.here hx rfl (hb hby at_115) k) ?_
    show own_G p e below (K_0 Z p1 p2 k0 k1 k2 k3 k4 h0 n0 s) (T5.setTop (mkF m 116 #[.val (.int p1), .val (.int p2), .val (.int ((p1 &&& (2147483647 : Int32)) % (5 : Int32))), .val (.int z1), .val (.ref k0), .val (.int (1 : Int32)), .val (.int (1 : Int32))] [(.int (1 : Int32))]))
    refine own_go (fun t k => XS.goto X5.here hx rfl (pc0 := 116) (pc' := 120) rfl (hb hby at_116) (by decide) (by decide) k) ?_
    show own_G p e below (K_0 Z p1 p2 k0 k1 k2 k3 k4 h0 n0 s) (T5.setTop (mkF m 120 #[.val (.int p1), .val (.int p2), .val (.int ((p1 &&& (2147483647 : Int32)) % (5 : Int32))), .val (.int z1), .val (.ref k0), .val (.int (1 : Int32)), .val (.int (1 : Int32))] [(.int (1 : Int32))]))
    exact own_retN X5 hx Bd.notSynchronized (t := .boolean) (z' := (1 : Int32)) Bd.returns (by simp) (hb hby at_120) rfl (fun U hU hV hF => ⟨_, _, rfl, ⟨rfl, N5⟩, hF.1, hF.2.1, hF.2.2.mono (by decide) (by decide)⟩)
  · skip
    refine own_go (fun t k => XS.ifYes X0.here hx rfl (pc0 := 20) (pc' := 34) rfl (hb hby at_20) rfl ((if0 _ _).trans (feq hc20_3).2) (by decide) (by decide) k) ?_
    show own_G p e below (K_0 Z p1 p2 k0 k1 k2 k3 k4 h0 n0 s) (s₁.setTop (mkF m 34 #[.val (.int p1), .val (.int p2), .val (.int ((p1 &&& (2147483647 : Int32)) % (5 : Int32))), .val (.int z1), .unset, .unset, .unset] []))
    refine own_go (fun t k => XS.iloadN X0.here hx rfl (hb hby at_34) rfl k) ?_
    show own_G p e below (K_0 Z p1 p2 k0 k1 k2 k3 k4 h0 n0 s) (s₁.setTop (mkF m 35 #[.val (.int p1), .val (.int p2), .val (.int ((p1 &&& (2147483647 : Int32)) % (5 : Int32))), .val (.int z1), .unset, .unset, .unset] [(.int ((p1 &&& (2147483647 : Int32)) % (5 : Int32)))]))
    refine own_go (fun t k => XS.iconst X0.here hx rfl (hb hby at_35) k) ?_
    show own_G p e below (K_0 Z p1 p2 k0 k1 k2 k3 k4 h0 n0 s) (s₁.setTop (mkF m 36 #[.val (.int p1), .val (.int p2), .val (.int ((p1 &&& (2147483647 : Int32)) % (5 : Int32))), .val (.int z1), .unset, .unset, .unset] [(.int (1 : Int32)), (.int ((p1 &&& (2147483647 : Int32)) % (5 : Int32)))]))
    by_cases hc36_6 : ((p1 &&& (2147483647 : Int32)) % (5 : Int32)) = (1 : Int32)
    · skip
      refine own_go (fun t k => XS.icmpNo X0.here hx rfl (hb hby at_36) rfl (teq hc36_6).2 k) ?_
      show own_G p e below (K_0 Z p1 p2 k0 k1 k2 k3 k4 h0 n0 s) (s₁.setTop (mkF m 39 #[.val (.int p1), .val (.int p2), .val (.int ((p1 &&& (2147483647 : Int32)) % (5 : Int32))), .val (.int z1), .unset, .unset, .unset] []))
      obtain ⟨T7, X7, e7, st7⟩ := getS2 X0 hx hZ hown (host := "") (Or.inl (hw _ (List.mem_of_getElem? (i := 15) rfl))) Via.refl e0 S3 (g := (mkF m 39 #[.val (.int p1), .val (.int p2), .val (.int ((p1 &&& (2147483647 : Int32)) % (5 : Int32))), .val (.int z1), .unset, .unset, .unset] [])) rfl (hb hby at_39)
      refine own_go st7 ?_
      show own_G p e below (K_0 Z p1 p2 k0 k1 k2 k3 k4 h0 n0 s) (T7.setTop (mkF m 42 #[.val (.int p1), .val (.int p2), .val (.int ((p1 &&& (2147483647 : Int32)) % (5 : Int32))), .val (.int z1), .unset, .unset, .unset] [(.ref k3)]))
      refine own_go (fun t k => XS.astore X7.here hx rfl (hb hby at_42) rfl rfl (l' := #[.val (.int p1), .val (.int p2), .val (.int ((p1 &&& (2147483647 : Int32)) % (5 : Int32))), .val (.int z1), .val (.ref k3), .unset, .unset]) rfl k) ?_
      show own_G p e below (K_0 Z p1 p2 k0 k1 k2 k3 k4 h0 n0 s) (T7.setTop (mkF m 44 #[.val (.int p1), .val (.int p2), .val (.int ((p1 &&& (2147483647 : Int32)) % (5 : Int32))), .val (.int z1), .val (.ref k3), .unset, .unset] []))
      refine own_go (fun t k => XS.iconst X7.here hx rfl (hb hby at_44) k) ?_
      show own_G p e below (K_0 Z p1 p2 k0 k1 k2 k3 k4 h0 n0 s) (T7.setTop (mkF m 45 #[.val (.int p1), .val (.int p2), .val (.int ((p1 &&& (2147483647 : Int32)) % (5 : Int32))), .val (.int z1), .val (.ref k3), .unset, .unset] [(.int (1 : Int32))]))
      refine own_go (fun t k => XS.istore X7.here hx rfl (hb hby at_45) rfl (l' := #[.val (.int p1), .val (.int p2), .val (.int ((p1 &&& (2147483647 : Int32)) % (5 : Int32))), .val (.int z1), .val (.ref k3), .val (.int (1 : Int32)), .unset]) rfl k) ?_
      show own_G p e below (K_0 Z p1 p2 k0 k1 k2 k3 k4 h0 n0 s) (T7.setTop (mkF m 47 #[.val (.int p1), .val (.int p2), .val (.int ((p1 &&& (2147483647 : Int32)) % (5 : Int32))), .val (.int z1), .val (.ref k3), .val (.int (1 : Int32)), .unset] []))
      refine own_go (fun t k => XS.goto X7.here hx rfl (pc0 := 47) (pc' := 90) rfl (hb hby at_47) (by decide) (by decide) k) ?_
      show own_G p e below (K_0 Z p1 p2 k0 k1 k2 k3 k4 h0 n0 s) (T7.setTop (mkF m 90 #[.val (.int p1), .val (.int p2), .val (.int ((p1 &&& (2147483647 : Int32)) % (5 : Int32))), .val (.int z1), .val (.ref k3), .val (.int (1 : Int32)), .unset] []))
      refine own_go (fun t k => XS.iload X7.here hx rfl (hb hby at_90) rfl k) ?_
      show own_G p e below (K_0 Z p1 p2 k0 k1 k2 k3 k4 h0 n0 s) (T7.setTop (mkF m 92 #[.val (.int p1), .val (.int p2), .val (.int ((p1 &&& (2147483647 : Int32)) % (5 : Int32))), .val (.int z1), .val (.ref k3), .val (.int (1 : Int32)), .unset] [(.int (1 : Int32))]))
      refine own_go (fun t k => XS.ifNo X7.here hx rfl (hb hby at_92) rfl ((if0 _ _).trans (by decide)) k) ?_
      show own_G p e below (K_0 Z p1 p2 k0 k1 k2 k3 k4 h0 n0 s) (T7.setTop (mkF m 95 #[.val (.int p1), .val (.int p2), .val (.int ((p1 &&& (2147483647 : Int32)) % (5 : Int32))), .val (.int z1), .val (.ref k3), .val (.int (1 : Int32)), .unset] []))
      refine own_go (fun t k => XS.iconst X7.here hx rfl (hb hby at_95) k) ?_
      show own_G p e below (K_0 Z p1 p2 k0 k1 k2 k3 k4 h0 n0 s) (T7.setTop (mkF m 96 #[.val (.int p1), .val (.int p2), .val (.int ((p1 &&& (2147483647 : Int32)) % (5 : Int32))), .val (.int z1), .val (.ref k3), .val (.int (1 : Int32)), .unset] [(.int (1 : Int32))]))
      refine own_go (fun t k => XS.istore X7.here hx rfl (hb hby at_96) rfl (l' := #[.val (.int p1), .val (.int p2), .val (.int ((p1 &&& (2147483647 : Int32)) % (5 : Int32))), .val (.int z1), .val (.ref k3), .val (.int (1 : Int32)), .val (.int (1 : Int32))]) rfl k) ?_
      show own_G p e below (K_0 Z p1 p2 k0 k1 k2 k3 k4 h0 n0 s) (T7.setTop (mkF m 98 #[.val (.int p1), .val (.int p2), .val (.int ((p1 &&& (2147483647 : Int32)) % (5 : Int32))), .val (.int z1), .val (.ref k3), .val (.int (1 : Int32)), .val (.int (1 : Int32))] []))
      refine own_go (fun t k => XS.goto X7.here hx rfl (pc0 := 98) (pc' := 104) rfl (hb hby at_98) (by decide) (by decide) k) ?_
      show own_G p e below (K_0 Z p1 p2 k0 k1 k2 k3 k4 h0 n0 s) (T7.setTop (mkF m 104 #[.val (.int p1), .val (.int p2), .val (.int ((p1 &&& (2147483647 : Int32)) % (5 : Int32))), .val (.int z1), .val (.ref k3), .val (.int (1 : Int32)), .val (.int (1 : Int32))] []))
      refine own_go (fun t k => XS.aload X7.here hx rfl (hb hby at_104) rfl rfl k) ?_
      show own_G p e below (K_0 Z p1 p2 k0 k1 k2 k3 k4 h0 n0 s) (T7.setTop (mkF m 106 #[.val (.int p1), .val (.int p2), .val (.int ((p1 &&& (2147483647 : Int32)) % (5 : Int32))), .val (.int z1), .val (.ref k3), .val (.int (1 : Int32)), .val (.int (1 : Int32))] [(.ref k3)]))
      refine own_go (fun t k => XS.iloadN X7.here hx rfl (hb hby at_106) rfl k) ?_
      show own_G p e below (K_0 Z p1 p2 k0 k1 k2 k3 k4 h0 n0 s) (T7.setTop (mkF m 107 #[.val (.int p1), .val (.int p2), .val (.int ((p1 &&& (2147483647 : Int32)) % (5 : Int32))), .val (.int z1), .val (.ref k3), .val (.int (1 : Int32)), .val (.int (1 : Int32))] [(.int z1), (.ref k3)]))
      obtain ⟨cq8, kq8, q8a, q8b, q8c⟩ := isOf hZ e7 E3_
      obtain ⟨_, _, ⟨T8, L8, k8, n8⟩, -, X8, ⟨Lc8, hQ8, l8, y8, z8⟩, st8⟩ := X7.virtualBack hx (y := (⟨"com/example/proxyreach/proxyreach/RemoteCallException$Kind", "allowsRetry", "(Z)Z"⟩ : MethodName)) (z := (⟨"com/example/proxyreach/proxyreach/RemoteCallException$Kind", "allowsRetry", "(Z)Z"⟩ : MethodName)) hown (mvT hZ (hw _ (List.mem_of_getElem? (i := 4) rfl))) (mvT hZ (hw _ (List.mem_of_getElem? (i := 5) rfl))) (notFace_of_selects (args := #[]) (mvT hZ (hw _ (List.mem_of_getElem? (i := 7) rfl)))) (mvT hZ (hw _ (List.mem_of_getElem? (i := 7) rfl))) (mvT hZ (hw _ (List.mem_of_getElem? (i := 6) rfl))) (by decide) (backOf (W := 0) (rm_ar l Z a0 hw [] k3 z1 (1 : Int32) h0 n0 Z0 F3_) hZ (hw _ (List.mem_of_getElem? (i := 8) rfl)) (hw _ (List.mem_of_getElem? (i := 2) rfl)) (by decide) (by decide)) q8a q8c (g := (mkF m 107 #[.val (.int p1), .val (.int p2), .val (.int ((p1 &&& (2147483647 : Int32)) % (5 : Int32))), .val (.int z1), .val (.ref k3), .val (.int (1 : Int32)), .val (.int (1 : Int32))] [(.int z1), (.ref k3)])) rfl (by rw [hml]; rfl) (Steps.refl _) (argsL := [(.int z1)]) (rest := []) (lenOf own_pd0 rfl) rfl (by show 2 * 0 + _ ≤ _; exact Nat.le_of_eq rfl) (hb hby at_107) (fun _ _ => ⟨rfl, e7, (by decide : 0 + 0 ≤ _), (by decide : 0 + 0 ≤ _)⟩)
      dsimp only [Pt.U, Pt.locs, Pt.cells, Pt.slots] at X8 l8 y8 z8 st8 hQ8
      subst l8 y8 z8
      obtain ⟨rfl, N8q, e8⟩ := hQ8
      have N8 := Fr.app N0 N8q
      refine own_tr st8 ?_
      show own_G p e below (K_0 Z p1 p2 k0 k1 k2 k3 k4 h0 n0 s) (T8.setTop (mkF m 110 #[.val (.int p1), .val (.int p2), .val (.int ((p1 &&& (2147483647 : Int32)) % (5 : Int32))), .val (.int z1), .val (.ref k3), .val (.int (1 : Int32)), .val (.int (1 : Int32))] [(.int (own_ar (1 : Int32) z1))]))
      refine own_go (fun t k => XS.iload X8.here hx rfl (hb hby at_110) rfl k) ?_
      show own_G p e below (K_0 Z p1 p2 k0 k1 k2 k3 k4 h0 n0 s) (T8.setTop (mkF m 112 #[.val (.int p1), .val (.int p2), .val (.int ((p1 &&& (2147483647 : Int32)) % (5 : Int32))), .val (.int z1), .val (.ref k3), .val (.int (1 : Int32)), .val (.int (1 : Int32))] [(.int (1 : Int32)), (.int (own_ar (1 : Int32) z1))]))
      refine own_go (fun t k => XS.icmpNo X8.here hx rfl (hb hby at_112) rfl (teq (own_ar1 _)).2 k) ?_
      show own_G p e below (K_0 Z p1 p2 k0 k1 k2 k3 k4 h0 n0 s) (T8.setTop (mkF m 115 #[.val (.int p1), .val (.int p2), .val (.int ((p1 &&& (2147483647 : Int32)) % (5 : Int32))), .val (.int z1), .val (.ref k3), .val (.int (1 : Int32)), .val (.int (1 : Int32))] []))
      refine own_go (fun t k => XS.iconst X8.here hx rfl (hb hby at_115) k) ?_
      show own_G p e below (K_0 Z p1 p2 k0 k1 k2 k3 k4 h0 n0 s) (T8.setTop (mkF m 116 #[.val (.int p1), .val (.int p2), .val (.int ((p1 &&& (2147483647 : Int32)) % (5 : Int32))), .val (.int z1), .val (.ref k3), .val (.int (1 : Int32)), .val (.int (1 : Int32))] [(.int (1 : Int32))]))
      refine own_go (fun t k => XS.goto X8.here hx rfl (pc0 := 116) (pc' := 120) rfl (hb hby at_116) (by decide) (by decide) k) ?_
      show own_G p e below (K_0 Z p1 p2 k0 k1 k2 k3 k4 h0 n0 s) (T8.setTop (mkF m 120 #[.val (.int p1), .val (.int p2), .val (.int ((p1 &&& (2147483647 : Int32)) % (5 : Int32))), .val (.int z1), .val (.ref k3), .val (.int (1 : Int32)), .val (.int (1 : Int32))] [(.int (1 : Int32))]))
      exact own_retN X8 hx Bd.notSynchronized (t := .boolean) (z' := (1 : Int32)) Bd.returns (by simp) (hb hby at_120) rfl (fun U hU hV hF => ⟨_, _, rfl, ⟨rfl, N8⟩, hF.1, hF.2.1, hF.2.2.mono (by decide) (by decide)⟩)
    · skip
      refine own_go (fun t k => XS.icmpYes X0.here hx rfl (pc0 := 36) (pc' := 50) rfl (hb hby at_36) rfl (feq hc36_6).2 (by decide) (by decide) k) ?_
      show own_G p e below (K_0 Z p1 p2 k0 k1 k2 k3 k4 h0 n0 s) (s₁.setTop (mkF m 50 #[.val (.int p1), .val (.int p2), .val (.int ((p1 &&& (2147483647 : Int32)) % (5 : Int32))), .val (.int z1), .unset, .unset, .unset] []))
      refine own_go (fun t k => XS.iloadN X0.here hx rfl (hb hby at_50) rfl k) ?_
      show own_G p e below (K_0 Z p1 p2 k0 k1 k2 k3 k4 h0 n0 s) (s₁.setTop (mkF m 51 #[.val (.int p1), .val (.int p2), .val (.int ((p1 &&& (2147483647 : Int32)) % (5 : Int32))), .val (.int z1), .unset, .unset, .unset] [(.int ((p1 &&& (2147483647 : Int32)) % (5 : Int32)))]))
      refine own_go (fun t k => XS.iconst X0.here hx rfl (hb hby at_51) k) ?_
      show own_G p e below (K_0 Z p1 p2 k0 k1 k2 k3 k4 h0 n0 s) (s₁.setTop (mkF m 52 #[.val (.int p1), .val (.int p2), .val (.int ((p1 &&& (2147483647 : Int32)) % (5 : Int32))), .val (.int z1), .unset, .unset, .unset] [(.int (2 : Int32)), (.int ((p1 &&& (2147483647 : Int32)) % (5 : Int32)))]))
      by_cases hc52_9 : ((p1 &&& (2147483647 : Int32)) % (5 : Int32)) = (2 : Int32)
      · skip
        refine own_go (fun t k => XS.icmpNo X0.here hx rfl (hb hby at_52) rfl (teq hc52_9).2 k) ?_
        show own_G p e below (K_0 Z p1 p2 k0 k1 k2 k3 k4 h0 n0 s) (s₁.setTop (mkF m 55 #[.val (.int p1), .val (.int p2), .val (.int ((p1 &&& (2147483647 : Int32)) % (5 : Int32))), .val (.int z1), .unset, .unset, .unset] []))
        obtain ⟨T10, X10, e10, st10⟩ := getS2 X0 hx hZ hown (host := "") (Or.inl (hw _ (List.mem_of_getElem? (i := 17) rfl))) Via.refl e0 S4 (g := (mkF m 55 #[.val (.int p1), .val (.int p2), .val (.int ((p1 &&& (2147483647 : Int32)) % (5 : Int32))), .val (.int z1), .unset, .unset, .unset] [])) rfl (hb hby at_55)
        refine own_go st10 ?_
        show own_G p e below (K_0 Z p1 p2 k0 k1 k2 k3 k4 h0 n0 s) (T10.setTop (mkF m 58 #[.val (.int p1), .val (.int p2), .val (.int ((p1 &&& (2147483647 : Int32)) % (5 : Int32))), .val (.int z1), .unset, .unset, .unset] [(.ref k4)]))
        refine own_go (fun t k => XS.astore X10.here hx rfl (hb hby at_58) rfl rfl (l' := #[.val (.int p1), .val (.int p2), .val (.int ((p1 &&& (2147483647 : Int32)) % (5 : Int32))), .val (.int z1), .val (.ref k4), .unset, .unset]) rfl k) ?_
        show own_G p e below (K_0 Z p1 p2 k0 k1 k2 k3 k4 h0 n0 s) (T10.setTop (mkF m 60 #[.val (.int p1), .val (.int p2), .val (.int ((p1 &&& (2147483647 : Int32)) % (5 : Int32))), .val (.int z1), .val (.ref k4), .unset, .unset] []))
        refine own_go (fun t k => XS.iconst X10.here hx rfl (hb hby at_60) k) ?_
        show own_G p e below (K_0 Z p1 p2 k0 k1 k2 k3 k4 h0 n0 s) (T10.setTop (mkF m 61 #[.val (.int p1), .val (.int p2), .val (.int ((p1 &&& (2147483647 : Int32)) % (5 : Int32))), .val (.int z1), .val (.ref k4), .unset, .unset] [(.int (1 : Int32))]))
        refine own_go (fun t k => XS.istore X10.here hx rfl (hb hby at_61) rfl (l' := #[.val (.int p1), .val (.int p2), .val (.int ((p1 &&& (2147483647 : Int32)) % (5 : Int32))), .val (.int z1), .val (.ref k4), .val (.int (1 : Int32)), .unset]) rfl k) ?_
        show own_G p e below (K_0 Z p1 p2 k0 k1 k2 k3 k4 h0 n0 s) (T10.setTop (mkF m 63 #[.val (.int p1), .val (.int p2), .val (.int ((p1 &&& (2147483647 : Int32)) % (5 : Int32))), .val (.int z1), .val (.ref k4), .val (.int (1 : Int32)), .unset] []))
        refine own_go (fun t k => XS.goto X10.here hx rfl (pc0 := 63) (pc' := 90) rfl (hb hby at_63) (by decide) (by decide) k) ?_
        show own_G p e below (K_0 Z p1 p2 k0 k1 k2 k3 k4 h0 n0 s) (T10.setTop (mkF m 90 #[.val (.int p1), .val (.int p2), .val (.int ((p1 &&& (2147483647 : Int32)) % (5 : Int32))), .val (.int z1), .val (.ref k4), .val (.int (1 : Int32)), .unset] []))
        refine own_go (fun t k => XS.iload X10.here hx rfl (hb hby at_90) rfl k) ?_
        show own_G p e below (K_0 Z p1 p2 k0 k1 k2 k3 k4 h0 n0 s) (T10.setTop (mkF m 92 #[.val (.int p1), .val (.int p2), .val (.int ((p1 &&& (2147483647 : Int32)) % (5 : Int32))), .val (.int z1), .val (.ref k4), .val (.int (1 : Int32)), .unset] [(.int (1 : Int32))]))
        refine own_go (fun t k => XS.ifNo X10.here hx rfl (hb hby at_92) rfl ((if0 _ _).trans (by decide)) k) ?_
        show own_G p e below (K_0 Z p1 p2 k0 k1 k2 k3 k4 h0 n0 s) (T10.setTop (mkF m 95 #[.val (.int p1), .val (.int p2), .val (.int ((p1 &&& (2147483647 : Int32)) % (5 : Int32))), .val (.int z1), .val (.ref k4), .val (.int (1 : Int32)), .unset] []))
        refine own_go (fun t k => XS.iconst X10.here hx rfl (hb hby at_95) k) ?_
        show own_G p e below (K_0 Z p1 p2 k0 k1 k2 k3 k4 h0 n0 s) (T10.setTop (mkF m 96 #[.val (.int p1), .val (.int p2), .val (.int ((p1 &&& (2147483647 : Int32)) % (5 : Int32))), .val (.int z1), .val (.ref k4), .val (.int (1 : Int32)), .unset] [(.int (1 : Int32))]))
        refine own_go (fun t k => XS.istore X10.here hx rfl (hb hby at_96) rfl (l' := #[.val (.int p1), .val (.int p2), .val (.int ((p1 &&& (2147483647 : Int32)) % (5 : Int32))), .val (.int z1), .val (.ref k4), .val (.int (1 : Int32)), .val (.int (1 : Int32))]) rfl k) ?_
        show own_G p e below (K_0 Z p1 p2 k0 k1 k2 k3 k4 h0 n0 s) (T10.setTop (mkF m 98 #[.val (.int p1), .val (.int p2), .val (.int ((p1 &&& (2147483647 : Int32)) % (5 : Int32))), .val (.int z1), .val (.ref k4), .val (.int (1 : Int32)), .val (.int (1 : Int32))] []))
        refine own_go (fun t k => XS.goto X10.here hx rfl (pc0 := 98) (pc' := 104) rfl (hb hby at_98) (by decide) (by decide) k) ?_
        show own_G p e below (K_0 Z p1 p2 k0 k1 k2 k3 k4 h0 n0 s) (T10.setTop (mkF m 104 #[.val (.int p1), .val (.int p2), .val (.int ((p1 &&& (2147483647 : Int32)) % (5 : Int32))), .val (.int z1), .val (.ref k4), .val (.int (1 : Int32)), .val (.int (1 : Int32))] []))
        refine own_go (fun t k => XS.aload X10.here hx rfl (hb hby at_104) rfl rfl k) ?_
        show own_G p e below (K_0 Z p1 p2 k0 k1 k2 k3 k4 h0 n0 s) (T10.setTop (mkF m 106 #[.val (.int p1), .val (.int p2), .val (.int ((p1 &&& (2147483647 : Int32)) % (5 : Int32))), .val (.int z1), .val (.ref k4), .val (.int (1 : Int32)), .val (.int (1 : Int32))] [(.ref k4)]))
        refine own_go (fun t k => XS.iloadN X10.here hx rfl (hb hby at_106) rfl k) ?_
        show own_G p e below (K_0 Z p1 p2 k0 k1 k2 k3 k4 h0 n0 s) (T10.setTop (mkF m 107 #[.val (.int p1), .val (.int p2), .val (.int ((p1 &&& (2147483647 : Int32)) % (5 : Int32))), .val (.int z1), .val (.ref k4), .val (.int (1 : Int32)), .val (.int (1 : Int32))] [(.int z1), (.ref k4)]))
        obtain ⟨cq11, kq11, q11a, q11b, q11c⟩ := isOf hZ e10 E4_
        obtain ⟨_, _, ⟨T11, L11, k11, n11⟩, -, X11, ⟨Lc11, hQ11, l11, y11, z11⟩, st11⟩ := X10.virtualBack hx (y := (⟨"com/example/proxyreach/proxyreach/RemoteCallException$Kind", "allowsRetry", "(Z)Z"⟩ : MethodName)) (z := (⟨"com/example/proxyreach/proxyreach/RemoteCallException$Kind", "allowsRetry", "(Z)Z"⟩ : MethodName)) hown (mvT hZ (hw _ (List.mem_of_getElem? (i := 4) rfl))) (mvT hZ (hw _ (List.mem_of_getElem? (i := 5) rfl))) (notFace_of_selects (args := #[]) (mvT hZ (hw _ (List.mem_of_getElem? (i := 7) rfl)))) (mvT hZ (hw _ (List.mem_of_getElem? (i := 7) rfl))) (mvT hZ (hw _ (List.mem_of_getElem? (i := 6) rfl))) (by decide) (backOf (W := 0) (rm_ar l Z a0 hw [] k4 z1 (1 : Int32) h0 n0 Z0 F4_) hZ (hw _ (List.mem_of_getElem? (i := 8) rfl)) (hw _ (List.mem_of_getElem? (i := 2) rfl)) (by decide) (by decide)) q11a q11c (g := (mkF m 107 #[.val (.int p1), .val (.int p2), .val (.int ((p1 &&& (2147483647 : Int32)) % (5 : Int32))), .val (.int z1), .val (.ref k4), .val (.int (1 : Int32)), .val (.int (1 : Int32))] [(.int z1), (.ref k4)])) rfl (by rw [hml]; rfl) (Steps.refl _) (argsL := [(.int z1)]) (rest := []) (lenOf own_pd0 rfl) rfl (by show 2 * 0 + _ ≤ _; exact Nat.le_of_eq rfl) (hb hby at_107) (fun _ _ => ⟨rfl, e10, (by decide : 0 + 0 ≤ _), (by decide : 0 + 0 ≤ _)⟩)
        dsimp only [Pt.U, Pt.locs, Pt.cells, Pt.slots] at X11 l11 y11 z11 st11 hQ11
        subst l11 y11 z11
        obtain ⟨rfl, N11q, e11⟩ := hQ11
        have N11 := Fr.app N0 N11q
        refine own_tr st11 ?_
        show own_G p e below (K_0 Z p1 p2 k0 k1 k2 k3 k4 h0 n0 s) (T11.setTop (mkF m 110 #[.val (.int p1), .val (.int p2), .val (.int ((p1 &&& (2147483647 : Int32)) % (5 : Int32))), .val (.int z1), .val (.ref k4), .val (.int (1 : Int32)), .val (.int (1 : Int32))] [(.int (own_ar (1 : Int32) z1))]))
        refine own_go (fun t k => XS.iload X11.here hx rfl (hb hby at_110) rfl k) ?_
        show own_G p e below (K_0 Z p1 p2 k0 k1 k2 k3 k4 h0 n0 s) (T11.setTop (mkF m 112 #[.val (.int p1), .val (.int p2), .val (.int ((p1 &&& (2147483647 : Int32)) % (5 : Int32))), .val (.int z1), .val (.ref k4), .val (.int (1 : Int32)), .val (.int (1 : Int32))] [(.int (1 : Int32)), (.int (own_ar (1 : Int32) z1))]))
        refine own_go (fun t k => XS.icmpNo X11.here hx rfl (hb hby at_112) rfl (teq (own_ar1 _)).2 k) ?_
        show own_G p e below (K_0 Z p1 p2 k0 k1 k2 k3 k4 h0 n0 s) (T11.setTop (mkF m 115 #[.val (.int p1), .val (.int p2), .val (.int ((p1 &&& (2147483647 : Int32)) % (5 : Int32))), .val (.int z1), .val (.ref k4), .val (.int (1 : Int32)), .val (.int (1 : Int32))] []))
        refine own_go (fun t k => XS.iconst X11.here hx rfl (hb hby at_115) k) ?_
        show own_G p e below (K_0 Z p1 p2 k0 k1 k2 k3 k4 h0 n0 s) (T11.setTop (mkF m 116 #[.val (.int p1), .val (.int p2), .val (.int ((p1 &&& (2147483647 : Int32)) % (5 : Int32))), .val (.int z1), .val (.ref k4), .val (.int (1 : Int32)), .val (.int (1 : Int32))] [(.int (1 : Int32))]))
        refine own_go (fun t k => XS.goto X11.here hx rfl (pc0 := 116) (pc' := 120) rfl (hb hby at_116) (by decide) (by decide) k) ?_
        show own_G p e below (K_0 Z p1 p2 k0 k1 k2 k3 k4 h0 n0 s) (T11.setTop (mkF m 120 #[.val (.int p1), .val (.int p2), .val (.int ((p1 &&& (2147483647 : Int32)) % (5 : Int32))), .val (.int z1), .val (.ref k4), .val (.int (1 : Int32)), .val (.int (1 : Int32))] [(.int (1 : Int32))]))
        exact own_retN X11 hx Bd.notSynchronized (t := .boolean) (z' := (1 : Int32)) Bd.returns (by simp) (hb hby at_120) rfl (fun U hU hV hF => ⟨_, _, rfl, ⟨rfl, N11⟩, hF.1, hF.2.1, hF.2.2.mono (by decide) (by decide)⟩)
      · skip
        refine own_go (fun t k => XS.icmpYes X0.here hx rfl (pc0 := 52) (pc' := 66) rfl (hb hby at_52) rfl (feq hc52_9).2 (by decide) (by decide) k) ?_
        show own_G p e below (K_0 Z p1 p2 k0 k1 k2 k3 k4 h0 n0 s) (s₁.setTop (mkF m 66 #[.val (.int p1), .val (.int p2), .val (.int ((p1 &&& (2147483647 : Int32)) % (5 : Int32))), .val (.int z1), .unset, .unset, .unset] []))
        refine own_go (fun t k => XS.iloadN X0.here hx rfl (hb hby at_66) rfl k) ?_
        show own_G p e below (K_0 Z p1 p2 k0 k1 k2 k3 k4 h0 n0 s) (s₁.setTop (mkF m 67 #[.val (.int p1), .val (.int p2), .val (.int ((p1 &&& (2147483647 : Int32)) % (5 : Int32))), .val (.int z1), .unset, .unset, .unset] [(.int ((p1 &&& (2147483647 : Int32)) % (5 : Int32)))]))
        refine own_go (fun t k => XS.iconst X0.here hx rfl (hb hby at_67) k) ?_
        show own_G p e below (K_0 Z p1 p2 k0 k1 k2 k3 k4 h0 n0 s) (s₁.setTop (mkF m 68 #[.val (.int p1), .val (.int p2), .val (.int ((p1 &&& (2147483647 : Int32)) % (5 : Int32))), .val (.int z1), .unset, .unset, .unset] [(.int (3 : Int32)), (.int ((p1 &&& (2147483647 : Int32)) % (5 : Int32)))]))
        by_cases hc68_12 : ((p1 &&& (2147483647 : Int32)) % (5 : Int32)) = (3 : Int32)
        · skip
          refine own_go (fun t k => XS.icmpNo X0.here hx rfl (hb hby at_68) rfl (teq hc68_12).2 k) ?_
          show own_G p e below (K_0 Z p1 p2 k0 k1 k2 k3 k4 h0 n0 s) (s₁.setTop (mkF m 71 #[.val (.int p1), .val (.int p2), .val (.int ((p1 &&& (2147483647 : Int32)) % (5 : Int32))), .val (.int z1), .unset, .unset, .unset] []))
          obtain ⟨T13, X13, e13, st13⟩ := getS2 X0 hx hZ hown (host := "") (Or.inl (hw _ (List.mem_of_getElem? (i := 13) rfl))) Via.refl e0 S2 (g := (mkF m 71 #[.val (.int p1), .val (.int p2), .val (.int ((p1 &&& (2147483647 : Int32)) % (5 : Int32))), .val (.int z1), .unset, .unset, .unset] [])) rfl (hb hby at_71)
          refine own_go st13 ?_
          show own_G p e below (K_0 Z p1 p2 k0 k1 k2 k3 k4 h0 n0 s) (T13.setTop (mkF m 74 #[.val (.int p1), .val (.int p2), .val (.int ((p1 &&& (2147483647 : Int32)) % (5 : Int32))), .val (.int z1), .unset, .unset, .unset] [(.ref k2)]))
          refine own_go (fun t k => XS.astore X13.here hx rfl (hb hby at_74) rfl rfl (l' := #[.val (.int p1), .val (.int p2), .val (.int ((p1 &&& (2147483647 : Int32)) % (5 : Int32))), .val (.int z1), .val (.ref k2), .unset, .unset]) rfl k) ?_
          show own_G p e below (K_0 Z p1 p2 k0 k1 k2 k3 k4 h0 n0 s) (T13.setTop (mkF m 76 #[.val (.int p1), .val (.int p2), .val (.int ((p1 &&& (2147483647 : Int32)) % (5 : Int32))), .val (.int z1), .val (.ref k2), .unset, .unset] []))
          refine own_go (fun t k => XS.iconst X13.here hx rfl (hb hby at_76) k) ?_
          show own_G p e below (K_0 Z p1 p2 k0 k1 k2 k3 k4 h0 n0 s) (T13.setTop (mkF m 77 #[.val (.int p1), .val (.int p2), .val (.int ((p1 &&& (2147483647 : Int32)) % (5 : Int32))), .val (.int z1), .val (.ref k2), .unset, .unset] [(.int (0 : Int32))]))
          refine own_go (fun t k => XS.istore X13.here hx rfl (hb hby at_77) rfl (l' := #[.val (.int p1), .val (.int p2), .val (.int ((p1 &&& (2147483647 : Int32)) % (5 : Int32))), .val (.int z1), .val (.ref k2), .val (.int (0 : Int32)), .unset]) rfl k) ?_
          show own_G p e below (K_0 Z p1 p2 k0 k1 k2 k3 k4 h0 n0 s) (T13.setTop (mkF m 79 #[.val (.int p1), .val (.int p2), .val (.int ((p1 &&& (2147483647 : Int32)) % (5 : Int32))), .val (.int z1), .val (.ref k2), .val (.int (0 : Int32)), .unset] []))
          refine own_go (fun t k => XS.goto X13.here hx rfl (pc0 := 79) (pc' := 90) rfl (hb hby at_79) (by decide) (by decide) k) ?_
          show own_G p e below (K_0 Z p1 p2 k0 k1 k2 k3 k4 h0 n0 s) (T13.setTop (mkF m 90 #[.val (.int p1), .val (.int p2), .val (.int ((p1 &&& (2147483647 : Int32)) % (5 : Int32))), .val (.int z1), .val (.ref k2), .val (.int (0 : Int32)), .unset] []))
          refine own_go (fun t k => XS.iload X13.here hx rfl (hb hby at_90) rfl k) ?_
          show own_G p e below (K_0 Z p1 p2 k0 k1 k2 k3 k4 h0 n0 s) (T13.setTop (mkF m 92 #[.val (.int p1), .val (.int p2), .val (.int ((p1 &&& (2147483647 : Int32)) % (5 : Int32))), .val (.int z1), .val (.ref k2), .val (.int (0 : Int32)), .unset] [(.int (0 : Int32))]))
          refine own_go (fun t k => XS.ifYes X13.here hx rfl (pc0 := 92) (pc' := 101) rfl (hb hby at_92) rfl ((if0 _ _).trans (by decide)) (by decide) (by decide) k) ?_
          show own_G p e below (K_0 Z p1 p2 k0 k1 k2 k3 k4 h0 n0 s) (T13.setTop (mkF m 101 #[.val (.int p1), .val (.int p2), .val (.int ((p1 &&& (2147483647 : Int32)) % (5 : Int32))), .val (.int z1), .val (.ref k2), .val (.int (0 : Int32)), .unset] []))
          refine own_go (fun t k => XS.iloadN X13.here hx rfl (hb hby at_101) rfl k) ?_
          show own_G p e below (K_0 Z p1 p2 k0 k1 k2 k3 k4 h0 n0 s) (T13.setTop (mkF m 102 #[.val (.int p1), .val (.int p2), .val (.int ((p1 &&& (2147483647 : Int32)) % (5 : Int32))), .val (.int z1), .val (.ref k2), .val (.int (0 : Int32)), .unset] [(.int z1)]))
          refine own_go (fun t k => XS.istore X13.here hx rfl (hb hby at_102) rfl (l' := #[.val (.int p1), .val (.int p2), .val (.int ((p1 &&& (2147483647 : Int32)) % (5 : Int32))), .val (.int z1), .val (.ref k2), .val (.int (0 : Int32)), .val (.int z1)]) rfl k) ?_
          show own_G p e below (K_0 Z p1 p2 k0 k1 k2 k3 k4 h0 n0 s) (T13.setTop (mkF m 104 #[.val (.int p1), .val (.int p2), .val (.int ((p1 &&& (2147483647 : Int32)) % (5 : Int32))), .val (.int z1), .val (.ref k2), .val (.int (0 : Int32)), .val (.int z1)] []))
          refine own_go (fun t k => XS.aload X13.here hx rfl (hb hby at_104) rfl rfl k) ?_
          show own_G p e below (K_0 Z p1 p2 k0 k1 k2 k3 k4 h0 n0 s) (T13.setTop (mkF m 106 #[.val (.int p1), .val (.int p2), .val (.int ((p1 &&& (2147483647 : Int32)) % (5 : Int32))), .val (.int z1), .val (.ref k2), .val (.int (0 : Int32)), .val (.int z1)] [(.ref k2)]))
          refine own_go (fun t k => XS.iloadN X13.here hx rfl (hb hby at_106) rfl k) ?_
          show own_G p e below (K_0 Z p1 p2 k0 k1 k2 k3 k4 h0 n0 s) (T13.setTop (mkF m 107 #[.val (.int p1), .val (.int p2), .val (.int ((p1 &&& (2147483647 : Int32)) % (5 : Int32))), .val (.int z1), .val (.ref k2), .val (.int (0 : Int32)), .val (.int z1)] [(.int z1), (.ref k2)]))
          obtain ⟨cq14, kq14, q14a, q14b, q14c⟩ := isOf hZ e13 E2_
          obtain ⟨_, _, ⟨T14, L14, k14, n14⟩, -, X14, ⟨Lc14, hQ14, l14, y14, z14⟩, st14⟩ := X13.virtualBack hx (y := (⟨"com/example/proxyreach/proxyreach/RemoteCallException$Kind", "allowsRetry", "(Z)Z"⟩ : MethodName)) (z := (⟨"com/example/proxyreach/proxyreach/RemoteCallException$Kind", "allowsRetry", "(Z)Z"⟩ : MethodName)) hown (mvT hZ (hw _ (List.mem_of_getElem? (i := 4) rfl))) (mvT hZ (hw _ (List.mem_of_getElem? (i := 5) rfl))) (notFace_of_selects (args := #[]) (mvT hZ (hw _ (List.mem_of_getElem? (i := 7) rfl)))) (mvT hZ (hw _ (List.mem_of_getElem? (i := 7) rfl))) (mvT hZ (hw _ (List.mem_of_getElem? (i := 6) rfl))) (by decide) (backOf (W := 0) (rm_ar l Z a0 hw [] k2 z1 (0 : Int32) h0 n0 Z0 F2_) hZ (hw _ (List.mem_of_getElem? (i := 8) rfl)) (hw _ (List.mem_of_getElem? (i := 2) rfl)) (by decide) (by decide)) q14a q14c (g := (mkF m 107 #[.val (.int p1), .val (.int p2), .val (.int ((p1 &&& (2147483647 : Int32)) % (5 : Int32))), .val (.int z1), .val (.ref k2), .val (.int (0 : Int32)), .val (.int z1)] [(.int z1), (.ref k2)])) rfl (by rw [hml]; rfl) (Steps.refl _) (argsL := [(.int z1)]) (rest := []) (lenOf own_pd0 rfl) rfl (by show 2 * 0 + _ ≤ _; exact Nat.le_of_eq rfl) (hb hby at_107) (fun _ _ => ⟨rfl, e13, (by decide : 0 + 0 ≤ _), (by decide : 0 + 0 ≤ _)⟩)
          dsimp only [Pt.U, Pt.locs, Pt.cells, Pt.slots] at X14 l14 y14 z14 st14 hQ14
          subst l14 y14 z14
          obtain ⟨rfl, N14q, e14⟩ := hQ14
          have N14 := Fr.app N0 N14q
          refine own_tr st14 ?_
          show own_G p e below (K_0 Z p1 p2 k0 k1 k2 k3 k4 h0 n0 s) (T14.setTop (mkF m 110 #[.val (.int p1), .val (.int p2), .val (.int ((p1 &&& (2147483647 : Int32)) % (5 : Int32))), .val (.int z1), .val (.ref k2), .val (.int (0 : Int32)), .val (.int z1)] [(.int (own_ar (0 : Int32) z1))]))
          refine own_go (fun t k => XS.iload X14.here hx rfl (hb hby at_110) rfl k) ?_
          show own_G p e below (K_0 Z p1 p2 k0 k1 k2 k3 k4 h0 n0 s) (T14.setTop (mkF m 112 #[.val (.int p1), .val (.int p2), .val (.int ((p1 &&& (2147483647 : Int32)) % (5 : Int32))), .val (.int z1), .val (.ref k2), .val (.int (0 : Int32)), .val (.int z1)] [(.int z1), (.int (own_ar (0 : Int32) z1))]))
          refine own_go (fun t k => XS.icmpNo X14.here hx rfl (hb hby at_112) rfl (teq (own_ar0 hz1)).2 k) ?_
          show own_G p e below (K_0 Z p1 p2 k0 k1 k2 k3 k4 h0 n0 s) (T14.setTop (mkF m 115 #[.val (.int p1), .val (.int p2), .val (.int ((p1 &&& (2147483647 : Int32)) % (5 : Int32))), .val (.int z1), .val (.ref k2), .val (.int (0 : Int32)), .val (.int z1)] []))
          refine own_go (fun t k => XS.iconst X14.here hx rfl (hb hby at_115) k) ?_
          show own_G p e below (K_0 Z p1 p2 k0 k1 k2 k3 k4 h0 n0 s) (T14.setTop (mkF m 116 #[.val (.int p1), .val (.int p2), .val (.int ((p1 &&& (2147483647 : Int32)) % (5 : Int32))), .val (.int z1), .val (.ref k2), .val (.int (0 : Int32)), .val (.int z1)] [(.int (1 : Int32))]))
          refine own_go (fun t k => XS.goto X14.here hx rfl (pc0 := 116) (pc' := 120) rfl (hb hby at_116) (by decide) (by decide) k) ?_
          show own_G p e below (K_0 Z p1 p2 k0 k1 k2 k3 k4 h0 n0 s) (T14.setTop (mkF m 120 #[.val (.int p1), .val (.int p2), .val (.int ((p1 &&& (2147483647 : Int32)) % (5 : Int32))), .val (.int z1), .val (.ref k2), .val (.int (0 : Int32)), .val (.int z1)] [(.int (1 : Int32))]))
          exact own_retN X14 hx Bd.notSynchronized (t := .boolean) (z' := (1 : Int32)) Bd.returns (by simp) (hb hby at_120) rfl (fun U hU hV hF => ⟨_, _, rfl, ⟨rfl, N14⟩, hF.1, hF.2.1, hF.2.2.mono (by decide) (by decide)⟩)
        · skip
          refine own_go (fun t k => XS.icmpYes X0.here hx rfl (pc0 := 68) (pc' := 82) rfl (hb hby at_68) rfl (feq hc68_12).2 (by decide) (by decide) k) ?_
          show own_G p e below (K_0 Z p1 p2 k0 k1 k2 k3 k4 h0 n0 s) (s₁.setTop (mkF m 82 #[.val (.int p1), .val (.int p2), .val (.int ((p1 &&& (2147483647 : Int32)) % (5 : Int32))), .val (.int z1), .unset, .unset, .unset] []))
          obtain ⟨T15, X15, e15, st15⟩ := getS2 X0 hx hZ hown (host := "") (Or.inl (hw _ (List.mem_of_getElem? (i := 11) rfl))) Via.refl e0 S1 (g := (mkF m 82 #[.val (.int p1), .val (.int p2), .val (.int ((p1 &&& (2147483647 : Int32)) % (5 : Int32))), .val (.int z1), .unset, .unset, .unset] [])) rfl (hb hby at_82)
          refine own_go st15 ?_
          show own_G p e below (K_0 Z p1 p2 k0 k1 k2 k3 k4 h0 n0 s) (T15.setTop (mkF m 85 #[.val (.int p1), .val (.int p2), .val (.int ((p1 &&& (2147483647 : Int32)) % (5 : Int32))), .val (.int z1), .unset, .unset, .unset] [(.ref k1)]))
          refine own_go (fun t k => XS.astore X15.here hx rfl (hb hby at_85) rfl rfl (l' := #[.val (.int p1), .val (.int p2), .val (.int ((p1 &&& (2147483647 : Int32)) % (5 : Int32))), .val (.int z1), .val (.ref k1), .unset, .unset]) rfl k) ?_
          show own_G p e below (K_0 Z p1 p2 k0 k1 k2 k3 k4 h0 n0 s) (T15.setTop (mkF m 87 #[.val (.int p1), .val (.int p2), .val (.int ((p1 &&& (2147483647 : Int32)) % (5 : Int32))), .val (.int z1), .val (.ref k1), .unset, .unset] []))
          refine own_go (fun t k => XS.iconst X15.here hx rfl (hb hby at_87) k) ?_
          show own_G p e below (K_0 Z p1 p2 k0 k1 k2 k3 k4 h0 n0 s) (T15.setTop (mkF m 88 #[.val (.int p1), .val (.int p2), .val (.int ((p1 &&& (2147483647 : Int32)) % (5 : Int32))), .val (.int z1), .val (.ref k1), .unset, .unset] [(.int (0 : Int32))]))
          refine own_go (fun t k => XS.istore X15.here hx rfl (hb hby at_88) rfl (l' := #[.val (.int p1), .val (.int p2), .val (.int ((p1 &&& (2147483647 : Int32)) % (5 : Int32))), .val (.int z1), .val (.ref k1), .val (.int (0 : Int32)), .unset]) rfl k) ?_
          show own_G p e below (K_0 Z p1 p2 k0 k1 k2 k3 k4 h0 n0 s) (T15.setTop (mkF m 90 #[.val (.int p1), .val (.int p2), .val (.int ((p1 &&& (2147483647 : Int32)) % (5 : Int32))), .val (.int z1), .val (.ref k1), .val (.int (0 : Int32)), .unset] []))
          refine own_go (fun t k => XS.iload X15.here hx rfl (hb hby at_90) rfl k) ?_
          show own_G p e below (K_0 Z p1 p2 k0 k1 k2 k3 k4 h0 n0 s) (T15.setTop (mkF m 92 #[.val (.int p1), .val (.int p2), .val (.int ((p1 &&& (2147483647 : Int32)) % (5 : Int32))), .val (.int z1), .val (.ref k1), .val (.int (0 : Int32)), .unset] [(.int (0 : Int32))]))
          refine own_go (fun t k => XS.ifYes X15.here hx rfl (pc0 := 92) (pc' := 101) rfl (hb hby at_92) rfl ((if0 _ _).trans (by decide)) (by decide) (by decide) k) ?_
          show own_G p e below (K_0 Z p1 p2 k0 k1 k2 k3 k4 h0 n0 s) (T15.setTop (mkF m 101 #[.val (.int p1), .val (.int p2), .val (.int ((p1 &&& (2147483647 : Int32)) % (5 : Int32))), .val (.int z1), .val (.ref k1), .val (.int (0 : Int32)), .unset] []))
          refine own_go (fun t k => XS.iloadN X15.here hx rfl (hb hby at_101) rfl k) ?_
          show own_G p e below (K_0 Z p1 p2 k0 k1 k2 k3 k4 h0 n0 s) (T15.setTop (mkF m 102 #[.val (.int p1), .val (.int p2), .val (.int ((p1 &&& (2147483647 : Int32)) % (5 : Int32))), .val (.int z1), .val (.ref k1), .val (.int (0 : Int32)), .unset] [(.int z1)]))
          refine own_go (fun t k => XS.istore X15.here hx rfl (hb hby at_102) rfl (l' := #[.val (.int p1), .val (.int p2), .val (.int ((p1 &&& (2147483647 : Int32)) % (5 : Int32))), .val (.int z1), .val (.ref k1), .val (.int (0 : Int32)), .val (.int z1)]) rfl k) ?_
          show own_G p e below (K_0 Z p1 p2 k0 k1 k2 k3 k4 h0 n0 s) (T15.setTop (mkF m 104 #[.val (.int p1), .val (.int p2), .val (.int ((p1 &&& (2147483647 : Int32)) % (5 : Int32))), .val (.int z1), .val (.ref k1), .val (.int (0 : Int32)), .val (.int z1)] []))
          refine own_go (fun t k => XS.aload X15.here hx rfl (hb hby at_104) rfl rfl k) ?_
          show own_G p e below (K_0 Z p1 p2 k0 k1 k2 k3 k4 h0 n0 s) (T15.setTop (mkF m 106 #[.val (.int p1), .val (.int p2), .val (.int ((p1 &&& (2147483647 : Int32)) % (5 : Int32))), .val (.int z1), .val (.ref k1), .val (.int (0 : Int32)), .val (.int z1)] [(.ref k1)]))
          refine own_go (fun t k => XS.iloadN X15.here hx rfl (hb hby at_106) rfl k) ?_
          show own_G p e below (K_0 Z p1 p2 k0 k1 k2 k3 k4 h0 n0 s) (T15.setTop (mkF m 107 #[.val (.int p1), .val (.int p2), .val (.int ((p1 &&& (2147483647 : Int32)) % (5 : Int32))), .val (.int z1), .val (.ref k1), .val (.int (0 : Int32)), .val (.int z1)] [(.int z1), (.ref k1)]))
          obtain ⟨cq16, kq16, q16a, q16b, q16c⟩ := isOf hZ e15 E1_
          obtain ⟨_, _, ⟨T16, L16, k16, n16⟩, -, X16, ⟨Lc16, hQ16, l16, y16, z16⟩, st16⟩ := X15.virtualBack hx (y := (⟨"com/example/proxyreach/proxyreach/RemoteCallException$Kind", "allowsRetry", "(Z)Z"⟩ : MethodName)) (z := (⟨"com/example/proxyreach/proxyreach/RemoteCallException$Kind", "allowsRetry", "(Z)Z"⟩ : MethodName)) hown (mvT hZ (hw _ (List.mem_of_getElem? (i := 4) rfl))) (mvT hZ (hw _ (List.mem_of_getElem? (i := 5) rfl))) (notFace_of_selects (args := #[]) (mvT hZ (hw _ (List.mem_of_getElem? (i := 7) rfl)))) (mvT hZ (hw _ (List.mem_of_getElem? (i := 7) rfl))) (mvT hZ (hw _ (List.mem_of_getElem? (i := 6) rfl))) (by decide) (backOf (W := 0) (rm_ar l Z a0 hw [] k1 z1 (0 : Int32) h0 n0 Z0 F1_) hZ (hw _ (List.mem_of_getElem? (i := 8) rfl)) (hw _ (List.mem_of_getElem? (i := 2) rfl)) (by decide) (by decide)) q16a q16c (g := (mkF m 107 #[.val (.int p1), .val (.int p2), .val (.int ((p1 &&& (2147483647 : Int32)) % (5 : Int32))), .val (.int z1), .val (.ref k1), .val (.int (0 : Int32)), .val (.int z1)] [(.int z1), (.ref k1)])) rfl (by rw [hml]; rfl) (Steps.refl _) (argsL := [(.int z1)]) (rest := []) (lenOf own_pd0 rfl) rfl (by show 2 * 0 + _ ≤ _; exact Nat.le_of_eq rfl) (hb hby at_107) (fun _ _ => ⟨rfl, e15, (by decide : 0 + 0 ≤ _), (by decide : 0 + 0 ≤ _)⟩)
          dsimp only [Pt.U, Pt.locs, Pt.cells, Pt.slots] at X16 l16 y16 z16 st16 hQ16
          subst l16 y16 z16
          obtain ⟨rfl, N16q, e16⟩ := hQ16
          have N16 := Fr.app N0 N16q
          refine own_tr st16 ?_
          show own_G p e below (K_0 Z p1 p2 k0 k1 k2 k3 k4 h0 n0 s) (T16.setTop (mkF m 110 #[.val (.int p1), .val (.int p2), .val (.int ((p1 &&& (2147483647 : Int32)) % (5 : Int32))), .val (.int z1), .val (.ref k1), .val (.int (0 : Int32)), .val (.int z1)] [(.int (own_ar (0 : Int32) z1))]))
          refine own_go (fun t k => XS.iload X16.here hx rfl (hb hby at_110) rfl k) ?_
          show own_G p e below (K_0 Z p1 p2 k0 k1 k2 k3 k4 h0 n0 s) (T16.setTop (mkF m 112 #[.val (.int p1), .val (.int p2), .val (.int ((p1 &&& (2147483647 : Int32)) % (5 : Int32))), .val (.int z1), .val (.ref k1), .val (.int (0 : Int32)), .val (.int z1)] [(.int z1), (.int (own_ar (0 : Int32) z1))]))
          refine own_go (fun t k => XS.icmpNo X16.here hx rfl (hb hby at_112) rfl (teq (own_ar0 hz1)).2 k) ?_
          show own_G p e below (K_0 Z p1 p2 k0 k1 k2 k3 k4 h0 n0 s) (T16.setTop (mkF m 115 #[.val (.int p1), .val (.int p2), .val (.int ((p1 &&& (2147483647 : Int32)) % (5 : Int32))), .val (.int z1), .val (.ref k1), .val (.int (0 : Int32)), .val (.int z1)] []))
          refine own_go (fun t k => XS.iconst X16.here hx rfl (hb hby at_115) k) ?_
          show own_G p e below (K_0 Z p1 p2 k0 k1 k2 k3 k4 h0 n0 s) (T16.setTop (mkF m 116 #[.val (.int p1), .val (.int p2), .val (.int ((p1 &&& (2147483647 : Int32)) % (5 : Int32))), .val (.int z1), .val (.ref k1), .val (.int (0 : Int32)), .val (.int z1)] [(.int (1 : Int32))]))
          refine own_go (fun t k => XS.goto X16.here hx rfl (pc0 := 116) (pc' := 120) rfl (hb hby at_116) (by decide) (by decide) k) ?_
          show own_G p e below (K_0 Z p1 p2 k0 k1 k2 k3 k4 h0 n0 s) (T16.setTop (mkF m 120 #[.val (.int p1), .val (.int p2), .val (.int ((p1 &&& (2147483647 : Int32)) % (5 : Int32))), .val (.int z1), .val (.ref k1), .val (.int (0 : Int32)), .val (.int z1)] [(.int (1 : Int32))]))
          exact own_retN X16 hx Bd.notSynchronized (t := .boolean) (z' := (1 : Int32)) Bd.returns (by simp) (hb hby at_120) rfl (fun U hU hV hF => ⟨_, _, rfl, ⟨rfl, N16⟩, hF.1, hF.2.1, hF.2.2.mono (by decide) (by decide)⟩)
set_option maxRecDepth 65536 in
set_option maxHeartbeats 40000000 in
theorem comes_1 {Post : Tables → Env → Array Value → State → Outcome → State → Prop} (hpost : ∀ tb e args s v u, (limb_1_1.after args s (.returned v) u = true ∧ limb_1_2.after args s (.returned v) u = true ∧ True) → FrameEnd s (.returned v) u (Jvm.fieldLocs frame_1_writes args s ++ Jvm.arrayLocs frame_1_arrays args s ++ Jvm.staticLocs frame_1_statics s) 0 0 → Post tb e args s (.returned v) u) :
    ArmFor flags0 classFile x code maxLocals ret World_1 tables_1 room_1 Calls_1 rest_1 Pre_1 Post := by
  intro l hfl _ _ p e ha hc hk s m args below hf hA hF happ hP
  obtain ⟨hcalls, hrest, hpre⟩ := hP
  obtain ⟨-, -, -, hnamed, -, -, -, hat⟩ := (Spec.applies_iff hf).mp happ
  obtain ⟨hg, hn⟩ := and_e (Cond.before_iff.mp (show (Jvm.Cond.and given_1 narrow_1).before args s = true from hpre))
  obtain ⟨hcnt, hg0⟩ := and_e hg
  obtain ⟨hv0, hg1⟩ := and_e hg0
  obtain ⟨w0, w1, rfl⟩ : ∃ w0 w1 : Value, args = #[w0, w1] := by
    have hs : args.size = 2 := by simpa [Cond.value, given_1] using hcnt
    obtain ⟨L⟩ := args
    match L, hs with
    | [w0, w1], _ => exact ⟨w0, w1, rfl⟩
  have hw := fun d (hd : d ∈ tables_1) => atoms_spec (ws := Jvm.Cond.code x code maxLocals ret :: tables_1) hat d (List.mem_cons_of_mem _ hd)
  have hfit : Fit s := fun {y c} hc i hi => by
    obtain ⟨ha, rfl⟩ := Array.getElem?_eq_some_iff.mp hc
    have q := List.all_eq_true.mp ((Array.all_eq_true_iff_forall_mem.mp hF) _ (Array.getElem_mem ha)) i (List.mem_range.mpr hi)
    simpa [Array.getElem?_eq_getElem hi] using q
  obtain ⟨i0, ei0⟩ := is_v hv0
  obtain rfl : w0 = (.int i0) := Option.some.inj ei0
  obtain ⟨i1, ei1⟩ := is_v hg1
  obtain rfl : w1 = (.int i1) := Option.some.inj ei1
  obtain ⟨x0, hn1⟩ := and_e hn
  obtain ⟨y0, hn2⟩ := and_e hn1
  obtain ⟨k0, t0⟩ := exa_v x0
  have S0 := Sta.start t0 (Or.inr ⟨(hw _ (List.mem_of_getElem? (i := 2) rfl)), (hw _ (List.mem_of_getElem? (i := 3) rfl))⟩)
  have E0 := Exa.start t0 x0
  have F0 := own_fldI t0 y0
  obtain ⟨x1, hn3⟩ := and_e hn2
  obtain ⟨y1, hn4⟩ := and_e hn3
  obtain ⟨k1, t1⟩ := exa_v x1
  have S1 := Sta.start t1 (Or.inr ⟨(hw _ (List.mem_of_getElem? (i := 2) rfl)), (hw _ (List.mem_of_getElem? (i := 12) rfl))⟩)
  have E1 := Exa.start t1 x1
  have F1 := own_fldI t1 y1
  obtain ⟨x2, hn5⟩ := and_e hn4
  obtain ⟨y2, hn6⟩ := and_e hn5
  obtain ⟨k2, t2⟩ := exa_v x2
  have S2 := Sta.start t2 (Or.inr ⟨(hw _ (List.mem_of_getElem? (i := 2) rfl)), (hw _ (List.mem_of_getElem? (i := 14) rfl))⟩)
  have E2 := Exa.start t2 x2
  have F2 := own_fldI t2 y2
  obtain ⟨x3, hn7⟩ := and_e hn6
  obtain ⟨y3, hn8⟩ := and_e hn7
  obtain ⟨k3, t3⟩ := exa_v x3
  have S3 := Sta.start t3 (Or.inr ⟨(hw _ (List.mem_of_getElem? (i := 2) rfl)), (hw _ (List.mem_of_getElem? (i := 16) rfl))⟩)
  have E3 := Exa.start t3 x3
  have F3 := own_fldI t3 y3
  obtain ⟨x4, hn9⟩ := and_e hn8
  have y4 := hn9
  obtain ⟨k4, t4⟩ := exa_v x4
  have S4 := Sta.start t4 (Or.inr ⟨(hw _ (List.mem_of_getElem? (i := 2) rfl)), (hw _ (List.mem_of_getElem? (i := 18) rfl))⟩)
  have E4 := Exa.start t4 x4
  have F4 := own_fldI t4 y4
  obtain ⟨n, o, h1, h2, h3, _, L, rfl, ⟨rfl, N⟩, hq⟩ := rm_0 l s _ hw tables_1 i0 i1 k0 k1 k2 k3 k4 s.heap s.heap.size (Nat.le_refl _) S0 E0 F0 S1 E1 F1 S2 E2 F2 S3 E3 F3 S4 E4 F4 p e ha hc hk s m _ below hf ((Spec.applies_iff_loose hf).mp happ).1 ⟨rfl, State.Warmed39.refl s, rfl⟩ trivial
  refine ⟨n, _, h1, h2, h3, hpost _ _ _ _ _ _ ⟨Cond.after_iff.mpr rfl, Cond.after_iff.mpr (eq_i res_at (Term.int_eval (1)) rfl), trivial⟩ ⟨hq.1, hq.2.1, (hq.2.2.sift fun y hy => Or.inr (N y hy)).mono (by decide) (by decide)⟩⟩
theorem main_1_1 : Claimed_1_1 := comes_1 fun _ _ _ _ _ _ h hF => ⟨h.1, hF⟩
theorem main_1_2 : Claimed_1_2 := comes_1 fun _ _ _ _ _ _ h hF => ⟨h.2.1, hF⟩
end Jvm.Pilot.@@N@@
namespace Jvm.Pilot.@@N@@
open Jvm Jvm.ClassFile Sem Op Lib Jvm.Free Jvm.Stand Jvm.Pilot.@@N@@.Jvm.D
/-! MADE BY PROGRAM (witnessworld.py) out of the Statement's table words and the real class files: 12 classes; the members and pool entries that the words name. The judged class is class 1, her method 1. -/
namespace start1
open Jvm.ClassFile
def u (s : String) : CpInfo := .utf8 (stringToUtf16 s)
/-- a pool by its gaps: so many unusable entries, then the entry; so many at the end -/
def gap : Nat → List CpInfo → List CpInfo
  | 0, r => r
  | n + 1, r => .unusable :: gap n r
def poolList (es : List (Nat × CpInfo)) (last : Nat) : List CpInfo := es.foldr (fun e r => gap e.1 (e.2 :: r)) (gap last [])
def pool (es : List (Nat × CpInfo)) (last : Nat) : Array CpInfo := ⟨poolList es last⟩
def fileOf (pool : Array CpInfo) (this : Nat) (attrs : Array Attribute := #[]) (ms : Array MethodInfo := #[]) (fl : Nat := 33) (sup : Nat := 0) (ifs : Array Nat := #[]) (fds : Array FieldInfo := #[]) : ClassFile where
  minorVersion := 0
  majorVersion := 65
  constantPool := pool
  accessFlags := fl
  thisClass := this
  superClass := sup
  interfaces := ifs
  fields := fds
  methods := ms
  attributes := attrs
def plain (name : String) (sup : Option ClassId) : Class where
  name := name
  kind := .ordinary
  loader := none
  accessFlags := 33
  super := sup
  interfaces := #[]
  cf := none
  fields := #[]
  methods := #[]
  instanceTypes := #[]
  staticTypes := #[]
  resolved := #[]
  callSites := []
  init := .initialized
  statics := none
  mirror := none

def pool0 : Array CpInfo := pool [(5, u "<init>"), (0, u "()V"), (1, .class_ 10), (1, u "java/lang/Object")] 113

def k0m0 : Method := { name := "<init>", desc := "()V", sig := { parameters := [], returnType := none }, accessFlags := 1, code := none }
/-- java/lang/Object -/
def k0 : Class := { plain "java/lang/Object" none with
  accessFlags := 33
  interfaces := #[]
  cf := some (fileOf pool0 8 #[] #[{ accessFlags := 1, nameIndex := 5, descriptorIndex := 6, attributes := #[] }] 33 0 #[] #[])
  fields := #[]
  methods := #[k0m0]
  instanceTypes := #[]
  staticTypes := #[]
  resolved := Array.replicate 124 none
  statics := none }

def pool1 : Array CpInfo := pool [(2, .class_ 4), (1, u "java/lang/Object"), (0, u "<init>"), (0, u "()V"), (0, .integer 2147483647), (0, .fieldref 9 10), (0, .class_ 11), (0, .nameAndType 12 13), (0, u "com/example/proxyreach/proxyreach/RemoteCallException$Kind"), (0, u "NO_PROVIDER"), (0, u "Lcom/example/proxyreach/proxyreach/RemoteCallException$Kind;"), (0, .fieldref 9 15), (0, .nameAndType 16 13), (0, u "NOT_SENT"), (0, .fieldref 9 18), (0, .nameAndType 19 13), (0, u "BUSY"), (0, .fieldref 9 21), (0, .nameAndType 22 13), (0, u "OUTCOME_UNKNOWN"), (0, .fieldref 9 24), (0, .nameAndType 25 13), (0, u "PROTOCOL"), (0, .methodref 9 27), (0, .nameAndType 28 29), (0, u "allowsRetry"), (0, u "(Z)Z"), (0, .class_ 31), (0, u "com/example/proxyreach/proxyreach/KindAllowsRetryPinLaw"), (2, u "law"), (0, u "(II)Z")] 7

def k1m0 : Method := { name := "<init>", desc := "()V", sig := { parameters := [], returnType := none }, accessFlags := 1, code := none }
def k1c1 : Code := { maxStack := 2, maxLocals := 7, code := code, exceptionTable := #[], attributes := #[] }
def k1m1 : Method := { name := "law", desc := "(II)Z", sig := { parameters := [.int, .int], returnType := some .boolean }, accessFlags := 9, code := some k1c1 }
/-- com/example/proxyreach/proxyreach/KindAllowsRetryPinLaw -/
def k1 : Class := { plain "com/example/proxyreach/proxyreach/KindAllowsRetryPinLaw" (some 0) with
  accessFlags := 49
  interfaces := #[]
  cf := some (fileOf pool1 30 #[] #[{ accessFlags := 1, nameIndex := 5, descriptorIndex := 6, attributes := #[] }, { accessFlags := 9, nameIndex := 34, descriptorIndex := 35, attributes := #[] }] 49 2 #[] #[])
  fields := #[]
  methods := #[k1m0, k1m1]
  instanceTypes := #[]
  staticTypes := #[]
  resolved := Array.replicate 43 none
  statics := none }

def pool2 : Array CpInfo := pool [(1, .class_ 2), (0, u "java/lang/constant/Constable"), (0, .class_ 4), (0, u "java/lang/Object")] 6

/-- java/lang/constant/Constable -/
def k2 : Class := { plain "java/lang/constant/Constable" (some 0) with
  accessFlags := 1537
  interfaces := #[]
  cf := some (fileOf pool2 1 #[] #[] 1537 3 #[] #[])
  fields := #[]
  methods := #[]
  instanceTypes := #[]
  staticTypes := #[]
  resolved := Array.replicate 11 none
  statics := none }

def pool3 : Array CpInfo := pool [(1, .class_ 2), (0, u "java/lang/Comparable"), (0, .class_ 4), (0, u "java/lang/Object")] 7

/-- java/lang/Comparable -/
def k3 : Class := { plain "java/lang/Comparable" (some 0) with
  accessFlags := 1537
  interfaces := #[]
  cf := some (fileOf pool3 1 #[] #[] 1537 3 #[] #[])
  fields := #[]
  methods := #[]
  instanceTypes := #[]
  staticTypes := #[]
  resolved := Array.replicate 12 none
  statics := none }

def pool4 : Array CpInfo := pool [(1, .class_ 2), (0, u "java/io/Serializable"), (0, .class_ 4), (0, u "java/lang/Object")] 2

/-- java/io/Serializable -/
def k4 : Class := { plain "java/io/Serializable" (some 0) with
  accessFlags := 1537
  interfaces := #[]
  cf := some (fileOf pool4 1 #[] #[] 1537 3 #[] #[])
  fields := #[]
  methods := #[]
  instanceTypes := #[]
  staticTypes := #[]
  resolved := Array.replicate 7 none
  statics := none }

def pool5 : Array CpInfo := pool [(2, .class_ 4), (1, u "java/lang/Enum"), (0, u "name"), (0, u "Ljava/lang/String;"), (2, u "ordinal"), (0, u "I"), (1, .class_ 14), (1, u "java/lang/Object"), (4, u "hash"), (86, .class_ 108), (1, u "java/lang/Enum$EnumDesc"), (2, .class_ 112), (0, u "java/lang/constant/Constable"), (0, .class_ 114), (0, u "java/lang/Comparable"), (0, .class_ 116), (0, u "java/io/Serializable")] 87

/-- java/lang/Enum -/
def k5 : Class := { plain "java/lang/Enum" (some 0) with
  accessFlags := 1057
  interfaces := #[2, 3, 4]
  cf := some (fileOf pool5 2 #[.nestMembers #[106]] #[] 1057 12 #[111, 113, 115] #[{ accessFlags := 18, nameIndex := 5, descriptorIndex := 6, attributes := #[] }, { accessFlags := 18, nameIndex := 9, descriptorIndex := 10, attributes := #[] }, { accessFlags := 2, nameIndex := 19, descriptorIndex := 10, attributes := #[] }])
  fields := #[{ name := "name", type := (.object "java/lang/String"), accessFlags := 18, slot := 0, constantValue := 0 }, { name := "ordinal", type := .int, accessFlags := 18, slot := 1, constantValue := 0 }, { name := "hash", type := .int, accessFlags := 2, slot := 2, constantValue := 0 }]
  methods := #[]
  instanceTypes := #[(.object "java/lang/String"), .int, .int]
  staticTypes := #[]
  resolved := Array.replicate 204 none
  statics := none }

def pool6 : Array CpInfo := pool [(1, .class_ 2), (0, u "com/example/proxyreach/proxyreach/RemoteCallException$Kind"), (2, u "NO_PROVIDER"), (0, u "Lcom/example/proxyreach/proxyreach/RemoteCallException$Kind;"), (2, u "NOT_SENT"), (2, u "BUSY"), (2, u "OUTCOME_UNKNOWN"), (2, u "PROTOCOL"), (2, u "$VALUES"), (0, u "[Lcom/example/proxyreach/proxyreach/RemoteCallException$Kind;"), (6, .class_ 31), (1, u "java/lang/Enum"), (6, .fieldref 1 39), (0, .nameAndType 40 41), (0, u "provesNotRun"), (0, u "Z"), (20, u "allowsRetry"), (0, u "(Z)Z"), (7, .class_ 72), (0, u "com/example/proxyreach/proxyreach/RemoteCallException")] 2

def k6c0 : Code := { maxStack := 1, maxLocals := 2, code := prog_5_method_5_code, exceptionTable := #[], attributes := #[] }
def k6m0 : Method := { name := "allowsRetry", desc := "(Z)Z", sig := { parameters := [.boolean], returnType := some .boolean }, accessFlags := 1, code := some k6c0 }
/-- com/example/proxyreach/proxyreach/RemoteCallException$Kind -/
def k6 : Class := { plain "com/example/proxyreach/proxyreach/RemoteCallException$Kind" (some 5) with
  accessFlags := 16433
  interfaces := #[]
  cf := some (fileOf pool6 1 #[.nestHost 71] #[{ accessFlags := 1, nameIndex := 62, descriptorIndex := 63, attributes := #[] }] 16433 29 #[] #[{ accessFlags := 16409, nameIndex := 5, descriptorIndex := 6, attributes := #[] }, { accessFlags := 16409, nameIndex := 9, descriptorIndex := 6, attributes := #[] }, { accessFlags := 16409, nameIndex := 12, descriptorIndex := 6, attributes := #[] }, { accessFlags := 16409, nameIndex := 15, descriptorIndex := 6, attributes := #[] }, { accessFlags := 16409, nameIndex := 18, descriptorIndex := 6, attributes := #[] }, { accessFlags := 18, nameIndex := 40, descriptorIndex := 41, attributes := #[] }, { accessFlags := 4122, nameIndex := 21, descriptorIndex := 22, attributes := #[] }])
  fields := #[{ name := "NO_PROVIDER", type := (.object "com/example/proxyreach/proxyreach/RemoteCallException$Kind"), accessFlags := 16409, slot := 0, constantValue := 0 }, { name := "NOT_SENT", type := (.object "com/example/proxyreach/proxyreach/RemoteCallException$Kind"), accessFlags := 16409, slot := 1, constantValue := 0 }, { name := "BUSY", type := (.object "com/example/proxyreach/proxyreach/RemoteCallException$Kind"), accessFlags := 16409, slot := 2, constantValue := 0 }, { name := "OUTCOME_UNKNOWN", type := (.object "com/example/proxyreach/proxyreach/RemoteCallException$Kind"), accessFlags := 16409, slot := 3, constantValue := 0 }, { name := "PROTOCOL", type := (.object "com/example/proxyreach/proxyreach/RemoteCallException$Kind"), accessFlags := 16409, slot := 4, constantValue := 0 }, { name := "provesNotRun", type := .boolean, accessFlags := 18, slot := 3, constantValue := 0 }, { name := "$VALUES", type := (.array (.object "com/example/proxyreach/proxyreach/RemoteCallException$Kind")), accessFlags := 4122, slot := 5, constantValue := 0 }]
  methods := #[k6m0]
  instanceTypes := #[(.object "java/lang/String"), .int, .int, .boolean]
  staticTypes := #[(.object "com/example/proxyreach/proxyreach/RemoteCallException$Kind"), (.object "com/example/proxyreach/proxyreach/RemoteCallException$Kind"), (.object "com/example/proxyreach/proxyreach/RemoteCallException$Kind"), (.object "com/example/proxyreach/proxyreach/RemoteCallException$Kind"), (.object "com/example/proxyreach/proxyreach/RemoteCallException$Kind"), (.array (.object "com/example/proxyreach/proxyreach/RemoteCallException$Kind"))]
  resolved := Array.replicate 75 none
  statics := some 0 }

def pool7 : Array CpInfo := pool [(1, u "java/lang/Cloneable"), (0, .class_ 1), (0, u "java/lang/Object"), (0, .class_ 3)] 3

/-- java/lang/Cloneable -/
def k7 : Class := { plain "java/lang/Cloneable" (some 0) with
  accessFlags := 1537
  interfaces := #[]
  cf := some (fileOf pool7 2 #[] #[] 1537 4 #[] #[])
  fields := #[]
  methods := #[]
  instanceTypes := #[]
  staticTypes := #[]
  resolved := Array.replicate 8 none
  statics := none }

/-- the primitive byte -/
def k8 : Class := { plain "byte" none with kind := .primitive 'B', accessFlags := 0x411 }
/-- [B -/
def k9 : Class := { plain "[B" (some 0) with kind := .array 8 .byte, interfaces := #[7, 4], accessFlags := 1041 }

/-- the primitive int -/
def k10 : Class := { plain "int" none with kind := .primitive 'I', accessFlags := 0x411 }
/-- [I -/
def k11 : Class := { plain "[I" (some 0) with kind := .array 10 .int, interfaces := #[7, 4], accessFlags := 1041 }

def heap : Heap := #[{ cls := 6, slots := #[.ref 1, .ref 4, .ref 5, .ref 3, .ref 2, .null], vm := .statics 6 },
  { cls := 6, slots := #[.null, .int 0, .int 0, .int 1], vm := .none },
  { cls := 6, slots := #[.null, .int 0, .int 0, .int 0], vm := .none },
  { cls := 6, slots := #[.null, .int 0, .int 0, .int 0], vm := .none },
  { cls := 6, slots := #[.null, .int 0, .int 0, .int 1], vm := .none },
  { cls := 6, slots := #[.null, .int 0, .int 0, .int 1], vm := .none }]
def classes : Array Class := #[k0, k1, k2, k3, k4, k5, k6, k7, k8, k9, k10, k11]
def interned : List (Array UInt16 × Addr) := []
def slotsUsed : Nat := 26
def theMethod : MethodId := ⟨1, 1⟩
def args0 : Array Value := #[.int 5, .int 7]
def aboutOver (below : List Frame) : State where
  vm := { classes := classes, interned := interned.toArray }
  heap := heap
  slotsUsed := slotsUsed
  threads := #[{ frames := .invoking theMethod args0 :: below }]
def below0 : List Frame := [.native { method := ⟨0, 0⟩, args := #[] }]
def about1 : State := aboutOver below0
def p0 : Program := .bare "" "" ""
def e0 : Env := launch0.env 0 0 0
theorem w_frames : about1.frames = Frame.invoking theMethod args0 :: below0 := rfl
set_option maxRecDepth 65536 in
theorem w_args : argsFit about1.vm theMethod args0 = true := by decide +kernel
set_option maxRecDepth 65536 in
theorem w_heap : heapFits about1 = true := by decide +kernel
set_option maxRecDepth 65536 in
theorem w_runnable : about1.curStatus? = some .runnable := by decide +kernel
set_option maxRecDepth 65536 in
theorem w_alone : about1.alone = true := by decide +kernel
set_option maxRecDepth 65536 in
theorem w_named : about1.methodNamed? x = some theMethod := by decide +kernel
set_option maxRecDepth 65536 in
theorem w_hears : about1.hears theMethod below0 = true := by decide +kernel
set_option maxRecDepth 65536 in
theorem w_ripe : about1.ripe theMethod args0 below0 = true := by decide +kernel
theorem w_running : about1.status = .running := rfl
set_option maxRecDepth 65536 in
theorem w_room : about1.hasRoom e0.platform room_1 = true :=
  launch0.hasRoom_least _ room_1 (by decide +kernel) (by decide +kernel) (by decide +kernel) (by decide +kernel) (by decide +kernel) (by decide +kernel)
theorem allAtoms_all (ts : List Jvm.Cond) (a : Array Jvm.Value) (st : Jvm.State) : (allAtoms ts).before a st = ts.all (fun c => c.before a st) := by
  induction ts with
  | nil => rfl
  | cons c t ih =>
    show (Jvm.Cond.and c (allAtoms t)).before a st = _
    rw [Jvm.Cond.before_and, ih, List.all_cons]
def words1 : List Jvm.Cond := Jvm.Cond.code x code maxLocals ret :: tables_1
/-- a 'code' word, met by the world's own term for the bytes: nothing is compared byte by byte -/
theorem code_word {y : MethodName} {bytes : ByteArray} {mx : Nat} {rt : Option FieldType} {a : Array Value} {s : State} {m : MethodId} {meth : Method} {c : Code} (h1 : s.methodNamed? y = some m) (h2 : s.vm.method? m = some meth) (h3 : meth.code = some c) (h4 : c.code = bytes)
    (h5 : (c.maxLocals == mx && c.exceptionTable.isEmpty && decide (c.maxStack ≤ mostOperands) && decide (meth.sig.returnType = rt) && !meth.locks && decide (parseMethodDescriptor y.desc = some meth.sig)) = true) : (Jvm.Cond.code y bytes mx rt).before a s = true := by
  simp only [Bool.and_eq_true, beq_iff_eq, Bool.not_eq_true', decide_eq_true_eq] at h5
  obtain ⟨⟨⟨⟨⟨g1, g2⟩, g3⟩, g4⟩, g5⟩, g6⟩ := h5
  simp [Cond.before, Cond.holds, Cond.value, h1, h2, h3, h4, g1, g2, g3, g4, g5, g6]
def isCode : Jvm.Cond → Bool
  | .code _ _ _ _ => true
  | _ => false
theorem all_split {L : List Jvm.Cond} {P : Jvm.Cond → Bool} (h1 : L.all (fun c => isCode c || P c) = true) (h2 : ∀ c ∈ L.filter isCode, P c = true) : L.all P = true := by
  refine List.all_eq_true.mpr fun c hc => ?_
  have h := List.all_eq_true.mp h1 c hc
  rcases Bool.eq_false_or_eq_true (isCode c) with hi | hi
  · exact h2 c (List.mem_filter.mpr ⟨hc, hi⟩)
  · simpa [hi] using h
set_option maxRecDepth 65536 in
theorem w_c0 : (Jvm.Cond.code x code maxLocals ret).before args0 about1 = true := code_word (m := ⟨1, 1⟩) (meth := k1m1) (c := k1c1) (by decide +kernel) rfl rfl rfl (by decide +kernel)
set_option maxRecDepth 65536 in
theorem w_c1 : (Jvm.Cond.code ({ cls := "com/example/proxyreach/proxyreach/RemoteCallException$Kind", name := "allowsRetry", desc := "(Z)Z" } : Jvm.MethodName) prog_5_method_5_code (2 : Nat) (Option.some Jvm.ClassFile.FieldType.boolean)).before args0 about1 = true := code_word (m := ⟨6, 0⟩) (meth := k6m0) (c := k6c0) (by decide +kernel) rfl rfl rfl (by decide +kernel)
def codes1 : List Jvm.Cond := [Jvm.Cond.code x code maxLocals ret, Jvm.Cond.code ({ cls := "com/example/proxyreach/proxyreach/RemoteCallException$Kind", name := "allowsRetry", desc := "(Z)Z" } : Jvm.MethodName) prog_5_method_5_code (2 : Nat) (Option.some Jvm.ClassFile.FieldType.boolean)]
set_option maxRecDepth 65536 in
theorem codes_eq : words1.filter isCode = codes1 := rfl
theorem w_codes : ∀ c ∈ words1.filter isCode, c.before args0 about1 = true := by
  rw [codes_eq]
  intro c hc
  simp only [codes1, List.mem_cons, List.not_mem_nil, or_false] at hc
  rcases hc with rfl | rfl
  · exact w_c0
  · exact w_c1
set_option maxRecDepth 65536 in
theorem w_t1 : words1.all (fun c => isCode c || c.before args0 about1) = true := by decide +kernel
theorem w_tables : (allAtoms (Jvm.Cond.code x code maxLocals ret :: tables_1)).before args0 about1 = true := by
  rw [allAtoms_all]
  show words1.all (fun c => c.before args0 about1) = true
  refine all_split ?_ w_codes
  rw [w_t1]
set_option maxRecDepth 65536 in
theorem w_case : (Jvm.Cond.and given_1 narrow_1).before args0 about1 = true := by decide +kernel
theorem w_applies : (headSpec (Jvm.Cond.code x code maxLocals ret :: tables_1) room_1).applies x e0.platform about1 = true :=
  (Spec.applies_iff w_frames).mpr ⟨w_running, w_runnable, w_alone, w_named, w_hears, w_ripe, w_room, w_tables⟩
theorem atStart : AtStart classFile x code maxLocals ret World_1 tables_1 room_1 Calls_1 rest_1 Pre_1 launch0 p0 e0 about1 theMethod args0 below0 :=
  ⟨lists_1, trivial, launch0.admits_env _ _ _, launch0.least_env, fairChoices_fair.cas, fairChoices_fair.clock, w_frames, w_args, w_heap, w_applies, trivial, trivial, w_case⟩
end start1
theorem witness_1 : WitnessClaimed_1 := ⟨start1.p0, start1.e0, start1.about1, start1.theMethod, start1.args0, start1.below0, start1.atStart⟩
end Jvm.Pilot.@@N@@
