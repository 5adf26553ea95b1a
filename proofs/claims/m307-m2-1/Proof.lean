import JvmDerived
import JvmDerived.Pilot.@@N@@Statement
import JvmDerived.Pilot.@@N@@Code
set_option linter.unusedVariables false
set_option linter.unusedSimpArgs false

namespace Jvm.RoadKit
open Sem ClassFile Op Lib Jvm.Stand Jvm.Free Jvm.LawKit
/-- the run from S comes to an end that K allows -/
def own_G (p : Program) (e : Env) (below : List Frame) (K : Outcome → State → Prop) (S : State) : Prop := ∃ s₂ o, Steps p.tables e below S s₂ ∧ s₂.status = .running ∧ Ended s₂ below o ∧ K o s₂
section Own
variable {p : Program} {l : Launch} {e : Env} {R : Room} {s : State} {m : MethodId} {args : Array Value} {below : List Frame} {meth : Method} {c : Code} {T : State} {locs : List Loc} {cells slots : Nat} {K : Outcome → State → Prop} {S S' : State}
theorem own_go (h : ∀ t, Steps p.tables e below S' t → Steps p.tables e below S t) (g : own_G p e below K S') : own_G p e below K S := by
  obtain ⟨s₂, o, h1, h2⟩ := g; exact ⟨s₂, o, h _ h1, h2⟩
theorem own_tr (h : Steps p.tables e below S S') (g : own_G p e below K S') : own_G p e below K S := by
  obtain ⟨s₂, o, h1, h2⟩ := g; exact ⟨s₂, o, h.trans h1, h2⟩
theorem own_cast {g g' : JFrame} (q : g = g') (k : own_G p e below K (T.setTop g')) : own_G p e below K (T.setTop g) := q ▸ k
theorem own_end {v : Option Value} (X : Stand p l e R s m args below meth c T locs cells slots) (hv : meth.sig.returnType = none → v = none) (hlocks : meth.locks = false)
    (hst : ∀ fs, (∀ (f : JFrame) (acts : List Action), f.method = m → f.locked = none → f.entered = [] → (doReturn e (T.setTop f) acts v).1 = T.setFrames fs) → Steps p.tables e below S (T.setFrames fs))
    (hk : ∀ U : State, U.heap = T.heap → U.vm = T.vm → FrameEnd s (.returned v) U locs cells slots → K (.returned v) U) : own_G p e below K S := by
  obtain ⟨fs, hr, hrun, hended, hW, hsame⟩ := X.leave (v := v) hv hlocks
  exact ⟨_, _, hst fs hr, hrun, hended, hk _ rfl rfl ⟨⟨_, rfl⟩, hW, hsame⟩⟩
theorem own_retN (X : Stand p l e R s m args below meth c T locs cells slots) (hx : p.tables.exec = Jvm.exec) (hlocks : meth.locks = false) {pc : Nat} {Ls : Array Slot} {z z' : Int32} {t : FieldType} {rest : List Value} (hret : meth.sig.returnType = some t) (ht : t = .boolean ∨ t = .byte ∨ t = .char ∨ t = .short)
    (hd : decode c.code pc = .ok (.ireturn, 1)) (hz : nar t z = z') (hk : ∀ U : State, U.heap = T.heap → U.vm = T.vm → FrameEnd s (.returned (some (.int z'))) U locs cells slots → K (.returned (some (.int z'))) U) :
    own_G p e below K (T.setTop (mkF m pc Ls (.int z :: rest))) := by
  subst hz
  exact own_end X (fun h => by rw [hret] at h; cases h) hlocks (fun fs hr => retN X hx hret ht hd hr) hk
theorem own_retI (X : Stand p l e R s m args below meth c T locs cells slots) (hx : p.tables.exec = Jvm.exec) (hlocks : meth.locks = false) {pc : Nat} {Ls : Array Slot} {z : Int32} {rest : List Value} (hret : meth.sig.returnType = some .int)
    (hd : decode c.code pc = .ok (.ireturn, 1)) (hk : ∀ U : State, U.heap = T.heap → U.vm = T.vm → FrameEnd s (.returned (some (.int z))) U locs cells slots → K (.returned (some (.int z))) U) :
    own_G p e below K (T.setTop (mkF m pc Ls (.int z :: rest))) :=
  own_end X (fun h => by rw [hret] at h; cases h) hlocks (fun fs hr => retOut X hx hret rfl (Or.inl ⟨rfl, Or.inl rfl, z, rfl⟩) hd hr) hk
theorem own_retJ (X : Stand p l e R s m args below meth c T locs cells slots) (hx : p.tables.exec = Jvm.exec) (hlocks : meth.locks = false) {pc : Nat} {Ls : Array Slot} {z : Int64} {rest : List Value} (hret : meth.sig.returnType = some .long)
    (hd : decode c.code pc = .ok (.lreturn, 1)) (hk : ∀ U : State, U.heap = T.heap → U.vm = T.vm → FrameEnd s (.returned (some (.long z))) U locs cells slots → K (.returned (some (.long z))) U) :
    own_G p e below K (T.setTop (mkF m pc Ls (.long z :: rest))) :=
  own_end X (fun h => by rw [hret] at h; cases h) hlocks (fun fs hr => retOut X hx hret rfl (Or.inr (Or.inl ⟨rfl, rfl, z, rfl⟩)) hd hr) hk
theorem own_retR (X : Stand p l e R s m args below meth c T locs cells slots) (hx : p.tables.exec = Jvm.exec) (hlocks : meth.locks = false) {pc : Nat} {Ls : Array Slot} {w : Value} {t : FieldType} {rest : List Value} (hret : meth.sig.returnType = some t) (ht : t.isReference = true) (hw : w.isRef = true)
    (hd : decode c.code pc = .ok (.areturn, 1)) (hk : ∀ U : State, U.heap = T.heap → U.vm = T.vm → FrameEnd s (.returned (some w)) U locs cells slots → K (.returned (some w)) U) :
    own_G p e below K (T.setTop (mkF m pc Ls (w :: rest))) :=
  own_end X (fun h => by rw [hret] at h; cases h) hlocks (fun fs hr => retOut X hx hret (by cases w <;> cases t <;> first | rfl | simp [Value.isRef, FieldType.isReference] at hw ht) (Or.inr (Or.inr (Or.inr (Or.inr ⟨rfl, ht, hw⟩)))) hd hr) hk
theorem own_retV (X : Stand p l e R s m args below meth c T locs cells slots) (hx : p.tables.exec = Jvm.exec) (hlocks : meth.locks = false) {pc : Nat} {Ls : Array Slot} (hret : meth.sig.returnType = none)
    (hd : decode c.code pc = .ok (.return_, 1)) (hk : ∀ U : State, U.heap = T.heap → U.vm = T.vm → FrameEnd s (.returned none) U locs cells slots → K (.returned none) U) :
    own_G p e below K (T.setTop (mkF m pc Ls [])) :=
  own_end X (fun _ => rfl) hlocks (fun fs hr => X.returnOut hx hret hd hr) hk
end Own
end Jvm.RoadKit
namespace Jvm.Pilot.@@N@@
open Jvm Jvm.ClassFile Sem Op Lib Jvm.Free Jvm.Stand Jvm.LawKit Jvm.RoadKit Bundle Jvm.Pilot.@@N@@.Jvm.D
theorem own_b0 {z : Int32} {P : Prop} [Decidable P] (h : z = if P then 1 else 0) (q : ¬ P) : z = 0 := by rw [h, if_neg q]
theorem own_b1 {z : Int32} {P : Prop} [Decidable P] (h : z = if P then 1 else 0) (q : P) : ¬ z = 0 := by rw [h, if_pos q]; decide
theorem own_bn {z : Int32} {P : Prop} [Decidable P] (h : z = if P then 0 else 1) : z = if ¬ P then 1 else 0 := by by_cases q : P <;> simp [h, q]
theorem own_fldI {args : Array Value} {s : State} {t : Term} {C n d : String} {z : Int32} {a : Addr} (ht : t.eval args s none [] s = some (.ref a)) (h : (Jvm.Cond.eq (Term.field t C n d) (Term.int z)).value args s none s [] = some true) : Fld s s.heap a C n d (.int z) := by
  obtain ⟨x, y, h1, h2, k1, k2⟩ := cmp_v (Or.inl h)
  have h3 : (Term.int z).eval args s none [] s = some (.int z) := rfl
  obtain rfl : y = .int z := Option.some.inj (h2.symm.trans h3)
  obtain ⟨w, rfl⟩ := k2
  have e : w = z := by simp only [Cond.value, h1, h3] at h; simpa using h
  subst e
  exact Fld.start (by rw [← fld_at ht]; exact h1)
theorem own_stakeep {Z : State} {h h' : Heap} {C n d : String} {v : Value} {ws : List Addr} (F : Sta Z h C n d v) (K : Keep h h' ws) (q : ∀ a ∈ ws, ∀ cell : Cell, h[a]? = some cell → cell.vm.isStatics = false) : Sta Z h' C n d v := by
  obtain ⟨cf, i, k, f, st, cell, h1, h2, h3, h4, h5, h6, h7⟩ := F
  exact ⟨cf, i, k, f, st, cell, h1, h2, h3, h4, K.2.1 _ _ h5 (fun hm => by rw [q _ hm _ h5] at h6; cases h6), h6, h7⟩
theorem own_nb {z : Int32} {P : Prop} [Decidable P] (h : z = if P then 1 else 0) : nar .boolean z = z := by by_cases q : P <;> simp [h, q] <;> rfl
def own_ip (sec last now : Int64) : Int32 := if sec < now - last then (1 : Int32) else (0 : Int32)
theorem own_mx (x : Int64) : 0 ≤ (x &&& (9223372036854775807 : Int64)).toInt := (c_andSL x _).2.2 (by decide)
theorem own_nnadd {l g : Int64} (hl : 0 ≤ l.toInt) (h1 : ¬ g < (0 : Int64)) (h2 : ¬ ((9223372036854775807 : Int64) - g) < l) : 0 ≤ (l + g).toInt := by
  rw [Int64.lt_iff_toInt_lt] at h1 h2
  have a1 := c_ladd l g
  have a2 := c_lsub (9223372036854775807 : Int64) g
  have r1 := Int64.le_toInt (l + g); have r2 := Int64.toInt_lt (l + g)
  have r3 := Int64.le_toInt ((9223372036854775807 : Int64) - g); have r4 := Int64.toInt_lt ((9223372036854775807 : Int64) - g)
  have r5 := Int64.toInt_lt g; have r6 := Int64.toInt_lt l
  have e0 : (0 : Int64).toInt = 0 := rfl
  have e1 : (9223372036854775807 : Int64).toInt = 9223372036854775807 := rfl
  rw [e0] at h1; rw [e1] at a2
  omega
theorem own_cmp {s l n : Int64} {z : Int32} (hz : z = if l < n - s then (1 : Int32) else (0 : Int32)) (hs : 0 ≤ s.toInt) (hl : 0 ≤ l.toInt) (hn : 0 ≤ n.toInt) : own_ip s l n = z := by
  have e : (s < n - l) ↔ (l < n - s) := by
    rw [Int64.lt_iff_toInt_lt, Int64.lt_iff_toInt_lt]
    have a1 := c_lsub n s; have a2 := c_lsub n l
    have r1 := Int64.le_toInt (n - s); have r2 := Int64.toInt_lt (n - s)
    have r3 := Int64.le_toInt (n - l); have r4 := Int64.toInt_lt (n - l)
    have r5 := Int64.toInt_lt n; have r6 := Int64.toInt_lt l; have r7 := Int64.toInt_lt s
    omega
  rw [hz]; unfold own_ip
  by_cases h : l < n - s
  · rw [if_pos h, if_pos (e.mpr h)]
  · rw [if_neg h, if_neg (mt e.mp h)]
theorem drec_0 : decode jdk_30_method_1_code 0 = .ok (.aload_n 0, 1) := by decide +kernel
theorem drec_1 : decode jdk_30_method_1_code 1 = .ok (.invokespecial 1, 3) := by decide +kernel
theorem drec_4 : decode jdk_30_method_1_code 4 = .ok (.return_, 1) := by decide +kernel
theorem own_pn0 : plainName "java/lang/Record" = true := by first | (simp [plainName, overriddenIn]; done) | decide +kernel
theorem efrec (m : MethodId) (a1 : Addr) : entryFrame m #[(.ref a1)] 1 = mkF m 0 #[.val (.ref a1)] [] := by first | (simp [entryFrame, mkF, argsToLocals, Value.category]; done) | rfl
def Q_rec (Z : State) (a1 : Addr) (h0 : Heap) (n0 : Nat) (v : Option Value) (h : Heap) (L : List Loc) : Prop := v = none ∧ Fr n0 L ∧ h = h0
def K_rec (Z : State) (a1 : Addr) (h0 : Heap) (n0 : Nat) (s : State) (o : Outcome) (U' : State) : Prop := ∃ v L, o = .returned v ∧ Q_rec Z a1 h0 n0 v U'.heap L ∧ FrameEnd s o U' L 0 0
set_option maxRecDepth 65536 in
set_option maxHeartbeats 40000000 in
theorem rm_rec (l : Launch) (Z : State) (a0 : Array Value) (hw : ∀ d ∈ tables_1, d.before a0 Z = true) (ws : List Jvm.Cond) (a1 : Addr) (h0 : Heap) (n0 : Nat) (Z0 : n0 ≤ h0.size) :
    MetFree l (⟨"java/lang/Record", "<init>", "()V"⟩ : MethodName) (head1 (Jvm.Cond.code (⟨"java/lang/Record", "<init>", "()V"⟩ : MethodName) jdk_30_method_1_code 1 none :: ws) ({ frames := 1, cells := 0, slots := 0, locals := 12 } : Room)) (fun a U => a = #[(.ref a1)] ∧ Z.Warmed39 U.vm ∧ U.heap = h0) (fun _ _ _ _ _ => True) (fun _ U o U' => ∃ v L, o = .returned v ∧ Q_rec Z a1 h0 n0 v U'.heap L ∧ FrameEnd U o U' L ({ frames := 1, cells := 0, slots := 0, locals := 12 } : Room).cells ({ frames := 1, cells := 0, slots := 0, locals := 12 } : Room).slots) := by
  refine MetFree.of_bodySF (plainFor_of_name own_pn0) hisR ?_
  intro p e s m args below meth c s₁ Bd hml0 hP hK
  obtain ⟨rfl, hZ, hh⟩ := hP
  have hx := Bd.exec
  have hby := Bd.bytes
  have hml : c.maxLocals = 1 := hml0
  have hown : s.vm.findClass "java/lang/Record" = some m.cls := findClass_of_methodNamed Bd.named
  have hnm := (name_of_methodNamed Bd.named Bd.method).1
  have X0 : Stand p l e ({ frames := 1, cells := 0, slots := 0, locals := 12 } : Room) s m #[(.ref a1)] below meth c s₁ [] 0 0 := Stand.of_body Bd
  have e0 : s₁.heap = h0 := by rw [← hh, Bd.state]; rfl
  have N0 := Fr.nil n0
  show own_G p e below (K_rec Z a1 h0 n0 s) (s₁.setTop (entryFrame m #[(.ref a1)] 1))
  refine own_cast (efrec m a1) ?_
  show own_G p e below (K_rec Z a1 h0 n0 s) (s₁.setTop (mkF m 0 #[.val (.ref a1)] []))
  refine own_go (fun t k => XS.aloadN X0.here hx rfl (hb hby drec_0) rfl rfl k) ?_
  show own_G p e below (K_rec Z a1 h0 n0 s) (s₁.setTop (mkF m 1 #[.val (.ref a1)] [(.ref a1)]))
  obtain ⟨T1, X1, e1, st1⟩ := initO X0 hx hZ hown (hw _ (List.mem_of_getElem? (i := 12) rfl)) (hw _ (List.mem_of_getElem? (i := 13) rfl)) (hw _ (List.mem_of_getElem? (i := 14) rfl)) e0 (g := (mkF m 1 #[.val (.ref a1)] [(.ref a1)])) rfl (by rw [hml]; rfl) rfl (hb hby drec_1) (by decide) (W := 0) (by show 2 * 0 + _ ≤ _; exact Nat.le_of_eq rfl) (by decide)
  refine own_go st1 ?_
  show own_G p e below (K_rec Z a1 h0 n0 s) (T1.setTop (mkF m 4 #[.val (.ref a1)] []))
  exact own_retV X1 hx Bd.notSynchronized Bd.returns (hb hby drec_4) (fun U hU hV hF => ⟨_, _, rfl, ⟨rfl, N0, hU.trans e1⟩, hF.1, hF.2.1, hF.2.2.mono (by decide) (by decide)⟩)
theorem dct_0 : decode prog_4_method_1_code 0 = .ok (.aload_n 0, 1) := by decide +kernel
theorem dct_1 : decode prog_4_method_1_code 1 = .ok (.invokespecial 3, 3) := by decide +kernel
theorem dct_4 : decode prog_4_method_1_code 4 = .ok (.aload_n 0, 1) := by decide +kernel
theorem dct_5 : decode prog_4_method_1_code 5 = .ok (.lload_n 1, 1) := by decide +kernel
theorem dct_6 : decode prog_4_method_1_code 6 = .ok (.putfield 9, 3) := by decide +kernel
theorem dct_9 : decode prog_4_method_1_code 9 = .ok (.return_, 1) := by decide +kernel
theorem own_pn1 : plainName "com/example/tidelog/tidelog/IdleLimit" = true := by first | (simp [plainName, overriddenIn]; done) | decide +kernel
theorem own_pd0 : parseMethodDescriptor "()V" = some ⟨[], none⟩ := by decide +kernel
theorem efct (m : MethodId) (a1 : Addr) (q2 : Int64) : entryFrame m #[(.ref a1), (.long q2)] 3 = mkF m 0 #[.val (.ref a1), .val (.long q2), .second] [] := by first | (simp [entryFrame, mkF, argsToLocals, Value.category]; done) | rfl
def Q_ct (Z : State) (a1 : Addr) (q2 : Int64) (h0 : Heap) (n0 : Nat) (v : Option Value) (h : Heap) (L : List Loc) : Prop := v = none ∧ Fr n0 L ∧ Keep h0 h [a1] ∧ Exa Z h a1 "com/example/tidelog/tidelog/IdleLimit" ∧ Fld Z h a1 "com/example/tidelog/tidelog/IdleLimit" "seconds" "J" (.long q2)
def K_ct (Z : State) (a1 : Addr) (q2 : Int64) (h0 : Heap) (n0 : Nat) (s : State) (o : Outcome) (U' : State) : Prop := ∃ v L, o = .returned v ∧ Q_ct Z a1 q2 h0 n0 v U'.heap L ∧ FrameEnd s o U' L 0 0
set_option maxRecDepth 65536 in
set_option maxHeartbeats 40000000 in
theorem rm_ct (l : Launch) (Z : State) (a0 : Array Value) (hw : ∀ d ∈ tables_1, d.before a0 Z = true) (ws : List Jvm.Cond) (a1 : Addr) (q2 : Int64) (h0 : Heap) (n0 : Nat) (Z0 : n0 ≤ h0.size) (F0_ : Fld Z h0 a1 "com/example/tidelog/tidelog/IdleLimit" "seconds" "J" (.long (0 : Int64))) (E_a1 : Exa Z h0 a1 "com/example/tidelog/tidelog/IdleLimit") (g_a1 : n0 ≤ a1) :
    MetFree l (⟨"com/example/tidelog/tidelog/IdleLimit", "<init>", "(J)V"⟩ : MethodName) (head1 (Jvm.Cond.code (⟨"com/example/tidelog/tidelog/IdleLimit", "<init>", "(J)V"⟩ : MethodName) prog_4_method_1_code 3 none :: ws) ({ frames := 2, cells := 0, slots := 0, locals := 24 } : Room)) (fun a U => a = #[(.ref a1), (.long q2)] ∧ Z.Warmed39 U.vm ∧ U.heap = h0) (fun _ _ _ _ _ => True) (fun _ U o U' => ∃ v L, o = .returned v ∧ Q_ct Z a1 q2 h0 n0 v U'.heap L ∧ FrameEnd U o U' L ({ frames := 2, cells := 0, slots := 0, locals := 24 } : Room).cells ({ frames := 2, cells := 0, slots := 0, locals := 24 } : Room).slots) := by
  refine MetFree.of_bodySF (plainFor_of_name own_pn1) hisR ?_
  intro p e s m args below meth c s₁ Bd hml0 hP hK
  obtain ⟨rfl, hZ, hh⟩ := hP
  have hx := Bd.exec
  have hby := Bd.bytes
  have hml : c.maxLocals = 3 := hml0
  have hown : s.vm.findClass "com/example/tidelog/tidelog/IdleLimit" = some m.cls := findClass_of_methodNamed Bd.named
  have hnm := (name_of_methodNamed Bd.named Bd.method).1
  have X0 : Stand p l e ({ frames := 2, cells := 0, slots := 0, locals := 24 } : Room) s m #[(.ref a1), (.long q2)] below meth c s₁ [] 0 0 := Stand.of_body Bd
  have e0 : s₁.heap = h0 := by rw [← hh, Bd.state]; rfl
  have N0 := Fr.nil n0
  show own_G p e below (K_ct Z a1 q2 h0 n0 s) (s₁.setTop (entryFrame m #[(.ref a1), (.long q2)] 3))
  refine own_cast (efct m a1 q2) ?_
  show own_G p e below (K_ct Z a1 q2 h0 n0 s) (s₁.setTop (mkF m 0 #[.val (.ref a1), .val (.long q2), .second] []))
  refine own_go (fun t k => XS.aloadN X0.here hx rfl (hb hby dct_0) rfl rfl k) ?_
  show own_G p e below (K_ct Z a1 q2 h0 n0 s) (s₁.setTop (mkF m 1 #[.val (.ref a1), .val (.long q2), .second] [(.ref a1)]))
  obtain ⟨_, _, ⟨T1, L1, k1, n1⟩, -, X1, ⟨Lc1, hQ1, l1, y1, z1⟩, st1⟩ := X0.specialBack hx (y := (⟨"java/lang/Record", "<init>", "()V"⟩ : MethodName)) rfl hown (mvT hZ (hw _ (List.mem_of_getElem? (i := 7) rfl))) (mvT hZ (hw _ (List.mem_of_getElem? (i := 8) rfl))) (mvT hZ (hw _ (List.mem_of_getElem? (i := 11) rfl))) (by decide) (backOf (W := 0) (rm_rec l Z a0 hw [] a1 h0 n0 Z0 ) hZ (hw _ (List.mem_of_getElem? (i := 11) rfl)) (hw _ (List.mem_of_getElem? (i := 10) rfl)) (by decide) (by decide)) (g := (mkF m 1 #[.val (.ref a1), .val (.long q2), .second] [(.ref a1)])) rfl (by rw [hml]; rfl) (Steps.refl _) (a := a1) (argsL := []) (rest := []) (lenOf own_pd0 rfl) rfl (by show 2 * 0 + _ ≤ _; exact Nat.le_of_eq rfl) (hb hby dct_1) (fun _ _ => ⟨rfl, e0, (by decide : 0 + 0 ≤ _), (by decide : 0 + 0 ≤ _)⟩)
  dsimp only [Pt.U, Pt.locs, Pt.cells, Pt.slots] at X1 l1 y1 z1 st1 hQ1
  subst l1 y1 z1
  obtain ⟨rfl, N1q, e1⟩ := hQ1
  have N1 := Fr.app N0 N1q
  refine own_tr st1 ?_
  show own_G p e below (K_ct Z a1 q2 h0 n0 s) (T1.setTop (mkF m 4 #[.val (.ref a1), .val (.long q2), .second] []))
  refine own_go (fun t k => XS.aloadN X1.here hx rfl (hb hby dct_4) rfl rfl k) ?_
  show own_G p e below (K_ct Z a1 q2 h0 n0 s) (T1.setTop (mkF m 5 #[.val (.ref a1), .val (.long q2), .second] [(.ref a1)]))
  refine own_go (fun t k => XS.lloadN X1.here hx rfl (hb hby dct_5) rfl k) ?_
  show own_G p e below (K_ct Z a1 q2 h0 n0 s) (T1.setTop (mkF m 6 #[.val (.ref a1), .val (.long q2), .second] [(.long q2), (.ref a1)]))
  obtain ⟨T2, h2, X2, e2, W2, st2⟩ := putF X1 hx hZ hown (host := "") (Or.inl (hw _ (List.mem_of_getElem? (i := 15) rfl))) Via.refl e1 F0_ E_a1 (Or.inr ⟨(hw _ (List.mem_of_getElem? (i := 16) rfl)), rfl, hnm⟩) (hw _ (List.mem_of_getElem? (i := 2) rfl)) (ty := .long) (by decide) rfl rfl (g := (mkF m 6 #[.val (.ref a1), .val (.long q2), .second] [(.long q2), (.ref a1)])) rfl rfl (hb hby dct_6)
  refine own_go st2 ?_
  have F2 := F0_.same W2
  have N2 := Fr.snoc X2 N1 g_a1
  have Z3 : n0 ≤ h2.size := Nat.le_trans Z0 (Keep.of_wr W2).1
  have K4 := Keep.wr (Keep.refl h0 [a1]) W2 (Or.inl (List.mem_of_getElem? (i := 0) rfl))
  show own_G p e below (K_ct Z a1 q2 h0 n0 s) (T2.setTop (mkF m 9 #[.val (.ref a1), .val (.long q2), .second] []))
  have Q5 := (E_a1.wr W2)
  exact own_retV X2 hx Bd.notSynchronized Bd.returns (hb hby dct_9) (fun U hU hV hF => ⟨_, _, rfl, (by rw [hU, e2]; exact ⟨rfl, N2, K4, Q5, F2⟩), hF.1, hF.2.1, hF.2.2.mono (by decide) (by decide)⟩)
theorem dip_0 : decode prog_4_method_3_code 0 = .ok (.lload_n 3, 1) := by decide +kernel
theorem dip_1 : decode prog_4_method_3_code 1 = .ok (.lload_n 1, 1) := by decide +kernel
theorem dip_2 : decode prog_4_method_3_code 2 = .ok (.lsub, 1) := by decide +kernel
theorem dip_3 : decode prog_4_method_3_code 3 = .ok (.aload_n 0, 1) := by decide +kernel
theorem dip_4 : decode prog_4_method_3_code 4 = .ok (.getfield 9, 3) := by decide +kernel
theorem dip_7 : decode prog_4_method_3_code 7 = .ok (.lcmp, 1) := by decide +kernel
theorem dip_8 : decode prog_4_method_3_code 8 = .ok (.ifCond .le 7, 3) := by decide +kernel
theorem dip_11 : decode prog_4_method_3_code 11 = .ok (.iconst 1, 1) := by decide +kernel
theorem dip_12 : decode prog_4_method_3_code 12 = .ok (.goto 4, 3) := by decide +kernel
theorem dip_15 : decode prog_4_method_3_code 15 = .ok (.iconst 0, 1) := by decide +kernel
theorem dip_16 : decode prog_4_method_3_code 16 = .ok (.ireturn, 1) := by decide +kernel
theorem efip (m : MethodId) (a1 : Addr) (q2 : Int64) (q3 : Int64) : entryFrame m #[(.ref a1), (.long q2), (.long q3)] 5 = mkF m 0 #[.val (.ref a1), .val (.long q2), .second, .val (.long q3), .second] [] := by first | (simp [entryFrame, mkF, argsToLocals, Value.category]; done) | rfl
def Q_ip (Z : State) (a1 : Addr) (q2 : Int64) (q3 : Int64) (b : Int64) (h0 : Heap) (n0 : Nat) (v : Option Value) (h : Heap) (L : List Loc) : Prop := v = some (.int (own_ip b q2 q3)) ∧ Fr n0 L ∧ h = h0
def K_ip (Z : State) (a1 : Addr) (q2 : Int64) (q3 : Int64) (b : Int64) (h0 : Heap) (n0 : Nat) (s : State) (o : Outcome) (U' : State) : Prop := ∃ v L, o = .returned v ∧ Q_ip Z a1 q2 q3 b h0 n0 v U'.heap L ∧ FrameEnd s o U' L 0 0
set_option maxRecDepth 65536 in
set_option maxHeartbeats 40000000 in
theorem rm_ip (l : Launch) (Z : State) (a0 : Array Value) (hw : ∀ d ∈ tables_1, d.before a0 Z = true) (ws : List Jvm.Cond) (a1 : Addr) (q2 : Int64) (q3 : Int64) (b : Int64) (h0 : Heap) (n0 : Nat) (Z0 : n0 ≤ h0.size) (F1 : Fld Z h0 a1 "com/example/tidelog/tidelog/IdleLimit" "seconds" "J" (.long b)) :
    MetFree l (⟨"com/example/tidelog/tidelog/IdleLimit", "isPast", "(JJ)Z"⟩ : MethodName) (head1 (Jvm.Cond.code (⟨"com/example/tidelog/tidelog/IdleLimit", "isPast", "(JJ)Z"⟩ : MethodName) prog_4_method_3_code 5 (some .boolean) :: ws) ({ frames := 0, cells := 0, slots := 0, locals := 0 } : Room)) (fun a U => a = #[(.ref a1), (.long q2), (.long q3)] ∧ Z.Warmed39 U.vm ∧ U.heap = h0) (fun _ _ _ _ _ => True) (fun _ U o U' => ∃ v L, o = .returned v ∧ Q_ip Z a1 q2 q3 b h0 n0 v U'.heap L ∧ FrameEnd U o U' L ({ frames := 0, cells := 0, slots := 0, locals := 0 } : Room).cells ({ frames := 0, cells := 0, slots := 0, locals := 0 } : Room).slots) := by
  refine MetFree.of_bodySF (plainFor_of_name own_pn1) hisR ?_
  intro p e s m args below meth c s₁ Bd hml0 hP hK
  obtain ⟨rfl, hZ, hh⟩ := hP
  have hx := Bd.exec
  have hby := Bd.bytes
  have hml : c.maxLocals = 5 := hml0
  have hown : s.vm.findClass "com/example/tidelog/tidelog/IdleLimit" = some m.cls := findClass_of_methodNamed Bd.named
  have hnm := (name_of_methodNamed Bd.named Bd.method).1
  have X0 : Stand p l e ({ frames := 0, cells := 0, slots := 0, locals := 0 } : Room) s m #[(.ref a1), (.long q2), (.long q3)] below meth c s₁ [] 0 0 := Stand.of_body Bd
  have e0 : s₁.heap = h0 := by rw [← hh, Bd.state]; rfl
  have N0 := Fr.nil n0
  show own_G p e below (K_ip Z a1 q2 q3 b h0 n0 s) (s₁.setTop (entryFrame m #[(.ref a1), (.long q2), (.long q3)] 5))
  refine own_cast (efip m a1 q2 q3) ?_
  show own_G p e below (K_ip Z a1 q2 q3 b h0 n0 s) (s₁.setTop (mkF m 0 #[.val (.ref a1), .val (.long q2), .second, .val (.long q3), .second] []))
  refine own_go (fun t k => XS.lloadN X0.here hx rfl (hb hby dip_0) rfl k) ?_
  show own_G p e below (K_ip Z a1 q2 q3 b h0 n0 s) (s₁.setTop (mkF m 1 #[.val (.ref a1), .val (.long q2), .second, .val (.long q3), .second] [(.long q3)]))
  refine own_go (fun t k => XS.lloadN X0.here hx rfl (hb hby dip_1) rfl k) ?_
  show own_G p e below (K_ip Z a1 q2 q3 b h0 n0 s) (s₁.setTop (mkF m 2 #[.val (.ref a1), .val (.long q2), .second, .val (.long q3), .second] [(.long q2), (.long q3)]))
  refine own_go (fun t k => XS.lsub X0.here hx rfl (hb hby dip_2) rfl k) ?_
  show own_G p e below (K_ip Z a1 q2 q3 b h0 n0 s) (s₁.setTop (mkF m 3 #[.val (.ref a1), .val (.long q2), .second, .val (.long q3), .second] [(.long (q3 - q2))]))
  refine own_go (fun t k => XS.aloadN X0.here hx rfl (hb hby dip_3) rfl rfl k) ?_
  show own_G p e below (K_ip Z a1 q2 q3 b h0 n0 s) (s₁.setTop (mkF m 4 #[.val (.ref a1), .val (.long q2), .second, .val (.long q3), .second] [(.ref a1), (.long (q3 - q2))]))
  obtain ⟨T1, X1, e1, st1⟩ := getF X0 hx hZ hown (host := "") (Or.inl (hw _ (List.mem_of_getElem? (i := 15) rfl))) Via.refl e0 F1 (g := (mkF m 4 #[.val (.ref a1), .val (.long q2), .second, .val (.long q3), .second] [(.ref a1), (.long (q3 - q2))])) rfl rfl (hb hby dip_4)
  refine own_go st1 ?_
  show own_G p e below (K_ip Z a1 q2 q3 b h0 n0 s) (T1.setTop (mkF m 7 #[.val (.ref a1), .val (.long q2), .second, .val (.long q3), .second] [(.long b), (.long (q3 - q2))]))
  refine own_go (fun t k => XS.lcmp X1.here hx rfl (hb hby dip_7) rfl k) ?_
  show own_G p e below (K_ip Z a1 q2 q3 b h0 n0 s) (T1.setTop (mkF m 8 #[.val (.ref a1), .val (.long q2), .second, .val (.long q3), .second] [(.int (lcmpW (q3 - q2) b))]))
  by_cases hc8_2 : b < (q3 - q2)
  · skip
    refine own_go (fun t k => XS.ifNo X1.here hx rfl (hb hby dip_8) rfl ((if0 _ _).trans (tlt ((lw_gt _ _).mpr hc8_2)).2.2.2) k) ?_
    show own_G p e below (K_ip Z a1 q2 q3 b h0 n0 s) (T1.setTop (mkF m 11 #[.val (.ref a1), .val (.long q2), .second, .val (.long q3), .second] []))
    refine own_go (fun t k => XS.iconst X1.here hx rfl (hb hby dip_11) k) ?_
    show own_G p e below (K_ip Z a1 q2 q3 b h0 n0 s) (T1.setTop (mkF m 12 #[.val (.ref a1), .val (.long q2), .second, .val (.long q3), .second] [(.int (1 : Int32))]))
    refine own_go (fun t k => XS.goto X1.here hx rfl (pc0 := 12) (pc' := 16) rfl (hb hby dip_12) (by decide) (by decide) k) ?_
    show own_G p e below (K_ip Z a1 q2 q3 b h0 n0 s) (T1.setTop (mkF m 16 #[.val (.ref a1), .val (.long q2), .second, .val (.long q3), .second] [(.int (1 : Int32))]))
    exact own_retN X1 hx Bd.notSynchronized (t := .boolean) (z' := (1 : Int32)) Bd.returns (by simp) (hb hby dip_16) rfl (fun U hU hV hF => ⟨_, _, rfl, ⟨by simp [own_ip, hc8_2], N0, hU.trans e1⟩, hF.1, hF.2.1, hF.2.2.mono (by decide) (by decide)⟩)
  · skip
    refine own_go (fun t k => XS.ifYes X1.here hx rfl (pc0 := 8) (pc' := 15) rfl (hb hby dip_8) rfl ((if0 _ _).trans (flt (mt (lw_gt _ _).mp hc8_2)).2.2.2) (by decide) (by decide) k) ?_
    show own_G p e below (K_ip Z a1 q2 q3 b h0 n0 s) (T1.setTop (mkF m 15 #[.val (.ref a1), .val (.long q2), .second, .val (.long q3), .second] []))
    refine own_go (fun t k => XS.iconst X1.here hx rfl (hb hby dip_15) k) ?_
    show own_G p e below (K_ip Z a1 q2 q3 b h0 n0 s) (T1.setTop (mkF m 16 #[.val (.ref a1), .val (.long q2), .second, .val (.long q3), .second] [(.int (0 : Int32))]))
    exact own_retN X1 hx Bd.notSynchronized (t := .boolean) (z' := (0 : Int32)) Bd.returns (by simp) (hb hby dip_16) rfl (fun U hU hV hF => ⟨_, _, rfl, ⟨by simp [own_ip, hc8_2], N0, hU.trans e1⟩, hF.1, hF.2.1, hF.2.2.mono (by decide) (by decide)⟩)
theorem own_pn2 : plainName "com/example/tidelog/tidelog/IdleLimitIsPastPinLaw" = true := by first | (simp [plainName, overriddenIn]; done) | decide +kernel
theorem own_pd1 : parseMethodDescriptor "(J)V" = some ⟨[.long], none⟩ := by decide +kernel
theorem own_pd2 : parseMethodDescriptor "(JJ)Z" = some ⟨[.long, .long], some .boolean⟩ := by decide +kernel
theorem ef0 (m : MethodId) (q0 : Int64) (q1 : Int64) (q2 : Int64) (p3 : Int32) : entryFrame m #[(.long q0), (.long q1), (.long q2), (.int p3)] maxLocals = mkF m 0 #[.val (.long q0), .second, .val (.long q1), .second, .val (.long q2), .second, .val (.int p3), .unset, .unset, .unset, .unset, .unset, .unset, .unset, .unset, .unset, .unset] [] := by first | (simp [entryFrame, mkF, argsToLocals, Value.category, maxLocals]; done) | rfl
def Q_0 (Z : State) (q0 : Int64) (q1 : Int64) (q2 : Int64) (p3 : Int32) (h0 : Heap) (n0 : Nat) (v : Option Value) (h : Heap) (L : List Loc) : Prop := v = some (.int 1) ∧ Fr n0 L
def K_0 (Z : State) (q0 : Int64) (q1 : Int64) (q2 : Int64) (p3 : Int32) (h0 : Heap) (n0 : Nat) (s : State) (o : Outcome) (U' : State) : Prop := ∃ v L, o = .returned v ∧ Q_0 Z q0 q1 q2 p3 h0 n0 v U'.heap L ∧ FrameEnd s o U' L 16 128
set_option maxRecDepth 65536 in
set_option maxHeartbeats 40000000 in
theorem rm_0 (l : Launch) (Z : State) (a0 : Array Value) (hw : ∀ d ∈ tables_1, d.before a0 Z = true) (ws : List Jvm.Cond) (q0 : Int64) (q1 : Int64) (q2 : Int64) (p3 : Int32) (h0 : Heap) (n0 : Nat) (Z0 : n0 ≤ h0.size) :
    MetFree l x (head1 (Jvm.Cond.code x code maxLocals ret :: ws) room_1) (fun a U => a = #[(.long q0), (.long q1), (.long q2), (.int p3)] ∧ Z.Warmed39 U.vm ∧ U.heap = h0) (fun _ _ _ _ _ => True) (fun _ U o U' => ∃ v L, o = .returned v ∧ Q_0 Z q0 q1 q2 p3 h0 n0 v U'.heap L ∧ FrameEnd U o U' L room_1.cells room_1.slots) := by
  refine MetFree.of_bodySF (plainFor_of_name own_pn2) hisR ?_
  intro p e s m args below meth c s₁ Bd hml0 hP hK
  obtain ⟨rfl, hZ, hh⟩ := hP
  have hx := Bd.exec
  have hby := Bd.bytes
  have hml : c.maxLocals = 17 := hml0
  have hown : s.vm.findClass "com/example/tidelog/tidelog/IdleLimitIsPastPinLaw" = some m.cls := findClass_of_methodNamed Bd.named
  have hnm := (name_of_methodNamed Bd.named Bd.method).1
  have X0 : Stand p l e room_1 s m #[(.long q0), (.long q1), (.long q2), (.int p3)] below meth c s₁ [] 0 0 := Stand.of_body Bd
  have e0 : s₁.heap = h0 := by rw [← hh, Bd.state]; rfl
  have N0 := Fr.nil n0
  show own_G p e below (K_0 Z q0 q1 q2 p3 h0 n0 s) (s₁.setTop (entryFrame m #[(.long q0), (.long q1), (.long q2), (.int p3)] maxLocals))
  refine own_cast (ef0 m q0 q1 q2 p3) ?_
  show own_G p e below (K_0 Z q0 q1 q2 p3 h0 n0 s) (s₁.setTop (mkF m 0 #[.val (.long q0), .second, .val (.long q1), .second, .val (.long q2), .second, .val (.int p3), .unset, .unset, .unset, .unset, .unset, .unset, .unset, .unset, .unset, .unset] []))
  refine own_go (fun t k => XS.lloadN X0.here hx rfl (hb hby at_0) rfl k) ?_
  show own_G p e below (K_0 Z q0 q1 q2 p3 h0 n0 s) (s₁.setTop (mkF m 1 #[.val (.long q0), .second, .val (.long q1), .second, .val (.long q2), .second, .val (.int p3), .unset, .unset, .unset, .unset, .unset, .unset, .unset, .unset, .unset, .unset] [(.long q0)]))
  refine own_go (X0.ldc2Long hx hown (mvT hZ (hw _ (List.mem_of_getElem? (i := 0) rfl))) (g := (mkF m 1 #[.val (.long q0), .second, .val (.long q1), .second, .val (.long q2), .second, .val (.int p3), .unset, .unset, .unset, .unset, .unset, .unset, .unset, .unset, .unset, .unset] [(.long q0)])) rfl (hb hby at_1)) ?_
  show own_G p e below (K_0 Z q0 q1 q2 p3 h0 n0 s) (s₁.setTop (mkF m 4 #[.val (.long q0), .second, .val (.long q1), .second, .val (.long q2), .second, .val (.int p3), .unset, .unset, .unset, .unset, .unset, .unset, .unset, .unset, .unset, .unset] [(.long (9223372036854775807 : Int64)), (.long q0)]))
  refine own_go (fun t k => XS.land X0.here hx rfl (hb hby at_4) rfl k) ?_
  show own_G p e below (K_0 Z q0 q1 q2 p3 h0 n0 s) (s₁.setTop (mkF m 5 #[.val (.long q0), .second, .val (.long q1), .second, .val (.long q2), .second, .val (.int p3), .unset, .unset, .unset, .unset, .unset, .unset, .unset, .unset, .unset, .unset] [(.long (q0 &&& (9223372036854775807 : Int64)))]))
  refine own_go (fun t k => XS.lstore X0.here hx rfl (hb hby at_5) rfl (l' := #[.val (.long q0), .second, .val (.long q1), .second, .val (.long q2), .second, .val (.int p3), .val (.long (q0 &&& (9223372036854775807 : Int64))), .second, .unset, .unset, .unset, .unset, .unset, .unset, .unset, .unset]) rfl k) ?_
  show own_G p e below (K_0 Z q0 q1 q2 p3 h0 n0 s) (s₁.setTop (mkF m 7 #[.val (.long q0), .second, .val (.long q1), .second, .val (.long q2), .second, .val (.int p3), .val (.long (q0 &&& (9223372036854775807 : Int64))), .second, .unset, .unset, .unset, .unset, .unset, .unset, .unset, .unset] []))
  refine own_go (fun t k => XS.lloadN X0.here hx rfl (hb hby at_7) rfl k) ?_
  show own_G p e below (K_0 Z q0 q1 q2 p3 h0 n0 s) (s₁.setTop (mkF m 8 #[.val (.long q0), .second, .val (.long q1), .second, .val (.long q2), .second, .val (.int p3), .val (.long (q0 &&& (9223372036854775807 : Int64))), .second, .unset, .unset, .unset, .unset, .unset, .unset, .unset, .unset] [(.long q1)]))
  refine own_go (X0.ldc2Long hx hown (mvT hZ (hw _ (List.mem_of_getElem? (i := 0) rfl))) (g := (mkF m 8 #[.val (.long q0), .second, .val (.long q1), .second, .val (.long q2), .second, .val (.int p3), .val (.long (q0 &&& (9223372036854775807 : Int64))), .second, .unset, .unset, .unset, .unset, .unset, .unset, .unset, .unset] [(.long q1)])) rfl (hb hby at_8)) ?_
  show own_G p e below (K_0 Z q0 q1 q2 p3 h0 n0 s) (s₁.setTop (mkF m 11 #[.val (.long q0), .second, .val (.long q1), .second, .val (.long q2), .second, .val (.int p3), .val (.long (q0 &&& (9223372036854775807 : Int64))), .second, .unset, .unset, .unset, .unset, .unset, .unset, .unset, .unset] [(.long (9223372036854775807 : Int64)), (.long q1)]))
  refine own_go (fun t k => XS.land X0.here hx rfl (hb hby at_11) rfl k) ?_
  show own_G p e below (K_0 Z q0 q1 q2 p3 h0 n0 s) (s₁.setTop (mkF m 12 #[.val (.long q0), .second, .val (.long q1), .second, .val (.long q2), .second, .val (.int p3), .val (.long (q0 &&& (9223372036854775807 : Int64))), .second, .unset, .unset, .unset, .unset, .unset, .unset, .unset, .unset] [(.long (q1 &&& (9223372036854775807 : Int64)))]))
  refine own_go (fun t k => XS.lstore X0.here hx rfl (hb hby at_12) rfl (l' := #[.val (.long q0), .second, .val (.long q1), .second, .val (.long q2), .second, .val (.int p3), .val (.long (q0 &&& (9223372036854775807 : Int64))), .second, .val (.long (q1 &&& (9223372036854775807 : Int64))), .second, .unset, .unset, .unset, .unset, .unset, .unset]) rfl k) ?_
  show own_G p e below (K_0 Z q0 q1 q2 p3 h0 n0 s) (s₁.setTop (mkF m 14 #[.val (.long q0), .second, .val (.long q1), .second, .val (.long q2), .second, .val (.int p3), .val (.long (q0 &&& (9223372036854775807 : Int64))), .second, .val (.long (q1 &&& (9223372036854775807 : Int64))), .second, .unset, .unset, .unset, .unset, .unset, .unset] []))
  refine own_go (fun t k => XS.lload X0.here hx rfl (hb hby at_14) rfl k) ?_
  show own_G p e below (K_0 Z q0 q1 q2 p3 h0 n0 s) (s₁.setTop (mkF m 16 #[.val (.long q0), .second, .val (.long q1), .second, .val (.long q2), .second, .val (.int p3), .val (.long (q0 &&& (9223372036854775807 : Int64))), .second, .val (.long (q1 &&& (9223372036854775807 : Int64))), .second, .unset, .unset, .unset, .unset, .unset, .unset] [(.long q2)]))
  refine own_go (X0.ldc2Long hx hown (mvT hZ (hw _ (List.mem_of_getElem? (i := 0) rfl))) (g := (mkF m 16 #[.val (.long q0), .second, .val (.long q1), .second, .val (.long q2), .second, .val (.int p3), .val (.long (q0 &&& (9223372036854775807 : Int64))), .second, .val (.long (q1 &&& (9223372036854775807 : Int64))), .second, .unset, .unset, .unset, .unset, .unset, .unset] [(.long q2)])) rfl (hb hby at_16)) ?_
  show own_G p e below (K_0 Z q0 q1 q2 p3 h0 n0 s) (s₁.setTop (mkF m 19 #[.val (.long q0), .second, .val (.long q1), .second, .val (.long q2), .second, .val (.int p3), .val (.long (q0 &&& (9223372036854775807 : Int64))), .second, .val (.long (q1 &&& (9223372036854775807 : Int64))), .second, .unset, .unset, .unset, .unset, .unset, .unset] [(.long (9223372036854775807 : Int64)), (.long q2)]))
  refine own_go (fun t k => XS.land X0.here hx rfl (hb hby at_19) rfl k) ?_
  show own_G p e below (K_0 Z q0 q1 q2 p3 h0 n0 s) (s₁.setTop (mkF m 20 #[.val (.long q0), .second, .val (.long q1), .second, .val (.long q2), .second, .val (.int p3), .val (.long (q0 &&& (9223372036854775807 : Int64))), .second, .val (.long (q1 &&& (9223372036854775807 : Int64))), .second, .unset, .unset, .unset, .unset, .unset, .unset] [(.long (q2 &&& (9223372036854775807 : Int64)))]))
  refine own_go (fun t k => XS.lstore X0.here hx rfl (hb hby at_20) rfl (l' := #[.val (.long q0), .second, .val (.long q1), .second, .val (.long q2), .second, .val (.int p3), .val (.long (q0 &&& (9223372036854775807 : Int64))), .second, .val (.long (q1 &&& (9223372036854775807 : Int64))), .second, .val (.long (q2 &&& (9223372036854775807 : Int64))), .second, .unset, .unset, .unset, .unset]) rfl k) ?_
  show own_G p e below (K_0 Z q0 q1 q2 p3 h0 n0 s) (s₁.setTop (mkF m 22 #[.val (.long q0), .second, .val (.long q1), .second, .val (.long q2), .second, .val (.int p3), .val (.long (q0 &&& (9223372036854775807 : Int64))), .second, .val (.long (q1 &&& (9223372036854775807 : Int64))), .second, .val (.long (q2 &&& (9223372036854775807 : Int64))), .second, .unset, .unset, .unset, .unset] []))
  refine own_go (fun t k => XS.iload X0.here hx rfl (hb hby at_22) rfl k) ?_
  show own_G p e below (K_0 Z q0 q1 q2 p3 h0 n0 s) (s₁.setTop (mkF m 24 #[.val (.long q0), .second, .val (.long q1), .second, .val (.long q2), .second, .val (.int p3), .val (.long (q0 &&& (9223372036854775807 : Int64))), .second, .val (.long (q1 &&& (9223372036854775807 : Int64))), .second, .val (.long (q2 &&& (9223372036854775807 : Int64))), .second, .unset, .unset, .unset, .unset] [(.int p3)]))
  refine own_go (fun t k => XS.iconst X0.here hx rfl (hb hby at_24) k) ?_
  show own_G p e below (K_0 Z q0 q1 q2 p3 h0 n0 s) (s₁.setTop (mkF m 25 #[.val (.long q0), .second, .val (.long q1), .second, .val (.long q2), .second, .val (.int p3), .val (.long (q0 &&& (9223372036854775807 : Int64))), .second, .val (.long (q1 &&& (9223372036854775807 : Int64))), .second, .val (.long (q2 &&& (9223372036854775807 : Int64))), .second, .unset, .unset, .unset, .unset] [(.int (1 : Int32)), (.int p3)]))
  refine own_go (fun t k => XS.iand X0.here hx rfl (hb hby at_25) rfl k) ?_
  show own_G p e below (K_0 Z q0 q1 q2 p3 h0 n0 s) (s₁.setTop (mkF m 26 #[.val (.long q0), .second, .val (.long q1), .second, .val (.long q2), .second, .val (.int p3), .val (.long (q0 &&& (9223372036854775807 : Int64))), .second, .val (.long (q1 &&& (9223372036854775807 : Int64))), .second, .val (.long (q2 &&& (9223372036854775807 : Int64))), .second, .unset, .unset, .unset, .unset] [(.int (p3 &&& (1 : Int32)))]))
  by_cases hc26_1 : (p3 &&& (1 : Int32)) = (0 : Int32)
  · skip
    refine own_go (fun t k => XS.ifYes X0.here hx rfl (pc0 := 26) (pc' := 73) rfl (hb hby at_26) rfl ((if0 _ _).trans (teq hc26_1).1) (by decide) (by decide) k) ?_
    show own_G p e below (K_0 Z q0 q1 q2 p3 h0 n0 s) (s₁.setTop (mkF m 73 #[.val (.long q0), .second, .val (.long q1), .second, .val (.long q2), .second, .val (.int p3), .val (.long (q0 &&& (9223372036854775807 : Int64))), .second, .val (.long (q1 &&& (9223372036854775807 : Int64))), .second, .val (.long (q2 &&& (9223372036854775807 : Int64))), .second, .unset, .unset, .unset, .unset] []))
    obtain ⟨T2, h2, X2, e2, E2, A2, D2, -, st2⟩ := newO X0 hx hZ hown (hw _ (List.mem_of_getElem? (i := 1) rfl)) (hw _ (List.mem_of_getElem? (i := 2) rfl)) (hw _ (List.mem_of_getElem? (i := 3) rfl)) e0 (g := (mkF m 73 #[.val (.long q0), .second, .val (.long q1), .second, .val (.long q2), .second, .val (.int p3), .val (.long (q0 &&& (9223372036854775807 : Int64))), .second, .val (.long (q1 &&& (9223372036854775807 : Int64))), .second, .val (.long (q2 &&& (9223372036854775807 : Int64))), .second, .unset, .unset, .unset, .unset] [])) rfl (hb hby at_73) (by decide) (by decide)
    obtain ⟨b2, g2⟩ : ∃ z, z = h0.size := ⟨_, rfl⟩
    rw [← g2] at A2 D2 st2
    refine own_go st2 ?_
    have g_b2 : n0 ≤ b2 := Nat.le_trans Z0 (Nat.le_of_eq g2.symm)
    have Z3 : n0 ≤ h2.size := Nat.le_trans Z0 E2.1
    have F2_seconds : Fld Z h2 b2 "com/example/tidelog/tidelog/IdleLimit" "seconds" "J" (.long (0 : Int64)) := D2 (Or.inr (hw _ (List.mem_of_getElem? (i := 16) rfl))) (ty := .long) (by decide)
    show own_G p e below (K_0 Z q0 q1 q2 p3 h0 n0 s) (T2.setTop (mkF m 76 #[.val (.long q0), .second, .val (.long q1), .second, .val (.long q2), .second, .val (.int p3), .val (.long (q0 &&& (9223372036854775807 : Int64))), .second, .val (.long (q1 &&& (9223372036854775807 : Int64))), .second, .val (.long (q2 &&& (9223372036854775807 : Int64))), .second, .unset, .unset, .unset, .unset] [(.ref b2)]))
    refine own_go (fun t k => XS.dup X2.here hx rfl (hb hby at_76) rfl rfl k) ?_
    show own_G p e below (K_0 Z q0 q1 q2 p3 h0 n0 s) (T2.setTop (mkF m 77 #[.val (.long q0), .second, .val (.long q1), .second, .val (.long q2), .second, .val (.int p3), .val (.long (q0 &&& (9223372036854775807 : Int64))), .second, .val (.long (q1 &&& (9223372036854775807 : Int64))), .second, .val (.long (q2 &&& (9223372036854775807 : Int64))), .second, .unset, .unset, .unset, .unset] [(.ref b2), (.ref b2)]))
    refine own_go (fun t k => XS.lload X2.here hx rfl (hb hby at_77) rfl k) ?_
    show own_G p e below (K_0 Z q0 q1 q2 p3 h0 n0 s) (T2.setTop (mkF m 79 #[.val (.long q0), .second, .val (.long q1), .second, .val (.long q2), .second, .val (.int p3), .val (.long (q0 &&& (9223372036854775807 : Int64))), .second, .val (.long (q1 &&& (9223372036854775807 : Int64))), .second, .val (.long (q2 &&& (9223372036854775807 : Int64))), .second, .unset, .unset, .unset, .unset] [(.long (q0 &&& (9223372036854775807 : Int64))), (.ref b2), (.ref b2)]))
    obtain ⟨_, _, ⟨T4, L4, k4, n4⟩, -, X4, ⟨Lc4, hQ4, l4, y4, z4⟩, st4⟩ := X2.specialBack hx (y := (⟨"com/example/tidelog/tidelog/IdleLimit", "<init>", "(J)V"⟩ : MethodName)) rfl hown (mvT hZ (hw _ (List.mem_of_getElem? (i := 4) rfl))) (mvT hZ (hw _ (List.mem_of_getElem? (i := 5) rfl))) (mvT hZ (hw _ (List.mem_of_getElem? (i := 6) rfl))) (by decide) (backOf (W := 1) (rm_ct l Z a0 hw [] b2 (q0 &&& (9223372036854775807 : Int64)) h2 n0 Z3 F2_seconds A2 g_b2) hZ (hw _ (List.mem_of_getElem? (i := 6) rfl)) (hw _ (List.mem_of_getElem? (i := 3) rfl)) (by decide) (by decide)) (g := (mkF m 79 #[.val (.long q0), .second, .val (.long q1), .second, .val (.long q2), .second, .val (.int p3), .val (.long (q0 &&& (9223372036854775807 : Int64))), .second, .val (.long (q1 &&& (9223372036854775807 : Int64))), .second, .val (.long (q2 &&& (9223372036854775807 : Int64))), .second, .unset, .unset, .unset, .unset] [(.long (q0 &&& (9223372036854775807 : Int64))), (.ref b2), (.ref b2)])) rfl (by rw [hml]; rfl) (Steps.refl _) (a := b2) (argsL := [(.long (q0 &&& (9223372036854775807 : Int64)))]) (rest := [(.ref b2)]) (lenOf own_pd1 rfl) rfl (by show 2 * 0 + _ ≤ _; exact Nat.le_of_eq rfl) (hb hby at_79) (fun _ _ => ⟨rfl, e2, (by decide : 1 + 0 ≤ _), (by decide : 1 + 0 ≤ _)⟩)
    dsimp only [Pt.U, Pt.locs, Pt.cells, Pt.slots] at X4 l4 y4 z4 st4 hQ4
    subst l4 y4 z4
    obtain ⟨rfl, N4q, K4q, E4q, F4_0⟩ := hQ4
    have N4 := Fr.app N0 N4q
    obtain ⟨h4, e4⟩ : ∃ z, T4.heap = z := ⟨_, rfl⟩
    rw [e4] at K4q E4q F4_0
    have Z5 : n0 ≤ h4.size := Nat.le_trans Z3 K4q.1
    refine own_tr st4 ?_
    show own_G p e below (K_0 Z q0 q1 q2 p3 h0 n0 s) (T4.setTop (mkF m 82 #[.val (.long q0), .second, .val (.long q1), .second, .val (.long q2), .second, .val (.int p3), .val (.long (q0 &&& (9223372036854775807 : Int64))), .second, .val (.long (q1 &&& (9223372036854775807 : Int64))), .second, .val (.long (q2 &&& (9223372036854775807 : Int64))), .second, .unset, .unset, .unset, .unset] [(.ref b2)]))
    refine own_go (fun t k => XS.astore X4.here hx rfl (hb hby at_82) rfl rfl (l' := #[.val (.long q0), .second, .val (.long q1), .second, .val (.long q2), .second, .val (.int p3), .val (.long (q0 &&& (9223372036854775807 : Int64))), .second, .val (.long (q1 &&& (9223372036854775807 : Int64))), .second, .val (.long (q2 &&& (9223372036854775807 : Int64))), .second, .val (.ref b2), .unset, .unset, .unset]) rfl k) ?_
    show own_G p e below (K_0 Z q0 q1 q2 p3 h0 n0 s) (T4.setTop (mkF m 84 #[.val (.long q0), .second, .val (.long q1), .second, .val (.long q2), .second, .val (.int p3), .val (.long (q0 &&& (9223372036854775807 : Int64))), .second, .val (.long (q1 &&& (9223372036854775807 : Int64))), .second, .val (.long (q2 &&& (9223372036854775807 : Int64))), .second, .val (.ref b2), .unset, .unset, .unset] []))
    refine own_go (fun t k => XS.lload X4.here hx rfl (hb hby at_84) rfl k) ?_
    show own_G p e below (K_0 Z q0 q1 q2 p3 h0 n0 s) (T4.setTop (mkF m 86 #[.val (.long q0), .second, .val (.long q1), .second, .val (.long q2), .second, .val (.int p3), .val (.long (q0 &&& (9223372036854775807 : Int64))), .second, .val (.long (q1 &&& (9223372036854775807 : Int64))), .second, .val (.long (q2 &&& (9223372036854775807 : Int64))), .second, .val (.ref b2), .unset, .unset, .unset] [(.long (q2 &&& (9223372036854775807 : Int64)))]))
    refine own_go (fun t k => XS.lload X4.here hx rfl (hb hby at_86) rfl k) ?_
    show own_G p e below (K_0 Z q0 q1 q2 p3 h0 n0 s) (T4.setTop (mkF m 88 #[.val (.long q0), .second, .val (.long q1), .second, .val (.long q2), .second, .val (.int p3), .val (.long (q0 &&& (9223372036854775807 : Int64))), .second, .val (.long (q1 &&& (9223372036854775807 : Int64))), .second, .val (.long (q2 &&& (9223372036854775807 : Int64))), .second, .val (.ref b2), .unset, .unset, .unset] [(.long (q0 &&& (9223372036854775807 : Int64))), (.long (q2 &&& (9223372036854775807 : Int64)))]))
    refine own_go (fun t k => XS.lsub X4.here hx rfl (hb hby at_88) rfl k) ?_
    show own_G p e below (K_0 Z q0 q1 q2 p3 h0 n0 s) (T4.setTop (mkF m 89 #[.val (.long q0), .second, .val (.long q1), .second, .val (.long q2), .second, .val (.int p3), .val (.long (q0 &&& (9223372036854775807 : Int64))), .second, .val (.long (q1 &&& (9223372036854775807 : Int64))), .second, .val (.long (q2 &&& (9223372036854775807 : Int64))), .second, .val (.ref b2), .unset, .unset, .unset] [(.long ((q2 &&& (9223372036854775807 : Int64)) - (q0 &&& (9223372036854775807 : Int64))))]))
    refine own_go (fun t k => XS.lload X4.here hx rfl (hb hby at_89) rfl k) ?_
    show own_G p e below (K_0 Z q0 q1 q2 p3 h0 n0 s) (T4.setTop (mkF m 91 #[.val (.long q0), .second, .val (.long q1), .second, .val (.long q2), .second, .val (.int p3), .val (.long (q0 &&& (9223372036854775807 : Int64))), .second, .val (.long (q1 &&& (9223372036854775807 : Int64))), .second, .val (.long (q2 &&& (9223372036854775807 : Int64))), .second, .val (.ref b2), .unset, .unset, .unset] [(.long (q1 &&& (9223372036854775807 : Int64))), (.long ((q2 &&& (9223372036854775807 : Int64)) - (q0 &&& (9223372036854775807 : Int64))))]))
    refine own_go (fun t k => XS.lcmp X4.here hx rfl (hb hby at_91) rfl k) ?_
    show own_G p e below (K_0 Z q0 q1 q2 p3 h0 n0 s) (T4.setTop (mkF m 92 #[.val (.long q0), .second, .val (.long q1), .second, .val (.long q2), .second, .val (.int p3), .val (.long (q0 &&& (9223372036854775807 : Int64))), .second, .val (.long (q1 &&& (9223372036854775807 : Int64))), .second, .val (.long (q2 &&& (9223372036854775807 : Int64))), .second, .val (.ref b2), .unset, .unset, .unset] [(.int (lcmpW ((q2 &&& (9223372036854775807 : Int64)) - (q0 &&& (9223372036854775807 : Int64))) (q1 &&& (9223372036854775807 : Int64))))]))
    obtain ⟨z6, hz6⟩ : ∃ z : Int32, z = (if (q1 &&& (9223372036854775807 : Int64)) < ((q2 &&& (9223372036854775807 : Int64)) - (q0 &&& (9223372036854775807 : Int64))) then (1 : Int32) else (0 : Int32)) := ⟨_, rfl⟩
    suffices Jz6 : own_G p e below (K_0 Z q0 q1 q2 p3 h0 n0 s) (T4.setTop (mkF m 100 #[.val (.long q0), .second, .val (.long q1), .second, .val (.long q2), .second, .val (.int p3), .val (.long (q0 &&& (9223372036854775807 : Int64))), .second, .val (.long (q1 &&& (9223372036854775807 : Int64))), .second, .val (.long (q2 &&& (9223372036854775807 : Int64))), .second, .val (.ref b2), .unset, .unset, .unset] [(.int z6)])) by
      by_cases hc92_7 : (q1 &&& (9223372036854775807 : Int64)) < ((q2 &&& (9223372036854775807 : Int64)) - (q0 &&& (9223372036854775807 : Int64)))
      · skip
        rw [if_pos hc92_7] at hz6
        refine own_go (fun t k => XS.ifNo X4.here hx rfl (hb hby at_92) rfl ((if0 _ _).trans (tlt ((lw_gt _ _).mpr hc92_7)).2.2.2) k) ?_
        show own_G p e below (K_0 Z q0 q1 q2 p3 h0 n0 s) (T4.setTop (mkF m 95 #[.val (.long q0), .second, .val (.long q1), .second, .val (.long q2), .second, .val (.int p3), .val (.long (q0 &&& (9223372036854775807 : Int64))), .second, .val (.long (q1 &&& (9223372036854775807 : Int64))), .second, .val (.long (q2 &&& (9223372036854775807 : Int64))), .second, .val (.ref b2), .unset, .unset, .unset] []))
        refine own_go (fun t k => XS.iconst X4.here hx rfl (hb hby at_95) k) ?_
        show own_G p e below (K_0 Z q0 q1 q2 p3 h0 n0 s) (T4.setTop (mkF m 96 #[.val (.long q0), .second, .val (.long q1), .second, .val (.long q2), .second, .val (.int p3), .val (.long (q0 &&& (9223372036854775807 : Int64))), .second, .val (.long (q1 &&& (9223372036854775807 : Int64))), .second, .val (.long (q2 &&& (9223372036854775807 : Int64))), .second, .val (.ref b2), .unset, .unset, .unset] [(.int (1 : Int32))]))
        refine own_go (fun t k => XS.goto X4.here hx rfl (pc0 := 96) (pc' := 100) rfl (hb hby at_96) (by decide) (by decide) k) ?_
        show own_G p e below (K_0 Z q0 q1 q2 p3 h0 n0 s) (T4.setTop (mkF m 100 #[.val (.long q0), .second, .val (.long q1), .second, .val (.long q2), .second, .val (.int p3), .val (.long (q0 &&& (9223372036854775807 : Int64))), .second, .val (.long (q1 &&& (9223372036854775807 : Int64))), .second, .val (.long (q2 &&& (9223372036854775807 : Int64))), .second, .val (.ref b2), .unset, .unset, .unset] [(.int (1 : Int32))]))
        subst hz6; exact Jz6
      · skip
        rw [if_neg hc92_7] at hz6
        refine own_go (fun t k => XS.ifYes X4.here hx rfl (pc0 := 92) (pc' := 99) rfl (hb hby at_92) rfl ((if0 _ _).trans (flt (mt (lw_gt _ _).mp hc92_7)).2.2.2) (by decide) (by decide) k) ?_
        show own_G p e below (K_0 Z q0 q1 q2 p3 h0 n0 s) (T4.setTop (mkF m 99 #[.val (.long q0), .second, .val (.long q1), .second, .val (.long q2), .second, .val (.int p3), .val (.long (q0 &&& (9223372036854775807 : Int64))), .second, .val (.long (q1 &&& (9223372036854775807 : Int64))), .second, .val (.long (q2 &&& (9223372036854775807 : Int64))), .second, .val (.ref b2), .unset, .unset, .unset] []))
        refine own_go (fun t k => XS.iconst X4.here hx rfl (hb hby at_99) k) ?_
        show own_G p e below (K_0 Z q0 q1 q2 p3 h0 n0 s) (T4.setTop (mkF m 100 #[.val (.long q0), .second, .val (.long q1), .second, .val (.long q2), .second, .val (.int p3), .val (.long (q0 &&& (9223372036854775807 : Int64))), .second, .val (.long (q1 &&& (9223372036854775807 : Int64))), .second, .val (.long (q2 &&& (9223372036854775807 : Int64))), .second, .val (.ref b2), .unset, .unset, .unset] [(.int (0 : Int32))]))
        subst hz6; exact Jz6
    show own_G p e below (K_0 Z q0 q1 q2 p3 h0 n0 s) (T4.setTop (mkF m 100 #[.val (.long q0), .second, .val (.long q1), .second, .val (.long q2), .second, .val (.int p3), .val (.long (q0 &&& (9223372036854775807 : Int64))), .second, .val (.long (q1 &&& (9223372036854775807 : Int64))), .second, .val (.long (q2 &&& (9223372036854775807 : Int64))), .second, .val (.ref b2), .unset, .unset, .unset] [(.int z6)]))
    refine own_go (fun t k => XS.istore X4.here hx rfl (hb hby at_100) rfl (l' := #[.val (.long q0), .second, .val (.long q1), .second, .val (.long q2), .second, .val (.int p3), .val (.long (q0 &&& (9223372036854775807 : Int64))), .second, .val (.long (q1 &&& (9223372036854775807 : Int64))), .second, .val (.long (q2 &&& (9223372036854775807 : Int64))), .second, .val (.ref b2), .val (.int z6), .unset, .unset]) rfl k) ?_
    show own_G p e below (K_0 Z q0 q1 q2 p3 h0 n0 s) (T4.setTop (mkF m 102 #[.val (.long q0), .second, .val (.long q1), .second, .val (.long q2), .second, .val (.int p3), .val (.long (q0 &&& (9223372036854775807 : Int64))), .second, .val (.long (q1 &&& (9223372036854775807 : Int64))), .second, .val (.long (q2 &&& (9223372036854775807 : Int64))), .second, .val (.ref b2), .val (.int z6), .unset, .unset] []))
    refine own_go (fun t k => XS.aload X4.here hx rfl (hb hby at_102) rfl rfl k) ?_
    show own_G p e below (K_0 Z q0 q1 q2 p3 h0 n0 s) (T4.setTop (mkF m 104 #[.val (.long q0), .second, .val (.long q1), .second, .val (.long q2), .second, .val (.int p3), .val (.long (q0 &&& (9223372036854775807 : Int64))), .second, .val (.long (q1 &&& (9223372036854775807 : Int64))), .second, .val (.long (q2 &&& (9223372036854775807 : Int64))), .second, .val (.ref b2), .val (.int z6), .unset, .unset] [(.ref b2)]))
    refine own_go (fun t k => XS.lload X4.here hx rfl (hb hby at_104) rfl k) ?_
    show own_G p e below (K_0 Z q0 q1 q2 p3 h0 n0 s) (T4.setTop (mkF m 106 #[.val (.long q0), .second, .val (.long q1), .second, .val (.long q2), .second, .val (.int p3), .val (.long (q0 &&& (9223372036854775807 : Int64))), .second, .val (.long (q1 &&& (9223372036854775807 : Int64))), .second, .val (.long (q2 &&& (9223372036854775807 : Int64))), .second, .val (.ref b2), .val (.int z6), .unset, .unset] [(.long (q1 &&& (9223372036854775807 : Int64))), (.ref b2)]))
    refine own_go (fun t k => XS.lload X4.here hx rfl (hb hby at_106) rfl k) ?_
    show own_G p e below (K_0 Z q0 q1 q2 p3 h0 n0 s) (T4.setTop (mkF m 108 #[.val (.long q0), .second, .val (.long q1), .second, .val (.long q2), .second, .val (.int p3), .val (.long (q0 &&& (9223372036854775807 : Int64))), .second, .val (.long (q1 &&& (9223372036854775807 : Int64))), .second, .val (.long (q2 &&& (9223372036854775807 : Int64))), .second, .val (.ref b2), .val (.int z6), .unset, .unset] [(.long (q2 &&& (9223372036854775807 : Int64))), (.long (q1 &&& (9223372036854775807 : Int64))), (.ref b2)]))
    obtain ⟨cq8, kq8, q8a, q8b, q8c⟩ := isOf hZ e4 E4q
    obtain ⟨_, _, ⟨T8, L8, k8, n8⟩, -, X8, ⟨Lc8, hQ8, l8, y8, z8⟩, st8⟩ := X4.virtualBack hx (y := (⟨"com/example/tidelog/tidelog/IdleLimit", "isPast", "(JJ)Z"⟩ : MethodName)) (z := (⟨"com/example/tidelog/tidelog/IdleLimit", "isPast", "(JJ)Z"⟩ : MethodName)) hown (mvT hZ (hw _ (List.mem_of_getElem? (i := 17) rfl))) (mvT hZ (hw _ (List.mem_of_getElem? (i := 18) rfl))) (notFace_of_selects (args := #[]) (mvT hZ (hw _ (List.mem_of_getElem? (i := 20) rfl)))) (mvT hZ (hw _ (List.mem_of_getElem? (i := 20) rfl))) (mvT hZ (hw _ (List.mem_of_getElem? (i := 19) rfl))) (by decide) (backOf (W := 0) (rm_ip l Z a0 hw [] b2 (q1 &&& (9223372036854775807 : Int64)) (q2 &&& (9223372036854775807 : Int64)) (q0 &&& (9223372036854775807 : Int64)) h4 n0 Z5 F4_0) hZ (hw _ (List.mem_of_getElem? (i := 21) rfl)) (hw _ (List.mem_of_getElem? (i := 3) rfl)) (by decide) (by decide)) q8a q8c (g := (mkF m 108 #[.val (.long q0), .second, .val (.long q1), .second, .val (.long q2), .second, .val (.int p3), .val (.long (q0 &&& (9223372036854775807 : Int64))), .second, .val (.long (q1 &&& (9223372036854775807 : Int64))), .second, .val (.long (q2 &&& (9223372036854775807 : Int64))), .second, .val (.ref b2), .val (.int z6), .unset, .unset] [(.long (q2 &&& (9223372036854775807 : Int64))), (.long (q1 &&& (9223372036854775807 : Int64))), (.ref b2)])) rfl (by rw [hml]; rfl) (Steps.refl _) (argsL := [(.long (q1 &&& (9223372036854775807 : Int64))), (.long (q2 &&& (9223372036854775807 : Int64)))]) (rest := []) (lenOf own_pd2 rfl) rfl (by show 2 * 0 + _ ≤ _; exact Nat.le_of_eq rfl) (hb hby at_108) (fun _ _ => ⟨rfl, e4, (by decide : 1 + 0 ≤ _), (by decide : 1 + 0 ≤ _)⟩)
    dsimp only [Pt.U, Pt.locs, Pt.cells, Pt.slots] at X8 l8 y8 z8 st8 hQ8
    subst l8 y8 z8
    obtain ⟨rfl, N8q, e8⟩ := hQ8
    have N8 := Fr.app N4 N8q
    refine own_tr st8 ?_
    show own_G p e below (K_0 Z q0 q1 q2 p3 h0 n0 s) (T8.setTop (mkF m 111 #[.val (.long q0), .second, .val (.long q1), .second, .val (.long q2), .second, .val (.int p3), .val (.long (q0 &&& (9223372036854775807 : Int64))), .second, .val (.long (q1 &&& (9223372036854775807 : Int64))), .second, .val (.long (q2 &&& (9223372036854775807 : Int64))), .second, .val (.ref b2), .val (.int z6), .unset, .unset] [(.int (own_ip (q0 &&& (9223372036854775807 : Int64)) (q1 &&& (9223372036854775807 : Int64)) (q2 &&& (9223372036854775807 : Int64))))]))
    refine own_go (fun t k => XS.iload X8.here hx rfl (hb hby at_111) rfl k) ?_
    show own_G p e below (K_0 Z q0 q1 q2 p3 h0 n0 s) (T8.setTop (mkF m 113 #[.val (.long q0), .second, .val (.long q1), .second, .val (.long q2), .second, .val (.int p3), .val (.long (q0 &&& (9223372036854775807 : Int64))), .second, .val (.long (q1 &&& (9223372036854775807 : Int64))), .second, .val (.long (q2 &&& (9223372036854775807 : Int64))), .second, .val (.ref b2), .val (.int z6), .unset, .unset] [(.int z6), (.int (own_ip (q0 &&& (9223372036854775807 : Int64)) (q1 &&& (9223372036854775807 : Int64)) (q2 &&& (9223372036854775807 : Int64))))]))
    refine own_go (fun t k => XS.icmpNo X8.here hx rfl (hb hby at_113) rfl (teq (own_cmp hz6 (own_mx _) (own_mx _) (own_mx _))).2 k) ?_
    show own_G p e below (K_0 Z q0 q1 q2 p3 h0 n0 s) (T8.setTop (mkF m 116 #[.val (.long q0), .second, .val (.long q1), .second, .val (.long q2), .second, .val (.int p3), .val (.long (q0 &&& (9223372036854775807 : Int64))), .second, .val (.long (q1 &&& (9223372036854775807 : Int64))), .second, .val (.long (q2 &&& (9223372036854775807 : Int64))), .second, .val (.ref b2), .val (.int z6), .unset, .unset] []))
    refine own_go (fun t k => XS.iconst X8.here hx rfl (hb hby at_116) k) ?_
    show own_G p e below (K_0 Z q0 q1 q2 p3 h0 n0 s) (T8.setTop (mkF m 117 #[.val (.long q0), .second, .val (.long q1), .second, .val (.long q2), .second, .val (.int p3), .val (.long (q0 &&& (9223372036854775807 : Int64))), .second, .val (.long (q1 &&& (9223372036854775807 : Int64))), .second, .val (.long (q2 &&& (9223372036854775807 : Int64))), .second, .val (.ref b2), .val (.int z6), .unset, .unset] [(.int (1 : Int32))]))
    refine own_go (fun t k => XS.goto X8.here hx rfl (pc0 := 117) (pc' := 121) rfl (hb hby at_117) (by decide) (by decide) k) ?_
    show own_G p e below (K_0 Z q0 q1 q2 p3 h0 n0 s) (T8.setTop (mkF m 121 #[.val (.long q0), .second, .val (.long q1), .second, .val (.long q2), .second, .val (.int p3), .val (.long (q0 &&& (9223372036854775807 : Int64))), .second, .val (.long (q1 &&& (9223372036854775807 : Int64))), .second, .val (.long (q2 &&& (9223372036854775807 : Int64))), .second, .val (.ref b2), .val (.int z6), .unset, .unset] [(.int (1 : Int32))]))
    exact own_retN X8 hx Bd.notSynchronized (t := .boolean) (z' := (1 : Int32)) Bd.returns (by simp) (hb hby at_121) rfl (fun U hU hV hF => ⟨_, _, rfl, ⟨rfl, N8⟩, hF.1, hF.2.1, hF.2.2.mono (by decide) (by decide)⟩)
  · skip
    refine own_go (fun t k => XS.ifNo X0.here hx rfl (hb hby at_26) rfl ((if0 _ _).trans (feq hc26_1).1) k) ?_
    show own_G p e below (K_0 Z q0 q1 q2 p3 h0 n0 s) (s₁.setTop (mkF m 29 #[.val (.long q0), .second, .val (.long q1), .second, .val (.long q2), .second, .val (.int p3), .val (.long (q0 &&& (9223372036854775807 : Int64))), .second, .val (.long (q1 &&& (9223372036854775807 : Int64))), .second, .val (.long (q2 &&& (9223372036854775807 : Int64))), .second, .unset, .unset, .unset, .unset] []))
    refine own_go (fun t k => XS.iload X0.here hx rfl (hb hby at_29) rfl k) ?_
    show own_G p e below (K_0 Z q0 q1 q2 p3 h0 n0 s) (s₁.setTop (mkF m 31 #[.val (.long q0), .second, .val (.long q1), .second, .val (.long q2), .second, .val (.int p3), .val (.long (q0 &&& (9223372036854775807 : Int64))), .second, .val (.long (q1 &&& (9223372036854775807 : Int64))), .second, .val (.long (q2 &&& (9223372036854775807 : Int64))), .second, .unset, .unset, .unset, .unset] [(.int p3)]))
    refine own_go (fun t k => XS.iconst X0.here hx rfl (hb hby at_31) k) ?_
    show own_G p e below (K_0 Z q0 q1 q2 p3 h0 n0 s) (s₁.setTop (mkF m 32 #[.val (.long q0), .second, .val (.long q1), .second, .val (.long q2), .second, .val (.int p3), .val (.long (q0 &&& (9223372036854775807 : Int64))), .second, .val (.long (q1 &&& (9223372036854775807 : Int64))), .second, .val (.long (q2 &&& (9223372036854775807 : Int64))), .second, .unset, .unset, .unset, .unset] [(.int (1 : Int32)), (.int p3)]))
    refine own_go (fun t k => XS.iushr X0.here hx rfl (hb hby at_32) rfl k) ?_
    show own_G p e below (K_0 Z q0 q1 q2 p3 h0 n0 s) (s₁.setTop (mkF m 33 #[.val (.long q0), .second, .val (.long q1), .second, .val (.long q2), .second, .val (.int p3), .val (.long (q0 &&& (9223372036854775807 : Int64))), .second, .val (.long (q1 &&& (9223372036854775807 : Int64))), .second, .val (.long (q2 &&& (9223372036854775807 : Int64))), .second, .unset, .unset, .unset, .unset] [(.int ((p3.toUInt32 >>> ((1 : Int32) &&& 31).toUInt32).toInt32))]))
    refine own_go (fun t k => XS.iconst X0.here hx rfl (hb hby at_33) k) ?_
    show own_G p e below (K_0 Z q0 q1 q2 p3 h0 n0 s) (s₁.setTop (mkF m 34 #[.val (.long q0), .second, .val (.long q1), .second, .val (.long q2), .second, .val (.int p3), .val (.long (q0 &&& (9223372036854775807 : Int64))), .second, .val (.long (q1 &&& (9223372036854775807 : Int64))), .second, .val (.long (q2 &&& (9223372036854775807 : Int64))), .second, .unset, .unset, .unset, .unset] [(.int (3 : Int32)), (.int ((p3.toUInt32 >>> ((1 : Int32) &&& 31).toUInt32).toInt32))]))
    refine own_go (fun t k => iremM X0 hx rfl (hb hby at_34) rfl (by decide) k) ?_
    show own_G p e below (K_0 Z q0 q1 q2 p3 h0 n0 s) (s₁.setTop (mkF m 35 #[.val (.long q0), .second, .val (.long q1), .second, .val (.long q2), .second, .val (.int p3), .val (.long (q0 &&& (9223372036854775807 : Int64))), .second, .val (.long (q1 &&& (9223372036854775807 : Int64))), .second, .val (.long (q2 &&& (9223372036854775807 : Int64))), .second, .unset, .unset, .unset, .unset] [(.int (((p3.toUInt32 >>> ((1 : Int32) &&& 31).toUInt32).toInt32) % (3 : Int32)))]))
    refine own_go (fun t k => XS.iconst X0.here hx rfl (hb hby at_35) k) ?_
    show own_G p e below (K_0 Z q0 q1 q2 p3 h0 n0 s) (s₁.setTop (mkF m 36 #[.val (.long q0), .second, .val (.long q1), .second, .val (.long q2), .second, .val (.int p3), .val (.long (q0 &&& (9223372036854775807 : Int64))), .second, .val (.long (q1 &&& (9223372036854775807 : Int64))), .second, .val (.long (q2 &&& (9223372036854775807 : Int64))), .second, .unset, .unset, .unset, .unset] [(.int (1 : Int32)), (.int (((p3.toUInt32 >>> ((1 : Int32) &&& 31).toUInt32).toInt32) % (3 : Int32)))]))
    refine own_go (fun t k => XS.isub X0.here hx rfl (hb hby at_36) rfl k) ?_
    show own_G p e below (K_0 Z q0 q1 q2 p3 h0 n0 s) (s₁.setTop (mkF m 37 #[.val (.long q0), .second, .val (.long q1), .second, .val (.long q2), .second, .val (.int p3), .val (.long (q0 &&& (9223372036854775807 : Int64))), .second, .val (.long (q1 &&& (9223372036854775807 : Int64))), .second, .val (.long (q2 &&& (9223372036854775807 : Int64))), .second, .unset, .unset, .unset, .unset] [(.int ((((p3.toUInt32 >>> ((1 : Int32) &&& 31).toUInt32).toInt32) % (3 : Int32)) - (1 : Int32)))]))
    refine own_go (fun t k => XS.i2l X0.here hx rfl (hb hby at_37) rfl k) ?_
    show own_G p e below (K_0 Z q0 q1 q2 p3 h0 n0 s) (s₁.setTop (mkF m 38 #[.val (.long q0), .second, .val (.long q1), .second, .val (.long q2), .second, .val (.int p3), .val (.long (q0 &&& (9223372036854775807 : Int64))), .second, .val (.long (q1 &&& (9223372036854775807 : Int64))), .second, .val (.long (q2 &&& (9223372036854775807 : Int64))), .second, .unset, .unset, .unset, .unset] [(.long (((((p3.toUInt32 >>> ((1 : Int32) &&& 31).toUInt32).toInt32) % (3 : Int32)) - (1 : Int32)).toInt64))]))
    refine own_go (fun t k => XS.lstore X0.here hx rfl (hb hby at_38) rfl (l' := #[.val (.long q0), .second, .val (.long q1), .second, .val (.long q2), .second, .val (.int p3), .val (.long (q0 &&& (9223372036854775807 : Int64))), .second, .val (.long (q1 &&& (9223372036854775807 : Int64))), .second, .val (.long (q2 &&& (9223372036854775807 : Int64))), .second, .val (.long (((((p3.toUInt32 >>> ((1 : Int32) &&& 31).toUInt32).toInt32) % (3 : Int32)) - (1 : Int32)).toInt64)), .second, .unset, .unset]) rfl k) ?_
    show own_G p e below (K_0 Z q0 q1 q2 p3 h0 n0 s) (s₁.setTop (mkF m 40 #[.val (.long q0), .second, .val (.long q1), .second, .val (.long q2), .second, .val (.int p3), .val (.long (q0 &&& (9223372036854775807 : Int64))), .second, .val (.long (q1 &&& (9223372036854775807 : Int64))), .second, .val (.long (q2 &&& (9223372036854775807 : Int64))), .second, .val (.long (((((p3.toUInt32 >>> ((1 : Int32) &&& 31).toUInt32).toInt32) % (3 : Int32)) - (1 : Int32)).toInt64)), .second, .unset, .unset] []))
    refine own_go (fun t k => XS.lload X0.here hx rfl (hb hby at_40) rfl k) ?_
    show own_G p e below (K_0 Z q0 q1 q2 p3 h0 n0 s) (s₁.setTop (mkF m 42 #[.val (.long q0), .second, .val (.long q1), .second, .val (.long q2), .second, .val (.int p3), .val (.long (q0 &&& (9223372036854775807 : Int64))), .second, .val (.long (q1 &&& (9223372036854775807 : Int64))), .second, .val (.long (q2 &&& (9223372036854775807 : Int64))), .second, .val (.long (((((p3.toUInt32 >>> ((1 : Int32) &&& 31).toUInt32).toInt32) % (3 : Int32)) - (1 : Int32)).toInt64)), .second, .unset, .unset] [(.long (q0 &&& (9223372036854775807 : Int64)))]))
    refine own_go (fun t k => XS.lload X0.here hx rfl (hb hby at_42) rfl k) ?_
    show own_G p e below (K_0 Z q0 q1 q2 p3 h0 n0 s) (s₁.setTop (mkF m 44 #[.val (.long q0), .second, .val (.long q1), .second, .val (.long q2), .second, .val (.int p3), .val (.long (q0 &&& (9223372036854775807 : Int64))), .second, .val (.long (q1 &&& (9223372036854775807 : Int64))), .second, .val (.long (q2 &&& (9223372036854775807 : Int64))), .second, .val (.long (((((p3.toUInt32 >>> ((1 : Int32) &&& 31).toUInt32).toInt32) % (3 : Int32)) - (1 : Int32)).toInt64)), .second, .unset, .unset] [(.long (((((p3.toUInt32 >>> ((1 : Int32) &&& 31).toUInt32).toInt32) % (3 : Int32)) - (1 : Int32)).toInt64)), (.long (q0 &&& (9223372036854775807 : Int64)))]))
    refine own_go (fun t k => XS.ladd X0.here hx rfl (hb hby at_44) rfl k) ?_
    show own_G p e below (K_0 Z q0 q1 q2 p3 h0 n0 s) (s₁.setTop (mkF m 45 #[.val (.long q0), .second, .val (.long q1), .second, .val (.long q2), .second, .val (.int p3), .val (.long (q0 &&& (9223372036854775807 : Int64))), .second, .val (.long (q1 &&& (9223372036854775807 : Int64))), .second, .val (.long (q2 &&& (9223372036854775807 : Int64))), .second, .val (.long (((((p3.toUInt32 >>> ((1 : Int32) &&& 31).toUInt32).toInt32) % (3 : Int32)) - (1 : Int32)).toInt64)), .second, .unset, .unset] [(.long ((q0 &&& (9223372036854775807 : Int64)) + (((((p3.toUInt32 >>> ((1 : Int32) &&& 31).toUInt32).toInt32) % (3 : Int32)) - (1 : Int32)).toInt64)))]))
    refine own_go (fun t k => XS.lstore X0.here hx rfl (hb hby at_45) rfl (l' := #[.val (.long q0), .second, .val (.long q1), .second, .val (.long q2), .second, .val (.int p3), .val (.long (q0 &&& (9223372036854775807 : Int64))), .second, .val (.long (q1 &&& (9223372036854775807 : Int64))), .second, .val (.long (q2 &&& (9223372036854775807 : Int64))), .second, .val (.long (((((p3.toUInt32 >>> ((1 : Int32) &&& 31).toUInt32).toInt32) % (3 : Int32)) - (1 : Int32)).toInt64)), .second, .val (.long ((q0 &&& (9223372036854775807 : Int64)) + (((((p3.toUInt32 >>> ((1 : Int32) &&& 31).toUInt32).toInt32) % (3 : Int32)) - (1 : Int32)).toInt64))), .second]) rfl k) ?_
    show own_G p e below (K_0 Z q0 q1 q2 p3 h0 n0 s) (s₁.setTop (mkF m 47 #[.val (.long q0), .second, .val (.long q1), .second, .val (.long q2), .second, .val (.int p3), .val (.long (q0 &&& (9223372036854775807 : Int64))), .second, .val (.long (q1 &&& (9223372036854775807 : Int64))), .second, .val (.long (q2 &&& (9223372036854775807 : Int64))), .second, .val (.long (((((p3.toUInt32 >>> ((1 : Int32) &&& 31).toUInt32).toInt32) % (3 : Int32)) - (1 : Int32)).toInt64)), .second, .val (.long ((q0 &&& (9223372036854775807 : Int64)) + (((((p3.toUInt32 >>> ((1 : Int32) &&& 31).toUInt32).toInt32) % (3 : Int32)) - (1 : Int32)).toInt64))), .second] []))
    refine own_go (fun t k => XS.lload X0.here hx rfl (hb hby at_47) rfl k) ?_
    show own_G p e below (K_0 Z q0 q1 q2 p3 h0 n0 s) (s₁.setTop (mkF m 49 #[.val (.long q0), .second, .val (.long q1), .second, .val (.long q2), .second, .val (.int p3), .val (.long (q0 &&& (9223372036854775807 : Int64))), .second, .val (.long (q1 &&& (9223372036854775807 : Int64))), .second, .val (.long (q2 &&& (9223372036854775807 : Int64))), .second, .val (.long (((((p3.toUInt32 >>> ((1 : Int32) &&& 31).toUInt32).toInt32) % (3 : Int32)) - (1 : Int32)).toInt64)), .second, .val (.long ((q0 &&& (9223372036854775807 : Int64)) + (((((p3.toUInt32 >>> ((1 : Int32) &&& 31).toUInt32).toInt32) % (3 : Int32)) - (1 : Int32)).toInt64))), .second] [(.long ((q0 &&& (9223372036854775807 : Int64)) + (((((p3.toUInt32 >>> ((1 : Int32) &&& 31).toUInt32).toInt32) % (3 : Int32)) - (1 : Int32)).toInt64)))]))
    refine own_go (fun t k => XS.lconst X0.here hx rfl (hb hby at_49) k) ?_
    show own_G p e below (K_0 Z q0 q1 q2 p3 h0 n0 s) (s₁.setTop (mkF m 50 #[.val (.long q0), .second, .val (.long q1), .second, .val (.long q2), .second, .val (.int p3), .val (.long (q0 &&& (9223372036854775807 : Int64))), .second, .val (.long (q1 &&& (9223372036854775807 : Int64))), .second, .val (.long (q2 &&& (9223372036854775807 : Int64))), .second, .val (.long (((((p3.toUInt32 >>> ((1 : Int32) &&& 31).toUInt32).toInt32) % (3 : Int32)) - (1 : Int32)).toInt64)), .second, .val (.long ((q0 &&& (9223372036854775807 : Int64)) + (((((p3.toUInt32 >>> ((1 : Int32) &&& 31).toUInt32).toInt32) % (3 : Int32)) - (1 : Int32)).toInt64))), .second] [(.long (0 : Int64)), (.long ((q0 &&& (9223372036854775807 : Int64)) + (((((p3.toUInt32 >>> ((1 : Int32) &&& 31).toUInt32).toInt32) % (3 : Int32)) - (1 : Int32)).toInt64)))]))
    refine own_go (fun t k => XS.lcmp X0.here hx rfl (hb hby at_50) rfl k) ?_
    show own_G p e below (K_0 Z q0 q1 q2 p3 h0 n0 s) (s₁.setTop (mkF m 51 #[.val (.long q0), .second, .val (.long q1), .second, .val (.long q2), .second, .val (.int p3), .val (.long (q0 &&& (9223372036854775807 : Int64))), .second, .val (.long (q1 &&& (9223372036854775807 : Int64))), .second, .val (.long (q2 &&& (9223372036854775807 : Int64))), .second, .val (.long (((((p3.toUInt32 >>> ((1 : Int32) &&& 31).toUInt32).toInt32) % (3 : Int32)) - (1 : Int32)).toInt64)), .second, .val (.long ((q0 &&& (9223372036854775807 : Int64)) + (((((p3.toUInt32 >>> ((1 : Int32) &&& 31).toUInt32).toInt32) % (3 : Int32)) - (1 : Int32)).toInt64))), .second] [(.int (lcmpW ((q0 &&& (9223372036854775807 : Int64)) + (((((p3.toUInt32 >>> ((1 : Int32) &&& 31).toUInt32).toInt32) % (3 : Int32)) - (1 : Int32)).toInt64)) (0 : Int64)))]))
    by_cases hc51_9 : ((q0 &&& (9223372036854775807 : Int64)) + (((((p3.toUInt32 >>> ((1 : Int32) &&& 31).toUInt32).toInt32) % (3 : Int32)) - (1 : Int32)).toInt64)) < (0 : Int64)
    · skip
      refine own_go (fun t k => XS.ifYes X0.here hx rfl (pc0 := 51) (pc' := 73) rfl (hb hby at_51) rfl ((if0 _ _).trans (tlt ((lw_lt _ _).mpr hc51_9)).1) (by decide) (by decide) k) ?_
      show own_G p e below (K_0 Z q0 q1 q2 p3 h0 n0 s) (s₁.setTop (mkF m 73 #[.val (.long q0), .second, .val (.long q1), .second, .val (.long q2), .second, .val (.int p3), .val (.long (q0 &&& (9223372036854775807 : Int64))), .second, .val (.long (q1 &&& (9223372036854775807 : Int64))), .second, .val (.long (q2 &&& (9223372036854775807 : Int64))), .second, .val (.long (((((p3.toUInt32 >>> ((1 : Int32) &&& 31).toUInt32).toInt32) % (3 : Int32)) - (1 : Int32)).toInt64)), .second, .val (.long ((q0 &&& (9223372036854775807 : Int64)) + (((((p3.toUInt32 >>> ((1 : Int32) &&& 31).toUInt32).toInt32) % (3 : Int32)) - (1 : Int32)).toInt64))), .second] []))
      obtain ⟨T10, h10, X10, e10, E10, A10, D10, -, st10⟩ := newO X0 hx hZ hown (hw _ (List.mem_of_getElem? (i := 1) rfl)) (hw _ (List.mem_of_getElem? (i := 2) rfl)) (hw _ (List.mem_of_getElem? (i := 3) rfl)) e0 (g := (mkF m 73 #[.val (.long q0), .second, .val (.long q1), .second, .val (.long q2), .second, .val (.int p3), .val (.long (q0 &&& (9223372036854775807 : Int64))), .second, .val (.long (q1 &&& (9223372036854775807 : Int64))), .second, .val (.long (q2 &&& (9223372036854775807 : Int64))), .second, .val (.long (((((p3.toUInt32 >>> ((1 : Int32) &&& 31).toUInt32).toInt32) % (3 : Int32)) - (1 : Int32)).toInt64)), .second, .val (.long ((q0 &&& (9223372036854775807 : Int64)) + (((((p3.toUInt32 >>> ((1 : Int32) &&& 31).toUInt32).toInt32) % (3 : Int32)) - (1 : Int32)).toInt64))), .second] [])) rfl (hb hby at_73) (by decide) (by decide)
      obtain ⟨b10, g10⟩ : ∃ z, z = h0.size := ⟨_, rfl⟩
      rw [← g10] at A10 D10 st10
      refine own_go st10 ?_
      have g_b10 : n0 ≤ b10 := Nat.le_trans Z0 (Nat.le_of_eq g10.symm)
      have Z11 : n0 ≤ h10.size := Nat.le_trans Z0 E10.1
      have F10_seconds : Fld Z h10 b10 "com/example/tidelog/tidelog/IdleLimit" "seconds" "J" (.long (0 : Int64)) := D10 (Or.inr (hw _ (List.mem_of_getElem? (i := 16) rfl))) (ty := .long) (by decide)
      show own_G p e below (K_0 Z q0 q1 q2 p3 h0 n0 s) (T10.setTop (mkF m 76 #[.val (.long q0), .second, .val (.long q1), .second, .val (.long q2), .second, .val (.int p3), .val (.long (q0 &&& (9223372036854775807 : Int64))), .second, .val (.long (q1 &&& (9223372036854775807 : Int64))), .second, .val (.long (q2 &&& (9223372036854775807 : Int64))), .second, .val (.long (((((p3.toUInt32 >>> ((1 : Int32) &&& 31).toUInt32).toInt32) % (3 : Int32)) - (1 : Int32)).toInt64)), .second, .val (.long ((q0 &&& (9223372036854775807 : Int64)) + (((((p3.toUInt32 >>> ((1 : Int32) &&& 31).toUInt32).toInt32) % (3 : Int32)) - (1 : Int32)).toInt64))), .second] [(.ref b10)]))
      refine own_go (fun t k => XS.dup X10.here hx rfl (hb hby at_76) rfl rfl k) ?_
      show own_G p e below (K_0 Z q0 q1 q2 p3 h0 n0 s) (T10.setTop (mkF m 77 #[.val (.long q0), .second, .val (.long q1), .second, .val (.long q2), .second, .val (.int p3), .val (.long (q0 &&& (9223372036854775807 : Int64))), .second, .val (.long (q1 &&& (9223372036854775807 : Int64))), .second, .val (.long (q2 &&& (9223372036854775807 : Int64))), .second, .val (.long (((((p3.toUInt32 >>> ((1 : Int32) &&& 31).toUInt32).toInt32) % (3 : Int32)) - (1 : Int32)).toInt64)), .second, .val (.long ((q0 &&& (9223372036854775807 : Int64)) + (((((p3.toUInt32 >>> ((1 : Int32) &&& 31).toUInt32).toInt32) % (3 : Int32)) - (1 : Int32)).toInt64))), .second] [(.ref b10), (.ref b10)]))
      refine own_go (fun t k => XS.lload X10.here hx rfl (hb hby at_77) rfl k) ?_
      show own_G p e below (K_0 Z q0 q1 q2 p3 h0 n0 s) (T10.setTop (mkF m 79 #[.val (.long q0), .second, .val (.long q1), .second, .val (.long q2), .second, .val (.int p3), .val (.long (q0 &&& (9223372036854775807 : Int64))), .second, .val (.long (q1 &&& (9223372036854775807 : Int64))), .second, .val (.long (q2 &&& (9223372036854775807 : Int64))), .second, .val (.long (((((p3.toUInt32 >>> ((1 : Int32) &&& 31).toUInt32).toInt32) % (3 : Int32)) - (1 : Int32)).toInt64)), .second, .val (.long ((q0 &&& (9223372036854775807 : Int64)) + (((((p3.toUInt32 >>> ((1 : Int32) &&& 31).toUInt32).toInt32) % (3 : Int32)) - (1 : Int32)).toInt64))), .second] [(.long (q0 &&& (9223372036854775807 : Int64))), (.ref b10), (.ref b10)]))
      obtain ⟨_, _, ⟨T12, L12, k12, n12⟩, -, X12, ⟨Lc12, hQ12, l12, y12, z12⟩, st12⟩ := X10.specialBack hx (y := (⟨"com/example/tidelog/tidelog/IdleLimit", "<init>", "(J)V"⟩ : MethodName)) rfl hown (mvT hZ (hw _ (List.mem_of_getElem? (i := 4) rfl))) (mvT hZ (hw _ (List.mem_of_getElem? (i := 5) rfl))) (mvT hZ (hw _ (List.mem_of_getElem? (i := 6) rfl))) (by decide) (backOf (W := 1) (rm_ct l Z a0 hw [] b10 (q0 &&& (9223372036854775807 : Int64)) h10 n0 Z11 F10_seconds A10 g_b10) hZ (hw _ (List.mem_of_getElem? (i := 6) rfl)) (hw _ (List.mem_of_getElem? (i := 3) rfl)) (by decide) (by decide)) (g := (mkF m 79 #[.val (.long q0), .second, .val (.long q1), .second, .val (.long q2), .second, .val (.int p3), .val (.long (q0 &&& (9223372036854775807 : Int64))), .second, .val (.long (q1 &&& (9223372036854775807 : Int64))), .second, .val (.long (q2 &&& (9223372036854775807 : Int64))), .second, .val (.long (((((p3.toUInt32 >>> ((1 : Int32) &&& 31).toUInt32).toInt32) % (3 : Int32)) - (1 : Int32)).toInt64)), .second, .val (.long ((q0 &&& (9223372036854775807 : Int64)) + (((((p3.toUInt32 >>> ((1 : Int32) &&& 31).toUInt32).toInt32) % (3 : Int32)) - (1 : Int32)).toInt64))), .second] [(.long (q0 &&& (9223372036854775807 : Int64))), (.ref b10), (.ref b10)])) rfl (by rw [hml]; rfl) (Steps.refl _) (a := b10) (argsL := [(.long (q0 &&& (9223372036854775807 : Int64)))]) (rest := [(.ref b10)]) (lenOf own_pd1 rfl) rfl (by show 2 * 0 + _ ≤ _; exact Nat.le_of_eq rfl) (hb hby at_79) (fun _ _ => ⟨rfl, e10, (by decide : 1 + 0 ≤ _), (by decide : 1 + 0 ≤ _)⟩)
      dsimp only [Pt.U, Pt.locs, Pt.cells, Pt.slots] at X12 l12 y12 z12 st12 hQ12
      subst l12 y12 z12
      obtain ⟨rfl, N12q, K12q, E12q, F12_0⟩ := hQ12
      have N12 := Fr.app N0 N12q
      obtain ⟨h12, e12⟩ : ∃ z, T12.heap = z := ⟨_, rfl⟩
      rw [e12] at K12q E12q F12_0
      have Z13 : n0 ≤ h12.size := Nat.le_trans Z11 K12q.1
      refine own_tr st12 ?_
      show own_G p e below (K_0 Z q0 q1 q2 p3 h0 n0 s) (T12.setTop (mkF m 82 #[.val (.long q0), .second, .val (.long q1), .second, .val (.long q2), .second, .val (.int p3), .val (.long (q0 &&& (9223372036854775807 : Int64))), .second, .val (.long (q1 &&& (9223372036854775807 : Int64))), .second, .val (.long (q2 &&& (9223372036854775807 : Int64))), .second, .val (.long (((((p3.toUInt32 >>> ((1 : Int32) &&& 31).toUInt32).toInt32) % (3 : Int32)) - (1 : Int32)).toInt64)), .second, .val (.long ((q0 &&& (9223372036854775807 : Int64)) + (((((p3.toUInt32 >>> ((1 : Int32) &&& 31).toUInt32).toInt32) % (3 : Int32)) - (1 : Int32)).toInt64))), .second] [(.ref b10)]))
      refine own_go (fun t k => XS.astore X12.here hx rfl (hb hby at_82) rfl rfl (l' := #[.val (.long q0), .second, .val (.long q1), .second, .val (.long q2), .second, .val (.int p3), .val (.long (q0 &&& (9223372036854775807 : Int64))), .second, .val (.long (q1 &&& (9223372036854775807 : Int64))), .second, .val (.long (q2 &&& (9223372036854775807 : Int64))), .second, .val (.ref b10), .unset, .val (.long ((q0 &&& (9223372036854775807 : Int64)) + (((((p3.toUInt32 >>> ((1 : Int32) &&& 31).toUInt32).toInt32) % (3 : Int32)) - (1 : Int32)).toInt64))), .second]) rfl k) ?_
      show own_G p e below (K_0 Z q0 q1 q2 p3 h0 n0 s) (T12.setTop (mkF m 84 #[.val (.long q0), .second, .val (.long q1), .second, .val (.long q2), .second, .val (.int p3), .val (.long (q0 &&& (9223372036854775807 : Int64))), .second, .val (.long (q1 &&& (9223372036854775807 : Int64))), .second, .val (.long (q2 &&& (9223372036854775807 : Int64))), .second, .val (.ref b10), .unset, .val (.long ((q0 &&& (9223372036854775807 : Int64)) + (((((p3.toUInt32 >>> ((1 : Int32) &&& 31).toUInt32).toInt32) % (3 : Int32)) - (1 : Int32)).toInt64))), .second] []))
      refine own_go (fun t k => XS.lload X12.here hx rfl (hb hby at_84) rfl k) ?_
      show own_G p e below (K_0 Z q0 q1 q2 p3 h0 n0 s) (T12.setTop (mkF m 86 #[.val (.long q0), .second, .val (.long q1), .second, .val (.long q2), .second, .val (.int p3), .val (.long (q0 &&& (9223372036854775807 : Int64))), .second, .val (.long (q1 &&& (9223372036854775807 : Int64))), .second, .val (.long (q2 &&& (9223372036854775807 : Int64))), .second, .val (.ref b10), .unset, .val (.long ((q0 &&& (9223372036854775807 : Int64)) + (((((p3.toUInt32 >>> ((1 : Int32) &&& 31).toUInt32).toInt32) % (3 : Int32)) - (1 : Int32)).toInt64))), .second] [(.long (q2 &&& (9223372036854775807 : Int64)))]))
      refine own_go (fun t k => XS.lload X12.here hx rfl (hb hby at_86) rfl k) ?_
      show own_G p e below (K_0 Z q0 q1 q2 p3 h0 n0 s) (T12.setTop (mkF m 88 #[.val (.long q0), .second, .val (.long q1), .second, .val (.long q2), .second, .val (.int p3), .val (.long (q0 &&& (9223372036854775807 : Int64))), .second, .val (.long (q1 &&& (9223372036854775807 : Int64))), .second, .val (.long (q2 &&& (9223372036854775807 : Int64))), .second, .val (.ref b10), .unset, .val (.long ((q0 &&& (9223372036854775807 : Int64)) + (((((p3.toUInt32 >>> ((1 : Int32) &&& 31).toUInt32).toInt32) % (3 : Int32)) - (1 : Int32)).toInt64))), .second] [(.long (q0 &&& (9223372036854775807 : Int64))), (.long (q2 &&& (9223372036854775807 : Int64)))]))
      refine own_go (fun t k => XS.lsub X12.here hx rfl (hb hby at_88) rfl k) ?_
      show own_G p e below (K_0 Z q0 q1 q2 p3 h0 n0 s) (T12.setTop (mkF m 89 #[.val (.long q0), .second, .val (.long q1), .second, .val (.long q2), .second, .val (.int p3), .val (.long (q0 &&& (9223372036854775807 : Int64))), .second, .val (.long (q1 &&& (9223372036854775807 : Int64))), .second, .val (.long (q2 &&& (9223372036854775807 : Int64))), .second, .val (.ref b10), .unset, .val (.long ((q0 &&& (9223372036854775807 : Int64)) + (((((p3.toUInt32 >>> ((1 : Int32) &&& 31).toUInt32).toInt32) % (3 : Int32)) - (1 : Int32)).toInt64))), .second] [(.long ((q2 &&& (9223372036854775807 : Int64)) - (q0 &&& (9223372036854775807 : Int64))))]))
      refine own_go (fun t k => XS.lload X12.here hx rfl (hb hby at_89) rfl k) ?_
      show own_G p e below (K_0 Z q0 q1 q2 p3 h0 n0 s) (T12.setTop (mkF m 91 #[.val (.long q0), .second, .val (.long q1), .second, .val (.long q2), .second, .val (.int p3), .val (.long (q0 &&& (9223372036854775807 : Int64))), .second, .val (.long (q1 &&& (9223372036854775807 : Int64))), .second, .val (.long (q2 &&& (9223372036854775807 : Int64))), .second, .val (.ref b10), .unset, .val (.long ((q0 &&& (9223372036854775807 : Int64)) + (((((p3.toUInt32 >>> ((1 : Int32) &&& 31).toUInt32).toInt32) % (3 : Int32)) - (1 : Int32)).toInt64))), .second] [(.long (q1 &&& (9223372036854775807 : Int64))), (.long ((q2 &&& (9223372036854775807 : Int64)) - (q0 &&& (9223372036854775807 : Int64))))]))
      refine own_go (fun t k => XS.lcmp X12.here hx rfl (hb hby at_91) rfl k) ?_
      show own_G p e below (K_0 Z q0 q1 q2 p3 h0 n0 s) (T12.setTop (mkF m 92 #[.val (.long q0), .second, .val (.long q1), .second, .val (.long q2), .second, .val (.int p3), .val (.long (q0 &&& (9223372036854775807 : Int64))), .second, .val (.long (q1 &&& (9223372036854775807 : Int64))), .second, .val (.long (q2 &&& (9223372036854775807 : Int64))), .second, .val (.ref b10), .unset, .val (.long ((q0 &&& (9223372036854775807 : Int64)) + (((((p3.toUInt32 >>> ((1 : Int32) &&& 31).toUInt32).toInt32) % (3 : Int32)) - (1 : Int32)).toInt64))), .second] [(.int (lcmpW ((q2 &&& (9223372036854775807 : Int64)) - (q0 &&& (9223372036854775807 : Int64))) (q1 &&& (9223372036854775807 : Int64))))]))
      obtain ⟨z14, hz14⟩ : ∃ z : Int32, z = (if (q1 &&& (9223372036854775807 : Int64)) < ((q2 &&& (9223372036854775807 : Int64)) - (q0 &&& (9223372036854775807 : Int64))) then (1 : Int32) else (0 : Int32)) := ⟨_, rfl⟩
      suffices Jz14 : own_G p e below (K_0 Z q0 q1 q2 p3 h0 n0 s) (T12.setTop (mkF m 100 #[.val (.long q0), .second, .val (.long q1), .second, .val (.long q2), .second, .val (.int p3), .val (.long (q0 &&& (9223372036854775807 : Int64))), .second, .val (.long (q1 &&& (9223372036854775807 : Int64))), .second, .val (.long (q2 &&& (9223372036854775807 : Int64))), .second, .val (.ref b10), .unset, .val (.long ((q0 &&& (9223372036854775807 : Int64)) + (((((p3.toUInt32 >>> ((1 : Int32) &&& 31).toUInt32).toInt32) % (3 : Int32)) - (1 : Int32)).toInt64))), .second] [(.int z14)])) by
        by_cases hc92_15 : (q1 &&& (9223372036854775807 : Int64)) < ((q2 &&& (9223372036854775807 : Int64)) - (q0 &&& (9223372036854775807 : Int64)))
        · skip
          rw [if_pos hc92_15] at hz14
          refine own_go (fun t k => XS.ifNo X12.here hx rfl (hb hby at_92) rfl ((if0 _ _).trans (tlt ((lw_gt _ _).mpr hc92_15)).2.2.2) k) ?_
          show own_G p e below (K_0 Z q0 q1 q2 p3 h0 n0 s) (T12.setTop (mkF m 95 #[.val (.long q0), .second, .val (.long q1), .second, .val (.long q2), .second, .val (.int p3), .val (.long (q0 &&& (9223372036854775807 : Int64))), .second, .val (.long (q1 &&& (9223372036854775807 : Int64))), .second, .val (.long (q2 &&& (9223372036854775807 : Int64))), .second, .val (.ref b10), .unset, .val (.long ((q0 &&& (9223372036854775807 : Int64)) + (((((p3.toUInt32 >>> ((1 : Int32) &&& 31).toUInt32).toInt32) % (3 : Int32)) - (1 : Int32)).toInt64))), .second] []))
          refine own_go (fun t k => XS.iconst X12.here hx rfl (hb hby at_95) k) ?_
          show own_G p e below (K_0 Z q0 q1 q2 p3 h0 n0 s) (T12.setTop (mkF m 96 #[.val (.long q0), .second, .val (.long q1), .second, .val (.long q2), .second, .val (.int p3), .val (.long (q0 &&& (9223372036854775807 : Int64))), .second, .val (.long (q1 &&& (9223372036854775807 : Int64))), .second, .val (.long (q2 &&& (9223372036854775807 : Int64))), .second, .val (.ref b10), .unset, .val (.long ((q0 &&& (9223372036854775807 : Int64)) + (((((p3.toUInt32 >>> ((1 : Int32) &&& 31).toUInt32).toInt32) % (3 : Int32)) - (1 : Int32)).toInt64))), .second] [(.int (1 : Int32))]))
          refine own_go (fun t k => XS.goto X12.here hx rfl (pc0 := 96) (pc' := 100) rfl (hb hby at_96) (by decide) (by decide) k) ?_
          show own_G p e below (K_0 Z q0 q1 q2 p3 h0 n0 s) (T12.setTop (mkF m 100 #[.val (.long q0), .second, .val (.long q1), .second, .val (.long q2), .second, .val (.int p3), .val (.long (q0 &&& (9223372036854775807 : Int64))), .second, .val (.long (q1 &&& (9223372036854775807 : Int64))), .second, .val (.long (q2 &&& (9223372036854775807 : Int64))), .second, .val (.ref b10), .unset, .val (.long ((q0 &&& (9223372036854775807 : Int64)) + (((((p3.toUInt32 >>> ((1 : Int32) &&& 31).toUInt32).toInt32) % (3 : Int32)) - (1 : Int32)).toInt64))), .second] [(.int (1 : Int32))]))
          subst hz14; exact Jz14
        · skip
          rw [if_neg hc92_15] at hz14
          refine own_go (fun t k => XS.ifYes X12.here hx rfl (pc0 := 92) (pc' := 99) rfl (hb hby at_92) rfl ((if0 _ _).trans (flt (mt (lw_gt _ _).mp hc92_15)).2.2.2) (by decide) (by decide) k) ?_
          show own_G p e below (K_0 Z q0 q1 q2 p3 h0 n0 s) (T12.setTop (mkF m 99 #[.val (.long q0), .second, .val (.long q1), .second, .val (.long q2), .second, .val (.int p3), .val (.long (q0 &&& (9223372036854775807 : Int64))), .second, .val (.long (q1 &&& (9223372036854775807 : Int64))), .second, .val (.long (q2 &&& (9223372036854775807 : Int64))), .second, .val (.ref b10), .unset, .val (.long ((q0 &&& (9223372036854775807 : Int64)) + (((((p3.toUInt32 >>> ((1 : Int32) &&& 31).toUInt32).toInt32) % (3 : Int32)) - (1 : Int32)).toInt64))), .second] []))
          refine own_go (fun t k => XS.iconst X12.here hx rfl (hb hby at_99) k) ?_
          show own_G p e below (K_0 Z q0 q1 q2 p3 h0 n0 s) (T12.setTop (mkF m 100 #[.val (.long q0), .second, .val (.long q1), .second, .val (.long q2), .second, .val (.int p3), .val (.long (q0 &&& (9223372036854775807 : Int64))), .second, .val (.long (q1 &&& (9223372036854775807 : Int64))), .second, .val (.long (q2 &&& (9223372036854775807 : Int64))), .second, .val (.ref b10), .unset, .val (.long ((q0 &&& (9223372036854775807 : Int64)) + (((((p3.toUInt32 >>> ((1 : Int32) &&& 31).toUInt32).toInt32) % (3 : Int32)) - (1 : Int32)).toInt64))), .second] [(.int (0 : Int32))]))
          subst hz14; exact Jz14
      show own_G p e below (K_0 Z q0 q1 q2 p3 h0 n0 s) (T12.setTop (mkF m 100 #[.val (.long q0), .second, .val (.long q1), .second, .val (.long q2), .second, .val (.int p3), .val (.long (q0 &&& (9223372036854775807 : Int64))), .second, .val (.long (q1 &&& (9223372036854775807 : Int64))), .second, .val (.long (q2 &&& (9223372036854775807 : Int64))), .second, .val (.ref b10), .unset, .val (.long ((q0 &&& (9223372036854775807 : Int64)) + (((((p3.toUInt32 >>> ((1 : Int32) &&& 31).toUInt32).toInt32) % (3 : Int32)) - (1 : Int32)).toInt64))), .second] [(.int z14)]))
      refine own_go (fun t k => XS.istore X12.here hx rfl (hb hby at_100) rfl (l' := #[.val (.long q0), .second, .val (.long q1), .second, .val (.long q2), .second, .val (.int p3), .val (.long (q0 &&& (9223372036854775807 : Int64))), .second, .val (.long (q1 &&& (9223372036854775807 : Int64))), .second, .val (.long (q2 &&& (9223372036854775807 : Int64))), .second, .val (.ref b10), .val (.int z14), .val (.long ((q0 &&& (9223372036854775807 : Int64)) + (((((p3.toUInt32 >>> ((1 : Int32) &&& 31).toUInt32).toInt32) % (3 : Int32)) - (1 : Int32)).toInt64))), .second]) rfl k) ?_
      show own_G p e below (K_0 Z q0 q1 q2 p3 h0 n0 s) (T12.setTop (mkF m 102 #[.val (.long q0), .second, .val (.long q1), .second, .val (.long q2), .second, .val (.int p3), .val (.long (q0 &&& (9223372036854775807 : Int64))), .second, .val (.long (q1 &&& (9223372036854775807 : Int64))), .second, .val (.long (q2 &&& (9223372036854775807 : Int64))), .second, .val (.ref b10), .val (.int z14), .val (.long ((q0 &&& (9223372036854775807 : Int64)) + (((((p3.toUInt32 >>> ((1 : Int32) &&& 31).toUInt32).toInt32) % (3 : Int32)) - (1 : Int32)).toInt64))), .second] []))
      refine own_go (fun t k => XS.aload X12.here hx rfl (hb hby at_102) rfl rfl k) ?_
      show own_G p e below (K_0 Z q0 q1 q2 p3 h0 n0 s) (T12.setTop (mkF m 104 #[.val (.long q0), .second, .val (.long q1), .second, .val (.long q2), .second, .val (.int p3), .val (.long (q0 &&& (9223372036854775807 : Int64))), .second, .val (.long (q1 &&& (9223372036854775807 : Int64))), .second, .val (.long (q2 &&& (9223372036854775807 : Int64))), .second, .val (.ref b10), .val (.int z14), .val (.long ((q0 &&& (9223372036854775807 : Int64)) + (((((p3.toUInt32 >>> ((1 : Int32) &&& 31).toUInt32).toInt32) % (3 : Int32)) - (1 : Int32)).toInt64))), .second] [(.ref b10)]))
      refine own_go (fun t k => XS.lload X12.here hx rfl (hb hby at_104) rfl k) ?_
      show own_G p e below (K_0 Z q0 q1 q2 p3 h0 n0 s) (T12.setTop (mkF m 106 #[.val (.long q0), .second, .val (.long q1), .second, .val (.long q2), .second, .val (.int p3), .val (.long (q0 &&& (9223372036854775807 : Int64))), .second, .val (.long (q1 &&& (9223372036854775807 : Int64))), .second, .val (.long (q2 &&& (9223372036854775807 : Int64))), .second, .val (.ref b10), .val (.int z14), .val (.long ((q0 &&& (9223372036854775807 : Int64)) + (((((p3.toUInt32 >>> ((1 : Int32) &&& 31).toUInt32).toInt32) % (3 : Int32)) - (1 : Int32)).toInt64))), .second] [(.long (q1 &&& (9223372036854775807 : Int64))), (.ref b10)]))
      refine own_go (fun t k => XS.lload X12.here hx rfl (hb hby at_106) rfl k) ?_
      show own_G p e below (K_0 Z q0 q1 q2 p3 h0 n0 s) (T12.setTop (mkF m 108 #[.val (.long q0), .second, .val (.long q1), .second, .val (.long q2), .second, .val (.int p3), .val (.long (q0 &&& (9223372036854775807 : Int64))), .second, .val (.long (q1 &&& (9223372036854775807 : Int64))), .second, .val (.long (q2 &&& (9223372036854775807 : Int64))), .second, .val (.ref b10), .val (.int z14), .val (.long ((q0 &&& (9223372036854775807 : Int64)) + (((((p3.toUInt32 >>> ((1 : Int32) &&& 31).toUInt32).toInt32) % (3 : Int32)) - (1 : Int32)).toInt64))), .second] [(.long (q2 &&& (9223372036854775807 : Int64))), (.long (q1 &&& (9223372036854775807 : Int64))), (.ref b10)]))
      obtain ⟨cq16, kq16, q16a, q16b, q16c⟩ := isOf hZ e12 E12q
      obtain ⟨_, _, ⟨T16, L16, k16, n16⟩, -, X16, ⟨Lc16, hQ16, l16, y16, z16⟩, st16⟩ := X12.virtualBack hx (y := (⟨"com/example/tidelog/tidelog/IdleLimit", "isPast", "(JJ)Z"⟩ : MethodName)) (z := (⟨"com/example/tidelog/tidelog/IdleLimit", "isPast", "(JJ)Z"⟩ : MethodName)) hown (mvT hZ (hw _ (List.mem_of_getElem? (i := 17) rfl))) (mvT hZ (hw _ (List.mem_of_getElem? (i := 18) rfl))) (notFace_of_selects (args := #[]) (mvT hZ (hw _ (List.mem_of_getElem? (i := 20) rfl)))) (mvT hZ (hw _ (List.mem_of_getElem? (i := 20) rfl))) (mvT hZ (hw _ (List.mem_of_getElem? (i := 19) rfl))) (by decide) (backOf (W := 0) (rm_ip l Z a0 hw [] b10 (q1 &&& (9223372036854775807 : Int64)) (q2 &&& (9223372036854775807 : Int64)) (q0 &&& (9223372036854775807 : Int64)) h12 n0 Z13 F12_0) hZ (hw _ (List.mem_of_getElem? (i := 21) rfl)) (hw _ (List.mem_of_getElem? (i := 3) rfl)) (by decide) (by decide)) q16a q16c (g := (mkF m 108 #[.val (.long q0), .second, .val (.long q1), .second, .val (.long q2), .second, .val (.int p3), .val (.long (q0 &&& (9223372036854775807 : Int64))), .second, .val (.long (q1 &&& (9223372036854775807 : Int64))), .second, .val (.long (q2 &&& (9223372036854775807 : Int64))), .second, .val (.ref b10), .val (.int z14), .val (.long ((q0 &&& (9223372036854775807 : Int64)) + (((((p3.toUInt32 >>> ((1 : Int32) &&& 31).toUInt32).toInt32) % (3 : Int32)) - (1 : Int32)).toInt64))), .second] [(.long (q2 &&& (9223372036854775807 : Int64))), (.long (q1 &&& (9223372036854775807 : Int64))), (.ref b10)])) rfl (by rw [hml]; rfl) (Steps.refl _) (argsL := [(.long (q1 &&& (9223372036854775807 : Int64))), (.long (q2 &&& (9223372036854775807 : Int64)))]) (rest := []) (lenOf own_pd2 rfl) rfl (by show 2 * 0 + _ ≤ _; exact Nat.le_of_eq rfl) (hb hby at_108) (fun _ _ => ⟨rfl, e12, (by decide : 1 + 0 ≤ _), (by decide : 1 + 0 ≤ _)⟩)
      dsimp only [Pt.U, Pt.locs, Pt.cells, Pt.slots] at X16 l16 y16 z16 st16 hQ16
      subst l16 y16 z16
      obtain ⟨rfl, N16q, e16⟩ := hQ16
      have N16 := Fr.app N12 N16q
      refine own_tr st16 ?_
      show own_G p e below (K_0 Z q0 q1 q2 p3 h0 n0 s) (T16.setTop (mkF m 111 #[.val (.long q0), .second, .val (.long q1), .second, .val (.long q2), .second, .val (.int p3), .val (.long (q0 &&& (9223372036854775807 : Int64))), .second, .val (.long (q1 &&& (9223372036854775807 : Int64))), .second, .val (.long (q2 &&& (9223372036854775807 : Int64))), .second, .val (.ref b10), .val (.int z14), .val (.long ((q0 &&& (9223372036854775807 : Int64)) + (((((p3.toUInt32 >>> ((1 : Int32) &&& 31).toUInt32).toInt32) % (3 : Int32)) - (1 : Int32)).toInt64))), .second] [(.int (own_ip (q0 &&& (9223372036854775807 : Int64)) (q1 &&& (9223372036854775807 : Int64)) (q2 &&& (9223372036854775807 : Int64))))]))
      refine own_go (fun t k => XS.iload X16.here hx rfl (hb hby at_111) rfl k) ?_
      show own_G p e below (K_0 Z q0 q1 q2 p3 h0 n0 s) (T16.setTop (mkF m 113 #[.val (.long q0), .second, .val (.long q1), .second, .val (.long q2), .second, .val (.int p3), .val (.long (q0 &&& (9223372036854775807 : Int64))), .second, .val (.long (q1 &&& (9223372036854775807 : Int64))), .second, .val (.long (q2 &&& (9223372036854775807 : Int64))), .second, .val (.ref b10), .val (.int z14), .val (.long ((q0 &&& (9223372036854775807 : Int64)) + (((((p3.toUInt32 >>> ((1 : Int32) &&& 31).toUInt32).toInt32) % (3 : Int32)) - (1 : Int32)).toInt64))), .second] [(.int z14), (.int (own_ip (q0 &&& (9223372036854775807 : Int64)) (q1 &&& (9223372036854775807 : Int64)) (q2 &&& (9223372036854775807 : Int64))))]))
      refine own_go (fun t k => XS.icmpNo X16.here hx rfl (hb hby at_113) rfl (teq (own_cmp hz14 (own_mx _) (own_mx _) (own_mx _))).2 k) ?_
      show own_G p e below (K_0 Z q0 q1 q2 p3 h0 n0 s) (T16.setTop (mkF m 116 #[.val (.long q0), .second, .val (.long q1), .second, .val (.long q2), .second, .val (.int p3), .val (.long (q0 &&& (9223372036854775807 : Int64))), .second, .val (.long (q1 &&& (9223372036854775807 : Int64))), .second, .val (.long (q2 &&& (9223372036854775807 : Int64))), .second, .val (.ref b10), .val (.int z14), .val (.long ((q0 &&& (9223372036854775807 : Int64)) + (((((p3.toUInt32 >>> ((1 : Int32) &&& 31).toUInt32).toInt32) % (3 : Int32)) - (1 : Int32)).toInt64))), .second] []))
      refine own_go (fun t k => XS.iconst X16.here hx rfl (hb hby at_116) k) ?_
      show own_G p e below (K_0 Z q0 q1 q2 p3 h0 n0 s) (T16.setTop (mkF m 117 #[.val (.long q0), .second, .val (.long q1), .second, .val (.long q2), .second, .val (.int p3), .val (.long (q0 &&& (9223372036854775807 : Int64))), .second, .val (.long (q1 &&& (9223372036854775807 : Int64))), .second, .val (.long (q2 &&& (9223372036854775807 : Int64))), .second, .val (.ref b10), .val (.int z14), .val (.long ((q0 &&& (9223372036854775807 : Int64)) + (((((p3.toUInt32 >>> ((1 : Int32) &&& 31).toUInt32).toInt32) % (3 : Int32)) - (1 : Int32)).toInt64))), .second] [(.int (1 : Int32))]))
      refine own_go (fun t k => XS.goto X16.here hx rfl (pc0 := 117) (pc' := 121) rfl (hb hby at_117) (by decide) (by decide) k) ?_
      show own_G p e below (K_0 Z q0 q1 q2 p3 h0 n0 s) (T16.setTop (mkF m 121 #[.val (.long q0), .second, .val (.long q1), .second, .val (.long q2), .second, .val (.int p3), .val (.long (q0 &&& (9223372036854775807 : Int64))), .second, .val (.long (q1 &&& (9223372036854775807 : Int64))), .second, .val (.long (q2 &&& (9223372036854775807 : Int64))), .second, .val (.ref b10), .val (.int z14), .val (.long ((q0 &&& (9223372036854775807 : Int64)) + (((((p3.toUInt32 >>> ((1 : Int32) &&& 31).toUInt32).toInt32) % (3 : Int32)) - (1 : Int32)).toInt64))), .second] [(.int (1 : Int32))]))
      exact own_retN X16 hx Bd.notSynchronized (t := .boolean) (z' := (1 : Int32)) Bd.returns (by simp) (hb hby at_121) rfl (fun U hU hV hF => ⟨_, _, rfl, ⟨rfl, N16⟩, hF.1, hF.2.1, hF.2.2.mono (by decide) (by decide)⟩)
    · skip
      refine own_go (fun t k => XS.ifNo X0.here hx rfl (hb hby at_51) rfl ((if0 _ _).trans (flt (mt (lw_lt _ _).mp hc51_9)).1) k) ?_
      show own_G p e below (K_0 Z q0 q1 q2 p3 h0 n0 s) (s₁.setTop (mkF m 54 #[.val (.long q0), .second, .val (.long q1), .second, .val (.long q2), .second, .val (.int p3), .val (.long (q0 &&& (9223372036854775807 : Int64))), .second, .val (.long (q1 &&& (9223372036854775807 : Int64))), .second, .val (.long (q2 &&& (9223372036854775807 : Int64))), .second, .val (.long (((((p3.toUInt32 >>> ((1 : Int32) &&& 31).toUInt32).toInt32) % (3 : Int32)) - (1 : Int32)).toInt64)), .second, .val (.long ((q0 &&& (9223372036854775807 : Int64)) + (((((p3.toUInt32 >>> ((1 : Int32) &&& 31).toUInt32).toInt32) % (3 : Int32)) - (1 : Int32)).toInt64))), .second] []))
      refine own_go (fun t k => XS.lload X0.here hx rfl (hb hby at_54) rfl k) ?_
      show own_G p e below (K_0 Z q0 q1 q2 p3 h0 n0 s) (s₁.setTop (mkF m 56 #[.val (.long q0), .second, .val (.long q1), .second, .val (.long q2), .second, .val (.int p3), .val (.long (q0 &&& (9223372036854775807 : Int64))), .second, .val (.long (q1 &&& (9223372036854775807 : Int64))), .second, .val (.long (q2 &&& (9223372036854775807 : Int64))), .second, .val (.long (((((p3.toUInt32 >>> ((1 : Int32) &&& 31).toUInt32).toInt32) % (3 : Int32)) - (1 : Int32)).toInt64)), .second, .val (.long ((q0 &&& (9223372036854775807 : Int64)) + (((((p3.toUInt32 >>> ((1 : Int32) &&& 31).toUInt32).toInt32) % (3 : Int32)) - (1 : Int32)).toInt64))), .second] [(.long (q1 &&& (9223372036854775807 : Int64)))]))
      refine own_go (X0.ldc2Long hx hown (mvT hZ (hw _ (List.mem_of_getElem? (i := 0) rfl))) (g := (mkF m 56 #[.val (.long q0), .second, .val (.long q1), .second, .val (.long q2), .second, .val (.int p3), .val (.long (q0 &&& (9223372036854775807 : Int64))), .second, .val (.long (q1 &&& (9223372036854775807 : Int64))), .second, .val (.long (q2 &&& (9223372036854775807 : Int64))), .second, .val (.long (((((p3.toUInt32 >>> ((1 : Int32) &&& 31).toUInt32).toInt32) % (3 : Int32)) - (1 : Int32)).toInt64)), .second, .val (.long ((q0 &&& (9223372036854775807 : Int64)) + (((((p3.toUInt32 >>> ((1 : Int32) &&& 31).toUInt32).toInt32) % (3 : Int32)) - (1 : Int32)).toInt64))), .second] [(.long (q1 &&& (9223372036854775807 : Int64)))])) rfl (hb hby at_56)) ?_
      show own_G p e below (K_0 Z q0 q1 q2 p3 h0 n0 s) (s₁.setTop (mkF m 59 #[.val (.long q0), .second, .val (.long q1), .second, .val (.long q2), .second, .val (.int p3), .val (.long (q0 &&& (9223372036854775807 : Int64))), .second, .val (.long (q1 &&& (9223372036854775807 : Int64))), .second, .val (.long (q2 &&& (9223372036854775807 : Int64))), .second, .val (.long (((((p3.toUInt32 >>> ((1 : Int32) &&& 31).toUInt32).toInt32) % (3 : Int32)) - (1 : Int32)).toInt64)), .second, .val (.long ((q0 &&& (9223372036854775807 : Int64)) + (((((p3.toUInt32 >>> ((1 : Int32) &&& 31).toUInt32).toInt32) % (3 : Int32)) - (1 : Int32)).toInt64))), .second] [(.long (9223372036854775807 : Int64)), (.long (q1 &&& (9223372036854775807 : Int64)))]))
      refine own_go (fun t k => XS.lload X0.here hx rfl (hb hby at_59) rfl k) ?_
      show own_G p e below (K_0 Z q0 q1 q2 p3 h0 n0 s) (s₁.setTop (mkF m 61 #[.val (.long q0), .second, .val (.long q1), .second, .val (.long q2), .second, .val (.int p3), .val (.long (q0 &&& (9223372036854775807 : Int64))), .second, .val (.long (q1 &&& (9223372036854775807 : Int64))), .second, .val (.long (q2 &&& (9223372036854775807 : Int64))), .second, .val (.long (((((p3.toUInt32 >>> ((1 : Int32) &&& 31).toUInt32).toInt32) % (3 : Int32)) - (1 : Int32)).toInt64)), .second, .val (.long ((q0 &&& (9223372036854775807 : Int64)) + (((((p3.toUInt32 >>> ((1 : Int32) &&& 31).toUInt32).toInt32) % (3 : Int32)) - (1 : Int32)).toInt64))), .second] [(.long ((q0 &&& (9223372036854775807 : Int64)) + (((((p3.toUInt32 >>> ((1 : Int32) &&& 31).toUInt32).toInt32) % (3 : Int32)) - (1 : Int32)).toInt64))), (.long (9223372036854775807 : Int64)), (.long (q1 &&& (9223372036854775807 : Int64)))]))
      refine own_go (fun t k => XS.lsub X0.here hx rfl (hb hby at_61) rfl k) ?_
      show own_G p e below (K_0 Z q0 q1 q2 p3 h0 n0 s) (s₁.setTop (mkF m 62 #[.val (.long q0), .second, .val (.long q1), .second, .val (.long q2), .second, .val (.int p3), .val (.long (q0 &&& (9223372036854775807 : Int64))), .second, .val (.long (q1 &&& (9223372036854775807 : Int64))), .second, .val (.long (q2 &&& (9223372036854775807 : Int64))), .second, .val (.long (((((p3.toUInt32 >>> ((1 : Int32) &&& 31).toUInt32).toInt32) % (3 : Int32)) - (1 : Int32)).toInt64)), .second, .val (.long ((q0 &&& (9223372036854775807 : Int64)) + (((((p3.toUInt32 >>> ((1 : Int32) &&& 31).toUInt32).toInt32) % (3 : Int32)) - (1 : Int32)).toInt64))), .second] [(.long ((9223372036854775807 : Int64) - ((q0 &&& (9223372036854775807 : Int64)) + (((((p3.toUInt32 >>> ((1 : Int32) &&& 31).toUInt32).toInt32) % (3 : Int32)) - (1 : Int32)).toInt64)))), (.long (q1 &&& (9223372036854775807 : Int64)))]))
      refine own_go (fun t k => XS.lcmp X0.here hx rfl (hb hby at_62) rfl k) ?_
      show own_G p e below (K_0 Z q0 q1 q2 p3 h0 n0 s) (s₁.setTop (mkF m 63 #[.val (.long q0), .second, .val (.long q1), .second, .val (.long q2), .second, .val (.int p3), .val (.long (q0 &&& (9223372036854775807 : Int64))), .second, .val (.long (q1 &&& (9223372036854775807 : Int64))), .second, .val (.long (q2 &&& (9223372036854775807 : Int64))), .second, .val (.long (((((p3.toUInt32 >>> ((1 : Int32) &&& 31).toUInt32).toInt32) % (3 : Int32)) - (1 : Int32)).toInt64)), .second, .val (.long ((q0 &&& (9223372036854775807 : Int64)) + (((((p3.toUInt32 >>> ((1 : Int32) &&& 31).toUInt32).toInt32) % (3 : Int32)) - (1 : Int32)).toInt64))), .second] [(.int (lcmpW (q1 &&& (9223372036854775807 : Int64)) ((9223372036854775807 : Int64) - ((q0 &&& (9223372036854775807 : Int64)) + (((((p3.toUInt32 >>> ((1 : Int32) &&& 31).toUInt32).toInt32) % (3 : Int32)) - (1 : Int32)).toInt64)))))]))
      by_cases hc63_17 : ((9223372036854775807 : Int64) - ((q0 &&& (9223372036854775807 : Int64)) + (((((p3.toUInt32 >>> ((1 : Int32) &&& 31).toUInt32).toInt32) % (3 : Int32)) - (1 : Int32)).toInt64))) < (q1 &&& (9223372036854775807 : Int64))
      · skip
        refine own_go (fun t k => XS.ifYes X0.here hx rfl (pc0 := 63) (pc' := 73) rfl (hb hby at_63) rfl ((if0 _ _).trans (tlt ((lw_gt _ _).mpr hc63_17)).2.2.1) (by decide) (by decide) k) ?_
        show own_G p e below (K_0 Z q0 q1 q2 p3 h0 n0 s) (s₁.setTop (mkF m 73 #[.val (.long q0), .second, .val (.long q1), .second, .val (.long q2), .second, .val (.int p3), .val (.long (q0 &&& (9223372036854775807 : Int64))), .second, .val (.long (q1 &&& (9223372036854775807 : Int64))), .second, .val (.long (q2 &&& (9223372036854775807 : Int64))), .second, .val (.long (((((p3.toUInt32 >>> ((1 : Int32) &&& 31).toUInt32).toInt32) % (3 : Int32)) - (1 : Int32)).toInt64)), .second, .val (.long ((q0 &&& (9223372036854775807 : Int64)) + (((((p3.toUInt32 >>> ((1 : Int32) &&& 31).toUInt32).toInt32) % (3 : Int32)) - (1 : Int32)).toInt64))), .second] []))
        obtain ⟨T18, h18, X18, e18, E18, A18, D18, -, st18⟩ := newO X0 hx hZ hown (hw _ (List.mem_of_getElem? (i := 1) rfl)) (hw _ (List.mem_of_getElem? (i := 2) rfl)) (hw _ (List.mem_of_getElem? (i := 3) rfl)) e0 (g := (mkF m 73 #[.val (.long q0), .second, .val (.long q1), .second, .val (.long q2), .second, .val (.int p3), .val (.long (q0 &&& (9223372036854775807 : Int64))), .second, .val (.long (q1 &&& (9223372036854775807 : Int64))), .second, .val (.long (q2 &&& (9223372036854775807 : Int64))), .second, .val (.long (((((p3.toUInt32 >>> ((1 : Int32) &&& 31).toUInt32).toInt32) % (3 : Int32)) - (1 : Int32)).toInt64)), .second, .val (.long ((q0 &&& (9223372036854775807 : Int64)) + (((((p3.toUInt32 >>> ((1 : Int32) &&& 31).toUInt32).toInt32) % (3 : Int32)) - (1 : Int32)).toInt64))), .second] [])) rfl (hb hby at_73) (by decide) (by decide)
        obtain ⟨b18, g18⟩ : ∃ z, z = h0.size := ⟨_, rfl⟩
        rw [← g18] at A18 D18 st18
        refine own_go st18 ?_
        have g_b18 : n0 ≤ b18 := Nat.le_trans Z0 (Nat.le_of_eq g18.symm)
        have Z19 : n0 ≤ h18.size := Nat.le_trans Z0 E18.1
        have F18_seconds : Fld Z h18 b18 "com/example/tidelog/tidelog/IdleLimit" "seconds" "J" (.long (0 : Int64)) := D18 (Or.inr (hw _ (List.mem_of_getElem? (i := 16) rfl))) (ty := .long) (by decide)
        show own_G p e below (K_0 Z q0 q1 q2 p3 h0 n0 s) (T18.setTop (mkF m 76 #[.val (.long q0), .second, .val (.long q1), .second, .val (.long q2), .second, .val (.int p3), .val (.long (q0 &&& (9223372036854775807 : Int64))), .second, .val (.long (q1 &&& (9223372036854775807 : Int64))), .second, .val (.long (q2 &&& (9223372036854775807 : Int64))), .second, .val (.long (((((p3.toUInt32 >>> ((1 : Int32) &&& 31).toUInt32).toInt32) % (3 : Int32)) - (1 : Int32)).toInt64)), .second, .val (.long ((q0 &&& (9223372036854775807 : Int64)) + (((((p3.toUInt32 >>> ((1 : Int32) &&& 31).toUInt32).toInt32) % (3 : Int32)) - (1 : Int32)).toInt64))), .second] [(.ref b18)]))
        refine own_go (fun t k => XS.dup X18.here hx rfl (hb hby at_76) rfl rfl k) ?_
        show own_G p e below (K_0 Z q0 q1 q2 p3 h0 n0 s) (T18.setTop (mkF m 77 #[.val (.long q0), .second, .val (.long q1), .second, .val (.long q2), .second, .val (.int p3), .val (.long (q0 &&& (9223372036854775807 : Int64))), .second, .val (.long (q1 &&& (9223372036854775807 : Int64))), .second, .val (.long (q2 &&& (9223372036854775807 : Int64))), .second, .val (.long (((((p3.toUInt32 >>> ((1 : Int32) &&& 31).toUInt32).toInt32) % (3 : Int32)) - (1 : Int32)).toInt64)), .second, .val (.long ((q0 &&& (9223372036854775807 : Int64)) + (((((p3.toUInt32 >>> ((1 : Int32) &&& 31).toUInt32).toInt32) % (3 : Int32)) - (1 : Int32)).toInt64))), .second] [(.ref b18), (.ref b18)]))
        refine own_go (fun t k => XS.lload X18.here hx rfl (hb hby at_77) rfl k) ?_
        show own_G p e below (K_0 Z q0 q1 q2 p3 h0 n0 s) (T18.setTop (mkF m 79 #[.val (.long q0), .second, .val (.long q1), .second, .val (.long q2), .second, .val (.int p3), .val (.long (q0 &&& (9223372036854775807 : Int64))), .second, .val (.long (q1 &&& (9223372036854775807 : Int64))), .second, .val (.long (q2 &&& (9223372036854775807 : Int64))), .second, .val (.long (((((p3.toUInt32 >>> ((1 : Int32) &&& 31).toUInt32).toInt32) % (3 : Int32)) - (1 : Int32)).toInt64)), .second, .val (.long ((q0 &&& (9223372036854775807 : Int64)) + (((((p3.toUInt32 >>> ((1 : Int32) &&& 31).toUInt32).toInt32) % (3 : Int32)) - (1 : Int32)).toInt64))), .second] [(.long (q0 &&& (9223372036854775807 : Int64))), (.ref b18), (.ref b18)]))
        obtain ⟨_, _, ⟨T20, L20, k20, n20⟩, -, X20, ⟨Lc20, hQ20, l20, y20, z20⟩, st20⟩ := X18.specialBack hx (y := (⟨"com/example/tidelog/tidelog/IdleLimit", "<init>", "(J)V"⟩ : MethodName)) rfl hown (mvT hZ (hw _ (List.mem_of_getElem? (i := 4) rfl))) (mvT hZ (hw _ (List.mem_of_getElem? (i := 5) rfl))) (mvT hZ (hw _ (List.mem_of_getElem? (i := 6) rfl))) (by decide) (backOf (W := 1) (rm_ct l Z a0 hw [] b18 (q0 &&& (9223372036854775807 : Int64)) h18 n0 Z19 F18_seconds A18 g_b18) hZ (hw _ (List.mem_of_getElem? (i := 6) rfl)) (hw _ (List.mem_of_getElem? (i := 3) rfl)) (by decide) (by decide)) (g := (mkF m 79 #[.val (.long q0), .second, .val (.long q1), .second, .val (.long q2), .second, .val (.int p3), .val (.long (q0 &&& (9223372036854775807 : Int64))), .second, .val (.long (q1 &&& (9223372036854775807 : Int64))), .second, .val (.long (q2 &&& (9223372036854775807 : Int64))), .second, .val (.long (((((p3.toUInt32 >>> ((1 : Int32) &&& 31).toUInt32).toInt32) % (3 : Int32)) - (1 : Int32)).toInt64)), .second, .val (.long ((q0 &&& (9223372036854775807 : Int64)) + (((((p3.toUInt32 >>> ((1 : Int32) &&& 31).toUInt32).toInt32) % (3 : Int32)) - (1 : Int32)).toInt64))), .second] [(.long (q0 &&& (9223372036854775807 : Int64))), (.ref b18), (.ref b18)])) rfl (by rw [hml]; rfl) (Steps.refl _) (a := b18) (argsL := [(.long (q0 &&& (9223372036854775807 : Int64)))]) (rest := [(.ref b18)]) (lenOf own_pd1 rfl) rfl (by show 2 * 0 + _ ≤ _; exact Nat.le_of_eq rfl) (hb hby at_79) (fun _ _ => ⟨rfl, e18, (by decide : 1 + 0 ≤ _), (by decide : 1 + 0 ≤ _)⟩)
        dsimp only [Pt.U, Pt.locs, Pt.cells, Pt.slots] at X20 l20 y20 z20 st20 hQ20
        subst l20 y20 z20
        obtain ⟨rfl, N20q, K20q, E20q, F20_0⟩ := hQ20
        have N20 := Fr.app N0 N20q
        obtain ⟨h20, e20⟩ : ∃ z, T20.heap = z := ⟨_, rfl⟩
        rw [e20] at K20q E20q F20_0
        have Z21 : n0 ≤ h20.size := Nat.le_trans Z19 K20q.1
        refine own_tr st20 ?_
        show own_G p e below (K_0 Z q0 q1 q2 p3 h0 n0 s) (T20.setTop (mkF m 82 #[.val (.long q0), .second, .val (.long q1), .second, .val (.long q2), .second, .val (.int p3), .val (.long (q0 &&& (9223372036854775807 : Int64))), .second, .val (.long (q1 &&& (9223372036854775807 : Int64))), .second, .val (.long (q2 &&& (9223372036854775807 : Int64))), .second, .val (.long (((((p3.toUInt32 >>> ((1 : Int32) &&& 31).toUInt32).toInt32) % (3 : Int32)) - (1 : Int32)).toInt64)), .second, .val (.long ((q0 &&& (9223372036854775807 : Int64)) + (((((p3.toUInt32 >>> ((1 : Int32) &&& 31).toUInt32).toInt32) % (3 : Int32)) - (1 : Int32)).toInt64))), .second] [(.ref b18)]))
        refine own_go (fun t k => XS.astore X20.here hx rfl (hb hby at_82) rfl rfl (l' := #[.val (.long q0), .second, .val (.long q1), .second, .val (.long q2), .second, .val (.int p3), .val (.long (q0 &&& (9223372036854775807 : Int64))), .second, .val (.long (q1 &&& (9223372036854775807 : Int64))), .second, .val (.long (q2 &&& (9223372036854775807 : Int64))), .second, .val (.ref b18), .unset, .val (.long ((q0 &&& (9223372036854775807 : Int64)) + (((((p3.toUInt32 >>> ((1 : Int32) &&& 31).toUInt32).toInt32) % (3 : Int32)) - (1 : Int32)).toInt64))), .second]) rfl k) ?_
        show own_G p e below (K_0 Z q0 q1 q2 p3 h0 n0 s) (T20.setTop (mkF m 84 #[.val (.long q0), .second, .val (.long q1), .second, .val (.long q2), .second, .val (.int p3), .val (.long (q0 &&& (9223372036854775807 : Int64))), .second, .val (.long (q1 &&& (9223372036854775807 : Int64))), .second, .val (.long (q2 &&& (9223372036854775807 : Int64))), .second, .val (.ref b18), .unset, .val (.long ((q0 &&& (9223372036854775807 : Int64)) + (((((p3.toUInt32 >>> ((1 : Int32) &&& 31).toUInt32).toInt32) % (3 : Int32)) - (1 : Int32)).toInt64))), .second] []))
        refine own_go (fun t k => XS.lload X20.here hx rfl (hb hby at_84) rfl k) ?_
        show own_G p e below (K_0 Z q0 q1 q2 p3 h0 n0 s) (T20.setTop (mkF m 86 #[.val (.long q0), .second, .val (.long q1), .second, .val (.long q2), .second, .val (.int p3), .val (.long (q0 &&& (9223372036854775807 : Int64))), .second, .val (.long (q1 &&& (9223372036854775807 : Int64))), .second, .val (.long (q2 &&& (9223372036854775807 : Int64))), .second, .val (.ref b18), .unset, .val (.long ((q0 &&& (9223372036854775807 : Int64)) + (((((p3.toUInt32 >>> ((1 : Int32) &&& 31).toUInt32).toInt32) % (3 : Int32)) - (1 : Int32)).toInt64))), .second] [(.long (q2 &&& (9223372036854775807 : Int64)))]))
        refine own_go (fun t k => XS.lload X20.here hx rfl (hb hby at_86) rfl k) ?_
        show own_G p e below (K_0 Z q0 q1 q2 p3 h0 n0 s) (T20.setTop (mkF m 88 #[.val (.long q0), .second, .val (.long q1), .second, .val (.long q2), .second, .val (.int p3), .val (.long (q0 &&& (9223372036854775807 : Int64))), .second, .val (.long (q1 &&& (9223372036854775807 : Int64))), .second, .val (.long (q2 &&& (9223372036854775807 : Int64))), .second, .val (.ref b18), .unset, .val (.long ((q0 &&& (9223372036854775807 : Int64)) + (((((p3.toUInt32 >>> ((1 : Int32) &&& 31).toUInt32).toInt32) % (3 : Int32)) - (1 : Int32)).toInt64))), .second] [(.long (q0 &&& (9223372036854775807 : Int64))), (.long (q2 &&& (9223372036854775807 : Int64)))]))
        refine own_go (fun t k => XS.lsub X20.here hx rfl (hb hby at_88) rfl k) ?_
        show own_G p e below (K_0 Z q0 q1 q2 p3 h0 n0 s) (T20.setTop (mkF m 89 #[.val (.long q0), .second, .val (.long q1), .second, .val (.long q2), .second, .val (.int p3), .val (.long (q0 &&& (9223372036854775807 : Int64))), .second, .val (.long (q1 &&& (9223372036854775807 : Int64))), .second, .val (.long (q2 &&& (9223372036854775807 : Int64))), .second, .val (.ref b18), .unset, .val (.long ((q0 &&& (9223372036854775807 : Int64)) + (((((p3.toUInt32 >>> ((1 : Int32) &&& 31).toUInt32).toInt32) % (3 : Int32)) - (1 : Int32)).toInt64))), .second] [(.long ((q2 &&& (9223372036854775807 : Int64)) - (q0 &&& (9223372036854775807 : Int64))))]))
        refine own_go (fun t k => XS.lload X20.here hx rfl (hb hby at_89) rfl k) ?_
        show own_G p e below (K_0 Z q0 q1 q2 p3 h0 n0 s) (T20.setTop (mkF m 91 #[.val (.long q0), .second, .val (.long q1), .second, .val (.long q2), .second, .val (.int p3), .val (.long (q0 &&& (9223372036854775807 : Int64))), .second, .val (.long (q1 &&& (9223372036854775807 : Int64))), .second, .val (.long (q2 &&& (9223372036854775807 : Int64))), .second, .val (.ref b18), .unset, .val (.long ((q0 &&& (9223372036854775807 : Int64)) + (((((p3.toUInt32 >>> ((1 : Int32) &&& 31).toUInt32).toInt32) % (3 : Int32)) - (1 : Int32)).toInt64))), .second] [(.long (q1 &&& (9223372036854775807 : Int64))), (.long ((q2 &&& (9223372036854775807 : Int64)) - (q0 &&& (9223372036854775807 : Int64))))]))
        refine own_go (fun t k => XS.lcmp X20.here hx rfl (hb hby at_91) rfl k) ?_
        show own_G p e below (K_0 Z q0 q1 q2 p3 h0 n0 s) (T20.setTop (mkF m 92 #[.val (.long q0), .second, .val (.long q1), .second, .val (.long q2), .second, .val (.int p3), .val (.long (q0 &&& (9223372036854775807 : Int64))), .second, .val (.long (q1 &&& (9223372036854775807 : Int64))), .second, .val (.long (q2 &&& (9223372036854775807 : Int64))), .second, .val (.ref b18), .unset, .val (.long ((q0 &&& (9223372036854775807 : Int64)) + (((((p3.toUInt32 >>> ((1 : Int32) &&& 31).toUInt32).toInt32) % (3 : Int32)) - (1 : Int32)).toInt64))), .second] [(.int (lcmpW ((q2 &&& (9223372036854775807 : Int64)) - (q0 &&& (9223372036854775807 : Int64))) (q1 &&& (9223372036854775807 : Int64))))]))
        obtain ⟨z22, hz22⟩ : ∃ z : Int32, z = (if (q1 &&& (9223372036854775807 : Int64)) < ((q2 &&& (9223372036854775807 : Int64)) - (q0 &&& (9223372036854775807 : Int64))) then (1 : Int32) else (0 : Int32)) := ⟨_, rfl⟩
        suffices Jz22 : own_G p e below (K_0 Z q0 q1 q2 p3 h0 n0 s) (T20.setTop (mkF m 100 #[.val (.long q0), .second, .val (.long q1), .second, .val (.long q2), .second, .val (.int p3), .val (.long (q0 &&& (9223372036854775807 : Int64))), .second, .val (.long (q1 &&& (9223372036854775807 : Int64))), .second, .val (.long (q2 &&& (9223372036854775807 : Int64))), .second, .val (.ref b18), .unset, .val (.long ((q0 &&& (9223372036854775807 : Int64)) + (((((p3.toUInt32 >>> ((1 : Int32) &&& 31).toUInt32).toInt32) % (3 : Int32)) - (1 : Int32)).toInt64))), .second] [(.int z22)])) by
          by_cases hc92_23 : (q1 &&& (9223372036854775807 : Int64)) < ((q2 &&& (9223372036854775807 : Int64)) - (q0 &&& (9223372036854775807 : Int64)))
          · skip
            rw [if_pos hc92_23] at hz22
            refine own_go (fun t k => XS.ifNo X20.here hx rfl (hb hby at_92) rfl ((if0 _ _).trans (tlt ((lw_gt _ _).mpr hc92_23)).2.2.2) k) ?_
            show own_G p e below (K_0 Z q0 q1 q2 p3 h0 n0 s) (T20.setTop (mkF m 95 #[.val (.long q0), .second, .val (.long q1), .second, .val (.long q2), .second, .val (.int p3), .val (.long (q0 &&& (9223372036854775807 : Int64))), .second, .val (.long (q1 &&& (9223372036854775807 : Int64))), .second, .val (.long (q2 &&& (9223372036854775807 : Int64))), .second, .val (.ref b18), .unset, .val (.long ((q0 &&& (9223372036854775807 : Int64)) + (((((p3.toUInt32 >>> ((1 : Int32) &&& 31).toUInt32).toInt32) % (3 : Int32)) - (1 : Int32)).toInt64))), .second] []))
            refine own_go (fun t k => XS.iconst X20.here hx rfl (hb hby at_95) k) ?_
            show own_G p e below (K_0 Z q0 q1 q2 p3 h0 n0 s) (T20.setTop (mkF m 96 #[.val (.long q0), .second, .val (.long q1), .second, .val (.long q2), .second, .val (.int p3), .val (.long (q0 &&& (9223372036854775807 : Int64))), .second, .val (.long (q1 &&& (9223372036854775807 : Int64))), .second, .val (.long (q2 &&& (9223372036854775807 : Int64))), .second, .val (.ref b18), .unset, .val (.long ((q0 &&& (9223372036854775807 : Int64)) + (((((p3.toUInt32 >>> ((1 : Int32) &&& 31).toUInt32).toInt32) % (3 : Int32)) - (1 : Int32)).toInt64))), .second] [(.int (1 : Int32))]))
            refine own_go (fun t k => XS.goto X20.here hx rfl (pc0 := 96) (pc' := 100) rfl (hb hby at_96) (by decide) (by decide) k) ?_
            show own_G p e below (K_0 Z q0 q1 q2 p3 h0 n0 s) (T20.setTop (mkF m 100 #[.val (.long q0), .second, .val (.long q1), .second, .val (.long q2), .second, .val (.int p3), .val (.long (q0 &&& (9223372036854775807 : Int64))), .second, .val (.long (q1 &&& (9223372036854775807 : Int64))), .second, .val (.long (q2 &&& (9223372036854775807 : Int64))), .second, .val (.ref b18), .unset, .val (.long ((q0 &&& (9223372036854775807 : Int64)) + (((((p3.toUInt32 >>> ((1 : Int32) &&& 31).toUInt32).toInt32) % (3 : Int32)) - (1 : Int32)).toInt64))), .second] [(.int (1 : Int32))]))
            subst hz22; exact Jz22
          · skip
            rw [if_neg hc92_23] at hz22
            refine own_go (fun t k => XS.ifYes X20.here hx rfl (pc0 := 92) (pc' := 99) rfl (hb hby at_92) rfl ((if0 _ _).trans (flt (mt (lw_gt _ _).mp hc92_23)).2.2.2) (by decide) (by decide) k) ?_
            show own_G p e below (K_0 Z q0 q1 q2 p3 h0 n0 s) (T20.setTop (mkF m 99 #[.val (.long q0), .second, .val (.long q1), .second, .val (.long q2), .second, .val (.int p3), .val (.long (q0 &&& (9223372036854775807 : Int64))), .second, .val (.long (q1 &&& (9223372036854775807 : Int64))), .second, .val (.long (q2 &&& (9223372036854775807 : Int64))), .second, .val (.ref b18), .unset, .val (.long ((q0 &&& (9223372036854775807 : Int64)) + (((((p3.toUInt32 >>> ((1 : Int32) &&& 31).toUInt32).toInt32) % (3 : Int32)) - (1 : Int32)).toInt64))), .second] []))
            refine own_go (fun t k => XS.iconst X20.here hx rfl (hb hby at_99) k) ?_
            show own_G p e below (K_0 Z q0 q1 q2 p3 h0 n0 s) (T20.setTop (mkF m 100 #[.val (.long q0), .second, .val (.long q1), .second, .val (.long q2), .second, .val (.int p3), .val (.long (q0 &&& (9223372036854775807 : Int64))), .second, .val (.long (q1 &&& (9223372036854775807 : Int64))), .second, .val (.long (q2 &&& (9223372036854775807 : Int64))), .second, .val (.ref b18), .unset, .val (.long ((q0 &&& (9223372036854775807 : Int64)) + (((((p3.toUInt32 >>> ((1 : Int32) &&& 31).toUInt32).toInt32) % (3 : Int32)) - (1 : Int32)).toInt64))), .second] [(.int (0 : Int32))]))
            subst hz22; exact Jz22
        show own_G p e below (K_0 Z q0 q1 q2 p3 h0 n0 s) (T20.setTop (mkF m 100 #[.val (.long q0), .second, .val (.long q1), .second, .val (.long q2), .second, .val (.int p3), .val (.long (q0 &&& (9223372036854775807 : Int64))), .second, .val (.long (q1 &&& (9223372036854775807 : Int64))), .second, .val (.long (q2 &&& (9223372036854775807 : Int64))), .second, .val (.ref b18), .unset, .val (.long ((q0 &&& (9223372036854775807 : Int64)) + (((((p3.toUInt32 >>> ((1 : Int32) &&& 31).toUInt32).toInt32) % (3 : Int32)) - (1 : Int32)).toInt64))), .second] [(.int z22)]))
        refine own_go (fun t k => XS.istore X20.here hx rfl (hb hby at_100) rfl (l' := #[.val (.long q0), .second, .val (.long q1), .second, .val (.long q2), .second, .val (.int p3), .val (.long (q0 &&& (9223372036854775807 : Int64))), .second, .val (.long (q1 &&& (9223372036854775807 : Int64))), .second, .val (.long (q2 &&& (9223372036854775807 : Int64))), .second, .val (.ref b18), .val (.int z22), .val (.long ((q0 &&& (9223372036854775807 : Int64)) + (((((p3.toUInt32 >>> ((1 : Int32) &&& 31).toUInt32).toInt32) % (3 : Int32)) - (1 : Int32)).toInt64))), .second]) rfl k) ?_
        show own_G p e below (K_0 Z q0 q1 q2 p3 h0 n0 s) (T20.setTop (mkF m 102 #[.val (.long q0), .second, .val (.long q1), .second, .val (.long q2), .second, .val (.int p3), .val (.long (q0 &&& (9223372036854775807 : Int64))), .second, .val (.long (q1 &&& (9223372036854775807 : Int64))), .second, .val (.long (q2 &&& (9223372036854775807 : Int64))), .second, .val (.ref b18), .val (.int z22), .val (.long ((q0 &&& (9223372036854775807 : Int64)) + (((((p3.toUInt32 >>> ((1 : Int32) &&& 31).toUInt32).toInt32) % (3 : Int32)) - (1 : Int32)).toInt64))), .second] []))
        refine own_go (fun t k => XS.aload X20.here hx rfl (hb hby at_102) rfl rfl k) ?_
        show own_G p e below (K_0 Z q0 q1 q2 p3 h0 n0 s) (T20.setTop (mkF m 104 #[.val (.long q0), .second, .val (.long q1), .second, .val (.long q2), .second, .val (.int p3), .val (.long (q0 &&& (9223372036854775807 : Int64))), .second, .val (.long (q1 &&& (9223372036854775807 : Int64))), .second, .val (.long (q2 &&& (9223372036854775807 : Int64))), .second, .val (.ref b18), .val (.int z22), .val (.long ((q0 &&& (9223372036854775807 : Int64)) + (((((p3.toUInt32 >>> ((1 : Int32) &&& 31).toUInt32).toInt32) % (3 : Int32)) - (1 : Int32)).toInt64))), .second] [(.ref b18)]))
        refine own_go (fun t k => XS.lload X20.here hx rfl (hb hby at_104) rfl k) ?_
        show own_G p e below (K_0 Z q0 q1 q2 p3 h0 n0 s) (T20.setTop (mkF m 106 #[.val (.long q0), .second, .val (.long q1), .second, .val (.long q2), .second, .val (.int p3), .val (.long (q0 &&& (9223372036854775807 : Int64))), .second, .val (.long (q1 &&& (9223372036854775807 : Int64))), .second, .val (.long (q2 &&& (9223372036854775807 : Int64))), .second, .val (.ref b18), .val (.int z22), .val (.long ((q0 &&& (9223372036854775807 : Int64)) + (((((p3.toUInt32 >>> ((1 : Int32) &&& 31).toUInt32).toInt32) % (3 : Int32)) - (1 : Int32)).toInt64))), .second] [(.long (q1 &&& (9223372036854775807 : Int64))), (.ref b18)]))
        refine own_go (fun t k => XS.lload X20.here hx rfl (hb hby at_106) rfl k) ?_
        show own_G p e below (K_0 Z q0 q1 q2 p3 h0 n0 s) (T20.setTop (mkF m 108 #[.val (.long q0), .second, .val (.long q1), .second, .val (.long q2), .second, .val (.int p3), .val (.long (q0 &&& (9223372036854775807 : Int64))), .second, .val (.long (q1 &&& (9223372036854775807 : Int64))), .second, .val (.long (q2 &&& (9223372036854775807 : Int64))), .second, .val (.ref b18), .val (.int z22), .val (.long ((q0 &&& (9223372036854775807 : Int64)) + (((((p3.toUInt32 >>> ((1 : Int32) &&& 31).toUInt32).toInt32) % (3 : Int32)) - (1 : Int32)).toInt64))), .second] [(.long (q2 &&& (9223372036854775807 : Int64))), (.long (q1 &&& (9223372036854775807 : Int64))), (.ref b18)]))
        obtain ⟨cq24, kq24, q24a, q24b, q24c⟩ := isOf hZ e20 E20q
        obtain ⟨_, _, ⟨T24, L24, k24, n24⟩, -, X24, ⟨Lc24, hQ24, l24, y24, z24⟩, st24⟩ := X20.virtualBack hx (y := (⟨"com/example/tidelog/tidelog/IdleLimit", "isPast", "(JJ)Z"⟩ : MethodName)) (z := (⟨"com/example/tidelog/tidelog/IdleLimit", "isPast", "(JJ)Z"⟩ : MethodName)) hown (mvT hZ (hw _ (List.mem_of_getElem? (i := 17) rfl))) (mvT hZ (hw _ (List.mem_of_getElem? (i := 18) rfl))) (notFace_of_selects (args := #[]) (mvT hZ (hw _ (List.mem_of_getElem? (i := 20) rfl)))) (mvT hZ (hw _ (List.mem_of_getElem? (i := 20) rfl))) (mvT hZ (hw _ (List.mem_of_getElem? (i := 19) rfl))) (by decide) (backOf (W := 0) (rm_ip l Z a0 hw [] b18 (q1 &&& (9223372036854775807 : Int64)) (q2 &&& (9223372036854775807 : Int64)) (q0 &&& (9223372036854775807 : Int64)) h20 n0 Z21 F20_0) hZ (hw _ (List.mem_of_getElem? (i := 21) rfl)) (hw _ (List.mem_of_getElem? (i := 3) rfl)) (by decide) (by decide)) q24a q24c (g := (mkF m 108 #[.val (.long q0), .second, .val (.long q1), .second, .val (.long q2), .second, .val (.int p3), .val (.long (q0 &&& (9223372036854775807 : Int64))), .second, .val (.long (q1 &&& (9223372036854775807 : Int64))), .second, .val (.long (q2 &&& (9223372036854775807 : Int64))), .second, .val (.ref b18), .val (.int z22), .val (.long ((q0 &&& (9223372036854775807 : Int64)) + (((((p3.toUInt32 >>> ((1 : Int32) &&& 31).toUInt32).toInt32) % (3 : Int32)) - (1 : Int32)).toInt64))), .second] [(.long (q2 &&& (9223372036854775807 : Int64))), (.long (q1 &&& (9223372036854775807 : Int64))), (.ref b18)])) rfl (by rw [hml]; rfl) (Steps.refl _) (argsL := [(.long (q1 &&& (9223372036854775807 : Int64))), (.long (q2 &&& (9223372036854775807 : Int64)))]) (rest := []) (lenOf own_pd2 rfl) rfl (by show 2 * 0 + _ ≤ _; exact Nat.le_of_eq rfl) (hb hby at_108) (fun _ _ => ⟨rfl, e20, (by decide : 1 + 0 ≤ _), (by decide : 1 + 0 ≤ _)⟩)
        dsimp only [Pt.U, Pt.locs, Pt.cells, Pt.slots] at X24 l24 y24 z24 st24 hQ24
        subst l24 y24 z24
        obtain ⟨rfl, N24q, e24⟩ := hQ24
        have N24 := Fr.app N20 N24q
        refine own_tr st24 ?_
        show own_G p e below (K_0 Z q0 q1 q2 p3 h0 n0 s) (T24.setTop (mkF m 111 #[.val (.long q0), .second, .val (.long q1), .second, .val (.long q2), .second, .val (.int p3), .val (.long (q0 &&& (9223372036854775807 : Int64))), .second, .val (.long (q1 &&& (9223372036854775807 : Int64))), .second, .val (.long (q2 &&& (9223372036854775807 : Int64))), .second, .val (.ref b18), .val (.int z22), .val (.long ((q0 &&& (9223372036854775807 : Int64)) + (((((p3.toUInt32 >>> ((1 : Int32) &&& 31).toUInt32).toInt32) % (3 : Int32)) - (1 : Int32)).toInt64))), .second] [(.int (own_ip (q0 &&& (9223372036854775807 : Int64)) (q1 &&& (9223372036854775807 : Int64)) (q2 &&& (9223372036854775807 : Int64))))]))
        refine own_go (fun t k => XS.iload X24.here hx rfl (hb hby at_111) rfl k) ?_
        show own_G p e below (K_0 Z q0 q1 q2 p3 h0 n0 s) (T24.setTop (mkF m 113 #[.val (.long q0), .second, .val (.long q1), .second, .val (.long q2), .second, .val (.int p3), .val (.long (q0 &&& (9223372036854775807 : Int64))), .second, .val (.long (q1 &&& (9223372036854775807 : Int64))), .second, .val (.long (q2 &&& (9223372036854775807 : Int64))), .second, .val (.ref b18), .val (.int z22), .val (.long ((q0 &&& (9223372036854775807 : Int64)) + (((((p3.toUInt32 >>> ((1 : Int32) &&& 31).toUInt32).toInt32) % (3 : Int32)) - (1 : Int32)).toInt64))), .second] [(.int z22), (.int (own_ip (q0 &&& (9223372036854775807 : Int64)) (q1 &&& (9223372036854775807 : Int64)) (q2 &&& (9223372036854775807 : Int64))))]))
        refine own_go (fun t k => XS.icmpNo X24.here hx rfl (hb hby at_113) rfl (teq (own_cmp hz22 (own_mx _) (own_mx _) (own_mx _))).2 k) ?_
        show own_G p e below (K_0 Z q0 q1 q2 p3 h0 n0 s) (T24.setTop (mkF m 116 #[.val (.long q0), .second, .val (.long q1), .second, .val (.long q2), .second, .val (.int p3), .val (.long (q0 &&& (9223372036854775807 : Int64))), .second, .val (.long (q1 &&& (9223372036854775807 : Int64))), .second, .val (.long (q2 &&& (9223372036854775807 : Int64))), .second, .val (.ref b18), .val (.int z22), .val (.long ((q0 &&& (9223372036854775807 : Int64)) + (((((p3.toUInt32 >>> ((1 : Int32) &&& 31).toUInt32).toInt32) % (3 : Int32)) - (1 : Int32)).toInt64))), .second] []))
        refine own_go (fun t k => XS.iconst X24.here hx rfl (hb hby at_116) k) ?_
        show own_G p e below (K_0 Z q0 q1 q2 p3 h0 n0 s) (T24.setTop (mkF m 117 #[.val (.long q0), .second, .val (.long q1), .second, .val (.long q2), .second, .val (.int p3), .val (.long (q0 &&& (9223372036854775807 : Int64))), .second, .val (.long (q1 &&& (9223372036854775807 : Int64))), .second, .val (.long (q2 &&& (9223372036854775807 : Int64))), .second, .val (.ref b18), .val (.int z22), .val (.long ((q0 &&& (9223372036854775807 : Int64)) + (((((p3.toUInt32 >>> ((1 : Int32) &&& 31).toUInt32).toInt32) % (3 : Int32)) - (1 : Int32)).toInt64))), .second] [(.int (1 : Int32))]))
        refine own_go (fun t k => XS.goto X24.here hx rfl (pc0 := 117) (pc' := 121) rfl (hb hby at_117) (by decide) (by decide) k) ?_
        show own_G p e below (K_0 Z q0 q1 q2 p3 h0 n0 s) (T24.setTop (mkF m 121 #[.val (.long q0), .second, .val (.long q1), .second, .val (.long q2), .second, .val (.int p3), .val (.long (q0 &&& (9223372036854775807 : Int64))), .second, .val (.long (q1 &&& (9223372036854775807 : Int64))), .second, .val (.long (q2 &&& (9223372036854775807 : Int64))), .second, .val (.ref b18), .val (.int z22), .val (.long ((q0 &&& (9223372036854775807 : Int64)) + (((((p3.toUInt32 >>> ((1 : Int32) &&& 31).toUInt32).toInt32) % (3 : Int32)) - (1 : Int32)).toInt64))), .second] [(.int (1 : Int32))]))
        exact own_retN X24 hx Bd.notSynchronized (t := .boolean) (z' := (1 : Int32)) Bd.returns (by simp) (hb hby at_121) rfl (fun U hU hV hF => ⟨_, _, rfl, ⟨rfl, N24⟩, hF.1, hF.2.1, hF.2.2.mono (by decide) (by decide)⟩)
      · skip
        refine own_go (fun t k => XS.ifNo X0.here hx rfl (hb hby at_63) rfl ((if0 _ _).trans (flt (mt (lw_gt _ _).mp hc63_17)).2.2.1) k) ?_
        show own_G p e below (K_0 Z q0 q1 q2 p3 h0 n0 s) (s₁.setTop (mkF m 66 #[.val (.long q0), .second, .val (.long q1), .second, .val (.long q2), .second, .val (.int p3), .val (.long (q0 &&& (9223372036854775807 : Int64))), .second, .val (.long (q1 &&& (9223372036854775807 : Int64))), .second, .val (.long (q2 &&& (9223372036854775807 : Int64))), .second, .val (.long (((((p3.toUInt32 >>> ((1 : Int32) &&& 31).toUInt32).toInt32) % (3 : Int32)) - (1 : Int32)).toInt64)), .second, .val (.long ((q0 &&& (9223372036854775807 : Int64)) + (((((p3.toUInt32 >>> ((1 : Int32) &&& 31).toUInt32).toInt32) % (3 : Int32)) - (1 : Int32)).toInt64))), .second] []))
        refine own_go (fun t k => XS.lload X0.here hx rfl (hb hby at_66) rfl k) ?_
        show own_G p e below (K_0 Z q0 q1 q2 p3 h0 n0 s) (s₁.setTop (mkF m 68 #[.val (.long q0), .second, .val (.long q1), .second, .val (.long q2), .second, .val (.int p3), .val (.long (q0 &&& (9223372036854775807 : Int64))), .second, .val (.long (q1 &&& (9223372036854775807 : Int64))), .second, .val (.long (q2 &&& (9223372036854775807 : Int64))), .second, .val (.long (((((p3.toUInt32 >>> ((1 : Int32) &&& 31).toUInt32).toInt32) % (3 : Int32)) - (1 : Int32)).toInt64)), .second, .val (.long ((q0 &&& (9223372036854775807 : Int64)) + (((((p3.toUInt32 >>> ((1 : Int32) &&& 31).toUInt32).toInt32) % (3 : Int32)) - (1 : Int32)).toInt64))), .second] [(.long (q1 &&& (9223372036854775807 : Int64)))]))
        refine own_go (fun t k => XS.lload X0.here hx rfl (hb hby at_68) rfl k) ?_
        show own_G p e below (K_0 Z q0 q1 q2 p3 h0 n0 s) (s₁.setTop (mkF m 70 #[.val (.long q0), .second, .val (.long q1), .second, .val (.long q2), .second, .val (.int p3), .val (.long (q0 &&& (9223372036854775807 : Int64))), .second, .val (.long (q1 &&& (9223372036854775807 : Int64))), .second, .val (.long (q2 &&& (9223372036854775807 : Int64))), .second, .val (.long (((((p3.toUInt32 >>> ((1 : Int32) &&& 31).toUInt32).toInt32) % (3 : Int32)) - (1 : Int32)).toInt64)), .second, .val (.long ((q0 &&& (9223372036854775807 : Int64)) + (((((p3.toUInt32 >>> ((1 : Int32) &&& 31).toUInt32).toInt32) % (3 : Int32)) - (1 : Int32)).toInt64))), .second] [(.long ((q0 &&& (9223372036854775807 : Int64)) + (((((p3.toUInt32 >>> ((1 : Int32) &&& 31).toUInt32).toInt32) % (3 : Int32)) - (1 : Int32)).toInt64))), (.long (q1 &&& (9223372036854775807 : Int64)))]))
        refine own_go (fun t k => XS.ladd X0.here hx rfl (hb hby at_70) rfl k) ?_
        show own_G p e below (K_0 Z q0 q1 q2 p3 h0 n0 s) (s₁.setTop (mkF m 71 #[.val (.long q0), .second, .val (.long q1), .second, .val (.long q2), .second, .val (.int p3), .val (.long (q0 &&& (9223372036854775807 : Int64))), .second, .val (.long (q1 &&& (9223372036854775807 : Int64))), .second, .val (.long (q2 &&& (9223372036854775807 : Int64))), .second, .val (.long (((((p3.toUInt32 >>> ((1 : Int32) &&& 31).toUInt32).toInt32) % (3 : Int32)) - (1 : Int32)).toInt64)), .second, .val (.long ((q0 &&& (9223372036854775807 : Int64)) + (((((p3.toUInt32 >>> ((1 : Int32) &&& 31).toUInt32).toInt32) % (3 : Int32)) - (1 : Int32)).toInt64))), .second] [(.long ((q1 &&& (9223372036854775807 : Int64)) + ((q0 &&& (9223372036854775807 : Int64)) + (((((p3.toUInt32 >>> ((1 : Int32) &&& 31).toUInt32).toInt32) % (3 : Int32)) - (1 : Int32)).toInt64))))]))
        refine own_go (fun t k => XS.lstore X0.here hx rfl (hb hby at_71) rfl (l' := #[.val (.long q0), .second, .val (.long q1), .second, .val (.long q2), .second, .val (.int p3), .val (.long (q0 &&& (9223372036854775807 : Int64))), .second, .val (.long (q1 &&& (9223372036854775807 : Int64))), .second, .val (.long ((q1 &&& (9223372036854775807 : Int64)) + ((q0 &&& (9223372036854775807 : Int64)) + (((((p3.toUInt32 >>> ((1 : Int32) &&& 31).toUInt32).toInt32) % (3 : Int32)) - (1 : Int32)).toInt64)))), .second, .val (.long (((((p3.toUInt32 >>> ((1 : Int32) &&& 31).toUInt32).toInt32) % (3 : Int32)) - (1 : Int32)).toInt64)), .second, .val (.long ((q0 &&& (9223372036854775807 : Int64)) + (((((p3.toUInt32 >>> ((1 : Int32) &&& 31).toUInt32).toInt32) % (3 : Int32)) - (1 : Int32)).toInt64))), .second]) rfl k) ?_
        show own_G p e below (K_0 Z q0 q1 q2 p3 h0 n0 s) (s₁.setTop (mkF m 73 #[.val (.long q0), .second, .val (.long q1), .second, .val (.long q2), .second, .val (.int p3), .val (.long (q0 &&& (9223372036854775807 : Int64))), .second, .val (.long (q1 &&& (9223372036854775807 : Int64))), .second, .val (.long ((q1 &&& (9223372036854775807 : Int64)) + ((q0 &&& (9223372036854775807 : Int64)) + (((((p3.toUInt32 >>> ((1 : Int32) &&& 31).toUInt32).toInt32) % (3 : Int32)) - (1 : Int32)).toInt64)))), .second, .val (.long (((((p3.toUInt32 >>> ((1 : Int32) &&& 31).toUInt32).toInt32) % (3 : Int32)) - (1 : Int32)).toInt64)), .second, .val (.long ((q0 &&& (9223372036854775807 : Int64)) + (((((p3.toUInt32 >>> ((1 : Int32) &&& 31).toUInt32).toInt32) % (3 : Int32)) - (1 : Int32)).toInt64))), .second] []))
        obtain ⟨T25, h25, X25, e25, E25, A25, D25, -, st25⟩ := newO X0 hx hZ hown (hw _ (List.mem_of_getElem? (i := 1) rfl)) (hw _ (List.mem_of_getElem? (i := 2) rfl)) (hw _ (List.mem_of_getElem? (i := 3) rfl)) e0 (g := (mkF m 73 #[.val (.long q0), .second, .val (.long q1), .second, .val (.long q2), .second, .val (.int p3), .val (.long (q0 &&& (9223372036854775807 : Int64))), .second, .val (.long (q1 &&& (9223372036854775807 : Int64))), .second, .val (.long ((q1 &&& (9223372036854775807 : Int64)) + ((q0 &&& (9223372036854775807 : Int64)) + (((((p3.toUInt32 >>> ((1 : Int32) &&& 31).toUInt32).toInt32) % (3 : Int32)) - (1 : Int32)).toInt64)))), .second, .val (.long (((((p3.toUInt32 >>> ((1 : Int32) &&& 31).toUInt32).toInt32) % (3 : Int32)) - (1 : Int32)).toInt64)), .second, .val (.long ((q0 &&& (9223372036854775807 : Int64)) + (((((p3.toUInt32 >>> ((1 : Int32) &&& 31).toUInt32).toInt32) % (3 : Int32)) - (1 : Int32)).toInt64))), .second] [])) rfl (hb hby at_73) (by decide) (by decide)
        obtain ⟨b25, g25⟩ : ∃ z, z = h0.size := ⟨_, rfl⟩
        rw [← g25] at A25 D25 st25
        refine own_go st25 ?_
        have g_b25 : n0 ≤ b25 := Nat.le_trans Z0 (Nat.le_of_eq g25.symm)
        have Z26 : n0 ≤ h25.size := Nat.le_trans Z0 E25.1
        have F25_seconds : Fld Z h25 b25 "com/example/tidelog/tidelog/IdleLimit" "seconds" "J" (.long (0 : Int64)) := D25 (Or.inr (hw _ (List.mem_of_getElem? (i := 16) rfl))) (ty := .long) (by decide)
        show own_G p e below (K_0 Z q0 q1 q2 p3 h0 n0 s) (T25.setTop (mkF m 76 #[.val (.long q0), .second, .val (.long q1), .second, .val (.long q2), .second, .val (.int p3), .val (.long (q0 &&& (9223372036854775807 : Int64))), .second, .val (.long (q1 &&& (9223372036854775807 : Int64))), .second, .val (.long ((q1 &&& (9223372036854775807 : Int64)) + ((q0 &&& (9223372036854775807 : Int64)) + (((((p3.toUInt32 >>> ((1 : Int32) &&& 31).toUInt32).toInt32) % (3 : Int32)) - (1 : Int32)).toInt64)))), .second, .val (.long (((((p3.toUInt32 >>> ((1 : Int32) &&& 31).toUInt32).toInt32) % (3 : Int32)) - (1 : Int32)).toInt64)), .second, .val (.long ((q0 &&& (9223372036854775807 : Int64)) + (((((p3.toUInt32 >>> ((1 : Int32) &&& 31).toUInt32).toInt32) % (3 : Int32)) - (1 : Int32)).toInt64))), .second] [(.ref b25)]))
        refine own_go (fun t k => XS.dup X25.here hx rfl (hb hby at_76) rfl rfl k) ?_
        show own_G p e below (K_0 Z q0 q1 q2 p3 h0 n0 s) (T25.setTop (mkF m 77 #[.val (.long q0), .second, .val (.long q1), .second, .val (.long q2), .second, .val (.int p3), .val (.long (q0 &&& (9223372036854775807 : Int64))), .second, .val (.long (q1 &&& (9223372036854775807 : Int64))), .second, .val (.long ((q1 &&& (9223372036854775807 : Int64)) + ((q0 &&& (9223372036854775807 : Int64)) + (((((p3.toUInt32 >>> ((1 : Int32) &&& 31).toUInt32).toInt32) % (3 : Int32)) - (1 : Int32)).toInt64)))), .second, .val (.long (((((p3.toUInt32 >>> ((1 : Int32) &&& 31).toUInt32).toInt32) % (3 : Int32)) - (1 : Int32)).toInt64)), .second, .val (.long ((q0 &&& (9223372036854775807 : Int64)) + (((((p3.toUInt32 >>> ((1 : Int32) &&& 31).toUInt32).toInt32) % (3 : Int32)) - (1 : Int32)).toInt64))), .second] [(.ref b25), (.ref b25)]))
        refine own_go (fun t k => XS.lload X25.here hx rfl (hb hby at_77) rfl k) ?_
        show own_G p e below (K_0 Z q0 q1 q2 p3 h0 n0 s) (T25.setTop (mkF m 79 #[.val (.long q0), .second, .val (.long q1), .second, .val (.long q2), .second, .val (.int p3), .val (.long (q0 &&& (9223372036854775807 : Int64))), .second, .val (.long (q1 &&& (9223372036854775807 : Int64))), .second, .val (.long ((q1 &&& (9223372036854775807 : Int64)) + ((q0 &&& (9223372036854775807 : Int64)) + (((((p3.toUInt32 >>> ((1 : Int32) &&& 31).toUInt32).toInt32) % (3 : Int32)) - (1 : Int32)).toInt64)))), .second, .val (.long (((((p3.toUInt32 >>> ((1 : Int32) &&& 31).toUInt32).toInt32) % (3 : Int32)) - (1 : Int32)).toInt64)), .second, .val (.long ((q0 &&& (9223372036854775807 : Int64)) + (((((p3.toUInt32 >>> ((1 : Int32) &&& 31).toUInt32).toInt32) % (3 : Int32)) - (1 : Int32)).toInt64))), .second] [(.long (q0 &&& (9223372036854775807 : Int64))), (.ref b25), (.ref b25)]))
        obtain ⟨_, _, ⟨T27, L27, k27, n27⟩, -, X27, ⟨Lc27, hQ27, l27, y27, z27⟩, st27⟩ := X25.specialBack hx (y := (⟨"com/example/tidelog/tidelog/IdleLimit", "<init>", "(J)V"⟩ : MethodName)) rfl hown (mvT hZ (hw _ (List.mem_of_getElem? (i := 4) rfl))) (mvT hZ (hw _ (List.mem_of_getElem? (i := 5) rfl))) (mvT hZ (hw _ (List.mem_of_getElem? (i := 6) rfl))) (by decide) (backOf (W := 1) (rm_ct l Z a0 hw [] b25 (q0 &&& (9223372036854775807 : Int64)) h25 n0 Z26 F25_seconds A25 g_b25) hZ (hw _ (List.mem_of_getElem? (i := 6) rfl)) (hw _ (List.mem_of_getElem? (i := 3) rfl)) (by decide) (by decide)) (g := (mkF m 79 #[.val (.long q0), .second, .val (.long q1), .second, .val (.long q2), .second, .val (.int p3), .val (.long (q0 &&& (9223372036854775807 : Int64))), .second, .val (.long (q1 &&& (9223372036854775807 : Int64))), .second, .val (.long ((q1 &&& (9223372036854775807 : Int64)) + ((q0 &&& (9223372036854775807 : Int64)) + (((((p3.toUInt32 >>> ((1 : Int32) &&& 31).toUInt32).toInt32) % (3 : Int32)) - (1 : Int32)).toInt64)))), .second, .val (.long (((((p3.toUInt32 >>> ((1 : Int32) &&& 31).toUInt32).toInt32) % (3 : Int32)) - (1 : Int32)).toInt64)), .second, .val (.long ((q0 &&& (9223372036854775807 : Int64)) + (((((p3.toUInt32 >>> ((1 : Int32) &&& 31).toUInt32).toInt32) % (3 : Int32)) - (1 : Int32)).toInt64))), .second] [(.long (q0 &&& (9223372036854775807 : Int64))), (.ref b25), (.ref b25)])) rfl (by rw [hml]; rfl) (Steps.refl _) (a := b25) (argsL := [(.long (q0 &&& (9223372036854775807 : Int64)))]) (rest := [(.ref b25)]) (lenOf own_pd1 rfl) rfl (by show 2 * 0 + _ ≤ _; exact Nat.le_of_eq rfl) (hb hby at_79) (fun _ _ => ⟨rfl, e25, (by decide : 1 + 0 ≤ _), (by decide : 1 + 0 ≤ _)⟩)
        dsimp only [Pt.U, Pt.locs, Pt.cells, Pt.slots] at X27 l27 y27 z27 st27 hQ27
        subst l27 y27 z27
        obtain ⟨rfl, N27q, K27q, E27q, F27_0⟩ := hQ27
        have N27 := Fr.app N0 N27q
        obtain ⟨h27, e27⟩ : ∃ z, T27.heap = z := ⟨_, rfl⟩
        rw [e27] at K27q E27q F27_0
        have Z28 : n0 ≤ h27.size := Nat.le_trans Z26 K27q.1
        refine own_tr st27 ?_
        show own_G p e below (K_0 Z q0 q1 q2 p3 h0 n0 s) (T27.setTop (mkF m 82 #[.val (.long q0), .second, .val (.long q1), .second, .val (.long q2), .second, .val (.int p3), .val (.long (q0 &&& (9223372036854775807 : Int64))), .second, .val (.long (q1 &&& (9223372036854775807 : Int64))), .second, .val (.long ((q1 &&& (9223372036854775807 : Int64)) + ((q0 &&& (9223372036854775807 : Int64)) + (((((p3.toUInt32 >>> ((1 : Int32) &&& 31).toUInt32).toInt32) % (3 : Int32)) - (1 : Int32)).toInt64)))), .second, .val (.long (((((p3.toUInt32 >>> ((1 : Int32) &&& 31).toUInt32).toInt32) % (3 : Int32)) - (1 : Int32)).toInt64)), .second, .val (.long ((q0 &&& (9223372036854775807 : Int64)) + (((((p3.toUInt32 >>> ((1 : Int32) &&& 31).toUInt32).toInt32) % (3 : Int32)) - (1 : Int32)).toInt64))), .second] [(.ref b25)]))
        refine own_go (fun t k => XS.astore X27.here hx rfl (hb hby at_82) rfl rfl (l' := #[.val (.long q0), .second, .val (.long q1), .second, .val (.long q2), .second, .val (.int p3), .val (.long (q0 &&& (9223372036854775807 : Int64))), .second, .val (.long (q1 &&& (9223372036854775807 : Int64))), .second, .val (.long ((q1 &&& (9223372036854775807 : Int64)) + ((q0 &&& (9223372036854775807 : Int64)) + (((((p3.toUInt32 >>> ((1 : Int32) &&& 31).toUInt32).toInt32) % (3 : Int32)) - (1 : Int32)).toInt64)))), .second, .val (.ref b25), .unset, .val (.long ((q0 &&& (9223372036854775807 : Int64)) + (((((p3.toUInt32 >>> ((1 : Int32) &&& 31).toUInt32).toInt32) % (3 : Int32)) - (1 : Int32)).toInt64))), .second]) rfl k) ?_
        show own_G p e below (K_0 Z q0 q1 q2 p3 h0 n0 s) (T27.setTop (mkF m 84 #[.val (.long q0), .second, .val (.long q1), .second, .val (.long q2), .second, .val (.int p3), .val (.long (q0 &&& (9223372036854775807 : Int64))), .second, .val (.long (q1 &&& (9223372036854775807 : Int64))), .second, .val (.long ((q1 &&& (9223372036854775807 : Int64)) + ((q0 &&& (9223372036854775807 : Int64)) + (((((p3.toUInt32 >>> ((1 : Int32) &&& 31).toUInt32).toInt32) % (3 : Int32)) - (1 : Int32)).toInt64)))), .second, .val (.ref b25), .unset, .val (.long ((q0 &&& (9223372036854775807 : Int64)) + (((((p3.toUInt32 >>> ((1 : Int32) &&& 31).toUInt32).toInt32) % (3 : Int32)) - (1 : Int32)).toInt64))), .second] []))
        refine own_go (fun t k => XS.lload X27.here hx rfl (hb hby at_84) rfl k) ?_
        show own_G p e below (K_0 Z q0 q1 q2 p3 h0 n0 s) (T27.setTop (mkF m 86 #[.val (.long q0), .second, .val (.long q1), .second, .val (.long q2), .second, .val (.int p3), .val (.long (q0 &&& (9223372036854775807 : Int64))), .second, .val (.long (q1 &&& (9223372036854775807 : Int64))), .second, .val (.long ((q1 &&& (9223372036854775807 : Int64)) + ((q0 &&& (9223372036854775807 : Int64)) + (((((p3.toUInt32 >>> ((1 : Int32) &&& 31).toUInt32).toInt32) % (3 : Int32)) - (1 : Int32)).toInt64)))), .second, .val (.ref b25), .unset, .val (.long ((q0 &&& (9223372036854775807 : Int64)) + (((((p3.toUInt32 >>> ((1 : Int32) &&& 31).toUInt32).toInt32) % (3 : Int32)) - (1 : Int32)).toInt64))), .second] [(.long ((q1 &&& (9223372036854775807 : Int64)) + ((q0 &&& (9223372036854775807 : Int64)) + (((((p3.toUInt32 >>> ((1 : Int32) &&& 31).toUInt32).toInt32) % (3 : Int32)) - (1 : Int32)).toInt64))))]))
        refine own_go (fun t k => XS.lload X27.here hx rfl (hb hby at_86) rfl k) ?_
        show own_G p e below (K_0 Z q0 q1 q2 p3 h0 n0 s) (T27.setTop (mkF m 88 #[.val (.long q0), .second, .val (.long q1), .second, .val (.long q2), .second, .val (.int p3), .val (.long (q0 &&& (9223372036854775807 : Int64))), .second, .val (.long (q1 &&& (9223372036854775807 : Int64))), .second, .val (.long ((q1 &&& (9223372036854775807 : Int64)) + ((q0 &&& (9223372036854775807 : Int64)) + (((((p3.toUInt32 >>> ((1 : Int32) &&& 31).toUInt32).toInt32) % (3 : Int32)) - (1 : Int32)).toInt64)))), .second, .val (.ref b25), .unset, .val (.long ((q0 &&& (9223372036854775807 : Int64)) + (((((p3.toUInt32 >>> ((1 : Int32) &&& 31).toUInt32).toInt32) % (3 : Int32)) - (1 : Int32)).toInt64))), .second] [(.long (q0 &&& (9223372036854775807 : Int64))), (.long ((q1 &&& (9223372036854775807 : Int64)) + ((q0 &&& (9223372036854775807 : Int64)) + (((((p3.toUInt32 >>> ((1 : Int32) &&& 31).toUInt32).toInt32) % (3 : Int32)) - (1 : Int32)).toInt64))))]))
        refine own_go (fun t k => XS.lsub X27.here hx rfl (hb hby at_88) rfl k) ?_
        show own_G p e below (K_0 Z q0 q1 q2 p3 h0 n0 s) (T27.setTop (mkF m 89 #[.val (.long q0), .second, .val (.long q1), .second, .val (.long q2), .second, .val (.int p3), .val (.long (q0 &&& (9223372036854775807 : Int64))), .second, .val (.long (q1 &&& (9223372036854775807 : Int64))), .second, .val (.long ((q1 &&& (9223372036854775807 : Int64)) + ((q0 &&& (9223372036854775807 : Int64)) + (((((p3.toUInt32 >>> ((1 : Int32) &&& 31).toUInt32).toInt32) % (3 : Int32)) - (1 : Int32)).toInt64)))), .second, .val (.ref b25), .unset, .val (.long ((q0 &&& (9223372036854775807 : Int64)) + (((((p3.toUInt32 >>> ((1 : Int32) &&& 31).toUInt32).toInt32) % (3 : Int32)) - (1 : Int32)).toInt64))), .second] [(.long (((q1 &&& (9223372036854775807 : Int64)) + ((q0 &&& (9223372036854775807 : Int64)) + (((((p3.toUInt32 >>> ((1 : Int32) &&& 31).toUInt32).toInt32) % (3 : Int32)) - (1 : Int32)).toInt64))) - (q0 &&& (9223372036854775807 : Int64))))]))
        refine own_go (fun t k => XS.lload X27.here hx rfl (hb hby at_89) rfl k) ?_
        show own_G p e below (K_0 Z q0 q1 q2 p3 h0 n0 s) (T27.setTop (mkF m 91 #[.val (.long q0), .second, .val (.long q1), .second, .val (.long q2), .second, .val (.int p3), .val (.long (q0 &&& (9223372036854775807 : Int64))), .second, .val (.long (q1 &&& (9223372036854775807 : Int64))), .second, .val (.long ((q1 &&& (9223372036854775807 : Int64)) + ((q0 &&& (9223372036854775807 : Int64)) + (((((p3.toUInt32 >>> ((1 : Int32) &&& 31).toUInt32).toInt32) % (3 : Int32)) - (1 : Int32)).toInt64)))), .second, .val (.ref b25), .unset, .val (.long ((q0 &&& (9223372036854775807 : Int64)) + (((((p3.toUInt32 >>> ((1 : Int32) &&& 31).toUInt32).toInt32) % (3 : Int32)) - (1 : Int32)).toInt64))), .second] [(.long (q1 &&& (9223372036854775807 : Int64))), (.long (((q1 &&& (9223372036854775807 : Int64)) + ((q0 &&& (9223372036854775807 : Int64)) + (((((p3.toUInt32 >>> ((1 : Int32) &&& 31).toUInt32).toInt32) % (3 : Int32)) - (1 : Int32)).toInt64))) - (q0 &&& (9223372036854775807 : Int64))))]))
        refine own_go (fun t k => XS.lcmp X27.here hx rfl (hb hby at_91) rfl k) ?_
        show own_G p e below (K_0 Z q0 q1 q2 p3 h0 n0 s) (T27.setTop (mkF m 92 #[.val (.long q0), .second, .val (.long q1), .second, .val (.long q2), .second, .val (.int p3), .val (.long (q0 &&& (9223372036854775807 : Int64))), .second, .val (.long (q1 &&& (9223372036854775807 : Int64))), .second, .val (.long ((q1 &&& (9223372036854775807 : Int64)) + ((q0 &&& (9223372036854775807 : Int64)) + (((((p3.toUInt32 >>> ((1 : Int32) &&& 31).toUInt32).toInt32) % (3 : Int32)) - (1 : Int32)).toInt64)))), .second, .val (.ref b25), .unset, .val (.long ((q0 &&& (9223372036854775807 : Int64)) + (((((p3.toUInt32 >>> ((1 : Int32) &&& 31).toUInt32).toInt32) % (3 : Int32)) - (1 : Int32)).toInt64))), .second] [(.int (lcmpW (((q1 &&& (9223372036854775807 : Int64)) + ((q0 &&& (9223372036854775807 : Int64)) + (((((p3.toUInt32 >>> ((1 : Int32) &&& 31).toUInt32).toInt32) % (3 : Int32)) - (1 : Int32)).toInt64))) - (q0 &&& (9223372036854775807 : Int64))) (q1 &&& (9223372036854775807 : Int64))))]))
        obtain ⟨z29, hz29⟩ : ∃ z : Int32, z = (if (q1 &&& (9223372036854775807 : Int64)) < (((q1 &&& (9223372036854775807 : Int64)) + ((q0 &&& (9223372036854775807 : Int64)) + (((((p3.toUInt32 >>> ((1 : Int32) &&& 31).toUInt32).toInt32) % (3 : Int32)) - (1 : Int32)).toInt64))) - (q0 &&& (9223372036854775807 : Int64))) then (1 : Int32) else (0 : Int32)) := ⟨_, rfl⟩
        suffices Jz29 : own_G p e below (K_0 Z q0 q1 q2 p3 h0 n0 s) (T27.setTop (mkF m 100 #[.val (.long q0), .second, .val (.long q1), .second, .val (.long q2), .second, .val (.int p3), .val (.long (q0 &&& (9223372036854775807 : Int64))), .second, .val (.long (q1 &&& (9223372036854775807 : Int64))), .second, .val (.long ((q1 &&& (9223372036854775807 : Int64)) + ((q0 &&& (9223372036854775807 : Int64)) + (((((p3.toUInt32 >>> ((1 : Int32) &&& 31).toUInt32).toInt32) % (3 : Int32)) - (1 : Int32)).toInt64)))), .second, .val (.ref b25), .unset, .val (.long ((q0 &&& (9223372036854775807 : Int64)) + (((((p3.toUInt32 >>> ((1 : Int32) &&& 31).toUInt32).toInt32) % (3 : Int32)) - (1 : Int32)).toInt64))), .second] [(.int z29)])) by
          by_cases hc92_30 : (q1 &&& (9223372036854775807 : Int64)) < (((q1 &&& (9223372036854775807 : Int64)) + ((q0 &&& (9223372036854775807 : Int64)) + (((((p3.toUInt32 >>> ((1 : Int32) &&& 31).toUInt32).toInt32) % (3 : Int32)) - (1 : Int32)).toInt64))) - (q0 &&& (9223372036854775807 : Int64)))
          · skip
            rw [if_pos hc92_30] at hz29
            refine own_go (fun t k => XS.ifNo X27.here hx rfl (hb hby at_92) rfl ((if0 _ _).trans (tlt ((lw_gt _ _).mpr hc92_30)).2.2.2) k) ?_
            show own_G p e below (K_0 Z q0 q1 q2 p3 h0 n0 s) (T27.setTop (mkF m 95 #[.val (.long q0), .second, .val (.long q1), .second, .val (.long q2), .second, .val (.int p3), .val (.long (q0 &&& (9223372036854775807 : Int64))), .second, .val (.long (q1 &&& (9223372036854775807 : Int64))), .second, .val (.long ((q1 &&& (9223372036854775807 : Int64)) + ((q0 &&& (9223372036854775807 : Int64)) + (((((p3.toUInt32 >>> ((1 : Int32) &&& 31).toUInt32).toInt32) % (3 : Int32)) - (1 : Int32)).toInt64)))), .second, .val (.ref b25), .unset, .val (.long ((q0 &&& (9223372036854775807 : Int64)) + (((((p3.toUInt32 >>> ((1 : Int32) &&& 31).toUInt32).toInt32) % (3 : Int32)) - (1 : Int32)).toInt64))), .second] []))
            refine own_go (fun t k => XS.iconst X27.here hx rfl (hb hby at_95) k) ?_
            show own_G p e below (K_0 Z q0 q1 q2 p3 h0 n0 s) (T27.setTop (mkF m 96 #[.val (.long q0), .second, .val (.long q1), .second, .val (.long q2), .second, .val (.int p3), .val (.long (q0 &&& (9223372036854775807 : Int64))), .second, .val (.long (q1 &&& (9223372036854775807 : Int64))), .second, .val (.long ((q1 &&& (9223372036854775807 : Int64)) + ((q0 &&& (9223372036854775807 : Int64)) + (((((p3.toUInt32 >>> ((1 : Int32) &&& 31).toUInt32).toInt32) % (3 : Int32)) - (1 : Int32)).toInt64)))), .second, .val (.ref b25), .unset, .val (.long ((q0 &&& (9223372036854775807 : Int64)) + (((((p3.toUInt32 >>> ((1 : Int32) &&& 31).toUInt32).toInt32) % (3 : Int32)) - (1 : Int32)).toInt64))), .second] [(.int (1 : Int32))]))
            refine own_go (fun t k => XS.goto X27.here hx rfl (pc0 := 96) (pc' := 100) rfl (hb hby at_96) (by decide) (by decide) k) ?_
            show own_G p e below (K_0 Z q0 q1 q2 p3 h0 n0 s) (T27.setTop (mkF m 100 #[.val (.long q0), .second, .val (.long q1), .second, .val (.long q2), .second, .val (.int p3), .val (.long (q0 &&& (9223372036854775807 : Int64))), .second, .val (.long (q1 &&& (9223372036854775807 : Int64))), .second, .val (.long ((q1 &&& (9223372036854775807 : Int64)) + ((q0 &&& (9223372036854775807 : Int64)) + (((((p3.toUInt32 >>> ((1 : Int32) &&& 31).toUInt32).toInt32) % (3 : Int32)) - (1 : Int32)).toInt64)))), .second, .val (.ref b25), .unset, .val (.long ((q0 &&& (9223372036854775807 : Int64)) + (((((p3.toUInt32 >>> ((1 : Int32) &&& 31).toUInt32).toInt32) % (3 : Int32)) - (1 : Int32)).toInt64))), .second] [(.int (1 : Int32))]))
            subst hz29; exact Jz29
          · skip
            rw [if_neg hc92_30] at hz29
            refine own_go (fun t k => XS.ifYes X27.here hx rfl (pc0 := 92) (pc' := 99) rfl (hb hby at_92) rfl ((if0 _ _).trans (flt (mt (lw_gt _ _).mp hc92_30)).2.2.2) (by decide) (by decide) k) ?_
            show own_G p e below (K_0 Z q0 q1 q2 p3 h0 n0 s) (T27.setTop (mkF m 99 #[.val (.long q0), .second, .val (.long q1), .second, .val (.long q2), .second, .val (.int p3), .val (.long (q0 &&& (9223372036854775807 : Int64))), .second, .val (.long (q1 &&& (9223372036854775807 : Int64))), .second, .val (.long ((q1 &&& (9223372036854775807 : Int64)) + ((q0 &&& (9223372036854775807 : Int64)) + (((((p3.toUInt32 >>> ((1 : Int32) &&& 31).toUInt32).toInt32) % (3 : Int32)) - (1 : Int32)).toInt64)))), .second, .val (.ref b25), .unset, .val (.long ((q0 &&& (9223372036854775807 : Int64)) + (((((p3.toUInt32 >>> ((1 : Int32) &&& 31).toUInt32).toInt32) % (3 : Int32)) - (1 : Int32)).toInt64))), .second] []))
            refine own_go (fun t k => XS.iconst X27.here hx rfl (hb hby at_99) k) ?_
            show own_G p e below (K_0 Z q0 q1 q2 p3 h0 n0 s) (T27.setTop (mkF m 100 #[.val (.long q0), .second, .val (.long q1), .second, .val (.long q2), .second, .val (.int p3), .val (.long (q0 &&& (9223372036854775807 : Int64))), .second, .val (.long (q1 &&& (9223372036854775807 : Int64))), .second, .val (.long ((q1 &&& (9223372036854775807 : Int64)) + ((q0 &&& (9223372036854775807 : Int64)) + (((((p3.toUInt32 >>> ((1 : Int32) &&& 31).toUInt32).toInt32) % (3 : Int32)) - (1 : Int32)).toInt64)))), .second, .val (.ref b25), .unset, .val (.long ((q0 &&& (9223372036854775807 : Int64)) + (((((p3.toUInt32 >>> ((1 : Int32) &&& 31).toUInt32).toInt32) % (3 : Int32)) - (1 : Int32)).toInt64))), .second] [(.int (0 : Int32))]))
            subst hz29; exact Jz29
        show own_G p e below (K_0 Z q0 q1 q2 p3 h0 n0 s) (T27.setTop (mkF m 100 #[.val (.long q0), .second, .val (.long q1), .second, .val (.long q2), .second, .val (.int p3), .val (.long (q0 &&& (9223372036854775807 : Int64))), .second, .val (.long (q1 &&& (9223372036854775807 : Int64))), .second, .val (.long ((q1 &&& (9223372036854775807 : Int64)) + ((q0 &&& (9223372036854775807 : Int64)) + (((((p3.toUInt32 >>> ((1 : Int32) &&& 31).toUInt32).toInt32) % (3 : Int32)) - (1 : Int32)).toInt64)))), .second, .val (.ref b25), .unset, .val (.long ((q0 &&& (9223372036854775807 : Int64)) + (((((p3.toUInt32 >>> ((1 : Int32) &&& 31).toUInt32).toInt32) % (3 : Int32)) - (1 : Int32)).toInt64))), .second] [(.int z29)]))
        refine own_go (fun t k => XS.istore X27.here hx rfl (hb hby at_100) rfl (l' := #[.val (.long q0), .second, .val (.long q1), .second, .val (.long q2), .second, .val (.int p3), .val (.long (q0 &&& (9223372036854775807 : Int64))), .second, .val (.long (q1 &&& (9223372036854775807 : Int64))), .second, .val (.long ((q1 &&& (9223372036854775807 : Int64)) + ((q0 &&& (9223372036854775807 : Int64)) + (((((p3.toUInt32 >>> ((1 : Int32) &&& 31).toUInt32).toInt32) % (3 : Int32)) - (1 : Int32)).toInt64)))), .second, .val (.ref b25), .val (.int z29), .val (.long ((q0 &&& (9223372036854775807 : Int64)) + (((((p3.toUInt32 >>> ((1 : Int32) &&& 31).toUInt32).toInt32) % (3 : Int32)) - (1 : Int32)).toInt64))), .second]) rfl k) ?_
        show own_G p e below (K_0 Z q0 q1 q2 p3 h0 n0 s) (T27.setTop (mkF m 102 #[.val (.long q0), .second, .val (.long q1), .second, .val (.long q2), .second, .val (.int p3), .val (.long (q0 &&& (9223372036854775807 : Int64))), .second, .val (.long (q1 &&& (9223372036854775807 : Int64))), .second, .val (.long ((q1 &&& (9223372036854775807 : Int64)) + ((q0 &&& (9223372036854775807 : Int64)) + (((((p3.toUInt32 >>> ((1 : Int32) &&& 31).toUInt32).toInt32) % (3 : Int32)) - (1 : Int32)).toInt64)))), .second, .val (.ref b25), .val (.int z29), .val (.long ((q0 &&& (9223372036854775807 : Int64)) + (((((p3.toUInt32 >>> ((1 : Int32) &&& 31).toUInt32).toInt32) % (3 : Int32)) - (1 : Int32)).toInt64))), .second] []))
        refine own_go (fun t k => XS.aload X27.here hx rfl (hb hby at_102) rfl rfl k) ?_
        show own_G p e below (K_0 Z q0 q1 q2 p3 h0 n0 s) (T27.setTop (mkF m 104 #[.val (.long q0), .second, .val (.long q1), .second, .val (.long q2), .second, .val (.int p3), .val (.long (q0 &&& (9223372036854775807 : Int64))), .second, .val (.long (q1 &&& (9223372036854775807 : Int64))), .second, .val (.long ((q1 &&& (9223372036854775807 : Int64)) + ((q0 &&& (9223372036854775807 : Int64)) + (((((p3.toUInt32 >>> ((1 : Int32) &&& 31).toUInt32).toInt32) % (3 : Int32)) - (1 : Int32)).toInt64)))), .second, .val (.ref b25), .val (.int z29), .val (.long ((q0 &&& (9223372036854775807 : Int64)) + (((((p3.toUInt32 >>> ((1 : Int32) &&& 31).toUInt32).toInt32) % (3 : Int32)) - (1 : Int32)).toInt64))), .second] [(.ref b25)]))
        refine own_go (fun t k => XS.lload X27.here hx rfl (hb hby at_104) rfl k) ?_
        show own_G p e below (K_0 Z q0 q1 q2 p3 h0 n0 s) (T27.setTop (mkF m 106 #[.val (.long q0), .second, .val (.long q1), .second, .val (.long q2), .second, .val (.int p3), .val (.long (q0 &&& (9223372036854775807 : Int64))), .second, .val (.long (q1 &&& (9223372036854775807 : Int64))), .second, .val (.long ((q1 &&& (9223372036854775807 : Int64)) + ((q0 &&& (9223372036854775807 : Int64)) + (((((p3.toUInt32 >>> ((1 : Int32) &&& 31).toUInt32).toInt32) % (3 : Int32)) - (1 : Int32)).toInt64)))), .second, .val (.ref b25), .val (.int z29), .val (.long ((q0 &&& (9223372036854775807 : Int64)) + (((((p3.toUInt32 >>> ((1 : Int32) &&& 31).toUInt32).toInt32) % (3 : Int32)) - (1 : Int32)).toInt64))), .second] [(.long (q1 &&& (9223372036854775807 : Int64))), (.ref b25)]))
        refine own_go (fun t k => XS.lload X27.here hx rfl (hb hby at_106) rfl k) ?_
        show own_G p e below (K_0 Z q0 q1 q2 p3 h0 n0 s) (T27.setTop (mkF m 108 #[.val (.long q0), .second, .val (.long q1), .second, .val (.long q2), .second, .val (.int p3), .val (.long (q0 &&& (9223372036854775807 : Int64))), .second, .val (.long (q1 &&& (9223372036854775807 : Int64))), .second, .val (.long ((q1 &&& (9223372036854775807 : Int64)) + ((q0 &&& (9223372036854775807 : Int64)) + (((((p3.toUInt32 >>> ((1 : Int32) &&& 31).toUInt32).toInt32) % (3 : Int32)) - (1 : Int32)).toInt64)))), .second, .val (.ref b25), .val (.int z29), .val (.long ((q0 &&& (9223372036854775807 : Int64)) + (((((p3.toUInt32 >>> ((1 : Int32) &&& 31).toUInt32).toInt32) % (3 : Int32)) - (1 : Int32)).toInt64))), .second] [(.long ((q1 &&& (9223372036854775807 : Int64)) + ((q0 &&& (9223372036854775807 : Int64)) + (((((p3.toUInt32 >>> ((1 : Int32) &&& 31).toUInt32).toInt32) % (3 : Int32)) - (1 : Int32)).toInt64)))), (.long (q1 &&& (9223372036854775807 : Int64))), (.ref b25)]))
        obtain ⟨cq31, kq31, q31a, q31b, q31c⟩ := isOf hZ e27 E27q
        obtain ⟨_, _, ⟨T31, L31, k31, n31⟩, -, X31, ⟨Lc31, hQ31, l31, y31, z31⟩, st31⟩ := X27.virtualBack hx (y := (⟨"com/example/tidelog/tidelog/IdleLimit", "isPast", "(JJ)Z"⟩ : MethodName)) (z := (⟨"com/example/tidelog/tidelog/IdleLimit", "isPast", "(JJ)Z"⟩ : MethodName)) hown (mvT hZ (hw _ (List.mem_of_getElem? (i := 17) rfl))) (mvT hZ (hw _ (List.mem_of_getElem? (i := 18) rfl))) (notFace_of_selects (args := #[]) (mvT hZ (hw _ (List.mem_of_getElem? (i := 20) rfl)))) (mvT hZ (hw _ (List.mem_of_getElem? (i := 20) rfl))) (mvT hZ (hw _ (List.mem_of_getElem? (i := 19) rfl))) (by decide) (backOf (W := 0) (rm_ip l Z a0 hw [] b25 (q1 &&& (9223372036854775807 : Int64)) ((q1 &&& (9223372036854775807 : Int64)) + ((q0 &&& (9223372036854775807 : Int64)) + (((((p3.toUInt32 >>> ((1 : Int32) &&& 31).toUInt32).toInt32) % (3 : Int32)) - (1 : Int32)).toInt64))) (q0 &&& (9223372036854775807 : Int64)) h27 n0 Z28 F27_0) hZ (hw _ (List.mem_of_getElem? (i := 21) rfl)) (hw _ (List.mem_of_getElem? (i := 3) rfl)) (by decide) (by decide)) q31a q31c (g := (mkF m 108 #[.val (.long q0), .second, .val (.long q1), .second, .val (.long q2), .second, .val (.int p3), .val (.long (q0 &&& (9223372036854775807 : Int64))), .second, .val (.long (q1 &&& (9223372036854775807 : Int64))), .second, .val (.long ((q1 &&& (9223372036854775807 : Int64)) + ((q0 &&& (9223372036854775807 : Int64)) + (((((p3.toUInt32 >>> ((1 : Int32) &&& 31).toUInt32).toInt32) % (3 : Int32)) - (1 : Int32)).toInt64)))), .second, .val (.ref b25), .val (.int z29), .val (.long ((q0 &&& (9223372036854775807 : Int64)) + (((((p3.toUInt32 >>> ((1 : Int32) &&& 31).toUInt32).toInt32) % (3 : Int32)) - (1 : Int32)).toInt64))), .second] [(.long ((q1 &&& (9223372036854775807 : Int64)) + ((q0 &&& (9223372036854775807 : Int64)) + (((((p3.toUInt32 >>> ((1 : Int32) &&& 31).toUInt32).toInt32) % (3 : Int32)) - (1 : Int32)).toInt64)))), (.long (q1 &&& (9223372036854775807 : Int64))), (.ref b25)])) rfl (by rw [hml]; rfl) (Steps.refl _) (argsL := [(.long (q1 &&& (9223372036854775807 : Int64))), (.long ((q1 &&& (9223372036854775807 : Int64)) + ((q0 &&& (9223372036854775807 : Int64)) + (((((p3.toUInt32 >>> ((1 : Int32) &&& 31).toUInt32).toInt32) % (3 : Int32)) - (1 : Int32)).toInt64))))]) (rest := []) (lenOf own_pd2 rfl) rfl (by show 2 * 0 + _ ≤ _; exact Nat.le_of_eq rfl) (hb hby at_108) (fun _ _ => ⟨rfl, e27, (by decide : 1 + 0 ≤ _), (by decide : 1 + 0 ≤ _)⟩)
        dsimp only [Pt.U, Pt.locs, Pt.cells, Pt.slots] at X31 l31 y31 z31 st31 hQ31
        subst l31 y31 z31
        obtain ⟨rfl, N31q, e31⟩ := hQ31
        have N31 := Fr.app N27 N31q
        refine own_tr st31 ?_
        show own_G p e below (K_0 Z q0 q1 q2 p3 h0 n0 s) (T31.setTop (mkF m 111 #[.val (.long q0), .second, .val (.long q1), .second, .val (.long q2), .second, .val (.int p3), .val (.long (q0 &&& (9223372036854775807 : Int64))), .second, .val (.long (q1 &&& (9223372036854775807 : Int64))), .second, .val (.long ((q1 &&& (9223372036854775807 : Int64)) + ((q0 &&& (9223372036854775807 : Int64)) + (((((p3.toUInt32 >>> ((1 : Int32) &&& 31).toUInt32).toInt32) % (3 : Int32)) - (1 : Int32)).toInt64)))), .second, .val (.ref b25), .val (.int z29), .val (.long ((q0 &&& (9223372036854775807 : Int64)) + (((((p3.toUInt32 >>> ((1 : Int32) &&& 31).toUInt32).toInt32) % (3 : Int32)) - (1 : Int32)).toInt64))), .second] [(.int (own_ip (q0 &&& (9223372036854775807 : Int64)) (q1 &&& (9223372036854775807 : Int64)) ((q1 &&& (9223372036854775807 : Int64)) + ((q0 &&& (9223372036854775807 : Int64)) + (((((p3.toUInt32 >>> ((1 : Int32) &&& 31).toUInt32).toInt32) % (3 : Int32)) - (1 : Int32)).toInt64)))))]))
        refine own_go (fun t k => XS.iload X31.here hx rfl (hb hby at_111) rfl k) ?_
        show own_G p e below (K_0 Z q0 q1 q2 p3 h0 n0 s) (T31.setTop (mkF m 113 #[.val (.long q0), .second, .val (.long q1), .second, .val (.long q2), .second, .val (.int p3), .val (.long (q0 &&& (9223372036854775807 : Int64))), .second, .val (.long (q1 &&& (9223372036854775807 : Int64))), .second, .val (.long ((q1 &&& (9223372036854775807 : Int64)) + ((q0 &&& (9223372036854775807 : Int64)) + (((((p3.toUInt32 >>> ((1 : Int32) &&& 31).toUInt32).toInt32) % (3 : Int32)) - (1 : Int32)).toInt64)))), .second, .val (.ref b25), .val (.int z29), .val (.long ((q0 &&& (9223372036854775807 : Int64)) + (((((p3.toUInt32 >>> ((1 : Int32) &&& 31).toUInt32).toInt32) % (3 : Int32)) - (1 : Int32)).toInt64))), .second] [(.int z29), (.int (own_ip (q0 &&& (9223372036854775807 : Int64)) (q1 &&& (9223372036854775807 : Int64)) ((q1 &&& (9223372036854775807 : Int64)) + ((q0 &&& (9223372036854775807 : Int64)) + (((((p3.toUInt32 >>> ((1 : Int32) &&& 31).toUInt32).toInt32) % (3 : Int32)) - (1 : Int32)).toInt64)))))]))
        refine own_go (fun t k => XS.icmpNo X31.here hx rfl (hb hby at_113) rfl (teq (own_cmp hz29 (own_mx _) (own_mx _) (own_nnadd (own_mx _) hc51_9 hc63_17))).2 k) ?_
        show own_G p e below (K_0 Z q0 q1 q2 p3 h0 n0 s) (T31.setTop (mkF m 116 #[.val (.long q0), .second, .val (.long q1), .second, .val (.long q2), .second, .val (.int p3), .val (.long (q0 &&& (9223372036854775807 : Int64))), .second, .val (.long (q1 &&& (9223372036854775807 : Int64))), .second, .val (.long ((q1 &&& (9223372036854775807 : Int64)) + ((q0 &&& (9223372036854775807 : Int64)) + (((((p3.toUInt32 >>> ((1 : Int32) &&& 31).toUInt32).toInt32) % (3 : Int32)) - (1 : Int32)).toInt64)))), .second, .val (.ref b25), .val (.int z29), .val (.long ((q0 &&& (9223372036854775807 : Int64)) + (((((p3.toUInt32 >>> ((1 : Int32) &&& 31).toUInt32).toInt32) % (3 : Int32)) - (1 : Int32)).toInt64))), .second] []))
        refine own_go (fun t k => XS.iconst X31.here hx rfl (hb hby at_116) k) ?_
        show own_G p e below (K_0 Z q0 q1 q2 p3 h0 n0 s) (T31.setTop (mkF m 117 #[.val (.long q0), .second, .val (.long q1), .second, .val (.long q2), .second, .val (.int p3), .val (.long (q0 &&& (9223372036854775807 : Int64))), .second, .val (.long (q1 &&& (9223372036854775807 : Int64))), .second, .val (.long ((q1 &&& (9223372036854775807 : Int64)) + ((q0 &&& (9223372036854775807 : Int64)) + (((((p3.toUInt32 >>> ((1 : Int32) &&& 31).toUInt32).toInt32) % (3 : Int32)) - (1 : Int32)).toInt64)))), .second, .val (.ref b25), .val (.int z29), .val (.long ((q0 &&& (9223372036854775807 : Int64)) + (((((p3.toUInt32 >>> ((1 : Int32) &&& 31).toUInt32).toInt32) % (3 : Int32)) - (1 : Int32)).toInt64))), .second] [(.int (1 : Int32))]))
        refine own_go (fun t k => XS.goto X31.here hx rfl (pc0 := 117) (pc' := 121) rfl (hb hby at_117) (by decide) (by decide) k) ?_
        show own_G p e below (K_0 Z q0 q1 q2 p3 h0 n0 s) (T31.setTop (mkF m 121 #[.val (.long q0), .second, .val (.long q1), .second, .val (.long q2), .second, .val (.int p3), .val (.long (q0 &&& (9223372036854775807 : Int64))), .second, .val (.long (q1 &&& (9223372036854775807 : Int64))), .second, .val (.long ((q1 &&& (9223372036854775807 : Int64)) + ((q0 &&& (9223372036854775807 : Int64)) + (((((p3.toUInt32 >>> ((1 : Int32) &&& 31).toUInt32).toInt32) % (3 : Int32)) - (1 : Int32)).toInt64)))), .second, .val (.ref b25), .val (.int z29), .val (.long ((q0 &&& (9223372036854775807 : Int64)) + (((((p3.toUInt32 >>> ((1 : Int32) &&& 31).toUInt32).toInt32) % (3 : Int32)) - (1 : Int32)).toInt64))), .second] [(.int (1 : Int32))]))
        exact own_retN X31 hx Bd.notSynchronized (t := .boolean) (z' := (1 : Int32)) Bd.returns (by simp) (hb hby at_121) rfl (fun U hU hV hF => ⟨_, _, rfl, ⟨rfl, N31⟩, hF.1, hF.2.1, hF.2.2.mono (by decide) (by decide)⟩)
set_option maxRecDepth 65536 in
set_option maxHeartbeats 40000000 in
theorem comes_1 {Post : Tables → Env → Array Value → State → Outcome → State → Prop} (hpost : ∀ tb e args s v u, (limb_1_1.after args s (.returned v) u = true ∧ limb_1_2.after args s (.returned v) u = true ∧ True) → FrameEnd s (.returned v) u (Jvm.fieldLocs frame_1_writes args s ++ Jvm.arrayLocs frame_1_arrays args s ++ Jvm.staticLocs frame_1_statics s) 16 128 → Post tb e args s (.returned v) u) :
    ArmFor flags0 classFile x code maxLocals ret World_1 tables_1 room_1 Calls_1 rest_1 Pre_1 Post := by
  intro l hfl _ _ p e ha hc hk s m args below hf hA hF happ hP
  obtain ⟨hcalls, hrest, hpre⟩ := hP
  obtain ⟨-, -, -, hnamed, -, -, -, hat⟩ := (Spec.applies_iff hf).mp happ
  obtain ⟨hg, hn⟩ := and_e (Cond.before_iff.mp (show (Jvm.Cond.and given_1 narrow_1).before args s = true from hpre))
  obtain ⟨hcnt, hg0⟩ := and_e hg
  obtain ⟨hv0, hg1⟩ := and_e hg0
  obtain ⟨hv1, hg2⟩ := and_e hg1
  obtain ⟨hv2, hg3⟩ := and_e hg2
  obtain ⟨w0, w1, w2, w3, rfl⟩ : ∃ w0 w1 w2 w3 : Value, args = #[w0, w1, w2, w3] := by
    have hs : args.size = 4 := by simpa [Cond.value, given_1] using hcnt
    obtain ⟨L⟩ := args
    match L, hs with
    | [w0, w1, w2, w3], _ => exact ⟨w0, w1, w2, w3, rfl⟩
  have hw := fun d (hd : d ∈ tables_1) => atoms_spec (ws := Jvm.Cond.code x code maxLocals ret :: tables_1) hat d (List.mem_cons_of_mem _ hd)
  have hfit : Fit s := fun {y c} hc i hi => by
    obtain ⟨ha, rfl⟩ := Array.getElem?_eq_some_iff.mp hc
    have q := List.all_eq_true.mp ((Array.all_eq_true_iff_forall_mem.mp hF) _ (Array.getElem_mem ha)) i (List.mem_range.mpr hi)
    simpa [Array.getElem?_eq_getElem hi] using q
  obtain ⟨i0, ei0⟩ := isL_v hv0
  obtain rfl : w0 = (.long i0) := Option.some.inj ei0
  obtain ⟨i1, ei1⟩ := isL_v hv1
  obtain rfl : w1 = (.long i1) := Option.some.inj ei1
  obtain ⟨i2, ei2⟩ := isL_v hv2
  obtain rfl : w2 = (.long i2) := Option.some.inj ei2
  obtain ⟨i3, ei3⟩ := is_v hg3
  obtain rfl : w3 = (.int i3) := Option.some.inj ei3
  obtain ⟨n, o, h1, h2, h3, _, L, rfl, ⟨rfl, N⟩, hq⟩ := rm_0 l s _ hw tables_1 i0 i1 i2 i3  s.heap s.heap.size (Nat.le_refl _)  p e ha hc hk s m _ below hf ((Spec.applies_iff_loose hf).mp happ).1 ⟨rfl, State.Warmed39.refl s, rfl⟩ trivial
  refine ⟨n, _, h1, h2, h3, hpost _ _ _ _ _ _ ⟨Cond.after_iff.mpr rfl, Cond.after_iff.mpr (eq_i res_at (Term.int_eval (1)) rfl), trivial⟩ ⟨hq.1, hq.2.1, (hq.2.2.sift fun y hy => Or.inr (N y hy)).mono (by decide) (by decide)⟩⟩
theorem main_1_1 : Claimed_1_1 := comes_1 fun _ _ _ _ _ _ h hF => ⟨h.1, hF⟩
theorem main_1_2 : Claimed_1_2 := comes_1 fun _ _ _ _ _ _ h hF => ⟨h.2.1, hF⟩
end Jvm.Pilot.@@N@@
namespace Jvm.Pilot.@@N@@
open Jvm Jvm.ClassFile Sem Op Lib Jvm.Free Jvm.Stand Jvm.Pilot.@@N@@.Jvm.D
/-! MADE BY PROGRAM (witnessworld.py) out of the Statement's table words and the real class files: 10 classes; the members and pool entries that the words name. The judged class is class 1, her method 1. -/
namespace start1
open Jvm.ClassFile
def u (s : String) : CpInfo := .utf8 (stringToUtf16 s)
/-- a pool by its gaps: so many unusable entries, then the entry; so many at the end -/
def gap : Nat → List CpInfo → List CpInfo
  | 0, r => r
  | n + 1, r => .unusable :: gap n r
def poolList (es : List (Nat × CpInfo)) (last : Nat) : List CpInfo := es.foldr (fun e r => gap e.1 (e.2 :: r)) (gap last [])
def pool (es : List (Nat × CpInfo)) (last : Nat) : Array CpInfo := ⟨poolList es last⟩
def fileOf (pool : Array CpInfo) (this : Nat) (attrs : Array Attribute := #[]) (ms : Array MethodInfo := #[]) (fl : Nat := 33) (sup : Nat := 0) (ifs : Array Nat := #[]) (fds : Array FieldInfo := #[]) : ClassFile where
  minorVersion := 0
  majorVersion := 65
  constantPool := pool
  accessFlags := fl
  thisClass := this
  superClass := sup
  interfaces := ifs
  fields := fds
  methods := ms
  attributes := attrs
def plain (name : String) (sup : Option ClassId) : Class where
  name := name
  kind := .ordinary
  loader := none
  accessFlags := 33
  super := sup
  interfaces := #[]
  cf := none
  fields := #[]
  methods := #[]
  instanceTypes := #[]
  staticTypes := #[]
  resolved := #[]
  callSites := []
  init := .initialized
  statics := none
  mirror := none

def pool0 : Array CpInfo := pool [(5, u "<init>"), (0, u "()V"), (1, .class_ 10), (1, u "java/lang/Object")] 113

def k0c0 : Code := { maxStack := 0, maxLocals := 1, code := object_method_1_code, exceptionTable := #[], attributes := #[] }
def k0m0 : Method := { name := "<init>", desc := "()V", sig := { parameters := [], returnType := none }, accessFlags := 1, code := some k0c0 }
/-- java/lang/Object -/
def k0 : Class := { plain "java/lang/Object" none with
  accessFlags := 33
  interfaces := #[]
  cf := some (fileOf pool0 8 #[] #[{ accessFlags := 1, nameIndex := 5, descriptorIndex := 6, attributes := #[] }] 33 0 #[] #[])
  fields := #[]
  methods := #[k0m0]
  instanceTypes := #[]
  staticTypes := #[]
  resolved := Array.replicate 124 none
  statics := none }

def pool1 : Array CpInfo := pool [(2, .class_ 4), (1, u "java/lang/Object"), (0, u "<init>"), (0, u "()V"), (2, .long 9223372036854775807), (1, .class_ 12), (0, u "com/example/tidelog/tidelog/IdleLimit"), (0, .methodref 11 14), (0, .nameAndType 5 15), (0, u "(J)V"), (0, .methodref 11 17), (0, .nameAndType 18 19), (0, u "isPast"), (0, u "(JJ)Z"), (0, .class_ 21), (0, u "com/example/tidelog/tidelog/IdleLimitIsPastPinLaw"), (2, u "law"), (0, u "(JJJI)Z")] 3

def k1m0 : Method := { name := "<init>", desc := "()V", sig := { parameters := [], returnType := none }, accessFlags := 1, code := none }
def k1c1 : Code := { maxStack := 6, maxLocals := 17, code := code, exceptionTable := #[], attributes := #[] }
def k1m1 : Method := { name := "law", desc := "(JJJI)Z", sig := { parameters := [.long, .long, .long, .int], returnType := some .boolean }, accessFlags := 9, code := some k1c1 }
/-- com/example/tidelog/tidelog/IdleLimitIsPastPinLaw -/
def k1 : Class := { plain "com/example/tidelog/tidelog/IdleLimitIsPastPinLaw" (some 0) with
  accessFlags := 49
  interfaces := #[]
  cf := some (fileOf pool1 20 #[] #[{ accessFlags := 1, nameIndex := 5, descriptorIndex := 6, attributes := #[] }, { accessFlags := 9, nameIndex := 24, descriptorIndex := 25, attributes := #[] }] 49 2 #[] #[])
  fields := #[]
  methods := #[k1m0, k1m1]
  instanceTypes := #[]
  staticTypes := #[]
  resolved := Array.replicate 29 none
  statics := none }

def pool2 : Array CpInfo := pool [(1, .methodref 2 3), (0, .class_ 4), (0, .nameAndType 5 6), (0, u "java/lang/Object"), (0, u "<init>"), (0, u "()V"), (0, .class_ 8), (0, u "java/lang/Record")] 13

def k2c0 : Code := { maxStack := 1, maxLocals := 1, code := jdk_30_method_1_code, exceptionTable := #[], attributes := #[] }
def k2m0 : Method := { name := "<init>", desc := "()V", sig := { parameters := [], returnType := none }, accessFlags := 4, code := some k2c0 }
/-- java/lang/Record -/
def k2 : Class := { plain "java/lang/Record" (some 0) with
  accessFlags := 1057
  interfaces := #[]
  cf := some (fileOf pool2 7 #[] #[{ accessFlags := 4, nameIndex := 5, descriptorIndex := 6, attributes := #[] }] 1057 2 #[] #[])
  fields := #[]
  methods := #[k2m0]
  instanceTypes := #[]
  staticTypes := #[]
  resolved := Array.replicate 22 none
  statics := none }

def pool3 : Array CpInfo := pool [(1, .class_ 2), (0, u "com/example/tidelog/tidelog/IdleLimit"), (0, .methodref 4 5), (0, .class_ 6), (0, .nameAndType 7 8), (0, u "java/lang/Record"), (0, u "<init>"), (0, u "()V"), (0, .fieldref 1 10), (0, .nameAndType 11 12), (0, u "seconds"), (0, u "J"), (13, u "NONE"), (0, u "Lcom/example/tidelog/tidelog/IdleLimit;"), (4, u "(J)V"), (16, u "OPTION"), (0, u "Ljava/lang/String;"), (1, u "SYNOPSIS"), (2, u "SECONDS_PER_DAY"), (9, u "isPast"), (0, u "(JJ)Z")] 24

def k3c0 : Code := { maxStack := 3, maxLocals := 3, code := prog_4_method_1_code, exceptionTable := #[], attributes := #[] }
def k3m0 : Method := { name := "<init>", desc := "(J)V", sig := { parameters := [.long], returnType := none }, accessFlags := 0, code := some k3c0 }
def k3c1 : Code := { maxStack := 4, maxLocals := 5, code := prog_4_method_3_code, exceptionTable := #[], attributes := #[] }
def k3m1 : Method := { name := "isPast", desc := "(JJ)Z", sig := { parameters := [.long, .long], returnType := some .boolean }, accessFlags := 0, code := some k3c1 }
/-- com/example/tidelog/tidelog/IdleLimit -/
def k3 : Class := { plain "com/example/tidelog/tidelog/IdleLimit" (some 2) with
  accessFlags := 48
  interfaces := #[]
  cf := some (fileOf pool3 1 #[] #[{ accessFlags := 0, nameIndex := 7, descriptorIndex := 32, attributes := #[] }, { accessFlags := 0, nameIndex := 65, descriptorIndex := 66, attributes := #[] }] 48 4 #[] #[{ accessFlags := 18, nameIndex := 11, descriptorIndex := 12, attributes := #[] }, { accessFlags := 24, nameIndex := 26, descriptorIndex := 27, attributes := #[] }, { accessFlags := 24, nameIndex := 49, descriptorIndex := 50, attributes := #[] }, { accessFlags := 24, nameIndex := 52, descriptorIndex := 50, attributes := #[] }, { accessFlags := 26, nameIndex := 55, descriptorIndex := 12, attributes := #[] }])
  fields := #[{ name := "seconds", type := .long, accessFlags := 18, slot := 0, constantValue := 0 }, { name := "NONE", type := (.object "com/example/tidelog/tidelog/IdleLimit"), accessFlags := 24, slot := 0, constantValue := 0 }, { name := "OPTION", type := (.object "java/lang/String"), accessFlags := 24, slot := 1, constantValue := 0 }, { name := "SYNOPSIS", type := (.object "java/lang/String"), accessFlags := 24, slot := 2, constantValue := 0 }, { name := "SECONDS_PER_DAY", type := .long, accessFlags := 26, slot := 3, constantValue := 0 }]
  methods := #[k3m0, k3m1]
  instanceTypes := #[.long]
  staticTypes := #[(.object "com/example/tidelog/tidelog/IdleLimit"), (.object "java/lang/String"), (.object "java/lang/String"), .long]
  resolved := Array.replicate 91 none
  statics := none }

def pool4 : Array CpInfo := pool [(1, u "java/lang/Cloneable"), (0, .class_ 1), (0, u "java/lang/Object"), (0, .class_ 3)] 3

/-- java/lang/Cloneable -/
def k4 : Class := { plain "java/lang/Cloneable" (some 0) with
  accessFlags := 1537
  interfaces := #[]
  cf := some (fileOf pool4 2 #[] #[] 1537 4 #[] #[])
  fields := #[]
  methods := #[]
  instanceTypes := #[]
  staticTypes := #[]
  resolved := Array.replicate 8 none
  statics := none }

def pool5 : Array CpInfo := pool [(1, u "java/io/Serializable"), (0, .class_ 1), (0, u "java/lang/Object"), (0, .class_ 3)] 3

/-- java/io/Serializable -/
def k5 : Class := { plain "java/io/Serializable" (some 0) with
  accessFlags := 1537
  interfaces := #[]
  cf := some (fileOf pool5 2 #[] #[] 1537 4 #[] #[])
  fields := #[]
  methods := #[]
  instanceTypes := #[]
  staticTypes := #[]
  resolved := Array.replicate 8 none
  statics := none }

/-- the primitive byte -/
def k6 : Class := { plain "byte" none with kind := .primitive 'B', accessFlags := 0x411 }
/-- [B -/
def k7 : Class := { plain "[B" (some 0) with kind := .array 6 .byte, interfaces := #[4, 5], accessFlags := 1041 }

/-- the primitive int -/
def k8 : Class := { plain "int" none with kind := .primitive 'I', accessFlags := 0x411 }
/-- [I -/
def k9 : Class := { plain "[I" (some 0) with kind := .array 8 .int, interfaces := #[4, 5], accessFlags := 1041 }

def heap : Heap := #[]
def classes : Array Class := #[k0, k1, k2, k3, k4, k5, k6, k7, k8, k9]
def interned : List (Array UInt16 × Addr) := []
def slotsUsed : Nat := 0
def theMethod : MethodId := ⟨1, 1⟩
def args0 : Array Value := #[.long 5, .long 7, .long 9, .int 3]
def aboutOver (below : List Frame) : State where
  vm := { classes := classes, interned := interned.toArray }
  heap := heap
  slotsUsed := slotsUsed
  threads := #[{ frames := .invoking theMethod args0 :: below }]
def below0 : List Frame := [.native { method := ⟨0, 0⟩, args := #[] }]
def about1 : State := aboutOver below0
def p0 : Program := .bare "" "" ""
def e0 : Env := launch0.env 0 0 0
theorem w_frames : about1.frames = Frame.invoking theMethod args0 :: below0 := rfl
set_option maxRecDepth 65536 in
theorem w_args : argsFit about1.vm theMethod args0 = true := by decide +kernel
set_option maxRecDepth 65536 in
theorem w_heap : heapFits about1 = true := by decide +kernel
set_option maxRecDepth 65536 in
theorem w_runnable : about1.curStatus? = some .runnable := by decide +kernel
set_option maxRecDepth 65536 in
theorem w_alone : about1.alone = true := by decide +kernel
set_option maxRecDepth 65536 in
theorem w_named : about1.methodNamed? x = some theMethod := by decide +kernel
set_option maxRecDepth 65536 in
theorem w_hears : about1.hears theMethod below0 = true := by decide +kernel
set_option maxRecDepth 65536 in
theorem w_ripe : about1.ripe theMethod args0 below0 = true := by decide +kernel
theorem w_running : about1.status = .running := rfl
set_option maxRecDepth 65536 in
theorem w_room : about1.hasRoom e0.platform room_1 = true :=
  launch0.hasRoom_least _ room_1 (by decide +kernel) (by decide +kernel) (by decide +kernel) (by decide +kernel) (by decide +kernel) (by decide +kernel)
theorem allAtoms_all (ts : List Jvm.Cond) (a : Array Jvm.Value) (st : Jvm.State) : (allAtoms ts).before a st = ts.all (fun c => c.before a st) := by
  induction ts with
  | nil => rfl
  | cons c t ih =>
    show (Jvm.Cond.and c (allAtoms t)).before a st = _
    rw [Jvm.Cond.before_and, ih, List.all_cons]
def words1 : List Jvm.Cond := Jvm.Cond.code x code maxLocals ret :: tables_1
/-- a 'code' word, met by the world's own term for the bytes: nothing is compared byte by byte -/
theorem code_word {y : MethodName} {bytes : ByteArray} {mx : Nat} {rt : Option FieldType} {a : Array Value} {s : State} {m : MethodId} {meth : Method} {c : Code} (h1 : s.methodNamed? y = some m) (h2 : s.vm.method? m = some meth) (h3 : meth.code = some c) (h4 : c.code = bytes)
    (h5 : (c.maxLocals == mx && c.exceptionTable.isEmpty && decide (c.maxStack ≤ mostOperands) && decide (meth.sig.returnType = rt) && !meth.locks && decide (parseMethodDescriptor y.desc = some meth.sig)) = true) : (Jvm.Cond.code y bytes mx rt).before a s = true := by
  simp only [Bool.and_eq_true, beq_iff_eq, Bool.not_eq_true', decide_eq_true_eq] at h5
  obtain ⟨⟨⟨⟨⟨g1, g2⟩, g3⟩, g4⟩, g5⟩, g6⟩ := h5
  simp [Cond.before, Cond.holds, Cond.value, h1, h2, h3, h4, g1, g2, g3, g4, g5, g6]
def isCode : Jvm.Cond → Bool
  | .code _ _ _ _ => true
  | _ => false
theorem all_split {L : List Jvm.Cond} {P : Jvm.Cond → Bool} (h1 : L.all (fun c => isCode c || P c) = true) (h2 : ∀ c ∈ L.filter isCode, P c = true) : L.all P = true := by
  refine List.all_eq_true.mpr fun c hc => ?_
  have h := List.all_eq_true.mp h1 c hc
  rcases Bool.eq_false_or_eq_true (isCode c) with hi | hi
  · exact h2 c (List.mem_filter.mpr ⟨hc, hi⟩)
  · simpa [hi] using h
set_option maxRecDepth 65536 in
theorem w_c0 : (Jvm.Cond.code x code maxLocals ret).before args0 about1 = true := code_word (m := ⟨1, 1⟩) (meth := k1m1) (c := k1c1) (by decide +kernel) rfl rfl rfl (by decide +kernel)
set_option maxRecDepth 65536 in
theorem w_c1 : (Jvm.Cond.code ({ cls := "com/example/tidelog/tidelog/IdleLimit", name := "<init>", desc := "(J)V" } : Jvm.MethodName) prog_4_method_1_code (3 : Nat) (Option.none : Option Jvm.ClassFile.FieldType)).before args0 about1 = true := code_word (m := ⟨3, 0⟩) (meth := k3m0) (c := k3c0) (by decide +kernel) rfl rfl rfl (by decide +kernel)
set_option maxRecDepth 65536 in
theorem w_c2 : (Jvm.Cond.code ({ cls := "java/lang/Record", name := "<init>", desc := "()V" } : Jvm.MethodName) jdk_30_method_1_code (1 : Nat) (Option.none : Option Jvm.ClassFile.FieldType)).before args0 about1 = true := code_word (m := ⟨2, 0⟩) (meth := k2m0) (c := k2c0) (by decide +kernel) rfl rfl rfl (by decide +kernel)
set_option maxRecDepth 65536 in
theorem w_c3 : (Jvm.Cond.code ({ cls := "java/lang/Object", name := "<init>", desc := "()V" } : Jvm.MethodName) object_method_1_code (1 : Nat) (Option.none : Option Jvm.ClassFile.FieldType)).before args0 about1 = true := code_word (m := ⟨0, 0⟩) (meth := k0m0) (c := k0c0) (by decide +kernel) rfl rfl rfl (by decide +kernel)
set_option maxRecDepth 65536 in
theorem w_c4 : (Jvm.Cond.code ({ cls := "com/example/tidelog/tidelog/IdleLimit", name := "isPast", desc := "(JJ)Z" } : Jvm.MethodName) prog_4_method_3_code (5 : Nat) (Option.some Jvm.ClassFile.FieldType.boolean)).before args0 about1 = true := code_word (m := ⟨3, 1⟩) (meth := k3m1) (c := k3c1) (by decide +kernel) rfl rfl rfl (by decide +kernel)
def codes1 : List Jvm.Cond := [Jvm.Cond.code x code maxLocals ret, Jvm.Cond.code ({ cls := "com/example/tidelog/tidelog/IdleLimit", name := "<init>", desc := "(J)V" } : Jvm.MethodName) prog_4_method_1_code (3 : Nat) (Option.none : Option Jvm.ClassFile.FieldType), Jvm.Cond.code ({ cls := "java/lang/Record", name := "<init>", desc := "()V" } : Jvm.MethodName) jdk_30_method_1_code (1 : Nat) (Option.none : Option Jvm.ClassFile.FieldType), Jvm.Cond.code ({ cls := "java/lang/Object", name := "<init>", desc := "()V" } : Jvm.MethodName) object_method_1_code (1 : Nat) (Option.none : Option Jvm.ClassFile.FieldType), Jvm.Cond.code ({ cls := "com/example/tidelog/tidelog/IdleLimit", name := "isPast", desc := "(JJ)Z" } : Jvm.MethodName) prog_4_method_3_code (5 : Nat) (Option.some Jvm.ClassFile.FieldType.boolean)]
set_option maxRecDepth 65536 in
theorem codes_eq : words1.filter isCode = codes1 := rfl
theorem w_codes : ∀ c ∈ words1.filter isCode, c.before args0 about1 = true := by
  rw [codes_eq]
  intro c hc
  simp only [codes1, List.mem_cons, List.not_mem_nil, or_false] at hc
  rcases hc with rfl | rfl | rfl | rfl | rfl
  · exact w_c0
  · exact w_c1
  · exact w_c2
  · exact w_c3
  · exact w_c4
set_option maxRecDepth 65536 in
theorem w_t1 : words1.all (fun c => isCode c || c.before args0 about1) = true := by decide +kernel
theorem w_tables : (allAtoms (Jvm.Cond.code x code maxLocals ret :: tables_1)).before args0 about1 = true := by
  rw [allAtoms_all]
  show words1.all (fun c => c.before args0 about1) = true
  refine all_split ?_ w_codes
  rw [w_t1]
set_option maxRecDepth 65536 in
theorem w_case : (Jvm.Cond.and given_1 narrow_1).before args0 about1 = true := by decide +kernel
theorem w_applies : (headSpec (Jvm.Cond.code x code maxLocals ret :: tables_1) room_1).applies x e0.platform about1 = true :=
  (Spec.applies_iff w_frames).mpr ⟨w_running, w_runnable, w_alone, w_named, w_hears, w_ripe, w_room, w_tables⟩
theorem atStart : AtStart classFile x code maxLocals ret World_1 tables_1 room_1 Calls_1 rest_1 Pre_1 launch0 p0 e0 about1 theMethod args0 below0 :=
  ⟨lists_1, trivial, launch0.admits_env _ _ _, launch0.least_env, fairChoices_fair.cas, fairChoices_fair.clock, w_frames, w_args, w_heap, w_applies, trivial, trivial, w_case⟩
end start1
theorem witness_1 : WitnessClaimed_1 := ⟨start1.p0, start1.e0, start1.about1, start1.theMethod, start1.args0, start1.below0, start1.atStart⟩
end Jvm.Pilot.@@N@@
