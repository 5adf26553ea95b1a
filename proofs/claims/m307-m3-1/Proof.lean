import JvmDerived
import JvmDerived.Pilot.@@N@@Statement
import JvmDerived.Pilot.@@N@@Code
set_option linter.unusedVariables false
set_option linter.unusedSimpArgs false

namespace Jvm.RoadKit
open Sem ClassFile Op Lib Jvm.Stand Jvm.Free Jvm.LawKit
/-- the run from S comes to an end that K allows -/
def own_G (p : Program) (e : Env) (below : List Frame) (K : Outcome → State → Prop) (S : State) : Prop := ∃ s₂ o, Steps p.tables e below S s₂ ∧ s₂.status = .running ∧ Ended s₂ below o ∧ K o s₂
section Own
variable {p : Program} {l : Launch} {e : Env} {R : Room} {s : State} {m : MethodId} {args : Array Value} {below : List Frame} {meth : Method} {c : Code} {T : State} {locs : List Loc} {cells slots : Nat} {K : Outcome → State → Prop} {S S' : State}
theorem own_go (h : ∀ t, Steps p.tables e below S' t → Steps p.tables e below S t) (g : own_G p e below K S') : own_G p e below K S := by
  obtain ⟨s₂, o, h1, h2⟩ := g; exact ⟨s₂, o, h _ h1, h2⟩
theorem own_tr (h : Steps p.tables e below S S') (g : own_G p e below K S') : own_G p e below K S := by
  obtain ⟨s₂, o, h1, h2⟩ := g; exact ⟨s₂, o, h.trans h1, h2⟩
theorem own_cast {g g' : JFrame} (q : g = g') (k : own_G p e below K (T.setTop g')) : own_G p e below K (T.setTop g) := q ▸ k
theorem own_end {v : Option Value} (X : Stand p l e R s m args below meth c T locs cells slots) (hv : meth.sig.returnType = none → v = none) (hlocks : meth.locks = false)
    (hst : ∀ fs, (∀ (f : JFrame) (acts : List Action), f.method = m → f.locked = none → f.entered = [] → (doReturn e (T.setTop f) acts v).1 = T.setFrames fs) → Steps p.tables e below S (T.setFrames fs))
    (hk : ∀ U : State, U.heap = T.heap → U.vm = T.vm → FrameEnd s (.returned v) U locs cells slots → K (.returned v) U) : own_G p e below K S := by
  obtain ⟨fs, hr, hrun, hended, hW, hsame⟩ := X.leave (v := v) hv hlocks
  exact ⟨_, _, hst fs hr, hrun, hended, hk _ rfl rfl ⟨⟨_, rfl⟩, hW, hsame⟩⟩
theorem own_retN (X : Stand p l e R s m args below meth c T locs cells slots) (hx : p.tables.exec = Jvm.exec) (hlocks : meth.locks = false) {pc : Nat} {Ls : Array Slot} {z z' : Int32} {t : FieldType} {rest : List Value} (hret : meth.sig.returnType = some t) (ht : t = .boolean ∨ t = .byte ∨ t = .char ∨ t = .short)
    (hd : decode c.code pc = .ok (.ireturn, 1)) (hz : nar t z = z') (hk : ∀ U : State, U.heap = T.heap → U.vm = T.vm → FrameEnd s (.returned (some (.int z'))) U locs cells slots → K (.returned (some (.int z'))) U) :
    own_G p e below K (T.setTop (mkF m pc Ls (.int z :: rest))) := by
  subst hz
  exact own_end X (fun h => by rw [hret] at h; cases h) hlocks (fun fs hr => retN X hx hret ht hd hr) hk
theorem own_retI (X : Stand p l e R s m args below meth c T locs cells slots) (hx : p.tables.exec = Jvm.exec) (hlocks : meth.locks = false) {pc : Nat} {Ls : Array Slot} {z : Int32} {rest : List Value} (hret : meth.sig.returnType = some .int)
    (hd : decode c.code pc = .ok (.ireturn, 1)) (hk : ∀ U : State, U.heap = T.heap → U.vm = T.vm → FrameEnd s (.returned (some (.int z))) U locs cells slots → K (.returned (some (.int z))) U) :
    own_G p e below K (T.setTop (mkF m pc Ls (.int z :: rest))) :=
  own_end X (fun h => by rw [hret] at h; cases h) hlocks (fun fs hr => retOut X hx hret rfl (Or.inl ⟨rfl, Or.inl rfl, z, rfl⟩) hd hr) hk
theorem own_retJ (X : Stand p l e R s m args below meth c T locs cells slots) (hx : p.tables.exec = Jvm.exec) (hlocks : meth.locks = false) {pc : Nat} {Ls : Array Slot} {z : Int64} {rest : List Value} (hret : meth.sig.returnType = some .long)
    (hd : decode c.code pc = .ok (.lreturn, 1)) (hk : ∀ U : State, U.heap = T.heap → U.vm = T.vm → FrameEnd s (.returned (some (.long z))) U locs cells slots → K (.returned (some (.long z))) U) :
    own_G p e below K (T.setTop (mkF m pc Ls (.long z :: rest))) :=
  own_end X (fun h => by rw [hret] at h; cases h) hlocks (fun fs hr => retOut X hx hret rfl (Or.inr (Or.inl ⟨rfl, rfl, z, rfl⟩)) hd hr) hk
theorem own_retR (X : Stand p l e R s m args below meth c T locs cells slots) (hx : p.tables.exec = Jvm.exec) (hlocks : meth.locks = false) {pc : Nat} {Ls : Array Slot} {w : Value} {t : FieldType} {rest : List Value} (hret : meth.sig.returnType = some t) (ht : t.isReference = true) (hw : w.isRef = true)
    (hd : decode c.code pc = .ok (.areturn, 1)) (hk : ∀ U : State, U.heap = T.heap → U.vm = T.vm → FrameEnd s (.returned (some w)) U locs cells slots → K (.returned (some w)) U) :
    own_G p e below K (T.setTop (mkF m pc Ls (w :: rest))) :=
  own_end X (fun h => by rw [hret] at h; cases h) hlocks (fun fs hr => retOut X hx hret (by cases w <;> cases t <;> first | rfl | simp [Value.isRef, FieldType.isReference] at hw ht) (Or.inr (Or.inr (Or.inr (Or.inr ⟨rfl, ht, hw⟩)))) hd hr) hk
theorem own_retV (X : Stand p l e R s m args below meth c T locs cells slots) (hx : p.tables.exec = Jvm.exec) (hlocks : meth.locks = false) {pc : Nat} {Ls : Array Slot} (hret : meth.sig.returnType = none)
    (hd : decode c.code pc = .ok (.return_, 1)) (hk : ∀ U : State, U.heap = T.heap → U.vm = T.vm → FrameEnd s (.returned none) U locs cells slots → K (.returned none) U) :
    own_G p e below K (T.setTop (mkF m pc Ls [])) :=
  own_end X (fun _ => rfl) hlocks (fun fs hr => X.returnOut hx hret hd hr) hk
end Own
end Jvm.RoadKit
namespace Jvm.Pilot.@@N@@
open Jvm Jvm.ClassFile Sem Op Lib Jvm.Free Jvm.Stand Jvm.LawKit Jvm.RoadKit Bundle Jvm.Pilot.@@N@@.Jvm.D
theorem own_b0 {z : Int32} {P : Prop} [Decidable P] (h : z = if P then 1 else 0) (q : ¬ P) : z = 0 := by rw [h, if_neg q]
theorem own_b1 {z : Int32} {P : Prop} [Decidable P] (h : z = if P then 1 else 0) (q : P) : ¬ z = 0 := by rw [h, if_pos q]; decide
theorem own_bn {z : Int32} {P : Prop} [Decidable P] (h : z = if P then 0 else 1) : z = if ¬ P then 1 else 0 := by by_cases q : P <;> simp [h, q]
theorem own_fldI {args : Array Value} {s : State} {t : Term} {C n d : String} {z : Int32} {a : Addr} (ht : t.eval args s none [] s = some (.ref a)) (h : (Jvm.Cond.eq (Term.field t C n d) (Term.int z)).value args s none s [] = some true) : Fld s s.heap a C n d (.int z) := by
  obtain ⟨x, y, h1, h2, k1, k2⟩ := cmp_v (Or.inl h)
  have h3 : (Term.int z).eval args s none [] s = some (.int z) := rfl
  obtain rfl : y = .int z := Option.some.inj (h2.symm.trans h3)
  obtain ⟨w, rfl⟩ := k2
  have e : w = z := by simp only [Cond.value, h1, h3] at h; simpa using h
  subst e
  exact Fld.start (by rw [← fld_at ht]; exact h1)
theorem own_stakeep {Z : State} {h h' : Heap} {C n d : String} {v : Value} {ws : List Addr} (F : Sta Z h C n d v) (K : Keep h h' ws) (q : ∀ a ∈ ws, ∀ cell : Cell, h[a]? = some cell → cell.vm.isStatics = false) : Sta Z h' C n d v := by
  obtain ⟨cf, i, k, f, st, cell, h1, h2, h3, h4, h5, h6, h7⟩ := F
  exact ⟨cf, i, k, f, st, cell, h1, h2, h3, h4, K.2.1 _ _ h5 (fun hm => by rw [q _ hm _ h5] at h6; cases h6), h6, h7⟩
theorem own_nb {z : Int32} {P : Prop} [Decidable P] (h : z = if P then 1 else 0) : nar .boolean z = z := by by_cases q : P <;> simp [h, q] <;> rfl
def own_pl (en0 en1 en2 : Addr) (p : Int32) : Addr := if ((p &&& (2147483647 : Int32)) % (3 : Int32)) = (0 : Int32) then en0 else if ((p &&& (2147483647 : Int32)) % (3 : Int32)) = (1 : Int32) then en1 else en2
theorem own_mul (a b : Int32) : (a.toInt64 * b.toInt64).toInt = a.toInt * b.toInt := by
  have h := c_lmul a.toInt64 b.toInt64
  rw [c_i2l, c_i2l] at h
  have r1 := Int64.le_toInt (a.toInt64 * b.toInt64); have r2 := Int64.toInt_lt (a.toInt64 * b.toInt64)
  have r3 := Int32.le_toInt a; have r4 := Int32.toInt_lt a; have r5 := Int32.le_toInt b; have r6 := Int32.toInt_lt b
  obtain ⟨m1, m2, m3, m4⟩ := mc r3 (show a.toInt ≤ 2147483647 by omega) r5 (show b.toInt ≤ 2147483647 by omega)
  generalize a.toInt * b.toInt = w at *
  omega
theorem own_nz {a : Int32} (h : ¬ a = (0 : Int32)) : a.toInt64 ≠ (0 : Int64) := fun q => h (by
  have := congrArg Int64.toInt q; rw [c_i2l] at this; exact Int32.toInt_inj.mp this)
theorem own_div {a b : Int32} (h : ¬ a = (0 : Int32)) : (a.toInt64 * b.toInt64) / a.toInt64 = b.toInt64 := by
  have h0 : a.toInt ≠ 0 := fun q => h (Int32.toInt_inj.mp (q.trans (rfl : (0 : Int) = (0 : Int32).toInt)))
  apply Int64.toInt_inj.mp
  rw [Int64.toInt_div, own_mul, c_i2l, c_i2l, Int.mul_tdiv_cancel_left _ h0]
  have r5 := Int32.le_toInt b; have r6 := Int32.toInt_lt b
  have := Int.bmod_emod (x := b.toInt) (m := 2 ^ 64)
  have l1 := Int.le_bmod (x := b.toInt) (m := 2 ^ 64) (by decide)
  have l2 := Int.bmod_lt (x := b.toInt) (m := 2 ^ 64) (by decide)
  omega
theorem own_rem {a b : Int32} (h : ¬ a = (0 : Int32)) : (a.toInt64 * b.toInt64) - (a.toInt64 * b.toInt64) / a.toInt64 * a.toInt64 = (0 : Int64) := by
  rw [own_div h, Int64.mul_comm, Int64.sub_self]
theorem own_z {a b : Int32} (h : a = (0 : Int32)) : (a.toInt64 * b.toInt64) = (0 : Int64) := by
  subst h; apply Int64.toInt_inj.mp; rw [own_mul]; show (0 : Int32).toInt * _ = (0 : Int64).toInt
  simp
theorem dpo_0 : decode method_2_code 0 = .ok (.iload_n 0, 1) := by decide +kernel
theorem dpo_1 : decode method_2_code 1 = .ok (.ldc 7, 2) := by decide +kernel
theorem dpo_3 : decode method_2_code 3 = .ok (.iand, 1) := by decide +kernel
theorem dpo_4 : decode method_2_code 4 = .ok (.iconst 3, 1) := by decide +kernel
theorem dpo_5 : decode method_2_code 5 = .ok (.irem, 1) := by decide +kernel
theorem dpo_6 : decode method_2_code 6 = .ok (.istore_n 1, 1) := by decide +kernel
theorem dpo_7 : decode method_2_code 7 = .ok (.iload_n 1, 1) := by decide +kernel
theorem dpo_8 : decode method_2_code 8 = .ok (.ifCond .ne 7, 3) := by decide +kernel
theorem dpo_11 : decode method_2_code 11 = .ok (.getstatic 8, 3) := by decide +kernel
theorem dpo_14 : decode method_2_code 14 = .ok (.areturn, 1) := by decide +kernel
theorem dpo_15 : decode method_2_code 15 = .ok (.iload_n 1, 1) := by decide +kernel
theorem dpo_16 : decode method_2_code 16 = .ok (.iconst 1, 1) := by decide +kernel
theorem dpo_17 : decode method_2_code 17 = .ok (.if_icmp .ne 7, 3) := by decide +kernel
theorem dpo_20 : decode method_2_code 20 = .ok (.getstatic 14, 3) := by decide +kernel
theorem dpo_23 : decode method_2_code 23 = .ok (.areturn, 1) := by decide +kernel
theorem dpo_24 : decode method_2_code 24 = .ok (.getstatic 17, 3) := by decide +kernel
theorem dpo_27 : decode method_2_code 27 = .ok (.areturn, 1) := by decide +kernel
theorem own_pn0 : plainName "com/example/tidelog/tidelog/SimulationUpdatesPerRunPinLaw" = true := by first | (simp [plainName, overriddenIn]; done) | decide +kernel
theorem efpo (m : MethodId) (p0 : Int32) : entryFrame m #[(.int p0)] 2 = mkF m 0 #[.val (.int p0), .unset] [] := by first | (simp [entryFrame, mkF, argsToLocals, Value.category]; done) | rfl
def Q_po (Z : State) (p0 : Int32) (en0 en1 en2 : Addr) (h0 : Heap) (n0 : Nat) (v : Option Value) (h : Heap) (L : List Loc) : Prop := v = some (.ref (own_pl en0 en1 en2 p0)) ∧ Fr n0 L ∧ h = h0
def K_po (Z : State) (p0 : Int32) (en0 en1 en2 : Addr) (h0 : Heap) (n0 : Nat) (s : State) (o : Outcome) (U' : State) : Prop := ∃ v L, o = .returned v ∧ Q_po Z p0 en0 en1 en2 h0 n0 v U'.heap L ∧ FrameEnd s o U' L 0 0
set_option maxRecDepth 65536 in
set_option maxHeartbeats 40000000 in
theorem rm_po (l : Launch) (Z : State) (a0 : Array Value) (hw : ∀ d ∈ tables_1, d.before a0 Z = true) (ws : List Jvm.Cond) (p0 : Int32) (en0 en1 en2 : Addr) (h0 : Heap) (n0 : Nat) (Z0 : n0 ≤ h0.size) (S0_ : Sta Z h0 "com/example/tidelog/tidelog/Simulation$Policy" "COMPLETE" "Lcom/example/tidelog/tidelog/Simulation$Policy;" (.ref en0)) (S1_ : Sta Z h0 "com/example/tidelog/tidelog/Simulation$Policy" "NONE" "Lcom/example/tidelog/tidelog/Simulation$Policy;" (.ref en1)) (S2_ : Sta Z h0 "com/example/tidelog/tidelog/Simulation$Policy" "PARTIAL" "Lcom/example/tidelog/tidelog/Simulation$Policy;" (.ref en2)) :
    MetFree l (⟨"com/example/tidelog/tidelog/SimulationUpdatesPerRunPinLaw", "policyOf", "(I)Lcom/example/tidelog/tidelog/Simulation$Policy;"⟩ : MethodName) (head1 (Jvm.Cond.code (⟨"com/example/tidelog/tidelog/SimulationUpdatesPerRunPinLaw", "policyOf", "(I)Lcom/example/tidelog/tidelog/Simulation$Policy;"⟩ : MethodName) method_2_code 2 (some (.object "com/example/tidelog/tidelog/Simulation$Policy")) :: ws) ({ frames := 0, cells := 0, slots := 0, locals := 0 } : Room)) (fun a U => a = #[(.int p0)] ∧ Z.Warmed39 U.vm ∧ U.heap = h0) (fun _ _ _ _ _ => True) (fun _ U o U' => ∃ v L, o = .returned v ∧ Q_po Z p0 en0 en1 en2 h0 n0 v U'.heap L ∧ FrameEnd U o U' L ({ frames := 0, cells := 0, slots := 0, locals := 0 } : Room).cells ({ frames := 0, cells := 0, slots := 0, locals := 0 } : Room).slots) := by
  refine MetFree.of_bodySF (plainFor_of_name own_pn0) hisR ?_
  intro p e s m args below meth c s₁ Bd hml0 hP hK
  obtain ⟨rfl, hZ, hh⟩ := hP
  have hx := Bd.exec
  have hby := Bd.bytes
  have hml : c.maxLocals = 2 := hml0
  have hown : s.vm.findClass "com/example/tidelog/tidelog/SimulationUpdatesPerRunPinLaw" = some m.cls := findClass_of_methodNamed Bd.named
  have hnm := (name_of_methodNamed Bd.named Bd.method).1
  have X0 : Stand p l e ({ frames := 0, cells := 0, slots := 0, locals := 0 } : Room) s m #[(.int p0)] below meth c s₁ [] 0 0 := Stand.of_body Bd
  have e0 : s₁.heap = h0 := by rw [← hh, Bd.state]; rfl
  have N0 := Fr.nil n0
  show own_G p e below (K_po Z p0 en0 en1 en2 h0 n0 s) (s₁.setTop (entryFrame m #[(.int p0)] 2))
  refine own_cast (efpo m p0) ?_
  show own_G p e below (K_po Z p0 en0 en1 en2 h0 n0 s) (s₁.setTop (mkF m 0 #[.val (.int p0), .unset] []))
  refine own_go (fun t k => XS.iloadN X0.here hx rfl (hb hby dpo_0) rfl k) ?_
  show own_G p e below (K_po Z p0 en0 en1 en2 h0 n0 s) (s₁.setTop (mkF m 1 #[.val (.int p0), .unset] [(.int p0)]))
  refine own_go (X0.ldcInt hx hown (mvT hZ (hw _ (List.mem_of_getElem? (i := 8) rfl))) (g := (mkF m 1 #[.val (.int p0), .unset] [(.int p0)])) rfl (hb hby dpo_1)) ?_
  show own_G p e below (K_po Z p0 en0 en1 en2 h0 n0 s) (s₁.setTop (mkF m 3 #[.val (.int p0), .unset] [(.int (2147483647 : Int32)), (.int p0)]))
  refine own_go (fun t k => XS.iand X0.here hx rfl (hb hby dpo_3) rfl k) ?_
  show own_G p e below (K_po Z p0 en0 en1 en2 h0 n0 s) (s₁.setTop (mkF m 4 #[.val (.int p0), .unset] [(.int (p0 &&& (2147483647 : Int32)))]))
  refine own_go (fun t k => XS.iconst X0.here hx rfl (hb hby dpo_4) k) ?_
  show own_G p e below (K_po Z p0 en0 en1 en2 h0 n0 s) (s₁.setTop (mkF m 5 #[.val (.int p0), .unset] [(.int (3 : Int32)), (.int (p0 &&& (2147483647 : Int32)))]))
  refine own_go (fun t k => iremM X0 hx rfl (hb hby dpo_5) rfl (by decide) k) ?_
  show own_G p e below (K_po Z p0 en0 en1 en2 h0 n0 s) (s₁.setTop (mkF m 6 #[.val (.int p0), .unset] [(.int ((p0 &&& (2147483647 : Int32)) % (3 : Int32)))]))
  refine own_go (fun t k => XS.istoreN X0.here hx rfl (hb hby dpo_6) rfl (l' := #[.val (.int p0), .val (.int ((p0 &&& (2147483647 : Int32)) % (3 : Int32)))]) rfl k) ?_
  show own_G p e below (K_po Z p0 en0 en1 en2 h0 n0 s) (s₁.setTop (mkF m 7 #[.val (.int p0), .val (.int ((p0 &&& (2147483647 : Int32)) % (3 : Int32)))] []))
  refine own_go (fun t k => XS.iloadN X0.here hx rfl (hb hby dpo_7) rfl k) ?_
  show own_G p e below (K_po Z p0 en0 en1 en2 h0 n0 s) (s₁.setTop (mkF m 8 #[.val (.int p0), .val (.int ((p0 &&& (2147483647 : Int32)) % (3 : Int32)))] [(.int ((p0 &&& (2147483647 : Int32)) % (3 : Int32)))]))
  by_cases hc8_1 : ((p0 &&& (2147483647 : Int32)) % (3 : Int32)) = (0 : Int32)
  · skip
    refine own_go (fun t k => XS.ifNo X0.here hx rfl (hb hby dpo_8) rfl ((if0 _ _).trans (teq hc8_1).2) k) ?_
    show own_G p e below (K_po Z p0 en0 en1 en2 h0 n0 s) (s₁.setTop (mkF m 11 #[.val (.int p0), .val (.int ((p0 &&& (2147483647 : Int32)) % (3 : Int32)))] []))
    obtain ⟨T2, X2, e2, st2⟩ := getS2 X0 hx hZ hown (host := "") (Or.inl (hw _ (List.mem_of_getElem? (i := 9) rfl))) Via.refl e0 S0_ (g := (mkF m 11 #[.val (.int p0), .val (.int ((p0 &&& (2147483647 : Int32)) % (3 : Int32)))] [])) rfl (hb hby dpo_11)
    refine own_go st2 ?_
    show own_G p e below (K_po Z p0 en0 en1 en2 h0 n0 s) (T2.setTop (mkF m 14 #[.val (.int p0), .val (.int ((p0 &&& (2147483647 : Int32)) % (3 : Int32)))] [(.ref en0)]))
    exact own_retR X2 hx Bd.notSynchronized Bd.returns rfl rfl (hb hby dpo_14) (fun U hU hV hF => ⟨_, _, rfl, ⟨by simp [own_pl, hc8_1], N0, hU.trans e2⟩, hF.1, hF.2.1, hF.2.2.mono (by decide) (by decide)⟩)
  · skip
    refine own_go (fun t k => XS.ifYes X0.here hx rfl (pc0 := 8) (pc' := 15) rfl (hb hby dpo_8) rfl ((if0 _ _).trans (feq hc8_1).2) (by decide) (by decide) k) ?_
    show own_G p e below (K_po Z p0 en0 en1 en2 h0 n0 s) (s₁.setTop (mkF m 15 #[.val (.int p0), .val (.int ((p0 &&& (2147483647 : Int32)) % (3 : Int32)))] []))
    refine own_go (fun t k => XS.iloadN X0.here hx rfl (hb hby dpo_15) rfl k) ?_
    show own_G p e below (K_po Z p0 en0 en1 en2 h0 n0 s) (s₁.setTop (mkF m 16 #[.val (.int p0), .val (.int ((p0 &&& (2147483647 : Int32)) % (3 : Int32)))] [(.int ((p0 &&& (2147483647 : Int32)) % (3 : Int32)))]))
    refine own_go (fun t k => XS.iconst X0.here hx rfl (hb hby dpo_16) k) ?_
    show own_G p e below (K_po Z p0 en0 en1 en2 h0 n0 s) (s₁.setTop (mkF m 17 #[.val (.int p0), .val (.int ((p0 &&& (2147483647 : Int32)) % (3 : Int32)))] [(.int (1 : Int32)), (.int ((p0 &&& (2147483647 : Int32)) % (3 : Int32)))]))
    by_cases hc17_3 : ((p0 &&& (2147483647 : Int32)) % (3 : Int32)) = (1 : Int32)
    · skip
      refine own_go (fun t k => XS.icmpNo X0.here hx rfl (hb hby dpo_17) rfl (teq hc17_3).2 k) ?_
      show own_G p e below (K_po Z p0 en0 en1 en2 h0 n0 s) (s₁.setTop (mkF m 20 #[.val (.int p0), .val (.int ((p0 &&& (2147483647 : Int32)) % (3 : Int32)))] []))
      obtain ⟨T4, X4, e4, st4⟩ := getS2 X0 hx hZ hown (host := "") (Or.inl (hw _ (List.mem_of_getElem? (i := 46) rfl))) Via.refl e0 S1_ (g := (mkF m 20 #[.val (.int p0), .val (.int ((p0 &&& (2147483647 : Int32)) % (3 : Int32)))] [])) rfl (hb hby dpo_20)
      refine own_go st4 ?_
      show own_G p e below (K_po Z p0 en0 en1 en2 h0 n0 s) (T4.setTop (mkF m 23 #[.val (.int p0), .val (.int ((p0 &&& (2147483647 : Int32)) % (3 : Int32)))] [(.ref en1)]))
      exact own_retR X4 hx Bd.notSynchronized Bd.returns rfl rfl (hb hby dpo_23) (fun U hU hV hF => ⟨_, _, rfl, ⟨by simp [own_pl, hc8_1, hc17_3], N0, hU.trans e4⟩, hF.1, hF.2.1, hF.2.2.mono (by decide) (by decide)⟩)
    · skip
      refine own_go (fun t k => XS.icmpYes X0.here hx rfl (pc0 := 17) (pc' := 24) rfl (hb hby dpo_17) rfl (feq hc17_3).2 (by decide) (by decide) k) ?_
      show own_G p e below (K_po Z p0 en0 en1 en2 h0 n0 s) (s₁.setTop (mkF m 24 #[.val (.int p0), .val (.int ((p0 &&& (2147483647 : Int32)) % (3 : Int32)))] []))
      obtain ⟨T5, X5, e5, st5⟩ := getS2 X0 hx hZ hown (host := "") (Or.inl (hw _ (List.mem_of_getElem? (i := 44) rfl))) Via.refl e0 S2_ (g := (mkF m 24 #[.val (.int p0), .val (.int ((p0 &&& (2147483647 : Int32)) % (3 : Int32)))] [])) rfl (hb hby dpo_24)
      refine own_go st5 ?_
      show own_G p e below (K_po Z p0 en0 en1 en2 h0 n0 s) (T5.setTop (mkF m 27 #[.val (.int p0), .val (.int ((p0 &&& (2147483647 : Int32)) % (3 : Int32)))] [(.ref en2)]))
      exact own_retR X5 hx Bd.notSynchronized Bd.returns rfl rfl (hb hby dpo_27) (fun U hU hV hF => ⟨_, _, rfl, ⟨by simp [own_pl, hc8_1, hc17_3], N0, hU.trans e5⟩, hF.1, hF.2.1, hF.2.2.mono (by decide) (by decide)⟩)
theorem dsim_0 : decode prog_30_method_1_code 0 = .ok (.aload_n 0, 1) := by decide +kernel
theorem dsim_1 : decode prog_30_method_1_code 1 = .ok (.invokespecial 1, 3) := by decide +kernel
theorem dsim_4 : decode prog_30_method_1_code 4 = .ok (.aload_n 0, 1) := by decide +kernel
theorem dsim_5 : decode prog_30_method_1_code 5 = .ok (.aload_n 1, 1) := by decide +kernel
theorem dsim_6 : decode prog_30_method_1_code 6 = .ok (.invokevirtual 7, 3) := by decide +kernel
theorem dsim_9 : decode prog_30_method_1_code 9 = .ok (.checkcast 8, 3) := by decide +kernel
theorem dsim_12 : decode prog_30_method_1_code 12 = .ok (.putfield 13, 3) := by decide +kernel
theorem dsim_15 : decode prog_30_method_1_code 15 = .ok (.aload_n 0, 1) := by decide +kernel
theorem dsim_16 : decode prog_30_method_1_code 16 = .ok (.iload_n 2, 1) := by decide +kernel
theorem dsim_17 : decode prog_30_method_1_code 17 = .ok (.putfield 18, 3) := by decide +kernel
theorem dsim_20 : decode prog_30_method_1_code 20 = .ok (.aload_n 0, 1) := by decide +kernel
theorem dsim_21 : decode prog_30_method_1_code 21 = .ok (.iload_n 3, 1) := by decide +kernel
theorem dsim_22 : decode prog_30_method_1_code 22 = .ok (.putfield 22, 3) := by decide +kernel
theorem dsim_25 : decode prog_30_method_1_code 25 = .ok (.aload_n 0, 1) := by decide +kernel
theorem dsim_26 : decode prog_30_method_1_code 26 = .ok (.iload 4, 2) := by decide +kernel
theorem dsim_28 : decode prog_30_method_1_code 28 = .ok (.putfield 25, 3) := by decide +kernel
theorem dsim_31 : decode prog_30_method_1_code 31 = .ok (.aload_n 0, 1) := by decide +kernel
theorem dsim_32 : decode prog_30_method_1_code 32 = .ok (.aload 5, 2) := by decide +kernel
theorem dsim_34 : decode prog_30_method_1_code 34 = .ok (.putfield 28, 3) := by decide +kernel
theorem dsim_37 : decode prog_30_method_1_code 37 = .ok (.aload_n 0, 1) := by decide +kernel
theorem dsim_38 : decode prog_30_method_1_code 38 = .ok (.iload 6, 2) := by decide +kernel
theorem dsim_40 : decode prog_30_method_1_code 40 = .ok (.putfield 32, 3) := by decide +kernel
theorem dsim_43 : decode prog_30_method_1_code 43 = .ok (.return_, 1) := by decide +kernel
theorem own_pn1 : plainName "com/example/tidelog/tidelog/Simulation" = true := by first | (simp [plainName, overriddenIn]; done) | decide +kernel
theorem efsim (m : MethodId) (a1 : Addr) (a2 : Addr) (p3 : Int32) (p4 : Int32) (p5 : Int32) (a6 : Addr) (p7 : Int32) : entryFrame m #[(.ref a1), (.ref a2), (.int p3), (.int p4), (.int p5), (.ref a6), (.int p7)] 7 = mkF m 0 #[.val (.ref a1), .val (.ref a2), .val (.int p3), .val (.int p4), .val (.int p5), .val (.ref a6), .val (.int p7)] [] := by first | (simp [entryFrame, mkF, argsToLocals, Value.category]; done) | rfl
def Q_sim (Z : State) (a1 : Addr) (a2 : Addr) (p3 : Int32) (p4 : Int32) (p5 : Int32) (a6 : Addr) (p7 : Int32) (kA : ClassId) (dx : UInt64) (h0 : Heap) (n0 : Nat) (v : Option Value) (h : Heap) (L : List Loc) : Prop := v = none ∧ Fr n0 L ∧ Keep h0 h [a1] ∧ Exa Z h a1 "com/example/tidelog/tidelog/Simulation" ∧ Fld Z h a1 "com/example/tidelog/tidelog/Simulation" "slots" "I" (.int p3) ∧ Fld Z h a1 "com/example/tidelog/tidelog/Simulation" "slotSeconds" "I" (.int p4) ∧ Fld Z h a1 "com/example/tidelog/tidelog/Simulation" "updatesPerSlot" "I" (.int p5) ∧ Fld Z h a1 "com/example/tidelog/tidelog/Simulation" "policy" "Lcom/example/tidelog/tidelog/Simulation$Policy;" (.ref a6) ∧ Fld Z h a1 "com/example/tidelog/tidelog/Simulation" "quorum" "I" (.int p7)
def K_sim (Z : State) (a1 : Addr) (a2 : Addr) (p3 : Int32) (p4 : Int32) (p5 : Int32) (a6 : Addr) (p7 : Int32) (kA : ClassId) (dx : UInt64) (h0 : Heap) (n0 : Nat) (s : State) (o : Outcome) (U' : State) : Prop := ∃ v L, o = .returned v ∧ Q_sim Z a1 a2 p3 p4 p5 a6 p7 kA dx h0 n0 v U'.heap L ∧ FrameEnd s o U' L 1 1
set_option maxRecDepth 65536 in
set_option maxHeartbeats 40000000 in
theorem rm_sim (l : Launch) (Z : State) (a0 : Array Value) (hw : ∀ d ∈ tables_1, d.before a0 Z = true) (ws : List Jvm.Cond) (a1 : Addr) (a2 : Addr) (p3 : Int32) (p4 : Int32) (p5 : Int32) (a6 : Addr) (p7 : Int32) (kA : ClassId) (dx : UInt64) (h0 : Heap) (n0 : Nat) (Z0 : n0 ≤ h0.size) (F0_ : Fld Z h0 a1 "com/example/tidelog/tidelog/Simulation" "probabilities" "[D" .null) (F1_ : Fld Z h0 a1 "com/example/tidelog/tidelog/Simulation" "slots" "I" (.int (0 : Int32))) (F2_ : Fld Z h0 a1 "com/example/tidelog/tidelog/Simulation" "slotSeconds" "I" (.int (0 : Int32))) (F3_ : Fld Z h0 a1 "com/example/tidelog/tidelog/Simulation" "updatesPerSlot" "I" (.int (0 : Int32))) (F4_ : Fld Z h0 a1 "com/example/tidelog/tidelog/Simulation" "policy" "Lcom/example/tidelog/tidelog/Simulation$Policy;" .null) (F5_ : Fld Z h0 a1 "com/example/tidelog/tidelog/Simulation" "quorum" "I" (.int (0 : Int32))) (E_a1 : Exa Z h0 a1 "com/example/tidelog/tidelog/Simulation") (g_a1 : n0 ≤ a1) (V2_ : Arv Z h0 a2 kA .double (1 : Int32) [(.double dx)] (.double 0)) (E2_ : Exa Z h0 a2 "[D") (ne12 : a1 ≠ a2) :
    MetFree l (⟨"com/example/tidelog/tidelog/Simulation", "<init>", "([DIIILcom/example/tidelog/tidelog/Simulation$Policy;I)V"⟩ : MethodName) (head1 (Jvm.Cond.code (⟨"com/example/tidelog/tidelog/Simulation", "<init>", "([DIIILcom/example/tidelog/tidelog/Simulation$Policy;I)V"⟩ : MethodName) prog_30_method_1_code 7 none :: ws) ({ frames := 1, cells := 1, slots := 1, locals := 15 } : Room)) (fun a U => a = #[(.ref a1), (.ref a2), (.int p3), (.int p4), (.int p5), (.ref a6), (.int p7)] ∧ Z.Warmed39 U.vm ∧ U.heap = h0) (fun _ _ _ _ _ => True) (fun _ U o U' => ∃ v L, o = .returned v ∧ Q_sim Z a1 a2 p3 p4 p5 a6 p7 kA dx h0 n0 v U'.heap L ∧ FrameEnd U o U' L ({ frames := 1, cells := 1, slots := 1, locals := 15 } : Room).cells ({ frames := 1, cells := 1, slots := 1, locals := 15 } : Room).slots) := by
  refine MetFree.of_bodySF (plainFor_of_name own_pn1) hisR ?_
  intro p e s m args below meth c s₁ Bd hml0 hP hK
  obtain ⟨rfl, hZ, hh⟩ := hP
  have hx := Bd.exec
  have hby := Bd.bytes
  have hml : c.maxLocals = 7 := hml0
  have hown : s.vm.findClass "com/example/tidelog/tidelog/Simulation" = some m.cls := findClass_of_methodNamed Bd.named
  have hnm := (name_of_methodNamed Bd.named Bd.method).1
  have X0 : Stand p l e ({ frames := 1, cells := 1, slots := 1, locals := 15 } : Room) s m #[(.ref a1), (.ref a2), (.int p3), (.int p4), (.int p5), (.ref a6), (.int p7)] below meth c s₁ [] 0 0 := Stand.of_body Bd
  have e0 : s₁.heap = h0 := by rw [← hh, Bd.state]; rfl
  have N0 := Fr.nil n0
  show own_G p e below (K_sim Z a1 a2 p3 p4 p5 a6 p7 kA dx h0 n0 s) (s₁.setTop (entryFrame m #[(.ref a1), (.ref a2), (.int p3), (.int p4), (.int p5), (.ref a6), (.int p7)] 7))
  refine own_cast (efsim m a1 a2 p3 p4 p5 a6 p7) ?_
  show own_G p e below (K_sim Z a1 a2 p3 p4 p5 a6 p7 kA dx h0 n0 s) (s₁.setTop (mkF m 0 #[.val (.ref a1), .val (.ref a2), .val (.int p3), .val (.int p4), .val (.int p5), .val (.ref a6), .val (.int p7)] []))
  refine own_go (fun t k => XS.aloadN X0.here hx rfl (hb hby dsim_0) rfl rfl k) ?_
  show own_G p e below (K_sim Z a1 a2 p3 p4 p5 a6 p7 kA dx h0 n0 s) (s₁.setTop (mkF m 1 #[.val (.ref a1), .val (.ref a2), .val (.int p3), .val (.int p4), .val (.int p5), .val (.ref a6), .val (.int p7)] [(.ref a1)]))
  obtain ⟨T1, X1, e1, st1⟩ := initO X0 hx hZ hown (hw _ (List.mem_of_getElem? (i := 15) rfl)) (hw _ (List.mem_of_getElem? (i := 16) rfl)) (hw _ (List.mem_of_getElem? (i := 17) rfl)) e0 (g := (mkF m 1 #[.val (.ref a1), .val (.ref a2), .val (.int p3), .val (.int p4), .val (.int p5), .val (.ref a6), .val (.int p7)] [(.ref a1)])) rfl (by rw [hml]; rfl) rfl (hb hby dsim_1) (by decide) (W := 0) (by show 2 * 0 + _ ≤ _; exact Nat.le_of_eq rfl) (by decide)
  refine own_go st1 ?_
  show own_G p e below (K_sim Z a1 a2 p3 p4 p5 a6 p7 kA dx h0 n0 s) (T1.setTop (mkF m 4 #[.val (.ref a1), .val (.ref a2), .val (.int p3), .val (.int p4), .val (.int p5), .val (.ref a6), .val (.int p7)] []))
  refine own_go (fun t k => XS.aloadN X1.here hx rfl (hb hby dsim_4) rfl rfl k) ?_
  show own_G p e below (K_sim Z a1 a2 p3 p4 p5 a6 p7 kA dx h0 n0 s) (T1.setTop (mkF m 5 #[.val (.ref a1), .val (.ref a2), .val (.int p3), .val (.int p4), .val (.int p5), .val (.ref a6), .val (.int p7)] [(.ref a1)]))
  refine own_go (fun t k => XS.aloadN X1.here hx rfl (hb hby dsim_5) rfl rfl k) ?_
  show own_G p e below (K_sim Z a1 a2 p3 p4 p5 a6 p7 kA dx h0 n0 s) (T1.setTop (mkF m 6 #[.val (.ref a1), .val (.ref a2), .val (.int p3), .val (.int p4), .val (.int p5), .val (.ref a6), .val (.int p7)] [(.ref a2), (.ref a1)]))
  obtain ⟨T2, h2, X2, e2, E2, A2, B2, st2⟩ := cloneH X1 hx hZ hown (hw _ (List.mem_of_getElem? (i := 18) rfl)) (hw _ (List.mem_of_getElem? (i := 19) rfl)) (hw _ (List.mem_of_getElem? (i := 23) rfl)) (hw _ (List.mem_of_getElem? (i := 21) rfl)) (hw _ (List.mem_of_getElem? (i := 22) rfl)) (hw _ (List.mem_of_getElem? (i := 24) rfl)) e1 (Arv.arh V2_) E2_ (g := (mkF m 6 #[.val (.ref a1), .val (.ref a2), .val (.int p3), .val (.int p4), .val (.int p5), .val (.ref a6), .val (.int p7)] [(.ref a2), (.ref a1)])) rfl (by rw [hml]; rfl) rfl (hb hby dsim_6) (by decide) (W := 1) (cap := 1) (by show 2 * 0 + _ ≤ _; exact Nat.le_of_eq rfl) (by decide) (by decide) (by decide) (by decide)
  obtain ⟨b2, g2⟩ : ∃ z, z = h0.size := ⟨_, rfl⟩
  rw [← g2] at A2 B2 st2
  refine own_go st2 ?_
  have g_b2 : n0 ≤ b2 := Nat.le_trans Z0 (Nat.le_of_eq g2.symm)
  have V2 : Arv Z h2 b2 kA .double (1 : Int32) [(.double dx)] (.double 0) := A2
  have Z3 : n0 ≤ h2.size := Nat.le_trans Z0 E2.1
  have sz_b2 : h0.size ≤ b2 := Nat.le_trans (Keep.refl h0 [a1]).1 (Nat.le_of_eq g2.symm)
  have K4 := Keep.ext (Keep.refl h0 [a1]) E2
  show own_G p e below (K_sim Z a1 a2 p3 p4 p5 a6 p7 kA dx h0 n0 s) (T2.setTop (mkF m 9 #[.val (.ref a1), .val (.ref a2), .val (.int p3), .val (.int p4), .val (.int p5), .val (.ref a6), .val (.int p7)] [(.ref b2), (.ref a1)]))
  obtain ⟨T5, X5, e5, st5⟩ := castY X2 hx hZ hown (hw _ (List.mem_of_getElem? (i := 25) rfl)) e2 (Ins.self B2) (g := (mkF m 9 #[.val (.ref a1), .val (.ref a2), .val (.int p3), .val (.int p4), .val (.int p5), .val (.ref a6), .val (.int p7)] [(.ref b2), (.ref a1)])) rfl rfl (hb hby dsim_9)
  refine own_go st5 ?_
  show own_G p e below (K_sim Z a1 a2 p3 p4 p5 a6 p7 kA dx h0 n0 s) (T5.setTop (mkF m 12 #[.val (.ref a1), .val (.ref a2), .val (.int p3), .val (.int p4), .val (.int p5), .val (.ref a6), .val (.int p7)] [(.ref b2), (.ref a1)]))
  have Q6 := (F0_.ext E2)
  have Q7 := (E_a1.ext E2)
  obtain ⟨T8, h8, X8, e8, W8, st8⟩ := putF X5 hx hZ hown (host := "") (Or.inl (hw _ (List.mem_of_getElem? (i := 27) rfl))) Via.refl e5 Q6 Q7 (Or.inr ⟨(hw _ (List.mem_of_getElem? (i := 28) rfl)), rfl, hnm⟩) (hw _ (List.mem_of_getElem? (i := 2) rfl)) (ty := (.array .double)) (by decide) rfl rfl (g := (mkF m 12 #[.val (.ref a1), .val (.ref a2), .val (.int p3), .val (.int p4), .val (.int p5), .val (.ref a6), .val (.int p7)] [(.ref b2), (.ref a1)])) rfl rfl (hb hby dsim_12)
  refine own_go st8 ?_
  have F8 := Q6.same W8
  have N8 := Fr.snoc X8 N0 g_a1
  have Z9 : n0 ≤ h8.size := Nat.le_trans Z3 (Keep.of_wr W8).1
  have K10 := Keep.wr K4 W8 (Or.inl (List.mem_of_getElem? (i := 0) rfl))
  show own_G p e below (K_sim Z a1 a2 p3 p4 p5 a6 p7 kA dx h0 n0 s) (T8.setTop (mkF m 15 #[.val (.ref a1), .val (.ref a2), .val (.int p3), .val (.int p4), .val (.int p5), .val (.ref a6), .val (.int p7)] []))
  refine own_go (fun t k => XS.aloadN X8.here hx rfl (hb hby dsim_15) rfl rfl k) ?_
  show own_G p e below (K_sim Z a1 a2 p3 p4 p5 a6 p7 kA dx h0 n0 s) (T8.setTop (mkF m 16 #[.val (.ref a1), .val (.ref a2), .val (.int p3), .val (.int p4), .val (.int p5), .val (.ref a6), .val (.int p7)] [(.ref a1)]))
  refine own_go (fun t k => XS.iloadN X8.here hx rfl (hb hby dsim_16) rfl k) ?_
  show own_G p e below (K_sim Z a1 a2 p3 p4 p5 a6 p7 kA dx h0 n0 s) (T8.setTop (mkF m 17 #[.val (.ref a1), .val (.ref a2), .val (.int p3), .val (.int p4), .val (.int p5), .val (.ref a6), .val (.int p7)] [(.int p3), (.ref a1)]))
  have Q11 := ((F1_.ext E2).other W8 (Or.inr (slot_ne (Or.inr (hw _ (List.mem_of_getElem? (i := 30) rfl))) (Or.inr (hw _ (List.mem_of_getElem? (i := 28) rfl))) (by decide) (t := .int) (t' := (.array .double)) (by decide) (by decide))))
  have Q12 := (Q7.wr W8)
  obtain ⟨T13, h13, X13, e13, W13, st13⟩ := putF X8 hx hZ hown (host := "") (Or.inl (hw _ (List.mem_of_getElem? (i := 29) rfl))) Via.refl e8 Q11 Q12 (Or.inr ⟨(hw _ (List.mem_of_getElem? (i := 30) rfl)), rfl, hnm⟩) (hw _ (List.mem_of_getElem? (i := 2) rfl)) (ty := .int) (by decide) rfl rfl (g := (mkF m 17 #[.val (.ref a1), .val (.ref a2), .val (.int p3), .val (.int p4), .val (.int p5), .val (.ref a6), .val (.int p7)] [(.int p3), (.ref a1)])) rfl rfl (hb hby dsim_17)
  refine own_go st13 ?_
  have F13 := Q11.same W13
  have N13 := Fr.snoc X13 N8 g_a1
  have Z14 : n0 ≤ h13.size := Nat.le_trans Z9 (Keep.of_wr W13).1
  have K15 := Keep.wr K10 W13 (Or.inl (List.mem_of_getElem? (i := 0) rfl))
  show own_G p e below (K_sim Z a1 a2 p3 p4 p5 a6 p7 kA dx h0 n0 s) (T13.setTop (mkF m 20 #[.val (.ref a1), .val (.ref a2), .val (.int p3), .val (.int p4), .val (.int p5), .val (.ref a6), .val (.int p7)] []))
  refine own_go (fun t k => XS.aloadN X13.here hx rfl (hb hby dsim_20) rfl rfl k) ?_
  show own_G p e below (K_sim Z a1 a2 p3 p4 p5 a6 p7 kA dx h0 n0 s) (T13.setTop (mkF m 21 #[.val (.ref a1), .val (.ref a2), .val (.int p3), .val (.int p4), .val (.int p5), .val (.ref a6), .val (.int p7)] [(.ref a1)]))
  refine own_go (fun t k => XS.iloadN X13.here hx rfl (hb hby dsim_21) rfl k) ?_
  show own_G p e below (K_sim Z a1 a2 p3 p4 p5 a6 p7 kA dx h0 n0 s) (T13.setTop (mkF m 22 #[.val (.ref a1), .val (.ref a2), .val (.int p3), .val (.int p4), .val (.int p5), .val (.ref a6), .val (.int p7)] [(.int p4), (.ref a1)]))
  have Q16 := (((F2_.ext E2).other W8 (Or.inr (slot_ne (Or.inr (hw _ (List.mem_of_getElem? (i := 32) rfl))) (Or.inr (hw _ (List.mem_of_getElem? (i := 28) rfl))) (by decide) (t := .int) (t' := (.array .double)) (by decide) (by decide)))).other W13 (Or.inr (slot_ne (Or.inr (hw _ (List.mem_of_getElem? (i := 32) rfl))) (Or.inr (hw _ (List.mem_of_getElem? (i := 30) rfl))) (by decide) (t := .int) (t' := .int) (by decide) (by decide))))
  have Q17 := (Q12.wr W13)
  obtain ⟨T18, h18, X18, e18, W18, st18⟩ := putF X13 hx hZ hown (host := "") (Or.inl (hw _ (List.mem_of_getElem? (i := 31) rfl))) Via.refl e13 Q16 Q17 (Or.inr ⟨(hw _ (List.mem_of_getElem? (i := 32) rfl)), rfl, hnm⟩) (hw _ (List.mem_of_getElem? (i := 2) rfl)) (ty := .int) (by decide) rfl rfl (g := (mkF m 22 #[.val (.ref a1), .val (.ref a2), .val (.int p3), .val (.int p4), .val (.int p5), .val (.ref a6), .val (.int p7)] [(.int p4), (.ref a1)])) rfl rfl (hb hby dsim_22)
  refine own_go st18 ?_
  have F18 := Q16.same W18
  have N18 := Fr.snoc X18 N13 g_a1
  have Z19 : n0 ≤ h18.size := Nat.le_trans Z14 (Keep.of_wr W18).1
  have K20 := Keep.wr K15 W18 (Or.inl (List.mem_of_getElem? (i := 0) rfl))
  show own_G p e below (K_sim Z a1 a2 p3 p4 p5 a6 p7 kA dx h0 n0 s) (T18.setTop (mkF m 25 #[.val (.ref a1), .val (.ref a2), .val (.int p3), .val (.int p4), .val (.int p5), .val (.ref a6), .val (.int p7)] []))
  refine own_go (fun t k => XS.aloadN X18.here hx rfl (hb hby dsim_25) rfl rfl k) ?_
  show own_G p e below (K_sim Z a1 a2 p3 p4 p5 a6 p7 kA dx h0 n0 s) (T18.setTop (mkF m 26 #[.val (.ref a1), .val (.ref a2), .val (.int p3), .val (.int p4), .val (.int p5), .val (.ref a6), .val (.int p7)] [(.ref a1)]))
  refine own_go (fun t k => XS.iload X18.here hx rfl (hb hby dsim_26) rfl k) ?_
  show own_G p e below (K_sim Z a1 a2 p3 p4 p5 a6 p7 kA dx h0 n0 s) (T18.setTop (mkF m 28 #[.val (.ref a1), .val (.ref a2), .val (.int p3), .val (.int p4), .val (.int p5), .val (.ref a6), .val (.int p7)] [(.int p5), (.ref a1)]))
  have Q21 := ((((F3_.ext E2).other W8 (Or.inr (slot_ne (Or.inr (hw _ (List.mem_of_getElem? (i := 34) rfl))) (Or.inr (hw _ (List.mem_of_getElem? (i := 28) rfl))) (by decide) (t := .int) (t' := (.array .double)) (by decide) (by decide)))).other W13 (Or.inr (slot_ne (Or.inr (hw _ (List.mem_of_getElem? (i := 34) rfl))) (Or.inr (hw _ (List.mem_of_getElem? (i := 30) rfl))) (by decide) (t := .int) (t' := .int) (by decide) (by decide)))).other W18 (Or.inr (slot_ne (Or.inr (hw _ (List.mem_of_getElem? (i := 34) rfl))) (Or.inr (hw _ (List.mem_of_getElem? (i := 32) rfl))) (by decide) (t := .int) (t' := .int) (by decide) (by decide))))
  have Q22 := (Q17.wr W18)
  obtain ⟨T23, h23, X23, e23, W23, st23⟩ := putF X18 hx hZ hown (host := "") (Or.inl (hw _ (List.mem_of_getElem? (i := 33) rfl))) Via.refl e18 Q21 Q22 (Or.inr ⟨(hw _ (List.mem_of_getElem? (i := 34) rfl)), rfl, hnm⟩) (hw _ (List.mem_of_getElem? (i := 2) rfl)) (ty := .int) (by decide) rfl rfl (g := (mkF m 28 #[.val (.ref a1), .val (.ref a2), .val (.int p3), .val (.int p4), .val (.int p5), .val (.ref a6), .val (.int p7)] [(.int p5), (.ref a1)])) rfl rfl (hb hby dsim_28)
  refine own_go st23 ?_
  have F23 := Q21.same W23
  have N23 := Fr.snoc X23 N18 g_a1
  have Z24 : n0 ≤ h23.size := Nat.le_trans Z19 (Keep.of_wr W23).1
  have K25 := Keep.wr K20 W23 (Or.inl (List.mem_of_getElem? (i := 0) rfl))
  show own_G p e below (K_sim Z a1 a2 p3 p4 p5 a6 p7 kA dx h0 n0 s) (T23.setTop (mkF m 31 #[.val (.ref a1), .val (.ref a2), .val (.int p3), .val (.int p4), .val (.int p5), .val (.ref a6), .val (.int p7)] []))
  refine own_go (fun t k => XS.aloadN X23.here hx rfl (hb hby dsim_31) rfl rfl k) ?_
  show own_G p e below (K_sim Z a1 a2 p3 p4 p5 a6 p7 kA dx h0 n0 s) (T23.setTop (mkF m 32 #[.val (.ref a1), .val (.ref a2), .val (.int p3), .val (.int p4), .val (.int p5), .val (.ref a6), .val (.int p7)] [(.ref a1)]))
  refine own_go (fun t k => XS.aload X23.here hx rfl (hb hby dsim_32) rfl rfl k) ?_
  show own_G p e below (K_sim Z a1 a2 p3 p4 p5 a6 p7 kA dx h0 n0 s) (T23.setTop (mkF m 34 #[.val (.ref a1), .val (.ref a2), .val (.int p3), .val (.int p4), .val (.int p5), .val (.ref a6), .val (.int p7)] [(.ref a6), (.ref a1)]))
  have Q26 := (((((F4_.ext E2).other W8 (Or.inr (slot_ne (Or.inr (hw _ (List.mem_of_getElem? (i := 36) rfl))) (Or.inr (hw _ (List.mem_of_getElem? (i := 28) rfl))) (by decide) (t := (.object "com/example/tidelog/tidelog/Simulation$Policy")) (t' := (.array .double)) (by decide) (by decide)))).other W13 (Or.inr (slot_ne (Or.inr (hw _ (List.mem_of_getElem? (i := 36) rfl))) (Or.inr (hw _ (List.mem_of_getElem? (i := 30) rfl))) (by decide) (t := (.object "com/example/tidelog/tidelog/Simulation$Policy")) (t' := .int) (by decide) (by decide)))).other W18 (Or.inr (slot_ne (Or.inr (hw _ (List.mem_of_getElem? (i := 36) rfl))) (Or.inr (hw _ (List.mem_of_getElem? (i := 32) rfl))) (by decide) (t := (.object "com/example/tidelog/tidelog/Simulation$Policy")) (t' := .int) (by decide) (by decide)))).other W23 (Or.inr (slot_ne (Or.inr (hw _ (List.mem_of_getElem? (i := 36) rfl))) (Or.inr (hw _ (List.mem_of_getElem? (i := 34) rfl))) (by decide) (t := (.object "com/example/tidelog/tidelog/Simulation$Policy")) (t' := .int) (by decide) (by decide))))
  have Q27 := (Q22.wr W23)
  obtain ⟨T28, h28, X28, e28, W28, st28⟩ := putF X23 hx hZ hown (host := "") (Or.inl (hw _ (List.mem_of_getElem? (i := 35) rfl))) Via.refl e23 Q26 Q27 (Or.inr ⟨(hw _ (List.mem_of_getElem? (i := 36) rfl)), rfl, hnm⟩) (hw _ (List.mem_of_getElem? (i := 2) rfl)) (ty := (.object "com/example/tidelog/tidelog/Simulation$Policy")) (by decide) rfl rfl (g := (mkF m 34 #[.val (.ref a1), .val (.ref a2), .val (.int p3), .val (.int p4), .val (.int p5), .val (.ref a6), .val (.int p7)] [(.ref a6), (.ref a1)])) rfl rfl (hb hby dsim_34)
  refine own_go st28 ?_
  have F28 := Q26.same W28
  have N28 := Fr.snoc X28 N23 g_a1
  have Z29 : n0 ≤ h28.size := Nat.le_trans Z24 (Keep.of_wr W28).1
  have K30 := Keep.wr K25 W28 (Or.inl (List.mem_of_getElem? (i := 0) rfl))
  show own_G p e below (K_sim Z a1 a2 p3 p4 p5 a6 p7 kA dx h0 n0 s) (T28.setTop (mkF m 37 #[.val (.ref a1), .val (.ref a2), .val (.int p3), .val (.int p4), .val (.int p5), .val (.ref a6), .val (.int p7)] []))
  refine own_go (fun t k => XS.aloadN X28.here hx rfl (hb hby dsim_37) rfl rfl k) ?_
  show own_G p e below (K_sim Z a1 a2 p3 p4 p5 a6 p7 kA dx h0 n0 s) (T28.setTop (mkF m 38 #[.val (.ref a1), .val (.ref a2), .val (.int p3), .val (.int p4), .val (.int p5), .val (.ref a6), .val (.int p7)] [(.ref a1)]))
  refine own_go (fun t k => XS.iload X28.here hx rfl (hb hby dsim_38) rfl k) ?_
  show own_G p e below (K_sim Z a1 a2 p3 p4 p5 a6 p7 kA dx h0 n0 s) (T28.setTop (mkF m 40 #[.val (.ref a1), .val (.ref a2), .val (.int p3), .val (.int p4), .val (.int p5), .val (.ref a6), .val (.int p7)] [(.int p7), (.ref a1)]))
  have Q31 := ((((((F5_.ext E2).other W8 (Or.inr (slot_ne (Or.inr (hw _ (List.mem_of_getElem? (i := 38) rfl))) (Or.inr (hw _ (List.mem_of_getElem? (i := 28) rfl))) (by decide) (t := .int) (t' := (.array .double)) (by decide) (by decide)))).other W13 (Or.inr (slot_ne (Or.inr (hw _ (List.mem_of_getElem? (i := 38) rfl))) (Or.inr (hw _ (List.mem_of_getElem? (i := 30) rfl))) (by decide) (t := .int) (t' := .int) (by decide) (by decide)))).other W18 (Or.inr (slot_ne (Or.inr (hw _ (List.mem_of_getElem? (i := 38) rfl))) (Or.inr (hw _ (List.mem_of_getElem? (i := 32) rfl))) (by decide) (t := .int) (t' := .int) (by decide) (by decide)))).other W23 (Or.inr (slot_ne (Or.inr (hw _ (List.mem_of_getElem? (i := 38) rfl))) (Or.inr (hw _ (List.mem_of_getElem? (i := 34) rfl))) (by decide) (t := .int) (t' := .int) (by decide) (by decide)))).other W28 (Or.inr (slot_ne (Or.inr (hw _ (List.mem_of_getElem? (i := 38) rfl))) (Or.inr (hw _ (List.mem_of_getElem? (i := 36) rfl))) (by decide) (t := .int) (t' := (.object "com/example/tidelog/tidelog/Simulation$Policy")) (by decide) (by decide))))
  have Q32 := (Q27.wr W28)
  obtain ⟨T33, h33, X33, e33, W33, st33⟩ := putF X28 hx hZ hown (host := "") (Or.inl (hw _ (List.mem_of_getElem? (i := 37) rfl))) Via.refl e28 Q31 Q32 (Or.inr ⟨(hw _ (List.mem_of_getElem? (i := 38) rfl)), rfl, hnm⟩) (hw _ (List.mem_of_getElem? (i := 2) rfl)) (ty := .int) (by decide) rfl rfl (g := (mkF m 40 #[.val (.ref a1), .val (.ref a2), .val (.int p3), .val (.int p4), .val (.int p5), .val (.ref a6), .val (.int p7)] [(.int p7), (.ref a1)])) rfl rfl (hb hby dsim_40)
  refine own_go st33 ?_
  have F33 := Q31.same W33
  have N33 := Fr.snoc X33 N28 g_a1
  have Z34 : n0 ≤ h33.size := Nat.le_trans Z29 (Keep.of_wr W33).1
  have K35 := Keep.wr K30 W33 (Or.inl (List.mem_of_getElem? (i := 0) rfl))
  show own_G p e below (K_sim Z a1 a2 p3 p4 p5 a6 p7 kA dx h0 n0 s) (T33.setTop (mkF m 43 #[.val (.ref a1), .val (.ref a2), .val (.int p3), .val (.int p4), .val (.int p5), .val (.ref a6), .val (.int p7)] []))
  have Q36 := (Q32.wr W33)
  have Q37 := ((((F13.other W18 (Or.inr (slot_ne (Or.inr (hw _ (List.mem_of_getElem? (i := 30) rfl))) (Or.inr (hw _ (List.mem_of_getElem? (i := 32) rfl))) (by decide) (t := .int) (t' := .int) (by decide) (by decide)))).other W23 (Or.inr (slot_ne (Or.inr (hw _ (List.mem_of_getElem? (i := 30) rfl))) (Or.inr (hw _ (List.mem_of_getElem? (i := 34) rfl))) (by decide) (t := .int) (t' := .int) (by decide) (by decide)))).other W28 (Or.inr (slot_ne (Or.inr (hw _ (List.mem_of_getElem? (i := 30) rfl))) (Or.inr (hw _ (List.mem_of_getElem? (i := 36) rfl))) (by decide) (t := .int) (t' := (.object "com/example/tidelog/tidelog/Simulation$Policy")) (by decide) (by decide)))).other W33 (Or.inr (slot_ne (Or.inr (hw _ (List.mem_of_getElem? (i := 30) rfl))) (Or.inr (hw _ (List.mem_of_getElem? (i := 38) rfl))) (by decide) (t := .int) (t' := .int) (by decide) (by decide))))
  have Q38 := (((F18.other W23 (Or.inr (slot_ne (Or.inr (hw _ (List.mem_of_getElem? (i := 32) rfl))) (Or.inr (hw _ (List.mem_of_getElem? (i := 34) rfl))) (by decide) (t := .int) (t' := .int) (by decide) (by decide)))).other W28 (Or.inr (slot_ne (Or.inr (hw _ (List.mem_of_getElem? (i := 32) rfl))) (Or.inr (hw _ (List.mem_of_getElem? (i := 36) rfl))) (by decide) (t := .int) (t' := (.object "com/example/tidelog/tidelog/Simulation$Policy")) (by decide) (by decide)))).other W33 (Or.inr (slot_ne (Or.inr (hw _ (List.mem_of_getElem? (i := 32) rfl))) (Or.inr (hw _ (List.mem_of_getElem? (i := 38) rfl))) (by decide) (t := .int) (t' := .int) (by decide) (by decide))))
  have Q39 := ((F23.other W28 (Or.inr (slot_ne (Or.inr (hw _ (List.mem_of_getElem? (i := 34) rfl))) (Or.inr (hw _ (List.mem_of_getElem? (i := 36) rfl))) (by decide) (t := .int) (t' := (.object "com/example/tidelog/tidelog/Simulation$Policy")) (by decide) (by decide)))).other W33 (Or.inr (slot_ne (Or.inr (hw _ (List.mem_of_getElem? (i := 34) rfl))) (Or.inr (hw _ (List.mem_of_getElem? (i := 38) rfl))) (by decide) (t := .int) (t' := .int) (by decide) (by decide))))
  have Q40 := (F28.other W33 (Or.inr (slot_ne (Or.inr (hw _ (List.mem_of_getElem? (i := 36) rfl))) (Or.inr (hw _ (List.mem_of_getElem? (i := 38) rfl))) (by decide) (t := (.object "com/example/tidelog/tidelog/Simulation$Policy")) (t' := .int) (by decide) (by decide))))
  exact own_retV X33 hx Bd.notSynchronized Bd.returns (hb hby dsim_43) (fun U hU hV hF => ⟨_, _, rfl, (by rw [hU, e33]; exact ⟨rfl, N33, K35, Q36, Q37, Q38, Q39, Q40, F33⟩), hF.1, hF.2.1, hF.2.2.mono (by decide) (by decide)⟩)
theorem dup_0 : decode prog_30_method_2_code 0 = .ok (.aload_n 0, 1) := by decide +kernel
theorem dup_1 : decode prog_30_method_2_code 1 = .ok (.getfield 18, 3) := by decide +kernel
theorem dup_4 : decode prog_30_method_2_code 4 = .ok (.i2l, 1) := by decide +kernel
theorem dup_5 : decode prog_30_method_2_code 5 = .ok (.aload_n 0, 1) := by decide +kernel
theorem dup_6 : decode prog_30_method_2_code 6 = .ok (.getfield 25, 3) := by decide +kernel
theorem dup_9 : decode prog_30_method_2_code 9 = .ok (.i2l, 1) := by decide +kernel
theorem dup_10 : decode prog_30_method_2_code 10 = .ok (.lmul, 1) := by decide +kernel
theorem dup_11 : decode prog_30_method_2_code 11 = .ok (.lreturn, 1) := by decide +kernel
theorem efup (m : MethodId) (a1 : Addr) : entryFrame m #[(.ref a1)] 1 = mkF m 0 #[.val (.ref a1)] [] := by first | (simp [entryFrame, mkF, argsToLocals, Value.category]; done) | rfl
def Q_up (Z : State) (a1 : Addr) (b1 b2 : Int32) (h0 : Heap) (n0 : Nat) (v : Option Value) (h : Heap) (L : List Loc) : Prop := v = some (.long (b1.toInt64 * b2.toInt64)) ∧ Fr n0 L ∧ h = h0
def K_up (Z : State) (a1 : Addr) (b1 b2 : Int32) (h0 : Heap) (n0 : Nat) (s : State) (o : Outcome) (U' : State) : Prop := ∃ v L, o = .returned v ∧ Q_up Z a1 b1 b2 h0 n0 v U'.heap L ∧ FrameEnd s o U' L 0 0
set_option maxRecDepth 65536 in
set_option maxHeartbeats 40000000 in
theorem rm_up (l : Launch) (Z : State) (a0 : Array Value) (hw : ∀ d ∈ tables_1, d.before a0 Z = true) (ws : List Jvm.Cond) (a1 : Addr) (b1 b2 : Int32) (h0 : Heap) (n0 : Nat) (Z0 : n0 ≤ h0.size) (F1 : Fld Z h0 a1 "com/example/tidelog/tidelog/Simulation" "slots" "I" (.int b1)) (F2 : Fld Z h0 a1 "com/example/tidelog/tidelog/Simulation" "updatesPerSlot" "I" (.int b2)) :
    MetFree l (⟨"com/example/tidelog/tidelog/Simulation", "updatesPerRun", "()J"⟩ : MethodName) (head1 (Jvm.Cond.code (⟨"com/example/tidelog/tidelog/Simulation", "updatesPerRun", "()J"⟩ : MethodName) prog_30_method_2_code 1 (some .long) :: ws) ({ frames := 0, cells := 0, slots := 0, locals := 0 } : Room)) (fun a U => a = #[(.ref a1)] ∧ Z.Warmed39 U.vm ∧ U.heap = h0) (fun _ _ _ _ _ => True) (fun _ U o U' => ∃ v L, o = .returned v ∧ Q_up Z a1 b1 b2 h0 n0 v U'.heap L ∧ FrameEnd U o U' L ({ frames := 0, cells := 0, slots := 0, locals := 0 } : Room).cells ({ frames := 0, cells := 0, slots := 0, locals := 0 } : Room).slots) := by
  refine MetFree.of_bodySF (plainFor_of_name own_pn1) hisR ?_
  intro p e s m args below meth c s₁ Bd hml0 hP hK
  obtain ⟨rfl, hZ, hh⟩ := hP
  have hx := Bd.exec
  have hby := Bd.bytes
  have hml : c.maxLocals = 1 := hml0
  have hown : s.vm.findClass "com/example/tidelog/tidelog/Simulation" = some m.cls := findClass_of_methodNamed Bd.named
  have hnm := (name_of_methodNamed Bd.named Bd.method).1
  have X0 : Stand p l e ({ frames := 0, cells := 0, slots := 0, locals := 0 } : Room) s m #[(.ref a1)] below meth c s₁ [] 0 0 := Stand.of_body Bd
  have e0 : s₁.heap = h0 := by rw [← hh, Bd.state]; rfl
  have N0 := Fr.nil n0
  show own_G p e below (K_up Z a1 b1 b2 h0 n0 s) (s₁.setTop (entryFrame m #[(.ref a1)] 1))
  refine own_cast (efup m a1) ?_
  show own_G p e below (K_up Z a1 b1 b2 h0 n0 s) (s₁.setTop (mkF m 0 #[.val (.ref a1)] []))
  refine own_go (fun t k => XS.aloadN X0.here hx rfl (hb hby dup_0) rfl rfl k) ?_
  show own_G p e below (K_up Z a1 b1 b2 h0 n0 s) (s₁.setTop (mkF m 1 #[.val (.ref a1)] [(.ref a1)]))
  obtain ⟨T1, X1, e1, st1⟩ := getF X0 hx hZ hown (host := "") (Or.inl (hw _ (List.mem_of_getElem? (i := 29) rfl))) Via.refl e0 F1 (g := (mkF m 1 #[.val (.ref a1)] [(.ref a1)])) rfl rfl (hb hby dup_1)
  refine own_go st1 ?_
  show own_G p e below (K_up Z a1 b1 b2 h0 n0 s) (T1.setTop (mkF m 4 #[.val (.ref a1)] [(.int b1)]))
  refine own_go (fun t k => XS.i2l X1.here hx rfl (hb hby dup_4) rfl k) ?_
  show own_G p e below (K_up Z a1 b1 b2 h0 n0 s) (T1.setTop (mkF m 5 #[.val (.ref a1)] [(.long (b1.toInt64))]))
  refine own_go (fun t k => XS.aloadN X1.here hx rfl (hb hby dup_5) rfl rfl k) ?_
  show own_G p e below (K_up Z a1 b1 b2 h0 n0 s) (T1.setTop (mkF m 6 #[.val (.ref a1)] [(.ref a1), (.long (b1.toInt64))]))
  obtain ⟨T2, X2, e2, st2⟩ := getF X1 hx hZ hown (host := "") (Or.inl (hw _ (List.mem_of_getElem? (i := 33) rfl))) Via.refl e1 F2 (g := (mkF m 6 #[.val (.ref a1)] [(.ref a1), (.long (b1.toInt64))])) rfl rfl (hb hby dup_6)
  refine own_go st2 ?_
  show own_G p e below (K_up Z a1 b1 b2 h0 n0 s) (T2.setTop (mkF m 9 #[.val (.ref a1)] [(.int b2), (.long (b1.toInt64))]))
  refine own_go (fun t k => XS.i2l X2.here hx rfl (hb hby dup_9) rfl k) ?_
  show own_G p e below (K_up Z a1 b1 b2 h0 n0 s) (T2.setTop (mkF m 10 #[.val (.ref a1)] [(.long (b2.toInt64)), (.long (b1.toInt64))]))
  refine own_go (fun t k => XS.lmul X2.here hx rfl (hb hby dup_10) rfl k) ?_
  show own_G p e below (K_up Z a1 b1 b2 h0 n0 s) (T2.setTop (mkF m 11 #[.val (.ref a1)] [(.long ((b1.toInt64) * (b2.toInt64)))]))
  exact own_retJ X2 hx Bd.notSynchronized Bd.returns (hb hby dup_11) (fun U hU hV hF => ⟨_, _, rfl, ⟨rfl, N0, hU.trans e2⟩, hF.1, hF.2.1, hF.2.2.mono (by decide) (by decide)⟩)
theorem own_pd0 : parseMethodDescriptor "(I)Lcom/example/tidelog/tidelog/Simulation$Policy;" = some ⟨[.int], some (.object "com/example/tidelog/tidelog/Simulation$Policy")⟩ := by decide +kernel
theorem own_pd1 : parseMethodDescriptor "([DIIILcom/example/tidelog/tidelog/Simulation$Policy;I)V" = some ⟨[(.array .double), .int, .int, .int, (.object "com/example/tidelog/tidelog/Simulation$Policy"), .int], none⟩ := by decide +kernel
theorem own_pd2 : parseMethodDescriptor "()J" = some ⟨[], some .long⟩ := by decide +kernel
theorem ef0 (m : MethodId) (p0 : Int32) (p1 : Int32) (p2 : Int32) (p3 : Int32) (p4 : Int32) (p5 : Int32) : entryFrame m #[(.int p0), (.int p1), (.int p2), (.int p3), (.int p4), (.int p5)] maxLocals = mkF m 0 #[.val (.int p0), .val (.int p1), .val (.int p2), .val (.int p3), .val (.int p4), .val (.int p5), .unset, .unset, .unset, .unset, .unset, .unset] [] := by first | (simp [entryFrame, mkF, argsToLocals, Value.category, maxLocals]; done) | rfl
def Q_0 (Z : State) (p0 : Int32) (p1 : Int32) (p2 : Int32) (p3 : Int32) (p4 : Int32) (p5 : Int32) (en0 en1 en2 : Addr) (h0 : Heap) (n0 : Nat) (v : Option Value) (h : Heap) (L : List Loc) : Prop := v = some (.int 1) ∧ Fr n0 L
def K_0 (Z : State) (p0 : Int32) (p1 : Int32) (p2 : Int32) (p3 : Int32) (p4 : Int32) (p5 : Int32) (en0 en1 en2 : Addr) (h0 : Heap) (n0 : Nat) (s : State) (o : Outcome) (U' : State) : Prop := ∃ v L, o = .returned v ∧ Q_0 Z p0 p1 p2 p3 p4 p5 en0 en1 en2 h0 n0 v U'.heap L ∧ FrameEnd s o U' L 16 128
set_option maxRecDepth 65536 in
set_option maxHeartbeats 40000000 in
theorem rm_0 (l : Launch) (Z : State) (a0 : Array Value) (hw : ∀ d ∈ tables_1, d.before a0 Z = true) (ws : List Jvm.Cond) (p0 : Int32) (p1 : Int32) (p2 : Int32) (p3 : Int32) (p4 : Int32) (p5 : Int32) (en0 en1 en2 : Addr) (h0 : Heap) (n0 : Nat) (Z0 : n0 ≤ h0.size) (S0_ : Sta Z h0 "com/example/tidelog/tidelog/Simulation$Policy" "COMPLETE" "Lcom/example/tidelog/tidelog/Simulation$Policy;" (.ref en0)) (S1_ : Sta Z h0 "com/example/tidelog/tidelog/Simulation$Policy" "NONE" "Lcom/example/tidelog/tidelog/Simulation$Policy;" (.ref en1)) (S2_ : Sta Z h0 "com/example/tidelog/tidelog/Simulation$Policy" "PARTIAL" "Lcom/example/tidelog/tidelog/Simulation$Policy;" (.ref en2)) :
    MetFree l x (head1 (Jvm.Cond.code x code maxLocals ret :: ws) room_1) (fun a U => a = #[(.int p0), (.int p1), (.int p2), (.int p3), (.int p4), (.int p5)] ∧ Z.Warmed39 U.vm ∧ U.heap = h0) (fun _ _ _ _ _ => True) (fun _ U o U' => ∃ v L, o = .returned v ∧ Q_0 Z p0 p1 p2 p3 p4 p5 en0 en1 en2 h0 n0 v U'.heap L ∧ FrameEnd U o U' L room_1.cells room_1.slots) := by
  refine MetFree.of_bodySF (plainFor_of_name own_pn0) hisR ?_
  intro p e s m args below meth c s₁ Bd hml0 hP hK
  obtain ⟨rfl, hZ, hh⟩ := hP
  have hx := Bd.exec
  have hby := Bd.bytes
  have hml : c.maxLocals = 12 := hml0
  have hown : s.vm.findClass "com/example/tidelog/tidelog/SimulationUpdatesPerRunPinLaw" = some m.cls := findClass_of_methodNamed Bd.named
  have hnm := (name_of_methodNamed Bd.named Bd.method).1
  have X0 : Stand p l e room_1 s m #[(.int p0), (.int p1), (.int p2), (.int p3), (.int p4), (.int p5)] below meth c s₁ [] 0 0 := Stand.of_body Bd
  have e0 : s₁.heap = h0 := by rw [← hh, Bd.state]; rfl
  have N0 := Fr.nil n0
  show own_G p e below (K_0 Z p0 p1 p2 p3 p4 p5 en0 en1 en2 h0 n0 s) (s₁.setTop (entryFrame m #[(.int p0), (.int p1), (.int p2), (.int p3), (.int p4), (.int p5)] maxLocals))
  refine own_cast (ef0 m p0 p1 p2 p3 p4 p5) ?_
  show own_G p e below (K_0 Z p0 p1 p2 p3 p4 p5 en0 en1 en2 h0 n0 s) (s₁.setTop (mkF m 0 #[.val (.int p0), .val (.int p1), .val (.int p2), .val (.int p3), .val (.int p4), .val (.int p5), .unset, .unset, .unset, .unset, .unset, .unset] []))
  refine own_go (fun t k => XS.iconst X0.here hx rfl (hb hby at_0) k) ?_
  show own_G p e below (K_0 Z p0 p1 p2 p3 p4 p5 en0 en1 en2 h0 n0 s) (s₁.setTop (mkF m 1 #[.val (.int p0), .val (.int p1), .val (.int p2), .val (.int p3), .val (.int p4), .val (.int p5), .unset, .unset, .unset, .unset, .unset, .unset] [(.int (1 : Int32))]))
  obtain ⟨T1, h1, k1, X1, e1, E1, A1, B1, st1⟩ := newPE X0 hx hZ (hw _ (List.mem_of_getElem? (i := 0) rfl)) e0 (g := (mkF m 1 #[.val (.int p0), .val (.int p1), .val (.int p2), .val (.int p3), .val (.int p4), .val (.int p5), .unset, .unset, .unset, .unset, .unset, .unset] [(.int (1 : Int32))])) rfl (hb hby at_1) rfl (by decide) (cap := 1) (by decide) (by decide) (by decide) (by decide) (ad := "[D") (by decide)
  obtain ⟨b1, g1⟩ : ∃ z, z = h0.size := ⟨_, rfl⟩
  rw [← g1] at A1 B1 st1
  refine own_go st1 ?_
  have g_b1 : n0 ≤ b1 := Nat.le_trans Z0 (Nat.le_of_eq g1.symm)
  have V1 : Arv Z h1 b1 k1 .double (1 : Int32) [(.double 0)] (.double 0) := (Arv.new A1 (by decide)).pad (pad_rep [] (.double 0) 1)
  have Z2 : n0 ≤ h1.size := Nat.le_trans Z0 E1.1
  show own_G p e below (K_0 Z p0 p1 p2 p3 p4 p5 en0 en1 en2 h0 n0 s) (T1.setTop (mkF m 3 #[.val (.int p0), .val (.int p1), .val (.int p2), .val (.int p3), .val (.int p4), .val (.int p5), .unset, .unset, .unset, .unset, .unset, .unset] [(.ref b1)]))
  refine own_go (fun t k => XS.astore X1.here hx rfl (hb hby at_3) rfl rfl (l' := #[.val (.int p0), .val (.int p1), .val (.int p2), .val (.int p3), .val (.int p4), .val (.int p5), .val (.ref b1), .unset, .unset, .unset, .unset, .unset]) rfl k) ?_
  show own_G p e below (K_0 Z p0 p1 p2 p3 p4 p5 en0 en1 en2 h0 n0 s) (T1.setTop (mkF m 5 #[.val (.int p0), .val (.int p1), .val (.int p2), .val (.int p3), .val (.int p4), .val (.int p5), .val (.ref b1), .unset, .unset, .unset, .unset, .unset] []))
  refine own_go (fun t k => XS.aload X1.here hx rfl (hb hby at_5) rfl rfl k) ?_
  show own_G p e below (K_0 Z p0 p1 p2 p3 p4 p5 en0 en1 en2 h0 n0 s) (T1.setTop (mkF m 7 #[.val (.int p0), .val (.int p1), .val (.int p2), .val (.int p3), .val (.int p4), .val (.int p5), .val (.ref b1), .unset, .unset, .unset, .unset, .unset] [(.ref b1)]))
  refine own_go (fun t k => XS.iconst X1.here hx rfl (hb hby at_7) k) ?_
  show own_G p e below (K_0 Z p0 p1 p2 p3 p4 p5 en0 en1 en2 h0 n0 s) (T1.setTop (mkF m 8 #[.val (.int p0), .val (.int p1), .val (.int p2), .val (.int p3), .val (.int p4), .val (.int p5), .val (.ref b1), .unset, .unset, .unset, .unset, .unset] [(.int (0 : Int32)), (.ref b1)]))
  refine own_go (fun t k => XS.iload X1.here hx rfl (hb hby at_8) rfl k) ?_
  show own_G p e below (K_0 Z p0 p1 p2 p3 p4 p5 en0 en1 en2 h0 n0 s) (T1.setTop (mkF m 10 #[.val (.int p0), .val (.int p1), .val (.int p2), .val (.int p3), .val (.int p4), .val (.int p5), .val (.ref b1), .unset, .unset, .unset, .unset, .unset] [(.int p5), (.int (0 : Int32)), (.ref b1)]))
  refine own_go (fun t k => XS.iconst X1.here hx rfl (hb hby at_10) k) ?_
  show own_G p e below (K_0 Z p0 p1 p2 p3 p4 p5 en0 en1 en2 h0 n0 s) (T1.setTop (mkF m 11 #[.val (.int p0), .val (.int p1), .val (.int p2), .val (.int p3), .val (.int p4), .val (.int p5), .val (.ref b1), .unset, .unset, .unset, .unset, .unset] [(.int (1 : Int32)), (.int p5), (.int (0 : Int32)), (.ref b1)]))
  refine own_go (fun t k => XS.iand X1.here hx rfl (hb hby at_11) rfl k) ?_
  show own_G p e below (K_0 Z p0 p1 p2 p3 p4 p5 en0 en1 en2 h0 n0 s) (T1.setTop (mkF m 12 #[.val (.int p0), .val (.int p1), .val (.int p2), .val (.int p3), .val (.int p4), .val (.int p5), .val (.ref b1), .unset, .unset, .unset, .unset, .unset] [(.int (p5 &&& (1 : Int32))), (.int (0 : Int32)), (.ref b1)]))
  refine own_go (fun t k => XS.i2dS X1.here hx rfl (hb hby at_12) rfl rfl k) ?_
  show own_G p e below (K_0 Z p0 p1 p2 p3 p4 p5 en0 en1 en2 h0 n0 s) (T1.setTop (mkF m 13 #[.val (.int p0), .val (.int p1), .val (.int p2), .val (.int p3), .val (.int p4), .val (.int p5), .val (.ref b1), .unset, .unset, .unset, .unset, .unset] [(.double (FP.i2d (p5 &&& (1 : Int32)))), (.int (0 : Int32)), (.ref b1)]))
  obtain ⟨cl3, Ar3, q3, Sz3, Nn3, Hh3, Gg3⟩ := V1
  have hin3 : ¬ ((0 : Int32) < 0 ∨ cl3.slots.size ≤ ((0 : Int32)).toNatClampNeg) := inb_of Sz3 ⟨by decide, by decide⟩
  obtain ⟨T3, h3, X3, e3, W3, st3⟩ := stD X1 hx hZ e1 Ar3 (j := (0 : Int32)) hin3 (g := (mkF m 13 #[.val (.int p0), .val (.int p1), .val (.int p2), .val (.int p3), .val (.int p4), .val (.int p5), .val (.ref b1), .unset, .unset, .unset, .unset, .unset] [(.double (FP.i2d (p5 &&& (1 : Int32)))), (.int (0 : Int32)), (.ref b1)])) rfl rfl (hb hby at_13)
  refine own_go st3 ?_
  have V3 : Arv Z h3 b1 k1 .double (1 : Int32) [(.double (FP.i2d (p5 &&& (1 : Int32))))] (.double 0) := Arv.set Ar3 q3 Sz3 Nn3 Hh3 Gg3 rfl W3 0 rfl (Nat.le_of_ble_eq_true rfl)
  have N3 := Fr.snoc X3 N0 g_b1
  have Z4 : n0 ≤ h3.size := Nat.le_trans Z2 (Keep.of_wr W3).1
  show own_G p e below (K_0 Z p0 p1 p2 p3 p4 p5 en0 en1 en2 h0 n0 s) (T3.setTop (mkF m 14 #[.val (.int p0), .val (.int p1), .val (.int p2), .val (.int p3), .val (.int p4), .val (.int p5), .val (.ref b1), .unset, .unset, .unset, .unset, .unset] []))
  obtain ⟨T5, h5, X5, e5, E5, A5, D5, -, st5⟩ := newO X3 hx hZ hown (hw _ (List.mem_of_getElem? (i := 1) rfl)) (hw _ (List.mem_of_getElem? (i := 2) rfl)) (hw _ (List.mem_of_getElem? (i := 3) rfl)) e3 (g := (mkF m 14 #[.val (.int p0), .val (.int p1), .val (.int p2), .val (.int p3), .val (.int p4), .val (.int p5), .val (.ref b1), .unset, .unset, .unset, .unset, .unset] [])) rfl (hb hby at_14) (by decide) (by decide)
  obtain ⟨b5, g5⟩ : ∃ z, z = h3.size := ⟨_, rfl⟩
  rw [← g5] at A5 D5 st5
  refine own_go st5 ?_
  have g_b5 : n0 ≤ b5 := Nat.le_trans Z4 (Nat.le_of_eq g5.symm)
  have Z6 : n0 ≤ h5.size := Nat.le_trans Z4 E5.1
  have F5_probabilities : Fld Z h5 b5 "com/example/tidelog/tidelog/Simulation" "probabilities" "[D" .null := D5 (Or.inr (hw _ (List.mem_of_getElem? (i := 28) rfl))) (ty := (.array .double)) (by decide)
  have F5_slots : Fld Z h5 b5 "com/example/tidelog/tidelog/Simulation" "slots" "I" (.int (0 : Int32)) := D5 (Or.inr (hw _ (List.mem_of_getElem? (i := 30) rfl))) (ty := .int) (by decide)
  have F5_slotSeconds : Fld Z h5 b5 "com/example/tidelog/tidelog/Simulation" "slotSeconds" "I" (.int (0 : Int32)) := D5 (Or.inr (hw _ (List.mem_of_getElem? (i := 32) rfl))) (ty := .int) (by decide)
  have F5_updatesPerSlot : Fld Z h5 b5 "com/example/tidelog/tidelog/Simulation" "updatesPerSlot" "I" (.int (0 : Int32)) := D5 (Or.inr (hw _ (List.mem_of_getElem? (i := 34) rfl))) (ty := .int) (by decide)
  have F5_policy : Fld Z h5 b5 "com/example/tidelog/tidelog/Simulation" "policy" "Lcom/example/tidelog/tidelog/Simulation$Policy;" .null := D5 (Or.inr (hw _ (List.mem_of_getElem? (i := 36) rfl))) (ty := (.object "com/example/tidelog/tidelog/Simulation$Policy")) (by decide)
  have F5_quorum : Fld Z h5 b5 "com/example/tidelog/tidelog/Simulation" "quorum" "I" (.int (0 : Int32)) := D5 (Or.inr (hw _ (List.mem_of_getElem? (i := 38) rfl))) (ty := .int) (by decide)
  show own_G p e below (K_0 Z p0 p1 p2 p3 p4 p5 en0 en1 en2 h0 n0 s) (T5.setTop (mkF m 17 #[.val (.int p0), .val (.int p1), .val (.int p2), .val (.int p3), .val (.int p4), .val (.int p5), .val (.ref b1), .unset, .unset, .unset, .unset, .unset] [(.ref b5)]))
  refine own_go (fun t k => XS.dup X5.here hx rfl (hb hby at_17) rfl rfl k) ?_
  show own_G p e below (K_0 Z p0 p1 p2 p3 p4 p5 en0 en1 en2 h0 n0 s) (T5.setTop (mkF m 18 #[.val (.int p0), .val (.int p1), .val (.int p2), .val (.int p3), .val (.int p4), .val (.int p5), .val (.ref b1), .unset, .unset, .unset, .unset, .unset] [(.ref b5), (.ref b5)]))
  refine own_go (fun t k => XS.aload X5.here hx rfl (hb hby at_18) rfl rfl k) ?_
  show own_G p e below (K_0 Z p0 p1 p2 p3 p4 p5 en0 en1 en2 h0 n0 s) (T5.setTop (mkF m 20 #[.val (.int p0), .val (.int p1), .val (.int p2), .val (.int p3), .val (.int p4), .val (.int p5), .val (.ref b1), .unset, .unset, .unset, .unset, .unset] [(.ref b1), (.ref b5), (.ref b5)]))
  refine own_go (fun t k => XS.iloadN X5.here hx rfl (hb hby at_20) rfl k) ?_
  show own_G p e below (K_0 Z p0 p1 p2 p3 p4 p5 en0 en1 en2 h0 n0 s) (T5.setTop (mkF m 21 #[.val (.int p0), .val (.int p1), .val (.int p2), .val (.int p3), .val (.int p4), .val (.int p5), .val (.ref b1), .unset, .unset, .unset, .unset, .unset] [(.int p0), (.ref b1), (.ref b5), (.ref b5)]))
  refine own_go (fun t k => XS.iloadN X5.here hx rfl (hb hby at_21) rfl k) ?_
  show own_G p e below (K_0 Z p0 p1 p2 p3 p4 p5 en0 en1 en2 h0 n0 s) (T5.setTop (mkF m 22 #[.val (.int p0), .val (.int p1), .val (.int p2), .val (.int p3), .val (.int p4), .val (.int p5), .val (.ref b1), .unset, .unset, .unset, .unset, .unset] [(.int p2), (.int p0), (.ref b1), (.ref b5), (.ref b5)]))
  refine own_go (fun t k => XS.iloadN X5.here hx rfl (hb hby at_22) rfl k) ?_
  show own_G p e below (K_0 Z p0 p1 p2 p3 p4 p5 en0 en1 en2 h0 n0 s) (T5.setTop (mkF m 23 #[.val (.int p0), .val (.int p1), .val (.int p2), .val (.int p3), .val (.int p4), .val (.int p5), .val (.ref b1), .unset, .unset, .unset, .unset, .unset] [(.int p1), (.int p2), (.int p0), (.ref b1), (.ref b5), (.ref b5)]))
  refine own_go (fun t k => XS.iload X5.here hx rfl (hb hby at_23) rfl k) ?_
  show own_G p e below (K_0 Z p0 p1 p2 p3 p4 p5 en0 en1 en2 h0 n0 s) (T5.setTop (mkF m 25 #[.val (.int p0), .val (.int p1), .val (.int p2), .val (.int p3), .val (.int p4), .val (.int p5), .val (.ref b1), .unset, .unset, .unset, .unset, .unset] [(.int p4), (.int p1), (.int p2), (.int p0), (.ref b1), (.ref b5), (.ref b5)]))
  have Q8 := (((S0_.ext E1).wr W3).ext E5)
  have Q9 := (((S1_.ext E1).wr W3).ext E5)
  have Q10 := (((S2_.ext E1).wr W3).ext E5)
  obtain ⟨_, _, ⟨T7, L7, k7, n7⟩, -, X7, ⟨Lc7, hQ7, l7, y7, z7⟩, st7⟩ := Jvm.LawKit.callS X5 hx (y := (⟨"com/example/tidelog/tidelog/SimulationUpdatesPerRunPinLaw", "policyOf", "(I)Lcom/example/tidelog/tidelog/Simulation$Policy;"⟩ : MethodName)) hown (mvT hZ (hw _ (List.mem_of_getElem? (i := 4) rfl))) (mvT hZ (hw _ (List.mem_of_getElem? (i := 5) rfl))) (mvT hZ (hw _ (List.mem_of_getElem? (i := 6) rfl))) (mvT hZ (hw _ (List.mem_of_getElem? (i := 7) rfl))) (by decide) (backOf (W := 6) (rm_po l Z a0 hw [] p4 en0 en1 en2 h5 n0 Z6 Q8 Q9 Q10) hZ (hw _ (List.mem_of_getElem? (i := 7) rfl)) (hw _ (List.mem_of_getElem? (i := 6) rfl)) (by decide) (by decide)) (g := (mkF m 25 #[.val (.int p0), .val (.int p1), .val (.int p2), .val (.int p3), .val (.int p4), .val (.int p5), .val (.ref b1), .unset, .unset, .unset, .unset, .unset] [(.int p4), (.int p1), (.int p2), (.int p0), (.ref b1), (.ref b5), (.ref b5)])) rfl (by rw [hml]; rfl) (argsL := [(.int p4)]) (rest := [(.int p1), (.int p2), (.int p0), (.ref b1), (.ref b5), (.ref b5)]) (lenOf own_pd0 rfl) rfl (by show 2 * 0 + _ ≤ _; exact Nat.le_of_eq rfl) (hb hby at_25) (fun _ _ => ⟨rfl, e5, (by decide : 2 + 0 ≤ _), (by decide : 7 + 0 ≤ _)⟩)
  dsimp only [Pt.U, Pt.locs, Pt.cells, Pt.slots] at X7 l7 y7 z7 st7 hQ7
  subst l7 y7 z7
  obtain ⟨rfl, N7q, e7⟩ := hQ7
  have N7 := Fr.app N3 N7q
  refine own_go st7 ?_
  show own_G p e below (K_0 Z p0 p1 p2 p3 p4 p5 en0 en1 en2 h0 n0 s) (T7.setTop (mkF m 28 #[.val (.int p0), .val (.int p1), .val (.int p2), .val (.int p3), .val (.int p4), .val (.int p5), .val (.ref b1), .unset, .unset, .unset, .unset, .unset] [(.ref (own_pl en0 en1 en2 p4)), (.int p1), (.int p2), (.int p0), (.ref b1), (.ref b5), (.ref b5)]))
  refine own_go (fun t k => XS.iloadN X7.here hx rfl (hb hby at_28) rfl k) ?_
  show own_G p e below (K_0 Z p0 p1 p2 p3 p4 p5 en0 en1 en2 h0 n0 s) (T7.setTop (mkF m 29 #[.val (.int p0), .val (.int p1), .val (.int p2), .val (.int p3), .val (.int p4), .val (.int p5), .val (.ref b1), .unset, .unset, .unset, .unset, .unset] [(.int p3), (.ref (own_pl en0 en1 en2 p4)), (.int p1), (.int p2), (.int p0), (.ref b1), (.ref b5), (.ref b5)]))
  have Q12 := (V3.ext E5)
  have Q13 := ((B1.wr W3).ext E5)
  obtain ⟨_, _, ⟨T11, L11, k11, n11⟩, -, X11, ⟨Lc11, hQ11, l11, y11, z11⟩, st11⟩ := X7.specialBack hx (y := (⟨"com/example/tidelog/tidelog/Simulation", "<init>", "([DIIILcom/example/tidelog/tidelog/Simulation$Policy;I)V"⟩ : MethodName)) rfl hown (mvT hZ (hw _ (List.mem_of_getElem? (i := 12) rfl))) (mvT hZ (hw _ (List.mem_of_getElem? (i := 13) rfl))) (mvT hZ (hw _ (List.mem_of_getElem? (i := 14) rfl))) (by decide) (backOf (W := 1) (rm_sim l Z a0 hw [] b5 b1 p0 p2 p1 (own_pl en0 en1 en2 p4) p3 k1 (FP.i2d (p5 &&& (1 : Int32))) h5 n0 Z6 F5_probabilities F5_slots F5_slotSeconds F5_updatesPerSlot F5_policy F5_quorum A5 g_b5 Q12 Q13 (Ne.symm (Nat.ne_of_lt (Nat.lt_of_lt_of_le (B1.wr W3).lt (Nat.le_of_eq g5.symm))))) hZ (hw _ (List.mem_of_getElem? (i := 14) rfl)) (hw _ (List.mem_of_getElem? (i := 3) rfl)) (by decide) (by decide)) (g := (mkF m 29 #[.val (.int p0), .val (.int p1), .val (.int p2), .val (.int p3), .val (.int p4), .val (.int p5), .val (.ref b1), .unset, .unset, .unset, .unset, .unset] [(.int p3), (.ref (own_pl en0 en1 en2 p4)), (.int p1), (.int p2), (.int p0), (.ref b1), (.ref b5), (.ref b5)])) rfl (by rw [hml]; rfl) (Steps.refl _) (a := b5) (argsL := [(.ref b1), (.int p0), (.int p2), (.int p1), (.ref (own_pl en0 en1 en2 p4)), (.int p3)]) (rest := [(.ref b5)]) (lenOf own_pd1 rfl) rfl (by show 2 * 0 + _ ≤ _; exact Nat.le_of_eq rfl) (hb hby at_29) (fun _ _ => ⟨rfl, e7, (by decide : 2 + 1 ≤ _), (by decide : 7 + 1 ≤ _)⟩)
  dsimp only [Pt.U, Pt.locs, Pt.cells, Pt.slots] at X11 l11 y11 z11 st11 hQ11
  subst l11 y11 z11
  obtain ⟨rfl, N11q, K11q, E11q, F11_0, F11_1, F11_2, F11_3, F11_4⟩ := hQ11
  have N11 := Fr.app N7 N11q
  obtain ⟨h11, e11⟩ : ∃ z, T11.heap = z := ⟨_, rfl⟩
  rw [e11] at K11q E11q F11_0 F11_1 F11_2 F11_3 F11_4
  have Z14 : n0 ≤ h11.size := Nat.le_trans Z6 K11q.1
  refine own_tr st11 ?_
  show own_G p e below (K_0 Z p0 p1 p2 p3 p4 p5 en0 en1 en2 h0 n0 s) (T11.setTop (mkF m 32 #[.val (.int p0), .val (.int p1), .val (.int p2), .val (.int p3), .val (.int p4), .val (.int p5), .val (.ref b1), .unset, .unset, .unset, .unset, .unset] [(.ref b5)]))
  refine own_go (fun t k => XS.astore X11.here hx rfl (hb hby at_32) rfl rfl (l' := #[.val (.int p0), .val (.int p1), .val (.int p2), .val (.int p3), .val (.int p4), .val (.int p5), .val (.ref b1), .val (.ref b5), .unset, .unset, .unset, .unset]) rfl k) ?_
  show own_G p e below (K_0 Z p0 p1 p2 p3 p4 p5 en0 en1 en2 h0 n0 s) (T11.setTop (mkF m 34 #[.val (.int p0), .val (.int p1), .val (.int p2), .val (.int p3), .val (.int p4), .val (.int p5), .val (.ref b1), .val (.ref b5), .unset, .unset, .unset, .unset] []))
  refine own_go (fun t k => XS.aload X11.here hx rfl (hb hby at_34) rfl rfl k) ?_
  show own_G p e below (K_0 Z p0 p1 p2 p3 p4 p5 en0 en1 en2 h0 n0 s) (T11.setTop (mkF m 36 #[.val (.int p0), .val (.int p1), .val (.int p2), .val (.int p3), .val (.int p4), .val (.int p5), .val (.ref b1), .val (.ref b5), .unset, .unset, .unset, .unset] [(.ref b5)]))
  obtain ⟨cq15, kq15, q15a, q15b, q15c⟩ := isOf hZ e11 E11q
  obtain ⟨_, _, ⟨T15, L15, k15, n15⟩, -, X15, ⟨Lc15, hQ15, l15, y15, z15⟩, st15⟩ := X11.virtualBack hx (y := (⟨"com/example/tidelog/tidelog/Simulation", "updatesPerRun", "()J"⟩ : MethodName)) (z := (⟨"com/example/tidelog/tidelog/Simulation", "updatesPerRun", "()J"⟩ : MethodName)) hown (mvT hZ (hw _ (List.mem_of_getElem? (i := 39) rfl))) (mvT hZ (hw _ (List.mem_of_getElem? (i := 40) rfl))) (notFace_of_selects (args := #[]) (mvT hZ (hw _ (List.mem_of_getElem? (i := 42) rfl)))) (mvT hZ (hw _ (List.mem_of_getElem? (i := 42) rfl))) (mvT hZ (hw _ (List.mem_of_getElem? (i := 41) rfl))) (by decide) (backOf (W := 0) (rm_up l Z a0 hw [] b5 p0 p1 h11 n0 Z14 F11_0 F11_2) hZ (hw _ (List.mem_of_getElem? (i := 43) rfl)) (hw _ (List.mem_of_getElem? (i := 3) rfl)) (by decide) (by decide)) q15a q15c (g := (mkF m 36 #[.val (.int p0), .val (.int p1), .val (.int p2), .val (.int p3), .val (.int p4), .val (.int p5), .val (.ref b1), .val (.ref b5), .unset, .unset, .unset, .unset] [(.ref b5)])) rfl (by rw [hml]; rfl) (Steps.refl _) (argsL := []) (rest := []) (lenOf own_pd2 rfl) rfl (by show 2 * 0 + _ ≤ _; exact Nat.le_of_eq rfl) (hb hby at_36) (fun _ _ => ⟨rfl, e11, (by decide : 3 + 0 ≤ _), (by decide : 8 + 0 ≤ _)⟩)
  dsimp only [Pt.U, Pt.locs, Pt.cells, Pt.slots] at X15 l15 y15 z15 st15 hQ15
  subst l15 y15 z15
  obtain ⟨rfl, N15q, e15⟩ := hQ15
  have N15 := Fr.app N11 N15q
  refine own_tr st15 ?_
  show own_G p e below (K_0 Z p0 p1 p2 p3 p4 p5 en0 en1 en2 h0 n0 s) (T15.setTop (mkF m 39 #[.val (.int p0), .val (.int p1), .val (.int p2), .val (.int p3), .val (.int p4), .val (.int p5), .val (.ref b1), .val (.ref b5), .unset, .unset, .unset, .unset] [(.long (p0.toInt64 * p1.toInt64))]))
  refine own_go (fun t k => XS.lstore X15.here hx rfl (hb hby at_39) rfl (l' := #[.val (.int p0), .val (.int p1), .val (.int p2), .val (.int p3), .val (.int p4), .val (.int p5), .val (.ref b1), .val (.ref b5), .val (.long (p0.toInt64 * p1.toInt64)), .second, .unset, .unset]) rfl k) ?_
  show own_G p e below (K_0 Z p0 p1 p2 p3 p4 p5 en0 en1 en2 h0 n0 s) (T15.setTop (mkF m 41 #[.val (.int p0), .val (.int p1), .val (.int p2), .val (.int p3), .val (.int p4), .val (.int p5), .val (.ref b1), .val (.ref b5), .val (.long (p0.toInt64 * p1.toInt64)), .second, .unset, .unset] []))
  refine own_go (fun t k => XS.iloadN X15.here hx rfl (hb hby at_41) rfl k) ?_
  show own_G p e below (K_0 Z p0 p1 p2 p3 p4 p5 en0 en1 en2 h0 n0 s) (T15.setTop (mkF m 42 #[.val (.int p0), .val (.int p1), .val (.int p2), .val (.int p3), .val (.int p4), .val (.int p5), .val (.ref b1), .val (.ref b5), .val (.long (p0.toInt64 * p1.toInt64)), .second, .unset, .unset] [(.int p0)]))
  by_cases hc42_16 : p0 = (0 : Int32)
  · skip
    refine own_go (fun t k => XS.ifNo X15.here hx rfl (hb hby at_42) rfl ((if0 _ _).trans (teq hc42_16).2) k) ?_
    show own_G p e below (K_0 Z p0 p1 p2 p3 p4 p5 en0 en1 en2 h0 n0 s) (T15.setTop (mkF m 45 #[.val (.int p0), .val (.int p1), .val (.int p2), .val (.int p3), .val (.int p4), .val (.int p5), .val (.ref b1), .val (.ref b5), .val (.long (p0.toInt64 * p1.toInt64)), .second, .unset, .unset] []))
    refine own_go (fun t k => XS.lload X15.here hx rfl (hb hby at_45) rfl k) ?_
    show own_G p e below (K_0 Z p0 p1 p2 p3 p4 p5 en0 en1 en2 h0 n0 s) (T15.setTop (mkF m 47 #[.val (.int p0), .val (.int p1), .val (.int p2), .val (.int p3), .val (.int p4), .val (.int p5), .val (.ref b1), .val (.ref b5), .val (.long (p0.toInt64 * p1.toInt64)), .second, .unset, .unset] [(.long (p0.toInt64 * p1.toInt64))]))
    refine own_go (fun t k => XS.lconst X15.here hx rfl (hb hby at_47) k) ?_
    show own_G p e below (K_0 Z p0 p1 p2 p3 p4 p5 en0 en1 en2 h0 n0 s) (T15.setTop (mkF m 48 #[.val (.int p0), .val (.int p1), .val (.int p2), .val (.int p3), .val (.int p4), .val (.int p5), .val (.ref b1), .val (.ref b5), .val (.long (p0.toInt64 * p1.toInt64)), .second, .unset, .unset] [(.long (0 : Int64)), (.long (p0.toInt64 * p1.toInt64))]))
    refine own_go (fun t k => XS.lcmp X15.here hx rfl (hb hby at_48) rfl k) ?_
    show own_G p e below (K_0 Z p0 p1 p2 p3 p4 p5 en0 en1 en2 h0 n0 s) (T15.setTop (mkF m 49 #[.val (.int p0), .val (.int p1), .val (.int p2), .val (.int p3), .val (.int p4), .val (.int p5), .val (.ref b1), .val (.ref b5), .val (.long (p0.toInt64 * p1.toInt64)), .second, .unset, .unset] [(.int (lcmpW (p0.toInt64 * p1.toInt64) (0 : Int64)))]))
    refine own_go (fun t k => XS.ifNo X15.here hx rfl (hb hby at_49) rfl ((if0 _ _).trans (teq ((lw_eq _ _).mpr (own_z hc42_16))).2) k) ?_
    show own_G p e below (K_0 Z p0 p1 p2 p3 p4 p5 en0 en1 en2 h0 n0 s) (T15.setTop (mkF m 52 #[.val (.int p0), .val (.int p1), .val (.int p2), .val (.int p3), .val (.int p4), .val (.int p5), .val (.ref b1), .val (.ref b5), .val (.long (p0.toInt64 * p1.toInt64)), .second, .unset, .unset] []))
    refine own_go (fun t k => XS.iconst X15.here hx rfl (hb hby at_52) k) ?_
    show own_G p e below (K_0 Z p0 p1 p2 p3 p4 p5 en0 en1 en2 h0 n0 s) (T15.setTop (mkF m 53 #[.val (.int p0), .val (.int p1), .val (.int p2), .val (.int p3), .val (.int p4), .val (.int p5), .val (.ref b1), .val (.ref b5), .val (.long (p0.toInt64 * p1.toInt64)), .second, .unset, .unset] [(.int (1 : Int32))]))
    refine own_go (fun t k => XS.goto X15.here hx rfl (pc0 := 53) (pc' := 57) rfl (hb hby at_53) (by decide) (by decide) k) ?_
    show own_G p e below (K_0 Z p0 p1 p2 p3 p4 p5 en0 en1 en2 h0 n0 s) (T15.setTop (mkF m 57 #[.val (.int p0), .val (.int p1), .val (.int p2), .val (.int p3), .val (.int p4), .val (.int p5), .val (.ref b1), .val (.ref b5), .val (.long (p0.toInt64 * p1.toInt64)), .second, .unset, .unset] [(.int (1 : Int32))]))
    exact own_retN X15 hx Bd.notSynchronized (t := .boolean) (z' := (1 : Int32)) Bd.returns (by simp) (hb hby at_57) rfl (fun U hU hV hF => ⟨_, _, rfl, ⟨rfl, N15⟩, hF.1, hF.2.1, hF.2.2.mono (by decide) (by decide)⟩)
  · skip
    refine own_go (fun t k => XS.ifYes X15.here hx rfl (pc0 := 42) (pc' := 58) rfl (hb hby at_42) rfl ((if0 _ _).trans (feq hc42_16).2) (by decide) (by decide) k) ?_
    show own_G p e below (K_0 Z p0 p1 p2 p3 p4 p5 en0 en1 en2 h0 n0 s) (T15.setTop (mkF m 58 #[.val (.int p0), .val (.int p1), .val (.int p2), .val (.int p3), .val (.int p4), .val (.int p5), .val (.ref b1), .val (.ref b5), .val (.long (p0.toInt64 * p1.toInt64)), .second, .unset, .unset] []))
    refine own_go (fun t k => XS.iloadN X15.here hx rfl (hb hby at_58) rfl k) ?_
    show own_G p e below (K_0 Z p0 p1 p2 p3 p4 p5 en0 en1 en2 h0 n0 s) (T15.setTop (mkF m 59 #[.val (.int p0), .val (.int p1), .val (.int p2), .val (.int p3), .val (.int p4), .val (.int p5), .val (.ref b1), .val (.ref b5), .val (.long (p0.toInt64 * p1.toInt64)), .second, .unset, .unset] [(.int p0)]))
    refine own_go (fun t k => XS.i2l X15.here hx rfl (hb hby at_59) rfl k) ?_
    show own_G p e below (K_0 Z p0 p1 p2 p3 p4 p5 en0 en1 en2 h0 n0 s) (T15.setTop (mkF m 60 #[.val (.int p0), .val (.int p1), .val (.int p2), .val (.int p3), .val (.int p4), .val (.int p5), .val (.ref b1), .val (.ref b5), .val (.long (p0.toInt64 * p1.toInt64)), .second, .unset, .unset] [(.long (p0.toInt64))]))
    refine own_go (fun t k => XS.lstore X15.here hx rfl (hb hby at_60) rfl (l' := #[.val (.int p0), .val (.int p1), .val (.int p2), .val (.int p3), .val (.int p4), .val (.int p5), .val (.ref b1), .val (.ref b5), .val (.long (p0.toInt64 * p1.toInt64)), .second, .val (.long (p0.toInt64)), .second]) rfl k) ?_
    show own_G p e below (K_0 Z p0 p1 p2 p3 p4 p5 en0 en1 en2 h0 n0 s) (T15.setTop (mkF m 62 #[.val (.int p0), .val (.int p1), .val (.int p2), .val (.int p3), .val (.int p4), .val (.int p5), .val (.ref b1), .val (.ref b5), .val (.long (p0.toInt64 * p1.toInt64)), .second, .val (.long (p0.toInt64)), .second] []))
    refine own_go (fun t k => XS.lload X15.here hx rfl (hb hby at_62) rfl k) ?_
    show own_G p e below (K_0 Z p0 p1 p2 p3 p4 p5 en0 en1 en2 h0 n0 s) (T15.setTop (mkF m 64 #[.val (.int p0), .val (.int p1), .val (.int p2), .val (.int p3), .val (.int p4), .val (.int p5), .val (.ref b1), .val (.ref b5), .val (.long (p0.toInt64 * p1.toInt64)), .second, .val (.long (p0.toInt64)), .second] [(.long (p0.toInt64 * p1.toInt64))]))
    refine own_go (fun t k => XS.lload X15.here hx rfl (hb hby at_64) rfl k) ?_
    show own_G p e below (K_0 Z p0 p1 p2 p3 p4 p5 en0 en1 en2 h0 n0 s) (T15.setTop (mkF m 66 #[.val (.int p0), .val (.int p1), .val (.int p2), .val (.int p3), .val (.int p4), .val (.int p5), .val (.ref b1), .val (.ref b5), .val (.long (p0.toInt64 * p1.toInt64)), .second, .val (.long (p0.toInt64)), .second] [(.long (p0.toInt64)), (.long (p0.toInt64 * p1.toInt64))]))
    refine own_go (fun t k => XS.lrem X15.here hx rfl (hb hby at_66) rfl (own_nz hc42_16) k) ?_
    show own_G p e below (K_0 Z p0 p1 p2 p3 p4 p5 en0 en1 en2 h0 n0 s) (T15.setTop (mkF m 67 #[.val (.int p0), .val (.int p1), .val (.int p2), .val (.int p3), .val (.int p4), .val (.int p5), .val (.ref b1), .val (.ref b5), .val (.long (p0.toInt64 * p1.toInt64)), .second, .val (.long (p0.toInt64)), .second] [(.long ((p0.toInt64 * p1.toInt64) - (p0.toInt64 * p1.toInt64) / (p0.toInt64) * (p0.toInt64)))]))
    refine own_go (fun t k => XS.lconst X15.here hx rfl (hb hby at_67) k) ?_
    show own_G p e below (K_0 Z p0 p1 p2 p3 p4 p5 en0 en1 en2 h0 n0 s) (T15.setTop (mkF m 68 #[.val (.int p0), .val (.int p1), .val (.int p2), .val (.int p3), .val (.int p4), .val (.int p5), .val (.ref b1), .val (.ref b5), .val (.long (p0.toInt64 * p1.toInt64)), .second, .val (.long (p0.toInt64)), .second] [(.long (0 : Int64)), (.long ((p0.toInt64 * p1.toInt64) - (p0.toInt64 * p1.toInt64) / (p0.toInt64) * (p0.toInt64)))]))
    refine own_go (fun t k => XS.lcmp X15.here hx rfl (hb hby at_68) rfl k) ?_
    show own_G p e below (K_0 Z p0 p1 p2 p3 p4 p5 en0 en1 en2 h0 n0 s) (T15.setTop (mkF m 69 #[.val (.int p0), .val (.int p1), .val (.int p2), .val (.int p3), .val (.int p4), .val (.int p5), .val (.ref b1), .val (.ref b5), .val (.long (p0.toInt64 * p1.toInt64)), .second, .val (.long (p0.toInt64)), .second] [(.int (lcmpW ((p0.toInt64 * p1.toInt64) - (p0.toInt64 * p1.toInt64) / (p0.toInt64) * (p0.toInt64)) (0 : Int64)))]))
    refine own_go (fun t k => XS.ifNo X15.here hx rfl (hb hby at_69) rfl ((if0 _ _).trans (teq ((lw_eq _ _).mpr (own_rem hc42_16))).2) k) ?_
    show own_G p e below (K_0 Z p0 p1 p2 p3 p4 p5 en0 en1 en2 h0 n0 s) (T15.setTop (mkF m 72 #[.val (.int p0), .val (.int p1), .val (.int p2), .val (.int p3), .val (.int p4), .val (.int p5), .val (.ref b1), .val (.ref b5), .val (.long (p0.toInt64 * p1.toInt64)), .second, .val (.long (p0.toInt64)), .second] []))
    refine own_go (fun t k => XS.lload X15.here hx rfl (hb hby at_72) rfl k) ?_
    show own_G p e below (K_0 Z p0 p1 p2 p3 p4 p5 en0 en1 en2 h0 n0 s) (T15.setTop (mkF m 74 #[.val (.int p0), .val (.int p1), .val (.int p2), .val (.int p3), .val (.int p4), .val (.int p5), .val (.ref b1), .val (.ref b5), .val (.long (p0.toInt64 * p1.toInt64)), .second, .val (.long (p0.toInt64)), .second] [(.long (p0.toInt64 * p1.toInt64))]))
    refine own_go (fun t k => XS.lload X15.here hx rfl (hb hby at_74) rfl k) ?_
    show own_G p e below (K_0 Z p0 p1 p2 p3 p4 p5 en0 en1 en2 h0 n0 s) (T15.setTop (mkF m 76 #[.val (.int p0), .val (.int p1), .val (.int p2), .val (.int p3), .val (.int p4), .val (.int p5), .val (.ref b1), .val (.ref b5), .val (.long (p0.toInt64 * p1.toInt64)), .second, .val (.long (p0.toInt64)), .second] [(.long (p0.toInt64)), (.long (p0.toInt64 * p1.toInt64))]))
    refine own_go (fun t k => XS.ldiv X15.here hx rfl (hb hby at_76) rfl (own_nz hc42_16) k) ?_
    show own_G p e below (K_0 Z p0 p1 p2 p3 p4 p5 en0 en1 en2 h0 n0 s) (T15.setTop (mkF m 77 #[.val (.int p0), .val (.int p1), .val (.int p2), .val (.int p3), .val (.int p4), .val (.int p5), .val (.ref b1), .val (.ref b5), .val (.long (p0.toInt64 * p1.toInt64)), .second, .val (.long (p0.toInt64)), .second] [(.long ((p0.toInt64 * p1.toInt64) / (p0.toInt64)))]))
    refine own_go (fun t k => XS.iloadN X15.here hx rfl (hb hby at_77) rfl k) ?_
    show own_G p e below (K_0 Z p0 p1 p2 p3 p4 p5 en0 en1 en2 h0 n0 s) (T15.setTop (mkF m 78 #[.val (.int p0), .val (.int p1), .val (.int p2), .val (.int p3), .val (.int p4), .val (.int p5), .val (.ref b1), .val (.ref b5), .val (.long (p0.toInt64 * p1.toInt64)), .second, .val (.long (p0.toInt64)), .second] [(.int p1), (.long ((p0.toInt64 * p1.toInt64) / (p0.toInt64)))]))
    refine own_go (fun t k => XS.i2l X15.here hx rfl (hb hby at_78) rfl k) ?_
    show own_G p e below (K_0 Z p0 p1 p2 p3 p4 p5 en0 en1 en2 h0 n0 s) (T15.setTop (mkF m 79 #[.val (.int p0), .val (.int p1), .val (.int p2), .val (.int p3), .val (.int p4), .val (.int p5), .val (.ref b1), .val (.ref b5), .val (.long (p0.toInt64 * p1.toInt64)), .second, .val (.long (p0.toInt64)), .second] [(.long (p1.toInt64)), (.long ((p0.toInt64 * p1.toInt64) / (p0.toInt64)))]))
    refine own_go (fun t k => XS.lcmp X15.here hx rfl (hb hby at_79) rfl k) ?_
    show own_G p e below (K_0 Z p0 p1 p2 p3 p4 p5 en0 en1 en2 h0 n0 s) (T15.setTop (mkF m 80 #[.val (.int p0), .val (.int p1), .val (.int p2), .val (.int p3), .val (.int p4), .val (.int p5), .val (.ref b1), .val (.ref b5), .val (.long (p0.toInt64 * p1.toInt64)), .second, .val (.long (p0.toInt64)), .second] [(.int (lcmpW ((p0.toInt64 * p1.toInt64) / (p0.toInt64)) (p1.toInt64)))]))
    refine own_go (fun t k => XS.ifNo X15.here hx rfl (hb hby at_80) rfl ((if0 _ _).trans (teq ((lw_eq _ _).mpr (own_div hc42_16))).2) k) ?_
    show own_G p e below (K_0 Z p0 p1 p2 p3 p4 p5 en0 en1 en2 h0 n0 s) (T15.setTop (mkF m 83 #[.val (.int p0), .val (.int p1), .val (.int p2), .val (.int p3), .val (.int p4), .val (.int p5), .val (.ref b1), .val (.ref b5), .val (.long (p0.toInt64 * p1.toInt64)), .second, .val (.long (p0.toInt64)), .second] []))
    refine own_go (fun t k => XS.iconst X15.here hx rfl (hb hby at_83) k) ?_
    show own_G p e below (K_0 Z p0 p1 p2 p3 p4 p5 en0 en1 en2 h0 n0 s) (T15.setTop (mkF m 84 #[.val (.int p0), .val (.int p1), .val (.int p2), .val (.int p3), .val (.int p4), .val (.int p5), .val (.ref b1), .val (.ref b5), .val (.long (p0.toInt64 * p1.toInt64)), .second, .val (.long (p0.toInt64)), .second] [(.int (1 : Int32))]))
    refine own_go (fun t k => XS.goto X15.here hx rfl (pc0 := 84) (pc' := 88) rfl (hb hby at_84) (by decide) (by decide) k) ?_
    show own_G p e below (K_0 Z p0 p1 p2 p3 p4 p5 en0 en1 en2 h0 n0 s) (T15.setTop (mkF m 88 #[.val (.int p0), .val (.int p1), .val (.int p2), .val (.int p3), .val (.int p4), .val (.int p5), .val (.ref b1), .val (.ref b5), .val (.long (p0.toInt64 * p1.toInt64)), .second, .val (.long (p0.toInt64)), .second] [(.int (1 : Int32))]))
    exact own_retN X15 hx Bd.notSynchronized (t := .boolean) (z' := (1 : Int32)) Bd.returns (by simp) (hb hby at_88) rfl (fun U hU hV hF => ⟨_, _, rfl, ⟨rfl, N15⟩, hF.1, hF.2.1, hF.2.2.mono (by decide) (by decide)⟩)
set_option maxRecDepth 65536 in
set_option maxHeartbeats 40000000 in
theorem comes_1 {Post : Tables → Env → Array Value → State → Outcome → State → Prop} (hpost : ∀ tb e args s v u, (limb_1_1.after args s (.returned v) u = true ∧ limb_1_2.after args s (.returned v) u = true ∧ True) → FrameEnd s (.returned v) u (Jvm.fieldLocs frame_1_writes args s ++ Jvm.arrayLocs frame_1_arrays args s ++ Jvm.staticLocs frame_1_statics s) 16 128 → Post tb e args s (.returned v) u) :
    ArmFor flags0 classFile x code maxLocals ret World_1 tables_1 room_1 Calls_1 rest_1 Pre_1 Post := by
  intro l hfl _ _ p e ha hc hk s m args below hf hA hF happ hP
  obtain ⟨hcalls, hrest, hpre⟩ := hP
  obtain ⟨-, -, -, hnamed, -, -, -, hat⟩ := (Spec.applies_iff hf).mp happ
  obtain ⟨hg, hn⟩ := and_e (Cond.before_iff.mp (show (Jvm.Cond.and given_1 narrow_1).before args s = true from hpre))
  obtain ⟨hcnt, hg0⟩ := and_e hg
  obtain ⟨hv0, hg1⟩ := and_e hg0
  obtain ⟨hv1, hg2⟩ := and_e hg1
  obtain ⟨hv2, hg3⟩ := and_e hg2
  obtain ⟨hv3, hg4⟩ := and_e hg3
  obtain ⟨hv4, hg5⟩ := and_e hg4
  obtain ⟨w0, w1, w2, w3, w4, w5, rfl⟩ : ∃ w0 w1 w2 w3 w4 w5 : Value, args = #[w0, w1, w2, w3, w4, w5] := by
    have hs : args.size = 6 := by simpa [Cond.value, given_1] using hcnt
    obtain ⟨L⟩ := args
    match L, hs with
    | [w0, w1, w2, w3, w4, w5], _ => exact ⟨w0, w1, w2, w3, w4, w5, rfl⟩
  have hw := fun d (hd : d ∈ tables_1) => atoms_spec (ws := Jvm.Cond.code x code maxLocals ret :: tables_1) hat d (List.mem_cons_of_mem _ hd)
  have hfit : Fit s := fun {y c} hc i hi => by
    obtain ⟨ha, rfl⟩ := Array.getElem?_eq_some_iff.mp hc
    have q := List.all_eq_true.mp ((Array.all_eq_true_iff_forall_mem.mp hF) _ (Array.getElem_mem ha)) i (List.mem_range.mpr hi)
    simpa [Array.getElem?_eq_getElem hi] using q
  obtain ⟨i0, ei0⟩ := is_v hv0
  obtain rfl : w0 = (.int i0) := Option.some.inj ei0
  obtain ⟨i1, ei1⟩ := is_v hv1
  obtain rfl : w1 = (.int i1) := Option.some.inj ei1
  obtain ⟨i2, ei2⟩ := is_v hv2
  obtain rfl : w2 = (.int i2) := Option.some.inj ei2
  obtain ⟨i3, ei3⟩ := is_v hv3
  obtain rfl : w3 = (.int i3) := Option.some.inj ei3
  obtain ⟨i4, ei4⟩ := is_v hv4
  obtain rfl : w4 = (.int i4) := Option.some.inj ei4
  obtain ⟨i5, ei5⟩ := is_v hg5
  obtain rfl : w5 = (.int i5) := Option.some.inj ei5
  obtain ⟨xn0, hn1⟩ := and_e hn
  obtain ⟨xn1, xn2⟩ := and_e hn1
  obtain ⟨en0, t0⟩ := exa_v xn0
  have S0 := Sta.start t0 (Or.inr ⟨(hw _ (List.mem_of_getElem? (i := 10) rfl)), (hw _ (List.mem_of_getElem? (i := 11) rfl))⟩)
  obtain ⟨en2, t2⟩ := exa_v xn1
  have S2 := Sta.start t2 (Or.inr ⟨(hw _ (List.mem_of_getElem? (i := 10) rfl)), (hw _ (List.mem_of_getElem? (i := 45) rfl))⟩)
  obtain ⟨en1, t1⟩ := exa_v xn2
  have S1 := Sta.start t1 (Or.inr ⟨(hw _ (List.mem_of_getElem? (i := 10) rfl)), (hw _ (List.mem_of_getElem? (i := 47) rfl))⟩)
  obtain ⟨n, o, h1, h2, h3, _, L, rfl, ⟨rfl, N⟩, hq⟩ := rm_0 l s _ hw tables_1 i0 i1 i2 i3 i4 i5 en0 en1 en2 s.heap s.heap.size (Nat.le_refl _) S0 S1 S2 p e ha hc hk s m _ below hf ((Spec.applies_iff_loose hf).mp happ).1 ⟨rfl, State.Warmed39.refl s, rfl⟩ trivial
  refine ⟨n, _, h1, h2, h3, hpost _ _ _ _ _ _ ⟨Cond.after_iff.mpr rfl, Cond.after_iff.mpr (eq_i res_at (Term.int_eval (1)) rfl), trivial⟩ ⟨hq.1, hq.2.1, (hq.2.2.sift fun y hy => Or.inr (N y hy)).mono (by decide) (by decide)⟩⟩
theorem main_1_1 : Claimed_1_1 := comes_1 fun _ _ _ _ _ _ h hF => ⟨h.1, hF⟩
theorem main_1_2 : Claimed_1_2 := comes_1 fun _ _ _ _ _ _ h hF => ⟨h.2.1, hF⟩
end Jvm.Pilot.@@N@@
namespace Jvm.Pilot.@@N@@
open Jvm Jvm.ClassFile Sem Op Lib Jvm.Free Jvm.Stand Jvm.Pilot.@@N@@.Jvm.D
/-! MADE BY PROGRAM (witnessworld.py) out of the Statement's table words and the real class files: 13 classes; the members and pool entries that the words name. The judged class is class 1, her method 2. -/
namespace start1
open Jvm.ClassFile
def u (s : String) : CpInfo := .utf8 (stringToUtf16 s)
/-- a pool by its gaps: so many unusable entries, then the entry; so many at the end -/
def gap : Nat → List CpInfo → List CpInfo
  | 0, r => r
  | n + 1, r => .unusable :: gap n r
def poolList (es : List (Nat × CpInfo)) (last : Nat) : List CpInfo := es.foldr (fun e r => gap e.1 (e.2 :: r)) (gap last [])
def pool (es : List (Nat × CpInfo)) (last : Nat) : Array CpInfo := ⟨poolList es last⟩
def fileOf (pool : Array CpInfo) (this : Nat) (attrs : Array Attribute := #[]) (ms : Array MethodInfo := #[]) (fl : Nat := 33) (sup : Nat := 0) (ifs : Array Nat := #[]) (fds : Array FieldInfo := #[]) : ClassFile where
  minorVersion := 0
  majorVersion := 65
  constantPool := pool
  accessFlags := fl
  thisClass := this
  superClass := sup
  interfaces := ifs
  fields := fds
  methods := ms
  attributes := attrs
def plain (name : String) (sup : Option ClassId) : Class where
  name := name
  kind := .ordinary
  loader := none
  accessFlags := 33
  super := sup
  interfaces := #[]
  cf := none
  fields := #[]
  methods := #[]
  instanceTypes := #[]
  staticTypes := #[]
  resolved := #[]
  callSites := []
  init := .initialized
  statics := none
  mirror := none

def pool0 : Array CpInfo := pool [(5, u "<init>"), (0, u "()V"), (1, .class_ 10), (1, u "java/lang/Object"), (85, u "clone"), (0, u "()Ljava/lang/Object;")] 26

def k0c0 : Code := { maxStack := 0, maxLocals := 1, code := object_method_1_code, exceptionTable := #[], attributes := #[] }
def k0m0 : Method := { name := "<init>", desc := "()V", sig := { parameters := [], returnType := none }, accessFlags := 1, code := some k0c0 }
def k0m1 : Method := { name := "clone", desc := "()Ljava/lang/Object;", sig := { parameters := [], returnType := some (.object "java/lang/Object") }, accessFlags := 260, code := none }
/-- java/lang/Object -/
def k0 : Class := { plain "java/lang/Object" none with
  accessFlags := 33
  interfaces := #[]
  cf := some (fileOf pool0 8 #[] #[{ accessFlags := 1, nameIndex := 5, descriptorIndex := 6, attributes := #[] }, { accessFlags := 260, nameIndex := 96, descriptorIndex := 97, attributes := #[] }] 33 0 #[] #[])
  fields := #[]
  methods := #[k0m0, k0m1]
  instanceTypes := #[]
  staticTypes := #[]
  resolved := Array.replicate 124 none
  statics := none }

def pool1 : Array CpInfo := pool [(2, .class_ 4), (1, u "java/lang/Object"), (0, u "<init>"), (0, u "()V"), (0, .integer 2147483647), (0, .fieldref 9 10), (0, .class_ 11), (0, .nameAndType 12 13), (0, u "com/example/tidelog/tidelog/Simulation$Policy"), (0, u "COMPLETE"), (0, u "Lcom/example/tidelog/tidelog/Simulation$Policy;"), (0, .fieldref 9 15), (0, .nameAndType 16 13), (0, u "NONE"), (0, .fieldref 9 18), (0, .nameAndType 19 13), (0, u "PARTIAL"), (0, .class_ 21), (0, u "com/example/tidelog/tidelog/Simulation"), (0, .methodref 23 24), (0, .class_ 25), (0, .nameAndType 26 27), (0, u "com/example/tidelog/tidelog/SimulationUpdatesPerRunPinLaw"), (0, u "policyOf"), (0, u "(I)Lcom/example/tidelog/tidelog/Simulation$Policy;"), (0, .methodref 20 29), (0, .nameAndType 5 30), (0, u "([DIIILcom/example/tidelog/tidelog/Simulation$Policy;I)V"), (0, .methodref 20 32), (0, .nameAndType 33 34), (0, u "updatesPerRun"), (0, u "()J"), (3, u "law"), (0, u "(IIIIII)Z")] 6

def k1m0 : Method := { name := "<init>", desc := "()V", sig := { parameters := [], returnType := none }, accessFlags := 2, code := none }
def k1c1 : Code := { maxStack := 2, maxLocals := 2, code := method_2_code, exceptionTable := #[], attributes := #[] }
def k1m1 : Method := { name := "policyOf", desc := "(I)Lcom/example/tidelog/tidelog/Simulation$Policy;", sig := { parameters := [.int], returnType := some (.object "com/example/tidelog/tidelog/Simulation$Policy") }, accessFlags := 10, code := some k1c1 }
def k1c2 : Code := { maxStack := 8, maxLocals := 12, code := code, exceptionTable := #[], attributes := #[] }
def k1m2 : Method := { name := "law", desc := "(IIIIII)Z", sig := { parameters := [.int, .int, .int, .int, .int, .int], returnType := some .boolean }, accessFlags := 9, code := some k1c2 }
/-- com/example/tidelog/tidelog/SimulationUpdatesPerRunPinLaw -/
def k1 : Class := { plain "com/example/tidelog/tidelog/SimulationUpdatesPerRunPinLaw" (some 0) with
  accessFlags := 49
  interfaces := #[]
  cf := some (fileOf pool1 23 #[] #[{ accessFlags := 2, nameIndex := 5, descriptorIndex := 6, attributes := #[] }, { accessFlags := 10, nameIndex := 26, descriptorIndex := 27, attributes := #[] }, { accessFlags := 9, nameIndex := 38, descriptorIndex := 39, attributes := #[] }] 49 2 #[] #[])
  fields := #[]
  methods := #[k1m0, k1m1, k1m2]
  instanceTypes := #[]
  staticTypes := #[]
  resolved := Array.replicate 46 none
  statics := none }

def pool2 : Array CpInfo := pool [(1, .methodref 2 3), (0, .class_ 4), (0, .nameAndType 5 6), (0, u "java/lang/Object"), (0, u "<init>"), (0, u "()V"), (0, .methodref 8 9), (0, .class_ 10), (0, .nameAndType 11 12), (0, u "[D"), (0, u "clone"), (0, u "()Ljava/lang/Object;"), (0, .fieldref 14 15), (0, .class_ 16), (0, .nameAndType 17 10), (0, u "com/example/tidelog/tidelog/Simulation"), (0, u "probabilities"), (0, .fieldref 14 19), (0, .nameAndType 20 21), (0, u "slots"), (0, u "I"), (0, .fieldref 14 23), (0, .nameAndType 24 21), (0, u "slotSeconds"), (0, .fieldref 14 26), (0, .nameAndType 27 21), (0, u "updatesPerSlot"), (0, .fieldref 14 29), (0, .nameAndType 30 31), (0, u "policy"), (0, u "Lcom/example/tidelog/tidelog/Simulation$Policy;"), (0, .fieldref 14 33), (0, .nameAndType 34 21), (0, u "quorum"), (24, .class_ 61), (1, u "com/example/tidelog/tidelog/Simulation$Policy"), (73, u "()J"), (54, .class_ 191), (0, u "com/example/tidelog/tidelog/Simulation$Run"), (16, u "WRITER"), (0, u "Ljava/lang/String;"), (1, u "([DIIILcom/example/tidelog/tidelog/Simulation$Policy;I)V"), (2, u "updatesPerRun")] 32

def k2c0 : Code := { maxStack := 2, maxLocals := 7, code := prog_30_method_1_code, exceptionTable := #[], attributes := #[] }
def k2m0 : Method := { name := "<init>", desc := "([DIIILcom/example/tidelog/tidelog/Simulation$Policy;I)V", sig := { parameters := [(.array .double), .int, .int, .int, (.object "com/example/tidelog/tidelog/Simulation$Policy"), .int], returnType := none }, accessFlags := 0, code := some k2c0 }
def k2c1 : Code := { maxStack := 4, maxLocals := 1, code := prog_30_method_2_code, exceptionTable := #[], attributes := #[] }
def k2m1 : Method := { name := "updatesPerRun", desc := "()J", sig := { parameters := [], returnType := some .long }, accessFlags := 0, code := some k2c1 }
/-- com/example/tidelog/tidelog/Simulation -/
def k2 : Class := { plain "com/example/tidelog/tidelog/Simulation" (some 0) with
  accessFlags := 48
  interfaces := #[]
  cf := some (fileOf pool2 14 #[.nestMembers #[190, 59]] #[{ accessFlags := 0, nameIndex := 5, descriptorIndex := 211, attributes := #[] }, { accessFlags := 0, nameIndex := 214, descriptorIndex := 135, attributes := #[] }] 48 2 #[] #[{ accessFlags := 26, nameIndex := 208, descriptorIndex := 209, attributes := #[] }, { accessFlags := 18, nameIndex := 17, descriptorIndex := 10, attributes := #[] }, { accessFlags := 18, nameIndex := 20, descriptorIndex := 21, attributes := #[] }, { accessFlags := 18, nameIndex := 24, descriptorIndex := 21, attributes := #[] }, { accessFlags := 18, nameIndex := 27, descriptorIndex := 21, attributes := #[] }, { accessFlags := 18, nameIndex := 30, descriptorIndex := 31, attributes := #[] }, { accessFlags := 18, nameIndex := 34, descriptorIndex := 21, attributes := #[] }])
  fields := #[{ name := "WRITER", type := (.object "java/lang/String"), accessFlags := 26, slot := 0, constantValue := 0 }, { name := "probabilities", type := (.array .double), accessFlags := 18, slot := 0, constantValue := 0 }, { name := "slots", type := .int, accessFlags := 18, slot := 1, constantValue := 0 }, { name := "slotSeconds", type := .int, accessFlags := 18, slot := 2, constantValue := 0 }, { name := "updatesPerSlot", type := .int, accessFlags := 18, slot := 3, constantValue := 0 }, { name := "policy", type := (.object "com/example/tidelog/tidelog/Simulation$Policy"), accessFlags := 18, slot := 4, constantValue := 0 }, { name := "quorum", type := .int, accessFlags := 18, slot := 5, constantValue := 0 }]
  methods := #[k2m0, k2m1]
  instanceTypes := #[(.array .double), .int, .int, .int, (.object "com/example/tidelog/tidelog/Simulation$Policy"), .int]
  staticTypes := #[(.object "java/lang/String")]
  resolved := Array.replicate 247 none
  statics := none }

def pool3 : Array CpInfo := pool [(1, .class_ 2), (0, u "java/lang/constant/Constable"), (0, .class_ 4), (0, u "java/lang/Object")] 6

/-- java/lang/constant/Constable -/
def k3 : Class := { plain "java/lang/constant/Constable" (some 0) with
  accessFlags := 1537
  interfaces := #[]
  cf := some (fileOf pool3 1 #[] #[] 1537 3 #[] #[])
  fields := #[]
  methods := #[]
  instanceTypes := #[]
  staticTypes := #[]
  resolved := Array.replicate 11 none
  statics := none }

def pool4 : Array CpInfo := pool [(1, .class_ 2), (0, u "java/lang/Comparable"), (0, .class_ 4), (0, u "java/lang/Object")] 7

/-- java/lang/Comparable -/
def k4 : Class := { plain "java/lang/Comparable" (some 0) with
  accessFlags := 1537
  interfaces := #[]
  cf := some (fileOf pool4 1 #[] #[] 1537 3 #[] #[])
  fields := #[]
  methods := #[]
  instanceTypes := #[]
  staticTypes := #[]
  resolved := Array.replicate 12 none
  statics := none }

def pool5 : Array CpInfo := pool [(1, .class_ 2), (0, u "java/io/Serializable"), (0, .class_ 4), (0, u "java/lang/Object")] 2

/-- java/io/Serializable -/
def k5 : Class := { plain "java/io/Serializable" (some 0) with
  accessFlags := 1537
  interfaces := #[]
  cf := some (fileOf pool5 1 #[] #[] 1537 3 #[] #[])
  fields := #[]
  methods := #[]
  instanceTypes := #[]
  staticTypes := #[]
  resolved := Array.replicate 7 none
  statics := none }

def pool6 : Array CpInfo := pool [(2, .class_ 4), (1, u "java/lang/Enum"), (0, u "name"), (0, u "Ljava/lang/String;"), (2, u "ordinal"), (0, u "I"), (1, .class_ 14), (1, u "java/lang/Object"), (4, u "hash"), (86, .class_ 108), (1, u "java/lang/Enum$EnumDesc"), (2, .class_ 112), (0, u "java/lang/constant/Constable"), (0, .class_ 114), (0, u "java/lang/Comparable"), (0, .class_ 116), (0, u "java/io/Serializable")] 87

/-- java/lang/Enum -/
def k6 : Class := { plain "java/lang/Enum" (some 0) with
  accessFlags := 1057
  interfaces := #[3, 4, 5]
  cf := some (fileOf pool6 2 #[.nestMembers #[106]] #[] 1057 12 #[111, 113, 115] #[{ accessFlags := 18, nameIndex := 5, descriptorIndex := 6, attributes := #[] }, { accessFlags := 18, nameIndex := 9, descriptorIndex := 10, attributes := #[] }, { accessFlags := 2, nameIndex := 19, descriptorIndex := 10, attributes := #[] }])
  fields := #[{ name := "name", type := (.object "java/lang/String"), accessFlags := 18, slot := 0, constantValue := 0 }, { name := "ordinal", type := .int, accessFlags := 18, slot := 1, constantValue := 0 }, { name := "hash", type := .int, accessFlags := 2, slot := 2, constantValue := 0 }]
  methods := #[]
  instanceTypes := #[(.object "java/lang/String"), .int, .int]
  staticTypes := #[]
  resolved := Array.replicate 204 none
  statics := none }

def pool7 : Array CpInfo := pool [(1, .class_ 2), (0, u "com/example/tidelog/tidelog/Simulation$Policy"), (2, u "COMPLETE"), (0, u "Lcom/example/tidelog/tidelog/Simulation$Policy;"), (2, u "NONE"), (2, u "PARTIAL"), (2, u "$VALUES"), (0, u "[Lcom/example/tidelog/tidelog/Simulation$Policy;"), (6, .class_ 25), (1, u "java/lang/Enum"), (8, u "engine"), (0, u "Lcom/example/tidelog/tidelog/Pruning;"), (29, .class_ 66), (0, u "com/example/tidelog/tidelog/Simulation")] 2

/-- com/example/tidelog/tidelog/Simulation$Policy -/
def k7 : Class := { plain "com/example/tidelog/tidelog/Simulation$Policy" (some 6) with
  accessFlags := 16432
  interfaces := #[]
  cf := some (fileOf pool7 1 #[.nestHost 65] #[] 16432 23 #[] #[{ accessFlags := 16409, nameIndex := 5, descriptorIndex := 6, attributes := #[] }, { accessFlags := 16409, nameIndex := 9, descriptorIndex := 6, attributes := #[] }, { accessFlags := 16409, nameIndex := 12, descriptorIndex := 6, attributes := #[] }, { accessFlags := 18, nameIndex := 34, descriptorIndex := 35, attributes := #[] }, { accessFlags := 4122, nameIndex := 15, descriptorIndex := 16, attributes := #[] }])
  fields := #[{ name := "COMPLETE", type := (.object "com/example/tidelog/tidelog/Simulation$Policy"), accessFlags := 16409, slot := 0, constantValue := 0 }, { name := "NONE", type := (.object "com/example/tidelog/tidelog/Simulation$Policy"), accessFlags := 16409, slot := 1, constantValue := 0 }, { name := "PARTIAL", type := (.object "com/example/tidelog/tidelog/Simulation$Policy"), accessFlags := 16409, slot := 2, constantValue := 0 }, { name := "engine", type := (.object "com/example/tidelog/tidelog/Pruning"), accessFlags := 18, slot := 3, constantValue := 0 }, { name := "$VALUES", type := (.array (.object "com/example/tidelog/tidelog/Simulation$Policy")), accessFlags := 4122, slot := 3, constantValue := 0 }]
  methods := #[]
  instanceTypes := #[(.object "java/lang/String"), .int, .int, (.object "com/example/tidelog/tidelog/Pruning")]
  staticTypes := #[(.object "com/example/tidelog/tidelog/Simulation$Policy"), (.object "com/example/tidelog/tidelog/Simulation$Policy"), (.object "com/example/tidelog/tidelog/Simulation$Policy"), (.array (.object "com/example/tidelog/tidelog/Simulation$Policy"))]
  resolved := Array.replicate 69 none
  statics := some 0 }

def pool8 : Array CpInfo := pool [(1, .class_ 2), (0, u "java/lang/Cloneable"), (0, .class_ 4), (0, u "java/lang/Object")] 2

/-- java/lang/Cloneable -/
def k8 : Class := { plain "java/lang/Cloneable" (some 0) with
  accessFlags := 1537
  interfaces := #[]
  cf := some (fileOf pool8 1 #[] #[] 1537 3 #[] #[])
  fields := #[]
  methods := #[]
  instanceTypes := #[]
  staticTypes := #[]
  resolved := Array.replicate 7 none
  statics := none }

/-- the primitive byte -/
def k9 : Class := { plain "byte" none with kind := .primitive 'B', accessFlags := 0x411 }
/-- [B -/
def k10 : Class := { plain "[B" (some 0) with kind := .array 9 .byte, interfaces := #[8, 5], accessFlags := 1041 }

/-- the primitive int -/
def k11 : Class := { plain "int" none with kind := .primitive 'I', accessFlags := 0x411 }
/-- [I -/
def k12 : Class := { plain "[I" (some 0) with kind := .array 11 .int, interfaces := #[8, 5], accessFlags := 1041 }

/-- the primitive double -/
def k13 : Class := { plain "double" none with kind := .primitive 'D', accessFlags := 0x411 }
/-- [D -/
def k14 : Class := { plain "[D" (some 0) with kind := .array 13 .double, interfaces := #[8, 5], accessFlags := 1041 }
def heap : Heap := #[{ cls := 7, slots := #[.ref 1, .ref 2, .ref 3, .null], vm := .statics 7 },
  { cls := 7, slots := #[.null, .int 0, .int 0, .null], vm := .none },
  { cls := 7, slots := #[.null, .int 0, .int 0, .null], vm := .none },
  { cls := 7, slots := #[.null, .int 0, .int 0, .null], vm := .none }]
def classes : Array Class := #[k0, k1, k2, k3, k4, k5, k6, k7, k8, k9, k10, k11, k12, k13, k14]
def interned : List (Array UInt16 × Addr) := []
def slotsUsed : Nat := 16
def theMethod : MethodId := ⟨1, 2⟩
def args0 : Array Value := #[.int 1, .int 9, .int 3, .int 4, .int 5, .int 6]
def aboutOver (below : List Frame) : State where
  vm := { classes := classes, interned := interned.toArray }
  heap := heap
  slotsUsed := slotsUsed
  threads := #[{ frames := .invoking theMethod args0 :: below }]
def below0 : List Frame := [.native { method := ⟨0, 0⟩, args := #[] }]
def about1 : State := aboutOver below0
def p0 : Program := .bare "" "" ""
def e0 : Env := launch0.env 0 0 0
theorem w_frames : about1.frames = Frame.invoking theMethod args0 :: below0 := rfl
set_option maxRecDepth 65536 in
theorem w_args : argsFit about1.vm theMethod args0 = true := by decide +kernel
set_option maxRecDepth 65536 in
theorem w_heap : heapFits about1 = true := by decide +kernel
set_option maxRecDepth 65536 in
theorem w_runnable : about1.curStatus? = some .runnable := by decide +kernel
set_option maxRecDepth 65536 in
theorem w_alone : about1.alone = true := by decide +kernel
set_option maxRecDepth 65536 in
theorem w_named : about1.methodNamed? x = some theMethod := by decide +kernel
set_option maxRecDepth 65536 in
theorem w_hears : about1.hears theMethod below0 = true := by decide +kernel
set_option maxRecDepth 65536 in
theorem w_ripe : about1.ripe theMethod args0 below0 = true := by decide +kernel
theorem w_running : about1.status = .running := rfl
set_option maxRecDepth 65536 in
theorem w_room : about1.hasRoom e0.platform room_1 = true :=
  launch0.hasRoom_least _ room_1 (by decide +kernel) (by decide +kernel) (by decide +kernel) (by decide +kernel) (by decide +kernel) (by decide +kernel)
theorem allAtoms_all (ts : List Jvm.Cond) (a : Array Jvm.Value) (st : Jvm.State) : (allAtoms ts).before a st = ts.all (fun c => c.before a st) := by
  induction ts with
  | nil => rfl
  | cons c t ih =>
    show (Jvm.Cond.and c (allAtoms t)).before a st = _
    rw [Jvm.Cond.before_and, ih, List.all_cons]
def words1 : List Jvm.Cond := Jvm.Cond.code x code maxLocals ret :: tables_1
/-- a 'code' word, met by the world's own term for the bytes: nothing is compared byte by byte -/
theorem code_word {y : MethodName} {bytes : ByteArray} {mx : Nat} {rt : Option FieldType} {a : Array Value} {s : State} {m : MethodId} {meth : Method} {c : Code} (h1 : s.methodNamed? y = some m) (h2 : s.vm.method? m = some meth) (h3 : meth.code = some c) (h4 : c.code = bytes)
    (h5 : (c.maxLocals == mx && c.exceptionTable.isEmpty && decide (c.maxStack ≤ mostOperands) && decide (meth.sig.returnType = rt) && !meth.locks && decide (parseMethodDescriptor y.desc = some meth.sig)) = true) : (Jvm.Cond.code y bytes mx rt).before a s = true := by
  simp only [Bool.and_eq_true, beq_iff_eq, Bool.not_eq_true', decide_eq_true_eq] at h5
  obtain ⟨⟨⟨⟨⟨g1, g2⟩, g3⟩, g4⟩, g5⟩, g6⟩ := h5
  simp [Cond.before, Cond.holds, Cond.value, h1, h2, h3, h4, g1, g2, g3, g4, g5, g6]
def isCode : Jvm.Cond → Bool
  | .code _ _ _ _ => true
  | _ => false
theorem all_split {L : List Jvm.Cond} {P : Jvm.Cond → Bool} (h1 : L.all (fun c => isCode c || P c) = true) (h2 : ∀ c ∈ L.filter isCode, P c = true) : L.all P = true := by
  refine List.all_eq_true.mpr fun c hc => ?_
  have h := List.all_eq_true.mp h1 c hc
  rcases Bool.eq_false_or_eq_true (isCode c) with hi | hi
  · exact h2 c (List.mem_filter.mpr ⟨hc, hi⟩)
  · simpa [hi] using h
set_option maxRecDepth 65536 in
theorem w_c0 : (Jvm.Cond.code x code maxLocals ret).before args0 about1 = true := code_word (m := ⟨1, 2⟩) (meth := k1m2) (c := k1c2) (by decide +kernel) rfl rfl rfl (by decide +kernel)
set_option maxRecDepth 65536 in
theorem w_c1 : (Jvm.Cond.code ({ cls := "com/example/tidelog/tidelog/SimulationUpdatesPerRunPinLaw", name := "policyOf", desc := "(I)Lcom/example/tidelog/tidelog/Simulation$Policy;" } : Jvm.MethodName) method_2_code (2 : Nat) (Option.some (Jvm.ClassFile.FieldType.object "com/example/tidelog/tidelog/Simulation$Policy"))).before args0 about1 = true := code_word (m := ⟨1, 1⟩) (meth := k1m1) (c := k1c1) (by decide +kernel) rfl rfl rfl (by decide +kernel)
set_option maxRecDepth 65536 in
theorem w_c2 : (Jvm.Cond.code ({ cls := "com/example/tidelog/tidelog/Simulation", name := "<init>", desc := "([DIIILcom/example/tidelog/tidelog/Simulation$Policy;I)V" } : Jvm.MethodName) prog_30_method_1_code (7 : Nat) (Option.none : Option Jvm.ClassFile.FieldType)).before args0 about1 = true := code_word (m := ⟨2, 0⟩) (meth := k2m0) (c := k2c0) (by decide +kernel) rfl rfl rfl (by decide +kernel)
set_option maxRecDepth 65536 in
theorem w_c3 : (Jvm.Cond.code ({ cls := "java/lang/Object", name := "<init>", desc := "()V" } : Jvm.MethodName) object_method_1_code (1 : Nat) (Option.none : Option Jvm.ClassFile.FieldType)).before args0 about1 = true := code_word (m := ⟨0, 0⟩) (meth := k0m0) (c := k0c0) (by decide +kernel) rfl rfl rfl (by decide +kernel)
set_option maxRecDepth 65536 in
theorem w_c4 : (Jvm.Cond.code ({ cls := "com/example/tidelog/tidelog/Simulation", name := "updatesPerRun", desc := "()J" } : Jvm.MethodName) prog_30_method_2_code (1 : Nat) (Option.some Jvm.ClassFile.FieldType.long)).before args0 about1 = true := code_word (m := ⟨2, 1⟩) (meth := k2m1) (c := k2c1) (by decide +kernel) rfl rfl rfl (by decide +kernel)
def codes1 : List Jvm.Cond := [Jvm.Cond.code x code maxLocals ret, Jvm.Cond.code ({ cls := "com/example/tidelog/tidelog/SimulationUpdatesPerRunPinLaw", name := "policyOf", desc := "(I)Lcom/example/tidelog/tidelog/Simulation$Policy;" } : Jvm.MethodName) method_2_code (2 : Nat) (Option.some (Jvm.ClassFile.FieldType.object "com/example/tidelog/tidelog/Simulation$Policy")), Jvm.Cond.code ({ cls := "com/example/tidelog/tidelog/Simulation", name := "<init>", desc := "([DIIILcom/example/tidelog/tidelog/Simulation$Policy;I)V" } : Jvm.MethodName) prog_30_method_1_code (7 : Nat) (Option.none : Option Jvm.ClassFile.FieldType), Jvm.Cond.code ({ cls := "java/lang/Object", name := "<init>", desc := "()V" } : Jvm.MethodName) object_method_1_code (1 : Nat) (Option.none : Option Jvm.ClassFile.FieldType), Jvm.Cond.code ({ cls := "com/example/tidelog/tidelog/Simulation", name := "updatesPerRun", desc := "()J" } : Jvm.MethodName) prog_30_method_2_code (1 : Nat) (Option.some Jvm.ClassFile.FieldType.long)]
set_option maxRecDepth 65536 in
theorem codes_eq : words1.filter isCode = codes1 := rfl
theorem w_codes : ∀ c ∈ words1.filter isCode, c.before args0 about1 = true := by
  rw [codes_eq]
  intro c hc
  simp only [codes1, List.mem_cons, List.not_mem_nil, or_false] at hc
  rcases hc with rfl | rfl | rfl | rfl | rfl
  · exact w_c0
  · exact w_c1
  · exact w_c2
  · exact w_c3
  · exact w_c4
set_option maxRecDepth 65536 in
theorem w_t1 : (words1.take 24).all (fun c => isCode c || c.before args0 about1) = true := by decide +kernel
set_option maxRecDepth 65536 in
theorem w_t2 : ((words1.drop 24).take 24).all (fun c => isCode c || c.before args0 about1) = true := by decide +kernel
set_option maxRecDepth 65536 in
theorem w_t3 : ((words1.drop 24).drop 24).all (fun c => isCode c || c.before args0 about1) = true := by decide +kernel
theorem w_tables : (allAtoms (Jvm.Cond.code x code maxLocals ret :: tables_1)).before args0 about1 = true := by
  rw [allAtoms_all]
  show words1.all (fun c => c.before args0 about1) = true
  refine all_split ?_ w_codes
  rw [← List.take_append_drop 24 words1, List.all_append, w_t1, ← List.take_append_drop 24 (words1.drop 24), List.all_append, w_t2, w_t3]
  rfl
set_option maxRecDepth 65536 in
theorem w_case : (Jvm.Cond.and given_1 narrow_1).before args0 about1 = true := by decide +kernel
theorem w_applies : (headSpec (Jvm.Cond.code x code maxLocals ret :: tables_1) room_1).applies x e0.platform about1 = true :=
  (Spec.applies_iff w_frames).mpr ⟨w_running, w_runnable, w_alone, w_named, w_hears, w_ripe, w_room, w_tables⟩
theorem atStart : AtStart classFile x code maxLocals ret World_1 tables_1 room_1 Calls_1 rest_1 Pre_1 launch0 p0 e0 about1 theMethod args0 below0 :=
  ⟨lists_1, trivial, launch0.admits_env _ _ _, launch0.least_env, fairChoices_fair.cas, fairChoices_fair.clock, w_frames, w_args, w_heap, w_applies, trivial, trivial, w_case⟩
end start1
theorem witness_1 : WitnessClaimed_1 := ⟨start1.p0, start1.e0, start1.about1, start1.theMethod, start1.args0, start1.below0, start1.atStart⟩
end Jvm.Pilot.@@N@@
