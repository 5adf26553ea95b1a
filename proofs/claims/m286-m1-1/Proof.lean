import JvmDerived
import JvmDerived.Pilot.@@N@@Statement
import JvmDerived.Pilot.@@N@@Code
set_option linter.unusedVariables false
set_option linter.unusedSimpArgs false

namespace Jvm.RoadKit
open Sem ClassFile Op Lib Jvm.Stand Jvm.Free Jvm.LawKit
/-- the run from S comes to an end that K allows -/
def own_G (p : Program) (e : Env) (below : List Frame) (K : Outcome → State → Prop) (S : State) : Prop := ∃ s₂ o, Steps p.tables e below S s₂ ∧ s₂.status = .running ∧ Ended s₂ below o ∧ K o s₂
section Own
variable {p : Program} {l : Launch} {e : Env} {R : Room} {s : State} {m : MethodId} {args : Array Value} {below : List Frame} {meth : Method} {c : Code} {T : State} {locs : List Loc} {cells slots : Nat} {K : Outcome → State → Prop} {S S' : State}
theorem own_go (h : ∀ t, Steps p.tables e below S' t → Steps p.tables e below S t) (g : own_G p e below K S') : own_G p e below K S := by
  obtain ⟨s₂, o, h1, h2⟩ := g; exact ⟨s₂, o, h _ h1, h2⟩
theorem own_tr (h : Steps p.tables e below S S') (g : own_G p e below K S') : own_G p e below K S := by
  obtain ⟨s₂, o, h1, h2⟩ := g; exact ⟨s₂, o, h.trans h1, h2⟩
theorem own_cast {g g' : JFrame} (q : g = g') (k : own_G p e below K (T.setTop g')) : own_G p e below K (T.setTop g) := q ▸ k
theorem own_end {v : Option Value} (X : Stand p l e R s m args below meth c T locs cells slots) (hv : meth.sig.returnType = none → v = none) (hlocks : meth.locks = false)
    (hst : ∀ fs, (∀ (f : JFrame) (acts : List Action), f.method = m → f.locked = none → f.entered = [] → (doReturn e (T.setTop f) acts v).1 = T.setFrames fs) → Steps p.tables e below S (T.setFrames fs))
    (hk : ∀ U : State, U.heap = T.heap → U.vm = T.vm → FrameEnd s (.returned v) U locs cells slots → K (.returned v) U) : own_G p e below K S := by
  obtain ⟨fs, hr, hrun, hended, hW, hsame⟩ := X.leave (v := v) hv hlocks
  exact ⟨_, _, hst fs hr, hrun, hended, hk _ rfl rfl ⟨⟨_, rfl⟩, hW, hsame⟩⟩
theorem own_retN (X : Stand p l e R s m args below meth c T locs cells slots) (hx : p.tables.exec = Jvm.exec) (hlocks : meth.locks = false) {pc : Nat} {Ls : Array Slot} {z z' : Int32} {t : FieldType} {rest : List Value} (hret : meth.sig.returnType = some t) (ht : t = .boolean ∨ t = .byte ∨ t = .char ∨ t = .short)
    (hd : decode c.code pc = .ok (.ireturn, 1)) (hz : nar t z = z') (hk : ∀ U : State, U.heap = T.heap → U.vm = T.vm → FrameEnd s (.returned (some (.int z'))) U locs cells slots → K (.returned (some (.int z'))) U) :
    own_G p e below K (T.setTop (mkF m pc Ls (.int z :: rest))) := by
  subst hz
  exact own_end X (fun h => by rw [hret] at h; cases h) hlocks (fun fs hr => retN X hx hret ht hd hr) hk
theorem own_retI (X : Stand p l e R s m args below meth c T locs cells slots) (hx : p.tables.exec = Jvm.exec) (hlocks : meth.locks = false) {pc : Nat} {Ls : Array Slot} {z : Int32} {rest : List Value} (hret : meth.sig.returnType = some .int)
    (hd : decode c.code pc = .ok (.ireturn, 1)) (hk : ∀ U : State, U.heap = T.heap → U.vm = T.vm → FrameEnd s (.returned (some (.int z))) U locs cells slots → K (.returned (some (.int z))) U) :
    own_G p e below K (T.setTop (mkF m pc Ls (.int z :: rest))) :=
  own_end X (fun h => by rw [hret] at h; cases h) hlocks (fun fs hr => retOut X hx hret rfl (Or.inl ⟨rfl, Or.inl rfl, z, rfl⟩) hd hr) hk
theorem own_retJ (X : Stand p l e R s m args below meth c T locs cells slots) (hx : p.tables.exec = Jvm.exec) (hlocks : meth.locks = false) {pc : Nat} {Ls : Array Slot} {z : Int64} {rest : List Value} (hret : meth.sig.returnType = some .long)
    (hd : decode c.code pc = .ok (.lreturn, 1)) (hk : ∀ U : State, U.heap = T.heap → U.vm = T.vm → FrameEnd s (.returned (some (.long z))) U locs cells slots → K (.returned (some (.long z))) U) :
    own_G p e below K (T.setTop (mkF m pc Ls (.long z :: rest))) :=
  own_end X (fun h => by rw [hret] at h; cases h) hlocks (fun fs hr => retOut X hx hret rfl (Or.inr (Or.inl ⟨rfl, rfl, z, rfl⟩)) hd hr) hk
theorem own_retR (X : Stand p l e R s m args below meth c T locs cells slots) (hx : p.tables.exec = Jvm.exec) (hlocks : meth.locks = false) {pc : Nat} {Ls : Array Slot} {w : Value} {t : FieldType} {rest : List Value} (hret : meth.sig.returnType = some t) (ht : t.isReference = true) (hw : w.isRef = true)
    (hd : decode c.code pc = .ok (.areturn, 1)) (hk : ∀ U : State, U.heap = T.heap → U.vm = T.vm → FrameEnd s (.returned (some w)) U locs cells slots → K (.returned (some w)) U) :
    own_G p e below K (T.setTop (mkF m pc Ls (w :: rest))) :=
  own_end X (fun h => by rw [hret] at h; cases h) hlocks (fun fs hr => retOut X hx hret (by cases w <;> cases t <;> first | rfl | simp [Value.isRef, FieldType.isReference] at hw ht) (Or.inr (Or.inr (Or.inr (Or.inr ⟨rfl, ht, hw⟩)))) hd hr) hk
theorem own_retV (X : Stand p l e R s m args below meth c T locs cells slots) (hx : p.tables.exec = Jvm.exec) (hlocks : meth.locks = false) {pc : Nat} {Ls : Array Slot} (hret : meth.sig.returnType = none)
    (hd : decode c.code pc = .ok (.return_, 1)) (hk : ∀ U : State, U.heap = T.heap → U.vm = T.vm → FrameEnd s (.returned none) U locs cells slots → K (.returned none) U) :
    own_G p e below K (T.setTop (mkF m pc Ls [])) :=
  own_end X (fun _ => rfl) hlocks (fun fs hr => X.returnOut hx hret hd hr) hk
end Own
end Jvm.RoadKit
namespace Jvm.Pilot.@@N@@
open Jvm Jvm.ClassFile Sem Op Lib Jvm.Free Jvm.Stand Jvm.LawKit Jvm.RoadKit Bundle Jvm.Pilot.@@N@@.Jvm.D
theorem own_b0 {z : Int32} {P : Prop} [Decidable P] (h : z = if P then 1 else 0) (q : ¬ P) : z = 0 := by rw [h, if_neg q]
theorem own_b1 {z : Int32} {P : Prop} [Decidable P] (h : z = if P then 1 else 0) (q : P) : ¬ z = 0 := by rw [h, if_pos q]; decide
theorem own_bn {z : Int32} {P : Prop} [Decidable P] (h : z = if P then 0 else 1) : z = if ¬ P then 1 else 0 := by by_cases q : P <;> simp [h, q]
theorem own_fldI {args : Array Value} {s : State} {t : Term} {C n d : String} {z : Int32} {a : Addr} (ht : t.eval args s none [] s = some (.ref a)) (h : (Jvm.Cond.eq (Term.field t C n d) (Term.int z)).value args s none s [] = some true) : Fld s s.heap a C n d (.int z) := by
  obtain ⟨x, y, h1, h2, k1, k2⟩ := cmp_v (Or.inl h)
  have h3 : (Term.int z).eval args s none [] s = some (.int z) := rfl
  obtain rfl : y = .int z := Option.some.inj (h2.symm.trans h3)
  obtain ⟨w, rfl⟩ := k2
  have e : w = z := by simp only [Cond.value, h1, h3] at h; simpa using h
  subst e
  exact Fld.start (by rw [← fld_at ht]; exact h1)
theorem own_stakeep {Z : State} {h h' : Heap} {C n d : String} {v : Value} {ws : List Addr} (F : Sta Z h C n d v) (K : Keep h h' ws) (q : ∀ a ∈ ws, ∀ cell : Cell, h[a]? = some cell → cell.vm.isStatics = false) : Sta Z h' C n d v := by
  obtain ⟨cf, i, k, f, st, cell, h1, h2, h3, h4, h5, h6, h7⟩ := F
  exact ⟨cf, i, k, f, st, cell, h1, h2, h3, h4, K.2.1 _ _ h5 (fun hm => by rw [q _ hm _ h5] at h6; cases h6), h6, h7⟩
theorem own_nb {z : Int32} {P : Prop} [Decidable P] (h : z = if P then 1 else 0) : nar .boolean z = z := by by_cases q : P <;> simp [h, q] <;> rfl
def own_dir (c : Int32) : Int32 := if (8234 ≤ c.toInt ∧ c.toInt ≤ 8238) ∨ (8294 ≤ c.toInt ∧ c.toInt ≤ 8297) then 1 else 0
def own_exp (c : Int32) : Int32 := if c.toInt = 8234 ∨ c.toInt = 8235 ∨ c.toInt = 8236 ∨ c.toInt = 8237 ∨ c.toInt = 8238 ∨ c.toInt = 8294 ∨ c.toInt = 8295 ∨ c.toInt = 8296 ∨ c.toInt = 8297 then 1 else 0
theorem own_de (c : Int32) : own_dir c = own_exp c := by
  unfold own_dir own_exp
  by_cases h : (8234 ≤ c.toInt ∧ c.toInt ≤ 8238) ∨ (8294 ≤ c.toInt ∧ c.toInt ≤ 8297)
  · rw [if_pos h, if_pos (by omega)]
  · rw [if_neg h, if_neg (by omega)]
theorem ddi_0 : decode prog_1_method_3_code 0 = .ok (.iload_n 0, 1) := by decide +kernel
theorem ddi_1 : decode prog_1_method_3_code 1 = .ok (.sipush 8234, 3) := by decide +kernel
theorem ddi_4 : decode prog_1_method_3_code 4 = .ok (.if_icmp .lt 10, 3) := by decide +kernel
theorem ddi_7 : decode prog_1_method_3_code 7 = .ok (.iload_n 0, 1) := by decide +kernel
theorem ddi_8 : decode prog_1_method_3_code 8 = .ok (.sipush 8238, 3) := by decide +kernel
theorem ddi_11 : decode prog_1_method_3_code 11 = .ok (.if_icmp .le 17, 3) := by decide +kernel
theorem ddi_14 : decode prog_1_method_3_code 14 = .ok (.iload_n 0, 1) := by decide +kernel
theorem ddi_15 : decode prog_1_method_3_code 15 = .ok (.sipush 8294, 3) := by decide +kernel
theorem ddi_18 : decode prog_1_method_3_code 18 = .ok (.if_icmp .lt 14, 3) := by decide +kernel
theorem ddi_21 : decode prog_1_method_3_code 21 = .ok (.iload_n 0, 1) := by decide +kernel
theorem ddi_22 : decode prog_1_method_3_code 22 = .ok (.sipush 8297, 3) := by decide +kernel
theorem ddi_25 : decode prog_1_method_3_code 25 = .ok (.if_icmp .gt 7, 3) := by decide +kernel
theorem ddi_28 : decode prog_1_method_3_code 28 = .ok (.iconst 1, 1) := by decide +kernel
theorem ddi_29 : decode prog_1_method_3_code 29 = .ok (.goto 4, 3) := by decide +kernel
theorem ddi_32 : decode prog_1_method_3_code 32 = .ok (.iconst 0, 1) := by decide +kernel
theorem ddi_33 : decode prog_1_method_3_code 33 = .ok (.ireturn, 1) := by decide +kernel
theorem own_pn0 : plainName "com/example/cropquota/cropquota/ControlCharacters" = true := by first | (simp [plainName, overriddenIn]; done) | decide +kernel
theorem efdi (m : MethodId) (p1 : Int32) : entryFrame m #[(.int p1)] 1 = mkF m 0 #[.val (.int p1)] [] := by first | (simp [entryFrame, mkF, argsToLocals, Value.category]; done) | rfl
def Q_di (Z : State) (p1 : Int32) (h0 : Heap) (n0 : Nat) (v : Option Value) (h : Heap) (L : List Loc) : Prop := v = some (.int (own_dir p1)) ∧ Fr n0 L ∧ h = h0
def K_di (Z : State) (p1 : Int32) (h0 : Heap) (n0 : Nat) (s : State) (o : Outcome) (U' : State) : Prop := ∃ v L, o = .returned v ∧ Q_di Z p1 h0 n0 v U'.heap L ∧ FrameEnd s o U' L 0 0
set_option maxRecDepth 65536 in
set_option maxHeartbeats 40000000 in
theorem rm_di (l : Launch) (Z : State) (a0 : Array Value) (hw : ∀ d ∈ tables_1, d.before a0 Z = true) (ws : List Jvm.Cond) (p1 : Int32) (h0 : Heap) (n0 : Nat) (Z0 : n0 ≤ h0.size) :
    MetFree l (⟨"com/example/cropquota/cropquota/ControlCharacters", "directional", "(C)Z"⟩ : MethodName) (head1 (Jvm.Cond.code (⟨"com/example/cropquota/cropquota/ControlCharacters", "directional", "(C)Z"⟩ : MethodName) prog_1_method_3_code 1 (some .boolean) :: ws) ({ frames := 0, cells := 0, slots := 0, locals := 0 } : Room)) (fun a U => a = #[(.int p1)] ∧ Z.Warmed39 U.vm ∧ U.heap = h0) (fun _ _ _ _ _ => True) (fun _ U o U' => ∃ v L, o = .returned v ∧ Q_di Z p1 h0 n0 v U'.heap L ∧ FrameEnd U o U' L ({ frames := 0, cells := 0, slots := 0, locals := 0 } : Room).cells ({ frames := 0, cells := 0, slots := 0, locals := 0 } : Room).slots) := by
  refine MetFree.of_bodySF (plainFor_of_name own_pn0) hisR ?_
  intro p e s m args below meth c s₁ Bd hml0 hP hK
  obtain ⟨rfl, hZ, hh⟩ := hP
  have hx := Bd.exec
  have hby := Bd.bytes
  have hml : c.maxLocals = 1 := hml0
  have hown : s.vm.findClass "com/example/cropquota/cropquota/ControlCharacters" = some m.cls := findClass_of_methodNamed Bd.named
  have hnm := (name_of_methodNamed Bd.named Bd.method).1
  have X0 : Stand p l e ({ frames := 0, cells := 0, slots := 0, locals := 0 } : Room) s m #[(.int p1)] below meth c s₁ [] 0 0 := Stand.of_body Bd
  have e0 : s₁.heap = h0 := by rw [← hh, Bd.state]; rfl
  have N0 := Fr.nil n0
  show own_G p e below (K_di Z p1 h0 n0 s) (s₁.setTop (entryFrame m #[(.int p1)] 1))
  refine own_cast (efdi m p1) ?_
  show own_G p e below (K_di Z p1 h0 n0 s) (s₁.setTop (mkF m 0 #[.val (.int p1)] []))
  refine own_go (fun t k => XS.iloadN X0.here hx rfl (hb hby ddi_0) rfl k) ?_
  show own_G p e below (K_di Z p1 h0 n0 s) (s₁.setTop (mkF m 1 #[.val (.int p1)] [(.int p1)]))
  refine own_go (fun t k => XS.sipush X0.here hx rfl (hb hby ddi_1) k) ?_
  show own_G p e below (K_di Z p1 h0 n0 s) (s₁.setTop (mkF m 4 #[.val (.int p1)] [(.int (8234 : Int32)), (.int p1)]))
  by_cases hc4_1 : p1 < (8234 : Int32)
  · skip
    refine own_go (fun t k => XS.icmpYes X0.here hx rfl (pc0 := 4) (pc' := 14) rfl (hb hby ddi_4) rfl (tlt hc4_1).1 (by decide) (by decide) k) ?_
    show own_G p e below (K_di Z p1 h0 n0 s) (s₁.setTop (mkF m 14 #[.val (.int p1)] []))
    refine own_go (fun t k => XS.iloadN X0.here hx rfl (hb hby ddi_14) rfl k) ?_
    show own_G p e below (K_di Z p1 h0 n0 s) (s₁.setTop (mkF m 15 #[.val (.int p1)] [(.int p1)]))
    refine own_go (fun t k => XS.sipush X0.here hx rfl (hb hby ddi_15) k) ?_
    show own_G p e below (K_di Z p1 h0 n0 s) (s₁.setTop (mkF m 18 #[.val (.int p1)] [(.int (8294 : Int32)), (.int p1)]))
    by_cases hc18_2 : p1 < (8294 : Int32)
    · skip
      refine own_go (fun t k => XS.icmpYes X0.here hx rfl (pc0 := 18) (pc' := 32) rfl (hb hby ddi_18) rfl (tlt hc18_2).1 (by decide) (by decide) k) ?_
      show own_G p e below (K_di Z p1 h0 n0 s) (s₁.setTop (mkF m 32 #[.val (.int p1)] []))
      refine own_go (fun t k => XS.iconst X0.here hx rfl (hb hby ddi_32) k) ?_
      show own_G p e below (K_di Z p1 h0 n0 s) (s₁.setTop (mkF m 33 #[.val (.int p1)] [(.int (0 : Int32))]))
      have ar3 : p1.toInt < 8234 := Int32.lt_iff_toInt_lt.mp hc4_1
      have ar4 : p1.toInt < 8294 := Int32.lt_iff_toInt_lt.mp hc18_2
      have hv5 : own_dir p1 = (0 : Int32) := if_neg (by omega)
      exact own_retN X0 hx Bd.notSynchronized (t := .boolean) (z' := (0 : Int32)) Bd.returns (by simp) (hb hby ddi_33) rfl (fun U hU hV hF => ⟨_, _, rfl, ⟨by rw [hv5], N0, hU.trans e0⟩, hF.1, hF.2.1, hF.2.2.mono (by decide) (by decide)⟩)
    · skip
      refine own_go (fun t k => XS.icmpNo X0.here hx rfl (hb hby ddi_18) rfl (flt hc18_2).1 k) ?_
      show own_G p e below (K_di Z p1 h0 n0 s) (s₁.setTop (mkF m 21 #[.val (.int p1)] []))
      refine own_go (fun t k => XS.iloadN X0.here hx rfl (hb hby ddi_21) rfl k) ?_
      show own_G p e below (K_di Z p1 h0 n0 s) (s₁.setTop (mkF m 22 #[.val (.int p1)] [(.int p1)]))
      refine own_go (fun t k => XS.sipush X0.here hx rfl (hb hby ddi_22) k) ?_
      show own_G p e below (K_di Z p1 h0 n0 s) (s₁.setTop (mkF m 25 #[.val (.int p1)] [(.int (8297 : Int32)), (.int p1)]))
      by_cases hc25_6 : (8297 : Int32) < p1
      · skip
        refine own_go (fun t k => XS.icmpYes X0.here hx rfl (pc0 := 25) (pc' := 32) rfl (hb hby ddi_25) rfl (tlt hc25_6).2.2.1 (by decide) (by decide) k) ?_
        show own_G p e below (K_di Z p1 h0 n0 s) (s₁.setTop (mkF m 32 #[.val (.int p1)] []))
        refine own_go (fun t k => XS.iconst X0.here hx rfl (hb hby ddi_32) k) ?_
        show own_G p e below (K_di Z p1 h0 n0 s) (s₁.setTop (mkF m 33 #[.val (.int p1)] [(.int (0 : Int32))]))
        have ar7 : p1.toInt < 8234 := Int32.lt_iff_toInt_lt.mp hc4_1
        have ar8 : ¬ p1.toInt < 8294 := fun q => hc18_2 (Int32.lt_iff_toInt_lt.mpr q)
        have ar9 : 8297 < p1.toInt := Int32.lt_iff_toInt_lt.mp hc25_6
        have hv10 : own_dir p1 = (0 : Int32) := if_neg (by omega)
        exact own_retN X0 hx Bd.notSynchronized (t := .boolean) (z' := (0 : Int32)) Bd.returns (by simp) (hb hby ddi_33) rfl (fun U hU hV hF => ⟨_, _, rfl, ⟨by rw [hv10], N0, hU.trans e0⟩, hF.1, hF.2.1, hF.2.2.mono (by decide) (by decide)⟩)
      · skip
        refine own_go (fun t k => XS.icmpNo X0.here hx rfl (hb hby ddi_25) rfl (flt hc25_6).2.2.1 k) ?_
        show own_G p e below (K_di Z p1 h0 n0 s) (s₁.setTop (mkF m 28 #[.val (.int p1)] []))
        refine own_go (fun t k => XS.iconst X0.here hx rfl (hb hby ddi_28) k) ?_
        show own_G p e below (K_di Z p1 h0 n0 s) (s₁.setTop (mkF m 29 #[.val (.int p1)] [(.int (1 : Int32))]))
        refine own_go (fun t k => XS.goto X0.here hx rfl (pc0 := 29) (pc' := 33) rfl (hb hby ddi_29) (by decide) (by decide) k) ?_
        show own_G p e below (K_di Z p1 h0 n0 s) (s₁.setTop (mkF m 33 #[.val (.int p1)] [(.int (1 : Int32))]))
        have ar11 : p1.toInt < 8234 := Int32.lt_iff_toInt_lt.mp hc4_1
        have ar12 : ¬ p1.toInt < 8294 := fun q => hc18_2 (Int32.lt_iff_toInt_lt.mpr q)
        have ar13 : ¬ 8297 < p1.toInt := fun q => hc25_6 (Int32.lt_iff_toInt_lt.mpr q)
        have hv14 : own_dir p1 = (1 : Int32) := if_pos (by omega)
        exact own_retN X0 hx Bd.notSynchronized (t := .boolean) (z' := (1 : Int32)) Bd.returns (by simp) (hb hby ddi_33) rfl (fun U hU hV hF => ⟨_, _, rfl, ⟨by rw [hv14], N0, hU.trans e0⟩, hF.1, hF.2.1, hF.2.2.mono (by decide) (by decide)⟩)
  · skip
    refine own_go (fun t k => XS.icmpNo X0.here hx rfl (hb hby ddi_4) rfl (flt hc4_1).1 k) ?_
    show own_G p e below (K_di Z p1 h0 n0 s) (s₁.setTop (mkF m 7 #[.val (.int p1)] []))
    refine own_go (fun t k => XS.iloadN X0.here hx rfl (hb hby ddi_7) rfl k) ?_
    show own_G p e below (K_di Z p1 h0 n0 s) (s₁.setTop (mkF m 8 #[.val (.int p1)] [(.int p1)]))
    refine own_go (fun t k => XS.sipush X0.here hx rfl (hb hby ddi_8) k) ?_
    show own_G p e below (K_di Z p1 h0 n0 s) (s₁.setTop (mkF m 11 #[.val (.int p1)] [(.int (8238 : Int32)), (.int p1)]))
    by_cases hc11_15 : (8238 : Int32) < p1
    · skip
      refine own_go (fun t k => XS.icmpNo X0.here hx rfl (hb hby ddi_11) rfl (tlt hc11_15).2.2.2 k) ?_
      show own_G p e below (K_di Z p1 h0 n0 s) (s₁.setTop (mkF m 14 #[.val (.int p1)] []))
      refine own_go (fun t k => XS.iloadN X0.here hx rfl (hb hby ddi_14) rfl k) ?_
      show own_G p e below (K_di Z p1 h0 n0 s) (s₁.setTop (mkF m 15 #[.val (.int p1)] [(.int p1)]))
      refine own_go (fun t k => XS.sipush X0.here hx rfl (hb hby ddi_15) k) ?_
      show own_G p e below (K_di Z p1 h0 n0 s) (s₁.setTop (mkF m 18 #[.val (.int p1)] [(.int (8294 : Int32)), (.int p1)]))
      by_cases hc18_16 : p1 < (8294 : Int32)
      · skip
        refine own_go (fun t k => XS.icmpYes X0.here hx rfl (pc0 := 18) (pc' := 32) rfl (hb hby ddi_18) rfl (tlt hc18_16).1 (by decide) (by decide) k) ?_
        show own_G p e below (K_di Z p1 h0 n0 s) (s₁.setTop (mkF m 32 #[.val (.int p1)] []))
        refine own_go (fun t k => XS.iconst X0.here hx rfl (hb hby ddi_32) k) ?_
        show own_G p e below (K_di Z p1 h0 n0 s) (s₁.setTop (mkF m 33 #[.val (.int p1)] [(.int (0 : Int32))]))
        have ar17 : ¬ p1.toInt < 8234 := fun q => hc4_1 (Int32.lt_iff_toInt_lt.mpr q)
        have ar18 : 8238 < p1.toInt := Int32.lt_iff_toInt_lt.mp hc11_15
        have ar19 : p1.toInt < 8294 := Int32.lt_iff_toInt_lt.mp hc18_16
        have hv20 : own_dir p1 = (0 : Int32) := if_neg (by omega)
        exact own_retN X0 hx Bd.notSynchronized (t := .boolean) (z' := (0 : Int32)) Bd.returns (by simp) (hb hby ddi_33) rfl (fun U hU hV hF => ⟨_, _, rfl, ⟨by rw [hv20], N0, hU.trans e0⟩, hF.1, hF.2.1, hF.2.2.mono (by decide) (by decide)⟩)
      · skip
        refine own_go (fun t k => XS.icmpNo X0.here hx rfl (hb hby ddi_18) rfl (flt hc18_16).1 k) ?_
        show own_G p e below (K_di Z p1 h0 n0 s) (s₁.setTop (mkF m 21 #[.val (.int p1)] []))
        refine own_go (fun t k => XS.iloadN X0.here hx rfl (hb hby ddi_21) rfl k) ?_
        show own_G p e below (K_di Z p1 h0 n0 s) (s₁.setTop (mkF m 22 #[.val (.int p1)] [(.int p1)]))
        refine own_go (fun t k => XS.sipush X0.here hx rfl (hb hby ddi_22) k) ?_
        show own_G p e below (K_di Z p1 h0 n0 s) (s₁.setTop (mkF m 25 #[.val (.int p1)] [(.int (8297 : Int32)), (.int p1)]))
        by_cases hc25_21 : (8297 : Int32) < p1
        · skip
          refine own_go (fun t k => XS.icmpYes X0.here hx rfl (pc0 := 25) (pc' := 32) rfl (hb hby ddi_25) rfl (tlt hc25_21).2.2.1 (by decide) (by decide) k) ?_
          show own_G p e below (K_di Z p1 h0 n0 s) (s₁.setTop (mkF m 32 #[.val (.int p1)] []))
          refine own_go (fun t k => XS.iconst X0.here hx rfl (hb hby ddi_32) k) ?_
          show own_G p e below (K_di Z p1 h0 n0 s) (s₁.setTop (mkF m 33 #[.val (.int p1)] [(.int (0 : Int32))]))
          have ar22 : ¬ p1.toInt < 8234 := fun q => hc4_1 (Int32.lt_iff_toInt_lt.mpr q)
          have ar23 : 8238 < p1.toInt := Int32.lt_iff_toInt_lt.mp hc11_15
          have ar24 : ¬ p1.toInt < 8294 := fun q => hc18_16 (Int32.lt_iff_toInt_lt.mpr q)
          have ar25 : 8297 < p1.toInt := Int32.lt_iff_toInt_lt.mp hc25_21
          have hv26 : own_dir p1 = (0 : Int32) := if_neg (by omega)
          exact own_retN X0 hx Bd.notSynchronized (t := .boolean) (z' := (0 : Int32)) Bd.returns (by simp) (hb hby ddi_33) rfl (fun U hU hV hF => ⟨_, _, rfl, ⟨by rw [hv26], N0, hU.trans e0⟩, hF.1, hF.2.1, hF.2.2.mono (by decide) (by decide)⟩)
        · skip
          refine own_go (fun t k => XS.icmpNo X0.here hx rfl (hb hby ddi_25) rfl (flt hc25_21).2.2.1 k) ?_
          show own_G p e below (K_di Z p1 h0 n0 s) (s₁.setTop (mkF m 28 #[.val (.int p1)] []))
          refine own_go (fun t k => XS.iconst X0.here hx rfl (hb hby ddi_28) k) ?_
          show own_G p e below (K_di Z p1 h0 n0 s) (s₁.setTop (mkF m 29 #[.val (.int p1)] [(.int (1 : Int32))]))
          refine own_go (fun t k => XS.goto X0.here hx rfl (pc0 := 29) (pc' := 33) rfl (hb hby ddi_29) (by decide) (by decide) k) ?_
          show own_G p e below (K_di Z p1 h0 n0 s) (s₁.setTop (mkF m 33 #[.val (.int p1)] [(.int (1 : Int32))]))
          have ar27 : ¬ p1.toInt < 8234 := fun q => hc4_1 (Int32.lt_iff_toInt_lt.mpr q)
          have ar28 : 8238 < p1.toInt := Int32.lt_iff_toInt_lt.mp hc11_15
          have ar29 : ¬ p1.toInt < 8294 := fun q => hc18_16 (Int32.lt_iff_toInt_lt.mpr q)
          have ar30 : ¬ 8297 < p1.toInt := fun q => hc25_21 (Int32.lt_iff_toInt_lt.mpr q)
          have hv31 : own_dir p1 = (1 : Int32) := if_pos (by omega)
          exact own_retN X0 hx Bd.notSynchronized (t := .boolean) (z' := (1 : Int32)) Bd.returns (by simp) (hb hby ddi_33) rfl (fun U hU hV hF => ⟨_, _, rfl, ⟨by rw [hv31], N0, hU.trans e0⟩, hF.1, hF.2.1, hF.2.2.mono (by decide) (by decide)⟩)
    · skip
      refine own_go (fun t k => XS.icmpYes X0.here hx rfl (pc0 := 11) (pc' := 28) rfl (hb hby ddi_11) rfl (flt hc11_15).2.2.2 (by decide) (by decide) k) ?_
      show own_G p e below (K_di Z p1 h0 n0 s) (s₁.setTop (mkF m 28 #[.val (.int p1)] []))
      refine own_go (fun t k => XS.iconst X0.here hx rfl (hb hby ddi_28) k) ?_
      show own_G p e below (K_di Z p1 h0 n0 s) (s₁.setTop (mkF m 29 #[.val (.int p1)] [(.int (1 : Int32))]))
      refine own_go (fun t k => XS.goto X0.here hx rfl (pc0 := 29) (pc' := 33) rfl (hb hby ddi_29) (by decide) (by decide) k) ?_
      show own_G p e below (K_di Z p1 h0 n0 s) (s₁.setTop (mkF m 33 #[.val (.int p1)] [(.int (1 : Int32))]))
      have ar32 : ¬ p1.toInt < 8234 := fun q => hc4_1 (Int32.lt_iff_toInt_lt.mpr q)
      have ar33 : ¬ 8238 < p1.toInt := fun q => hc11_15 (Int32.lt_iff_toInt_lt.mpr q)
      have hv34 : own_dir p1 = (1 : Int32) := if_pos (by omega)
      exact own_retN X0 hx Bd.notSynchronized (t := .boolean) (z' := (1 : Int32)) Bd.returns (by simp) (hb hby ddi_33) rfl (fun U hU hV hF => ⟨_, _, rfl, ⟨by rw [hv34], N0, hU.trans e0⟩, hF.1, hF.2.1, hF.2.2.mono (by decide) (by decide)⟩)
theorem dex_0 : decode method_3_code 0 = .ok (.iload_n 0, 1) := by decide +kernel
theorem dex_1 : decode method_3_code 1 = .ok (.istore_n 1, 1) := by decide +kernel
theorem dex_2 : decode method_3_code 2 = .ok (.iload_n 1, 1) := by decide +kernel
theorem dex_3 : decode method_3_code 3 = .ok (.sipush 8234, 3) := by decide +kernel
theorem dex_6 : decode method_3_code 6 = .ok (.if_icmp .eq 59, 3) := by decide +kernel
theorem dex_9 : decode method_3_code 9 = .ok (.iload_n 1, 1) := by decide +kernel
theorem dex_10 : decode method_3_code 10 = .ok (.sipush 8235, 3) := by decide +kernel
theorem dex_13 : decode method_3_code 13 = .ok (.if_icmp .eq 52, 3) := by decide +kernel
theorem dex_16 : decode method_3_code 16 = .ok (.iload_n 1, 1) := by decide +kernel
theorem dex_17 : decode method_3_code 17 = .ok (.sipush 8236, 3) := by decide +kernel
theorem dex_20 : decode method_3_code 20 = .ok (.if_icmp .eq 45, 3) := by decide +kernel
theorem dex_23 : decode method_3_code 23 = .ok (.iload_n 1, 1) := by decide +kernel
theorem dex_24 : decode method_3_code 24 = .ok (.sipush 8237, 3) := by decide +kernel
theorem dex_27 : decode method_3_code 27 = .ok (.if_icmp .eq 38, 3) := by decide +kernel
theorem dex_30 : decode method_3_code 30 = .ok (.iload_n 1, 1) := by decide +kernel
theorem dex_31 : decode method_3_code 31 = .ok (.sipush 8238, 3) := by decide +kernel
theorem dex_34 : decode method_3_code 34 = .ok (.if_icmp .eq 31, 3) := by decide +kernel
theorem dex_37 : decode method_3_code 37 = .ok (.iload_n 1, 1) := by decide +kernel
theorem dex_38 : decode method_3_code 38 = .ok (.sipush 8294, 3) := by decide +kernel
theorem dex_41 : decode method_3_code 41 = .ok (.if_icmp .eq 24, 3) := by decide +kernel
theorem dex_44 : decode method_3_code 44 = .ok (.iload_n 1, 1) := by decide +kernel
theorem dex_45 : decode method_3_code 45 = .ok (.sipush 8295, 3) := by decide +kernel
theorem dex_48 : decode method_3_code 48 = .ok (.if_icmp .eq 17, 3) := by decide +kernel
theorem dex_51 : decode method_3_code 51 = .ok (.iload_n 1, 1) := by decide +kernel
theorem dex_52 : decode method_3_code 52 = .ok (.sipush 8296, 3) := by decide +kernel
theorem dex_55 : decode method_3_code 55 = .ok (.if_icmp .eq 10, 3) := by decide +kernel
theorem dex_58 : decode method_3_code 58 = .ok (.iload_n 1, 1) := by decide +kernel
theorem dex_59 : decode method_3_code 59 = .ok (.sipush 8297, 3) := by decide +kernel
theorem dex_62 : decode method_3_code 62 = .ok (.if_icmp .ne 7, 3) := by decide +kernel
theorem dex_65 : decode method_3_code 65 = .ok (.iconst 1, 1) := by decide +kernel
theorem dex_66 : decode method_3_code 66 = .ok (.goto 4, 3) := by decide +kernel
theorem dex_69 : decode method_3_code 69 = .ok (.iconst 0, 1) := by decide +kernel
theorem dex_70 : decode method_3_code 70 = .ok (.ireturn, 1) := by decide +kernel
theorem own_pn1 : plainName "com/example/cropquota/cropquota/ControlCharactersDirectionalPinLaw" = true := by first | (simp [plainName, overriddenIn]; done) | decide +kernel
theorem efex (m : MethodId) (p1 : Int32) : entryFrame m #[(.int p1)] 2 = mkF m 0 #[.val (.int p1), .unset] [] := by first | (simp [entryFrame, mkF, argsToLocals, Value.category]; done) | rfl
def Q_ex (Z : State) (p1 : Int32) (h0 : Heap) (n0 : Nat) (v : Option Value) (h : Heap) (L : List Loc) : Prop := v = some (.int (own_exp p1)) ∧ Fr n0 L ∧ h = h0
def K_ex (Z : State) (p1 : Int32) (h0 : Heap) (n0 : Nat) (s : State) (o : Outcome) (U' : State) : Prop := ∃ v L, o = .returned v ∧ Q_ex Z p1 h0 n0 v U'.heap L ∧ FrameEnd s o U' L 0 0
set_option maxRecDepth 65536 in
set_option maxHeartbeats 40000000 in
theorem rm_ex (l : Launch) (Z : State) (a0 : Array Value) (hw : ∀ d ∈ tables_1, d.before a0 Z = true) (ws : List Jvm.Cond) (p1 : Int32) (h0 : Heap) (n0 : Nat) (Z0 : n0 ≤ h0.size) :
    MetFree l (⟨"com/example/cropquota/cropquota/ControlCharactersDirectionalPinLaw", "expected", "(C)Z"⟩ : MethodName) (head1 (Jvm.Cond.code (⟨"com/example/cropquota/cropquota/ControlCharactersDirectionalPinLaw", "expected", "(C)Z"⟩ : MethodName) method_3_code 2 (some .boolean) :: ws) ({ frames := 0, cells := 0, slots := 0, locals := 0 } : Room)) (fun a U => a = #[(.int p1)] ∧ Z.Warmed39 U.vm ∧ U.heap = h0) (fun _ _ _ _ _ => True) (fun _ U o U' => ∃ v L, o = .returned v ∧ Q_ex Z p1 h0 n0 v U'.heap L ∧ FrameEnd U o U' L ({ frames := 0, cells := 0, slots := 0, locals := 0 } : Room).cells ({ frames := 0, cells := 0, slots := 0, locals := 0 } : Room).slots) := by
  refine MetFree.of_bodySF (plainFor_of_name own_pn1) hisR ?_
  intro p e s m args below meth c s₁ Bd hml0 hP hK
  obtain ⟨rfl, hZ, hh⟩ := hP
  have hx := Bd.exec
  have hby := Bd.bytes
  have hml : c.maxLocals = 2 := hml0
  have hown : s.vm.findClass "com/example/cropquota/cropquota/ControlCharactersDirectionalPinLaw" = some m.cls := findClass_of_methodNamed Bd.named
  have hnm := (name_of_methodNamed Bd.named Bd.method).1
  have X0 : Stand p l e ({ frames := 0, cells := 0, slots := 0, locals := 0 } : Room) s m #[(.int p1)] below meth c s₁ [] 0 0 := Stand.of_body Bd
  have e0 : s₁.heap = h0 := by rw [← hh, Bd.state]; rfl
  have N0 := Fr.nil n0
  show own_G p e below (K_ex Z p1 h0 n0 s) (s₁.setTop (entryFrame m #[(.int p1)] 2))
  refine own_cast (efex m p1) ?_
  show own_G p e below (K_ex Z p1 h0 n0 s) (s₁.setTop (mkF m 0 #[.val (.int p1), .unset] []))
  refine own_go (fun t k => XS.iloadN X0.here hx rfl (hb hby dex_0) rfl k) ?_
  show own_G p e below (K_ex Z p1 h0 n0 s) (s₁.setTop (mkF m 1 #[.val (.int p1), .unset] [(.int p1)]))
  refine own_go (fun t k => XS.istoreN X0.here hx rfl (hb hby dex_1) rfl (l' := #[.val (.int p1), .val (.int p1)]) rfl k) ?_
  show own_G p e below (K_ex Z p1 h0 n0 s) (s₁.setTop (mkF m 2 #[.val (.int p1), .val (.int p1)] []))
  refine own_go (fun t k => XS.iloadN X0.here hx rfl (hb hby dex_2) rfl k) ?_
  show own_G p e below (K_ex Z p1 h0 n0 s) (s₁.setTop (mkF m 3 #[.val (.int p1), .val (.int p1)] [(.int p1)]))
  refine own_go (fun t k => XS.sipush X0.here hx rfl (hb hby dex_3) k) ?_
  show own_G p e below (K_ex Z p1 h0 n0 s) (s₁.setTop (mkF m 6 #[.val (.int p1), .val (.int p1)] [(.int (8234 : Int32)), (.int p1)]))
  by_cases hc6_1 : p1 = (8234 : Int32)
  · skip
    refine own_go (fun t k => XS.icmpYes X0.here hx rfl (pc0 := 6) (pc' := 65) rfl (hb hby dex_6) rfl (teq hc6_1).1 (by decide) (by decide) k) ?_
    show own_G p e below (K_ex Z p1 h0 n0 s) (s₁.setTop (mkF m 65 #[.val (.int p1), .val (.int p1)] []))
    refine own_go (fun t k => XS.iconst X0.here hx rfl (hb hby dex_65) k) ?_
    show own_G p e below (K_ex Z p1 h0 n0 s) (s₁.setTop (mkF m 66 #[.val (.int p1), .val (.int p1)] [(.int (1 : Int32))]))
    refine own_go (fun t k => XS.goto X0.here hx rfl (pc0 := 66) (pc' := 70) rfl (hb hby dex_66) (by decide) (by decide) k) ?_
    show own_G p e below (K_ex Z p1 h0 n0 s) (s₁.setTop (mkF m 70 #[.val (.int p1), .val (.int p1)] [(.int (1 : Int32))]))
    have ar2 : p1.toInt = 8234 := congrArg Int32.toInt hc6_1
    have hv3 : own_exp p1 = (1 : Int32) := if_pos (by omega)
    exact own_retN X0 hx Bd.notSynchronized (t := .boolean) (z' := (1 : Int32)) Bd.returns (by simp) (hb hby dex_70) rfl (fun U hU hV hF => ⟨_, _, rfl, ⟨by rw [hv3], N0, hU.trans e0⟩, hF.1, hF.2.1, hF.2.2.mono (by decide) (by decide)⟩)
  · skip
    refine own_go (fun t k => XS.icmpNo X0.here hx rfl (hb hby dex_6) rfl (feq hc6_1).1 k) ?_
    show own_G p e below (K_ex Z p1 h0 n0 s) (s₁.setTop (mkF m 9 #[.val (.int p1), .val (.int p1)] []))
    refine own_go (fun t k => XS.iloadN X0.here hx rfl (hb hby dex_9) rfl k) ?_
    show own_G p e below (K_ex Z p1 h0 n0 s) (s₁.setTop (mkF m 10 #[.val (.int p1), .val (.int p1)] [(.int p1)]))
    refine own_go (fun t k => XS.sipush X0.here hx rfl (hb hby dex_10) k) ?_
    show own_G p e below (K_ex Z p1 h0 n0 s) (s₁.setTop (mkF m 13 #[.val (.int p1), .val (.int p1)] [(.int (8235 : Int32)), (.int p1)]))
    by_cases hc13_4 : p1 = (8235 : Int32)
    · skip
      refine own_go (fun t k => XS.icmpYes X0.here hx rfl (pc0 := 13) (pc' := 65) rfl (hb hby dex_13) rfl (teq hc13_4).1 (by decide) (by decide) k) ?_
      show own_G p e below (K_ex Z p1 h0 n0 s) (s₁.setTop (mkF m 65 #[.val (.int p1), .val (.int p1)] []))
      refine own_go (fun t k => XS.iconst X0.here hx rfl (hb hby dex_65) k) ?_
      show own_G p e below (K_ex Z p1 h0 n0 s) (s₁.setTop (mkF m 66 #[.val (.int p1), .val (.int p1)] [(.int (1 : Int32))]))
      refine own_go (fun t k => XS.goto X0.here hx rfl (pc0 := 66) (pc' := 70) rfl (hb hby dex_66) (by decide) (by decide) k) ?_
      show own_G p e below (K_ex Z p1 h0 n0 s) (s₁.setTop (mkF m 70 #[.val (.int p1), .val (.int p1)] [(.int (1 : Int32))]))
      have ar5 : ¬ p1.toInt = 8234 := fun q => hc6_1 (Int32.toInt_inj.mp q)
      have ar6 : p1.toInt = 8235 := congrArg Int32.toInt hc13_4
      have hv7 : own_exp p1 = (1 : Int32) := if_pos (by omega)
      exact own_retN X0 hx Bd.notSynchronized (t := .boolean) (z' := (1 : Int32)) Bd.returns (by simp) (hb hby dex_70) rfl (fun U hU hV hF => ⟨_, _, rfl, ⟨by rw [hv7], N0, hU.trans e0⟩, hF.1, hF.2.1, hF.2.2.mono (by decide) (by decide)⟩)
    · skip
      refine own_go (fun t k => XS.icmpNo X0.here hx rfl (hb hby dex_13) rfl (feq hc13_4).1 k) ?_
      show own_G p e below (K_ex Z p1 h0 n0 s) (s₁.setTop (mkF m 16 #[.val (.int p1), .val (.int p1)] []))
      refine own_go (fun t k => XS.iloadN X0.here hx rfl (hb hby dex_16) rfl k) ?_
      show own_G p e below (K_ex Z p1 h0 n0 s) (s₁.setTop (mkF m 17 #[.val (.int p1), .val (.int p1)] [(.int p1)]))
      refine own_go (fun t k => XS.sipush X0.here hx rfl (hb hby dex_17) k) ?_
      show own_G p e below (K_ex Z p1 h0 n0 s) (s₁.setTop (mkF m 20 #[.val (.int p1), .val (.int p1)] [(.int (8236 : Int32)), (.int p1)]))
      by_cases hc20_8 : p1 = (8236 : Int32)
      · skip
        refine own_go (fun t k => XS.icmpYes X0.here hx rfl (pc0 := 20) (pc' := 65) rfl (hb hby dex_20) rfl (teq hc20_8).1 (by decide) (by decide) k) ?_
        show own_G p e below (K_ex Z p1 h0 n0 s) (s₁.setTop (mkF m 65 #[.val (.int p1), .val (.int p1)] []))
        refine own_go (fun t k => XS.iconst X0.here hx rfl (hb hby dex_65) k) ?_
        show own_G p e below (K_ex Z p1 h0 n0 s) (s₁.setTop (mkF m 66 #[.val (.int p1), .val (.int p1)] [(.int (1 : Int32))]))
        refine own_go (fun t k => XS.goto X0.here hx rfl (pc0 := 66) (pc' := 70) rfl (hb hby dex_66) (by decide) (by decide) k) ?_
        show own_G p e below (K_ex Z p1 h0 n0 s) (s₁.setTop (mkF m 70 #[.val (.int p1), .val (.int p1)] [(.int (1 : Int32))]))
        have ar9 : ¬ p1.toInt = 8234 := fun q => hc6_1 (Int32.toInt_inj.mp q)
        have ar10 : ¬ p1.toInt = 8235 := fun q => hc13_4 (Int32.toInt_inj.mp q)
        have ar11 : p1.toInt = 8236 := congrArg Int32.toInt hc20_8
        have hv12 : own_exp p1 = (1 : Int32) := if_pos (by omega)
        exact own_retN X0 hx Bd.notSynchronized (t := .boolean) (z' := (1 : Int32)) Bd.returns (by simp) (hb hby dex_70) rfl (fun U hU hV hF => ⟨_, _, rfl, ⟨by rw [hv12], N0, hU.trans e0⟩, hF.1, hF.2.1, hF.2.2.mono (by decide) (by decide)⟩)
      · skip
        refine own_go (fun t k => XS.icmpNo X0.here hx rfl (hb hby dex_20) rfl (feq hc20_8).1 k) ?_
        show own_G p e below (K_ex Z p1 h0 n0 s) (s₁.setTop (mkF m 23 #[.val (.int p1), .val (.int p1)] []))
        refine own_go (fun t k => XS.iloadN X0.here hx rfl (hb hby dex_23) rfl k) ?_
        show own_G p e below (K_ex Z p1 h0 n0 s) (s₁.setTop (mkF m 24 #[.val (.int p1), .val (.int p1)] [(.int p1)]))
        refine own_go (fun t k => XS.sipush X0.here hx rfl (hb hby dex_24) k) ?_
        show own_G p e below (K_ex Z p1 h0 n0 s) (s₁.setTop (mkF m 27 #[.val (.int p1), .val (.int p1)] [(.int (8237 : Int32)), (.int p1)]))
        by_cases hc27_13 : p1 = (8237 : Int32)
        · skip
          refine own_go (fun t k => XS.icmpYes X0.here hx rfl (pc0 := 27) (pc' := 65) rfl (hb hby dex_27) rfl (teq hc27_13).1 (by decide) (by decide) k) ?_
          show own_G p e below (K_ex Z p1 h0 n0 s) (s₁.setTop (mkF m 65 #[.val (.int p1), .val (.int p1)] []))
          refine own_go (fun t k => XS.iconst X0.here hx rfl (hb hby dex_65) k) ?_
          show own_G p e below (K_ex Z p1 h0 n0 s) (s₁.setTop (mkF m 66 #[.val (.int p1), .val (.int p1)] [(.int (1 : Int32))]))
          refine own_go (fun t k => XS.goto X0.here hx rfl (pc0 := 66) (pc' := 70) rfl (hb hby dex_66) (by decide) (by decide) k) ?_
          show own_G p e below (K_ex Z p1 h0 n0 s) (s₁.setTop (mkF m 70 #[.val (.int p1), .val (.int p1)] [(.int (1 : Int32))]))
          have ar14 : ¬ p1.toInt = 8234 := fun q => hc6_1 (Int32.toInt_inj.mp q)
          have ar15 : ¬ p1.toInt = 8235 := fun q => hc13_4 (Int32.toInt_inj.mp q)
          have ar16 : ¬ p1.toInt = 8236 := fun q => hc20_8 (Int32.toInt_inj.mp q)
          have ar17 : p1.toInt = 8237 := congrArg Int32.toInt hc27_13
          have hv18 : own_exp p1 = (1 : Int32) := if_pos (by omega)
          exact own_retN X0 hx Bd.notSynchronized (t := .boolean) (z' := (1 : Int32)) Bd.returns (by simp) (hb hby dex_70) rfl (fun U hU hV hF => ⟨_, _, rfl, ⟨by rw [hv18], N0, hU.trans e0⟩, hF.1, hF.2.1, hF.2.2.mono (by decide) (by decide)⟩)
        · skip
          refine own_go (fun t k => XS.icmpNo X0.here hx rfl (hb hby dex_27) rfl (feq hc27_13).1 k) ?_
          show own_G p e below (K_ex Z p1 h0 n0 s) (s₁.setTop (mkF m 30 #[.val (.int p1), .val (.int p1)] []))
          refine own_go (fun t k => XS.iloadN X0.here hx rfl (hb hby dex_30) rfl k) ?_
          show own_G p e below (K_ex Z p1 h0 n0 s) (s₁.setTop (mkF m 31 #[.val (.int p1), .val (.int p1)] [(.int p1)]))
          refine own_go (fun t k => XS.sipush X0.here hx rfl (hb hby dex_31) k) ?_
          show own_G p e below (K_ex Z p1 h0 n0 s) (s₁.setTop (mkF m 34 #[.val (.int p1), .val (.int p1)] [(.int (8238 : Int32)), (.int p1)]))
          by_cases hc34_19 : p1 = (8238 : Int32)
          · skip
            refine own_go (fun t k => XS.icmpYes X0.here hx rfl (pc0 := 34) (pc' := 65) rfl (hb hby dex_34) rfl (teq hc34_19).1 (by decide) (by decide) k) ?_
            show own_G p e below (K_ex Z p1 h0 n0 s) (s₁.setTop (mkF m 65 #[.val (.int p1), .val (.int p1)] []))
            refine own_go (fun t k => XS.iconst X0.here hx rfl (hb hby dex_65) k) ?_
            show own_G p e below (K_ex Z p1 h0 n0 s) (s₁.setTop (mkF m 66 #[.val (.int p1), .val (.int p1)] [(.int (1 : Int32))]))
            refine own_go (fun t k => XS.goto X0.here hx rfl (pc0 := 66) (pc' := 70) rfl (hb hby dex_66) (by decide) (by decide) k) ?_
            show own_G p e below (K_ex Z p1 h0 n0 s) (s₁.setTop (mkF m 70 #[.val (.int p1), .val (.int p1)] [(.int (1 : Int32))]))
            have ar20 : ¬ p1.toInt = 8234 := fun q => hc6_1 (Int32.toInt_inj.mp q)
            have ar21 : ¬ p1.toInt = 8235 := fun q => hc13_4 (Int32.toInt_inj.mp q)
            have ar22 : ¬ p1.toInt = 8236 := fun q => hc20_8 (Int32.toInt_inj.mp q)
            have ar23 : ¬ p1.toInt = 8237 := fun q => hc27_13 (Int32.toInt_inj.mp q)
            have ar24 : p1.toInt = 8238 := congrArg Int32.toInt hc34_19
            have hv25 : own_exp p1 = (1 : Int32) := if_pos (by omega)
            exact own_retN X0 hx Bd.notSynchronized (t := .boolean) (z' := (1 : Int32)) Bd.returns (by simp) (hb hby dex_70) rfl (fun U hU hV hF => ⟨_, _, rfl, ⟨by rw [hv25], N0, hU.trans e0⟩, hF.1, hF.2.1, hF.2.2.mono (by decide) (by decide)⟩)
          · skip
            refine own_go (fun t k => XS.icmpNo X0.here hx rfl (hb hby dex_34) rfl (feq hc34_19).1 k) ?_
            show own_G p e below (K_ex Z p1 h0 n0 s) (s₁.setTop (mkF m 37 #[.val (.int p1), .val (.int p1)] []))
            refine own_go (fun t k => XS.iloadN X0.here hx rfl (hb hby dex_37) rfl k) ?_
            show own_G p e below (K_ex Z p1 h0 n0 s) (s₁.setTop (mkF m 38 #[.val (.int p1), .val (.int p1)] [(.int p1)]))
            refine own_go (fun t k => XS.sipush X0.here hx rfl (hb hby dex_38) k) ?_
            show own_G p e below (K_ex Z p1 h0 n0 s) (s₁.setTop (mkF m 41 #[.val (.int p1), .val (.int p1)] [(.int (8294 : Int32)), (.int p1)]))
            by_cases hc41_26 : p1 = (8294 : Int32)
            · skip
              refine own_go (fun t k => XS.icmpYes X0.here hx rfl (pc0 := 41) (pc' := 65) rfl (hb hby dex_41) rfl (teq hc41_26).1 (by decide) (by decide) k) ?_
              show own_G p e below (K_ex Z p1 h0 n0 s) (s₁.setTop (mkF m 65 #[.val (.int p1), .val (.int p1)] []))
              refine own_go (fun t k => XS.iconst X0.here hx rfl (hb hby dex_65) k) ?_
              show own_G p e below (K_ex Z p1 h0 n0 s) (s₁.setTop (mkF m 66 #[.val (.int p1), .val (.int p1)] [(.int (1 : Int32))]))
              refine own_go (fun t k => XS.goto X0.here hx rfl (pc0 := 66) (pc' := 70) rfl (hb hby dex_66) (by decide) (by decide) k) ?_
              show own_G p e below (K_ex Z p1 h0 n0 s) (s₁.setTop (mkF m 70 #[.val (.int p1), .val (.int p1)] [(.int (1 : Int32))]))
              have ar27 : ¬ p1.toInt = 8234 := fun q => hc6_1 (Int32.toInt_inj.mp q)
              have ar28 : ¬ p1.toInt = 8235 := fun q => hc13_4 (Int32.toInt_inj.mp q)
              have ar29 : ¬ p1.toInt = 8236 := fun q => hc20_8 (Int32.toInt_inj.mp q)
              have ar30 : ¬ p1.toInt = 8237 := fun q => hc27_13 (Int32.toInt_inj.mp q)
              have ar31 : ¬ p1.toInt = 8238 := fun q => hc34_19 (Int32.toInt_inj.mp q)
              have ar32 : p1.toInt = 8294 := congrArg Int32.toInt hc41_26
              have hv33 : own_exp p1 = (1 : Int32) := if_pos (by omega)
              exact own_retN X0 hx Bd.notSynchronized (t := .boolean) (z' := (1 : Int32)) Bd.returns (by simp) (hb hby dex_70) rfl (fun U hU hV hF => ⟨_, _, rfl, ⟨by rw [hv33], N0, hU.trans e0⟩, hF.1, hF.2.1, hF.2.2.mono (by decide) (by decide)⟩)
            · skip
              refine own_go (fun t k => XS.icmpNo X0.here hx rfl (hb hby dex_41) rfl (feq hc41_26).1 k) ?_
              show own_G p e below (K_ex Z p1 h0 n0 s) (s₁.setTop (mkF m 44 #[.val (.int p1), .val (.int p1)] []))
              refine own_go (fun t k => XS.iloadN X0.here hx rfl (hb hby dex_44) rfl k) ?_
              show own_G p e below (K_ex Z p1 h0 n0 s) (s₁.setTop (mkF m 45 #[.val (.int p1), .val (.int p1)] [(.int p1)]))
              refine own_go (fun t k => XS.sipush X0.here hx rfl (hb hby dex_45) k) ?_
              show own_G p e below (K_ex Z p1 h0 n0 s) (s₁.setTop (mkF m 48 #[.val (.int p1), .val (.int p1)] [(.int (8295 : Int32)), (.int p1)]))
              by_cases hc48_34 : p1 = (8295 : Int32)
              · skip
                refine own_go (fun t k => XS.icmpYes X0.here hx rfl (pc0 := 48) (pc' := 65) rfl (hb hby dex_48) rfl (teq hc48_34).1 (by decide) (by decide) k) ?_
                show own_G p e below (K_ex Z p1 h0 n0 s) (s₁.setTop (mkF m 65 #[.val (.int p1), .val (.int p1)] []))
                refine own_go (fun t k => XS.iconst X0.here hx rfl (hb hby dex_65) k) ?_
                show own_G p e below (K_ex Z p1 h0 n0 s) (s₁.setTop (mkF m 66 #[.val (.int p1), .val (.int p1)] [(.int (1 : Int32))]))
                refine own_go (fun t k => XS.goto X0.here hx rfl (pc0 := 66) (pc' := 70) rfl (hb hby dex_66) (by decide) (by decide) k) ?_
                show own_G p e below (K_ex Z p1 h0 n0 s) (s₁.setTop (mkF m 70 #[.val (.int p1), .val (.int p1)] [(.int (1 : Int32))]))
                have ar35 : ¬ p1.toInt = 8234 := fun q => hc6_1 (Int32.toInt_inj.mp q)
                have ar36 : ¬ p1.toInt = 8235 := fun q => hc13_4 (Int32.toInt_inj.mp q)
                have ar37 : ¬ p1.toInt = 8236 := fun q => hc20_8 (Int32.toInt_inj.mp q)
                have ar38 : ¬ p1.toInt = 8237 := fun q => hc27_13 (Int32.toInt_inj.mp q)
                have ar39 : ¬ p1.toInt = 8238 := fun q => hc34_19 (Int32.toInt_inj.mp q)
                have ar40 : ¬ p1.toInt = 8294 := fun q => hc41_26 (Int32.toInt_inj.mp q)
                have ar41 : p1.toInt = 8295 := congrArg Int32.toInt hc48_34
                have hv42 : own_exp p1 = (1 : Int32) := if_pos (by omega)
                exact own_retN X0 hx Bd.notSynchronized (t := .boolean) (z' := (1 : Int32)) Bd.returns (by simp) (hb hby dex_70) rfl (fun U hU hV hF => ⟨_, _, rfl, ⟨by rw [hv42], N0, hU.trans e0⟩, hF.1, hF.2.1, hF.2.2.mono (by decide) (by decide)⟩)
              · skip
                refine own_go (fun t k => XS.icmpNo X0.here hx rfl (hb hby dex_48) rfl (feq hc48_34).1 k) ?_
                show own_G p e below (K_ex Z p1 h0 n0 s) (s₁.setTop (mkF m 51 #[.val (.int p1), .val (.int p1)] []))
                refine own_go (fun t k => XS.iloadN X0.here hx rfl (hb hby dex_51) rfl k) ?_
                show own_G p e below (K_ex Z p1 h0 n0 s) (s₁.setTop (mkF m 52 #[.val (.int p1), .val (.int p1)] [(.int p1)]))
                refine own_go (fun t k => XS.sipush X0.here hx rfl (hb hby dex_52) k) ?_
                show own_G p e below (K_ex Z p1 h0 n0 s) (s₁.setTop (mkF m 55 #[.val (.int p1), .val (.int p1)] [(.int (8296 : Int32)), (.int p1)]))
                by_cases hc55_43 : p1 = (8296 : Int32)
                · skip
                  refine own_go (fun t k => XS.icmpYes X0.here hx rfl (pc0 := 55) (pc' := 65) rfl (hb hby dex_55) rfl (teq hc55_43).1 (by decide) (by decide) k) ?_
                  show own_G p e below (K_ex Z p1 h0 n0 s) (s₁.setTop (mkF m 65 #[.val (.int p1), .val (.int p1)] []))
                  refine own_go (fun t k => XS.iconst X0.here hx rfl (hb hby dex_65) k) ?_
                  show own_G p e below (K_ex Z p1 h0 n0 s) (s₁.setTop (mkF m 66 #[.val (.int p1), .val (.int p1)] [(.int (1 : Int32))]))
                  refine own_go (fun t k => XS.goto X0.here hx rfl (pc0 := 66) (pc' := 70) rfl (hb hby dex_66) (by decide) (by decide) k) ?_
                  show own_G p e below (K_ex Z p1 h0 n0 s) (s₁.setTop (mkF m 70 #[.val (.int p1), .val (.int p1)] [(.int (1 : Int32))]))
                  have ar44 : ¬ p1.toInt = 8234 := fun q => hc6_1 (Int32.toInt_inj.mp q)
                  have ar45 : ¬ p1.toInt = 8235 := fun q => hc13_4 (Int32.toInt_inj.mp q)
                  have ar46 : ¬ p1.toInt = 8236 := fun q => hc20_8 (Int32.toInt_inj.mp q)
                  have ar47 : ¬ p1.toInt = 8237 := fun q => hc27_13 (Int32.toInt_inj.mp q)
                  have ar48 : ¬ p1.toInt = 8238 := fun q => hc34_19 (Int32.toInt_inj.mp q)
                  have ar49 : ¬ p1.toInt = 8294 := fun q => hc41_26 (Int32.toInt_inj.mp q)
                  have ar50 : ¬ p1.toInt = 8295 := fun q => hc48_34 (Int32.toInt_inj.mp q)
                  have ar51 : p1.toInt = 8296 := congrArg Int32.toInt hc55_43
                  have hv52 : own_exp p1 = (1 : Int32) := if_pos (by omega)
                  exact own_retN X0 hx Bd.notSynchronized (t := .boolean) (z' := (1 : Int32)) Bd.returns (by simp) (hb hby dex_70) rfl (fun U hU hV hF => ⟨_, _, rfl, ⟨by rw [hv52], N0, hU.trans e0⟩, hF.1, hF.2.1, hF.2.2.mono (by decide) (by decide)⟩)
                · skip
                  refine own_go (fun t k => XS.icmpNo X0.here hx rfl (hb hby dex_55) rfl (feq hc55_43).1 k) ?_
                  show own_G p e below (K_ex Z p1 h0 n0 s) (s₁.setTop (mkF m 58 #[.val (.int p1), .val (.int p1)] []))
                  refine own_go (fun t k => XS.iloadN X0.here hx rfl (hb hby dex_58) rfl k) ?_
                  show own_G p e below (K_ex Z p1 h0 n0 s) (s₁.setTop (mkF m 59 #[.val (.int p1), .val (.int p1)] [(.int p1)]))
                  refine own_go (fun t k => XS.sipush X0.here hx rfl (hb hby dex_59) k) ?_
                  show own_G p e below (K_ex Z p1 h0 n0 s) (s₁.setTop (mkF m 62 #[.val (.int p1), .val (.int p1)] [(.int (8297 : Int32)), (.int p1)]))
                  by_cases hc62_53 : p1 = (8297 : Int32)
                  · skip
                    refine own_go (fun t k => XS.icmpNo X0.here hx rfl (hb hby dex_62) rfl (teq hc62_53).2 k) ?_
                    show own_G p e below (K_ex Z p1 h0 n0 s) (s₁.setTop (mkF m 65 #[.val (.int p1), .val (.int p1)] []))
                    refine own_go (fun t k => XS.iconst X0.here hx rfl (hb hby dex_65) k) ?_
                    show own_G p e below (K_ex Z p1 h0 n0 s) (s₁.setTop (mkF m 66 #[.val (.int p1), .val (.int p1)] [(.int (1 : Int32))]))
                    refine own_go (fun t k => XS.goto X0.here hx rfl (pc0 := 66) (pc' := 70) rfl (hb hby dex_66) (by decide) (by decide) k) ?_
                    show own_G p e below (K_ex Z p1 h0 n0 s) (s₁.setTop (mkF m 70 #[.val (.int p1), .val (.int p1)] [(.int (1 : Int32))]))
                    have ar54 : ¬ p1.toInt = 8234 := fun q => hc6_1 (Int32.toInt_inj.mp q)
                    have ar55 : ¬ p1.toInt = 8235 := fun q => hc13_4 (Int32.toInt_inj.mp q)
                    have ar56 : ¬ p1.toInt = 8236 := fun q => hc20_8 (Int32.toInt_inj.mp q)
                    have ar57 : ¬ p1.toInt = 8237 := fun q => hc27_13 (Int32.toInt_inj.mp q)
                    have ar58 : ¬ p1.toInt = 8238 := fun q => hc34_19 (Int32.toInt_inj.mp q)
                    have ar59 : ¬ p1.toInt = 8294 := fun q => hc41_26 (Int32.toInt_inj.mp q)
                    have ar60 : ¬ p1.toInt = 8295 := fun q => hc48_34 (Int32.toInt_inj.mp q)
                    have ar61 : ¬ p1.toInt = 8296 := fun q => hc55_43 (Int32.toInt_inj.mp q)
                    have ar62 : p1.toInt = 8297 := congrArg Int32.toInt hc62_53
                    have hv63 : own_exp p1 = (1 : Int32) := if_pos (by omega)
                    exact own_retN X0 hx Bd.notSynchronized (t := .boolean) (z' := (1 : Int32)) Bd.returns (by simp) (hb hby dex_70) rfl (fun U hU hV hF => ⟨_, _, rfl, ⟨by rw [hv63], N0, hU.trans e0⟩, hF.1, hF.2.1, hF.2.2.mono (by decide) (by decide)⟩)
                  · skip
                    refine own_go (fun t k => XS.icmpYes X0.here hx rfl (pc0 := 62) (pc' := 69) rfl (hb hby dex_62) rfl (feq hc62_53).2 (by decide) (by decide) k) ?_
                    show own_G p e below (K_ex Z p1 h0 n0 s) (s₁.setTop (mkF m 69 #[.val (.int p1), .val (.int p1)] []))
                    refine own_go (fun t k => XS.iconst X0.here hx rfl (hb hby dex_69) k) ?_
                    show own_G p e below (K_ex Z p1 h0 n0 s) (s₁.setTop (mkF m 70 #[.val (.int p1), .val (.int p1)] [(.int (0 : Int32))]))
                    have ar64 : ¬ p1.toInt = 8234 := fun q => hc6_1 (Int32.toInt_inj.mp q)
                    have ar65 : ¬ p1.toInt = 8235 := fun q => hc13_4 (Int32.toInt_inj.mp q)
                    have ar66 : ¬ p1.toInt = 8236 := fun q => hc20_8 (Int32.toInt_inj.mp q)
                    have ar67 : ¬ p1.toInt = 8237 := fun q => hc27_13 (Int32.toInt_inj.mp q)
                    have ar68 : ¬ p1.toInt = 8238 := fun q => hc34_19 (Int32.toInt_inj.mp q)
                    have ar69 : ¬ p1.toInt = 8294 := fun q => hc41_26 (Int32.toInt_inj.mp q)
                    have ar70 : ¬ p1.toInt = 8295 := fun q => hc48_34 (Int32.toInt_inj.mp q)
                    have ar71 : ¬ p1.toInt = 8296 := fun q => hc55_43 (Int32.toInt_inj.mp q)
                    have ar72 : ¬ p1.toInt = 8297 := fun q => hc62_53 (Int32.toInt_inj.mp q)
                    have hv73 : own_exp p1 = (0 : Int32) := if_neg (by omega)
                    exact own_retN X0 hx Bd.notSynchronized (t := .boolean) (z' := (0 : Int32)) Bd.returns (by simp) (hb hby dex_70) rfl (fun U hU hV hF => ⟨_, _, rfl, ⟨by rw [hv73], N0, hU.trans e0⟩, hF.1, hF.2.1, hF.2.2.mono (by decide) (by decide)⟩)
theorem own_pd0 : parseMethodDescriptor "(C)Z" = some ⟨[.char], some .boolean⟩ := by decide +kernel
theorem ef0 (m : MethodId) (p1 : Int32) (p2 : Int32) : entryFrame m #[(.int p1), (.int p2)] maxLocals = mkF m 0 #[.val (.int p1), .val (.int p2), .unset, .unset] [] := by first | (simp [entryFrame, mkF, argsToLocals, Value.category, maxLocals]; done) | rfl
def Q_0 (Z : State) (p1 : Int32) (p2 : Int32) (h0 : Heap) (n0 : Nat) (v : Option Value) (h : Heap) (L : List Loc) : Prop := v = some (.int 1) ∧ Fr n0 L
def K_0 (Z : State) (p1 : Int32) (p2 : Int32) (h0 : Heap) (n0 : Nat) (s : State) (o : Outcome) (U' : State) : Prop := ∃ v L, o = .returned v ∧ Q_0 Z p1 p2 h0 n0 v U'.heap L ∧ FrameEnd s o U' L 0 0
set_option maxRecDepth 65536 in
set_option maxHeartbeats 40000000 in
theorem rm_0 (l : Launch) (Z : State) (a0 : Array Value) (hw : ∀ d ∈ tables_1, d.before a0 Z = true) (ws : List Jvm.Cond) (p1 : Int32) (p2 : Int32) (h0 : Heap) (n0 : Nat) (Z0 : n0 ≤ h0.size) :
    MetFree l x (head1 (Jvm.Cond.code x code maxLocals ret :: ws) room_1) (fun a U => a = #[(.int p1), (.int p2)] ∧ Z.Warmed39 U.vm ∧ U.heap = h0) (fun _ _ _ _ _ => True) (fun _ U o U' => ∃ v L, o = .returned v ∧ Q_0 Z p1 p2 h0 n0 v U'.heap L ∧ FrameEnd U o U' L room_1.cells room_1.slots) := by
  refine MetFree.of_bodySF (plainFor_of_name own_pn1) hisR ?_
  intro p e s m args below meth c s₁ Bd hml0 hP hK
  obtain ⟨rfl, hZ, hh⟩ := hP
  have hx := Bd.exec
  have hby := Bd.bytes
  have hml : c.maxLocals = 4 := hml0
  have hown : s.vm.findClass "com/example/cropquota/cropquota/ControlCharactersDirectionalPinLaw" = some m.cls := findClass_of_methodNamed Bd.named
  have hnm := (name_of_methodNamed Bd.named Bd.method).1
  have X0 : Stand p l e room_1 s m #[(.int p1), (.int p2)] below meth c s₁ [] 0 0 := Stand.of_body Bd
  have e0 : s₁.heap = h0 := by rw [← hh, Bd.state]; rfl
  have N0 := Fr.nil n0
  show own_G p e below (K_0 Z p1 p2 h0 n0 s) (s₁.setTop (entryFrame m #[(.int p1), (.int p2)] maxLocals))
  refine own_cast (ef0 m p1 p2) ?_
  show own_G p e below (K_0 Z p1 p2 h0 n0 s) (s₁.setTop (mkF m 0 #[.val (.int p1), .val (.int p2), .unset, .unset] []))
  refine own_go (fun t k => XS.iloadN X0.here hx rfl (hb hby at_0) rfl k) ?_
  show own_G p e below (K_0 Z p1 p2 h0 n0 s) (s₁.setTop (mkF m 1 #[.val (.int p1), .val (.int p2), .unset, .unset] [(.int p1)]))
  refine own_go (fun t k => XS.i2c X0.here hx rfl (hb hby at_1) rfl k) ?_
  show own_G p e below (K_0 Z p1 p2 h0 n0 s) (s₁.setTop (mkF m 2 #[.val (.int p1), .val (.int p2), .unset, .unset] [(.int (p1.toUInt32.toUInt16.toUInt32.toInt32))]))
  refine own_go (fun t k => XS.istoreN X0.here hx rfl (hb hby at_2) rfl (l' := #[.val (.int p1), .val (.int p2), .val (.int (p1.toUInt32.toUInt16.toUInt32.toInt32)), .unset]) rfl k) ?_
  show own_G p e below (K_0 Z p1 p2 h0 n0 s) (s₁.setTop (mkF m 3 #[.val (.int p1), .val (.int p2), .val (.int (p1.toUInt32.toUInt16.toUInt32.toInt32)), .unset] []))
  refine own_go (fun t k => XS.sipush X0.here hx rfl (hb hby at_3) k) ?_
  show own_G p e below (K_0 Z p1 p2 h0 n0 s) (s₁.setTop (mkF m 6 #[.val (.int p1), .val (.int p2), .val (.int (p1.toUInt32.toUInt16.toUInt32.toInt32)), .unset] [(.int (8232 : Int32))]))
  refine own_go (fun t k => XS.iloadN X0.here hx rfl (hb hby at_6) rfl k) ?_
  show own_G p e below (K_0 Z p1 p2 h0 n0 s) (s₁.setTop (mkF m 7 #[.val (.int p1), .val (.int p2), .val (.int (p1.toUInt32.toUInt16.toUInt32.toInt32)), .unset] [(.int p2), (.int (8232 : Int32))]))
  refine own_go (fun t k => XS.bipush X0.here hx rfl (hb hby at_7) k) ?_
  show own_G p e below (K_0 Z p1 p2 h0 n0 s) (s₁.setTop (mkF m 9 #[.val (.int p1), .val (.int p2), .val (.int (p1.toUInt32.toUInt16.toUInt32.toInt32)), .unset] [(.int (127 : Int32)), (.int p2), (.int (8232 : Int32))]))
  refine own_go (fun t k => XS.iand X0.here hx rfl (hb hby at_9) rfl k) ?_
  show own_G p e below (K_0 Z p1 p2 h0 n0 s) (s₁.setTop (mkF m 10 #[.val (.int p1), .val (.int p2), .val (.int (p1.toUInt32.toUInt16.toUInt32.toInt32)), .unset] [(.int (p2 &&& (127 : Int32))), (.int (8232 : Int32))]))
  refine own_go (fun t k => XS.iadd X0.here hx rfl (hb hby at_10) rfl k) ?_
  show own_G p e below (K_0 Z p1 p2 h0 n0 s) (s₁.setTop (mkF m 11 #[.val (.int p1), .val (.int p2), .val (.int (p1.toUInt32.toUInt16.toUInt32.toInt32)), .unset] [(.int ((8232 : Int32) + (p2 &&& (127 : Int32))))]))
  refine own_go (fun t k => XS.i2c X0.here hx rfl (hb hby at_11) rfl k) ?_
  show own_G p e below (K_0 Z p1 p2 h0 n0 s) (s₁.setTop (mkF m 12 #[.val (.int p1), .val (.int p2), .val (.int (p1.toUInt32.toUInt16.toUInt32.toInt32)), .unset] [(.int (((8232 : Int32) + (p2 &&& (127 : Int32))).toUInt32.toUInt16.toUInt32.toInt32))]))
  refine own_go (fun t k => XS.istoreN X0.here hx rfl (hb hby at_12) rfl (l' := #[.val (.int p1), .val (.int p2), .val (.int (p1.toUInt32.toUInt16.toUInt32.toInt32)), .val (.int (((8232 : Int32) + (p2 &&& (127 : Int32))).toUInt32.toUInt16.toUInt32.toInt32))]) rfl k) ?_
  show own_G p e below (K_0 Z p1 p2 h0 n0 s) (s₁.setTop (mkF m 13 #[.val (.int p1), .val (.int p2), .val (.int (p1.toUInt32.toUInt16.toUInt32.toInt32)), .val (.int (((8232 : Int32) + (p2 &&& (127 : Int32))).toUInt32.toUInt16.toUInt32.toInt32))] []))
  refine own_go (fun t k => XS.iloadN X0.here hx rfl (hb hby at_13) rfl k) ?_
  show own_G p e below (K_0 Z p1 p2 h0 n0 s) (s₁.setTop (mkF m 14 #[.val (.int p1), .val (.int p2), .val (.int (p1.toUInt32.toUInt16.toUInt32.toInt32)), .val (.int (((8232 : Int32) + (p2 &&& (127 : Int32))).toUInt32.toUInt16.toUInt32.toInt32))] [(.int (p1.toUInt32.toUInt16.toUInt32.toInt32))]))
  obtain ⟨_, _, ⟨T1, L1, k1, n1⟩, -, X1, ⟨Lc1, hQ1, l1, y1, z1⟩, st1⟩ := Jvm.LawKit.callS X0 hx (y := (⟨"com/example/cropquota/cropquota/ControlCharacters", "directional", "(C)Z"⟩ : MethodName)) hown (mvT hZ (hw _ (List.mem_of_getElem? (i := 0) rfl))) (mvT hZ (hw _ (List.mem_of_getElem? (i := 1) rfl))) (mvT hZ (hw _ (List.mem_of_getElem? (i := 2) rfl))) (mvT hZ (hw _ (List.mem_of_getElem? (i := 3) rfl))) (by decide) (backOf (W := 0) (rm_di l Z a0 hw [] (p1.toUInt32.toUInt16.toUInt32.toInt32) h0 n0 Z0 ) hZ (hw _ (List.mem_of_getElem? (i := 3) rfl)) (hw _ (List.mem_of_getElem? (i := 2) rfl)) (by decide) (by decide)) (g := (mkF m 14 #[.val (.int p1), .val (.int p2), .val (.int (p1.toUInt32.toUInt16.toUInt32.toInt32)), .val (.int (((8232 : Int32) + (p2 &&& (127 : Int32))).toUInt32.toUInt16.toUInt32.toInt32))] [(.int (p1.toUInt32.toUInt16.toUInt32.toInt32))])) rfl (by rw [hml]; rfl) (argsL := [(.int (p1.toUInt32.toUInt16.toUInt32.toInt32))]) (rest := []) (lenOf own_pd0 rfl) rfl (by show 2 * 0 + _ ≤ _; exact Nat.le_of_eq rfl) (hb hby at_14) (fun _ _ => ⟨rfl, e0, (by decide : 0 + 0 ≤ _), (by decide : 0 + 0 ≤ _)⟩)
  dsimp only [Pt.U, Pt.locs, Pt.cells, Pt.slots] at X1 l1 y1 z1 st1 hQ1
  subst l1 y1 z1
  obtain ⟨rfl, N1q, e1⟩ := hQ1
  have N1 := Fr.app N0 N1q
  refine own_go st1 ?_
  show own_G p e below (K_0 Z p1 p2 h0 n0 s) (T1.setTop (mkF m 17 #[.val (.int p1), .val (.int p2), .val (.int (p1.toUInt32.toUInt16.toUInt32.toInt32)), .val (.int (((8232 : Int32) + (p2 &&& (127 : Int32))).toUInt32.toUInt16.toUInt32.toInt32))] [(.int (own_dir (p1.toUInt32.toUInt16.toUInt32.toInt32)))]))
  refine own_go (fun t k => XS.iloadN X1.here hx rfl (hb hby at_17) rfl k) ?_
  show own_G p e below (K_0 Z p1 p2 h0 n0 s) (T1.setTop (mkF m 18 #[.val (.int p1), .val (.int p2), .val (.int (p1.toUInt32.toUInt16.toUInt32.toInt32)), .val (.int (((8232 : Int32) + (p2 &&& (127 : Int32))).toUInt32.toUInt16.toUInt32.toInt32))] [(.int (p1.toUInt32.toUInt16.toUInt32.toInt32)), (.int (own_dir (p1.toUInt32.toUInt16.toUInt32.toInt32)))]))
  obtain ⟨_, _, ⟨T2, L2, k2, n2⟩, -, X2, ⟨Lc2, hQ2, l2, y2, z2⟩, st2⟩ := Jvm.LawKit.callS X1 hx (y := (⟨"com/example/cropquota/cropquota/ControlCharactersDirectionalPinLaw", "expected", "(C)Z"⟩ : MethodName)) hown (mvT hZ (hw _ (List.mem_of_getElem? (i := 4) rfl))) (mvT hZ (hw _ (List.mem_of_getElem? (i := 5) rfl))) (mvT hZ (hw _ (List.mem_of_getElem? (i := 6) rfl))) (mvT hZ (hw _ (List.mem_of_getElem? (i := 7) rfl))) (by decide) (backOf (W := 1) (rm_ex l Z a0 hw [] (p1.toUInt32.toUInt16.toUInt32.toInt32) h0 n0 Z0 ) hZ (hw _ (List.mem_of_getElem? (i := 7) rfl)) (hw _ (List.mem_of_getElem? (i := 6) rfl)) (by decide) (by decide)) (g := (mkF m 18 #[.val (.int p1), .val (.int p2), .val (.int (p1.toUInt32.toUInt16.toUInt32.toInt32)), .val (.int (((8232 : Int32) + (p2 &&& (127 : Int32))).toUInt32.toUInt16.toUInt32.toInt32))] [(.int (p1.toUInt32.toUInt16.toUInt32.toInt32)), (.int (own_dir (p1.toUInt32.toUInt16.toUInt32.toInt32)))])) rfl (by rw [hml]; rfl) (argsL := [(.int (p1.toUInt32.toUInt16.toUInt32.toInt32))]) (rest := [(.int (own_dir (p1.toUInt32.toUInt16.toUInt32.toInt32)))]) (lenOf own_pd0 rfl) rfl (by show 2 * 0 + _ ≤ _; exact Nat.le_of_eq rfl) (hb hby at_18) (fun _ _ => ⟨rfl, e1, (by decide : 0 + 0 ≤ _), (by decide : 0 + 0 ≤ _)⟩)
  dsimp only [Pt.U, Pt.locs, Pt.cells, Pt.slots] at X2 l2 y2 z2 st2 hQ2
  subst l2 y2 z2
  obtain ⟨rfl, N2q, e2⟩ := hQ2
  have N2 := Fr.app N1 N2q
  refine own_go st2 ?_
  show own_G p e below (K_0 Z p1 p2 h0 n0 s) (T2.setTop (mkF m 21 #[.val (.int p1), .val (.int p2), .val (.int (p1.toUInt32.toUInt16.toUInt32.toInt32)), .val (.int (((8232 : Int32) + (p2 &&& (127 : Int32))).toUInt32.toUInt16.toUInt32.toInt32))] [(.int (own_exp (p1.toUInt32.toUInt16.toUInt32.toInt32))), (.int (own_dir (p1.toUInt32.toUInt16.toUInt32.toInt32)))]))
  refine own_go (fun t k => XS.icmpNo X2.here hx rfl (hb hby at_21) rfl (teq (own_de _)).2 k) ?_
  show own_G p e below (K_0 Z p1 p2 h0 n0 s) (T2.setTop (mkF m 24 #[.val (.int p1), .val (.int p2), .val (.int (p1.toUInt32.toUInt16.toUInt32.toInt32)), .val (.int (((8232 : Int32) + (p2 &&& (127 : Int32))).toUInt32.toUInt16.toUInt32.toInt32))] []))
  refine own_go (fun t k => XS.iloadN X2.here hx rfl (hb hby at_24) rfl k) ?_
  show own_G p e below (K_0 Z p1 p2 h0 n0 s) (T2.setTop (mkF m 25 #[.val (.int p1), .val (.int p2), .val (.int (p1.toUInt32.toUInt16.toUInt32.toInt32)), .val (.int (((8232 : Int32) + (p2 &&& (127 : Int32))).toUInt32.toUInt16.toUInt32.toInt32))] [(.int (((8232 : Int32) + (p2 &&& (127 : Int32))).toUInt32.toUInt16.toUInt32.toInt32))]))
  obtain ⟨_, _, ⟨T3, L3, k3, n3⟩, -, X3, ⟨Lc3, hQ3, l3, y3, z3⟩, st3⟩ := Jvm.LawKit.callS X2 hx (y := (⟨"com/example/cropquota/cropquota/ControlCharacters", "directional", "(C)Z"⟩ : MethodName)) hown (mvT hZ (hw _ (List.mem_of_getElem? (i := 0) rfl))) (mvT hZ (hw _ (List.mem_of_getElem? (i := 1) rfl))) (mvT hZ (hw _ (List.mem_of_getElem? (i := 2) rfl))) (mvT hZ (hw _ (List.mem_of_getElem? (i := 3) rfl))) (by decide) (backOf (W := 0) (rm_di l Z a0 hw [] (((8232 : Int32) + (p2 &&& (127 : Int32))).toUInt32.toUInt16.toUInt32.toInt32) h0 n0 Z0 ) hZ (hw _ (List.mem_of_getElem? (i := 3) rfl)) (hw _ (List.mem_of_getElem? (i := 2) rfl)) (by decide) (by decide)) (g := (mkF m 25 #[.val (.int p1), .val (.int p2), .val (.int (p1.toUInt32.toUInt16.toUInt32.toInt32)), .val (.int (((8232 : Int32) + (p2 &&& (127 : Int32))).toUInt32.toUInt16.toUInt32.toInt32))] [(.int (((8232 : Int32) + (p2 &&& (127 : Int32))).toUInt32.toUInt16.toUInt32.toInt32))])) rfl (by rw [hml]; rfl) (argsL := [(.int (((8232 : Int32) + (p2 &&& (127 : Int32))).toUInt32.toUInt16.toUInt32.toInt32))]) (rest := []) (lenOf own_pd0 rfl) rfl (by show 2 * 0 + _ ≤ _; exact Nat.le_of_eq rfl) (hb hby at_25) (fun _ _ => ⟨rfl, e2, (by decide : 0 + 0 ≤ _), (by decide : 0 + 0 ≤ _)⟩)
  dsimp only [Pt.U, Pt.locs, Pt.cells, Pt.slots] at X3 l3 y3 z3 st3 hQ3
  subst l3 y3 z3
  obtain ⟨rfl, N3q, e3⟩ := hQ3
  have N3 := Fr.app N2 N3q
  refine own_go st3 ?_
  show own_G p e below (K_0 Z p1 p2 h0 n0 s) (T3.setTop (mkF m 28 #[.val (.int p1), .val (.int p2), .val (.int (p1.toUInt32.toUInt16.toUInt32.toInt32)), .val (.int (((8232 : Int32) + (p2 &&& (127 : Int32))).toUInt32.toUInt16.toUInt32.toInt32))] [(.int (own_dir (((8232 : Int32) + (p2 &&& (127 : Int32))).toUInt32.toUInt16.toUInt32.toInt32)))]))
  refine own_go (fun t k => XS.iloadN X3.here hx rfl (hb hby at_28) rfl k) ?_
  show own_G p e below (K_0 Z p1 p2 h0 n0 s) (T3.setTop (mkF m 29 #[.val (.int p1), .val (.int p2), .val (.int (p1.toUInt32.toUInt16.toUInt32.toInt32)), .val (.int (((8232 : Int32) + (p2 &&& (127 : Int32))).toUInt32.toUInt16.toUInt32.toInt32))] [(.int (((8232 : Int32) + (p2 &&& (127 : Int32))).toUInt32.toUInt16.toUInt32.toInt32)), (.int (own_dir (((8232 : Int32) + (p2 &&& (127 : Int32))).toUInt32.toUInt16.toUInt32.toInt32)))]))
  obtain ⟨_, _, ⟨T4, L4, k4, n4⟩, -, X4, ⟨Lc4, hQ4, l4, y4, z4⟩, st4⟩ := Jvm.LawKit.callS X3 hx (y := (⟨"com/example/cropquota/cropquota/ControlCharactersDirectionalPinLaw", "expected", "(C)Z"⟩ : MethodName)) hown (mvT hZ (hw _ (List.mem_of_getElem? (i := 4) rfl))) (mvT hZ (hw _ (List.mem_of_getElem? (i := 5) rfl))) (mvT hZ (hw _ (List.mem_of_getElem? (i := 6) rfl))) (mvT hZ (hw _ (List.mem_of_getElem? (i := 7) rfl))) (by decide) (backOf (W := 1) (rm_ex l Z a0 hw [] (((8232 : Int32) + (p2 &&& (127 : Int32))).toUInt32.toUInt16.toUInt32.toInt32) h0 n0 Z0 ) hZ (hw _ (List.mem_of_getElem? (i := 7) rfl)) (hw _ (List.mem_of_getElem? (i := 6) rfl)) (by decide) (by decide)) (g := (mkF m 29 #[.val (.int p1), .val (.int p2), .val (.int (p1.toUInt32.toUInt16.toUInt32.toInt32)), .val (.int (((8232 : Int32) + (p2 &&& (127 : Int32))).toUInt32.toUInt16.toUInt32.toInt32))] [(.int (((8232 : Int32) + (p2 &&& (127 : Int32))).toUInt32.toUInt16.toUInt32.toInt32)), (.int (own_dir (((8232 : Int32) + (p2 &&& (127 : Int32))).toUInt32.toUInt16.toUInt32.toInt32)))])) rfl (by rw [hml]; rfl) (argsL := [(.int (((8232 : Int32) + (p2 &&& (127 : Int32))).toUInt32.toUInt16.toUInt32.toInt32))]) (rest := [(.int (own_dir (((8232 : Int32) + (p2 &&& (127 : Int32))).toUInt32.toUInt16.toUInt32.toInt32)))]) (lenOf own_pd0 rfl) rfl (by show 2 * 0 + _ ≤ _; exact Nat.le_of_eq rfl) (hb hby at_29) (fun _ _ => ⟨rfl, e3, (by decide : 0 + 0 ≤ _), (by decide : 0 + 0 ≤ _)⟩)
  dsimp only [Pt.U, Pt.locs, Pt.cells, Pt.slots] at X4 l4 y4 z4 st4 hQ4
  subst l4 y4 z4
  obtain ⟨rfl, N4q, e4⟩ := hQ4
  have N4 := Fr.app N3 N4q
  refine own_go st4 ?_
  show own_G p e below (K_0 Z p1 p2 h0 n0 s) (T4.setTop (mkF m 32 #[.val (.int p1), .val (.int p2), .val (.int (p1.toUInt32.toUInt16.toUInt32.toInt32)), .val (.int (((8232 : Int32) + (p2 &&& (127 : Int32))).toUInt32.toUInt16.toUInt32.toInt32))] [(.int (own_exp (((8232 : Int32) + (p2 &&& (127 : Int32))).toUInt32.toUInt16.toUInt32.toInt32))), (.int (own_dir (((8232 : Int32) + (p2 &&& (127 : Int32))).toUInt32.toUInt16.toUInt32.toInt32)))]))
  refine own_go (fun t k => XS.icmpNo X4.here hx rfl (hb hby at_32) rfl (teq (own_de _)).2 k) ?_
  show own_G p e below (K_0 Z p1 p2 h0 n0 s) (T4.setTop (mkF m 35 #[.val (.int p1), .val (.int p2), .val (.int (p1.toUInt32.toUInt16.toUInt32.toInt32)), .val (.int (((8232 : Int32) + (p2 &&& (127 : Int32))).toUInt32.toUInt16.toUInt32.toInt32))] []))
  refine own_go (fun t k => XS.iconst X4.here hx rfl (hb hby at_35) k) ?_
  show own_G p e below (K_0 Z p1 p2 h0 n0 s) (T4.setTop (mkF m 36 #[.val (.int p1), .val (.int p2), .val (.int (p1.toUInt32.toUInt16.toUInt32.toInt32)), .val (.int (((8232 : Int32) + (p2 &&& (127 : Int32))).toUInt32.toUInt16.toUInt32.toInt32))] [(.int (1 : Int32))]))
  refine own_go (fun t k => XS.goto X4.here hx rfl (pc0 := 36) (pc' := 40) rfl (hb hby at_36) (by decide) (by decide) k) ?_
  show own_G p e below (K_0 Z p1 p2 h0 n0 s) (T4.setTop (mkF m 40 #[.val (.int p1), .val (.int p2), .val (.int (p1.toUInt32.toUInt16.toUInt32.toInt32)), .val (.int (((8232 : Int32) + (p2 &&& (127 : Int32))).toUInt32.toUInt16.toUInt32.toInt32))] [(.int (1 : Int32))]))
  exact own_retN X4 hx Bd.notSynchronized (t := .boolean) (z' := (1 : Int32)) Bd.returns (by simp) (hb hby at_40) rfl (fun U hU hV hF => ⟨_, _, rfl, ⟨rfl, N4⟩, hF.1, hF.2.1, hF.2.2.mono (by decide) (by decide)⟩)
set_option maxRecDepth 65536 in
set_option maxHeartbeats 40000000 in
theorem comes_1 {Post : Tables → Env → Array Value → State → Outcome → State → Prop} (hpost : ∀ tb e args s v u, (limb_1_1.after args s (.returned v) u = true ∧ limb_1_2.after args s (.returned v) u = true ∧ True) → FrameEnd s (.returned v) u (Jvm.fieldLocs frame_1_writes args s ++ Jvm.arrayLocs frame_1_arrays args s ++ Jvm.staticLocs frame_1_statics s) 0 0 → Post tb e args s (.returned v) u) :
    ArmFor flags0 classFile x code maxLocals ret World_1 tables_1 room_1 Calls_1 rest_1 Pre_1 Post := by
  intro l hfl _ _ p e ha hc hk s m args below hf hA hF happ hP
  obtain ⟨hcalls, hrest, hpre⟩ := hP
  obtain ⟨-, -, -, hnamed, -, -, -, hat⟩ := (Spec.applies_iff hf).mp happ
  obtain ⟨hg, hn⟩ := and_e (Cond.before_iff.mp (show (Jvm.Cond.and given_1 narrow_1).before args s = true from hpre))
  obtain ⟨hcnt, hg0⟩ := and_e hg
  obtain ⟨hv0, hg1⟩ := and_e hg0
  obtain ⟨w0, w1, rfl⟩ : ∃ w0 w1 : Value, args = #[w0, w1] := by
    have hs : args.size = 2 := by simpa [Cond.value, given_1] using hcnt
    obtain ⟨L⟩ := args
    match L, hs with
    | [w0, w1], _ => exact ⟨w0, w1, rfl⟩
  have hw := fun d (hd : d ∈ tables_1) => atoms_spec (ws := Jvm.Cond.code x code maxLocals ret :: tables_1) hat d (List.mem_cons_of_mem _ hd)
  have hfit : Fit s := fun {y c} hc i hi => by
    obtain ⟨ha, rfl⟩ := Array.getElem?_eq_some_iff.mp hc
    have q := List.all_eq_true.mp ((Array.all_eq_true_iff_forall_mem.mp hF) _ (Array.getElem_mem ha)) i (List.mem_range.mpr hi)
    simpa [Array.getElem?_eq_getElem hi] using q
  obtain ⟨i0, ei0⟩ := is_v hv0
  obtain rfl : w0 = (.int i0) := Option.some.inj ei0
  obtain ⟨i1, ei1⟩ := is_v hg1
  obtain rfl : w1 = (.int i1) := Option.some.inj ei1
  obtain ⟨n, o, h1, h2, h3, _, L, rfl, ⟨rfl, N⟩, hq⟩ := rm_0 l s _ hw tables_1 i0 i1  s.heap s.heap.size (Nat.le_refl _)  p e ha hc hk s m _ below hf ((Spec.applies_iff_loose hf).mp happ).1 ⟨rfl, State.Warmed39.refl s, rfl⟩ trivial
  refine ⟨n, _, h1, h2, h3, hpost _ _ _ _ _ _ ⟨Cond.after_iff.mpr rfl, Cond.after_iff.mpr (eq_i res_at (Term.int_eval (1)) rfl), trivial⟩ ⟨hq.1, hq.2.1, (hq.2.2.sift fun y hy => Or.inr (N y hy)).mono (by decide) (by decide)⟩⟩
theorem main_1_1 : Claimed_1_1 := comes_1 fun _ _ _ _ _ _ h hF => ⟨h.1, hF⟩
theorem main_1_2 : Claimed_1_2 := comes_1 fun _ _ _ _ _ _ h hF => ⟨h.2.1, hF⟩
end Jvm.Pilot.@@N@@
namespace Jvm.Pilot.@@N@@
open Jvm Jvm.ClassFile Sem Op Lib Jvm.Free Jvm.Stand Jvm.Pilot.@@N@@.Jvm.D
/-! MADE BY PROGRAM (witnessworld.py) out of the Statement's table words and the real class files: 9 classes; the members and pool entries that the words name. The judged class is class 1, her method 1. -/
namespace start1
open Jvm.ClassFile
def u (s : String) : CpInfo := .utf8 (stringToUtf16 s)
/-- a pool by its gaps: so many unusable entries, then the entry; so many at the end -/
def gap : Nat → List CpInfo → List CpInfo
  | 0, r => r
  | n + 1, r => .unusable :: gap n r
def poolList (es : List (Nat × CpInfo)) (last : Nat) : List CpInfo := es.foldr (fun e r => gap e.1 (e.2 :: r)) (gap last [])
def pool (es : List (Nat × CpInfo)) (last : Nat) : Array CpInfo := ⟨poolList es last⟩
def fileOf (pool : Array CpInfo) (this : Nat) (attrs : Array Attribute := #[]) (ms : Array MethodInfo := #[]) (fl : Nat := 33) (sup : Nat := 0) (ifs : Array Nat := #[]) (fds : Array FieldInfo := #[]) : ClassFile where
  minorVersion := 0
  majorVersion := 65
  constantPool := pool
  accessFlags := fl
  thisClass := this
  superClass := sup
  interfaces := ifs
  fields := fds
  methods := ms
  attributes := attrs
def plain (name : String) (sup : Option ClassId) : Class where
  name := name
  kind := .ordinary
  loader := none
  accessFlags := 33
  super := sup
  interfaces := #[]
  cf := none
  fields := #[]
  methods := #[]
  instanceTypes := #[]
  staticTypes := #[]
  resolved := #[]
  callSites := []
  init := .initialized
  statics := none
  mirror := none

def pool0 : Array CpInfo := pool [(5, u "<init>"), (0, u "()V"), (1, .class_ 10), (1, u "java/lang/Object")] 113

def k0m0 : Method := { name := "<init>", desc := "()V", sig := { parameters := [], returnType := none }, accessFlags := 1, code := none }
/-- java/lang/Object -/
def k0 : Class := { plain "java/lang/Object" none with
  accessFlags := 33
  interfaces := #[]
  cf := some (fileOf pool0 8 #[] #[{ accessFlags := 1, nameIndex := 5, descriptorIndex := 6, attributes := #[] }] 33 0 #[] #[])
  fields := #[]
  methods := #[k0m0]
  instanceTypes := #[]
  staticTypes := #[]
  resolved := Array.replicate 124 none
  statics := none }

def pool1 : Array CpInfo := pool [(2, .class_ 4), (1, u "java/lang/Object"), (0, u "<init>"), (0, u "()V"), (0, .methodref 8 9), (0, .class_ 10), (0, .nameAndType 11 12), (0, u "com/example/cropquota/cropquota/ControlCharacters"), (0, u "directional"), (0, u "(C)Z"), (0, .methodref 14 15), (0, .class_ 16), (0, .nameAndType 17 12), (0, u "com/example/cropquota/cropquota/ControlCharactersDirectionalPinLaw"), (0, u "expected"), (2, u "law"), (0, u "(II)Z")] 3

def k1m0 : Method := { name := "<init>", desc := "()V", sig := { parameters := [], returnType := none }, accessFlags := 2, code := none }
def k1c1 : Code := { maxStack := 3, maxLocals := 4, code := code, exceptionTable := #[], attributes := #[] }
def k1m1 : Method := { name := "law", desc := "(II)Z", sig := { parameters := [.int, .int], returnType := some .boolean }, accessFlags := 9, code := some k1c1 }
def k1c2 : Code := { maxStack := 2, maxLocals := 2, code := method_3_code, exceptionTable := #[], attributes := #[] }
def k1m2 : Method := { name := "expected", desc := "(C)Z", sig := { parameters := [.char], returnType := some .boolean }, accessFlags := 10, code := some k1c2 }
/-- com/example/cropquota/cropquota/ControlCharactersDirectionalPinLaw -/
def k1 : Class := { plain "com/example/cropquota/cropquota/ControlCharactersDirectionalPinLaw" (some 0) with
  accessFlags := 49
  interfaces := #[]
  cf := some (fileOf pool1 14 #[] #[{ accessFlags := 2, nameIndex := 5, descriptorIndex := 6, attributes := #[] }, { accessFlags := 9, nameIndex := 20, descriptorIndex := 21, attributes := #[] }, { accessFlags := 10, nameIndex := 17, descriptorIndex := 12, attributes := #[] }] 49 2 #[] #[])
  fields := #[]
  methods := #[k1m0, k1m1, k1m2]
  instanceTypes := #[]
  staticTypes := #[]
  resolved := Array.replicate 25 none
  statics := none }

def pool2 : Array CpInfo := pool [(2, .class_ 4), (1, u "java/lang/Object"), (0, u "<init>"), (0, u "()V"), (7, .class_ 16), (1, u "com/example/cropquota/cropquota/ControlCharacters"), (0, u "directional"), (0, u "(C)Z")] 56

def k2m0 : Method := { name := "<init>", desc := "()V", sig := { parameters := [], returnType := none }, accessFlags := 2, code := none }
def k2c1 : Code := { maxStack := 2, maxLocals := 1, code := prog_1_method_3_code, exceptionTable := #[], attributes := #[] }
def k2m1 : Method := { name := "directional", desc := "(C)Z", sig := { parameters := [.char], returnType := some .boolean }, accessFlags := 8, code := some k2c1 }
/-- com/example/cropquota/cropquota/ControlCharacters -/
def k2 : Class := { plain "com/example/cropquota/cropquota/ControlCharacters" (some 0) with
  accessFlags := 33
  interfaces := #[]
  cf := some (fileOf pool2 14 #[] #[{ accessFlags := 2, nameIndex := 5, descriptorIndex := 6, attributes := #[] }, { accessFlags := 8, nameIndex := 17, descriptorIndex := 18, attributes := #[] }] 33 2 #[] #[])
  fields := #[]
  methods := #[k2m0, k2m1]
  instanceTypes := #[]
  staticTypes := #[]
  resolved := Array.replicate 75 none
  statics := none }

def pool3 : Array CpInfo := pool [(1, u "java/lang/Cloneable"), (0, .class_ 1), (0, u "java/lang/Object"), (0, .class_ 3)] 3

/-- java/lang/Cloneable -/
def k3 : Class := { plain "java/lang/Cloneable" (some 0) with
  accessFlags := 1537
  interfaces := #[]
  cf := some (fileOf pool3 2 #[] #[] 1537 4 #[] #[])
  fields := #[]
  methods := #[]
  instanceTypes := #[]
  staticTypes := #[]
  resolved := Array.replicate 8 none
  statics := none }

def pool4 : Array CpInfo := pool [(1, u "java/io/Serializable"), (0, .class_ 1), (0, u "java/lang/Object"), (0, .class_ 3)] 3

/-- java/io/Serializable -/
def k4 : Class := { plain "java/io/Serializable" (some 0) with
  accessFlags := 1537
  interfaces := #[]
  cf := some (fileOf pool4 2 #[] #[] 1537 4 #[] #[])
  fields := #[]
  methods := #[]
  instanceTypes := #[]
  staticTypes := #[]
  resolved := Array.replicate 8 none
  statics := none }

/-- the primitive byte -/
def k5 : Class := { plain "byte" none with kind := .primitive 'B', accessFlags := 0x411 }
/-- [B -/
def k6 : Class := { plain "[B" (some 0) with kind := .array 5 .byte, interfaces := #[3, 4], accessFlags := 1041 }

/-- the primitive int -/
def k7 : Class := { plain "int" none with kind := .primitive 'I', accessFlags := 0x411 }
/-- [I -/
def k8 : Class := { plain "[I" (some 0) with kind := .array 7 .int, interfaces := #[3, 4], accessFlags := 1041 }

def heap : Heap := #[]
def classes : Array Class := #[k0, k1, k2, k3, k4, k5, k6, k7, k8]
def interned : List (Array UInt16 × Addr) := []
def slotsUsed : Nat := 0
def theMethod : MethodId := ⟨1, 1⟩
def args0 : Array Value := #[.int 5, .int 7]
def aboutOver (below : List Frame) : State where
  vm := { classes := classes, interned := interned.toArray }
  heap := heap
  slotsUsed := slotsUsed
  threads := #[{ frames := .invoking theMethod args0 :: below }]
def below0 : List Frame := [.native { method := ⟨0, 0⟩, args := #[] }]
def about1 : State := aboutOver below0
def p0 : Program := .bare "" "" ""
def e0 : Env := launch0.env 0 0 0
theorem w_frames : about1.frames = Frame.invoking theMethod args0 :: below0 := rfl
set_option maxRecDepth 65536 in
theorem w_args : argsFit about1.vm theMethod args0 = true := by decide +kernel
set_option maxRecDepth 65536 in
theorem w_heap : heapFits about1 = true := by decide +kernel
set_option maxRecDepth 65536 in
theorem w_runnable : about1.curStatus? = some .runnable := by decide +kernel
set_option maxRecDepth 65536 in
theorem w_alone : about1.alone = true := by decide +kernel
set_option maxRecDepth 65536 in
theorem w_named : about1.methodNamed? x = some theMethod := by decide +kernel
set_option maxRecDepth 65536 in
theorem w_hears : about1.hears theMethod below0 = true := by decide +kernel
set_option maxRecDepth 65536 in
theorem w_ripe : about1.ripe theMethod args0 below0 = true := by decide +kernel
theorem w_running : about1.status = .running := rfl
set_option maxRecDepth 65536 in
theorem w_room : about1.hasRoom e0.platform room_1 = true :=
  launch0.hasRoom_least _ room_1 (by decide +kernel) (by decide +kernel) (by decide +kernel) (by decide +kernel) (by decide +kernel) (by decide +kernel)
theorem allAtoms_all (ts : List Jvm.Cond) (a : Array Jvm.Value) (st : Jvm.State) : (allAtoms ts).before a st = ts.all (fun c => c.before a st) := by
  induction ts with
  | nil => rfl
  | cons c t ih =>
    show (Jvm.Cond.and c (allAtoms t)).before a st = _
    rw [Jvm.Cond.before_and, ih, List.all_cons]
def words1 : List Jvm.Cond := Jvm.Cond.code x code maxLocals ret :: tables_1
/-- a 'code' word, met by the world's own term for the bytes: nothing is compared byte by byte -/
theorem code_word {y : MethodName} {bytes : ByteArray} {mx : Nat} {rt : Option FieldType} {a : Array Value} {s : State} {m : MethodId} {meth : Method} {c : Code} (h1 : s.methodNamed? y = some m) (h2 : s.vm.method? m = some meth) (h3 : meth.code = some c) (h4 : c.code = bytes)
    (h5 : (c.maxLocals == mx && c.exceptionTable.isEmpty && decide (c.maxStack ≤ mostOperands) && decide (meth.sig.returnType = rt) && !meth.locks && decide (parseMethodDescriptor y.desc = some meth.sig)) = true) : (Jvm.Cond.code y bytes mx rt).before a s = true := by
  simp only [Bool.and_eq_true, beq_iff_eq, Bool.not_eq_true', decide_eq_true_eq] at h5
  obtain ⟨⟨⟨⟨⟨g1, g2⟩, g3⟩, g4⟩, g5⟩, g6⟩ := h5
  simp [Cond.before, Cond.holds, Cond.value, h1, h2, h3, h4, g1, g2, g3, g4, g5, g6]
def isCode : Jvm.Cond → Bool
  | .code _ _ _ _ => true
  | _ => false
theorem all_split {L : List Jvm.Cond} {P : Jvm.Cond → Bool} (h1 : L.all (fun c => isCode c || P c) = true) (h2 : ∀ c ∈ L.filter isCode, P c = true) : L.all P = true := by
  refine List.all_eq_true.mpr fun c hc => ?_
  have h := List.all_eq_true.mp h1 c hc
  rcases Bool.eq_false_or_eq_true (isCode c) with hi | hi
  · exact h2 c (List.mem_filter.mpr ⟨hc, hi⟩)
  · simpa [hi] using h
set_option maxRecDepth 65536 in
theorem w_c0 : (Jvm.Cond.code x code maxLocals ret).before args0 about1 = true := code_word (m := ⟨1, 1⟩) (meth := k1m1) (c := k1c1) (by decide +kernel) rfl rfl rfl (by decide +kernel)
set_option maxRecDepth 65536 in
theorem w_c1 : (Jvm.Cond.code ({ cls := "com/example/cropquota/cropquota/ControlCharacters", name := "directional", desc := "(C)Z" } : Jvm.MethodName) prog_1_method_3_code (1 : Nat) (Option.some Jvm.ClassFile.FieldType.boolean)).before args0 about1 = true := code_word (m := ⟨2, 1⟩) (meth := k2m1) (c := k2c1) (by decide +kernel) rfl rfl rfl (by decide +kernel)
set_option maxRecDepth 65536 in
theorem w_c2 : (Jvm.Cond.code ({ cls := "com/example/cropquota/cropquota/ControlCharactersDirectionalPinLaw", name := "expected", desc := "(C)Z" } : Jvm.MethodName) method_3_code (2 : Nat) (Option.some Jvm.ClassFile.FieldType.boolean)).before args0 about1 = true := code_word (m := ⟨1, 2⟩) (meth := k1m2) (c := k1c2) (by decide +kernel) rfl rfl rfl (by decide +kernel)
def codes1 : List Jvm.Cond := [Jvm.Cond.code x code maxLocals ret, Jvm.Cond.code ({ cls := "com/example/cropquota/cropquota/ControlCharacters", name := "directional", desc := "(C)Z" } : Jvm.MethodName) prog_1_method_3_code (1 : Nat) (Option.some Jvm.ClassFile.FieldType.boolean), Jvm.Cond.code ({ cls := "com/example/cropquota/cropquota/ControlCharactersDirectionalPinLaw", name := "expected", desc := "(C)Z" } : Jvm.MethodName) method_3_code (2 : Nat) (Option.some Jvm.ClassFile.FieldType.boolean)]
set_option maxRecDepth 65536 in
theorem codes_eq : words1.filter isCode = codes1 := rfl
theorem w_codes : ∀ c ∈ words1.filter isCode, c.before args0 about1 = true := by
  rw [codes_eq]
  intro c hc
  simp only [codes1, List.mem_cons, List.not_mem_nil, or_false] at hc
  rcases hc with rfl | rfl | rfl
  · exact w_c0
  · exact w_c1
  · exact w_c2
set_option maxRecDepth 65536 in
theorem w_t1 : words1.all (fun c => isCode c || c.before args0 about1) = true := by decide +kernel
theorem w_tables : (allAtoms (Jvm.Cond.code x code maxLocals ret :: tables_1)).before args0 about1 = true := by
  rw [allAtoms_all]
  show words1.all (fun c => c.before args0 about1) = true
  refine all_split ?_ w_codes
  rw [w_t1]
set_option maxRecDepth 65536 in
theorem w_case : (Jvm.Cond.and given_1 narrow_1).before args0 about1 = true := by decide +kernel
theorem w_applies : (headSpec (Jvm.Cond.code x code maxLocals ret :: tables_1) room_1).applies x e0.platform about1 = true :=
  (Spec.applies_iff w_frames).mpr ⟨w_running, w_runnable, w_alone, w_named, w_hears, w_ripe, w_room, w_tables⟩
theorem atStart : AtStart classFile x code maxLocals ret World_1 tables_1 room_1 Calls_1 rest_1 Pre_1 launch0 p0 e0 about1 theMethod args0 below0 :=
  ⟨lists_1, trivial, launch0.admits_env _ _ _, launch0.least_env, fairChoices_fair.cas, fairChoices_fair.clock, w_frames, w_args, w_heap, w_applies, trivial, trivial, w_case⟩
end start1
theorem witness_1 : WitnessClaimed_1 := ⟨start1.p0, start1.e0, start1.about1, start1.theMethod, start1.args0, start1.below0, start1.atStart⟩
end Jvm.Pilot.@@N@@
