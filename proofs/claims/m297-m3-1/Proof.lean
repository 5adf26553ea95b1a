import JvmDerived
import JvmDerived.Pilot.@@N@@Statement
import JvmDerived.Pilot.@@N@@Code
set_option linter.unusedVariables false
set_option linter.unusedSimpArgs false

namespace Jvm.RoadKit
open Sem ClassFile Op Lib Jvm.Stand Jvm.Free Jvm.LawKit
/-- the run from S comes to an end that K allows -/
def own_G (p : Program) (e : Env) (below : List Frame) (K : Outcome → State → Prop) (S : State) : Prop := ∃ s₂ o, Steps p.tables e below S s₂ ∧ s₂.status = .running ∧ Ended s₂ below o ∧ K o s₂
section Own
variable {p : Program} {l : Launch} {e : Env} {R : Room} {s : State} {m : MethodId} {args : Array Value} {below : List Frame} {meth : Method} {c : Code} {T : State} {locs : List Loc} {cells slots : Nat} {K : Outcome → State → Prop} {S S' : State}
theorem own_go (h : ∀ t, Steps p.tables e below S' t → Steps p.tables e below S t) (g : own_G p e below K S') : own_G p e below K S := by
  obtain ⟨s₂, o, h1, h2⟩ := g; exact ⟨s₂, o, h _ h1, h2⟩
theorem own_tr (h : Steps p.tables e below S S') (g : own_G p e below K S') : own_G p e below K S := by
  obtain ⟨s₂, o, h1, h2⟩ := g; exact ⟨s₂, o, h.trans h1, h2⟩
theorem own_cast {g g' : JFrame} (q : g = g') (k : own_G p e below K (T.setTop g')) : own_G p e below K (T.setTop g) := q ▸ k
theorem own_end {v : Option Value} (X : Stand p l e R s m args below meth c T locs cells slots) (hv : meth.sig.returnType = none → v = none) (hlocks : meth.locks = false)
    (hst : ∀ fs, (∀ (f : JFrame) (acts : List Action), f.method = m → f.locked = none → f.entered = [] → (doReturn e (T.setTop f) acts v).1 = T.setFrames fs) → Steps p.tables e below S (T.setFrames fs))
    (hk : ∀ U : State, U.heap = T.heap → U.vm = T.vm → FrameEnd s (.returned v) U locs cells slots → K (.returned v) U) : own_G p e below K S := by
  obtain ⟨fs, hr, hrun, hended, hW, hsame⟩ := X.leave (v := v) hv hlocks
  exact ⟨_, _, hst fs hr, hrun, hended, hk _ rfl rfl ⟨⟨_, rfl⟩, hW, hsame⟩⟩
theorem own_retN (X : Stand p l e R s m args below meth c T locs cells slots) (hx : p.tables.exec = Jvm.exec) (hlocks : meth.locks = false) {pc : Nat} {Ls : Array Slot} {z z' : Int32} {t : FieldType} {rest : List Value} (hret : meth.sig.returnType = some t) (ht : t = .boolean ∨ t = .byte ∨ t = .char ∨ t = .short)
    (hd : decode c.code pc = .ok (.ireturn, 1)) (hz : nar t z = z') (hk : ∀ U : State, U.heap = T.heap → U.vm = T.vm → FrameEnd s (.returned (some (.int z'))) U locs cells slots → K (.returned (some (.int z'))) U) :
    own_G p e below K (T.setTop (mkF m pc Ls (.int z :: rest))) := by
  subst hz
  exact own_end X (fun h => by rw [hret] at h; cases h) hlocks (fun fs hr => retN X hx hret ht hd hr) hk
theorem own_retI (X : Stand p l e R s m args below meth c T locs cells slots) (hx : p.tables.exec = Jvm.exec) (hlocks : meth.locks = false) {pc : Nat} {Ls : Array Slot} {z : Int32} {rest : List Value} (hret : meth.sig.returnType = some .int)
    (hd : decode c.code pc = .ok (.ireturn, 1)) (hk : ∀ U : State, U.heap = T.heap → U.vm = T.vm → FrameEnd s (.returned (some (.int z))) U locs cells slots → K (.returned (some (.int z))) U) :
    own_G p e below K (T.setTop (mkF m pc Ls (.int z :: rest))) :=
  own_end X (fun h => by rw [hret] at h; cases h) hlocks (fun fs hr => retOut X hx hret rfl (Or.inl ⟨rfl, Or.inl rfl, z, rfl⟩) hd hr) hk
theorem own_retJ (X : Stand p l e R s m args below meth c T locs cells slots) (hx : p.tables.exec = Jvm.exec) (hlocks : meth.locks = false) {pc : Nat} {Ls : Array Slot} {z : Int64} {rest : List Value} (hret : meth.sig.returnType = some .long)
    (hd : decode c.code pc = .ok (.lreturn, 1)) (hk : ∀ U : State, U.heap = T.heap → U.vm = T.vm → FrameEnd s (.returned (some (.long z))) U locs cells slots → K (.returned (some (.long z))) U) :
    own_G p e below K (T.setTop (mkF m pc Ls (.long z :: rest))) :=
  own_end X (fun h => by rw [hret] at h; cases h) hlocks (fun fs hr => retOut X hx hret rfl (Or.inr (Or.inl ⟨rfl, rfl, z, rfl⟩)) hd hr) hk
theorem own_retR (X : Stand p l e R s m args below meth c T locs cells slots) (hx : p.tables.exec = Jvm.exec) (hlocks : meth.locks = false) {pc : Nat} {Ls : Array Slot} {w : Value} {t : FieldType} {rest : List Value} (hret : meth.sig.returnType = some t) (ht : t.isReference = true) (hw : w.isRef = true)
    (hd : decode c.code pc = .ok (.areturn, 1)) (hk : ∀ U : State, U.heap = T.heap → U.vm = T.vm → FrameEnd s (.returned (some w)) U locs cells slots → K (.returned (some w)) U) :
    own_G p e below K (T.setTop (mkF m pc Ls (w :: rest))) :=
  own_end X (fun h => by rw [hret] at h; cases h) hlocks (fun fs hr => retOut X hx hret (by cases w <;> cases t <;> first | rfl | simp [Value.isRef, FieldType.isReference] at hw ht) (Or.inr (Or.inr (Or.inr (Or.inr ⟨rfl, ht, hw⟩)))) hd hr) hk
theorem own_retV (X : Stand p l e R s m args below meth c T locs cells slots) (hx : p.tables.exec = Jvm.exec) (hlocks : meth.locks = false) {pc : Nat} {Ls : Array Slot} (hret : meth.sig.returnType = none)
    (hd : decode c.code pc = .ok (.return_, 1)) (hk : ∀ U : State, U.heap = T.heap → U.vm = T.vm → FrameEnd s (.returned none) U locs cells slots → K (.returned none) U) :
    own_G p e below K (T.setTop (mkF m pc Ls [])) :=
  own_end X (fun _ => rfl) hlocks (fun fs hr => X.returnOut hx hret hd hr) hk
end Own
end Jvm.RoadKit
namespace Jvm.Pilot.@@N@@
open Jvm Jvm.ClassFile Sem Op Lib Jvm.Free Jvm.Stand Jvm.LawKit Jvm.RoadKit Bundle Jvm.Pilot.@@N@@.Jvm.D
theorem own_b0 {z : Int32} {P : Prop} [Decidable P] (h : z = if P then 1 else 0) (q : ¬ P) : z = 0 := by rw [h, if_neg q]
theorem own_b1 {z : Int32} {P : Prop} [Decidable P] (h : z = if P then 1 else 0) (q : P) : ¬ z = 0 := by rw [h, if_pos q]; decide
theorem own_bn {z : Int32} {P : Prop} [Decidable P] (h : z = if P then 0 else 1) : z = if ¬ P then 1 else 0 := by by_cases q : P <;> simp [h, q]
theorem own_fldI {args : Array Value} {s : State} {t : Term} {C n d : String} {z : Int32} {a : Addr} (ht : t.eval args s none [] s = some (.ref a)) (h : (Jvm.Cond.eq (Term.field t C n d) (Term.int z)).value args s none s [] = some true) : Fld s s.heap a C n d (.int z) := by
  obtain ⟨x, y, h1, h2, k1, k2⟩ := cmp_v (Or.inl h)
  have h3 : (Term.int z).eval args s none [] s = some (.int z) := rfl
  obtain rfl : y = .int z := Option.some.inj (h2.symm.trans h3)
  obtain ⟨w, rfl⟩ := k2
  have e : w = z := by simp only [Cond.value, h1, h3] at h; simpa using h
  subst e
  exact Fld.start (by rw [← fld_at ht]; exact h1)
theorem own_stakeep {Z : State} {h h' : Heap} {C n d : String} {v : Value} {ws : List Addr} (F : Sta Z h C n d v) (K : Keep h h' ws) (q : ∀ a ∈ ws, ∀ cell : Cell, h[a]? = some cell → cell.vm.isStatics = false) : Sta Z h' C n d v := by
  obtain ⟨cf, i, k, f, st, cell, h1, h2, h3, h4, h5, h6, h7⟩ := F
  exact ⟨cf, i, k, f, st, cell, h1, h2, h3, h4, K.2.1 _ _ h5 (fun hm => by rw [q _ hm _ h5] at h6; cases h6), h6, h7⟩
theorem own_nb {z : Int32} {P : Prop} [Decidable P] (h : z = if P then 1 else 0) : nar .boolean z = z := by by_cases q : P <;> simp [h, q] <;> rfl
def own_gd (f t p : Int32) : Int32 := if f.toInt ≤ p.toInt ∧ p.toInt < t.toInt then (1 : Int32) else (0 : Int32)
theorem own_gd1 {f t p : Int32} (h : f.toInt ≤ p.toInt ∧ p.toInt < t.toInt) : own_gd f t p = (1 : Int32) := if_pos h
theorem own_gd0 {f t p : Int32} (h : ¬ (f.toInt ≤ p.toInt ∧ p.toInt < t.toInt)) : own_gd f t p = (0 : Int32) := if_neg h
theorem own_gdz (f t p : Int32) : own_gd f t p = (0 : Int32) ↔ ¬ (f.toInt ≤ p.toInt ∧ p.toInt < t.toInt) := by
  by_cases h : f.toInt ≤ p.toInt ∧ p.toInt < t.toInt
  · rw [own_gd1 h]; simp [h]
  · rw [own_gd0 h]; simp [h]
theorem own_ls (a b : Int32) : (a.toInt64 - b.toInt64).toInt = a.toInt - b.toInt := by
  have h := c_lsub a.toInt64 b.toInt64; rw [c_i2l, c_i2l] at h
  have r1 := Int64.le_toInt (a.toInt64 - b.toInt64); have r2 := Int64.toInt_lt (a.toInt64 - b.toInt64)
  have r3 := Int32.le_toInt a; have r4 := Int32.toInt_lt a; have r5 := Int32.le_toInt b; have r6 := Int32.toInt_lt b
  omega
theorem own_l1 {f t p z : Int32} (hz : z = if (p.toInt64 - f.toInt64) < (0 : Int64) then (0 : Int32) else (if (t.toInt64 - p.toInt64) < (1 : Int64) then (0 : Int32) else (1 : Int32))) : own_gd f t p = z := by
  rw [hz]
  have e0 : (0 : Int64).toInt = 0 := rfl
  have e1 : (1 : Int64).toInt = 1 := rfl
  by_cases h1 : (p.toInt64 - f.toInt64) < (0 : Int64)
  · rw [if_pos h1]; rw [Int64.lt_iff_toInt_lt, own_ls, e0] at h1; exact own_gd0 (by omega)
  · rw [if_neg h1]; rw [Int64.lt_iff_toInt_lt, own_ls, e0] at h1
    by_cases h2 : (t.toInt64 - p.toInt64) < (1 : Int64)
    · rw [if_pos h2]; rw [Int64.lt_iff_toInt_lt, own_ls, e1] at h2; exact own_gd0 (by omega)
    · rw [if_neg h2]; rw [Int64.lt_iff_toInt_lt, own_ls, e1] at h2; exact own_gd1 (by omega)
theorem own_l2 (f t : Int32) : own_gd f t t = (0 : Int32) := own_gd0 (by omega)
theorem own_l3 {f t z : Int32} (hz : z = if f.toInt64 < t.toInt64 then (1 : Int32) else (0 : Int32)) : own_gd f t f = z := by
  rw [hz]
  by_cases h : f.toInt64 < t.toInt64
  · rw [if_pos h]; rw [Int64.lt_iff_toInt_lt, c_i2l, c_i2l] at h; exact own_gd1 (by omega)
  · rw [if_neg h]; rw [Int64.lt_iff_toInt_lt, c_i2l, c_i2l] at h; exact own_gd0 (by omega)
theorem own_l4 {f t mi p z : Int32} (h1 : ¬ mi < f) (h2 : ¬ t < mi) (hz : z = if own_gd f mi p = (0 : Int32) then (if own_gd mi t p = (0 : Int32) then (0 : Int32) else (1 : Int32)) else (1 : Int32)) : own_gd f t p = z := by
  rw [hz]
  rw [Int32.lt_iff_toInt_lt] at h1 h2
  by_cases h3 : own_gd f mi p = (0 : Int32)
  · rw [if_pos h3]; rw [own_gdz] at h3
    by_cases h4 : own_gd mi t p = (0 : Int32)
    · rw [if_pos h4]; rw [own_gdz] at h4; exact own_gd0 (by omega)
    · rw [if_neg h4]; rw [own_gdz] at h4; exact own_gd1 (by omega)
  · rw [if_neg h3]; rw [own_gdz] at h3; exact own_gd1 (by omega)
theorem own_l5 {f t mi p : Int32} (h : ¬ own_gd f mi p = (0 : Int32)) : own_gd mi t p = (0 : Int32) := by
  rw [own_gdz] at h ⊢; omega
theorem dacol_0 : decode jdk_22_method_1_code 0 = .ok (.aload_n 0, 1) := by decide +kernel
theorem dacol_1 : decode jdk_22_method_1_code 1 = .ok (.invokespecial 1, 3) := by decide +kernel
theorem dacol_4 : decode jdk_22_method_1_code 4 = .ok (.return_, 1) := by decide +kernel
theorem own_pn0 : plainName "java/util/AbstractCollection" = true := by first | (simp [plainName, overriddenIn]; done) | decide +kernel
theorem efacol (m : MethodId) (a1 : Addr) : entryFrame m #[(.ref a1)] 1 = mkF m 0 #[.val (.ref a1)] [] := by first | (simp [entryFrame, mkF, argsToLocals, Value.category]; done) | rfl
def Q_acol (Z : State) (a1 : Addr) (h0 : Heap) (n0 : Nat) (v : Option Value) (h : Heap) (L : List Loc) : Prop := v = none ∧ Fr n0 L ∧ h = h0
def K_acol (Z : State) (a1 : Addr) (h0 : Heap) (n0 : Nat) (s : State) (o : Outcome) (U' : State) : Prop := ∃ v L, o = .returned v ∧ Q_acol Z a1 h0 n0 v U'.heap L ∧ FrameEnd s o U' L 0 0
set_option maxRecDepth 65536 in
set_option maxHeartbeats 40000000 in
theorem rm_acol (l : Launch) (Z : State) (a0 : Array Value) (hw : ∀ d ∈ tables_1, d.before a0 Z = true) (ws : List Jvm.Cond) (a1 : Addr) (h0 : Heap) (n0 : Nat) (Z0 : n0 ≤ h0.size) :
    MetFree l (⟨"java/util/AbstractCollection", "<init>", "()V"⟩ : MethodName) (head1 (Jvm.Cond.code (⟨"java/util/AbstractCollection", "<init>", "()V"⟩ : MethodName) jdk_22_method_1_code 1 none :: ws) ({ frames := 1, cells := 0, slots := 0, locals := 12 } : Room)) (fun a U => a = #[(.ref a1)] ∧ Z.Warmed39 U.vm ∧ U.heap = h0) (fun _ _ _ _ _ => True) (fun _ U o U' => ∃ v L, o = .returned v ∧ Q_acol Z a1 h0 n0 v U'.heap L ∧ FrameEnd U o U' L ({ frames := 1, cells := 0, slots := 0, locals := 12 } : Room).cells ({ frames := 1, cells := 0, slots := 0, locals := 12 } : Room).slots) := by
  refine MetFree.of_bodySF (plainFor_of_name own_pn0) hisR ?_
  intro p e s m args below meth c s₁ Bd hml0 hP hK
  obtain ⟨rfl, hZ, hh⟩ := hP
  have hx := Bd.exec
  have hby := Bd.bytes
  have hml : c.maxLocals = 1 := hml0
  have hown : s.vm.findClass "java/util/AbstractCollection" = some m.cls := findClass_of_methodNamed Bd.named
  have hnm := (name_of_methodNamed Bd.named Bd.method).1
  have X0 : Stand p l e ({ frames := 1, cells := 0, slots := 0, locals := 12 } : Room) s m #[(.ref a1)] below meth c s₁ [] 0 0 := Stand.of_body Bd
  have e0 : s₁.heap = h0 := by rw [← hh, Bd.state]; rfl
  have N0 := Fr.nil n0
  show own_G p e below (K_acol Z a1 h0 n0 s) (s₁.setTop (entryFrame m #[(.ref a1)] 1))
  refine own_cast (efacol m a1) ?_
  show own_G p e below (K_acol Z a1 h0 n0 s) (s₁.setTop (mkF m 0 #[.val (.ref a1)] []))
  refine own_go (fun t k => XS.aloadN X0.here hx rfl (hb hby dacol_0) rfl rfl k) ?_
  show own_G p e below (K_acol Z a1 h0 n0 s) (s₁.setTop (mkF m 1 #[.val (.ref a1)] [(.ref a1)]))
  obtain ⟨T1, X1, e1, st1⟩ := initO X0 hx hZ hown (hw _ (List.mem_of_getElem? (i := 21) rfl)) (hw _ (List.mem_of_getElem? (i := 22) rfl)) (hw _ (List.mem_of_getElem? (i := 23) rfl)) e0 (g := (mkF m 1 #[.val (.ref a1)] [(.ref a1)])) rfl (by rw [hml]; rfl) rfl (hb hby dacol_1) (by decide) (W := 0) (by show 2 * 0 + _ ≤ _; exact Nat.le_of_eq rfl) (by decide)
  refine own_go st1 ?_
  show own_G p e below (K_acol Z a1 h0 n0 s) (T1.setTop (mkF m 4 #[.val (.ref a1)] []))
  exact own_retV X1 hx Bd.notSynchronized Bd.returns (hb hby dacol_4) (fun U hU hV hF => ⟨_, _, rfl, ⟨rfl, N0, hU.trans e1⟩, hF.1, hF.2.1, hF.2.2.mono (by decide) (by decide)⟩)
theorem dabl_0 : decode jdk_39_method_1_code 0 = .ok (.aload_n 0, 1) := by decide +kernel
theorem dabl_1 : decode jdk_39_method_1_code 1 = .ok (.invokespecial 1, 3) := by decide +kernel
theorem dabl_4 : decode jdk_39_method_1_code 4 = .ok (.aload_n 0, 1) := by decide +kernel
theorem dabl_5 : decode jdk_39_method_1_code 5 = .ok (.iconst 0, 1) := by decide +kernel
theorem dabl_6 : decode jdk_39_method_1_code 6 = .ok (.putfield 7, 3) := by decide +kernel
theorem dabl_9 : decode jdk_39_method_1_code 9 = .ok (.return_, 1) := by decide +kernel
theorem own_pn1 : plainName "java/util/AbstractList" = true := by first | (simp [plainName, overriddenIn]; done) | decide +kernel
theorem own_pd0 : parseMethodDescriptor "()V" = some ⟨[], none⟩ := by decide +kernel
theorem efabl (m : MethodId) (a1 : Addr) : entryFrame m #[(.ref a1)] 1 = mkF m 0 #[.val (.ref a1)] [] := by first | (simp [entryFrame, mkF, argsToLocals, Value.category]; done) | rfl
def Q_abl (Z : State) (a1 : Addr) (h0 : Heap) (n0 : Nat) (v : Option Value) (h : Heap) (L : List Loc) : Prop := v = none ∧ Fr n0 L ∧ Keep h0 h [a1] ∧ Exa Z h a1 "java/util/ArrayList" ∧ Fld Z h a1 "java/util/AbstractList" "modCount" "I" (.int (0 : Int32)) ∧ Fld Z h a1 "java/util/ArrayList" "elementData" "[Ljava/lang/Object;" .null
def K_abl (Z : State) (a1 : Addr) (h0 : Heap) (n0 : Nat) (s : State) (o : Outcome) (U' : State) : Prop := ∃ v L, o = .returned v ∧ Q_abl Z a1 h0 n0 v U'.heap L ∧ FrameEnd s o U' L 0 0
set_option maxRecDepth 65536 in
set_option maxHeartbeats 40000000 in
theorem rm_abl (l : Launch) (Z : State) (a0 : Array Value) (hw : ∀ d ∈ tables_1, d.before a0 Z = true) (ws : List Jvm.Cond) (a1 : Addr) (h0 : Heap) (n0 : Nat) (Z0 : n0 ≤ h0.size) (F0_ : Fld Z h0 a1 "java/util/AbstractList" "modCount" "I" (.int (0 : Int32))) (F1_ : Fld Z h0 a1 "java/util/ArrayList" "elementData" "[Ljava/lang/Object;" .null) (E_a1 : Exa Z h0 a1 "java/util/ArrayList") (g_a1 : n0 ≤ a1) :
    MetFree l (⟨"java/util/AbstractList", "<init>", "()V"⟩ : MethodName) (head1 (Jvm.Cond.code (⟨"java/util/AbstractList", "<init>", "()V"⟩ : MethodName) jdk_39_method_1_code 1 none :: ws) ({ frames := 2, cells := 0, slots := 0, locals := 24 } : Room)) (fun a U => a = #[(.ref a1)] ∧ Z.Warmed39 U.vm ∧ U.heap = h0) (fun _ _ _ _ _ => True) (fun _ U o U' => ∃ v L, o = .returned v ∧ Q_abl Z a1 h0 n0 v U'.heap L ∧ FrameEnd U o U' L ({ frames := 2, cells := 0, slots := 0, locals := 24 } : Room).cells ({ frames := 2, cells := 0, slots := 0, locals := 24 } : Room).slots) := by
  refine MetFree.of_bodySF (plainFor_of_name own_pn1) hisR ?_
  intro p e s m args below meth c s₁ Bd hml0 hP hK
  obtain ⟨rfl, hZ, hh⟩ := hP
  have hx := Bd.exec
  have hby := Bd.bytes
  have hml : c.maxLocals = 1 := hml0
  have hown : s.vm.findClass "java/util/AbstractList" = some m.cls := findClass_of_methodNamed Bd.named
  have hnm := (name_of_methodNamed Bd.named Bd.method).1
  have X0 : Stand p l e ({ frames := 2, cells := 0, slots := 0, locals := 24 } : Room) s m #[(.ref a1)] below meth c s₁ [] 0 0 := Stand.of_body Bd
  have e0 : s₁.heap = h0 := by rw [← hh, Bd.state]; rfl
  have N0 := Fr.nil n0
  show own_G p e below (K_abl Z a1 h0 n0 s) (s₁.setTop (entryFrame m #[(.ref a1)] 1))
  refine own_cast (efabl m a1) ?_
  show own_G p e below (K_abl Z a1 h0 n0 s) (s₁.setTop (mkF m 0 #[.val (.ref a1)] []))
  refine own_go (fun t k => XS.aloadN X0.here hx rfl (hb hby dabl_0) rfl rfl k) ?_
  show own_G p e below (K_abl Z a1 h0 n0 s) (s₁.setTop (mkF m 1 #[.val (.ref a1)] [(.ref a1)]))
  obtain ⟨_, _, ⟨T1, L1, k1, n1⟩, -, X1, ⟨Lc1, hQ1, l1, y1, z1⟩, st1⟩ := X0.specialBack hx (y := (⟨"java/util/AbstractCollection", "<init>", "()V"⟩ : MethodName)) rfl hown (mvT hZ (hw _ (List.mem_of_getElem? (i := 15) rfl))) (mvT hZ (hw _ (List.mem_of_getElem? (i := 16) rfl))) (mvT hZ (hw _ (List.mem_of_getElem? (i := 20) rfl))) (by decide) (backOf (W := 0) (rm_acol l Z a0 hw [] a1 h0 n0 Z0 ) hZ (hw _ (List.mem_of_getElem? (i := 20) rfl)) (hw _ (List.mem_of_getElem? (i := 19) rfl)) (by decide) (by decide)) (g := (mkF m 1 #[.val (.ref a1)] [(.ref a1)])) rfl (by rw [hml]; rfl) (Steps.refl _) (a := a1) (argsL := []) (rest := []) (lenOf own_pd0 rfl) rfl (by show 2 * 0 + _ ≤ _; exact Nat.le_of_eq rfl) (hb hby dabl_1) (fun _ _ => ⟨rfl, e0, (by decide : 0 + 0 ≤ _), (by decide : 0 + 0 ≤ _)⟩)
  dsimp only [Pt.U, Pt.locs, Pt.cells, Pt.slots] at X1 l1 y1 z1 st1 hQ1
  subst l1 y1 z1
  obtain ⟨rfl, N1q, e1⟩ := hQ1
  have N1 := Fr.app N0 N1q
  refine own_tr st1 ?_
  show own_G p e below (K_abl Z a1 h0 n0 s) (T1.setTop (mkF m 4 #[.val (.ref a1)] []))
  refine own_go (fun t k => XS.aloadN X1.here hx rfl (hb hby dabl_4) rfl rfl k) ?_
  show own_G p e below (K_abl Z a1 h0 n0 s) (T1.setTop (mkF m 5 #[.val (.ref a1)] [(.ref a1)]))
  refine own_go (fun t k => XS.iconst X1.here hx rfl (hb hby dabl_5) k) ?_
  show own_G p e below (K_abl Z a1 h0 n0 s) (T1.setTop (mkF m 6 #[.val (.ref a1)] [(.int (0 : Int32)), (.ref a1)]))
  obtain ⟨T2, h2, X2, e2, W2, st2⟩ := putF X1 hx hZ hown (host := "") (Or.inl (hw _ (List.mem_of_getElem? (i := 24) rfl))) Via.refl e1 F0_ E_a1 (Or.inl (hw _ (List.mem_of_getElem? (i := 25) rfl))) (hw _ (List.mem_of_getElem? (i := 4) rfl)) (ty := .int) (by decide) rfl rfl (g := (mkF m 6 #[.val (.ref a1)] [(.int (0 : Int32)), (.ref a1)])) rfl rfl (hb hby dabl_6)
  refine own_go st2 ?_
  have F2 := F0_.same W2
  have N2 := Fr.snoc X2 N1 g_a1
  have Z3 : n0 ≤ h2.size := Nat.le_trans Z0 (Keep.of_wr W2).1
  have K4 := Keep.wr (Keep.refl h0 [a1]) W2 (Or.inl (List.mem_of_getElem? (i := 0) rfl))
  show own_G p e below (K_abl Z a1 h0 n0 s) (T2.setTop (mkF m 9 #[.val (.ref a1)] []))
  have Q5 := (E_a1.wr W2)
  have Q6 := (F1_.other W2 (Or.inr (slot_ne (Or.inl (hw _ (List.mem_of_getElem? (i := 28) rfl))) (Or.inl (hw _ (List.mem_of_getElem? (i := 25) rfl))) (by decide) (t := (.array (.object "java/lang/Object"))) (t' := .int) (by decide) (by decide))))
  exact own_retV X2 hx Bd.notSynchronized Bd.returns (hb hby dabl_9) (fun U hU hV hF => ⟨_, _, rfl, (by rw [hU, e2]; exact ⟨rfl, N2, K4, Q5, F2, Q6⟩), hF.1, hF.2.1, hF.2.2.mono (by decide) (by decide)⟩)
theorem darl_0 : decode jdk_38_method_2_code 0 = .ok (.aload_n 0, 1) := by decide +kernel
theorem darl_1 : decode jdk_38_method_2_code 1 = .ok (.invokespecial 1, 3) := by decide +kernel
theorem darl_4 : decode jdk_38_method_2_code 4 = .ok (.aload_n 0, 1) := by decide +kernel
theorem darl_5 : decode jdk_38_method_2_code 5 = .ok (.getstatic 39, 3) := by decide +kernel
theorem darl_8 : decode jdk_38_method_2_code 8 = .ok (.putfield 9, 3) := by decide +kernel
theorem darl_11 : decode jdk_38_method_2_code 11 = .ok (.return_, 1) := by decide +kernel
theorem own_pn2 : plainName "java/util/ArrayList" = true := by first | (simp [plainName, overriddenIn]; done) | decide +kernel
theorem efarl (m : MethodId) (a1 : Addr) : entryFrame m #[(.ref a1)] 1 = mkF m 0 #[.val (.ref a1)] [] := by first | (simp [entryFrame, mkF, argsToLocals, Value.category]; done) | rfl
def Q_arl (Z : State) (a1 : Addr) (d0 : Addr) (h0 : Heap) (n0 : Nat) (v : Option Value) (h : Heap) (L : List Loc) : Prop := v = none ∧ Fr n0 L ∧ Keep h0 h [a1] ∧ Exa Z h a1 "java/util/ArrayList" ∧ Fld Z h a1 "java/util/AbstractList" "modCount" "I" (.int (0 : Int32)) ∧ Fld Z h a1 "java/util/ArrayList" "elementData" "[Ljava/lang/Object;" (.ref d0)
def K_arl (Z : State) (a1 : Addr) (d0 : Addr) (h0 : Heap) (n0 : Nat) (s : State) (o : Outcome) (U' : State) : Prop := ∃ v L, o = .returned v ∧ Q_arl Z a1 d0 h0 n0 v U'.heap L ∧ FrameEnd s o U' L 0 0
set_option maxRecDepth 65536 in
set_option maxHeartbeats 40000000 in
theorem rm_arl (l : Launch) (Z : State) (a0 : Array Value) (hw : ∀ d ∈ tables_1, d.before a0 Z = true) (ws : List Jvm.Cond) (a1 : Addr) (d0 : Addr) (h0 : Heap) (n0 : Nat) (Z0 : n0 ≤ h0.size) (F0_ : Fld Z h0 a1 "java/util/AbstractList" "modCount" "I" (.int (0 : Int32))) (F1_ : Fld Z h0 a1 "java/util/ArrayList" "elementData" "[Ljava/lang/Object;" .null) (E_a1 : Exa Z h0 a1 "java/util/ArrayList") (g_a1 : n0 ≤ a1) (S0_ : Sta Z h0 "java/util/ArrayList" "DEFAULTCAPACITY_EMPTY_ELEMENTDATA" "[Ljava/lang/Object;" (.ref d0)) :
    MetFree l (⟨"java/util/ArrayList", "<init>", "()V"⟩ : MethodName) (head1 (Jvm.Cond.code (⟨"java/util/ArrayList", "<init>", "()V"⟩ : MethodName) jdk_38_method_2_code 1 none :: ws) ({ frames := 3, cells := 0, slots := 0, locals := 36 } : Room)) (fun a U => a = #[(.ref a1)] ∧ Z.Warmed39 U.vm ∧ U.heap = h0) (fun _ _ _ _ _ => True) (fun _ U o U' => ∃ v L, o = .returned v ∧ Q_arl Z a1 d0 h0 n0 v U'.heap L ∧ FrameEnd U o U' L ({ frames := 3, cells := 0, slots := 0, locals := 36 } : Room).cells ({ frames := 3, cells := 0, slots := 0, locals := 36 } : Room).slots) := by
  refine MetFree.of_bodySF (plainFor_of_name own_pn2) hisR ?_
  intro p e s m args below meth c s₁ Bd hml0 hP hK
  obtain ⟨rfl, hZ, hh⟩ := hP
  have hx := Bd.exec
  have hby := Bd.bytes
  have hml : c.maxLocals = 1 := hml0
  have hown : s.vm.findClass "java/util/ArrayList" = some m.cls := findClass_of_methodNamed Bd.named
  have hnm := (name_of_methodNamed Bd.named Bd.method).1
  have X0 : Stand p l e ({ frames := 3, cells := 0, slots := 0, locals := 36 } : Room) s m #[(.ref a1)] below meth c s₁ [] 0 0 := Stand.of_body Bd
  have e0 : s₁.heap = h0 := by rw [← hh, Bd.state]; rfl
  have N0 := Fr.nil n0
  show own_G p e below (K_arl Z a1 d0 h0 n0 s) (s₁.setTop (entryFrame m #[(.ref a1)] 1))
  refine own_cast (efarl m a1) ?_
  show own_G p e below (K_arl Z a1 d0 h0 n0 s) (s₁.setTop (mkF m 0 #[.val (.ref a1)] []))
  refine own_go (fun t k => XS.aloadN X0.here hx rfl (hb hby darl_0) rfl rfl k) ?_
  show own_G p e below (K_arl Z a1 d0 h0 n0 s) (s₁.setTop (mkF m 1 #[.val (.ref a1)] [(.ref a1)]))
  obtain ⟨_, _, ⟨T1, L1, k1, n1⟩, -, X1, ⟨Lc1, hQ1, l1, y1, z1⟩, st1⟩ := X0.specialBack hx (y := (⟨"java/util/AbstractList", "<init>", "()V"⟩ : MethodName)) rfl hown (mvT hZ (hw _ (List.mem_of_getElem? (i := 9) rfl))) (mvT hZ (hw _ (List.mem_of_getElem? (i := 10) rfl))) (mvT hZ (hw _ (List.mem_of_getElem? (i := 14) rfl))) (by decide) (backOf (W := 0) (rm_abl l Z a0 hw [] a1 h0 n0 Z0 F0_ F1_ E_a1 g_a1) hZ (hw _ (List.mem_of_getElem? (i := 14) rfl)) (hw _ (List.mem_of_getElem? (i := 13) rfl)) (by decide) (by decide)) (g := (mkF m 1 #[.val (.ref a1)] [(.ref a1)])) rfl (by rw [hml]; rfl) (Steps.refl _) (a := a1) (argsL := []) (rest := []) (lenOf own_pd0 rfl) rfl (by show 2 * 0 + _ ≤ _; exact Nat.le_of_eq rfl) (hb hby darl_1) (fun _ _ => ⟨rfl, e0, (by decide : 0 + 0 ≤ _), (by decide : 0 + 0 ≤ _)⟩)
  dsimp only [Pt.U, Pt.locs, Pt.cells, Pt.slots] at X1 l1 y1 z1 st1 hQ1
  subst l1 y1 z1
  obtain ⟨rfl, N1q, K1q, E1q, F1_0, F1_1⟩ := hQ1
  have N1 := Fr.app N0 N1q
  obtain ⟨h1, e1⟩ : ∃ z, T1.heap = z := ⟨_, rfl⟩
  rw [e1] at K1q E1q F1_0 F1_1
  have Z2 : n0 ≤ h1.size := Nat.le_trans Z0 K1q.1
  have K1 := Keep.trans (Keep.refl h0 [a1]) K1q (fun x hx => by cases List.mem_singleton.mp hx; exact (Or.inl (List.mem_of_getElem? (i := 0) rfl)))
  refine own_tr st1 ?_
  show own_G p e below (K_arl Z a1 d0 h0 n0 s) (T1.setTop (mkF m 4 #[.val (.ref a1)] []))
  refine own_go (fun t k => XS.aloadN X1.here hx rfl (hb hby darl_4) rfl rfl k) ?_
  show own_G p e below (K_arl Z a1 d0 h0 n0 s) (T1.setTop (mkF m 5 #[.val (.ref a1)] [(.ref a1)]))
  have Q3 := (own_stakeep S0_ K1q (allS (fun cl hc => E_a1.nostat cl hc) all0))
  obtain ⟨T4, X4, e4, st4⟩ := getS2 X1 hx hZ hown (host := "") (Or.inl (hw _ (List.mem_of_getElem? (i := 26) rfl))) Via.refl e1 Q3 (g := (mkF m 5 #[.val (.ref a1)] [(.ref a1)])) rfl (hb hby darl_5)
  refine own_go st4 ?_
  show own_G p e below (K_arl Z a1 d0 h0 n0 s) (T4.setTop (mkF m 8 #[.val (.ref a1)] [(.ref d0), (.ref a1)]))
  obtain ⟨T5, h5, X5, e5, W5, st5⟩ := putF X4 hx hZ hown (host := "") (Or.inl (hw _ (List.mem_of_getElem? (i := 27) rfl))) Via.refl e4 F1_1 E1q (Or.inl (hw _ (List.mem_of_getElem? (i := 28) rfl))) (hw _ (List.mem_of_getElem? (i := 4) rfl)) (ty := (.array (.object "java/lang/Object"))) (by decide) rfl rfl (g := (mkF m 8 #[.val (.ref a1)] [(.ref d0), (.ref a1)])) rfl rfl (hb hby darl_8)
  refine own_go st5 ?_
  have F5 := F1_1.same W5
  have N5 := Fr.snoc X5 N1 g_a1
  have Z6 : n0 ≤ h5.size := Nat.le_trans Z2 (Keep.of_wr W5).1
  have K7 := Keep.wr K1 W5 (Or.inl (List.mem_of_getElem? (i := 0) rfl))
  show own_G p e below (K_arl Z a1 d0 h0 n0 s) (T5.setTop (mkF m 11 #[.val (.ref a1)] []))
  have Q8 := (E1q.wr W5)
  have Q9 := (F1_0.other W5 (Or.inr (slot_ne (Or.inl (hw _ (List.mem_of_getElem? (i := 25) rfl))) (Or.inl (hw _ (List.mem_of_getElem? (i := 28) rfl))) (by decide) (t := .int) (t' := (.array (.object "java/lang/Object"))) (by decide) (by decide))))
  exact own_retV X5 hx Bd.notSynchronized Bd.returns (hb hby darl_11) (fun U hU hV hF => ⟨_, _, rfl, (by rw [hU, e5]; exact ⟨rfl, N5, K7, Q8, Q9, F5⟩), hF.1, hF.2.1, hF.2.2.mono (by decide) (by decide)⟩)
theorem drec_0 : decode jdk_30_method_1_code 0 = .ok (.aload_n 0, 1) := by decide +kernel
theorem drec_1 : decode jdk_30_method_1_code 1 = .ok (.invokespecial 1, 3) := by decide +kernel
theorem drec_4 : decode jdk_30_method_1_code 4 = .ok (.return_, 1) := by decide +kernel
theorem own_pn3 : plainName "java/lang/Record" = true := by first | (simp [plainName, overriddenIn]; done) | decide +kernel
theorem efrec (m : MethodId) (a1 : Addr) : entryFrame m #[(.ref a1)] 1 = mkF m 0 #[.val (.ref a1)] [] := by first | (simp [entryFrame, mkF, argsToLocals, Value.category]; done) | rfl
def Q_rec (Z : State) (a1 : Addr) (h0 : Heap) (n0 : Nat) (v : Option Value) (h : Heap) (L : List Loc) : Prop := v = none ∧ Fr n0 L ∧ h = h0
def K_rec (Z : State) (a1 : Addr) (h0 : Heap) (n0 : Nat) (s : State) (o : Outcome) (U' : State) : Prop := ∃ v L, o = .returned v ∧ Q_rec Z a1 h0 n0 v U'.heap L ∧ FrameEnd s o U' L 0 0
set_option maxRecDepth 65536 in
set_option maxHeartbeats 40000000 in
theorem rm_rec (l : Launch) (Z : State) (a0 : Array Value) (hw : ∀ d ∈ tables_1, d.before a0 Z = true) (ws : List Jvm.Cond) (a1 : Addr) (h0 : Heap) (n0 : Nat) (Z0 : n0 ≤ h0.size) :
    MetFree l (⟨"java/lang/Record", "<init>", "()V"⟩ : MethodName) (head1 (Jvm.Cond.code (⟨"java/lang/Record", "<init>", "()V"⟩ : MethodName) jdk_30_method_1_code 1 none :: ws) ({ frames := 1, cells := 0, slots := 0, locals := 12 } : Room)) (fun a U => a = #[(.ref a1)] ∧ Z.Warmed39 U.vm ∧ U.heap = h0) (fun _ _ _ _ _ => True) (fun _ U o U' => ∃ v L, o = .returned v ∧ Q_rec Z a1 h0 n0 v U'.heap L ∧ FrameEnd U o U' L ({ frames := 1, cells := 0, slots := 0, locals := 12 } : Room).cells ({ frames := 1, cells := 0, slots := 0, locals := 12 } : Room).slots) := by
  refine MetFree.of_bodySF (plainFor_of_name own_pn3) hisR ?_
  intro p e s m args below meth c s₁ Bd hml0 hP hK
  obtain ⟨rfl, hZ, hh⟩ := hP
  have hx := Bd.exec
  have hby := Bd.bytes
  have hml : c.maxLocals = 1 := hml0
  have hown : s.vm.findClass "java/lang/Record" = some m.cls := findClass_of_methodNamed Bd.named
  have hnm := (name_of_methodNamed Bd.named Bd.method).1
  have X0 : Stand p l e ({ frames := 1, cells := 0, slots := 0, locals := 12 } : Room) s m #[(.ref a1)] below meth c s₁ [] 0 0 := Stand.of_body Bd
  have e0 : s₁.heap = h0 := by rw [← hh, Bd.state]; rfl
  have N0 := Fr.nil n0
  show own_G p e below (K_rec Z a1 h0 n0 s) (s₁.setTop (entryFrame m #[(.ref a1)] 1))
  refine own_cast (efrec m a1) ?_
  show own_G p e below (K_rec Z a1 h0 n0 s) (s₁.setTop (mkF m 0 #[.val (.ref a1)] []))
  refine own_go (fun t k => XS.aloadN X0.here hx rfl (hb hby drec_0) rfl rfl k) ?_
  show own_G p e below (K_rec Z a1 h0 n0 s) (s₁.setTop (mkF m 1 #[.val (.ref a1)] [(.ref a1)]))
  obtain ⟨T1, X1, e1, st1⟩ := initO X0 hx hZ hown (hw _ (List.mem_of_getElem? (i := 37) rfl)) (hw _ (List.mem_of_getElem? (i := 22) rfl)) (hw _ (List.mem_of_getElem? (i := 23) rfl)) e0 (g := (mkF m 1 #[.val (.ref a1)] [(.ref a1)])) rfl (by rw [hml]; rfl) rfl (hb hby drec_1) (by decide) (W := 0) (by show 2 * 0 + _ ≤ _; exact Nat.le_of_eq rfl) (by decide)
  refine own_go st1 ?_
  show own_G p e below (K_rec Z a1 h0 n0 s) (T1.setTop (mkF m 4 #[.val (.ref a1)] []))
  exact own_retV X1 hx Bd.notSynchronized Bd.returns (hb hby drec_4) (fun U hU hV hF => ⟨_, _, rfl, ⟨rfl, N0, hU.trans e1⟩, hF.1, hF.2.1, hF.2.2.mono (by decide) (by decide)⟩)
theorem dgct_0 : decode prog_20_method_1_code 0 = .ok (.aload_n 0, 1) := by decide +kernel
theorem dgct_1 : decode prog_20_method_1_code 1 = .ok (.invokespecial 1, 3) := by decide +kernel
theorem dgct_4 : decode prog_20_method_1_code 4 = .ok (.aload_n 0, 1) := by decide +kernel
theorem dgct_5 : decode prog_20_method_1_code 5 = .ok (.iload_n 1, 1) := by decide +kernel
theorem dgct_6 : decode prog_20_method_1_code 6 = .ok (.putfield 7, 3) := by decide +kernel
theorem dgct_9 : decode prog_20_method_1_code 9 = .ok (.aload_n 0, 1) := by decide +kernel
theorem dgct_10 : decode prog_20_method_1_code 10 = .ok (.iload_n 2, 1) := by decide +kernel
theorem dgct_11 : decode prog_20_method_1_code 11 = .ok (.putfield 13, 3) := by decide +kernel
theorem dgct_14 : decode prog_20_method_1_code 14 = .ok (.aload_n 0, 1) := by decide +kernel
theorem dgct_15 : decode prog_20_method_1_code 15 = .ok (.iload_n 3, 1) := by decide +kernel
theorem dgct_16 : decode prog_20_method_1_code 16 = .ok (.putfield 16, 3) := by decide +kernel
theorem dgct_19 : decode prog_20_method_1_code 19 = .ok (.aload_n 0, 1) := by decide +kernel
theorem dgct_20 : decode prog_20_method_1_code 20 = .ok (.aload 4, 2) := by decide +kernel
theorem dgct_22 : decode prog_20_method_1_code 22 = .ok (.putfield 19, 3) := by decide +kernel
theorem dgct_25 : decode prog_20_method_1_code 25 = .ok (.return_, 1) := by decide +kernel
theorem own_pn4 : plainName "com/example/routines_in_transactions/routinesintransactions/engine/BoundRoutine$Guard" = true := by first | (simp [plainName, overriddenIn]; done) | decide +kernel
theorem efgct (m : MethodId) (a1 : Addr) (p2 : Int32) (p3 : Int32) (p4 : Int32) (a5 : Addr) : entryFrame m #[(.ref a1), (.int p2), (.int p3), (.int p4), (.ref a5)] 5 = mkF m 0 #[.val (.ref a1), .val (.int p2), .val (.int p3), .val (.int p4), .val (.ref a5)] [] := by first | (simp [entryFrame, mkF, argsToLocals, Value.category]; done) | rfl
def Q_gct (Z : State) (a1 : Addr) (p2 : Int32) (p3 : Int32) (p4 : Int32) (a5 : Addr) (h0 : Heap) (n0 : Nat) (v : Option Value) (h : Heap) (L : List Loc) : Prop := v = none ∧ Fr n0 L ∧ Keep h0 h [a1] ∧ Exa Z h a1 "com/example/routines_in_transactions/routinesintransactions/engine/BoundRoutine$Guard" ∧ Fld Z h a1 "com/example/routines_in_transactions/routinesintransactions/engine/BoundRoutine$Guard" "from" "I" (.int p2) ∧ Fld Z h a1 "com/example/routines_in_transactions/routinesintransactions/engine/BoundRoutine$Guard" "to" "I" (.int p3) ∧ Fld Z h a1 "com/example/routines_in_transactions/routinesintransactions/engine/BoundRoutine$Guard" "depth" "I" (.int p4) ∧ Fld Z h a1 "com/example/routines_in_transactions/routinesintransactions/engine/BoundRoutine$Guard" "handlers" "Ljava/util/List;" (.ref a5)
def K_gct (Z : State) (a1 : Addr) (p2 : Int32) (p3 : Int32) (p4 : Int32) (a5 : Addr) (h0 : Heap) (n0 : Nat) (s : State) (o : Outcome) (U' : State) : Prop := ∃ v L, o = .returned v ∧ Q_gct Z a1 p2 p3 p4 a5 h0 n0 v U'.heap L ∧ FrameEnd s o U' L 0 0
set_option maxRecDepth 65536 in
set_option maxHeartbeats 40000000 in
theorem rm_gct (l : Launch) (Z : State) (a0 : Array Value) (hw : ∀ d ∈ tables_1, d.before a0 Z = true) (ws : List Jvm.Cond) (a1 : Addr) (p2 : Int32) (p3 : Int32) (p4 : Int32) (a5 : Addr) (h0 : Heap) (n0 : Nat) (Z0 : n0 ≤ h0.size) (F0_ : Fld Z h0 a1 "com/example/routines_in_transactions/routinesintransactions/engine/BoundRoutine$Guard" "from" "I" (.int (0 : Int32))) (F1_ : Fld Z h0 a1 "com/example/routines_in_transactions/routinesintransactions/engine/BoundRoutine$Guard" "to" "I" (.int (0 : Int32))) (F2_ : Fld Z h0 a1 "com/example/routines_in_transactions/routinesintransactions/engine/BoundRoutine$Guard" "depth" "I" (.int (0 : Int32))) (F3_ : Fld Z h0 a1 "com/example/routines_in_transactions/routinesintransactions/engine/BoundRoutine$Guard" "handlers" "Ljava/util/List;" .null) (E_a1 : Exa Z h0 a1 "com/example/routines_in_transactions/routinesintransactions/engine/BoundRoutine$Guard") (g_a1 : n0 ≤ a1) :
    MetFree l (⟨"com/example/routines_in_transactions/routinesintransactions/engine/BoundRoutine$Guard", "<init>", "(IIILjava/util/List;)V"⟩ : MethodName) (head1 (Jvm.Cond.code (⟨"com/example/routines_in_transactions/routinesintransactions/engine/BoundRoutine$Guard", "<init>", "(IIILjava/util/List;)V"⟩ : MethodName) prog_20_method_1_code 5 none :: ws) ({ frames := 2, cells := 0, slots := 0, locals := 24 } : Room)) (fun a U => a = #[(.ref a1), (.int p2), (.int p3), (.int p4), (.ref a5)] ∧ Z.Warmed39 U.vm ∧ U.heap = h0) (fun _ _ _ _ _ => True) (fun _ U o U' => ∃ v L, o = .returned v ∧ Q_gct Z a1 p2 p3 p4 a5 h0 n0 v U'.heap L ∧ FrameEnd U o U' L ({ frames := 2, cells := 0, slots := 0, locals := 24 } : Room).cells ({ frames := 2, cells := 0, slots := 0, locals := 24 } : Room).slots) := by
  refine MetFree.of_bodySF (plainFor_of_name own_pn4) hisR ?_
  intro p e s m args below meth c s₁ Bd hml0 hP hK
  obtain ⟨rfl, hZ, hh⟩ := hP
  have hx := Bd.exec
  have hby := Bd.bytes
  have hml : c.maxLocals = 5 := hml0
  have hown : s.vm.findClass "com/example/routines_in_transactions/routinesintransactions/engine/BoundRoutine$Guard" = some m.cls := findClass_of_methodNamed Bd.named
  have hnm := (name_of_methodNamed Bd.named Bd.method).1
  have X0 : Stand p l e ({ frames := 2, cells := 0, slots := 0, locals := 24 } : Room) s m #[(.ref a1), (.int p2), (.int p3), (.int p4), (.ref a5)] below meth c s₁ [] 0 0 := Stand.of_body Bd
  have e0 : s₁.heap = h0 := by rw [← hh, Bd.state]; rfl
  have N0 := Fr.nil n0
  show own_G p e below (K_gct Z a1 p2 p3 p4 a5 h0 n0 s) (s₁.setTop (entryFrame m #[(.ref a1), (.int p2), (.int p3), (.int p4), (.ref a5)] 5))
  refine own_cast (efgct m a1 p2 p3 p4 a5) ?_
  show own_G p e below (K_gct Z a1 p2 p3 p4 a5 h0 n0 s) (s₁.setTop (mkF m 0 #[.val (.ref a1), .val (.int p2), .val (.int p3), .val (.int p4), .val (.ref a5)] []))
  refine own_go (fun t k => XS.aloadN X0.here hx rfl (hb hby dgct_0) rfl rfl k) ?_
  show own_G p e below (K_gct Z a1 p2 p3 p4 a5 h0 n0 s) (s₁.setTop (mkF m 1 #[.val (.ref a1), .val (.int p2), .val (.int p3), .val (.int p4), .val (.ref a5)] [(.ref a1)]))
  obtain ⟨_, _, ⟨T1, L1, k1, n1⟩, -, X1, ⟨Lc1, hQ1, l1, y1, z1⟩, st1⟩ := X0.specialBack hx (y := (⟨"java/lang/Record", "<init>", "()V"⟩ : MethodName)) rfl hown (mvT hZ (hw _ (List.mem_of_getElem? (i := 32) rfl))) (mvT hZ (hw _ (List.mem_of_getElem? (i := 33) rfl))) (mvT hZ (hw _ (List.mem_of_getElem? (i := 36) rfl))) (by decide) (backOf (W := 0) (rm_rec l Z a0 hw [] a1 h0 n0 Z0 ) hZ (hw _ (List.mem_of_getElem? (i := 36) rfl)) (hw _ (List.mem_of_getElem? (i := 35) rfl)) (by decide) (by decide)) (g := (mkF m 1 #[.val (.ref a1), .val (.int p2), .val (.int p3), .val (.int p4), .val (.ref a5)] [(.ref a1)])) rfl (by rw [hml]; rfl) (Steps.refl _) (a := a1) (argsL := []) (rest := []) (lenOf own_pd0 rfl) rfl (by show 2 * 0 + _ ≤ _; exact Nat.le_of_eq rfl) (hb hby dgct_1) (fun _ _ => ⟨rfl, e0, (by decide : 0 + 0 ≤ _), (by decide : 0 + 0 ≤ _)⟩)
  dsimp only [Pt.U, Pt.locs, Pt.cells, Pt.slots] at X1 l1 y1 z1 st1 hQ1
  subst l1 y1 z1
  obtain ⟨rfl, N1q, e1⟩ := hQ1
  have N1 := Fr.app N0 N1q
  refine own_tr st1 ?_
  show own_G p e below (K_gct Z a1 p2 p3 p4 a5 h0 n0 s) (T1.setTop (mkF m 4 #[.val (.ref a1), .val (.int p2), .val (.int p3), .val (.int p4), .val (.ref a5)] []))
  refine own_go (fun t k => XS.aloadN X1.here hx rfl (hb hby dgct_4) rfl rfl k) ?_
  show own_G p e below (K_gct Z a1 p2 p3 p4 a5 h0 n0 s) (T1.setTop (mkF m 5 #[.val (.ref a1), .val (.int p2), .val (.int p3), .val (.int p4), .val (.ref a5)] [(.ref a1)]))
  refine own_go (fun t k => XS.iloadN X1.here hx rfl (hb hby dgct_5) rfl k) ?_
  show own_G p e below (K_gct Z a1 p2 p3 p4 a5 h0 n0 s) (T1.setTop (mkF m 6 #[.val (.ref a1), .val (.int p2), .val (.int p3), .val (.int p4), .val (.ref a5)] [(.int p2), (.ref a1)]))
  obtain ⟨T2, h2, X2, e2, W2, st2⟩ := putF X1 hx hZ hown (host := "") (Or.inl (hw _ (List.mem_of_getElem? (i := 38) rfl))) Via.refl e1 F0_ E_a1 (Or.inr ⟨(hw _ (List.mem_of_getElem? (i := 39) rfl)), rfl, hnm⟩) (hw _ (List.mem_of_getElem? (i := 1) rfl)) (ty := .int) (by decide) rfl rfl (g := (mkF m 6 #[.val (.ref a1), .val (.int p2), .val (.int p3), .val (.int p4), .val (.ref a5)] [(.int p2), (.ref a1)])) rfl rfl (hb hby dgct_6)
  refine own_go st2 ?_
  have F2 := F0_.same W2
  have N2 := Fr.snoc X2 N1 g_a1
  have Z3 : n0 ≤ h2.size := Nat.le_trans Z0 (Keep.of_wr W2).1
  have K4 := Keep.wr (Keep.refl h0 [a1]) W2 (Or.inl (List.mem_of_getElem? (i := 0) rfl))
  show own_G p e below (K_gct Z a1 p2 p3 p4 a5 h0 n0 s) (T2.setTop (mkF m 9 #[.val (.ref a1), .val (.int p2), .val (.int p3), .val (.int p4), .val (.ref a5)] []))
  refine own_go (fun t k => XS.aloadN X2.here hx rfl (hb hby dgct_9) rfl rfl k) ?_
  show own_G p e below (K_gct Z a1 p2 p3 p4 a5 h0 n0 s) (T2.setTop (mkF m 10 #[.val (.ref a1), .val (.int p2), .val (.int p3), .val (.int p4), .val (.ref a5)] [(.ref a1)]))
  refine own_go (fun t k => XS.iloadN X2.here hx rfl (hb hby dgct_10) rfl k) ?_
  show own_G p e below (K_gct Z a1 p2 p3 p4 a5 h0 n0 s) (T2.setTop (mkF m 11 #[.val (.ref a1), .val (.int p2), .val (.int p3), .val (.int p4), .val (.ref a5)] [(.int p3), (.ref a1)]))
  have Q5 := (F1_.other W2 (Or.inr (slot_ne (Or.inr (hw _ (List.mem_of_getElem? (i := 41) rfl))) (Or.inr (hw _ (List.mem_of_getElem? (i := 39) rfl))) (by decide) (t := .int) (t' := .int) (by decide) (by decide))))
  have Q6 := (E_a1.wr W2)
  obtain ⟨T7, h7, X7, e7, W7, st7⟩ := putF X2 hx hZ hown (host := "") (Or.inl (hw _ (List.mem_of_getElem? (i := 40) rfl))) Via.refl e2 Q5 Q6 (Or.inr ⟨(hw _ (List.mem_of_getElem? (i := 41) rfl)), rfl, hnm⟩) (hw _ (List.mem_of_getElem? (i := 1) rfl)) (ty := .int) (by decide) rfl rfl (g := (mkF m 11 #[.val (.ref a1), .val (.int p2), .val (.int p3), .val (.int p4), .val (.ref a5)] [(.int p3), (.ref a1)])) rfl rfl (hb hby dgct_11)
  refine own_go st7 ?_
  have F7 := Q5.same W7
  have N7 := Fr.snoc X7 N2 g_a1
  have Z8 : n0 ≤ h7.size := Nat.le_trans Z3 (Keep.of_wr W7).1
  have K9 := Keep.wr K4 W7 (Or.inl (List.mem_of_getElem? (i := 0) rfl))
  show own_G p e below (K_gct Z a1 p2 p3 p4 a5 h0 n0 s) (T7.setTop (mkF m 14 #[.val (.ref a1), .val (.int p2), .val (.int p3), .val (.int p4), .val (.ref a5)] []))
  refine own_go (fun t k => XS.aloadN X7.here hx rfl (hb hby dgct_14) rfl rfl k) ?_
  show own_G p e below (K_gct Z a1 p2 p3 p4 a5 h0 n0 s) (T7.setTop (mkF m 15 #[.val (.ref a1), .val (.int p2), .val (.int p3), .val (.int p4), .val (.ref a5)] [(.ref a1)]))
  refine own_go (fun t k => XS.iloadN X7.here hx rfl (hb hby dgct_15) rfl k) ?_
  show own_G p e below (K_gct Z a1 p2 p3 p4 a5 h0 n0 s) (T7.setTop (mkF m 16 #[.val (.ref a1), .val (.int p2), .val (.int p3), .val (.int p4), .val (.ref a5)] [(.int p4), (.ref a1)]))
  have Q10 := ((F2_.other W2 (Or.inr (slot_ne (Or.inr (hw _ (List.mem_of_getElem? (i := 43) rfl))) (Or.inr (hw _ (List.mem_of_getElem? (i := 39) rfl))) (by decide) (t := .int) (t' := .int) (by decide) (by decide)))).other W7 (Or.inr (slot_ne (Or.inr (hw _ (List.mem_of_getElem? (i := 43) rfl))) (Or.inr (hw _ (List.mem_of_getElem? (i := 41) rfl))) (by decide) (t := .int) (t' := .int) (by decide) (by decide))))
  have Q11 := (Q6.wr W7)
  obtain ⟨T12, h12, X12, e12, W12, st12⟩ := putF X7 hx hZ hown (host := "") (Or.inl (hw _ (List.mem_of_getElem? (i := 42) rfl))) Via.refl e7 Q10 Q11 (Or.inr ⟨(hw _ (List.mem_of_getElem? (i := 43) rfl)), rfl, hnm⟩) (hw _ (List.mem_of_getElem? (i := 1) rfl)) (ty := .int) (by decide) rfl rfl (g := (mkF m 16 #[.val (.ref a1), .val (.int p2), .val (.int p3), .val (.int p4), .val (.ref a5)] [(.int p4), (.ref a1)])) rfl rfl (hb hby dgct_16)
  refine own_go st12 ?_
  have F12 := Q10.same W12
  have N12 := Fr.snoc X12 N7 g_a1
  have Z13 : n0 ≤ h12.size := Nat.le_trans Z8 (Keep.of_wr W12).1
  have K14 := Keep.wr K9 W12 (Or.inl (List.mem_of_getElem? (i := 0) rfl))
  show own_G p e below (K_gct Z a1 p2 p3 p4 a5 h0 n0 s) (T12.setTop (mkF m 19 #[.val (.ref a1), .val (.int p2), .val (.int p3), .val (.int p4), .val (.ref a5)] []))
  refine own_go (fun t k => XS.aloadN X12.here hx rfl (hb hby dgct_19) rfl rfl k) ?_
  show own_G p e below (K_gct Z a1 p2 p3 p4 a5 h0 n0 s) (T12.setTop (mkF m 20 #[.val (.ref a1), .val (.int p2), .val (.int p3), .val (.int p4), .val (.ref a5)] [(.ref a1)]))
  refine own_go (fun t k => XS.aload X12.here hx rfl (hb hby dgct_20) rfl rfl k) ?_
  show own_G p e below (K_gct Z a1 p2 p3 p4 a5 h0 n0 s) (T12.setTop (mkF m 22 #[.val (.ref a1), .val (.int p2), .val (.int p3), .val (.int p4), .val (.ref a5)] [(.ref a5), (.ref a1)]))
  have Q15 := (((F3_.other W2 (Or.inr (slot_ne (Or.inr (hw _ (List.mem_of_getElem? (i := 45) rfl))) (Or.inr (hw _ (List.mem_of_getElem? (i := 39) rfl))) (by decide) (t := (.object "java/util/List")) (t' := .int) (by decide) (by decide)))).other W7 (Or.inr (slot_ne (Or.inr (hw _ (List.mem_of_getElem? (i := 45) rfl))) (Or.inr (hw _ (List.mem_of_getElem? (i := 41) rfl))) (by decide) (t := (.object "java/util/List")) (t' := .int) (by decide) (by decide)))).other W12 (Or.inr (slot_ne (Or.inr (hw _ (List.mem_of_getElem? (i := 45) rfl))) (Or.inr (hw _ (List.mem_of_getElem? (i := 43) rfl))) (by decide) (t := (.object "java/util/List")) (t' := .int) (by decide) (by decide))))
  have Q16 := (Q11.wr W12)
  obtain ⟨T17, h17, X17, e17, W17, st17⟩ := putF X12 hx hZ hown (host := "") (Or.inl (hw _ (List.mem_of_getElem? (i := 44) rfl))) Via.refl e12 Q15 Q16 (Or.inr ⟨(hw _ (List.mem_of_getElem? (i := 45) rfl)), rfl, hnm⟩) (hw _ (List.mem_of_getElem? (i := 1) rfl)) (ty := (.object "java/util/List")) (by decide) rfl rfl (g := (mkF m 22 #[.val (.ref a1), .val (.int p2), .val (.int p3), .val (.int p4), .val (.ref a5)] [(.ref a5), (.ref a1)])) rfl rfl (hb hby dgct_22)
  refine own_go st17 ?_
  have F17 := Q15.same W17
  have N17 := Fr.snoc X17 N12 g_a1
  have Z18 : n0 ≤ h17.size := Nat.le_trans Z13 (Keep.of_wr W17).1
  have K19 := Keep.wr K14 W17 (Or.inl (List.mem_of_getElem? (i := 0) rfl))
  show own_G p e below (K_gct Z a1 p2 p3 p4 a5 h0 n0 s) (T17.setTop (mkF m 25 #[.val (.ref a1), .val (.int p2), .val (.int p3), .val (.int p4), .val (.ref a5)] []))
  have Q20 := (Q16.wr W17)
  have Q21 := (((F2.other W7 (Or.inr (slot_ne (Or.inr (hw _ (List.mem_of_getElem? (i := 39) rfl))) (Or.inr (hw _ (List.mem_of_getElem? (i := 41) rfl))) (by decide) (t := .int) (t' := .int) (by decide) (by decide)))).other W12 (Or.inr (slot_ne (Or.inr (hw _ (List.mem_of_getElem? (i := 39) rfl))) (Or.inr (hw _ (List.mem_of_getElem? (i := 43) rfl))) (by decide) (t := .int) (t' := .int) (by decide) (by decide)))).other W17 (Or.inr (slot_ne (Or.inr (hw _ (List.mem_of_getElem? (i := 39) rfl))) (Or.inr (hw _ (List.mem_of_getElem? (i := 45) rfl))) (by decide) (t := .int) (t' := (.object "java/util/List")) (by decide) (by decide))))
  have Q22 := ((F7.other W12 (Or.inr (slot_ne (Or.inr (hw _ (List.mem_of_getElem? (i := 41) rfl))) (Or.inr (hw _ (List.mem_of_getElem? (i := 43) rfl))) (by decide) (t := .int) (t' := .int) (by decide) (by decide)))).other W17 (Or.inr (slot_ne (Or.inr (hw _ (List.mem_of_getElem? (i := 41) rfl))) (Or.inr (hw _ (List.mem_of_getElem? (i := 45) rfl))) (by decide) (t := .int) (t' := (.object "java/util/List")) (by decide) (by decide))))
  have Q23 := (F12.other W17 (Or.inr (slot_ne (Or.inr (hw _ (List.mem_of_getElem? (i := 43) rfl))) (Or.inr (hw _ (List.mem_of_getElem? (i := 45) rfl))) (by decide) (t := .int) (t' := (.object "java/util/List")) (by decide) (by decide))))
  exact own_retV X17 hx Bd.notSynchronized Bd.returns (hb hby dgct_25) (fun U hU hV hF => ⟨_, _, rfl, (by rw [hU, e17]; exact ⟨rfl, N17, K19, Q20, Q21, Q22, Q23, F17⟩), hF.1, hF.2.1, hF.2.2.mono (by decide) (by decide)⟩)
theorem dgd_0 : decode prog_20_method_2_code 0 = .ok (.iload_n 1, 1) := by decide +kernel
theorem dgd_1 : decode prog_20_method_2_code 1 = .ok (.aload_n 0, 1) := by decide +kernel
theorem dgd_2 : decode prog_20_method_2_code 2 = .ok (.getfield 7, 3) := by decide +kernel
theorem dgd_5 : decode prog_20_method_2_code 5 = .ok (.if_icmp .lt 15, 3) := by decide +kernel
theorem dgd_8 : decode prog_20_method_2_code 8 = .ok (.iload_n 1, 1) := by decide +kernel
theorem dgd_9 : decode prog_20_method_2_code 9 = .ok (.aload_n 0, 1) := by decide +kernel
theorem dgd_10 : decode prog_20_method_2_code 10 = .ok (.getfield 13, 3) := by decide +kernel
theorem dgd_13 : decode prog_20_method_2_code 13 = .ok (.if_icmp .ge 7, 3) := by decide +kernel
theorem dgd_16 : decode prog_20_method_2_code 16 = .ok (.iconst 1, 1) := by decide +kernel
theorem dgd_17 : decode prog_20_method_2_code 17 = .ok (.goto 4, 3) := by decide +kernel
theorem dgd_20 : decode prog_20_method_2_code 20 = .ok (.iconst 0, 1) := by decide +kernel
theorem dgd_21 : decode prog_20_method_2_code 21 = .ok (.ireturn, 1) := by decide +kernel
theorem efgd (m : MethodId) (a1 : Addr) (p2 : Int32) : entryFrame m #[(.ref a1), (.int p2)] 2 = mkF m 0 #[.val (.ref a1), .val (.int p2)] [] := by first | (simp [entryFrame, mkF, argsToLocals, Value.category]; done) | rfl
def Q_gd (Z : State) (a1 : Addr) (p2 : Int32) (b1 b2 : Int32) (h0 : Heap) (n0 : Nat) (v : Option Value) (h : Heap) (L : List Loc) : Prop := v = some (.int (own_gd b1 b2 p2)) ∧ Fr n0 L ∧ h = h0
def K_gd (Z : State) (a1 : Addr) (p2 : Int32) (b1 b2 : Int32) (h0 : Heap) (n0 : Nat) (s : State) (o : Outcome) (U' : State) : Prop := ∃ v L, o = .returned v ∧ Q_gd Z a1 p2 b1 b2 h0 n0 v U'.heap L ∧ FrameEnd s o U' L 0 0
set_option maxRecDepth 65536 in
set_option maxHeartbeats 40000000 in
theorem rm_gd (l : Launch) (Z : State) (a0 : Array Value) (hw : ∀ d ∈ tables_1, d.before a0 Z = true) (ws : List Jvm.Cond) (a1 : Addr) (p2 : Int32) (b1 b2 : Int32) (h0 : Heap) (n0 : Nat) (Z0 : n0 ≤ h0.size) (F1 : Fld Z h0 a1 "com/example/routines_in_transactions/routinesintransactions/engine/BoundRoutine$Guard" "from" "I" (.int b1)) (F2 : Fld Z h0 a1 "com/example/routines_in_transactions/routinesintransactions/engine/BoundRoutine$Guard" "to" "I" (.int b2)) :
    MetFree l (⟨"com/example/routines_in_transactions/routinesintransactions/engine/BoundRoutine$Guard", "guards", "(I)Z"⟩ : MethodName) (head1 (Jvm.Cond.code (⟨"com/example/routines_in_transactions/routinesintransactions/engine/BoundRoutine$Guard", "guards", "(I)Z"⟩ : MethodName) prog_20_method_2_code 2 (some .boolean) :: ws) ({ frames := 0, cells := 0, slots := 0, locals := 0 } : Room)) (fun a U => a = #[(.ref a1), (.int p2)] ∧ Z.Warmed39 U.vm ∧ U.heap = h0) (fun _ _ _ _ _ => True) (fun _ U o U' => ∃ v L, o = .returned v ∧ Q_gd Z a1 p2 b1 b2 h0 n0 v U'.heap L ∧ FrameEnd U o U' L ({ frames := 0, cells := 0, slots := 0, locals := 0 } : Room).cells ({ frames := 0, cells := 0, slots := 0, locals := 0 } : Room).slots) := by
  refine MetFree.of_bodySF (plainFor_of_name own_pn4) hisR ?_
  intro p e s m args below meth c s₁ Bd hml0 hP hK
  obtain ⟨rfl, hZ, hh⟩ := hP
  have hx := Bd.exec
  have hby := Bd.bytes
  have hml : c.maxLocals = 2 := hml0
  have hown : s.vm.findClass "com/example/routines_in_transactions/routinesintransactions/engine/BoundRoutine$Guard" = some m.cls := findClass_of_methodNamed Bd.named
  have hnm := (name_of_methodNamed Bd.named Bd.method).1
  have X0 : Stand p l e ({ frames := 0, cells := 0, slots := 0, locals := 0 } : Room) s m #[(.ref a1), (.int p2)] below meth c s₁ [] 0 0 := Stand.of_body Bd
  have e0 : s₁.heap = h0 := by rw [← hh, Bd.state]; rfl
  have N0 := Fr.nil n0
  show own_G p e below (K_gd Z a1 p2 b1 b2 h0 n0 s) (s₁.setTop (entryFrame m #[(.ref a1), (.int p2)] 2))
  refine own_cast (efgd m a1 p2) ?_
  show own_G p e below (K_gd Z a1 p2 b1 b2 h0 n0 s) (s₁.setTop (mkF m 0 #[.val (.ref a1), .val (.int p2)] []))
  refine own_go (fun t k => XS.iloadN X0.here hx rfl (hb hby dgd_0) rfl k) ?_
  show own_G p e below (K_gd Z a1 p2 b1 b2 h0 n0 s) (s₁.setTop (mkF m 1 #[.val (.ref a1), .val (.int p2)] [(.int p2)]))
  refine own_go (fun t k => XS.aloadN X0.here hx rfl (hb hby dgd_1) rfl rfl k) ?_
  show own_G p e below (K_gd Z a1 p2 b1 b2 h0 n0 s) (s₁.setTop (mkF m 2 #[.val (.ref a1), .val (.int p2)] [(.ref a1), (.int p2)]))
  obtain ⟨T1, X1, e1, st1⟩ := getF X0 hx hZ hown (host := "") (Or.inl (hw _ (List.mem_of_getElem? (i := 38) rfl))) Via.refl e0 F1 (g := (mkF m 2 #[.val (.ref a1), .val (.int p2)] [(.ref a1), (.int p2)])) rfl rfl (hb hby dgd_2)
  refine own_go st1 ?_
  show own_G p e below (K_gd Z a1 p2 b1 b2 h0 n0 s) (T1.setTop (mkF m 5 #[.val (.ref a1), .val (.int p2)] [(.int b1), (.int p2)]))
  by_cases hc5_2 : p2 < b1
  · skip
    refine own_go (fun t k => XS.icmpYes X1.here hx rfl (pc0 := 5) (pc' := 20) rfl (hb hby dgd_5) rfl (tlt hc5_2).1 (by decide) (by decide) k) ?_
    show own_G p e below (K_gd Z a1 p2 b1 b2 h0 n0 s) (T1.setTop (mkF m 20 #[.val (.ref a1), .val (.int p2)] []))
    refine own_go (fun t k => XS.iconst X1.here hx rfl (hb hby dgd_20) k) ?_
    show own_G p e below (K_gd Z a1 p2 b1 b2 h0 n0 s) (T1.setTop (mkF m 21 #[.val (.ref a1), .val (.int p2)] [(.int (0 : Int32))]))
    have ar3 : p2.toInt < b1.toInt := Int32.lt_iff_toInt_lt.mp hc5_2
    have hv4 : own_gd b1 b2 p2 = (0 : Int32) := own_gd0 (by omega)
    exact own_retN X1 hx Bd.notSynchronized (t := .boolean) (z' := (0 : Int32)) Bd.returns (by simp) (hb hby dgd_21) rfl (fun U hU hV hF => ⟨_, _, rfl, ⟨by rw [hv4], N0, hU.trans e1⟩, hF.1, hF.2.1, hF.2.2.mono (by decide) (by decide)⟩)
  · skip
    refine own_go (fun t k => XS.icmpNo X1.here hx rfl (hb hby dgd_5) rfl (flt hc5_2).1 k) ?_
    show own_G p e below (K_gd Z a1 p2 b1 b2 h0 n0 s) (T1.setTop (mkF m 8 #[.val (.ref a1), .val (.int p2)] []))
    refine own_go (fun t k => XS.iloadN X1.here hx rfl (hb hby dgd_8) rfl k) ?_
    show own_G p e below (K_gd Z a1 p2 b1 b2 h0 n0 s) (T1.setTop (mkF m 9 #[.val (.ref a1), .val (.int p2)] [(.int p2)]))
    refine own_go (fun t k => XS.aloadN X1.here hx rfl (hb hby dgd_9) rfl rfl k) ?_
    show own_G p e below (K_gd Z a1 p2 b1 b2 h0 n0 s) (T1.setTop (mkF m 10 #[.val (.ref a1), .val (.int p2)] [(.ref a1), (.int p2)]))
    obtain ⟨T5, X5, e5, st5⟩ := getF X1 hx hZ hown (host := "") (Or.inl (hw _ (List.mem_of_getElem? (i := 40) rfl))) Via.refl e1 F2 (g := (mkF m 10 #[.val (.ref a1), .val (.int p2)] [(.ref a1), (.int p2)])) rfl rfl (hb hby dgd_10)
    refine own_go st5 ?_
    show own_G p e below (K_gd Z a1 p2 b1 b2 h0 n0 s) (T5.setTop (mkF m 13 #[.val (.ref a1), .val (.int p2)] [(.int b2), (.int p2)]))
    by_cases hc13_6 : p2 < b2
    · skip
      refine own_go (fun t k => XS.icmpNo X5.here hx rfl (hb hby dgd_13) rfl (tlt hc13_6).2.1 k) ?_
      show own_G p e below (K_gd Z a1 p2 b1 b2 h0 n0 s) (T5.setTop (mkF m 16 #[.val (.ref a1), .val (.int p2)] []))
      refine own_go (fun t k => XS.iconst X5.here hx rfl (hb hby dgd_16) k) ?_
      show own_G p e below (K_gd Z a1 p2 b1 b2 h0 n0 s) (T5.setTop (mkF m 17 #[.val (.ref a1), .val (.int p2)] [(.int (1 : Int32))]))
      refine own_go (fun t k => XS.goto X5.here hx rfl (pc0 := 17) (pc' := 21) rfl (hb hby dgd_17) (by decide) (by decide) k) ?_
      show own_G p e below (K_gd Z a1 p2 b1 b2 h0 n0 s) (T5.setTop (mkF m 21 #[.val (.ref a1), .val (.int p2)] [(.int (1 : Int32))]))
      have ar7 : ¬ p2.toInt < b1.toInt := fun q => hc5_2 (Int32.lt_iff_toInt_lt.mpr q)
      have ar8 : p2.toInt < b2.toInt := Int32.lt_iff_toInt_lt.mp hc13_6
      have hv9 : own_gd b1 b2 p2 = (1 : Int32) := own_gd1 (by omega)
      exact own_retN X5 hx Bd.notSynchronized (t := .boolean) (z' := (1 : Int32)) Bd.returns (by simp) (hb hby dgd_21) rfl (fun U hU hV hF => ⟨_, _, rfl, ⟨by rw [hv9], N0, hU.trans e5⟩, hF.1, hF.2.1, hF.2.2.mono (by decide) (by decide)⟩)
    · skip
      refine own_go (fun t k => XS.icmpYes X5.here hx rfl (pc0 := 13) (pc' := 20) rfl (hb hby dgd_13) rfl (flt hc13_6).2.1 (by decide) (by decide) k) ?_
      show own_G p e below (K_gd Z a1 p2 b1 b2 h0 n0 s) (T5.setTop (mkF m 20 #[.val (.ref a1), .val (.int p2)] []))
      refine own_go (fun t k => XS.iconst X5.here hx rfl (hb hby dgd_20) k) ?_
      show own_G p e below (K_gd Z a1 p2 b1 b2 h0 n0 s) (T5.setTop (mkF m 21 #[.val (.ref a1), .val (.int p2)] [(.int (0 : Int32))]))
      have ar10 : ¬ p2.toInt < b1.toInt := fun q => hc5_2 (Int32.lt_iff_toInt_lt.mpr q)
      have ar11 : ¬ p2.toInt < b2.toInt := fun q => hc13_6 (Int32.lt_iff_toInt_lt.mpr q)
      have hv12 : own_gd b1 b2 p2 = (0 : Int32) := own_gd0 (by omega)
      exact own_retN X5 hx Bd.notSynchronized (t := .boolean) (z' := (0 : Int32)) Bd.returns (by simp) (hb hby dgd_21) rfl (fun U hU hV hF => ⟨_, _, rfl, ⟨by rw [hv12], N0, hU.trans e5⟩, hF.1, hF.2.1, hF.2.2.mono (by decide) (by decide)⟩)
theorem own_pn5 : plainName "com/example/routines_in_transactions/routinesintransactions/engine/GuardGuardsPinLaw" = true := by first | (simp [plainName, overriddenIn]; done) | decide +kernel
theorem own_pd1 : parseMethodDescriptor "(IIILjava/util/List;)V" = some ⟨[.int, .int, .int, (.object "java/util/List")], none⟩ := by decide +kernel
theorem own_pd2 : parseMethodDescriptor "(I)Z" = some ⟨[.int], some .boolean⟩ := by decide +kernel
theorem ef0 (m : MethodId) (p0 : Int32) (p1 : Int32) (p2 : Int32) (p3 : Int32) (p4 : Int32) : entryFrame m #[(.int p0), (.int p1), (.int p2), (.int p3), (.int p4)] maxLocals = mkF m 0 #[.val (.int p0), .val (.int p1), .val (.int p2), .val (.int p3), .val (.int p4), .unset, .unset, .unset, .unset, .unset, .unset, .unset, .unset, .unset, .unset, .unset, .unset, .unset, .unset] [] := by first | (simp [entryFrame, mkF, argsToLocals, Value.category, maxLocals]; done) | rfl
def Q_0 (Z : State) (p0 : Int32) (p1 : Int32) (p2 : Int32) (p3 : Int32) (p4 : Int32) (d0 : Addr) (h0 : Heap) (n0 : Nat) (v : Option Value) (h : Heap) (L : List Loc) : Prop := v = some (.int 1) ∧ Fr n0 L
def K_0 (Z : State) (p0 : Int32) (p1 : Int32) (p2 : Int32) (p3 : Int32) (p4 : Int32) (d0 : Addr) (h0 : Heap) (n0 : Nat) (s : State) (o : Outcome) (U' : State) : Prop := ∃ v L, o = .returned v ∧ Q_0 Z p0 p1 p2 p3 p4 d0 h0 n0 v U'.heap L ∧ FrameEnd s o U' L 24 128
set_option maxRecDepth 65536 in
set_option maxHeartbeats 40000000 in
theorem rm_0 (l : Launch) (Z : State) (a0 : Array Value) (hw : ∀ d ∈ tables_1, d.before a0 Z = true) (ws : List Jvm.Cond) (p0 : Int32) (p1 : Int32) (p2 : Int32) (p3 : Int32) (p4 : Int32) (d0 : Addr) (h0 : Heap) (n0 : Nat) (Z0 : n0 ≤ h0.size) (S0_ : Sta Z h0 "java/util/ArrayList" "DEFAULTCAPACITY_EMPTY_ELEMENTDATA" "[Ljava/lang/Object;" (.ref d0)) :
    MetFree l x (head1 (Jvm.Cond.code x code maxLocals ret :: ws) room_1) (fun a U => a = #[(.int p0), (.int p1), (.int p2), (.int p3), (.int p4)] ∧ Z.Warmed39 U.vm ∧ U.heap = h0) (fun _ _ _ _ _ => True) (fun _ U o U' => ∃ v L, o = .returned v ∧ Q_0 Z p0 p1 p2 p3 p4 d0 h0 n0 v U'.heap L ∧ FrameEnd U o U' L room_1.cells room_1.slots) := by
  refine MetFree.of_bodySF (plainFor_of_name own_pn5) hisR ?_
  intro p e s m args below meth c s₁ Bd hml0 hP hK
  obtain ⟨rfl, hZ, hh⟩ := hP
  have hx := Bd.exec
  have hby := Bd.bytes
  have hml : c.maxLocals = 19 := hml0
  have hown : s.vm.findClass "com/example/routines_in_transactions/routinesintransactions/engine/GuardGuardsPinLaw" = some m.cls := findClass_of_methodNamed Bd.named
  have hnm := (name_of_methodNamed Bd.named Bd.method).1
  have X0 : Stand p l e room_1 s m #[(.int p0), (.int p1), (.int p2), (.int p3), (.int p4)] below meth c s₁ [] 0 0 := Stand.of_body Bd
  have e0 : s₁.heap = h0 := by rw [← hh, Bd.state]; rfl
  have N0 := Fr.nil n0
  show own_G p e below (K_0 Z p0 p1 p2 p3 p4 d0 h0 n0 s) (s₁.setTop (entryFrame m #[(.int p0), (.int p1), (.int p2), (.int p3), (.int p4)] maxLocals))
  refine own_cast (ef0 m p0 p1 p2 p3 p4) ?_
  show own_G p e below (K_0 Z p0 p1 p2 p3 p4 d0 h0 n0 s) (s₁.setTop (mkF m 0 #[.val (.int p0), .val (.int p1), .val (.int p2), .val (.int p3), .val (.int p4), .unset, .unset, .unset, .unset, .unset, .unset, .unset, .unset, .unset, .unset, .unset, .unset, .unset, .unset] []))
  obtain ⟨T1, h1, X1, e1, E1, A1, D1, -, st1⟩ := newO X0 hx hZ hown (hw _ (List.mem_of_getElem? (i := 0) rfl)) (hw _ (List.mem_of_getElem? (i := 1) rfl)) (hw _ (List.mem_of_getElem? (i := 2) rfl)) e0 (g := (mkF m 0 #[.val (.int p0), .val (.int p1), .val (.int p2), .val (.int p3), .val (.int p4), .unset, .unset, .unset, .unset, .unset, .unset, .unset, .unset, .unset, .unset, .unset, .unset, .unset, .unset] [])) rfl (hb hby at_0) (by decide) (by decide)
  obtain ⟨b1, g1⟩ : ∃ z, z = h0.size := ⟨_, rfl⟩
  rw [← g1] at A1 D1 st1
  refine own_go st1 ?_
  have g_b1 : n0 ≤ b1 := Nat.le_trans Z0 (Nat.le_of_eq g1.symm)
  have Z2 : n0 ≤ h1.size := Nat.le_trans Z0 E1.1
  have F1_from : Fld Z h1 b1 "com/example/routines_in_transactions/routinesintransactions/engine/BoundRoutine$Guard" "from" "I" (.int (0 : Int32)) := D1 (Or.inr (hw _ (List.mem_of_getElem? (i := 39) rfl))) (ty := .int) (by decide)
  have F1_to : Fld Z h1 b1 "com/example/routines_in_transactions/routinesintransactions/engine/BoundRoutine$Guard" "to" "I" (.int (0 : Int32)) := D1 (Or.inr (hw _ (List.mem_of_getElem? (i := 41) rfl))) (ty := .int) (by decide)
  have F1_depth : Fld Z h1 b1 "com/example/routines_in_transactions/routinesintransactions/engine/BoundRoutine$Guard" "depth" "I" (.int (0 : Int32)) := D1 (Or.inr (hw _ (List.mem_of_getElem? (i := 43) rfl))) (ty := .int) (by decide)
  have F1_handlers : Fld Z h1 b1 "com/example/routines_in_transactions/routinesintransactions/engine/BoundRoutine$Guard" "handlers" "Ljava/util/List;" .null := D1 (Or.inr (hw _ (List.mem_of_getElem? (i := 45) rfl))) (ty := (.object "java/util/List")) (by decide)
  show own_G p e below (K_0 Z p0 p1 p2 p3 p4 d0 h0 n0 s) (T1.setTop (mkF m 3 #[.val (.int p0), .val (.int p1), .val (.int p2), .val (.int p3), .val (.int p4), .unset, .unset, .unset, .unset, .unset, .unset, .unset, .unset, .unset, .unset, .unset, .unset, .unset, .unset] [(.ref b1)]))
  refine own_go (fun t k => XS.dup X1.here hx rfl (hb hby at_3) rfl rfl k) ?_
  show own_G p e below (K_0 Z p0 p1 p2 p3 p4 d0 h0 n0 s) (T1.setTop (mkF m 4 #[.val (.int p0), .val (.int p1), .val (.int p2), .val (.int p3), .val (.int p4), .unset, .unset, .unset, .unset, .unset, .unset, .unset, .unset, .unset, .unset, .unset, .unset, .unset, .unset] [(.ref b1), (.ref b1)]))
  refine own_go (fun t k => XS.iloadN X1.here hx rfl (hb hby at_4) rfl k) ?_
  show own_G p e below (K_0 Z p0 p1 p2 p3 p4 d0 h0 n0 s) (T1.setTop (mkF m 5 #[.val (.int p0), .val (.int p1), .val (.int p2), .val (.int p3), .val (.int p4), .unset, .unset, .unset, .unset, .unset, .unset, .unset, .unset, .unset, .unset, .unset, .unset, .unset, .unset] [(.int p0), (.ref b1), (.ref b1)]))
  refine own_go (fun t k => XS.iloadN X1.here hx rfl (hb hby at_5) rfl k) ?_
  show own_G p e below (K_0 Z p0 p1 p2 p3 p4 d0 h0 n0 s) (T1.setTop (mkF m 6 #[.val (.int p0), .val (.int p1), .val (.int p2), .val (.int p3), .val (.int p4), .unset, .unset, .unset, .unset, .unset, .unset, .unset, .unset, .unset, .unset, .unset, .unset, .unset, .unset] [(.int p1), (.int p0), (.ref b1), (.ref b1)]))
  refine own_go (fun t k => XS.iloadN X1.here hx rfl (hb hby at_6) rfl k) ?_
  show own_G p e below (K_0 Z p0 p1 p2 p3 p4 d0 h0 n0 s) (T1.setTop (mkF m 7 #[.val (.int p0), .val (.int p1), .val (.int p2), .val (.int p3), .val (.int p4), .unset, .unset, .unset, .unset, .unset, .unset, .unset, .unset, .unset, .unset, .unset, .unset, .unset, .unset] [(.int p2), (.int p1), (.int p0), (.ref b1), (.ref b1)]))
  obtain ⟨T3, h3, X3, e3, E3, A3, D3, -, st3⟩ := newO X1 hx hZ hown (hw _ (List.mem_of_getElem? (i := 3) rfl)) (hw _ (List.mem_of_getElem? (i := 4) rfl)) (hw _ (List.mem_of_getElem? (i := 5) rfl)) e1 (g := (mkF m 7 #[.val (.int p0), .val (.int p1), .val (.int p2), .val (.int p3), .val (.int p4), .unset, .unset, .unset, .unset, .unset, .unset, .unset, .unset, .unset, .unset, .unset, .unset, .unset, .unset] [(.int p2), (.int p1), (.int p0), (.ref b1), (.ref b1)])) rfl (hb hby at_7) (by decide) (by decide)
  obtain ⟨b3, g3⟩ : ∃ z, z = h1.size := ⟨_, rfl⟩
  rw [← g3] at A3 D3 st3
  refine own_go st3 ?_
  have g_b3 : n0 ≤ b3 := Nat.le_trans Z2 (Nat.le_of_eq g3.symm)
  have Z4 : n0 ≤ h3.size := Nat.le_trans Z2 E3.1
  have F3_modCount : Fld Z h3 b3 "java/util/AbstractList" "modCount" "I" (.int (0 : Int32)) := D3 (Or.inl (hw _ (List.mem_of_getElem? (i := 25) rfl))) (ty := .int) (by decide)
  have F3_elementData : Fld Z h3 b3 "java/util/ArrayList" "elementData" "[Ljava/lang/Object;" .null := D3 (Or.inl (hw _ (List.mem_of_getElem? (i := 28) rfl))) (ty := (.array (.object "java/lang/Object"))) (by decide)
  show own_G p e below (K_0 Z p0 p1 p2 p3 p4 d0 h0 n0 s) (T3.setTop (mkF m 10 #[.val (.int p0), .val (.int p1), .val (.int p2), .val (.int p3), .val (.int p4), .unset, .unset, .unset, .unset, .unset, .unset, .unset, .unset, .unset, .unset, .unset, .unset, .unset, .unset] [(.ref b3), (.int p2), (.int p1), (.int p0), (.ref b1), (.ref b1)]))
  refine own_go (fun t k => XS.dup X3.here hx rfl (hb hby at_10) rfl rfl k) ?_
  show own_G p e below (K_0 Z p0 p1 p2 p3 p4 d0 h0 n0 s) (T3.setTop (mkF m 11 #[.val (.int p0), .val (.int p1), .val (.int p2), .val (.int p3), .val (.int p4), .unset, .unset, .unset, .unset, .unset, .unset, .unset, .unset, .unset, .unset, .unset, .unset, .unset, .unset] [(.ref b3), (.ref b3), (.int p2), (.int p1), (.int p0), (.ref b1), (.ref b1)]))
  have Q6 := ((S0_.ext E1).ext E3)
  obtain ⟨_, _, ⟨T5, L5, k5, n5⟩, -, X5, ⟨Lc5, hQ5, l5, y5, z5⟩, st5⟩ := X3.specialBack hx (y := (⟨"java/util/ArrayList", "<init>", "()V"⟩ : MethodName)) rfl hown (mvT hZ (hw _ (List.mem_of_getElem? (i := 6) rfl))) (mvT hZ (hw _ (List.mem_of_getElem? (i := 7) rfl))) (mvT hZ (hw _ (List.mem_of_getElem? (i := 8) rfl))) (by decide) (backOf (W := 6) (rm_arl l Z a0 hw [] b3 d0 h3 n0 Z4 F3_modCount F3_elementData A3 g_b3 Q6) hZ (hw _ (List.mem_of_getElem? (i := 8) rfl)) (hw _ (List.mem_of_getElem? (i := 5) rfl)) (by decide) (by decide)) (g := (mkF m 11 #[.val (.int p0), .val (.int p1), .val (.int p2), .val (.int p3), .val (.int p4), .unset, .unset, .unset, .unset, .unset, .unset, .unset, .unset, .unset, .unset, .unset, .unset, .unset, .unset] [(.ref b3), (.ref b3), (.int p2), (.int p1), (.int p0), (.ref b1), (.ref b1)])) rfl (by rw [hml]; rfl) (Steps.refl _) (a := b3) (argsL := []) (rest := [(.ref b3), (.int p2), (.int p1), (.int p0), (.ref b1), (.ref b1)]) (lenOf own_pd0 rfl) rfl (by show 2 * 0 + _ ≤ _; exact Nat.le_of_eq rfl) (hb hby at_11) (fun _ _ => ⟨rfl, e3, (by decide : 2 + 0 ≤ _), (by decide : 7 + 0 ≤ _)⟩)
  dsimp only [Pt.U, Pt.locs, Pt.cells, Pt.slots] at X5 l5 y5 z5 st5 hQ5
  subst l5 y5 z5
  obtain ⟨rfl, N5q, K5q, E5q, F5_0, F5_1⟩ := hQ5
  have N5 := Fr.app N0 N5q
  obtain ⟨h5, e5⟩ : ∃ z, T5.heap = z := ⟨_, rfl⟩
  rw [e5] at K5q E5q F5_0 F5_1
  have Z7 : n0 ≤ h5.size := Nat.le_trans Z4 K5q.1
  refine own_tr st5 ?_
  show own_G p e below (K_0 Z p0 p1 p2 p3 p4 d0 h0 n0 s) (T5.setTop (mkF m 14 #[.val (.int p0), .val (.int p1), .val (.int p2), .val (.int p3), .val (.int p4), .unset, .unset, .unset, .unset, .unset, .unset, .unset, .unset, .unset, .unset, .unset, .unset, .unset, .unset] [(.ref b3), (.int p2), (.int p1), (.int p0), (.ref b1), (.ref b1)]))
  have Q9 := ((F1_from.ext E3).keep K5q (by simp only [List.mem_cons, List.not_mem_nil, or_false, not_or]; exact (Nat.ne_of_lt (Nat.lt_of_lt_of_le A1.lt (Nat.le_of_eq g3.symm)))))
  have Q10 := ((F1_to.ext E3).keep K5q (by simp only [List.mem_cons, List.not_mem_nil, or_false, not_or]; exact (Nat.ne_of_lt (Nat.lt_of_lt_of_le A1.lt (Nat.le_of_eq g3.symm)))))
  have Q11 := ((F1_depth.ext E3).keep K5q (by simp only [List.mem_cons, List.not_mem_nil, or_false, not_or]; exact (Nat.ne_of_lt (Nat.lt_of_lt_of_le A1.lt (Nat.le_of_eq g3.symm)))))
  have Q12 := ((F1_handlers.ext E3).keep K5q (by simp only [List.mem_cons, List.not_mem_nil, or_false, not_or]; exact (Nat.ne_of_lt (Nat.lt_of_lt_of_le A1.lt (Nat.le_of_eq g3.symm)))))
  have Q13 := ((A1.ext E3).keep K5q)
  obtain ⟨_, _, ⟨T8, L8, k8, n8⟩, -, X8, ⟨Lc8, hQ8, l8, y8, z8⟩, st8⟩ := X5.specialBack hx (y := (⟨"com/example/routines_in_transactions/routinesintransactions/engine/BoundRoutine$Guard", "<init>", "(IIILjava/util/List;)V"⟩ : MethodName)) rfl hown (mvT hZ (hw _ (List.mem_of_getElem? (i := 29) rfl))) (mvT hZ (hw _ (List.mem_of_getElem? (i := 30) rfl))) (mvT hZ (hw _ (List.mem_of_getElem? (i := 31) rfl))) (by decide) (backOf (W := 1) (rm_gct l Z a0 hw [] b1 p0 p1 p2 b3 h5 n0 Z7 Q9 Q10 Q11 Q12 Q13 g_b1) hZ (hw _ (List.mem_of_getElem? (i := 31) rfl)) (hw _ (List.mem_of_getElem? (i := 2) rfl)) (by decide) (by decide)) (g := (mkF m 14 #[.val (.int p0), .val (.int p1), .val (.int p2), .val (.int p3), .val (.int p4), .unset, .unset, .unset, .unset, .unset, .unset, .unset, .unset, .unset, .unset, .unset, .unset, .unset, .unset] [(.ref b3), (.int p2), (.int p1), (.int p0), (.ref b1), (.ref b1)])) rfl (by rw [hml]; rfl) (Steps.refl _) (a := b1) (argsL := [(.int p0), (.int p1), (.int p2), (.ref b3)]) (rest := [(.ref b1)]) (lenOf own_pd1 rfl) rfl (by show 2 * 0 + _ ≤ _; exact Nat.le_of_eq rfl) (hb hby at_14) (fun _ _ => ⟨rfl, e5, (by decide : 2 + 0 ≤ _), (by decide : 7 + 0 ≤ _)⟩)
  dsimp only [Pt.U, Pt.locs, Pt.cells, Pt.slots] at X8 l8 y8 z8 st8 hQ8
  subst l8 y8 z8
  obtain ⟨rfl, N8q, K8q, E8q, F8_0, F8_1, F8_2, F8_3⟩ := hQ8
  have N8 := Fr.app N5 N8q
  obtain ⟨h8, e8⟩ : ∃ z, T8.heap = z := ⟨_, rfl⟩
  rw [e8] at K8q E8q F8_0 F8_1 F8_2 F8_3
  have Z14 : n0 ≤ h8.size := Nat.le_trans Z7 K8q.1
  refine own_tr st8 ?_
  show own_G p e below (K_0 Z p0 p1 p2 p3 p4 d0 h0 n0 s) (T8.setTop (mkF m 17 #[.val (.int p0), .val (.int p1), .val (.int p2), .val (.int p3), .val (.int p4), .unset, .unset, .unset, .unset, .unset, .unset, .unset, .unset, .unset, .unset, .unset, .unset, .unset, .unset] [(.ref b1)]))
  refine own_go (fun t k => XS.astore X8.here hx rfl (hb hby at_17) rfl rfl (l' := #[.val (.int p0), .val (.int p1), .val (.int p2), .val (.int p3), .val (.int p4), .val (.ref b1), .unset, .unset, .unset, .unset, .unset, .unset, .unset, .unset, .unset, .unset, .unset, .unset, .unset]) rfl k) ?_
  show own_G p e below (K_0 Z p0 p1 p2 p3 p4 d0 h0 n0 s) (T8.setTop (mkF m 19 #[.val (.int p0), .val (.int p1), .val (.int p2), .val (.int p3), .val (.int p4), .val (.ref b1), .unset, .unset, .unset, .unset, .unset, .unset, .unset, .unset, .unset, .unset, .unset, .unset, .unset] []))
  refine own_go (fun t k => XS.iloadN X8.here hx rfl (hb hby at_19) rfl k) ?_
  show own_G p e below (K_0 Z p0 p1 p2 p3 p4 d0 h0 n0 s) (T8.setTop (mkF m 20 #[.val (.int p0), .val (.int p1), .val (.int p2), .val (.int p3), .val (.int p4), .val (.ref b1), .unset, .unset, .unset, .unset, .unset, .unset, .unset, .unset, .unset, .unset, .unset, .unset, .unset] [(.int p3)]))
  refine own_go (fun t k => XS.i2l X8.here hx rfl (hb hby at_20) rfl k) ?_
  show own_G p e below (K_0 Z p0 p1 p2 p3 p4 d0 h0 n0 s) (T8.setTop (mkF m 21 #[.val (.int p0), .val (.int p1), .val (.int p2), .val (.int p3), .val (.int p4), .val (.ref b1), .unset, .unset, .unset, .unset, .unset, .unset, .unset, .unset, .unset, .unset, .unset, .unset, .unset] [(.long (p3.toInt64))]))
  refine own_go (fun t k => XS.lstore X8.here hx rfl (hb hby at_21) rfl (l' := #[.val (.int p0), .val (.int p1), .val (.int p2), .val (.int p3), .val (.int p4), .val (.ref b1), .val (.long (p3.toInt64)), .second, .unset, .unset, .unset, .unset, .unset, .unset, .unset, .unset, .unset, .unset, .unset]) rfl k) ?_
  show own_G p e below (K_0 Z p0 p1 p2 p3 p4 d0 h0 n0 s) (T8.setTop (mkF m 23 #[.val (.int p0), .val (.int p1), .val (.int p2), .val (.int p3), .val (.int p4), .val (.ref b1), .val (.long (p3.toInt64)), .second, .unset, .unset, .unset, .unset, .unset, .unset, .unset, .unset, .unset, .unset, .unset] []))
  refine own_go (fun t k => XS.iloadN X8.here hx rfl (hb hby at_23) rfl k) ?_
  show own_G p e below (K_0 Z p0 p1 p2 p3 p4 d0 h0 n0 s) (T8.setTop (mkF m 24 #[.val (.int p0), .val (.int p1), .val (.int p2), .val (.int p3), .val (.int p4), .val (.ref b1), .val (.long (p3.toInt64)), .second, .unset, .unset, .unset, .unset, .unset, .unset, .unset, .unset, .unset, .unset, .unset] [(.int p0)]))
  refine own_go (fun t k => XS.i2l X8.here hx rfl (hb hby at_24) rfl k) ?_
  show own_G p e below (K_0 Z p0 p1 p2 p3 p4 d0 h0 n0 s) (T8.setTop (mkF m 25 #[.val (.int p0), .val (.int p1), .val (.int p2), .val (.int p3), .val (.int p4), .val (.ref b1), .val (.long (p3.toInt64)), .second, .unset, .unset, .unset, .unset, .unset, .unset, .unset, .unset, .unset, .unset, .unset] [(.long (p0.toInt64))]))
  refine own_go (fun t k => XS.lstore X8.here hx rfl (hb hby at_25) rfl (l' := #[.val (.int p0), .val (.int p1), .val (.int p2), .val (.int p3), .val (.int p4), .val (.ref b1), .val (.long (p3.toInt64)), .second, .val (.long (p0.toInt64)), .second, .unset, .unset, .unset, .unset, .unset, .unset, .unset, .unset, .unset]) rfl k) ?_
  show own_G p e below (K_0 Z p0 p1 p2 p3 p4 d0 h0 n0 s) (T8.setTop (mkF m 27 #[.val (.int p0), .val (.int p1), .val (.int p2), .val (.int p3), .val (.int p4), .val (.ref b1), .val (.long (p3.toInt64)), .second, .val (.long (p0.toInt64)), .second, .unset, .unset, .unset, .unset, .unset, .unset, .unset, .unset, .unset] []))
  refine own_go (fun t k => XS.iloadN X8.here hx rfl (hb hby at_27) rfl k) ?_
  show own_G p e below (K_0 Z p0 p1 p2 p3 p4 d0 h0 n0 s) (T8.setTop (mkF m 28 #[.val (.int p0), .val (.int p1), .val (.int p2), .val (.int p3), .val (.int p4), .val (.ref b1), .val (.long (p3.toInt64)), .second, .val (.long (p0.toInt64)), .second, .unset, .unset, .unset, .unset, .unset, .unset, .unset, .unset, .unset] [(.int p1)]))
  refine own_go (fun t k => XS.i2l X8.here hx rfl (hb hby at_28) rfl k) ?_
  show own_G p e below (K_0 Z p0 p1 p2 p3 p4 d0 h0 n0 s) (T8.setTop (mkF m 29 #[.val (.int p0), .val (.int p1), .val (.int p2), .val (.int p3), .val (.int p4), .val (.ref b1), .val (.long (p3.toInt64)), .second, .val (.long (p0.toInt64)), .second, .unset, .unset, .unset, .unset, .unset, .unset, .unset, .unset, .unset] [(.long (p1.toInt64))]))
  refine own_go (fun t k => XS.lstore X8.here hx rfl (hb hby at_29) rfl (l' := #[.val (.int p0), .val (.int p1), .val (.int p2), .val (.int p3), .val (.int p4), .val (.ref b1), .val (.long (p3.toInt64)), .second, .val (.long (p0.toInt64)), .second, .val (.long (p1.toInt64)), .second, .unset, .unset, .unset, .unset, .unset, .unset, .unset]) rfl k) ?_
  show own_G p e below (K_0 Z p0 p1 p2 p3 p4 d0 h0 n0 s) (T8.setTop (mkF m 31 #[.val (.int p0), .val (.int p1), .val (.int p2), .val (.int p3), .val (.int p4), .val (.ref b1), .val (.long (p3.toInt64)), .second, .val (.long (p0.toInt64)), .second, .val (.long (p1.toInt64)), .second, .unset, .unset, .unset, .unset, .unset, .unset, .unset] []))
  refine own_go (fun t k => XS.lload X8.here hx rfl (hb hby at_31) rfl k) ?_
  show own_G p e below (K_0 Z p0 p1 p2 p3 p4 d0 h0 n0 s) (T8.setTop (mkF m 33 #[.val (.int p0), .val (.int p1), .val (.int p2), .val (.int p3), .val (.int p4), .val (.ref b1), .val (.long (p3.toInt64)), .second, .val (.long (p0.toInt64)), .second, .val (.long (p1.toInt64)), .second, .unset, .unset, .unset, .unset, .unset, .unset, .unset] [(.long (p3.toInt64))]))
  refine own_go (fun t k => XS.lload X8.here hx rfl (hb hby at_33) rfl k) ?_
  show own_G p e below (K_0 Z p0 p1 p2 p3 p4 d0 h0 n0 s) (T8.setTop (mkF m 35 #[.val (.int p0), .val (.int p1), .val (.int p2), .val (.int p3), .val (.int p4), .val (.ref b1), .val (.long (p3.toInt64)), .second, .val (.long (p0.toInt64)), .second, .val (.long (p1.toInt64)), .second, .unset, .unset, .unset, .unset, .unset, .unset, .unset] [(.long (p0.toInt64)), (.long (p3.toInt64))]))
  refine own_go (fun t k => XS.lsub X8.here hx rfl (hb hby at_35) rfl k) ?_
  show own_G p e below (K_0 Z p0 p1 p2 p3 p4 d0 h0 n0 s) (T8.setTop (mkF m 36 #[.val (.int p0), .val (.int p1), .val (.int p2), .val (.int p3), .val (.int p4), .val (.ref b1), .val (.long (p3.toInt64)), .second, .val (.long (p0.toInt64)), .second, .val (.long (p1.toInt64)), .second, .unset, .unset, .unset, .unset, .unset, .unset, .unset] [(.long ((p3.toInt64) - (p0.toInt64)))]))
  refine own_go (fun t k => XS.lconst X8.here hx rfl (hb hby at_36) k) ?_
  show own_G p e below (K_0 Z p0 p1 p2 p3 p4 d0 h0 n0 s) (T8.setTop (mkF m 37 #[.val (.int p0), .val (.int p1), .val (.int p2), .val (.int p3), .val (.int p4), .val (.ref b1), .val (.long (p3.toInt64)), .second, .val (.long (p0.toInt64)), .second, .val (.long (p1.toInt64)), .second, .unset, .unset, .unset, .unset, .unset, .unset, .unset] [(.long (0 : Int64)), (.long ((p3.toInt64) - (p0.toInt64)))]))
  refine own_go (fun t k => XS.lcmp X8.here hx rfl (hb hby at_37) rfl k) ?_
  show own_G p e below (K_0 Z p0 p1 p2 p3 p4 d0 h0 n0 s) (T8.setTop (mkF m 38 #[.val (.int p0), .val (.int p1), .val (.int p2), .val (.int p3), .val (.int p4), .val (.ref b1), .val (.long (p3.toInt64)), .second, .val (.long (p0.toInt64)), .second, .val (.long (p1.toInt64)), .second, .unset, .unset, .unset, .unset, .unset, .unset, .unset] [(.int (lcmpW ((p3.toInt64) - (p0.toInt64)) (0 : Int64)))]))
  obtain ⟨z15, hz15⟩ : ∃ z : Int32, z = (if ((p3.toInt64) - (p0.toInt64)) < (0 : Int64) then (0 : Int32) else (if ((p1.toInt64) - (p3.toInt64)) < (1 : Int64) then (0 : Int32) else (1 : Int32))) := ⟨_, rfl⟩
  suffices Jz15 : own_G p e below (K_0 Z p0 p1 p2 p3 p4 d0 h0 n0 s) (T8.setTop (mkF m 56 #[.val (.int p0), .val (.int p1), .val (.int p2), .val (.int p3), .val (.int p4), .val (.ref b1), .val (.long (p3.toInt64)), .second, .val (.long (p0.toInt64)), .second, .val (.long (p1.toInt64)), .second, .unset, .unset, .unset, .unset, .unset, .unset, .unset] [(.int z15)])) by
    by_cases hc38_16 : ((p3.toInt64) - (p0.toInt64)) < (0 : Int64)
    · skip
      rw [if_pos hc38_16] at hz15
      refine own_go (fun t k => XS.ifYes X8.here hx rfl (pc0 := 38) (pc' := 55) rfl (hb hby at_38) rfl ((if0 _ _).trans (tlt ((lw_lt _ _).mpr hc38_16)).1) (by decide) (by decide) k) ?_
      show own_G p e below (K_0 Z p0 p1 p2 p3 p4 d0 h0 n0 s) (T8.setTop (mkF m 55 #[.val (.int p0), .val (.int p1), .val (.int p2), .val (.int p3), .val (.int p4), .val (.ref b1), .val (.long (p3.toInt64)), .second, .val (.long (p0.toInt64)), .second, .val (.long (p1.toInt64)), .second, .unset, .unset, .unset, .unset, .unset, .unset, .unset] []))
      refine own_go (fun t k => XS.iconst X8.here hx rfl (hb hby at_55) k) ?_
      show own_G p e below (K_0 Z p0 p1 p2 p3 p4 d0 h0 n0 s) (T8.setTop (mkF m 56 #[.val (.int p0), .val (.int p1), .val (.int p2), .val (.int p3), .val (.int p4), .val (.ref b1), .val (.long (p3.toInt64)), .second, .val (.long (p0.toInt64)), .second, .val (.long (p1.toInt64)), .second, .unset, .unset, .unset, .unset, .unset, .unset, .unset] [(.int (0 : Int32))]))
      subst hz15; exact Jz15
    · skip
      rw [if_neg hc38_16] at hz15
      refine own_go (fun t k => XS.ifNo X8.here hx rfl (hb hby at_38) rfl ((if0 _ _).trans (flt (mt (lw_lt _ _).mp hc38_16)).1) k) ?_
      show own_G p e below (K_0 Z p0 p1 p2 p3 p4 d0 h0 n0 s) (T8.setTop (mkF m 41 #[.val (.int p0), .val (.int p1), .val (.int p2), .val (.int p3), .val (.int p4), .val (.ref b1), .val (.long (p3.toInt64)), .second, .val (.long (p0.toInt64)), .second, .val (.long (p1.toInt64)), .second, .unset, .unset, .unset, .unset, .unset, .unset, .unset] []))
      refine own_go (fun t k => XS.lload X8.here hx rfl (hb hby at_41) rfl k) ?_
      show own_G p e below (K_0 Z p0 p1 p2 p3 p4 d0 h0 n0 s) (T8.setTop (mkF m 43 #[.val (.int p0), .val (.int p1), .val (.int p2), .val (.int p3), .val (.int p4), .val (.ref b1), .val (.long (p3.toInt64)), .second, .val (.long (p0.toInt64)), .second, .val (.long (p1.toInt64)), .second, .unset, .unset, .unset, .unset, .unset, .unset, .unset] [(.long (p1.toInt64))]))
      refine own_go (fun t k => XS.lload X8.here hx rfl (hb hby at_43) rfl k) ?_
      show own_G p e below (K_0 Z p0 p1 p2 p3 p4 d0 h0 n0 s) (T8.setTop (mkF m 45 #[.val (.int p0), .val (.int p1), .val (.int p2), .val (.int p3), .val (.int p4), .val (.ref b1), .val (.long (p3.toInt64)), .second, .val (.long (p0.toInt64)), .second, .val (.long (p1.toInt64)), .second, .unset, .unset, .unset, .unset, .unset, .unset, .unset] [(.long (p3.toInt64)), (.long (p1.toInt64))]))
      refine own_go (fun t k => XS.lsub X8.here hx rfl (hb hby at_45) rfl k) ?_
      show own_G p e below (K_0 Z p0 p1 p2 p3 p4 d0 h0 n0 s) (T8.setTop (mkF m 46 #[.val (.int p0), .val (.int p1), .val (.int p2), .val (.int p3), .val (.int p4), .val (.ref b1), .val (.long (p3.toInt64)), .second, .val (.long (p0.toInt64)), .second, .val (.long (p1.toInt64)), .second, .unset, .unset, .unset, .unset, .unset, .unset, .unset] [(.long ((p1.toInt64) - (p3.toInt64)))]))
      refine own_go (fun t k => XS.lconst X8.here hx rfl (hb hby at_46) k) ?_
      show own_G p e below (K_0 Z p0 p1 p2 p3 p4 d0 h0 n0 s) (T8.setTop (mkF m 47 #[.val (.int p0), .val (.int p1), .val (.int p2), .val (.int p3), .val (.int p4), .val (.ref b1), .val (.long (p3.toInt64)), .second, .val (.long (p0.toInt64)), .second, .val (.long (p1.toInt64)), .second, .unset, .unset, .unset, .unset, .unset, .unset, .unset] [(.long (1 : Int64)), (.long ((p1.toInt64) - (p3.toInt64)))]))
      refine own_go (fun t k => XS.lcmp X8.here hx rfl (hb hby at_47) rfl k) ?_
      show own_G p e below (K_0 Z p0 p1 p2 p3 p4 d0 h0 n0 s) (T8.setTop (mkF m 48 #[.val (.int p0), .val (.int p1), .val (.int p2), .val (.int p3), .val (.int p4), .val (.ref b1), .val (.long (p3.toInt64)), .second, .val (.long (p0.toInt64)), .second, .val (.long (p1.toInt64)), .second, .unset, .unset, .unset, .unset, .unset, .unset, .unset] [(.int (lcmpW ((p1.toInt64) - (p3.toInt64)) (1 : Int64)))]))
      by_cases hc48_17 : ((p1.toInt64) - (p3.toInt64)) < (1 : Int64)
      · skip
        rw [if_pos hc48_17] at hz15
        refine own_go (fun t k => XS.ifYes X8.here hx rfl (pc0 := 48) (pc' := 55) rfl (hb hby at_48) rfl ((if0 _ _).trans (tlt ((lw_lt _ _).mpr hc48_17)).1) (by decide) (by decide) k) ?_
        show own_G p e below (K_0 Z p0 p1 p2 p3 p4 d0 h0 n0 s) (T8.setTop (mkF m 55 #[.val (.int p0), .val (.int p1), .val (.int p2), .val (.int p3), .val (.int p4), .val (.ref b1), .val (.long (p3.toInt64)), .second, .val (.long (p0.toInt64)), .second, .val (.long (p1.toInt64)), .second, .unset, .unset, .unset, .unset, .unset, .unset, .unset] []))
        refine own_go (fun t k => XS.iconst X8.here hx rfl (hb hby at_55) k) ?_
        show own_G p e below (K_0 Z p0 p1 p2 p3 p4 d0 h0 n0 s) (T8.setTop (mkF m 56 #[.val (.int p0), .val (.int p1), .val (.int p2), .val (.int p3), .val (.int p4), .val (.ref b1), .val (.long (p3.toInt64)), .second, .val (.long (p0.toInt64)), .second, .val (.long (p1.toInt64)), .second, .unset, .unset, .unset, .unset, .unset, .unset, .unset] [(.int (0 : Int32))]))
        subst hz15; exact Jz15
      · skip
        rw [if_neg hc48_17] at hz15
        refine own_go (fun t k => XS.ifNo X8.here hx rfl (hb hby at_48) rfl ((if0 _ _).trans (flt (mt (lw_lt _ _).mp hc48_17)).1) k) ?_
        show own_G p e below (K_0 Z p0 p1 p2 p3 p4 d0 h0 n0 s) (T8.setTop (mkF m 51 #[.val (.int p0), .val (.int p1), .val (.int p2), .val (.int p3), .val (.int p4), .val (.ref b1), .val (.long (p3.toInt64)), .second, .val (.long (p0.toInt64)), .second, .val (.long (p1.toInt64)), .second, .unset, .unset, .unset, .unset, .unset, .unset, .unset] []))
        refine own_go (fun t k => XS.iconst X8.here hx rfl (hb hby at_51) k) ?_
        show own_G p e below (K_0 Z p0 p1 p2 p3 p4 d0 h0 n0 s) (T8.setTop (mkF m 52 #[.val (.int p0), .val (.int p1), .val (.int p2), .val (.int p3), .val (.int p4), .val (.ref b1), .val (.long (p3.toInt64)), .second, .val (.long (p0.toInt64)), .second, .val (.long (p1.toInt64)), .second, .unset, .unset, .unset, .unset, .unset, .unset, .unset] [(.int (1 : Int32))]))
        refine own_go (fun t k => XS.goto X8.here hx rfl (pc0 := 52) (pc' := 56) rfl (hb hby at_52) (by decide) (by decide) k) ?_
        show own_G p e below (K_0 Z p0 p1 p2 p3 p4 d0 h0 n0 s) (T8.setTop (mkF m 56 #[.val (.int p0), .val (.int p1), .val (.int p2), .val (.int p3), .val (.int p4), .val (.ref b1), .val (.long (p3.toInt64)), .second, .val (.long (p0.toInt64)), .second, .val (.long (p1.toInt64)), .second, .unset, .unset, .unset, .unset, .unset, .unset, .unset] [(.int (1 : Int32))]))
        subst hz15; exact Jz15
  show own_G p e below (K_0 Z p0 p1 p2 p3 p4 d0 h0 n0 s) (T8.setTop (mkF m 56 #[.val (.int p0), .val (.int p1), .val (.int p2), .val (.int p3), .val (.int p4), .val (.ref b1), .val (.long (p3.toInt64)), .second, .val (.long (p0.toInt64)), .second, .val (.long (p1.toInt64)), .second, .unset, .unset, .unset, .unset, .unset, .unset, .unset] [(.int z15)]))
  refine own_go (fun t k => XS.istore X8.here hx rfl (hb hby at_56) rfl (l' := #[.val (.int p0), .val (.int p1), .val (.int p2), .val (.int p3), .val (.int p4), .val (.ref b1), .val (.long (p3.toInt64)), .second, .val (.long (p0.toInt64)), .second, .val (.long (p1.toInt64)), .second, .val (.int z15), .unset, .unset, .unset, .unset, .unset, .unset]) rfl k) ?_
  show own_G p e below (K_0 Z p0 p1 p2 p3 p4 d0 h0 n0 s) (T8.setTop (mkF m 58 #[.val (.int p0), .val (.int p1), .val (.int p2), .val (.int p3), .val (.int p4), .val (.ref b1), .val (.long (p3.toInt64)), .second, .val (.long (p0.toInt64)), .second, .val (.long (p1.toInt64)), .second, .val (.int z15), .unset, .unset, .unset, .unset, .unset, .unset] []))
  refine own_go (fun t k => XS.aload X8.here hx rfl (hb hby at_58) rfl rfl k) ?_
  show own_G p e below (K_0 Z p0 p1 p2 p3 p4 d0 h0 n0 s) (T8.setTop (mkF m 60 #[.val (.int p0), .val (.int p1), .val (.int p2), .val (.int p3), .val (.int p4), .val (.ref b1), .val (.long (p3.toInt64)), .second, .val (.long (p0.toInt64)), .second, .val (.long (p1.toInt64)), .second, .val (.int z15), .unset, .unset, .unset, .unset, .unset, .unset] [(.ref b1)]))
  refine own_go (fun t k => XS.iloadN X8.here hx rfl (hb hby at_60) rfl k) ?_
  show own_G p e below (K_0 Z p0 p1 p2 p3 p4 d0 h0 n0 s) (T8.setTop (mkF m 61 #[.val (.int p0), .val (.int p1), .val (.int p2), .val (.int p3), .val (.int p4), .val (.ref b1), .val (.long (p3.toInt64)), .second, .val (.long (p0.toInt64)), .second, .val (.long (p1.toInt64)), .second, .val (.int z15), .unset, .unset, .unset, .unset, .unset, .unset] [(.int p3), (.ref b1)]))
  obtain ⟨cq18, kq18, q18a, q18b, q18c⟩ := isOf hZ e8 E8q
  obtain ⟨_, _, ⟨T18, L18, k18, n18⟩, -, X18, ⟨Lc18, hQ18, l18, y18, z18⟩, st18⟩ := X8.virtualBack hx (y := (⟨"com/example/routines_in_transactions/routinesintransactions/engine/BoundRoutine$Guard", "guards", "(I)Z"⟩ : MethodName)) (z := (⟨"com/example/routines_in_transactions/routinesintransactions/engine/BoundRoutine$Guard", "guards", "(I)Z"⟩ : MethodName)) hown (mvT hZ (hw _ (List.mem_of_getElem? (i := 46) rfl))) (mvT hZ (hw _ (List.mem_of_getElem? (i := 47) rfl))) (notFace_of_selects (args := #[]) (mvT hZ (hw _ (List.mem_of_getElem? (i := 49) rfl)))) (mvT hZ (hw _ (List.mem_of_getElem? (i := 49) rfl))) (mvT hZ (hw _ (List.mem_of_getElem? (i := 48) rfl))) (by decide) (backOf (W := 0) (rm_gd l Z a0 hw [] b1 p3 p0 p1 h8 n0 Z14 F8_0 F8_1) hZ (hw _ (List.mem_of_getElem? (i := 50) rfl)) (hw _ (List.mem_of_getElem? (i := 2) rfl)) (by decide) (by decide)) q18a q18c (g := (mkF m 61 #[.val (.int p0), .val (.int p1), .val (.int p2), .val (.int p3), .val (.int p4), .val (.ref b1), .val (.long (p3.toInt64)), .second, .val (.long (p0.toInt64)), .second, .val (.long (p1.toInt64)), .second, .val (.int z15), .unset, .unset, .unset, .unset, .unset, .unset] [(.int p3), (.ref b1)])) rfl (by rw [hml]; rfl) (Steps.refl _) (argsL := [(.int p3)]) (rest := []) (lenOf own_pd2 rfl) rfl (by show 2 * 0 + _ ≤ _; exact Nat.le_of_eq rfl) (hb hby at_61) (fun _ _ => ⟨rfl, e8, (by decide : 2 + 0 ≤ _), (by decide : 7 + 0 ≤ _)⟩)
  dsimp only [Pt.U, Pt.locs, Pt.cells, Pt.slots] at X18 l18 y18 z18 st18 hQ18
  subst l18 y18 z18
  obtain ⟨rfl, N18q, e18⟩ := hQ18
  have N18 := Fr.app N8 N18q
  refine own_tr st18 ?_
  show own_G p e below (K_0 Z p0 p1 p2 p3 p4 d0 h0 n0 s) (T18.setTop (mkF m 64 #[.val (.int p0), .val (.int p1), .val (.int p2), .val (.int p3), .val (.int p4), .val (.ref b1), .val (.long (p3.toInt64)), .second, .val (.long (p0.toInt64)), .second, .val (.long (p1.toInt64)), .second, .val (.int z15), .unset, .unset, .unset, .unset, .unset, .unset] [(.int (own_gd p0 p1 p3))]))
  refine own_go (fun t k => XS.istore X18.here hx rfl (hb hby at_64) rfl (l' := #[.val (.int p0), .val (.int p1), .val (.int p2), .val (.int p3), .val (.int p4), .val (.ref b1), .val (.long (p3.toInt64)), .second, .val (.long (p0.toInt64)), .second, .val (.long (p1.toInt64)), .second, .val (.int z15), .val (.int (own_gd p0 p1 p3)), .unset, .unset, .unset, .unset, .unset]) rfl k) ?_
  show own_G p e below (K_0 Z p0 p1 p2 p3 p4 d0 h0 n0 s) (T18.setTop (mkF m 66 #[.val (.int p0), .val (.int p1), .val (.int p2), .val (.int p3), .val (.int p4), .val (.ref b1), .val (.long (p3.toInt64)), .second, .val (.long (p0.toInt64)), .second, .val (.long (p1.toInt64)), .second, .val (.int z15), .val (.int (own_gd p0 p1 p3)), .unset, .unset, .unset, .unset, .unset] []))
  refine own_go (fun t k => XS.iload X18.here hx rfl (hb hby at_66) rfl k) ?_
  show own_G p e below (K_0 Z p0 p1 p2 p3 p4 d0 h0 n0 s) (T18.setTop (mkF m 68 #[.val (.int p0), .val (.int p1), .val (.int p2), .val (.int p3), .val (.int p4), .val (.ref b1), .val (.long (p3.toInt64)), .second, .val (.long (p0.toInt64)), .second, .val (.long (p1.toInt64)), .second, .val (.int z15), .val (.int (own_gd p0 p1 p3)), .unset, .unset, .unset, .unset, .unset] [(.int (own_gd p0 p1 p3))]))
  refine own_go (fun t k => XS.iload X18.here hx rfl (hb hby at_68) rfl k) ?_
  show own_G p e below (K_0 Z p0 p1 p2 p3 p4 d0 h0 n0 s) (T18.setTop (mkF m 70 #[.val (.int p0), .val (.int p1), .val (.int p2), .val (.int p3), .val (.int p4), .val (.ref b1), .val (.long (p3.toInt64)), .second, .val (.long (p0.toInt64)), .second, .val (.long (p1.toInt64)), .second, .val (.int z15), .val (.int (own_gd p0 p1 p3)), .unset, .unset, .unset, .unset, .unset] [(.int z15), (.int (own_gd p0 p1 p3))]))
  refine own_go (fun t k => XS.icmpNo X18.here hx rfl (hb hby at_70) rfl (teq (own_l1 hz15)).2 k) ?_
  show own_G p e below (K_0 Z p0 p1 p2 p3 p4 d0 h0 n0 s) (T18.setTop (mkF m 73 #[.val (.int p0), .val (.int p1), .val (.int p2), .val (.int p3), .val (.int p4), .val (.ref b1), .val (.long (p3.toInt64)), .second, .val (.long (p0.toInt64)), .second, .val (.long (p1.toInt64)), .second, .val (.int z15), .val (.int (own_gd p0 p1 p3)), .unset, .unset, .unset, .unset, .unset] []))
  refine own_go (fun t k => XS.iconst X18.here hx rfl (hb hby at_73) k) ?_
  show own_G p e below (K_0 Z p0 p1 p2 p3 p4 d0 h0 n0 s) (T18.setTop (mkF m 74 #[.val (.int p0), .val (.int p1), .val (.int p2), .val (.int p3), .val (.int p4), .val (.ref b1), .val (.long (p3.toInt64)), .second, .val (.long (p0.toInt64)), .second, .val (.long (p1.toInt64)), .second, .val (.int z15), .val (.int (own_gd p0 p1 p3)), .unset, .unset, .unset, .unset, .unset] [(.int (1 : Int32))]))
  refine own_go (fun t k => XS.goto X18.here hx rfl (pc0 := 74) (pc' := 78) rfl (hb hby at_74) (by decide) (by decide) k) ?_
  show own_G p e below (K_0 Z p0 p1 p2 p3 p4 d0 h0 n0 s) (T18.setTop (mkF m 78 #[.val (.int p0), .val (.int p1), .val (.int p2), .val (.int p3), .val (.int p4), .val (.ref b1), .val (.long (p3.toInt64)), .second, .val (.long (p0.toInt64)), .second, .val (.long (p1.toInt64)), .second, .val (.int z15), .val (.int (own_gd p0 p1 p3)), .unset, .unset, .unset, .unset, .unset] [(.int (1 : Int32))]))
  refine own_go (fun t k => XS.istore X18.here hx rfl (hb hby at_78) rfl (l' := #[.val (.int p0), .val (.int p1), .val (.int p2), .val (.int p3), .val (.int p4), .val (.ref b1), .val (.long (p3.toInt64)), .second, .val (.long (p0.toInt64)), .second, .val (.long (p1.toInt64)), .second, .val (.int z15), .val (.int (own_gd p0 p1 p3)), .val (.int (1 : Int32)), .unset, .unset, .unset, .unset]) rfl k) ?_
  show own_G p e below (K_0 Z p0 p1 p2 p3 p4 d0 h0 n0 s) (T18.setTop (mkF m 80 #[.val (.int p0), .val (.int p1), .val (.int p2), .val (.int p3), .val (.int p4), .val (.ref b1), .val (.long (p3.toInt64)), .second, .val (.long (p0.toInt64)), .second, .val (.long (p1.toInt64)), .second, .val (.int z15), .val (.int (own_gd p0 p1 p3)), .val (.int (1 : Int32)), .unset, .unset, .unset, .unset] []))
  refine own_go (fun t k => XS.iload X18.here hx rfl (hb hby at_80) rfl k) ?_
  show own_G p e below (K_0 Z p0 p1 p2 p3 p4 d0 h0 n0 s) (T18.setTop (mkF m 82 #[.val (.int p0), .val (.int p1), .val (.int p2), .val (.int p3), .val (.int p4), .val (.ref b1), .val (.long (p3.toInt64)), .second, .val (.long (p0.toInt64)), .second, .val (.long (p1.toInt64)), .second, .val (.int z15), .val (.int (own_gd p0 p1 p3)), .val (.int (1 : Int32)), .unset, .unset, .unset, .unset] [(.int (1 : Int32))]))
  refine own_go (fun t k => XS.ifNo X18.here hx rfl (hb hby at_82) rfl ((if0 _ _).trans (by decide)) k) ?_
  show own_G p e below (K_0 Z p0 p1 p2 p3 p4 d0 h0 n0 s) (T18.setTop (mkF m 85 #[.val (.int p0), .val (.int p1), .val (.int p2), .val (.int p3), .val (.int p4), .val (.ref b1), .val (.long (p3.toInt64)), .second, .val (.long (p0.toInt64)), .second, .val (.long (p1.toInt64)), .second, .val (.int z15), .val (.int (own_gd p0 p1 p3)), .val (.int (1 : Int32)), .unset, .unset, .unset, .unset] []))
  refine own_go (fun t k => XS.aload X18.here hx rfl (hb hby at_85) rfl rfl k) ?_
  show own_G p e below (K_0 Z p0 p1 p2 p3 p4 d0 h0 n0 s) (T18.setTop (mkF m 87 #[.val (.int p0), .val (.int p1), .val (.int p2), .val (.int p3), .val (.int p4), .val (.ref b1), .val (.long (p3.toInt64)), .second, .val (.long (p0.toInt64)), .second, .val (.long (p1.toInt64)), .second, .val (.int z15), .val (.int (own_gd p0 p1 p3)), .val (.int (1 : Int32)), .unset, .unset, .unset, .unset] [(.ref b1)]))
  refine own_go (fun t k => XS.iloadN X18.here hx rfl (hb hby at_87) rfl k) ?_
  show own_G p e below (K_0 Z p0 p1 p2 p3 p4 d0 h0 n0 s) (T18.setTop (mkF m 88 #[.val (.int p0), .val (.int p1), .val (.int p2), .val (.int p3), .val (.int p4), .val (.ref b1), .val (.long (p3.toInt64)), .second, .val (.long (p0.toInt64)), .second, .val (.long (p1.toInt64)), .second, .val (.int z15), .val (.int (own_gd p0 p1 p3)), .val (.int (1 : Int32)), .unset, .unset, .unset, .unset] [(.int p1), (.ref b1)]))
  obtain ⟨cq19, kq19, q19a, q19b, q19c⟩ := isOf hZ e18 E8q
  obtain ⟨_, _, ⟨T19, L19, k19, n19⟩, -, X19, ⟨Lc19, hQ19, l19, y19, z19⟩, st19⟩ := X18.virtualBack hx (y := (⟨"com/example/routines_in_transactions/routinesintransactions/engine/BoundRoutine$Guard", "guards", "(I)Z"⟩ : MethodName)) (z := (⟨"com/example/routines_in_transactions/routinesintransactions/engine/BoundRoutine$Guard", "guards", "(I)Z"⟩ : MethodName)) hown (mvT hZ (hw _ (List.mem_of_getElem? (i := 46) rfl))) (mvT hZ (hw _ (List.mem_of_getElem? (i := 47) rfl))) (notFace_of_selects (args := #[]) (mvT hZ (hw _ (List.mem_of_getElem? (i := 49) rfl)))) (mvT hZ (hw _ (List.mem_of_getElem? (i := 49) rfl))) (mvT hZ (hw _ (List.mem_of_getElem? (i := 48) rfl))) (by decide) (backOf (W := 0) (rm_gd l Z a0 hw [] b1 p1 p0 p1 h8 n0 Z14 F8_0 F8_1) hZ (hw _ (List.mem_of_getElem? (i := 50) rfl)) (hw _ (List.mem_of_getElem? (i := 2) rfl)) (by decide) (by decide)) q19a q19c (g := (mkF m 88 #[.val (.int p0), .val (.int p1), .val (.int p2), .val (.int p3), .val (.int p4), .val (.ref b1), .val (.long (p3.toInt64)), .second, .val (.long (p0.toInt64)), .second, .val (.long (p1.toInt64)), .second, .val (.int z15), .val (.int (own_gd p0 p1 p3)), .val (.int (1 : Int32)), .unset, .unset, .unset, .unset] [(.int p1), (.ref b1)])) rfl (by rw [hml]; rfl) (Steps.refl _) (argsL := [(.int p1)]) (rest := []) (lenOf own_pd2 rfl) rfl (by show 2 * 0 + _ ≤ _; exact Nat.le_of_eq rfl) (hb hby at_88) (fun _ _ => ⟨rfl, e18, (by decide : 2 + 0 ≤ _), (by decide : 7 + 0 ≤ _)⟩)
  dsimp only [Pt.U, Pt.locs, Pt.cells, Pt.slots] at X19 l19 y19 z19 st19 hQ19
  subst l19 y19 z19
  obtain ⟨rfl, N19q, e19⟩ := hQ19
  have N19 := Fr.app N18 N19q
  refine own_tr st19 ?_
  show own_G p e below (K_0 Z p0 p1 p2 p3 p4 d0 h0 n0 s) (T19.setTop (mkF m 91 #[.val (.int p0), .val (.int p1), .val (.int p2), .val (.int p3), .val (.int p4), .val (.ref b1), .val (.long (p3.toInt64)), .second, .val (.long (p0.toInt64)), .second, .val (.long (p1.toInt64)), .second, .val (.int z15), .val (.int (own_gd p0 p1 p3)), .val (.int (1 : Int32)), .unset, .unset, .unset, .unset] [(.int (own_gd p0 p1 p1))]))
  refine own_go (fun t k => XS.ifNo X19.here hx rfl (hb hby at_91) rfl ((if0 _ _).trans (teq (own_l2 _ _)).2) k) ?_
  show own_G p e below (K_0 Z p0 p1 p2 p3 p4 d0 h0 n0 s) (T19.setTop (mkF m 94 #[.val (.int p0), .val (.int p1), .val (.int p2), .val (.int p3), .val (.int p4), .val (.ref b1), .val (.long (p3.toInt64)), .second, .val (.long (p0.toInt64)), .second, .val (.long (p1.toInt64)), .second, .val (.int z15), .val (.int (own_gd p0 p1 p3)), .val (.int (1 : Int32)), .unset, .unset, .unset, .unset] []))
  refine own_go (fun t k => XS.iconst X19.here hx rfl (hb hby at_94) k) ?_
  show own_G p e below (K_0 Z p0 p1 p2 p3 p4 d0 h0 n0 s) (T19.setTop (mkF m 95 #[.val (.int p0), .val (.int p1), .val (.int p2), .val (.int p3), .val (.int p4), .val (.ref b1), .val (.long (p3.toInt64)), .second, .val (.long (p0.toInt64)), .second, .val (.long (p1.toInt64)), .second, .val (.int z15), .val (.int (own_gd p0 p1 p3)), .val (.int (1 : Int32)), .unset, .unset, .unset, .unset] [(.int (1 : Int32))]))
  refine own_go (fun t k => XS.goto X19.here hx rfl (pc0 := 95) (pc' := 99) rfl (hb hby at_95) (by decide) (by decide) k) ?_
  show own_G p e below (K_0 Z p0 p1 p2 p3 p4 d0 h0 n0 s) (T19.setTop (mkF m 99 #[.val (.int p0), .val (.int p1), .val (.int p2), .val (.int p3), .val (.int p4), .val (.ref b1), .val (.long (p3.toInt64)), .second, .val (.long (p0.toInt64)), .second, .val (.long (p1.toInt64)), .second, .val (.int z15), .val (.int (own_gd p0 p1 p3)), .val (.int (1 : Int32)), .unset, .unset, .unset, .unset] [(.int (1 : Int32))]))
  refine own_go (fun t k => XS.istore X19.here hx rfl (hb hby at_99) rfl (l' := #[.val (.int p0), .val (.int p1), .val (.int p2), .val (.int p3), .val (.int p4), .val (.ref b1), .val (.long (p3.toInt64)), .second, .val (.long (p0.toInt64)), .second, .val (.long (p1.toInt64)), .second, .val (.int z15), .val (.int (own_gd p0 p1 p3)), .val (.int (1 : Int32)), .unset, .unset, .unset, .unset]) rfl k) ?_
  show own_G p e below (K_0 Z p0 p1 p2 p3 p4 d0 h0 n0 s) (T19.setTop (mkF m 101 #[.val (.int p0), .val (.int p1), .val (.int p2), .val (.int p3), .val (.int p4), .val (.ref b1), .val (.long (p3.toInt64)), .second, .val (.long (p0.toInt64)), .second, .val (.long (p1.toInt64)), .second, .val (.int z15), .val (.int (own_gd p0 p1 p3)), .val (.int (1 : Int32)), .unset, .unset, .unset, .unset] []))
  refine own_go (fun t k => XS.iload X19.here hx rfl (hb hby at_101) rfl k) ?_
  show own_G p e below (K_0 Z p0 p1 p2 p3 p4 d0 h0 n0 s) (T19.setTop (mkF m 103 #[.val (.int p0), .val (.int p1), .val (.int p2), .val (.int p3), .val (.int p4), .val (.ref b1), .val (.long (p3.toInt64)), .second, .val (.long (p0.toInt64)), .second, .val (.long (p1.toInt64)), .second, .val (.int z15), .val (.int (own_gd p0 p1 p3)), .val (.int (1 : Int32)), .unset, .unset, .unset, .unset] [(.int (1 : Int32))]))
  refine own_go (fun t k => XS.ifNo X19.here hx rfl (hb hby at_103) rfl ((if0 _ _).trans (by decide)) k) ?_
  show own_G p e below (K_0 Z p0 p1 p2 p3 p4 d0 h0 n0 s) (T19.setTop (mkF m 106 #[.val (.int p0), .val (.int p1), .val (.int p2), .val (.int p3), .val (.int p4), .val (.ref b1), .val (.long (p3.toInt64)), .second, .val (.long (p0.toInt64)), .second, .val (.long (p1.toInt64)), .second, .val (.int z15), .val (.int (own_gd p0 p1 p3)), .val (.int (1 : Int32)), .unset, .unset, .unset, .unset] []))
  refine own_go (fun t k => XS.aload X19.here hx rfl (hb hby at_106) rfl rfl k) ?_
  show own_G p e below (K_0 Z p0 p1 p2 p3 p4 d0 h0 n0 s) (T19.setTop (mkF m 108 #[.val (.int p0), .val (.int p1), .val (.int p2), .val (.int p3), .val (.int p4), .val (.ref b1), .val (.long (p3.toInt64)), .second, .val (.long (p0.toInt64)), .second, .val (.long (p1.toInt64)), .second, .val (.int z15), .val (.int (own_gd p0 p1 p3)), .val (.int (1 : Int32)), .unset, .unset, .unset, .unset] [(.ref b1)]))
  refine own_go (fun t k => XS.iloadN X19.here hx rfl (hb hby at_108) rfl k) ?_
  show own_G p e below (K_0 Z p0 p1 p2 p3 p4 d0 h0 n0 s) (T19.setTop (mkF m 109 #[.val (.int p0), .val (.int p1), .val (.int p2), .val (.int p3), .val (.int p4), .val (.ref b1), .val (.long (p3.toInt64)), .second, .val (.long (p0.toInt64)), .second, .val (.long (p1.toInt64)), .second, .val (.int z15), .val (.int (own_gd p0 p1 p3)), .val (.int (1 : Int32)), .unset, .unset, .unset, .unset] [(.int p0), (.ref b1)]))
  obtain ⟨cq20, kq20, q20a, q20b, q20c⟩ := isOf hZ e19 E8q
  obtain ⟨_, _, ⟨T20, L20, k20, n20⟩, -, X20, ⟨Lc20, hQ20, l20, y20, z20⟩, st20⟩ := X19.virtualBack hx (y := (⟨"com/example/routines_in_transactions/routinesintransactions/engine/BoundRoutine$Guard", "guards", "(I)Z"⟩ : MethodName)) (z := (⟨"com/example/routines_in_transactions/routinesintransactions/engine/BoundRoutine$Guard", "guards", "(I)Z"⟩ : MethodName)) hown (mvT hZ (hw _ (List.mem_of_getElem? (i := 46) rfl))) (mvT hZ (hw _ (List.mem_of_getElem? (i := 47) rfl))) (notFace_of_selects (args := #[]) (mvT hZ (hw _ (List.mem_of_getElem? (i := 49) rfl)))) (mvT hZ (hw _ (List.mem_of_getElem? (i := 49) rfl))) (mvT hZ (hw _ (List.mem_of_getElem? (i := 48) rfl))) (by decide) (backOf (W := 0) (rm_gd l Z a0 hw [] b1 p0 p0 p1 h8 n0 Z14 F8_0 F8_1) hZ (hw _ (List.mem_of_getElem? (i := 50) rfl)) (hw _ (List.mem_of_getElem? (i := 2) rfl)) (by decide) (by decide)) q20a q20c (g := (mkF m 109 #[.val (.int p0), .val (.int p1), .val (.int p2), .val (.int p3), .val (.int p4), .val (.ref b1), .val (.long (p3.toInt64)), .second, .val (.long (p0.toInt64)), .second, .val (.long (p1.toInt64)), .second, .val (.int z15), .val (.int (own_gd p0 p1 p3)), .val (.int (1 : Int32)), .unset, .unset, .unset, .unset] [(.int p0), (.ref b1)])) rfl (by rw [hml]; rfl) (Steps.refl _) (argsL := [(.int p0)]) (rest := []) (lenOf own_pd2 rfl) rfl (by show 2 * 0 + _ ≤ _; exact Nat.le_of_eq rfl) (hb hby at_109) (fun _ _ => ⟨rfl, e19, (by decide : 2 + 0 ≤ _), (by decide : 7 + 0 ≤ _)⟩)
  dsimp only [Pt.U, Pt.locs, Pt.cells, Pt.slots] at X20 l20 y20 z20 st20 hQ20
  subst l20 y20 z20
  obtain ⟨rfl, N20q, e20⟩ := hQ20
  have N20 := Fr.app N19 N20q
  refine own_tr st20 ?_
  show own_G p e below (K_0 Z p0 p1 p2 p3 p4 d0 h0 n0 s) (T20.setTop (mkF m 112 #[.val (.int p0), .val (.int p1), .val (.int p2), .val (.int p3), .val (.int p4), .val (.ref b1), .val (.long (p3.toInt64)), .second, .val (.long (p0.toInt64)), .second, .val (.long (p1.toInt64)), .second, .val (.int z15), .val (.int (own_gd p0 p1 p3)), .val (.int (1 : Int32)), .unset, .unset, .unset, .unset] [(.int (own_gd p0 p1 p0))]))
  refine own_go (fun t k => XS.lload X20.here hx rfl (hb hby at_112) rfl k) ?_
  show own_G p e below (K_0 Z p0 p1 p2 p3 p4 d0 h0 n0 s) (T20.setTop (mkF m 114 #[.val (.int p0), .val (.int p1), .val (.int p2), .val (.int p3), .val (.int p4), .val (.ref b1), .val (.long (p3.toInt64)), .second, .val (.long (p0.toInt64)), .second, .val (.long (p1.toInt64)), .second, .val (.int z15), .val (.int (own_gd p0 p1 p3)), .val (.int (1 : Int32)), .unset, .unset, .unset, .unset] [(.long (p0.toInt64)), (.int (own_gd p0 p1 p0))]))
  refine own_go (fun t k => XS.lload X20.here hx rfl (hb hby at_114) rfl k) ?_
  show own_G p e below (K_0 Z p0 p1 p2 p3 p4 d0 h0 n0 s) (T20.setTop (mkF m 116 #[.val (.int p0), .val (.int p1), .val (.int p2), .val (.int p3), .val (.int p4), .val (.ref b1), .val (.long (p3.toInt64)), .second, .val (.long (p0.toInt64)), .second, .val (.long (p1.toInt64)), .second, .val (.int z15), .val (.int (own_gd p0 p1 p3)), .val (.int (1 : Int32)), .unset, .unset, .unset, .unset] [(.long (p1.toInt64)), (.long (p0.toInt64)), (.int (own_gd p0 p1 p0))]))
  refine own_go (fun t k => XS.lcmp X20.here hx rfl (hb hby at_116) rfl k) ?_
  show own_G p e below (K_0 Z p0 p1 p2 p3 p4 d0 h0 n0 s) (T20.setTop (mkF m 117 #[.val (.int p0), .val (.int p1), .val (.int p2), .val (.int p3), .val (.int p4), .val (.ref b1), .val (.long (p3.toInt64)), .second, .val (.long (p0.toInt64)), .second, .val (.long (p1.toInt64)), .second, .val (.int z15), .val (.int (own_gd p0 p1 p3)), .val (.int (1 : Int32)), .unset, .unset, .unset, .unset] [(.int (lcmpW (p0.toInt64) (p1.toInt64))), (.int (own_gd p0 p1 p0))]))
  obtain ⟨z21, hz21⟩ : ∃ z : Int32, z = (if (p0.toInt64) < (p1.toInt64) then (1 : Int32) else (0 : Int32)) := ⟨_, rfl⟩
  suffices Jz21 : own_G p e below (K_0 Z p0 p1 p2 p3 p4 d0 h0 n0 s) (T20.setTop (mkF m 125 #[.val (.int p0), .val (.int p1), .val (.int p2), .val (.int p3), .val (.int p4), .val (.ref b1), .val (.long (p3.toInt64)), .second, .val (.long (p0.toInt64)), .second, .val (.long (p1.toInt64)), .second, .val (.int z15), .val (.int (own_gd p0 p1 p3)), .val (.int (1 : Int32)), .unset, .unset, .unset, .unset] [(.int z21), (.int (own_gd p0 p1 p0))])) by
    by_cases hc117_22 : (p0.toInt64) < (p1.toInt64)
    · skip
      rw [if_pos hc117_22] at hz21
      refine own_go (fun t k => XS.ifNo X20.here hx rfl (hb hby at_117) rfl ((if0 _ _).trans (tlt ((lw_lt _ _).mpr hc117_22)).2.1) k) ?_
      show own_G p e below (K_0 Z p0 p1 p2 p3 p4 d0 h0 n0 s) (T20.setTop (mkF m 120 #[.val (.int p0), .val (.int p1), .val (.int p2), .val (.int p3), .val (.int p4), .val (.ref b1), .val (.long (p3.toInt64)), .second, .val (.long (p0.toInt64)), .second, .val (.long (p1.toInt64)), .second, .val (.int z15), .val (.int (own_gd p0 p1 p3)), .val (.int (1 : Int32)), .unset, .unset, .unset, .unset] [(.int (own_gd p0 p1 p0))]))
      refine own_go (fun t k => XS.iconst X20.here hx rfl (hb hby at_120) k) ?_
      show own_G p e below (K_0 Z p0 p1 p2 p3 p4 d0 h0 n0 s) (T20.setTop (mkF m 121 #[.val (.int p0), .val (.int p1), .val (.int p2), .val (.int p3), .val (.int p4), .val (.ref b1), .val (.long (p3.toInt64)), .second, .val (.long (p0.toInt64)), .second, .val (.long (p1.toInt64)), .second, .val (.int z15), .val (.int (own_gd p0 p1 p3)), .val (.int (1 : Int32)), .unset, .unset, .unset, .unset] [(.int (1 : Int32)), (.int (own_gd p0 p1 p0))]))
      refine own_go (fun t k => XS.goto X20.here hx rfl (pc0 := 121) (pc' := 125) rfl (hb hby at_121) (by decide) (by decide) k) ?_
      show own_G p e below (K_0 Z p0 p1 p2 p3 p4 d0 h0 n0 s) (T20.setTop (mkF m 125 #[.val (.int p0), .val (.int p1), .val (.int p2), .val (.int p3), .val (.int p4), .val (.ref b1), .val (.long (p3.toInt64)), .second, .val (.long (p0.toInt64)), .second, .val (.long (p1.toInt64)), .second, .val (.int z15), .val (.int (own_gd p0 p1 p3)), .val (.int (1 : Int32)), .unset, .unset, .unset, .unset] [(.int (1 : Int32)), (.int (own_gd p0 p1 p0))]))
      subst hz21; exact Jz21
    · skip
      rw [if_neg hc117_22] at hz21
      refine own_go (fun t k => XS.ifYes X20.here hx rfl (pc0 := 117) (pc' := 124) rfl (hb hby at_117) rfl ((if0 _ _).trans (flt (mt (lw_lt _ _).mp hc117_22)).2.1) (by decide) (by decide) k) ?_
      show own_G p e below (K_0 Z p0 p1 p2 p3 p4 d0 h0 n0 s) (T20.setTop (mkF m 124 #[.val (.int p0), .val (.int p1), .val (.int p2), .val (.int p3), .val (.int p4), .val (.ref b1), .val (.long (p3.toInt64)), .second, .val (.long (p0.toInt64)), .second, .val (.long (p1.toInt64)), .second, .val (.int z15), .val (.int (own_gd p0 p1 p3)), .val (.int (1 : Int32)), .unset, .unset, .unset, .unset] [(.int (own_gd p0 p1 p0))]))
      refine own_go (fun t k => XS.iconst X20.here hx rfl (hb hby at_124) k) ?_
      show own_G p e below (K_0 Z p0 p1 p2 p3 p4 d0 h0 n0 s) (T20.setTop (mkF m 125 #[.val (.int p0), .val (.int p1), .val (.int p2), .val (.int p3), .val (.int p4), .val (.ref b1), .val (.long (p3.toInt64)), .second, .val (.long (p0.toInt64)), .second, .val (.long (p1.toInt64)), .second, .val (.int z15), .val (.int (own_gd p0 p1 p3)), .val (.int (1 : Int32)), .unset, .unset, .unset, .unset] [(.int (0 : Int32)), (.int (own_gd p0 p1 p0))]))
      subst hz21; exact Jz21
  show own_G p e below (K_0 Z p0 p1 p2 p3 p4 d0 h0 n0 s) (T20.setTop (mkF m 125 #[.val (.int p0), .val (.int p1), .val (.int p2), .val (.int p3), .val (.int p4), .val (.ref b1), .val (.long (p3.toInt64)), .second, .val (.long (p0.toInt64)), .second, .val (.long (p1.toInt64)), .second, .val (.int z15), .val (.int (own_gd p0 p1 p3)), .val (.int (1 : Int32)), .unset, .unset, .unset, .unset] [(.int z21), (.int (own_gd p0 p1 p0))]))
  refine own_go (fun t k => XS.icmpNo X20.here hx rfl (hb hby at_125) rfl (teq (own_l3 hz21)).2 k) ?_
  show own_G p e below (K_0 Z p0 p1 p2 p3 p4 d0 h0 n0 s) (T20.setTop (mkF m 128 #[.val (.int p0), .val (.int p1), .val (.int p2), .val (.int p3), .val (.int p4), .val (.ref b1), .val (.long (p3.toInt64)), .second, .val (.long (p0.toInt64)), .second, .val (.long (p1.toInt64)), .second, .val (.int z15), .val (.int (own_gd p0 p1 p3)), .val (.int (1 : Int32)), .unset, .unset, .unset, .unset] []))
  refine own_go (fun t k => XS.iconst X20.here hx rfl (hb hby at_128) k) ?_
  show own_G p e below (K_0 Z p0 p1 p2 p3 p4 d0 h0 n0 s) (T20.setTop (mkF m 129 #[.val (.int p0), .val (.int p1), .val (.int p2), .val (.int p3), .val (.int p4), .val (.ref b1), .val (.long (p3.toInt64)), .second, .val (.long (p0.toInt64)), .second, .val (.long (p1.toInt64)), .second, .val (.int z15), .val (.int (own_gd p0 p1 p3)), .val (.int (1 : Int32)), .unset, .unset, .unset, .unset] [(.int (1 : Int32))]))
  refine own_go (fun t k => XS.goto X20.here hx rfl (pc0 := 129) (pc' := 133) rfl (hb hby at_129) (by decide) (by decide) k) ?_
  show own_G p e below (K_0 Z p0 p1 p2 p3 p4 d0 h0 n0 s) (T20.setTop (mkF m 133 #[.val (.int p0), .val (.int p1), .val (.int p2), .val (.int p3), .val (.int p4), .val (.ref b1), .val (.long (p3.toInt64)), .second, .val (.long (p0.toInt64)), .second, .val (.long (p1.toInt64)), .second, .val (.int z15), .val (.int (own_gd p0 p1 p3)), .val (.int (1 : Int32)), .unset, .unset, .unset, .unset] [(.int (1 : Int32))]))
  refine own_go (fun t k => XS.istore X20.here hx rfl (hb hby at_133) rfl (l' := #[.val (.int p0), .val (.int p1), .val (.int p2), .val (.int p3), .val (.int p4), .val (.ref b1), .val (.long (p3.toInt64)), .second, .val (.long (p0.toInt64)), .second, .val (.long (p1.toInt64)), .second, .val (.int z15), .val (.int (own_gd p0 p1 p3)), .val (.int (1 : Int32)), .unset, .unset, .unset, .unset]) rfl k) ?_
  show own_G p e below (K_0 Z p0 p1 p2 p3 p4 d0 h0 n0 s) (T20.setTop (mkF m 135 #[.val (.int p0), .val (.int p1), .val (.int p2), .val (.int p3), .val (.int p4), .val (.ref b1), .val (.long (p3.toInt64)), .second, .val (.long (p0.toInt64)), .second, .val (.long (p1.toInt64)), .second, .val (.int z15), .val (.int (own_gd p0 p1 p3)), .val (.int (1 : Int32)), .unset, .unset, .unset, .unset] []))
  refine own_go (fun t k => XS.iloadN X20.here hx rfl (hb hby at_135) rfl k) ?_
  show own_G p e below (K_0 Z p0 p1 p2 p3 p4 d0 h0 n0 s) (T20.setTop (mkF m 136 #[.val (.int p0), .val (.int p1), .val (.int p2), .val (.int p3), .val (.int p4), .val (.ref b1), .val (.long (p3.toInt64)), .second, .val (.long (p0.toInt64)), .second, .val (.long (p1.toInt64)), .second, .val (.int z15), .val (.int (own_gd p0 p1 p3)), .val (.int (1 : Int32)), .unset, .unset, .unset, .unset] [(.int p0)]))
  refine own_go (fun t k => XS.iload X20.here hx rfl (hb hby at_136) rfl k) ?_
  show own_G p e below (K_0 Z p0 p1 p2 p3 p4 d0 h0 n0 s) (T20.setTop (mkF m 138 #[.val (.int p0), .val (.int p1), .val (.int p2), .val (.int p3), .val (.int p4), .val (.ref b1), .val (.long (p3.toInt64)), .second, .val (.long (p0.toInt64)), .second, .val (.long (p1.toInt64)), .second, .val (.int z15), .val (.int (own_gd p0 p1 p3)), .val (.int (1 : Int32)), .unset, .unset, .unset, .unset] [(.int p4), (.int p0)]))
  by_cases hc138_23 : p4 < p0
  · skip
    refine own_go (fun t k => XS.icmpYes X20.here hx rfl (pc0 := 138) (pc' := 257) rfl (hb hby at_138) rfl (tlt hc138_23).2.2.1 (by decide) (by decide) k) ?_
    show own_G p e below (K_0 Z p0 p1 p2 p3 p4 d0 h0 n0 s) (T20.setTop (mkF m 257 #[.val (.int p0), .val (.int p1), .val (.int p2), .val (.int p3), .val (.int p4), .val (.ref b1), .val (.long (p3.toInt64)), .second, .val (.long (p0.toInt64)), .second, .val (.long (p1.toInt64)), .second, .val (.int z15), .val (.int (own_gd p0 p1 p3)), .val (.int (1 : Int32)), .unset, .unset, .unset, .unset] []))
    refine own_go (fun t k => XS.iload X20.here hx rfl (hb hby at_257) rfl k) ?_
    show own_G p e below (K_0 Z p0 p1 p2 p3 p4 d0 h0 n0 s) (T20.setTop (mkF m 259 #[.val (.int p0), .val (.int p1), .val (.int p2), .val (.int p3), .val (.int p4), .val (.ref b1), .val (.long (p3.toInt64)), .second, .val (.long (p0.toInt64)), .second, .val (.long (p1.toInt64)), .second, .val (.int z15), .val (.int (own_gd p0 p1 p3)), .val (.int (1 : Int32)), .unset, .unset, .unset, .unset] [(.int (1 : Int32))]))
    exact own_retN X20 hx Bd.notSynchronized (t := .boolean) (z' := (1 : Int32)) Bd.returns (by simp) (hb hby at_259) rfl (fun U hU hV hF => ⟨_, _, rfl, ⟨rfl, N20⟩, hF.1, hF.2.1, hF.2.2.mono (by decide) (by decide)⟩)
  · skip
    refine own_go (fun t k => XS.icmpNo X20.here hx rfl (hb hby at_138) rfl (flt hc138_23).2.2.1 k) ?_
    show own_G p e below (K_0 Z p0 p1 p2 p3 p4 d0 h0 n0 s) (T20.setTop (mkF m 141 #[.val (.int p0), .val (.int p1), .val (.int p2), .val (.int p3), .val (.int p4), .val (.ref b1), .val (.long (p3.toInt64)), .second, .val (.long (p0.toInt64)), .second, .val (.long (p1.toInt64)), .second, .val (.int z15), .val (.int (own_gd p0 p1 p3)), .val (.int (1 : Int32)), .unset, .unset, .unset, .unset] []))
    refine own_go (fun t k => XS.iload X20.here hx rfl (hb hby at_141) rfl k) ?_
    show own_G p e below (K_0 Z p0 p1 p2 p3 p4 d0 h0 n0 s) (T20.setTop (mkF m 143 #[.val (.int p0), .val (.int p1), .val (.int p2), .val (.int p3), .val (.int p4), .val (.ref b1), .val (.long (p3.toInt64)), .second, .val (.long (p0.toInt64)), .second, .val (.long (p1.toInt64)), .second, .val (.int z15), .val (.int (own_gd p0 p1 p3)), .val (.int (1 : Int32)), .unset, .unset, .unset, .unset] [(.int p4)]))
    refine own_go (fun t k => XS.iloadN X20.here hx rfl (hb hby at_143) rfl k) ?_
    show own_G p e below (K_0 Z p0 p1 p2 p3 p4 d0 h0 n0 s) (T20.setTop (mkF m 144 #[.val (.int p0), .val (.int p1), .val (.int p2), .val (.int p3), .val (.int p4), .val (.ref b1), .val (.long (p3.toInt64)), .second, .val (.long (p0.toInt64)), .second, .val (.long (p1.toInt64)), .second, .val (.int z15), .val (.int (own_gd p0 p1 p3)), .val (.int (1 : Int32)), .unset, .unset, .unset, .unset] [(.int p1), (.int p4)]))
    by_cases hc144_24 : p1 < p4
    · skip
      refine own_go (fun t k => XS.icmpYes X20.here hx rfl (pc0 := 144) (pc' := 257) rfl (hb hby at_144) rfl (tlt hc144_24).2.2.1 (by decide) (by decide) k) ?_
      show own_G p e below (K_0 Z p0 p1 p2 p3 p4 d0 h0 n0 s) (T20.setTop (mkF m 257 #[.val (.int p0), .val (.int p1), .val (.int p2), .val (.int p3), .val (.int p4), .val (.ref b1), .val (.long (p3.toInt64)), .second, .val (.long (p0.toInt64)), .second, .val (.long (p1.toInt64)), .second, .val (.int z15), .val (.int (own_gd p0 p1 p3)), .val (.int (1 : Int32)), .unset, .unset, .unset, .unset] []))
      refine own_go (fun t k => XS.iload X20.here hx rfl (hb hby at_257) rfl k) ?_
      show own_G p e below (K_0 Z p0 p1 p2 p3 p4 d0 h0 n0 s) (T20.setTop (mkF m 259 #[.val (.int p0), .val (.int p1), .val (.int p2), .val (.int p3), .val (.int p4), .val (.ref b1), .val (.long (p3.toInt64)), .second, .val (.long (p0.toInt64)), .second, .val (.long (p1.toInt64)), .second, .val (.int z15), .val (.int (own_gd p0 p1 p3)), .val (.int (1 : Int32)), .unset, .unset, .unset, .unset] [(.int (1 : Int32))]))
      exact own_retN X20 hx Bd.notSynchronized (t := .boolean) (z' := (1 : Int32)) Bd.returns (by simp) (hb hby at_259) rfl (fun U hU hV hF => ⟨_, _, rfl, ⟨rfl, N20⟩, hF.1, hF.2.1, hF.2.2.mono (by decide) (by decide)⟩)
    · skip
      refine own_go (fun t k => XS.icmpNo X20.here hx rfl (hb hby at_144) rfl (flt hc144_24).2.2.1 k) ?_
      show own_G p e below (K_0 Z p0 p1 p2 p3 p4 d0 h0 n0 s) (T20.setTop (mkF m 147 #[.val (.int p0), .val (.int p1), .val (.int p2), .val (.int p3), .val (.int p4), .val (.ref b1), .val (.long (p3.toInt64)), .second, .val (.long (p0.toInt64)), .second, .val (.long (p1.toInt64)), .second, .val (.int z15), .val (.int (own_gd p0 p1 p3)), .val (.int (1 : Int32)), .unset, .unset, .unset, .unset] []))
      obtain ⟨T25, h25, X25, e25, E25, A25, D25, -, st25⟩ := newO X20 hx hZ hown (hw _ (List.mem_of_getElem? (i := 0) rfl)) (hw _ (List.mem_of_getElem? (i := 1) rfl)) (hw _ (List.mem_of_getElem? (i := 2) rfl)) e20 (g := (mkF m 147 #[.val (.int p0), .val (.int p1), .val (.int p2), .val (.int p3), .val (.int p4), .val (.ref b1), .val (.long (p3.toInt64)), .second, .val (.long (p0.toInt64)), .second, .val (.long (p1.toInt64)), .second, .val (.int z15), .val (.int (own_gd p0 p1 p3)), .val (.int (1 : Int32)), .unset, .unset, .unset, .unset] [])) rfl (hb hby at_147) (by decide) (by decide)
      obtain ⟨b25, g25⟩ : ∃ z, z = h8.size := ⟨_, rfl⟩
      rw [← g25] at A25 D25 st25
      refine own_go st25 ?_
      have g_b25 : n0 ≤ b25 := Nat.le_trans Z14 (Nat.le_of_eq g25.symm)
      have Z26 : n0 ≤ h25.size := Nat.le_trans Z14 E25.1
      have F25_from : Fld Z h25 b25 "com/example/routines_in_transactions/routinesintransactions/engine/BoundRoutine$Guard" "from" "I" (.int (0 : Int32)) := D25 (Or.inr (hw _ (List.mem_of_getElem? (i := 39) rfl))) (ty := .int) (by decide)
      have F25_to : Fld Z h25 b25 "com/example/routines_in_transactions/routinesintransactions/engine/BoundRoutine$Guard" "to" "I" (.int (0 : Int32)) := D25 (Or.inr (hw _ (List.mem_of_getElem? (i := 41) rfl))) (ty := .int) (by decide)
      have F25_depth : Fld Z h25 b25 "com/example/routines_in_transactions/routinesintransactions/engine/BoundRoutine$Guard" "depth" "I" (.int (0 : Int32)) := D25 (Or.inr (hw _ (List.mem_of_getElem? (i := 43) rfl))) (ty := .int) (by decide)
      have F25_handlers : Fld Z h25 b25 "com/example/routines_in_transactions/routinesintransactions/engine/BoundRoutine$Guard" "handlers" "Ljava/util/List;" .null := D25 (Or.inr (hw _ (List.mem_of_getElem? (i := 45) rfl))) (ty := (.object "java/util/List")) (by decide)
      show own_G p e below (K_0 Z p0 p1 p2 p3 p4 d0 h0 n0 s) (T25.setTop (mkF m 150 #[.val (.int p0), .val (.int p1), .val (.int p2), .val (.int p3), .val (.int p4), .val (.ref b1), .val (.long (p3.toInt64)), .second, .val (.long (p0.toInt64)), .second, .val (.long (p1.toInt64)), .second, .val (.int z15), .val (.int (own_gd p0 p1 p3)), .val (.int (1 : Int32)), .unset, .unset, .unset, .unset] [(.ref b25)]))
      refine own_go (fun t k => XS.dup X25.here hx rfl (hb hby at_150) rfl rfl k) ?_
      show own_G p e below (K_0 Z p0 p1 p2 p3 p4 d0 h0 n0 s) (T25.setTop (mkF m 151 #[.val (.int p0), .val (.int p1), .val (.int p2), .val (.int p3), .val (.int p4), .val (.ref b1), .val (.long (p3.toInt64)), .second, .val (.long (p0.toInt64)), .second, .val (.long (p1.toInt64)), .second, .val (.int z15), .val (.int (own_gd p0 p1 p3)), .val (.int (1 : Int32)), .unset, .unset, .unset, .unset] [(.ref b25), (.ref b25)]))
      refine own_go (fun t k => XS.iloadN X25.here hx rfl (hb hby at_151) rfl k) ?_
      show own_G p e below (K_0 Z p0 p1 p2 p3 p4 d0 h0 n0 s) (T25.setTop (mkF m 152 #[.val (.int p0), .val (.int p1), .val (.int p2), .val (.int p3), .val (.int p4), .val (.ref b1), .val (.long (p3.toInt64)), .second, .val (.long (p0.toInt64)), .second, .val (.long (p1.toInt64)), .second, .val (.int z15), .val (.int (own_gd p0 p1 p3)), .val (.int (1 : Int32)), .unset, .unset, .unset, .unset] [(.int p0), (.ref b25), (.ref b25)]))
      refine own_go (fun t k => XS.iload X25.here hx rfl (hb hby at_152) rfl k) ?_
      show own_G p e below (K_0 Z p0 p1 p2 p3 p4 d0 h0 n0 s) (T25.setTop (mkF m 154 #[.val (.int p0), .val (.int p1), .val (.int p2), .val (.int p3), .val (.int p4), .val (.ref b1), .val (.long (p3.toInt64)), .second, .val (.long (p0.toInt64)), .second, .val (.long (p1.toInt64)), .second, .val (.int z15), .val (.int (own_gd p0 p1 p3)), .val (.int (1 : Int32)), .unset, .unset, .unset, .unset] [(.int p4), (.int p0), (.ref b25), (.ref b25)]))
      refine own_go (fun t k => XS.iloadN X25.here hx rfl (hb hby at_154) rfl k) ?_
      show own_G p e below (K_0 Z p0 p1 p2 p3 p4 d0 h0 n0 s) (T25.setTop (mkF m 155 #[.val (.int p0), .val (.int p1), .val (.int p2), .val (.int p3), .val (.int p4), .val (.ref b1), .val (.long (p3.toInt64)), .second, .val (.long (p0.toInt64)), .second, .val (.long (p1.toInt64)), .second, .val (.int z15), .val (.int (own_gd p0 p1 p3)), .val (.int (1 : Int32)), .unset, .unset, .unset, .unset] [(.int p2), (.int p4), (.int p0), (.ref b25), (.ref b25)]))
      obtain ⟨T27, h27, X27, e27, E27, A27, D27, -, st27⟩ := newO X25 hx hZ hown (hw _ (List.mem_of_getElem? (i := 3) rfl)) (hw _ (List.mem_of_getElem? (i := 4) rfl)) (hw _ (List.mem_of_getElem? (i := 5) rfl)) e25 (g := (mkF m 155 #[.val (.int p0), .val (.int p1), .val (.int p2), .val (.int p3), .val (.int p4), .val (.ref b1), .val (.long (p3.toInt64)), .second, .val (.long (p0.toInt64)), .second, .val (.long (p1.toInt64)), .second, .val (.int z15), .val (.int (own_gd p0 p1 p3)), .val (.int (1 : Int32)), .unset, .unset, .unset, .unset] [(.int p2), (.int p4), (.int p0), (.ref b25), (.ref b25)])) rfl (hb hby at_155) (by decide) (by decide)
      obtain ⟨b27, g27⟩ : ∃ z, z = h25.size := ⟨_, rfl⟩
      rw [← g27] at A27 D27 st27
      refine own_go st27 ?_
      have g_b27 : n0 ≤ b27 := Nat.le_trans Z26 (Nat.le_of_eq g27.symm)
      have Z28 : n0 ≤ h27.size := Nat.le_trans Z26 E27.1
      have F27_modCount : Fld Z h27 b27 "java/util/AbstractList" "modCount" "I" (.int (0 : Int32)) := D27 (Or.inl (hw _ (List.mem_of_getElem? (i := 25) rfl))) (ty := .int) (by decide)
      have F27_elementData : Fld Z h27 b27 "java/util/ArrayList" "elementData" "[Ljava/lang/Object;" .null := D27 (Or.inl (hw _ (List.mem_of_getElem? (i := 28) rfl))) (ty := (.array (.object "java/lang/Object"))) (by decide)
      show own_G p e below (K_0 Z p0 p1 p2 p3 p4 d0 h0 n0 s) (T27.setTop (mkF m 158 #[.val (.int p0), .val (.int p1), .val (.int p2), .val (.int p3), .val (.int p4), .val (.ref b1), .val (.long (p3.toInt64)), .second, .val (.long (p0.toInt64)), .second, .val (.long (p1.toInt64)), .second, .val (.int z15), .val (.int (own_gd p0 p1 p3)), .val (.int (1 : Int32)), .unset, .unset, .unset, .unset] [(.ref b27), (.int p2), (.int p4), (.int p0), (.ref b25), (.ref b25)]))
      refine own_go (fun t k => XS.dup X27.here hx rfl (hb hby at_158) rfl rfl k) ?_
      show own_G p e below (K_0 Z p0 p1 p2 p3 p4 d0 h0 n0 s) (T27.setTop (mkF m 159 #[.val (.int p0), .val (.int p1), .val (.int p2), .val (.int p3), .val (.int p4), .val (.ref b1), .val (.long (p3.toInt64)), .second, .val (.long (p0.toInt64)), .second, .val (.long (p1.toInt64)), .second, .val (.int z15), .val (.int (own_gd p0 p1 p3)), .val (.int (1 : Int32)), .unset, .unset, .unset, .unset] [(.ref b27), (.ref b27), (.int p2), (.int p4), (.int p0), (.ref b25), (.ref b25)]))
      have Q30 := (((own_stakeep (own_stakeep Q6 K5q (allS (fun cl hc => A3.nostat cl hc) all0)) K8q (allS (fun cl hc => ((A1.ext E3).keep K5q).nostat cl hc) all0)).ext E25).ext E27)
      obtain ⟨_, _, ⟨T29, L29, k29, n29⟩, -, X29, ⟨Lc29, hQ29, l29, y29, z29⟩, st29⟩ := X27.specialBack hx (y := (⟨"java/util/ArrayList", "<init>", "()V"⟩ : MethodName)) rfl hown (mvT hZ (hw _ (List.mem_of_getElem? (i := 6) rfl))) (mvT hZ (hw _ (List.mem_of_getElem? (i := 7) rfl))) (mvT hZ (hw _ (List.mem_of_getElem? (i := 8) rfl))) (by decide) (backOf (W := 6) (rm_arl l Z a0 hw [] b27 d0 h27 n0 Z28 F27_modCount F27_elementData A27 g_b27 Q30) hZ (hw _ (List.mem_of_getElem? (i := 8) rfl)) (hw _ (List.mem_of_getElem? (i := 5) rfl)) (by decide) (by decide)) (g := (mkF m 159 #[.val (.int p0), .val (.int p1), .val (.int p2), .val (.int p3), .val (.int p4), .val (.ref b1), .val (.long (p3.toInt64)), .second, .val (.long (p0.toInt64)), .second, .val (.long (p1.toInt64)), .second, .val (.int z15), .val (.int (own_gd p0 p1 p3)), .val (.int (1 : Int32)), .unset, .unset, .unset, .unset] [(.ref b27), (.ref b27), (.int p2), (.int p4), (.int p0), (.ref b25), (.ref b25)])) rfl (by rw [hml]; rfl) (Steps.refl _) (a := b27) (argsL := []) (rest := [(.ref b27), (.int p2), (.int p4), (.int p0), (.ref b25), (.ref b25)]) (lenOf own_pd0 rfl) rfl (by show 2 * 0 + _ ≤ _; exact Nat.le_of_eq rfl) (hb hby at_159) (fun _ _ => ⟨rfl, e27, (by decide : 4 + 0 ≤ _), (by decide : 14 + 0 ≤ _)⟩)
      dsimp only [Pt.U, Pt.locs, Pt.cells, Pt.slots] at X29 l29 y29 z29 st29 hQ29
      subst l29 y29 z29
      obtain ⟨rfl, N29q, K29q, E29q, F29_0, F29_1⟩ := hQ29
      have N29 := Fr.app N20 N29q
      obtain ⟨h29, e29⟩ : ∃ z, T29.heap = z := ⟨_, rfl⟩
      rw [e29] at K29q E29q F29_0 F29_1
      have Z31 : n0 ≤ h29.size := Nat.le_trans Z28 K29q.1
      refine own_tr st29 ?_
      show own_G p e below (K_0 Z p0 p1 p2 p3 p4 d0 h0 n0 s) (T29.setTop (mkF m 162 #[.val (.int p0), .val (.int p1), .val (.int p2), .val (.int p3), .val (.int p4), .val (.ref b1), .val (.long (p3.toInt64)), .second, .val (.long (p0.toInt64)), .second, .val (.long (p1.toInt64)), .second, .val (.int z15), .val (.int (own_gd p0 p1 p3)), .val (.int (1 : Int32)), .unset, .unset, .unset, .unset] [(.ref b27), (.int p2), (.int p4), (.int p0), (.ref b25), (.ref b25)]))
      have Q33 := ((F25_from.ext E27).keep K29q (by simp only [List.mem_cons, List.not_mem_nil, or_false, not_or]; exact (Nat.ne_of_lt (Nat.lt_of_lt_of_le A25.lt (Nat.le_of_eq g27.symm)))))
      have Q34 := ((F25_to.ext E27).keep K29q (by simp only [List.mem_cons, List.not_mem_nil, or_false, not_or]; exact (Nat.ne_of_lt (Nat.lt_of_lt_of_le A25.lt (Nat.le_of_eq g27.symm)))))
      have Q35 := ((F25_depth.ext E27).keep K29q (by simp only [List.mem_cons, List.not_mem_nil, or_false, not_or]; exact (Nat.ne_of_lt (Nat.lt_of_lt_of_le A25.lt (Nat.le_of_eq g27.symm)))))
      have Q36 := ((F25_handlers.ext E27).keep K29q (by simp only [List.mem_cons, List.not_mem_nil, or_false, not_or]; exact (Nat.ne_of_lt (Nat.lt_of_lt_of_le A25.lt (Nat.le_of_eq g27.symm)))))
      have Q37 := ((A25.ext E27).keep K29q)
      obtain ⟨_, _, ⟨T32, L32, k32, n32⟩, -, X32, ⟨Lc32, hQ32, l32, y32, z32⟩, st32⟩ := X29.specialBack hx (y := (⟨"com/example/routines_in_transactions/routinesintransactions/engine/BoundRoutine$Guard", "<init>", "(IIILjava/util/List;)V"⟩ : MethodName)) rfl hown (mvT hZ (hw _ (List.mem_of_getElem? (i := 29) rfl))) (mvT hZ (hw _ (List.mem_of_getElem? (i := 30) rfl))) (mvT hZ (hw _ (List.mem_of_getElem? (i := 31) rfl))) (by decide) (backOf (W := 1) (rm_gct l Z a0 hw [] b25 p0 p4 p2 b27 h29 n0 Z31 Q33 Q34 Q35 Q36 Q37 g_b25) hZ (hw _ (List.mem_of_getElem? (i := 31) rfl)) (hw _ (List.mem_of_getElem? (i := 2) rfl)) (by decide) (by decide)) (g := (mkF m 162 #[.val (.int p0), .val (.int p1), .val (.int p2), .val (.int p3), .val (.int p4), .val (.ref b1), .val (.long (p3.toInt64)), .second, .val (.long (p0.toInt64)), .second, .val (.long (p1.toInt64)), .second, .val (.int z15), .val (.int (own_gd p0 p1 p3)), .val (.int (1 : Int32)), .unset, .unset, .unset, .unset] [(.ref b27), (.int p2), (.int p4), (.int p0), (.ref b25), (.ref b25)])) rfl (by rw [hml]; rfl) (Steps.refl _) (a := b25) (argsL := [(.int p0), (.int p4), (.int p2), (.ref b27)]) (rest := [(.ref b25)]) (lenOf own_pd1 rfl) rfl (by show 2 * 0 + _ ≤ _; exact Nat.le_of_eq rfl) (hb hby at_162) (fun _ _ => ⟨rfl, e29, (by decide : 4 + 0 ≤ _), (by decide : 14 + 0 ≤ _)⟩)
      dsimp only [Pt.U, Pt.locs, Pt.cells, Pt.slots] at X32 l32 y32 z32 st32 hQ32
      subst l32 y32 z32
      obtain ⟨rfl, N32q, K32q, E32q, F32_0, F32_1, F32_2, F32_3⟩ := hQ32
      have N32 := Fr.app N29 N32q
      obtain ⟨h32, e32⟩ : ∃ z, T32.heap = z := ⟨_, rfl⟩
      rw [e32] at K32q E32q F32_0 F32_1 F32_2 F32_3
      have Z38 : n0 ≤ h32.size := Nat.le_trans Z31 K32q.1
      refine own_tr st32 ?_
      show own_G p e below (K_0 Z p0 p1 p2 p3 p4 d0 h0 n0 s) (T32.setTop (mkF m 165 #[.val (.int p0), .val (.int p1), .val (.int p2), .val (.int p3), .val (.int p4), .val (.ref b1), .val (.long (p3.toInt64)), .second, .val (.long (p0.toInt64)), .second, .val (.long (p1.toInt64)), .second, .val (.int z15), .val (.int (own_gd p0 p1 p3)), .val (.int (1 : Int32)), .unset, .unset, .unset, .unset] [(.ref b25)]))
      refine own_go (fun t k => XS.astore X32.here hx rfl (hb hby at_165) rfl rfl (l' := #[.val (.int p0), .val (.int p1), .val (.int p2), .val (.int p3), .val (.int p4), .val (.ref b1), .val (.long (p3.toInt64)), .second, .val (.long (p0.toInt64)), .second, .val (.long (p1.toInt64)), .second, .val (.int z15), .val (.int (own_gd p0 p1 p3)), .val (.int (1 : Int32)), .val (.ref b25), .unset, .unset, .unset]) rfl k) ?_
      show own_G p e below (K_0 Z p0 p1 p2 p3 p4 d0 h0 n0 s) (T32.setTop (mkF m 167 #[.val (.int p0), .val (.int p1), .val (.int p2), .val (.int p3), .val (.int p4), .val (.ref b1), .val (.long (p3.toInt64)), .second, .val (.long (p0.toInt64)), .second, .val (.long (p1.toInt64)), .second, .val (.int z15), .val (.int (own_gd p0 p1 p3)), .val (.int (1 : Int32)), .val (.ref b25), .unset, .unset, .unset] []))
      obtain ⟨T39, h39, X39, e39, E39, A39, D39, -, st39⟩ := newO X32 hx hZ hown (hw _ (List.mem_of_getElem? (i := 0) rfl)) (hw _ (List.mem_of_getElem? (i := 1) rfl)) (hw _ (List.mem_of_getElem? (i := 2) rfl)) e32 (g := (mkF m 167 #[.val (.int p0), .val (.int p1), .val (.int p2), .val (.int p3), .val (.int p4), .val (.ref b1), .val (.long (p3.toInt64)), .second, .val (.long (p0.toInt64)), .second, .val (.long (p1.toInt64)), .second, .val (.int z15), .val (.int (own_gd p0 p1 p3)), .val (.int (1 : Int32)), .val (.ref b25), .unset, .unset, .unset] [])) rfl (hb hby at_167) (by decide) (by decide)
      obtain ⟨b39, g39⟩ : ∃ z, z = h32.size := ⟨_, rfl⟩
      rw [← g39] at A39 D39 st39
      refine own_go st39 ?_
      have g_b39 : n0 ≤ b39 := Nat.le_trans Z38 (Nat.le_of_eq g39.symm)
      have Z40 : n0 ≤ h39.size := Nat.le_trans Z38 E39.1
      have F39_from : Fld Z h39 b39 "com/example/routines_in_transactions/routinesintransactions/engine/BoundRoutine$Guard" "from" "I" (.int (0 : Int32)) := D39 (Or.inr (hw _ (List.mem_of_getElem? (i := 39) rfl))) (ty := .int) (by decide)
      have F39_to : Fld Z h39 b39 "com/example/routines_in_transactions/routinesintransactions/engine/BoundRoutine$Guard" "to" "I" (.int (0 : Int32)) := D39 (Or.inr (hw _ (List.mem_of_getElem? (i := 41) rfl))) (ty := .int) (by decide)
      have F39_depth : Fld Z h39 b39 "com/example/routines_in_transactions/routinesintransactions/engine/BoundRoutine$Guard" "depth" "I" (.int (0 : Int32)) := D39 (Or.inr (hw _ (List.mem_of_getElem? (i := 43) rfl))) (ty := .int) (by decide)
      have F39_handlers : Fld Z h39 b39 "com/example/routines_in_transactions/routinesintransactions/engine/BoundRoutine$Guard" "handlers" "Ljava/util/List;" .null := D39 (Or.inr (hw _ (List.mem_of_getElem? (i := 45) rfl))) (ty := (.object "java/util/List")) (by decide)
      show own_G p e below (K_0 Z p0 p1 p2 p3 p4 d0 h0 n0 s) (T39.setTop (mkF m 170 #[.val (.int p0), .val (.int p1), .val (.int p2), .val (.int p3), .val (.int p4), .val (.ref b1), .val (.long (p3.toInt64)), .second, .val (.long (p0.toInt64)), .second, .val (.long (p1.toInt64)), .second, .val (.int z15), .val (.int (own_gd p0 p1 p3)), .val (.int (1 : Int32)), .val (.ref b25), .unset, .unset, .unset] [(.ref b39)]))
      refine own_go (fun t k => XS.dup X39.here hx rfl (hb hby at_170) rfl rfl k) ?_
      show own_G p e below (K_0 Z p0 p1 p2 p3 p4 d0 h0 n0 s) (T39.setTop (mkF m 171 #[.val (.int p0), .val (.int p1), .val (.int p2), .val (.int p3), .val (.int p4), .val (.ref b1), .val (.long (p3.toInt64)), .second, .val (.long (p0.toInt64)), .second, .val (.long (p1.toInt64)), .second, .val (.int z15), .val (.int (own_gd p0 p1 p3)), .val (.int (1 : Int32)), .val (.ref b25), .unset, .unset, .unset] [(.ref b39), (.ref b39)]))
      refine own_go (fun t k => XS.iload X39.here hx rfl (hb hby at_171) rfl k) ?_
      show own_G p e below (K_0 Z p0 p1 p2 p3 p4 d0 h0 n0 s) (T39.setTop (mkF m 173 #[.val (.int p0), .val (.int p1), .val (.int p2), .val (.int p3), .val (.int p4), .val (.ref b1), .val (.long (p3.toInt64)), .second, .val (.long (p0.toInt64)), .second, .val (.long (p1.toInt64)), .second, .val (.int z15), .val (.int (own_gd p0 p1 p3)), .val (.int (1 : Int32)), .val (.ref b25), .unset, .unset, .unset] [(.int p4), (.ref b39), (.ref b39)]))
      refine own_go (fun t k => XS.iloadN X39.here hx rfl (hb hby at_173) rfl k) ?_
      show own_G p e below (K_0 Z p0 p1 p2 p3 p4 d0 h0 n0 s) (T39.setTop (mkF m 174 #[.val (.int p0), .val (.int p1), .val (.int p2), .val (.int p3), .val (.int p4), .val (.ref b1), .val (.long (p3.toInt64)), .second, .val (.long (p0.toInt64)), .second, .val (.long (p1.toInt64)), .second, .val (.int z15), .val (.int (own_gd p0 p1 p3)), .val (.int (1 : Int32)), .val (.ref b25), .unset, .unset, .unset] [(.int p1), (.int p4), (.ref b39), (.ref b39)]))
      refine own_go (fun t k => XS.iloadN X39.here hx rfl (hb hby at_174) rfl k) ?_
      show own_G p e below (K_0 Z p0 p1 p2 p3 p4 d0 h0 n0 s) (T39.setTop (mkF m 175 #[.val (.int p0), .val (.int p1), .val (.int p2), .val (.int p3), .val (.int p4), .val (.ref b1), .val (.long (p3.toInt64)), .second, .val (.long (p0.toInt64)), .second, .val (.long (p1.toInt64)), .second, .val (.int z15), .val (.int (own_gd p0 p1 p3)), .val (.int (1 : Int32)), .val (.ref b25), .unset, .unset, .unset] [(.int p2), (.int p1), (.int p4), (.ref b39), (.ref b39)]))
      obtain ⟨T41, h41, X41, e41, E41, A41, D41, -, st41⟩ := newO X39 hx hZ hown (hw _ (List.mem_of_getElem? (i := 3) rfl)) (hw _ (List.mem_of_getElem? (i := 4) rfl)) (hw _ (List.mem_of_getElem? (i := 5) rfl)) e39 (g := (mkF m 175 #[.val (.int p0), .val (.int p1), .val (.int p2), .val (.int p3), .val (.int p4), .val (.ref b1), .val (.long (p3.toInt64)), .second, .val (.long (p0.toInt64)), .second, .val (.long (p1.toInt64)), .second, .val (.int z15), .val (.int (own_gd p0 p1 p3)), .val (.int (1 : Int32)), .val (.ref b25), .unset, .unset, .unset] [(.int p2), (.int p1), (.int p4), (.ref b39), (.ref b39)])) rfl (hb hby at_175) (by decide) (by decide)
      obtain ⟨b41, g41⟩ : ∃ z, z = h39.size := ⟨_, rfl⟩
      rw [← g41] at A41 D41 st41
      refine own_go st41 ?_
      have g_b41 : n0 ≤ b41 := Nat.le_trans Z40 (Nat.le_of_eq g41.symm)
      have Z42 : n0 ≤ h41.size := Nat.le_trans Z40 E41.1
      have F41_modCount : Fld Z h41 b41 "java/util/AbstractList" "modCount" "I" (.int (0 : Int32)) := D41 (Or.inl (hw _ (List.mem_of_getElem? (i := 25) rfl))) (ty := .int) (by decide)
      have F41_elementData : Fld Z h41 b41 "java/util/ArrayList" "elementData" "[Ljava/lang/Object;" .null := D41 (Or.inl (hw _ (List.mem_of_getElem? (i := 28) rfl))) (ty := (.array (.object "java/lang/Object"))) (by decide)
      show own_G p e below (K_0 Z p0 p1 p2 p3 p4 d0 h0 n0 s) (T41.setTop (mkF m 178 #[.val (.int p0), .val (.int p1), .val (.int p2), .val (.int p3), .val (.int p4), .val (.ref b1), .val (.long (p3.toInt64)), .second, .val (.long (p0.toInt64)), .second, .val (.long (p1.toInt64)), .second, .val (.int z15), .val (.int (own_gd p0 p1 p3)), .val (.int (1 : Int32)), .val (.ref b25), .unset, .unset, .unset] [(.ref b41), (.int p2), (.int p1), (.int p4), (.ref b39), (.ref b39)]))
      refine own_go (fun t k => XS.dup X41.here hx rfl (hb hby at_178) rfl rfl k) ?_
      show own_G p e below (K_0 Z p0 p1 p2 p3 p4 d0 h0 n0 s) (T41.setTop (mkF m 179 #[.val (.int p0), .val (.int p1), .val (.int p2), .val (.int p3), .val (.int p4), .val (.ref b1), .val (.long (p3.toInt64)), .second, .val (.long (p0.toInt64)), .second, .val (.long (p1.toInt64)), .second, .val (.int z15), .val (.int (own_gd p0 p1 p3)), .val (.int (1 : Int32)), .val (.ref b25), .unset, .unset, .unset] [(.ref b41), (.ref b41), (.int p2), (.int p1), (.int p4), (.ref b39), (.ref b39)]))
      have Q44 := (((own_stakeep (own_stakeep Q30 K29q (allS (fun cl hc => A27.nostat cl hc) all0)) K32q (allS (fun cl hc => ((A25.ext E27).keep K29q).nostat cl hc) all0)).ext E39).ext E41)
      obtain ⟨_, _, ⟨T43, L43, k43, n43⟩, -, X43, ⟨Lc43, hQ43, l43, y43, z43⟩, st43⟩ := X41.specialBack hx (y := (⟨"java/util/ArrayList", "<init>", "()V"⟩ : MethodName)) rfl hown (mvT hZ (hw _ (List.mem_of_getElem? (i := 6) rfl))) (mvT hZ (hw _ (List.mem_of_getElem? (i := 7) rfl))) (mvT hZ (hw _ (List.mem_of_getElem? (i := 8) rfl))) (by decide) (backOf (W := 6) (rm_arl l Z a0 hw [] b41 d0 h41 n0 Z42 F41_modCount F41_elementData A41 g_b41 Q44) hZ (hw _ (List.mem_of_getElem? (i := 8) rfl)) (hw _ (List.mem_of_getElem? (i := 5) rfl)) (by decide) (by decide)) (g := (mkF m 179 #[.val (.int p0), .val (.int p1), .val (.int p2), .val (.int p3), .val (.int p4), .val (.ref b1), .val (.long (p3.toInt64)), .second, .val (.long (p0.toInt64)), .second, .val (.long (p1.toInt64)), .second, .val (.int z15), .val (.int (own_gd p0 p1 p3)), .val (.int (1 : Int32)), .val (.ref b25), .unset, .unset, .unset] [(.ref b41), (.ref b41), (.int p2), (.int p1), (.int p4), (.ref b39), (.ref b39)])) rfl (by rw [hml]; rfl) (Steps.refl _) (a := b41) (argsL := []) (rest := [(.ref b41), (.int p2), (.int p1), (.int p4), (.ref b39), (.ref b39)]) (lenOf own_pd0 rfl) rfl (by show 2 * 0 + _ ≤ _; exact Nat.le_of_eq rfl) (hb hby at_179) (fun _ _ => ⟨rfl, e41, (by decide : 6 + 0 ≤ _), (by decide : 21 + 0 ≤ _)⟩)
      dsimp only [Pt.U, Pt.locs, Pt.cells, Pt.slots] at X43 l43 y43 z43 st43 hQ43
      subst l43 y43 z43
      obtain ⟨rfl, N43q, K43q, E43q, F43_0, F43_1⟩ := hQ43
      have N43 := Fr.app N32 N43q
      obtain ⟨h43, e43⟩ : ∃ z, T43.heap = z := ⟨_, rfl⟩
      rw [e43] at K43q E43q F43_0 F43_1
      have Z45 : n0 ≤ h43.size := Nat.le_trans Z42 K43q.1
      refine own_tr st43 ?_
      show own_G p e below (K_0 Z p0 p1 p2 p3 p4 d0 h0 n0 s) (T43.setTop (mkF m 182 #[.val (.int p0), .val (.int p1), .val (.int p2), .val (.int p3), .val (.int p4), .val (.ref b1), .val (.long (p3.toInt64)), .second, .val (.long (p0.toInt64)), .second, .val (.long (p1.toInt64)), .second, .val (.int z15), .val (.int (own_gd p0 p1 p3)), .val (.int (1 : Int32)), .val (.ref b25), .unset, .unset, .unset] [(.ref b41), (.int p2), (.int p1), (.int p4), (.ref b39), (.ref b39)]))
      have Q47 := ((F39_from.ext E41).keep K43q (by simp only [List.mem_cons, List.not_mem_nil, or_false, not_or]; exact (Nat.ne_of_lt (Nat.lt_of_lt_of_le A39.lt (Nat.le_of_eq g41.symm)))))
      have Q48 := ((F39_to.ext E41).keep K43q (by simp only [List.mem_cons, List.not_mem_nil, or_false, not_or]; exact (Nat.ne_of_lt (Nat.lt_of_lt_of_le A39.lt (Nat.le_of_eq g41.symm)))))
      have Q49 := ((F39_depth.ext E41).keep K43q (by simp only [List.mem_cons, List.not_mem_nil, or_false, not_or]; exact (Nat.ne_of_lt (Nat.lt_of_lt_of_le A39.lt (Nat.le_of_eq g41.symm)))))
      have Q50 := ((F39_handlers.ext E41).keep K43q (by simp only [List.mem_cons, List.not_mem_nil, or_false, not_or]; exact (Nat.ne_of_lt (Nat.lt_of_lt_of_le A39.lt (Nat.le_of_eq g41.symm)))))
      have Q51 := ((A39.ext E41).keep K43q)
      obtain ⟨_, _, ⟨T46, L46, k46, n46⟩, -, X46, ⟨Lc46, hQ46, l46, y46, z46⟩, st46⟩ := X43.specialBack hx (y := (⟨"com/example/routines_in_transactions/routinesintransactions/engine/BoundRoutine$Guard", "<init>", "(IIILjava/util/List;)V"⟩ : MethodName)) rfl hown (mvT hZ (hw _ (List.mem_of_getElem? (i := 29) rfl))) (mvT hZ (hw _ (List.mem_of_getElem? (i := 30) rfl))) (mvT hZ (hw _ (List.mem_of_getElem? (i := 31) rfl))) (by decide) (backOf (W := 1) (rm_gct l Z a0 hw [] b39 p4 p1 p2 b41 h43 n0 Z45 Q47 Q48 Q49 Q50 Q51 g_b39) hZ (hw _ (List.mem_of_getElem? (i := 31) rfl)) (hw _ (List.mem_of_getElem? (i := 2) rfl)) (by decide) (by decide)) (g := (mkF m 182 #[.val (.int p0), .val (.int p1), .val (.int p2), .val (.int p3), .val (.int p4), .val (.ref b1), .val (.long (p3.toInt64)), .second, .val (.long (p0.toInt64)), .second, .val (.long (p1.toInt64)), .second, .val (.int z15), .val (.int (own_gd p0 p1 p3)), .val (.int (1 : Int32)), .val (.ref b25), .unset, .unset, .unset] [(.ref b41), (.int p2), (.int p1), (.int p4), (.ref b39), (.ref b39)])) rfl (by rw [hml]; rfl) (Steps.refl _) (a := b39) (argsL := [(.int p4), (.int p1), (.int p2), (.ref b41)]) (rest := [(.ref b39)]) (lenOf own_pd1 rfl) rfl (by show 2 * 0 + _ ≤ _; exact Nat.le_of_eq rfl) (hb hby at_182) (fun _ _ => ⟨rfl, e43, (by decide : 6 + 0 ≤ _), (by decide : 21 + 0 ≤ _)⟩)
      dsimp only [Pt.U, Pt.locs, Pt.cells, Pt.slots] at X46 l46 y46 z46 st46 hQ46
      subst l46 y46 z46
      obtain ⟨rfl, N46q, K46q, E46q, F46_0, F46_1, F46_2, F46_3⟩ := hQ46
      have N46 := Fr.app N43 N46q
      obtain ⟨h46, e46⟩ : ∃ z, T46.heap = z := ⟨_, rfl⟩
      rw [e46] at K46q E46q F46_0 F46_1 F46_2 F46_3
      have Z52 : n0 ≤ h46.size := Nat.le_trans Z45 K46q.1
      refine own_tr st46 ?_
      show own_G p e below (K_0 Z p0 p1 p2 p3 p4 d0 h0 n0 s) (T46.setTop (mkF m 185 #[.val (.int p0), .val (.int p1), .val (.int p2), .val (.int p3), .val (.int p4), .val (.ref b1), .val (.long (p3.toInt64)), .second, .val (.long (p0.toInt64)), .second, .val (.long (p1.toInt64)), .second, .val (.int z15), .val (.int (own_gd p0 p1 p3)), .val (.int (1 : Int32)), .val (.ref b25), .unset, .unset, .unset] [(.ref b39)]))
      refine own_go (fun t k => XS.astore X46.here hx rfl (hb hby at_185) rfl rfl (l' := #[.val (.int p0), .val (.int p1), .val (.int p2), .val (.int p3), .val (.int p4), .val (.ref b1), .val (.long (p3.toInt64)), .second, .val (.long (p0.toInt64)), .second, .val (.long (p1.toInt64)), .second, .val (.int z15), .val (.int (own_gd p0 p1 p3)), .val (.int (1 : Int32)), .val (.ref b25), .val (.ref b39), .unset, .unset]) rfl k) ?_
      show own_G p e below (K_0 Z p0 p1 p2 p3 p4 d0 h0 n0 s) (T46.setTop (mkF m 187 #[.val (.int p0), .val (.int p1), .val (.int p2), .val (.int p3), .val (.int p4), .val (.ref b1), .val (.long (p3.toInt64)), .second, .val (.long (p0.toInt64)), .second, .val (.long (p1.toInt64)), .second, .val (.int z15), .val (.int (own_gd p0 p1 p3)), .val (.int (1 : Int32)), .val (.ref b25), .val (.ref b39), .unset, .unset] []))
      refine own_go (fun t k => XS.aload X46.here hx rfl (hb hby at_187) rfl rfl k) ?_
      show own_G p e below (K_0 Z p0 p1 p2 p3 p4 d0 h0 n0 s) (T46.setTop (mkF m 189 #[.val (.int p0), .val (.int p1), .val (.int p2), .val (.int p3), .val (.int p4), .val (.ref b1), .val (.long (p3.toInt64)), .second, .val (.long (p0.toInt64)), .second, .val (.long (p1.toInt64)), .second, .val (.int z15), .val (.int (own_gd p0 p1 p3)), .val (.int (1 : Int32)), .val (.ref b25), .val (.ref b39), .unset, .unset] [(.ref b25)]))
      refine own_go (fun t k => XS.iloadN X46.here hx rfl (hb hby at_189) rfl k) ?_
      show own_G p e below (K_0 Z p0 p1 p2 p3 p4 d0 h0 n0 s) (T46.setTop (mkF m 190 #[.val (.int p0), .val (.int p1), .val (.int p2), .val (.int p3), .val (.int p4), .val (.ref b1), .val (.long (p3.toInt64)), .second, .val (.long (p0.toInt64)), .second, .val (.long (p1.toInt64)), .second, .val (.int z15), .val (.int (own_gd p0 p1 p3)), .val (.int (1 : Int32)), .val (.ref b25), .val (.ref b39), .unset, .unset] [(.int p3), (.ref b25)]))
      have Q54 := ((((F32_0.ext E39).ext E41).keep K43q (by simp only [List.mem_cons, List.not_mem_nil, or_false, not_or]; exact (Nat.ne_of_lt (Nat.lt_of_lt_of_le ((((A25.ext E27).keep K29q).keep K32q).ext E39).lt (Nat.le_of_eq g41.symm))))).keep K46q (by simp only [List.mem_cons, List.not_mem_nil, or_false, not_or]; exact (Nat.ne_of_lt (Nat.lt_of_lt_of_le (((A25.ext E27).keep K29q).keep K32q).lt (Nat.le_of_eq g39.symm)))))
      have Q55 := ((((F32_1.ext E39).ext E41).keep K43q (by simp only [List.mem_cons, List.not_mem_nil, or_false, not_or]; exact (Nat.ne_of_lt (Nat.lt_of_lt_of_le ((((A25.ext E27).keep K29q).keep K32q).ext E39).lt (Nat.le_of_eq g41.symm))))).keep K46q (by simp only [List.mem_cons, List.not_mem_nil, or_false, not_or]; exact (Nat.ne_of_lt (Nat.lt_of_lt_of_le (((A25.ext E27).keep K29q).keep K32q).lt (Nat.le_of_eq g39.symm)))))
      have Q56 := ((((E32q.ext E39).ext E41).keep K43q).keep K46q)
      obtain ⟨cq53, kq53, q53a, q53b, q53c⟩ := isOf hZ e46 Q56
      obtain ⟨_, _, ⟨T53, L53, k53, n53⟩, -, X53, ⟨Lc53, hQ53, l53, y53, z53⟩, st53⟩ := X46.virtualBack hx (y := (⟨"com/example/routines_in_transactions/routinesintransactions/engine/BoundRoutine$Guard", "guards", "(I)Z"⟩ : MethodName)) (z := (⟨"com/example/routines_in_transactions/routinesintransactions/engine/BoundRoutine$Guard", "guards", "(I)Z"⟩ : MethodName)) hown (mvT hZ (hw _ (List.mem_of_getElem? (i := 46) rfl))) (mvT hZ (hw _ (List.mem_of_getElem? (i := 47) rfl))) (notFace_of_selects (args := #[]) (mvT hZ (hw _ (List.mem_of_getElem? (i := 49) rfl)))) (mvT hZ (hw _ (List.mem_of_getElem? (i := 49) rfl))) (mvT hZ (hw _ (List.mem_of_getElem? (i := 48) rfl))) (by decide) (backOf (W := 0) (rm_gd l Z a0 hw [] b25 p3 p0 p4 h46 n0 Z52 Q54 Q55) hZ (hw _ (List.mem_of_getElem? (i := 50) rfl)) (hw _ (List.mem_of_getElem? (i := 2) rfl)) (by decide) (by decide)) q53a q53c (g := (mkF m 190 #[.val (.int p0), .val (.int p1), .val (.int p2), .val (.int p3), .val (.int p4), .val (.ref b1), .val (.long (p3.toInt64)), .second, .val (.long (p0.toInt64)), .second, .val (.long (p1.toInt64)), .second, .val (.int z15), .val (.int (own_gd p0 p1 p3)), .val (.int (1 : Int32)), .val (.ref b25), .val (.ref b39), .unset, .unset] [(.int p3), (.ref b25)])) rfl (by rw [hml]; rfl) (Steps.refl _) (argsL := [(.int p3)]) (rest := []) (lenOf own_pd2 rfl) rfl (by show 2 * 0 + _ ≤ _; exact Nat.le_of_eq rfl) (hb hby at_190) (fun _ _ => ⟨rfl, e46, (by decide : 6 + 0 ≤ _), (by decide : 21 + 0 ≤ _)⟩)
      dsimp only [Pt.U, Pt.locs, Pt.cells, Pt.slots] at X53 l53 y53 z53 st53 hQ53
      subst l53 y53 z53
      obtain ⟨rfl, N53q, e53⟩ := hQ53
      have N53 := Fr.app N46 N53q
      refine own_tr st53 ?_
      show own_G p e below (K_0 Z p0 p1 p2 p3 p4 d0 h0 n0 s) (T53.setTop (mkF m 193 #[.val (.int p0), .val (.int p1), .val (.int p2), .val (.int p3), .val (.int p4), .val (.ref b1), .val (.long (p3.toInt64)), .second, .val (.long (p0.toInt64)), .second, .val (.long (p1.toInt64)), .second, .val (.int z15), .val (.int (own_gd p0 p1 p3)), .val (.int (1 : Int32)), .val (.ref b25), .val (.ref b39), .unset, .unset] [(.int (own_gd p0 p4 p3))]))
      refine own_go (fun t k => XS.istore X53.here hx rfl (hb hby at_193) rfl (l' := #[.val (.int p0), .val (.int p1), .val (.int p2), .val (.int p3), .val (.int p4), .val (.ref b1), .val (.long (p3.toInt64)), .second, .val (.long (p0.toInt64)), .second, .val (.long (p1.toInt64)), .second, .val (.int z15), .val (.int (own_gd p0 p1 p3)), .val (.int (1 : Int32)), .val (.ref b25), .val (.ref b39), .val (.int (own_gd p0 p4 p3)), .unset]) rfl k) ?_
      show own_G p e below (K_0 Z p0 p1 p2 p3 p4 d0 h0 n0 s) (T53.setTop (mkF m 195 #[.val (.int p0), .val (.int p1), .val (.int p2), .val (.int p3), .val (.int p4), .val (.ref b1), .val (.long (p3.toInt64)), .second, .val (.long (p0.toInt64)), .second, .val (.long (p1.toInt64)), .second, .val (.int z15), .val (.int (own_gd p0 p1 p3)), .val (.int (1 : Int32)), .val (.ref b25), .val (.ref b39), .val (.int (own_gd p0 p4 p3)), .unset] []))
      refine own_go (fun t k => XS.aload X53.here hx rfl (hb hby at_195) rfl rfl k) ?_
      show own_G p e below (K_0 Z p0 p1 p2 p3 p4 d0 h0 n0 s) (T53.setTop (mkF m 197 #[.val (.int p0), .val (.int p1), .val (.int p2), .val (.int p3), .val (.int p4), .val (.ref b1), .val (.long (p3.toInt64)), .second, .val (.long (p0.toInt64)), .second, .val (.long (p1.toInt64)), .second, .val (.int z15), .val (.int (own_gd p0 p1 p3)), .val (.int (1 : Int32)), .val (.ref b25), .val (.ref b39), .val (.int (own_gd p0 p4 p3)), .unset] [(.ref b39)]))
      refine own_go (fun t k => XS.iloadN X53.here hx rfl (hb hby at_197) rfl k) ?_
      show own_G p e below (K_0 Z p0 p1 p2 p3 p4 d0 h0 n0 s) (T53.setTop (mkF m 198 #[.val (.int p0), .val (.int p1), .val (.int p2), .val (.int p3), .val (.int p4), .val (.ref b1), .val (.long (p3.toInt64)), .second, .val (.long (p0.toInt64)), .second, .val (.long (p1.toInt64)), .second, .val (.int z15), .val (.int (own_gd p0 p1 p3)), .val (.int (1 : Int32)), .val (.ref b25), .val (.ref b39), .val (.int (own_gd p0 p4 p3)), .unset] [(.int p3), (.ref b39)]))
      obtain ⟨cq57, kq57, q57a, q57b, q57c⟩ := isOf hZ e53 E46q
      obtain ⟨_, _, ⟨T57, L57, k57, n57⟩, -, X57, ⟨Lc57, hQ57, l57, y57, z57⟩, st57⟩ := X53.virtualBack hx (y := (⟨"com/example/routines_in_transactions/routinesintransactions/engine/BoundRoutine$Guard", "guards", "(I)Z"⟩ : MethodName)) (z := (⟨"com/example/routines_in_transactions/routinesintransactions/engine/BoundRoutine$Guard", "guards", "(I)Z"⟩ : MethodName)) hown (mvT hZ (hw _ (List.mem_of_getElem? (i := 46) rfl))) (mvT hZ (hw _ (List.mem_of_getElem? (i := 47) rfl))) (notFace_of_selects (args := #[]) (mvT hZ (hw _ (List.mem_of_getElem? (i := 49) rfl)))) (mvT hZ (hw _ (List.mem_of_getElem? (i := 49) rfl))) (mvT hZ (hw _ (List.mem_of_getElem? (i := 48) rfl))) (by decide) (backOf (W := 0) (rm_gd l Z a0 hw [] b39 p3 p4 p1 h46 n0 Z52 F46_0 F46_1) hZ (hw _ (List.mem_of_getElem? (i := 50) rfl)) (hw _ (List.mem_of_getElem? (i := 2) rfl)) (by decide) (by decide)) q57a q57c (g := (mkF m 198 #[.val (.int p0), .val (.int p1), .val (.int p2), .val (.int p3), .val (.int p4), .val (.ref b1), .val (.long (p3.toInt64)), .second, .val (.long (p0.toInt64)), .second, .val (.long (p1.toInt64)), .second, .val (.int z15), .val (.int (own_gd p0 p1 p3)), .val (.int (1 : Int32)), .val (.ref b25), .val (.ref b39), .val (.int (own_gd p0 p4 p3)), .unset] [(.int p3), (.ref b39)])) rfl (by rw [hml]; rfl) (Steps.refl _) (argsL := [(.int p3)]) (rest := []) (lenOf own_pd2 rfl) rfl (by show 2 * 0 + _ ≤ _; exact Nat.le_of_eq rfl) (hb hby at_198) (fun _ _ => ⟨rfl, e53, (by decide : 6 + 0 ≤ _), (by decide : 21 + 0 ≤ _)⟩)
      dsimp only [Pt.U, Pt.locs, Pt.cells, Pt.slots] at X57 l57 y57 z57 st57 hQ57
      subst l57 y57 z57
      obtain ⟨rfl, N57q, e57⟩ := hQ57
      have N57 := Fr.app N53 N57q
      refine own_tr st57 ?_
      show own_G p e below (K_0 Z p0 p1 p2 p3 p4 d0 h0 n0 s) (T57.setTop (mkF m 201 #[.val (.int p0), .val (.int p1), .val (.int p2), .val (.int p3), .val (.int p4), .val (.ref b1), .val (.long (p3.toInt64)), .second, .val (.long (p0.toInt64)), .second, .val (.long (p1.toInt64)), .second, .val (.int z15), .val (.int (own_gd p0 p1 p3)), .val (.int (1 : Int32)), .val (.ref b25), .val (.ref b39), .val (.int (own_gd p0 p4 p3)), .unset] [(.int (own_gd p4 p1 p3))]))
      refine own_go (fun t k => XS.istore X57.here hx rfl (hb hby at_201) rfl (l' := #[.val (.int p0), .val (.int p1), .val (.int p2), .val (.int p3), .val (.int p4), .val (.ref b1), .val (.long (p3.toInt64)), .second, .val (.long (p0.toInt64)), .second, .val (.long (p1.toInt64)), .second, .val (.int z15), .val (.int (own_gd p0 p1 p3)), .val (.int (1 : Int32)), .val (.ref b25), .val (.ref b39), .val (.int (own_gd p0 p4 p3)), .val (.int (own_gd p4 p1 p3))]) rfl k) ?_
      show own_G p e below (K_0 Z p0 p1 p2 p3 p4 d0 h0 n0 s) (T57.setTop (mkF m 203 #[.val (.int p0), .val (.int p1), .val (.int p2), .val (.int p3), .val (.int p4), .val (.ref b1), .val (.long (p3.toInt64)), .second, .val (.long (p0.toInt64)), .second, .val (.long (p1.toInt64)), .second, .val (.int z15), .val (.int (own_gd p0 p1 p3)), .val (.int (1 : Int32)), .val (.ref b25), .val (.ref b39), .val (.int (own_gd p0 p4 p3)), .val (.int (own_gd p4 p1 p3))] []))
      refine own_go (fun t k => XS.iload X57.here hx rfl (hb hby at_203) rfl k) ?_
      show own_G p e below (K_0 Z p0 p1 p2 p3 p4 d0 h0 n0 s) (T57.setTop (mkF m 205 #[.val (.int p0), .val (.int p1), .val (.int p2), .val (.int p3), .val (.int p4), .val (.ref b1), .val (.long (p3.toInt64)), .second, .val (.long (p0.toInt64)), .second, .val (.long (p1.toInt64)), .second, .val (.int z15), .val (.int (own_gd p0 p1 p3)), .val (.int (1 : Int32)), .val (.ref b25), .val (.ref b39), .val (.int (own_gd p0 p4 p3)), .val (.int (own_gd p4 p1 p3))] [(.int (1 : Int32))]))
      refine own_go (fun t k => XS.ifNo X57.here hx rfl (hb hby at_205) rfl ((if0 _ _).trans (by decide)) k) ?_
      show own_G p e below (K_0 Z p0 p1 p2 p3 p4 d0 h0 n0 s) (T57.setTop (mkF m 208 #[.val (.int p0), .val (.int p1), .val (.int p2), .val (.int p3), .val (.int p4), .val (.ref b1), .val (.long (p3.toInt64)), .second, .val (.long (p0.toInt64)), .second, .val (.long (p1.toInt64)), .second, .val (.int z15), .val (.int (own_gd p0 p1 p3)), .val (.int (1 : Int32)), .val (.ref b25), .val (.ref b39), .val (.int (own_gd p0 p4 p3)), .val (.int (own_gd p4 p1 p3))] []))
      refine own_go (fun t k => XS.iload X57.here hx rfl (hb hby at_208) rfl k) ?_
      show own_G p e below (K_0 Z p0 p1 p2 p3 p4 d0 h0 n0 s) (T57.setTop (mkF m 210 #[.val (.int p0), .val (.int p1), .val (.int p2), .val (.int p3), .val (.int p4), .val (.ref b1), .val (.long (p3.toInt64)), .second, .val (.long (p0.toInt64)), .second, .val (.long (p1.toInt64)), .second, .val (.int z15), .val (.int (own_gd p0 p1 p3)), .val (.int (1 : Int32)), .val (.ref b25), .val (.ref b39), .val (.int (own_gd p0 p4 p3)), .val (.int (own_gd p4 p1 p3))] [(.int (own_gd p0 p1 p3))]))
      refine own_go (fun t k => XS.iload X57.here hx rfl (hb hby at_210) rfl k) ?_
      show own_G p e below (K_0 Z p0 p1 p2 p3 p4 d0 h0 n0 s) (T57.setTop (mkF m 212 #[.val (.int p0), .val (.int p1), .val (.int p2), .val (.int p3), .val (.int p4), .val (.ref b1), .val (.long (p3.toInt64)), .second, .val (.long (p0.toInt64)), .second, .val (.long (p1.toInt64)), .second, .val (.int z15), .val (.int (own_gd p0 p1 p3)), .val (.int (1 : Int32)), .val (.ref b25), .val (.ref b39), .val (.int (own_gd p0 p4 p3)), .val (.int (own_gd p4 p1 p3))] [(.int (own_gd p0 p4 p3)), (.int (own_gd p0 p1 p3))]))
      obtain ⟨z58, hz58⟩ : ∃ z : Int32, z = (if (own_gd p0 p4 p3) = (0 : Int32) then (if (own_gd p4 p1 p3) = (0 : Int32) then (0 : Int32) else (1 : Int32)) else (1 : Int32)) := ⟨_, rfl⟩
      suffices Jz58 : own_G p e below (K_0 Z p0 p1 p2 p3 p4 d0 h0 n0 s) (T57.setTop (mkF m 225 #[.val (.int p0), .val (.int p1), .val (.int p2), .val (.int p3), .val (.int p4), .val (.ref b1), .val (.long (p3.toInt64)), .second, .val (.long (p0.toInt64)), .second, .val (.long (p1.toInt64)), .second, .val (.int z15), .val (.int (own_gd p0 p1 p3)), .val (.int (1 : Int32)), .val (.ref b25), .val (.ref b39), .val (.int (own_gd p0 p4 p3)), .val (.int (own_gd p4 p1 p3))] [(.int z58), (.int (own_gd p0 p1 p3))])) by
        by_cases hc212_59 : (own_gd p0 p4 p3) = (0 : Int32)
        · skip
          rw [if_pos hc212_59] at hz58
          refine own_go (fun t k => XS.ifNo X57.here hx rfl (hb hby at_212) rfl ((if0 _ _).trans (teq hc212_59).2) k) ?_
          show own_G p e below (K_0 Z p0 p1 p2 p3 p4 d0 h0 n0 s) (T57.setTop (mkF m 215 #[.val (.int p0), .val (.int p1), .val (.int p2), .val (.int p3), .val (.int p4), .val (.ref b1), .val (.long (p3.toInt64)), .second, .val (.long (p0.toInt64)), .second, .val (.long (p1.toInt64)), .second, .val (.int z15), .val (.int (own_gd p0 p1 p3)), .val (.int (1 : Int32)), .val (.ref b25), .val (.ref b39), .val (.int (own_gd p0 p4 p3)), .val (.int (own_gd p4 p1 p3))] [(.int (own_gd p0 p1 p3))]))
          refine own_go (fun t k => XS.iload X57.here hx rfl (hb hby at_215) rfl k) ?_
          show own_G p e below (K_0 Z p0 p1 p2 p3 p4 d0 h0 n0 s) (T57.setTop (mkF m 217 #[.val (.int p0), .val (.int p1), .val (.int p2), .val (.int p3), .val (.int p4), .val (.ref b1), .val (.long (p3.toInt64)), .second, .val (.long (p0.toInt64)), .second, .val (.long (p1.toInt64)), .second, .val (.int z15), .val (.int (own_gd p0 p1 p3)), .val (.int (1 : Int32)), .val (.ref b25), .val (.ref b39), .val (.int (own_gd p0 p4 p3)), .val (.int (own_gd p4 p1 p3))] [(.int (own_gd p4 p1 p3)), (.int (own_gd p0 p1 p3))]))
          by_cases hc217_60 : (own_gd p4 p1 p3) = (0 : Int32)
          · skip
            rw [if_pos hc217_60] at hz58
            refine own_go (fun t k => XS.ifYes X57.here hx rfl (pc0 := 217) (pc' := 224) rfl (hb hby at_217) rfl ((if0 _ _).trans (teq hc217_60).1) (by decide) (by decide) k) ?_
            show own_G p e below (K_0 Z p0 p1 p2 p3 p4 d0 h0 n0 s) (T57.setTop (mkF m 224 #[.val (.int p0), .val (.int p1), .val (.int p2), .val (.int p3), .val (.int p4), .val (.ref b1), .val (.long (p3.toInt64)), .second, .val (.long (p0.toInt64)), .second, .val (.long (p1.toInt64)), .second, .val (.int z15), .val (.int (own_gd p0 p1 p3)), .val (.int (1 : Int32)), .val (.ref b25), .val (.ref b39), .val (.int (own_gd p0 p4 p3)), .val (.int (own_gd p4 p1 p3))] [(.int (own_gd p0 p1 p3))]))
            refine own_go (fun t k => XS.iconst X57.here hx rfl (hb hby at_224) k) ?_
            show own_G p e below (K_0 Z p0 p1 p2 p3 p4 d0 h0 n0 s) (T57.setTop (mkF m 225 #[.val (.int p0), .val (.int p1), .val (.int p2), .val (.int p3), .val (.int p4), .val (.ref b1), .val (.long (p3.toInt64)), .second, .val (.long (p0.toInt64)), .second, .val (.long (p1.toInt64)), .second, .val (.int z15), .val (.int (own_gd p0 p1 p3)), .val (.int (1 : Int32)), .val (.ref b25), .val (.ref b39), .val (.int (own_gd p0 p4 p3)), .val (.int (own_gd p4 p1 p3))] [(.int (0 : Int32)), (.int (own_gd p0 p1 p3))]))
            subst hz58; exact Jz58
          · skip
            rw [if_neg hc217_60] at hz58
            refine own_go (fun t k => XS.ifNo X57.here hx rfl (hb hby at_217) rfl ((if0 _ _).trans (feq hc217_60).1) k) ?_
            show own_G p e below (K_0 Z p0 p1 p2 p3 p4 d0 h0 n0 s) (T57.setTop (mkF m 220 #[.val (.int p0), .val (.int p1), .val (.int p2), .val (.int p3), .val (.int p4), .val (.ref b1), .val (.long (p3.toInt64)), .second, .val (.long (p0.toInt64)), .second, .val (.long (p1.toInt64)), .second, .val (.int z15), .val (.int (own_gd p0 p1 p3)), .val (.int (1 : Int32)), .val (.ref b25), .val (.ref b39), .val (.int (own_gd p0 p4 p3)), .val (.int (own_gd p4 p1 p3))] [(.int (own_gd p0 p1 p3))]))
            refine own_go (fun t k => XS.iconst X57.here hx rfl (hb hby at_220) k) ?_
            show own_G p e below (K_0 Z p0 p1 p2 p3 p4 d0 h0 n0 s) (T57.setTop (mkF m 221 #[.val (.int p0), .val (.int p1), .val (.int p2), .val (.int p3), .val (.int p4), .val (.ref b1), .val (.long (p3.toInt64)), .second, .val (.long (p0.toInt64)), .second, .val (.long (p1.toInt64)), .second, .val (.int z15), .val (.int (own_gd p0 p1 p3)), .val (.int (1 : Int32)), .val (.ref b25), .val (.ref b39), .val (.int (own_gd p0 p4 p3)), .val (.int (own_gd p4 p1 p3))] [(.int (1 : Int32)), (.int (own_gd p0 p1 p3))]))
            refine own_go (fun t k => XS.goto X57.here hx rfl (pc0 := 221) (pc' := 225) rfl (hb hby at_221) (by decide) (by decide) k) ?_
            show own_G p e below (K_0 Z p0 p1 p2 p3 p4 d0 h0 n0 s) (T57.setTop (mkF m 225 #[.val (.int p0), .val (.int p1), .val (.int p2), .val (.int p3), .val (.int p4), .val (.ref b1), .val (.long (p3.toInt64)), .second, .val (.long (p0.toInt64)), .second, .val (.long (p1.toInt64)), .second, .val (.int z15), .val (.int (own_gd p0 p1 p3)), .val (.int (1 : Int32)), .val (.ref b25), .val (.ref b39), .val (.int (own_gd p0 p4 p3)), .val (.int (own_gd p4 p1 p3))] [(.int (1 : Int32)), (.int (own_gd p0 p1 p3))]))
            subst hz58; exact Jz58
        · skip
          rw [if_neg hc212_59] at hz58
          refine own_go (fun t k => XS.ifYes X57.here hx rfl (pc0 := 212) (pc' := 220) rfl (hb hby at_212) rfl ((if0 _ _).trans (feq hc212_59).2) (by decide) (by decide) k) ?_
          show own_G p e below (K_0 Z p0 p1 p2 p3 p4 d0 h0 n0 s) (T57.setTop (mkF m 220 #[.val (.int p0), .val (.int p1), .val (.int p2), .val (.int p3), .val (.int p4), .val (.ref b1), .val (.long (p3.toInt64)), .second, .val (.long (p0.toInt64)), .second, .val (.long (p1.toInt64)), .second, .val (.int z15), .val (.int (own_gd p0 p1 p3)), .val (.int (1 : Int32)), .val (.ref b25), .val (.ref b39), .val (.int (own_gd p0 p4 p3)), .val (.int (own_gd p4 p1 p3))] [(.int (own_gd p0 p1 p3))]))
          refine own_go (fun t k => XS.iconst X57.here hx rfl (hb hby at_220) k) ?_
          show own_G p e below (K_0 Z p0 p1 p2 p3 p4 d0 h0 n0 s) (T57.setTop (mkF m 221 #[.val (.int p0), .val (.int p1), .val (.int p2), .val (.int p3), .val (.int p4), .val (.ref b1), .val (.long (p3.toInt64)), .second, .val (.long (p0.toInt64)), .second, .val (.long (p1.toInt64)), .second, .val (.int z15), .val (.int (own_gd p0 p1 p3)), .val (.int (1 : Int32)), .val (.ref b25), .val (.ref b39), .val (.int (own_gd p0 p4 p3)), .val (.int (own_gd p4 p1 p3))] [(.int (1 : Int32)), (.int (own_gd p0 p1 p3))]))
          refine own_go (fun t k => XS.goto X57.here hx rfl (pc0 := 221) (pc' := 225) rfl (hb hby at_221) (by decide) (by decide) k) ?_
          show own_G p e below (K_0 Z p0 p1 p2 p3 p4 d0 h0 n0 s) (T57.setTop (mkF m 225 #[.val (.int p0), .val (.int p1), .val (.int p2), .val (.int p3), .val (.int p4), .val (.ref b1), .val (.long (p3.toInt64)), .second, .val (.long (p0.toInt64)), .second, .val (.long (p1.toInt64)), .second, .val (.int z15), .val (.int (own_gd p0 p1 p3)), .val (.int (1 : Int32)), .val (.ref b25), .val (.ref b39), .val (.int (own_gd p0 p4 p3)), .val (.int (own_gd p4 p1 p3))] [(.int (1 : Int32)), (.int (own_gd p0 p1 p3))]))
          subst hz58; exact Jz58
      show own_G p e below (K_0 Z p0 p1 p2 p3 p4 d0 h0 n0 s) (T57.setTop (mkF m 225 #[.val (.int p0), .val (.int p1), .val (.int p2), .val (.int p3), .val (.int p4), .val (.ref b1), .val (.long (p3.toInt64)), .second, .val (.long (p0.toInt64)), .second, .val (.long (p1.toInt64)), .second, .val (.int z15), .val (.int (own_gd p0 p1 p3)), .val (.int (1 : Int32)), .val (.ref b25), .val (.ref b39), .val (.int (own_gd p0 p4 p3)), .val (.int (own_gd p4 p1 p3))] [(.int z58), (.int (own_gd p0 p1 p3))]))
      refine own_go (fun t k => XS.icmpNo X57.here hx rfl (hb hby at_225) rfl (teq (own_l4 hc138_23 hc144_24 hz58)).2 k) ?_
      show own_G p e below (K_0 Z p0 p1 p2 p3 p4 d0 h0 n0 s) (T57.setTop (mkF m 228 #[.val (.int p0), .val (.int p1), .val (.int p2), .val (.int p3), .val (.int p4), .val (.ref b1), .val (.long (p3.toInt64)), .second, .val (.long (p0.toInt64)), .second, .val (.long (p1.toInt64)), .second, .val (.int z15), .val (.int (own_gd p0 p1 p3)), .val (.int (1 : Int32)), .val (.ref b25), .val (.ref b39), .val (.int (own_gd p0 p4 p3)), .val (.int (own_gd p4 p1 p3))] []))
      refine own_go (fun t k => XS.iconst X57.here hx rfl (hb hby at_228) k) ?_
      show own_G p e below (K_0 Z p0 p1 p2 p3 p4 d0 h0 n0 s) (T57.setTop (mkF m 229 #[.val (.int p0), .val (.int p1), .val (.int p2), .val (.int p3), .val (.int p4), .val (.ref b1), .val (.long (p3.toInt64)), .second, .val (.long (p0.toInt64)), .second, .val (.long (p1.toInt64)), .second, .val (.int z15), .val (.int (own_gd p0 p1 p3)), .val (.int (1 : Int32)), .val (.ref b25), .val (.ref b39), .val (.int (own_gd p0 p4 p3)), .val (.int (own_gd p4 p1 p3))] [(.int (1 : Int32))]))
      refine own_go (fun t k => XS.goto X57.here hx rfl (pc0 := 229) (pc' := 233) rfl (hb hby at_229) (by decide) (by decide) k) ?_
      show own_G p e below (K_0 Z p0 p1 p2 p3 p4 d0 h0 n0 s) (T57.setTop (mkF m 233 #[.val (.int p0), .val (.int p1), .val (.int p2), .val (.int p3), .val (.int p4), .val (.ref b1), .val (.long (p3.toInt64)), .second, .val (.long (p0.toInt64)), .second, .val (.long (p1.toInt64)), .second, .val (.int z15), .val (.int (own_gd p0 p1 p3)), .val (.int (1 : Int32)), .val (.ref b25), .val (.ref b39), .val (.int (own_gd p0 p4 p3)), .val (.int (own_gd p4 p1 p3))] [(.int (1 : Int32))]))
      refine own_go (fun t k => XS.istore X57.here hx rfl (hb hby at_233) rfl (l' := #[.val (.int p0), .val (.int p1), .val (.int p2), .val (.int p3), .val (.int p4), .val (.ref b1), .val (.long (p3.toInt64)), .second, .val (.long (p0.toInt64)), .second, .val (.long (p1.toInt64)), .second, .val (.int z15), .val (.int (own_gd p0 p1 p3)), .val (.int (1 : Int32)), .val (.ref b25), .val (.ref b39), .val (.int (own_gd p0 p4 p3)), .val (.int (own_gd p4 p1 p3))]) rfl k) ?_
      show own_G p e below (K_0 Z p0 p1 p2 p3 p4 d0 h0 n0 s) (T57.setTop (mkF m 235 #[.val (.int p0), .val (.int p1), .val (.int p2), .val (.int p3), .val (.int p4), .val (.ref b1), .val (.long (p3.toInt64)), .second, .val (.long (p0.toInt64)), .second, .val (.long (p1.toInt64)), .second, .val (.int z15), .val (.int (own_gd p0 p1 p3)), .val (.int (1 : Int32)), .val (.ref b25), .val (.ref b39), .val (.int (own_gd p0 p4 p3)), .val (.int (own_gd p4 p1 p3))] []))
      refine own_go (fun t k => XS.iload X57.here hx rfl (hb hby at_235) rfl k) ?_
      show own_G p e below (K_0 Z p0 p1 p2 p3 p4 d0 h0 n0 s) (T57.setTop (mkF m 237 #[.val (.int p0), .val (.int p1), .val (.int p2), .val (.int p3), .val (.int p4), .val (.ref b1), .val (.long (p3.toInt64)), .second, .val (.long (p0.toInt64)), .second, .val (.long (p1.toInt64)), .second, .val (.int z15), .val (.int (own_gd p0 p1 p3)), .val (.int (1 : Int32)), .val (.ref b25), .val (.ref b39), .val (.int (own_gd p0 p4 p3)), .val (.int (own_gd p4 p1 p3))] [(.int (1 : Int32))]))
      refine own_go (fun t k => XS.ifNo X57.here hx rfl (hb hby at_237) rfl ((if0 _ _).trans (by decide)) k) ?_
      show own_G p e below (K_0 Z p0 p1 p2 p3 p4 d0 h0 n0 s) (T57.setTop (mkF m 240 #[.val (.int p0), .val (.int p1), .val (.int p2), .val (.int p3), .val (.int p4), .val (.ref b1), .val (.long (p3.toInt64)), .second, .val (.long (p0.toInt64)), .second, .val (.long (p1.toInt64)), .second, .val (.int z15), .val (.int (own_gd p0 p1 p3)), .val (.int (1 : Int32)), .val (.ref b25), .val (.ref b39), .val (.int (own_gd p0 p4 p3)), .val (.int (own_gd p4 p1 p3))] []))
      refine own_go (fun t k => XS.iload X57.here hx rfl (hb hby at_240) rfl k) ?_
      show own_G p e below (K_0 Z p0 p1 p2 p3 p4 d0 h0 n0 s) (T57.setTop (mkF m 242 #[.val (.int p0), .val (.int p1), .val (.int p2), .val (.int p3), .val (.int p4), .val (.ref b1), .val (.long (p3.toInt64)), .second, .val (.long (p0.toInt64)), .second, .val (.long (p1.toInt64)), .second, .val (.int z15), .val (.int (own_gd p0 p1 p3)), .val (.int (1 : Int32)), .val (.ref b25), .val (.ref b39), .val (.int (own_gd p0 p4 p3)), .val (.int (own_gd p4 p1 p3))] [(.int (own_gd p0 p4 p3))]))
      by_cases hc242_61 : (own_gd p0 p4 p3) = (0 : Int32)
      · skip
        refine own_go (fun t k => XS.ifYes X57.here hx rfl (pc0 := 242) (pc' := 250) rfl (hb hby at_242) rfl ((if0 _ _).trans (teq hc242_61).1) (by decide) (by decide) k) ?_
        show own_G p e below (K_0 Z p0 p1 p2 p3 p4 d0 h0 n0 s) (T57.setTop (mkF m 250 #[.val (.int p0), .val (.int p1), .val (.int p2), .val (.int p3), .val (.int p4), .val (.ref b1), .val (.long (p3.toInt64)), .second, .val (.long (p0.toInt64)), .second, .val (.long (p1.toInt64)), .second, .val (.int z15), .val (.int (own_gd p0 p1 p3)), .val (.int (1 : Int32)), .val (.ref b25), .val (.ref b39), .val (.int (own_gd p0 p4 p3)), .val (.int (own_gd p4 p1 p3))] []))
        refine own_go (fun t k => XS.iconst X57.here hx rfl (hb hby at_250) k) ?_
        show own_G p e below (K_0 Z p0 p1 p2 p3 p4 d0 h0 n0 s) (T57.setTop (mkF m 251 #[.val (.int p0), .val (.int p1), .val (.int p2), .val (.int p3), .val (.int p4), .val (.ref b1), .val (.long (p3.toInt64)), .second, .val (.long (p0.toInt64)), .second, .val (.long (p1.toInt64)), .second, .val (.int z15), .val (.int (own_gd p0 p1 p3)), .val (.int (1 : Int32)), .val (.ref b25), .val (.ref b39), .val (.int (own_gd p0 p4 p3)), .val (.int (own_gd p4 p1 p3))] [(.int (1 : Int32))]))
        refine own_go (fun t k => XS.goto X57.here hx rfl (pc0 := 251) (pc' := 255) rfl (hb hby at_251) (by decide) (by decide) k) ?_
        show own_G p e below (K_0 Z p0 p1 p2 p3 p4 d0 h0 n0 s) (T57.setTop (mkF m 255 #[.val (.int p0), .val (.int p1), .val (.int p2), .val (.int p3), .val (.int p4), .val (.ref b1), .val (.long (p3.toInt64)), .second, .val (.long (p0.toInt64)), .second, .val (.long (p1.toInt64)), .second, .val (.int z15), .val (.int (own_gd p0 p1 p3)), .val (.int (1 : Int32)), .val (.ref b25), .val (.ref b39), .val (.int (own_gd p0 p4 p3)), .val (.int (own_gd p4 p1 p3))] [(.int (1 : Int32))]))
        refine own_go (fun t k => XS.istore X57.here hx rfl (hb hby at_255) rfl (l' := #[.val (.int p0), .val (.int p1), .val (.int p2), .val (.int p3), .val (.int p4), .val (.ref b1), .val (.long (p3.toInt64)), .second, .val (.long (p0.toInt64)), .second, .val (.long (p1.toInt64)), .second, .val (.int z15), .val (.int (own_gd p0 p1 p3)), .val (.int (1 : Int32)), .val (.ref b25), .val (.ref b39), .val (.int (own_gd p0 p4 p3)), .val (.int (own_gd p4 p1 p3))]) rfl k) ?_
        show own_G p e below (K_0 Z p0 p1 p2 p3 p4 d0 h0 n0 s) (T57.setTop (mkF m 257 #[.val (.int p0), .val (.int p1), .val (.int p2), .val (.int p3), .val (.int p4), .val (.ref b1), .val (.long (p3.toInt64)), .second, .val (.long (p0.toInt64)), .second, .val (.long (p1.toInt64)), .second, .val (.int z15), .val (.int (own_gd p0 p1 p3)), .val (.int (1 : Int32)), .val (.ref b25), .val (.ref b39), .val (.int (own_gd p0 p4 p3)), .val (.int (own_gd p4 p1 p3))] []))
        refine own_go (fun t k => XS.iload X57.here hx rfl (hb hby at_257) rfl k) ?_
        show own_G p e below (K_0 Z p0 p1 p2 p3 p4 d0 h0 n0 s) (T57.setTop (mkF m 259 #[.val (.int p0), .val (.int p1), .val (.int p2), .val (.int p3), .val (.int p4), .val (.ref b1), .val (.long (p3.toInt64)), .second, .val (.long (p0.toInt64)), .second, .val (.long (p1.toInt64)), .second, .val (.int z15), .val (.int (own_gd p0 p1 p3)), .val (.int (1 : Int32)), .val (.ref b25), .val (.ref b39), .val (.int (own_gd p0 p4 p3)), .val (.int (own_gd p4 p1 p3))] [(.int (1 : Int32))]))
        exact own_retN X57 hx Bd.notSynchronized (t := .boolean) (z' := (1 : Int32)) Bd.returns (by simp) (hb hby at_259) rfl (fun U hU hV hF => ⟨_, _, rfl, ⟨rfl, N57⟩, hF.1, hF.2.1, hF.2.2.mono (by decide) (by decide)⟩)
      · skip
        refine own_go (fun t k => XS.ifNo X57.here hx rfl (hb hby at_242) rfl ((if0 _ _).trans (feq hc242_61).1) k) ?_
        show own_G p e below (K_0 Z p0 p1 p2 p3 p4 d0 h0 n0 s) (T57.setTop (mkF m 245 #[.val (.int p0), .val (.int p1), .val (.int p2), .val (.int p3), .val (.int p4), .val (.ref b1), .val (.long (p3.toInt64)), .second, .val (.long (p0.toInt64)), .second, .val (.long (p1.toInt64)), .second, .val (.int z15), .val (.int (own_gd p0 p1 p3)), .val (.int (1 : Int32)), .val (.ref b25), .val (.ref b39), .val (.int (own_gd p0 p4 p3)), .val (.int (own_gd p4 p1 p3))] []))
        refine own_go (fun t k => XS.iload X57.here hx rfl (hb hby at_245) rfl k) ?_
        show own_G p e below (K_0 Z p0 p1 p2 p3 p4 d0 h0 n0 s) (T57.setTop (mkF m 247 #[.val (.int p0), .val (.int p1), .val (.int p2), .val (.int p3), .val (.int p4), .val (.ref b1), .val (.long (p3.toInt64)), .second, .val (.long (p0.toInt64)), .second, .val (.long (p1.toInt64)), .second, .val (.int z15), .val (.int (own_gd p0 p1 p3)), .val (.int (1 : Int32)), .val (.ref b25), .val (.ref b39), .val (.int (own_gd p0 p4 p3)), .val (.int (own_gd p4 p1 p3))] [(.int (own_gd p4 p1 p3))]))
        refine own_go (fun t k => XS.ifNo X57.here hx rfl (hb hby at_247) rfl ((if0 _ _).trans (teq (own_l5 hc242_61)).2) k) ?_
        show own_G p e below (K_0 Z p0 p1 p2 p3 p4 d0 h0 n0 s) (T57.setTop (mkF m 250 #[.val (.int p0), .val (.int p1), .val (.int p2), .val (.int p3), .val (.int p4), .val (.ref b1), .val (.long (p3.toInt64)), .second, .val (.long (p0.toInt64)), .second, .val (.long (p1.toInt64)), .second, .val (.int z15), .val (.int (own_gd p0 p1 p3)), .val (.int (1 : Int32)), .val (.ref b25), .val (.ref b39), .val (.int (own_gd p0 p4 p3)), .val (.int (own_gd p4 p1 p3))] []))
        refine own_go (fun t k => XS.iconst X57.here hx rfl (hb hby at_250) k) ?_
        show own_G p e below (K_0 Z p0 p1 p2 p3 p4 d0 h0 n0 s) (T57.setTop (mkF m 251 #[.val (.int p0), .val (.int p1), .val (.int p2), .val (.int p3), .val (.int p4), .val (.ref b1), .val (.long (p3.toInt64)), .second, .val (.long (p0.toInt64)), .second, .val (.long (p1.toInt64)), .second, .val (.int z15), .val (.int (own_gd p0 p1 p3)), .val (.int (1 : Int32)), .val (.ref b25), .val (.ref b39), .val (.int (own_gd p0 p4 p3)), .val (.int (own_gd p4 p1 p3))] [(.int (1 : Int32))]))
        refine own_go (fun t k => XS.goto X57.here hx rfl (pc0 := 251) (pc' := 255) rfl (hb hby at_251) (by decide) (by decide) k) ?_
        show own_G p e below (K_0 Z p0 p1 p2 p3 p4 d0 h0 n0 s) (T57.setTop (mkF m 255 #[.val (.int p0), .val (.int p1), .val (.int p2), .val (.int p3), .val (.int p4), .val (.ref b1), .val (.long (p3.toInt64)), .second, .val (.long (p0.toInt64)), .second, .val (.long (p1.toInt64)), .second, .val (.int z15), .val (.int (own_gd p0 p1 p3)), .val (.int (1 : Int32)), .val (.ref b25), .val (.ref b39), .val (.int (own_gd p0 p4 p3)), .val (.int (own_gd p4 p1 p3))] [(.int (1 : Int32))]))
        refine own_go (fun t k => XS.istore X57.here hx rfl (hb hby at_255) rfl (l' := #[.val (.int p0), .val (.int p1), .val (.int p2), .val (.int p3), .val (.int p4), .val (.ref b1), .val (.long (p3.toInt64)), .second, .val (.long (p0.toInt64)), .second, .val (.long (p1.toInt64)), .second, .val (.int z15), .val (.int (own_gd p0 p1 p3)), .val (.int (1 : Int32)), .val (.ref b25), .val (.ref b39), .val (.int (own_gd p0 p4 p3)), .val (.int (own_gd p4 p1 p3))]) rfl k) ?_
        show own_G p e below (K_0 Z p0 p1 p2 p3 p4 d0 h0 n0 s) (T57.setTop (mkF m 257 #[.val (.int p0), .val (.int p1), .val (.int p2), .val (.int p3), .val (.int p4), .val (.ref b1), .val (.long (p3.toInt64)), .second, .val (.long (p0.toInt64)), .second, .val (.long (p1.toInt64)), .second, .val (.int z15), .val (.int (own_gd p0 p1 p3)), .val (.int (1 : Int32)), .val (.ref b25), .val (.ref b39), .val (.int (own_gd p0 p4 p3)), .val (.int (own_gd p4 p1 p3))] []))
        refine own_go (fun t k => XS.iload X57.here hx rfl (hb hby at_257) rfl k) ?_
        show own_G p e below (K_0 Z p0 p1 p2 p3 p4 d0 h0 n0 s) (T57.setTop (mkF m 259 #[.val (.int p0), .val (.int p1), .val (.int p2), .val (.int p3), .val (.int p4), .val (.ref b1), .val (.long (p3.toInt64)), .second, .val (.long (p0.toInt64)), .second, .val (.long (p1.toInt64)), .second, .val (.int z15), .val (.int (own_gd p0 p1 p3)), .val (.int (1 : Int32)), .val (.ref b25), .val (.ref b39), .val (.int (own_gd p0 p4 p3)), .val (.int (own_gd p4 p1 p3))] [(.int (1 : Int32))]))
        exact own_retN X57 hx Bd.notSynchronized (t := .boolean) (z' := (1 : Int32)) Bd.returns (by simp) (hb hby at_259) rfl (fun U hU hV hF => ⟨_, _, rfl, ⟨rfl, N57⟩, hF.1, hF.2.1, hF.2.2.mono (by decide) (by decide)⟩)
set_option maxRecDepth 65536 in
set_option maxHeartbeats 40000000 in
theorem comes_1 {Post : Tables → Env → Array Value → State → Outcome → State → Prop} (hpost : ∀ tb e args s v u, (limb_1_1.after args s (.returned v) u = true ∧ limb_1_2.after args s (.returned v) u = true ∧ True) → FrameEnd s (.returned v) u (Jvm.fieldLocs frame_1_writes args s ++ Jvm.arrayLocs frame_1_arrays args s ++ Jvm.staticLocs frame_1_statics s) 24 128 → Post tb e args s (.returned v) u) :
    ArmFor flags0 classFile x code maxLocals ret World_1 tables_1 room_1 Calls_1 rest_1 Pre_1 Post := by
  intro l hfl _ _ p e ha hc hk s m args below hf hA hF happ hP
  obtain ⟨hcalls, hrest, hpre⟩ := hP
  obtain ⟨-, -, -, hnamed, -, -, -, hat⟩ := (Spec.applies_iff hf).mp happ
  obtain ⟨hg, hn⟩ := and_e (Cond.before_iff.mp (show (Jvm.Cond.and given_1 narrow_1).before args s = true from hpre))
  obtain ⟨hcnt, hg0⟩ := and_e hg
  obtain ⟨hv0, hg1⟩ := and_e hg0
  obtain ⟨hv1, hg2⟩ := and_e hg1
  obtain ⟨hv2, hg3⟩ := and_e hg2
  obtain ⟨hv3, hg4⟩ := and_e hg3
  obtain ⟨w0, w1, w2, w3, w4, rfl⟩ : ∃ w0 w1 w2 w3 w4 : Value, args = #[w0, w1, w2, w3, w4] := by
    have hs : args.size = 5 := by simpa [Cond.value, given_1] using hcnt
    obtain ⟨L⟩ := args
    match L, hs with
    | [w0, w1, w2, w3, w4], _ => exact ⟨w0, w1, w2, w3, w4, rfl⟩
  have hw := fun d (hd : d ∈ tables_1) => atoms_spec (ws := Jvm.Cond.code x code maxLocals ret :: tables_1) hat d (List.mem_cons_of_mem _ hd)
  have hfit : Fit s := fun {y c} hc i hi => by
    obtain ⟨ha, rfl⟩ := Array.getElem?_eq_some_iff.mp hc
    have q := List.all_eq_true.mp ((Array.all_eq_true_iff_forall_mem.mp hF) _ (Array.getElem_mem ha)) i (List.mem_range.mpr hi)
    simpa [Array.getElem?_eq_getElem hi] using q
  obtain ⟨hsets, hown0⟩ := atoms_of _ (rest_1_c_eq ▸ (show rest_1_c.before _ s = true from hrest))
  obtain ⟨i0, ei0⟩ := is_v hv0
  obtain rfl : w0 = (.int i0) := Option.some.inj ei0
  obtain ⟨i1, ei1⟩ := is_v hv1
  obtain rfl : w1 = (.int i1) := Option.some.inj ei1
  obtain ⟨i2, ei2⟩ := is_v hv2
  obtain rfl : w2 = (.int i2) := Option.some.inj ei2
  obtain ⟨i3, ei3⟩ := is_v hv3
  obtain rfl : w3 = (.int i3) := Option.some.inj ei3
  obtain ⟨i4, ei4⟩ := is_v hg4
  obtain rfl : w4 = (.int i4) := Option.some.inj ei4
  obtain ⟨d0, t0⟩ := arr_v (Cond.before_iff.mp (hsets _ (List.mem_of_getElem? (i := 6) rfl)))
  have S0 := Sta.start t0 (Or.inr ⟨(hw _ (List.mem_of_getElem? (i := 5) rfl)), hsets _ (List.mem_of_getElem? (i := 2) rfl)⟩)
  obtain ⟨n, o, h1, h2, h3, _, L, rfl, ⟨rfl, N⟩, hq⟩ := rm_0 l s _ hw tables_1 i0 i1 i2 i3 i4 d0 s.heap s.heap.size (Nat.le_refl _) S0 p e ha hc hk s m _ below hf ((Spec.applies_iff_loose hf).mp happ).1 ⟨rfl, State.Warmed39.refl s, rfl⟩ trivial
  refine ⟨n, _, h1, h2, h3, hpost _ _ _ _ _ _ ⟨Cond.after_iff.mpr rfl, Cond.after_iff.mpr (eq_i res_at (Term.int_eval (1)) rfl), trivial⟩ ⟨hq.1, hq.2.1, (hq.2.2.sift fun y hy => Or.inr (N y hy)).mono (by decide) (by decide)⟩⟩
theorem main_1_1 : Claimed_1_1 := comes_1 fun _ _ _ _ _ _ h hF => ⟨h.1, hF⟩
theorem main_1_2 : Claimed_1_2 := comes_1 fun _ _ _ _ _ _ h hF => ⟨h.2.1, hF⟩
end Jvm.Pilot.@@N@@
namespace Jvm.Pilot.@@N@@
open Jvm Jvm.ClassFile Sem Op Lib Jvm.Free Jvm.Stand Jvm.Pilot.@@N@@.Jvm.D
/-! MADE BY PROGRAM (witnessworld.py) out of the Statement's table words and the real class files: 19 classes; the members and pool entries that the words name. The judged class is class 1, her method 1. -/
namespace start1
open Jvm.ClassFile
def u (s : String) : CpInfo := .utf8 (stringToUtf16 s)
/-- a pool by its gaps: so many unusable entries, then the entry; so many at the end -/
def gap : Nat → List CpInfo → List CpInfo
  | 0, r => r
  | n + 1, r => .unusable :: gap n r
def poolList (es : List (Nat × CpInfo)) (last : Nat) : List CpInfo := es.foldr (fun e r => gap e.1 (e.2 :: r)) (gap last [])
def pool (es : List (Nat × CpInfo)) (last : Nat) : Array CpInfo := ⟨poolList es last⟩
def fileOf (pool : Array CpInfo) (this : Nat) (attrs : Array Attribute := #[]) (ms : Array MethodInfo := #[]) (fl : Nat := 33) (sup : Nat := 0) (ifs : Array Nat := #[]) (fds : Array FieldInfo := #[]) : ClassFile where
  minorVersion := 0
  majorVersion := 65
  constantPool := pool
  accessFlags := fl
  thisClass := this
  superClass := sup
  interfaces := ifs
  fields := fds
  methods := ms
  attributes := attrs
def plain (name : String) (sup : Option ClassId) : Class where
  name := name
  kind := .ordinary
  loader := none
  accessFlags := 33
  super := sup
  interfaces := #[]
  cf := none
  fields := #[]
  methods := #[]
  instanceTypes := #[]
  staticTypes := #[]
  resolved := #[]
  callSites := []
  init := .initialized
  statics := none
  mirror := none

def pool0 : Array CpInfo := pool [(5, u "<init>"), (0, u "()V"), (1, .class_ 10), (1, u "java/lang/Object")] 113

def k0c0 : Code := { maxStack := 0, maxLocals := 1, code := object_method_1_code, exceptionTable := #[], attributes := #[] }
def k0m0 : Method := { name := "<init>", desc := "()V", sig := { parameters := [], returnType := none }, accessFlags := 1, code := some k0c0 }
/-- java/lang/Object -/
def k0 : Class := { plain "java/lang/Object" none with
  accessFlags := 33
  interfaces := #[]
  cf := some (fileOf pool0 8 #[] #[{ accessFlags := 1, nameIndex := 5, descriptorIndex := 6, attributes := #[] }] 33 0 #[] #[])
  fields := #[]
  methods := #[k0m0]
  instanceTypes := #[]
  staticTypes := #[]
  resolved := Array.replicate 124 none
  statics := none }

def pool1 : Array CpInfo := pool [(2, .class_ 4), (0, .nameAndType 5 6), (0, u "java/lang/Object"), (0, u "<init>"), (0, u "()V"), (0, .class_ 8), (0, u "com/example/routines_in_transactions/routinesintransactions/engine/BoundRoutine$Guard"), (0, .class_ 10), (0, u "java/util/ArrayList"), (0, .methodref 9 3), (0, .methodref 7 13), (0, .nameAndType 5 14), (0, u "(IIILjava/util/List;)V"), (0, .methodref 7 16), (0, .nameAndType 17 18), (0, u "guards"), (0, u "(I)Z"), (0, .class_ 20), (0, u "com/example/routines_in_transactions/routinesintransactions/engine/GuardGuardsPinLaw"), (2, u "law"), (0, u "(IIIII)Z")] 7

def k1m0 : Method := { name := "<init>", desc := "()V", sig := { parameters := [], returnType := none }, accessFlags := 2, code := none }
def k1c1 : Code := { maxStack := 7, maxLocals := 19, code := code, exceptionTable := #[], attributes := #[] }
def k1m1 : Method := { name := "law", desc := "(IIIII)Z", sig := { parameters := [.int, .int, .int, .int, .int], returnType := some .boolean }, accessFlags := 9, code := some k1c1 }
/-- com/example/routines_in_transactions/routinesintransactions/engine/GuardGuardsPinLaw -/
def k1 : Class := { plain "com/example/routines_in_transactions/routinesintransactions/engine/GuardGuardsPinLaw" (some 0) with
  accessFlags := 49
  interfaces := #[]
  cf := some (fileOf pool1 19 #[] #[{ accessFlags := 2, nameIndex := 5, descriptorIndex := 6, attributes := #[] }, { accessFlags := 9, nameIndex := 23, descriptorIndex := 24, attributes := #[] }] 49 2 #[] #[])
  fields := #[]
  methods := #[k1m0, k1m1]
  instanceTypes := #[]
  staticTypes := #[]
  resolved := Array.replicate 32 none
  statics := none }

def pool2 : Array CpInfo := pool [(1, .methodref 2 3), (0, .class_ 4), (0, .nameAndType 5 6), (0, u "java/lang/Object"), (0, u "<init>"), (0, u "()V"), (0, .class_ 8), (0, u "java/lang/Record")] 13

def k2c0 : Code := { maxStack := 1, maxLocals := 1, code := jdk_30_method_1_code, exceptionTable := #[], attributes := #[] }
def k2m0 : Method := { name := "<init>", desc := "()V", sig := { parameters := [], returnType := none }, accessFlags := 4, code := some k2c0 }
/-- java/lang/Record -/
def k2 : Class := { plain "java/lang/Record" (some 0) with
  accessFlags := 1057
  interfaces := #[]
  cf := some (fileOf pool2 7 #[] #[{ accessFlags := 4, nameIndex := 5, descriptorIndex := 6, attributes := #[] }] 1057 2 #[] #[])
  fields := #[]
  methods := #[k2m0]
  instanceTypes := #[]
  staticTypes := #[]
  resolved := Array.replicate 22 none
  statics := none }

def pool3 : Array CpInfo := pool [(1, .methodref 2 3), (0, .class_ 4), (0, .nameAndType 5 6), (0, u "java/lang/Record"), (0, u "<init>"), (0, u "()V"), (0, .fieldref 8 9), (0, .class_ 10), (0, .nameAndType 11 12), (0, u "com/example/routines_in_transactions/routinesintransactions/engine/BoundRoutine$Guard"), (0, u "from"), (0, u "I"), (0, .fieldref 8 14), (0, .nameAndType 15 12), (0, u "to"), (0, .fieldref 8 17), (0, .nameAndType 18 12), (0, u "depth"), (0, .fieldref 8 20), (0, .nameAndType 21 22), (0, u "handlers"), (0, u "Ljava/util/List;"), (34, u "(IIILjava/util/List;)V"), (4, u "guards"), (0, u "(I)Z"), (10, .class_ 75), (0, u "com/example/routines_in_transactions/routinesintransactions/engine/BoundRoutine")] 23

def k3c0 : Code := { maxStack := 2, maxLocals := 5, code := prog_20_method_1_code, exceptionTable := #[], attributes := #[] }
def k3m0 : Method := { name := "<init>", desc := "(IIILjava/util/List;)V", sig := { parameters := [.int, .int, .int, (.object "java/util/List")], returnType := none }, accessFlags := 0, code := some k3c0 }
def k3c1 : Code := { maxStack := 2, maxLocals := 2, code := prog_20_method_2_code, exceptionTable := #[], attributes := #[] }
def k3m1 : Method := { name := "guards", desc := "(I)Z", sig := { parameters := [.int], returnType := some .boolean }, accessFlags := 0, code := some k3c1 }
/-- com/example/routines_in_transactions/routinesintransactions/engine/BoundRoutine$Guard -/
def k3 : Class := { plain "com/example/routines_in_transactions/routinesintransactions/engine/BoundRoutine$Guard" (some 2) with
  accessFlags := 48
  interfaces := #[]
  cf := some (fileOf pool3 8 #[.nestHost 74] #[{ accessFlags := 0, nameIndex := 5, descriptorIndex := 57, attributes := #[] }, { accessFlags := 0, nameIndex := 62, descriptorIndex := 63, attributes := #[] }] 48 2 #[] #[{ accessFlags := 18, nameIndex := 11, descriptorIndex := 12, attributes := #[] }, { accessFlags := 18, nameIndex := 15, descriptorIndex := 12, attributes := #[] }, { accessFlags := 18, nameIndex := 18, descriptorIndex := 12, attributes := #[] }, { accessFlags := 18, nameIndex := 21, descriptorIndex := 22, attributes := #[] }])
  fields := #[{ name := "from", type := .int, accessFlags := 18, slot := 0, constantValue := 0 }, { name := "to", type := .int, accessFlags := 18, slot := 1, constantValue := 0 }, { name := "depth", type := .int, accessFlags := 18, slot := 2, constantValue := 0 }, { name := "handlers", type := (.object "java/util/List"), accessFlags := 18, slot := 3, constantValue := 0 }]
  methods := #[k3m0, k3m1]
  instanceTypes := #[.int, .int, .int, (.object "java/util/List")]
  staticTypes := #[]
  resolved := Array.replicate 99 none
  statics := none }

def pool4 : Array CpInfo := pool [(8, .class_ 10), (1, u "java/lang/Iterable"), (24, .class_ 36), (0, u "java/lang/Object")] 25

/-- java/lang/Iterable -/
def k4 : Class := { plain "java/lang/Iterable" (some 0) with
  accessFlags := 1537
  interfaces := #[]
  cf := some (fileOf pool4 8 #[] #[] 1537 35 #[] #[])
  fields := #[]
  methods := #[]
  instanceTypes := #[]
  staticTypes := #[]
  resolved := Array.replicate 62 none
  statics := none }

def pool5 : Array CpInfo := pool [(10, .class_ 12), (1, u "java/util/Collection"), (47, .class_ 61), (0, u "java/lang/Object"), (0, .class_ 63), (0, u "java/lang/Iterable")] 51

/-- java/util/Collection -/
def k5 : Class := { plain "java/util/Collection" (some 0) with
  accessFlags := 1537
  interfaces := #[4]
  cf := some (fileOf pool5 10 #[] #[] 1537 60 #[62] #[])
  fields := #[]
  methods := #[]
  instanceTypes := #[]
  staticTypes := #[]
  resolved := Array.replicate 115 none
  statics := none }

def pool6 : Array CpInfo := pool [(1, .methodref 2 3), (0, .class_ 4), (0, .nameAndType 5 6), (0, u "java/lang/Object"), (0, u "<init>"), (0, u "()V"), (1, .class_ 10), (1, u "java/util/AbstractCollection"), (66, .class_ 78), (0, u "java/util/Collection")] 81

def k6c0 : Code := { maxStack := 1, maxLocals := 1, code := jdk_22_method_1_code, exceptionTable := #[], attributes := #[] }
def k6m0 : Method := { name := "<init>", desc := "()V", sig := { parameters := [], returnType := none }, accessFlags := 4, code := some k6c0 }
/-- java/util/AbstractCollection -/
def k6 : Class := { plain "java/util/AbstractCollection" (some 0) with
  accessFlags := 1057
  interfaces := #[5]
  cf := some (fileOf pool6 8 #[] #[{ accessFlags := 4, nameIndex := 5, descriptorIndex := 6, attributes := #[] }] 1057 2 #[77] #[])
  fields := #[]
  methods := #[k6m0]
  instanceTypes := #[]
  staticTypes := #[]
  resolved := Array.replicate 160 none
  statics := none }

def pool7 : Array CpInfo := pool [(8, .class_ 10), (1, u "java/util/SequencedCollection"), (15, .class_ 27), (0, u "java/lang/Object"), (0, .class_ 29), (0, u "java/util/Collection")] 27

/-- java/util/SequencedCollection -/
def k7 : Class := { plain "java/util/SequencedCollection" (some 0) with
  accessFlags := 1537
  interfaces := #[5]
  cf := some (fileOf pool7 8 #[] #[] 1537 26 #[28] #[])
  fields := #[]
  methods := #[]
  instanceTypes := #[]
  staticTypes := #[]
  resolved := Array.replicate 57 none
  statics := none }

def pool8 : Array CpInfo := pool [(8, .class_ 10), (1, u "java/util/List"), (92, .class_ 104), (0, u "java/lang/Object"), (15, .class_ 121), (0, u "java/util/SequencedCollection")] 129

/-- java/util/List -/
def k8 : Class := { plain "java/util/List" (some 0) with
  accessFlags := 1537
  interfaces := #[7]
  cf := some (fileOf pool8 8 #[] #[] 1537 103 #[120] #[])
  fields := #[]
  methods := #[]
  instanceTypes := #[]
  staticTypes := #[]
  resolved := Array.replicate 251 none
  statics := none }

def pool9 : Array CpInfo := pool [(1, .methodref 2 3), (0, .class_ 4), (0, .nameAndType 5 6), (0, u "java/util/AbstractCollection"), (0, u "<init>"), (0, u "()V"), (0, .fieldref 8 9), (0, .class_ 10), (0, .nameAndType 11 12), (0, u "java/util/AbstractList"), (0, u "modCount"), (0, u "I"), (64, .class_ 78), (0, u "java/util/AbstractList$Itr"), (3, .class_ 83), (0, u "java/util/AbstractList$ListItr"), (9, .class_ 94), (0, u "java/util/AbstractList$RandomAccessSubList"), (3, .class_ 99), (0, u "java/util/AbstractList$SubList"), (33, .class_ 134), (0, u "java/util/List"), (73, .class_ 209), (0, u "java/util/AbstractList$SubList$1"), (0, .class_ 211), (0, u "java/util/AbstractList$RandomAccessSpliterator")] 6

def k9c0 : Code := { maxStack := 2, maxLocals := 1, code := jdk_39_method_1_code, exceptionTable := #[], attributes := #[] }
def k9m0 : Method := { name := "<init>", desc := "()V", sig := { parameters := [], returnType := none }, accessFlags := 4, code := some k9c0 }
/-- java/util/AbstractList -/
def k9 : Class := { plain "java/util/AbstractList" (some 6) with
  accessFlags := 1057
  interfaces := #[8]
  cf := some (fileOf pool9 8 #[.nestMembers #[93, 98, 208, 210, 82, 77]] #[{ accessFlags := 4, nameIndex := 5, descriptorIndex := 6, attributes := #[] }] 1057 2 #[133] #[{ accessFlags := 132, nameIndex := 11, descriptorIndex := 12, attributes := #[] }])
  fields := #[{ name := "modCount", type := .int, accessFlags := 132, slot := 0, constantValue := 0 }]
  methods := #[k9m0]
  instanceTypes := #[.int]
  staticTypes := #[]
  resolved := Array.replicate 218 none
  statics := none }

def pool10 : Array CpInfo := pool [(1, .class_ 2), (0, u "java/util/RandomAccess"), (0, .class_ 4), (0, u "java/lang/Object")] 2

/-- java/util/RandomAccess -/
def k10 : Class := { plain "java/util/RandomAccess" (some 0) with
  accessFlags := 1537
  interfaces := #[]
  cf := some (fileOf pool10 1 #[] #[] 1537 3 #[] #[])
  fields := #[]
  methods := #[]
  instanceTypes := #[]
  staticTypes := #[]
  resolved := Array.replicate 7 none
  statics := none }

def pool11 : Array CpInfo := pool [(1, .class_ 2), (0, u "java/lang/Cloneable"), (0, .class_ 4), (0, u "java/lang/Object")] 2

/-- java/lang/Cloneable -/
def k11 : Class := { plain "java/lang/Cloneable" (some 0) with
  accessFlags := 1537
  interfaces := #[]
  cf := some (fileOf pool11 1 #[] #[] 1537 3 #[] #[])
  fields := #[]
  methods := #[]
  instanceTypes := #[]
  staticTypes := #[]
  resolved := Array.replicate 7 none
  statics := none }

def pool12 : Array CpInfo := pool [(1, .class_ 2), (0, u "java/io/Serializable"), (0, .class_ 4), (0, u "java/lang/Object")] 2

/-- java/io/Serializable -/
def k12 : Class := { plain "java/io/Serializable" (some 0) with
  accessFlags := 1537
  interfaces := #[]
  cf := some (fileOf pool12 1 #[] #[] 1537 3 #[] #[])
  fields := #[]
  methods := #[]
  instanceTypes := #[]
  staticTypes := #[]
  resolved := Array.replicate 7 none
  statics := none }

def pool13 : Array CpInfo := pool [(1, .methodref 2 3), (0, .class_ 4), (0, .nameAndType 5 6), (0, u "java/util/AbstractList"), (0, u "<init>"), (0, u "()V"), (2, .fieldref 10 11), (0, .class_ 12), (0, .nameAndType 13 14), (0, u "java/util/ArrayList"), (0, u "elementData"), (0, u "[Ljava/lang/Object;"), (2, u "EMPTY_ELEMENTDATA"), (21, .fieldref 10 40), (0, .nameAndType 41 14), (0, u "DEFAULTCAPACITY_EMPTY_ELEMENTDATA"), (8, u "size"), (0, u "I"), (96, .class_ 149), (0, u "java/util/List"), (112, .class_ 263), (0, u "java/util/ArrayList$ListItr"), (3, .class_ 268), (0, u "java/util/ArrayList$Itr"), (7, .class_ 277), (0, u "java/util/ArrayList$SubList"), (12, .class_ 291), (0, u "java/util/ArrayList$ArrayListSpliterator"), (37, .class_ 330), (0, u "java/util/RandomAccess"), (0, .class_ 332), (0, u "java/lang/Cloneable"), (0, .class_ 334), (0, u "java/io/Serializable"), (0, u "serialVersionUID"), (0, u "J"), (3, u "DEFAULT_CAPACITY"), (159, .class_ 501), (0, u "java/util/ArrayList$SubList$2"), (0, .class_ 503), (0, u "java/util/ArrayList$SubList$1")] 5

def k13c0 : Code := { maxStack := 2, maxLocals := 1, code := jdk_38_method_2_code, exceptionTable := #[], attributes := #[] }
def k13m0 : Method := { name := "<init>", desc := "()V", sig := { parameters := [], returnType := none }, accessFlags := 1, code := some k13c0 }
/-- java/util/ArrayList -/
def k13 : Class := { plain "java/util/ArrayList" (some 9) with
  accessFlags := 33
  interfaces := #[8, 10, 11, 12]
  cf := some (fileOf pool13 10 #[.nestMembers #[290, 276, 500, 502, 262, 267]] #[{ accessFlags := 1, nameIndex := 5, descriptorIndex := 6, attributes := #[] }] 33 2 #[148, 329, 331, 333] #[{ accessFlags := 26, nameIndex := 335, descriptorIndex := 336, attributes := #[] }, { accessFlags := 26, nameIndex := 340, descriptorIndex := 51, attributes := #[] }, { accessFlags := 26, nameIndex := 17, descriptorIndex := 14, attributes := #[] }, { accessFlags := 26, nameIndex := 41, descriptorIndex := 14, attributes := #[] }, { accessFlags := 128, nameIndex := 13, descriptorIndex := 14, attributes := #[] }, { accessFlags := 2, nameIndex := 50, descriptorIndex := 51, attributes := #[] }])
  fields := #[{ name := "serialVersionUID", type := .long, accessFlags := 26, slot := 0, constantValue := 0 }, { name := "DEFAULT_CAPACITY", type := .int, accessFlags := 26, slot := 1, constantValue := 0 }, { name := "EMPTY_ELEMENTDATA", type := (.array (.object "java/lang/Object")), accessFlags := 26, slot := 2, constantValue := 0 }, { name := "DEFAULTCAPACITY_EMPTY_ELEMENTDATA", type := (.array (.object "java/lang/Object")), accessFlags := 26, slot := 3, constantValue := 0 }, { name := "elementData", type := (.array (.object "java/lang/Object")), accessFlags := 128, slot := 1, constantValue := 0 }, { name := "size", type := .int, accessFlags := 2, slot := 2, constantValue := 0 }]
  methods := #[k13m0]
  instanceTypes := #[.int, (.array (.object "java/lang/Object")), .int]
  staticTypes := #[.long, .int, (.array (.object "java/lang/Object")), (.array (.object "java/lang/Object"))]
  resolved := Array.replicate 509 none
  statics := some 0 }

/-- the primitive byte -/
def k14 : Class := { plain "byte" none with kind := .primitive 'B', accessFlags := 0x411 }
/-- [B -/
def k15 : Class := { plain "[B" (some 0) with kind := .array 14 .byte, interfaces := #[11, 12], accessFlags := 1041 }

/-- the primitive int -/
def k16 : Class := { plain "int" none with kind := .primitive 'I', accessFlags := 0x411 }
/-- [I -/
def k17 : Class := { plain "[I" (some 0) with kind := .array 16 .int, interfaces := #[11, 12], accessFlags := 1041 }

/-- [Ljava/lang/Object; -/
def k18 : Class := { plain "[Ljava/lang/Object;" (some 0) with kind := .array 0 (.object "java/lang/Object"), interfaces := #[11, 12], accessFlags := 1041 }

def heap : Heap := #[{ cls := 13, slots := #[.long 0, .int 0, .ref 1, .ref 2], vm := .statics 13 },
  { cls := 18, slots := #[], vm := .none },
  { cls := 18, slots := #[], vm := .none }]
def classes : Array Class := #[k0, k1, k2, k3, k4, k5, k6, k7, k8, k9, k10, k11, k12, k13, k14, k15, k16, k17, k18]
def interned : List (Array UInt16 × Addr) := []
def slotsUsed : Nat := 4
def theMethod : MethodId := ⟨1, 1⟩
def args0 : Array Value := #[.int 1, .int 9, .int 3, .int 4, .int 5]
def aboutOver (below : List Frame) : State where
  vm := { classes := classes, interned := interned.toArray }
  heap := heap
  slotsUsed := slotsUsed
  threads := #[{ frames := .invoking theMethod args0 :: below }]
def below0 : List Frame := [.native { method := ⟨0, 0⟩, args := #[] }]
def about1 : State := aboutOver below0
def p0 : Program := .bare "" "" ""
def e0 : Env := launch0.env 0 0 0
theorem w_frames : about1.frames = Frame.invoking theMethod args0 :: below0 := rfl
set_option maxRecDepth 65536 in
theorem w_args : argsFit about1.vm theMethod args0 = true := by decide +kernel
set_option maxRecDepth 65536 in
theorem w_heap : heapFits about1 = true := by decide +kernel
set_option maxRecDepth 65536 in
theorem w_runnable : about1.curStatus? = some .runnable := by decide +kernel
set_option maxRecDepth 65536 in
theorem w_alone : about1.alone = true := by decide +kernel
set_option maxRecDepth 65536 in
theorem w_named : about1.methodNamed? x = some theMethod := by decide +kernel
set_option maxRecDepth 65536 in
theorem w_hears : about1.hears theMethod below0 = true := by decide +kernel
set_option maxRecDepth 65536 in
theorem w_ripe : about1.ripe theMethod args0 below0 = true := by decide +kernel
theorem w_running : about1.status = .running := rfl
set_option maxRecDepth 65536 in
theorem w_room : about1.hasRoom e0.platform room_1 = true :=
  launch0.hasRoom_least _ room_1 (by decide +kernel) (by decide +kernel) (by decide +kernel) (by decide +kernel) (by decide +kernel) (by decide +kernel)
theorem allAtoms_all (ts : List Jvm.Cond) (a : Array Jvm.Value) (st : Jvm.State) : (allAtoms ts).before a st = ts.all (fun c => c.before a st) := by
  induction ts with
  | nil => rfl
  | cons c t ih =>
    show (Jvm.Cond.and c (allAtoms t)).before a st = _
    rw [Jvm.Cond.before_and, ih, List.all_cons]
def words1 : List Jvm.Cond := Jvm.Cond.code x code maxLocals ret :: tables_1
/-- a 'code' word, met by the world's own term for the bytes: nothing is compared byte by byte -/
theorem code_word {y : MethodName} {bytes : ByteArray} {mx : Nat} {rt : Option FieldType} {a : Array Value} {s : State} {m : MethodId} {meth : Method} {c : Code} (h1 : s.methodNamed? y = some m) (h2 : s.vm.method? m = some meth) (h3 : meth.code = some c) (h4 : c.code = bytes)
    (h5 : (c.maxLocals == mx && c.exceptionTable.isEmpty && decide (c.maxStack ≤ mostOperands) && decide (meth.sig.returnType = rt) && !meth.locks && decide (parseMethodDescriptor y.desc = some meth.sig)) = true) : (Jvm.Cond.code y bytes mx rt).before a s = true := by
  simp only [Bool.and_eq_true, beq_iff_eq, Bool.not_eq_true', decide_eq_true_eq] at h5
  obtain ⟨⟨⟨⟨⟨g1, g2⟩, g3⟩, g4⟩, g5⟩, g6⟩ := h5
  simp [Cond.before, Cond.holds, Cond.value, h1, h2, h3, h4, g1, g2, g3, g4, g5, g6]
def isCode : Jvm.Cond → Bool
  | .code _ _ _ _ => true
  | _ => false
theorem all_split {L : List Jvm.Cond} {P : Jvm.Cond → Bool} (h1 : L.all (fun c => isCode c || P c) = true) (h2 : ∀ c ∈ L.filter isCode, P c = true) : L.all P = true := by
  refine List.all_eq_true.mpr fun c hc => ?_
  have h := List.all_eq_true.mp h1 c hc
  rcases Bool.eq_false_or_eq_true (isCode c) with hi | hi
  · exact h2 c (List.mem_filter.mpr ⟨hc, hi⟩)
  · simpa [hi] using h
set_option maxRecDepth 65536 in
theorem w_c0 : (Jvm.Cond.code x code maxLocals ret).before args0 about1 = true := code_word (m := ⟨1, 1⟩) (meth := k1m1) (c := k1c1) (by decide +kernel) rfl rfl rfl (by decide +kernel)
set_option maxRecDepth 65536 in
theorem w_c1 : (Jvm.Cond.code ({ cls := "java/util/ArrayList", name := "<init>", desc := "()V" } : Jvm.MethodName) jdk_38_method_2_code (1 : Nat) (Option.none : Option Jvm.ClassFile.FieldType)).before args0 about1 = true := code_word (m := ⟨13, 0⟩) (meth := k13m0) (c := k13c0) (by decide +kernel) rfl rfl rfl (by decide +kernel)
set_option maxRecDepth 65536 in
theorem w_c2 : (Jvm.Cond.code ({ cls := "java/util/AbstractList", name := "<init>", desc := "()V" } : Jvm.MethodName) jdk_39_method_1_code (1 : Nat) (Option.none : Option Jvm.ClassFile.FieldType)).before args0 about1 = true := code_word (m := ⟨9, 0⟩) (meth := k9m0) (c := k9c0) (by decide +kernel) rfl rfl rfl (by decide +kernel)
set_option maxRecDepth 65536 in
theorem w_c3 : (Jvm.Cond.code ({ cls := "java/util/AbstractCollection", name := "<init>", desc := "()V" } : Jvm.MethodName) jdk_22_method_1_code (1 : Nat) (Option.none : Option Jvm.ClassFile.FieldType)).before args0 about1 = true := code_word (m := ⟨6, 0⟩) (meth := k6m0) (c := k6c0) (by decide +kernel) rfl rfl rfl (by decide +kernel)
set_option maxRecDepth 65536 in
theorem w_c4 : (Jvm.Cond.code ({ cls := "java/lang/Object", name := "<init>", desc := "()V" } : Jvm.MethodName) object_method_1_code (1 : Nat) (Option.none : Option Jvm.ClassFile.FieldType)).before args0 about1 = true := code_word (m := ⟨0, 0⟩) (meth := k0m0) (c := k0c0) (by decide +kernel) rfl rfl rfl (by decide +kernel)
set_option maxRecDepth 65536 in
theorem w_c5 : (Jvm.Cond.code ({ cls := "com/example/routines_in_transactions/routinesintransactions/engine/BoundRoutine$Guard", name := "<init>", desc := "(IIILjava/util/List;)V" } : Jvm.MethodName) prog_20_method_1_code (5 : Nat) (Option.none : Option Jvm.ClassFile.FieldType)).before args0 about1 = true := code_word (m := ⟨3, 0⟩) (meth := k3m0) (c := k3c0) (by decide +kernel) rfl rfl rfl (by decide +kernel)
set_option maxRecDepth 65536 in
theorem w_c6 : (Jvm.Cond.code ({ cls := "java/lang/Record", name := "<init>", desc := "()V" } : Jvm.MethodName) jdk_30_method_1_code (1 : Nat) (Option.none : Option Jvm.ClassFile.FieldType)).before args0 about1 = true := code_word (m := ⟨2, 0⟩) (meth := k2m0) (c := k2c0) (by decide +kernel) rfl rfl rfl (by decide +kernel)
set_option maxRecDepth 65536 in
theorem w_c7 : (Jvm.Cond.code ({ cls := "com/example/routines_in_transactions/routinesintransactions/engine/BoundRoutine$Guard", name := "guards", desc := "(I)Z" } : Jvm.MethodName) prog_20_method_2_code (2 : Nat) (Option.some Jvm.ClassFile.FieldType.boolean)).before args0 about1 = true := code_word (m := ⟨3, 1⟩) (meth := k3m1) (c := k3c1) (by decide +kernel) rfl rfl rfl (by decide +kernel)
def codes1 : List Jvm.Cond := [Jvm.Cond.code x code maxLocals ret, Jvm.Cond.code ({ cls := "java/util/ArrayList", name := "<init>", desc := "()V" } : Jvm.MethodName) jdk_38_method_2_code (1 : Nat) (Option.none : Option Jvm.ClassFile.FieldType), Jvm.Cond.code ({ cls := "java/util/AbstractList", name := "<init>", desc := "()V" } : Jvm.MethodName) jdk_39_method_1_code (1 : Nat) (Option.none : Option Jvm.ClassFile.FieldType), Jvm.Cond.code ({ cls := "java/util/AbstractCollection", name := "<init>", desc := "()V" } : Jvm.MethodName) jdk_22_method_1_code (1 : Nat) (Option.none : Option Jvm.ClassFile.FieldType), Jvm.Cond.code ({ cls := "java/lang/Object", name := "<init>", desc := "()V" } : Jvm.MethodName) object_method_1_code (1 : Nat) (Option.none : Option Jvm.ClassFile.FieldType), Jvm.Cond.code ({ cls := "com/example/routines_in_transactions/routinesintransactions/engine/BoundRoutine$Guard", name := "<init>", desc := "(IIILjava/util/List;)V" } : Jvm.MethodName) prog_20_method_1_code (5 : Nat) (Option.none : Option Jvm.ClassFile.FieldType), Jvm.Cond.code ({ cls := "java/lang/Record", name := "<init>", desc := "()V" } : Jvm.MethodName) jdk_30_method_1_code (1 : Nat) (Option.none : Option Jvm.ClassFile.FieldType), Jvm.Cond.code ({ cls := "com/example/routines_in_transactions/routinesintransactions/engine/BoundRoutine$Guard", name := "guards", desc := "(I)Z" } : Jvm.MethodName) prog_20_method_2_code (2 : Nat) (Option.some Jvm.ClassFile.FieldType.boolean)]
set_option maxRecDepth 65536 in
theorem codes_eq : words1.filter isCode = codes1 := rfl
theorem w_codes : ∀ c ∈ words1.filter isCode, c.before args0 about1 = true := by
  rw [codes_eq]
  intro c hc
  simp only [codes1, List.mem_cons, List.not_mem_nil, or_false] at hc
  rcases hc with rfl | rfl | rfl | rfl | rfl | rfl | rfl | rfl
  · exact w_c0
  · exact w_c1
  · exact w_c2
  · exact w_c3
  · exact w_c4
  · exact w_c5
  · exact w_c6
  · exact w_c7
set_option maxRecDepth 65536 in
theorem w_t1 : (words1.take 24).all (fun c => isCode c || c.before args0 about1) = true := by decide +kernel
set_option maxRecDepth 65536 in
theorem w_t2 : ((words1.drop 24).take 24).all (fun c => isCode c || c.before args0 about1) = true := by decide +kernel
set_option maxRecDepth 65536 in
theorem w_t3 : ((words1.drop 24).drop 24).all (fun c => isCode c || c.before args0 about1) = true := by decide +kernel
theorem w_tables : (allAtoms (Jvm.Cond.code x code maxLocals ret :: tables_1)).before args0 about1 = true := by
  rw [allAtoms_all]
  show words1.all (fun c => c.before args0 about1) = true
  refine all_split ?_ w_codes
  rw [← List.take_append_drop 24 words1, List.all_append, w_t1, ← List.take_append_drop 24 (words1.drop 24), List.all_append, w_t2, w_t3]
  rfl
set_option maxRecDepth 65536 in
theorem w_rest : rest_1_c.before args0 about1 = true := by decide +kernel
set_option maxRecDepth 65536 in
theorem w_case : (Jvm.Cond.and given_1 narrow_1).before args0 about1 = true := by decide +kernel
theorem w_applies : (headSpec (Jvm.Cond.code x code maxLocals ret :: tables_1) room_1).applies x e0.platform about1 = true :=
  (Spec.applies_iff w_frames).mpr ⟨w_running, w_runnable, w_alone, w_named, w_hears, w_ripe, w_room, w_tables⟩
theorem atStart : AtStart classFile x code maxLocals ret World_1 tables_1 room_1 Calls_1 rest_1 Pre_1 launch0 p0 e0 about1 theMethod args0 below0 :=
  ⟨lists_1, trivial, launch0.admits_env _ _ _, launch0.least_env, fairChoices_fair.cas, fairChoices_fair.clock, w_frames, w_args, w_heap, w_applies, trivial, w_rest, w_case⟩
end start1
theorem witness_1 : WitnessClaimed_1 := ⟨start1.p0, start1.e0, start1.about1, start1.theMethod, start1.args0, start1.below0, start1.atStart⟩
end Jvm.Pilot.@@N@@
